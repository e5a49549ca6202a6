import PyProof.Rows.All
import PyProof.AttrMiss
import PyProof.EnumMake
import PyProof.ZipIter
import KE.KDictOf
import Wide.FinOn
import OpenK.AllK
import Wide.All
import PySem.Challenge.RW_tc0041_01
set_option Elab.async false
set_option linter.all false
set_option tactic.hygienic false
set_option backward.eqns.nonrecursive false
set_option backward.match.sparseCases false
section
open PySem PySem.W PyProof.Rows
set_option maxRecDepth 100000
set_option maxHeartbeats 8000000
noncomputable section
namespace Mine
noncomputable def enD(P:Params)(x:Str)(t:Tok)(v:Value):DictEntry:=⟨PyData.keyHash P x,.str x t,v⟩
noncomputable def KF1(P:Params):Frag:=[(3,⟨.type "dict",none,.dict #[enD P "__name__" 165 (.str ("law_tc0041_01") 487),enD P "__doc__" 166 (.none),enD P "__package__" 167 (.none),enD P "__loader__" 168 (.builtin "__main__.__loader__#opaque"),enD P "__spec__" 169 (.none),enD P "__annotations__" 170 (.ref 6),enD P "__builtins__" 171 (.ref 4),enD P "__file__" 173 (.str ("/claim/cut.py") 172),enD P "__cached__" 174 (.none),enD P "_MAX_STRING_SIZE" 190 (.int 40 189),enD P "_MOVE_COST" 192 (.int 2 191),enD P "_CASE_COST" 194 (.int 1 193),enD P "_substitution_cost" 202 (.ref 21),enD P "_levenshtein_distance" 222 (.ref 28),enD P "ENDMARKER" 226 (.int 0 225),enD P "LPAR" 228 (.int 7 227),enD P "RPAR" 230 (.int 8 229),enD P "LSQB" 232 (.int 9 231),enD P "RSQB" 234 (.int 10 233),enD P "COLON" 236 (.int 11 235),enD P "COMMA" 238 (.int 12 237),enD P "SEMI" 240 (.int 13 239),enD P "PLUS" 242 (.int 14 241),enD P "MINUS" 244 (.int 15 243),enD P "STAR" 246 (.int 16 245),enD P "SLASH" 248 (.int 17 247),enD P "VBAR" 250 (.int 18 249),enD P "AMPER" 252 (.int 19 251),enD P "LESS" 254 (.int 20 253),enD P "GREATER" 256 (.int 21 255),enD P "EQUAL" 258 (.int 22 257),enD P "DOT" 260 (.int 23 259),enD P "PERCENT" 262 (.int 24 261),enD P "LBRACE" 264 (.int 25 263),enD P "RBRACE" 266 (.int 26 265),enD P "EQEQUAL" 268 (.int 27 267),enD P "NOTEQUAL" 270 (.int 28 269),enD P "LESSEQUAL" 272 (.int 29 271),enD P "GREATEREQUAL" 274 (.int 30 273),enD P "TILDE" 276 (.int 31 275),enD P "CIRCUMFLEX" 278 (.int 32 277),enD P "LEFTSHIFT" 280 (.int 33 279),enD P "RIGHTSHIFT" 282 (.int 34 281),enD P "DOUBLESTAR" 284 (.int 35 283),enD P "PLUSEQUAL" 286 (.int 36 285),enD P "MINEQUAL" 288 (.int 37 287),enD P "STAREQUAL" 290 (.int 38 289),enD P "SLASHEQUAL" 292 (.int 39 291),enD P "PERCENTEQUAL" 294 (.int 40 293),enD P "AMPEREQUAL" 296 (.int 41 295),enD P "VBAREQUAL" 298 (.int 42 297),enD P "CIRCUMFLEXEQUAL" 300 (.int 43 299),enD P "LEFTSHIFTEQUAL" 302 (.int 44 301),enD P "RIGHTSHIFTEQUAL" 304 (.int 45 303),enD P "DOUBLESTAREQUAL" 306 (.int 46 305),enD P "DOUBLESLASH" 308 (.int 47 307),enD P "DOUBLESLASHEQUAL" 310 (.int 48 309),enD P "AT" 312 (.int 49 311),enD P "ATEQUAL" 314 (.int 50 313),enD P "RARROW" 316 (.int 51 315),enD P "ELLIPSIS" 318 (.int 52 317),enD P "COLONEQUAL" 320 (.int 53 319),enD P "EXCLAMATION" 322 (.int 54 321),enD P "NT_OFFSET" 324 (.int 256 323),enD P "EXACT_TOKEN_TYPES" 421 (.ref 29),enD P "ISTERMINAL" 428 (.ref 38),enD P "ISNONTERMINAL" 435 (.ref 45),enD P "ISEOF" 442 (.ref 52),enD P "_raise_serialization_error" 451 (.ref 59),enD P "_escape_cdata" 458 (.ref 66),enD P "_escape_attrib" 465 (.ref 73),enD P "_escape_attrib_html" 472 (.ref 80),enD P "_escape_cdata_c14n" 479 (.ref 87),enD P "_escape_attrib_c14n" 486 (.ref 94),enD P "_law_signs" 497 (.ref 101),enD P "_law_hand" 503 (.ref 106),enD P "_law_made" 512 (.ref 113),enD P "_law_grammar" 527 (.ref 120),enD P "_law_rows" 533 (.ref 125),enD P "_law_price" 548 (.ref 132),enD P "law" 554 (.ref 137)] 81,#[]⟩),
 (29,⟨.type "dict",none,.dict #[enD P "!" 325 (.int 54 321),enD P "!=" 327 (.int 28 269),enD P "%" 329 (.int 24 261),enD P "%=" 331 (.int 40 293),enD P "&" 333 (.int 19 251),enD P "&=" 335 (.int 41 295),enD P "(" 337 (.int 7 227),enD P ")" 339 (.int 8 229),enD P "*" 341 (.int 16 245),enD P "**" 343 (.int 35 283),enD P "**=" 345 (.int 46 305),enD P "*=" 347 (.int 38 289),enD P "+" 349 (.int 14 241),enD P "+=" 351 (.int 36 285),enD P "," 353 (.int 12 237),enD P "-" 355 (.int 15 243),enD P "-=" 357 (.int 37 287),enD P "->" 359 (.int 51 315),enD P "." 361 (.int 23 259),enD P "..." 363 (.int 52 317),enD P "/" 365 (.int 17 247),enD P "//" 367 (.int 47 307),enD P "//=" 369 (.int 48 309),enD P "/=" 371 (.int 39 291),enD P ":" 373 (.int 11 235),enD P ":=" 375 (.int 53 319),enD P ";" 377 (.int 13 239),enD P "<" 379 (.int 20 253),enD P "<<" 381 (.int 33 279),enD P "<<=" 383 (.int 44 301),enD P "<=" 385 (.int 29 271),enD P "=" 387 (.int 22 257),enD P "==" 389 (.int 27 267),enD P ">" 391 (.int 21 255),enD P ">=" 393 (.int 30 273),enD P ">>" 394 (.int 34 281),enD P ">>=" 395 (.int 45 303),enD P "@" 396 (.int 49 311),enD P "@=" 397 (.int 50 313),enD P "[" 398 (.int 9 231),enD P "]" 399 (.int 10 233),enD P "^" 400 (.int 32 277),enD P "^=" 401 (.int 43 299),enD P "{" 402 (.int 25 263),enD P "|" 403 (.int 18 249),enD P "|=" 404 (.int 42 297),enD P "}" 405 (.int 26 265),enD P "~" 406 (.int 31 275)] 48,#[]⟩)]
abbrev rr1:OpenRow:=PySem.Challenge.rw_tc0041_01.row
noncomputable def isNmS:Stmt→Bool
 |.Assign [.Name x _] _ _=>x == "__name__"
 |_=>false
noncomputable def vw1:Program:=view rr1.prog ((List.range 76).filter fun i=>(rr1.prog.main.body[i]?).all fun s=>!isNmS s)
abbrev H1:Hook:=kHook KF1 [3,29] (fun ζ=>by kernel_rfl)
def Zk(w:World):Prop:=(openEnds treeTable rr1.prog w 4202).map (fun s=>(openSeen vw1 [Str.ofString "EXACT_TOKEN_TYPES"] (importedModules rr1.prog.main.body) (fun s=>xlAt vw1 [] s && recOk rr1.records s) true s,H1.obs s))=some (openGood vw1 [Str.ofString "EXACT_TOKEN_TYPES"],H1.val w)
theorem Ae9(w:World):Zk (w.withFollow "special-get-raises" false):=by
 unfold Zk openEnds fencedOpening topFrom
 rw [PySem.W.Fast.te4187177175401517315,PySem.W.Fast.te5923862056798008813,PySem.W.Fast.te14364793385576792824,PySem.W.Fast.te10274390034422433532,PySem.W.Fast.te1435165496053646825,PySem.W.Fast.te14289696077712309145,PySem.W.Fast.te14082659384304107361,PySem.W.Fast.te8920871248978507458]
 kernel_rfl
theorem Ae8(w:World):Zk (w.withFollow "special-get-raises" true):=by
 unfold Zk openEnds fencedOpening topFrom
 rw [PySem.W.Fast.te4187177175401517315,PySem.W.Fast.te5923862056798008813,PySem.W.Fast.te14364793385576792824,PySem.W.Fast.te10274390034422433532,PySem.W.Fast.te1435165496053646825,PySem.W.Fast.te14289696077712309145,PySem.W.Fast.te14082659384304107361,PySem.W.Fast.te8920871248978507458]
 kernel_rfl
theorem left1:LeftO rr1.prog vw1 [Str.ofString "EXACT_TOKEN_TYPES"] (fun s=>xlAt vw1 [] s && recOk rr1.records s) H1.obs H1.val 4202:=
 fun w=>byRow2 (P:=Zk) "special-get-raises" Ae9 Ae8 w
end Mine
end
section
set_option genSizeOf false
namespace Mine
inductive D where
 |none | bool (b:Bool) | int (i:Int) | str (s:List Nat) | Ahj (s:List Nat) | fn (a:Nat)
 |list (xs:List D) | Ahm (xs:List D) | tup (xs:List D) | rng (a b c:Int)
 |Ahe (es:List (Int×D)) | Ahf (es:List (List Nat×D))
 deriving Inhabited
inductive Ex2{α₀ α₁:Type}(p:α₀→α₁→Prop):Prop
 |mk (x₀:α₀) (x₁:α₁) (h:p x₀ x₁):Ex2 p
inductive Ex3{α₀ α₁ α₂:Type}(p:α₀→α₁→α₂→Prop):Prop
 |mk (x₀:α₀) (x₁:α₁) (x₂:α₂) (h:p x₀ x₁ x₂):Ex3 p
inductive Ex4{α₀ α₁ α₂ α₃:Type}(p:α₀→α₁→α₂→α₃→Prop):Prop
 |mk (x₀:α₀) (x₁:α₁) (x₂:α₂) (x₃:α₃) (h:p x₀ x₁ x₂ x₃):Ex4 p
inductive Ex5{α₀ α₁ α₂ α₃ α₄:Type}(p:α₀→α₁→α₂→α₃→α₄→Prop):Prop
 |mk (x₀:α₀) (x₁:α₁) (x₂:α₂) (x₃:α₃) (x₄:α₄) (h:p x₀ x₁ x₂ x₃ x₄):Ex5 p
inductive Ex6{α₀ α₁ α₂ α₃ α₄ α₅:Type}(p:α₀→α₁→α₂→α₃→α₄→α₅→Prop):Prop
 |mk (x₀:α₀) (x₁:α₁) (x₂:α₂) (x₃:α₃) (x₄:α₄) (x₅:α₅) (h:p x₀ x₁ x₂ x₃ x₄ x₅):Ex6 p
inductive Ex10{α₀ α₁ α₂ α₃ α₄ α₅ α₆ α₇ α₈ α₉:Type}(p:α₀→α₁→α₂→α₃→α₄→α₅→α₆→α₇→α₈→α₉→Prop):Prop
 |mk (x₀:α₀) (x₁:α₁) (x₂:α₂) (x₃:α₃) (x₄:α₄) (x₅:α₅) (x₆:α₆) (x₇:α₇) (x₈:α₈) (x₉:α₉) (h:p x₀ x₁ x₂ x₃ x₄ x₅ x₆ x₇ x₈ x₉):Ex10 p
inductive And3(p₀ p₁ p₂:Prop):Prop
 |mk (h₀:p₀) (h₁:p₁) (h₂:p₂):And3 p₀ p₁ p₂
inductive And4(p₀ p₁ p₂ p₃:Prop):Prop
 |mk (h₀:p₀) (h₁:p₁) (h₂:p₂) (h₃:p₃):And4 p₀ p₁ p₂ p₃
inductive And5(p₀ p₁ p₂ p₃ p₄:Prop):Prop
 |mk (h₀:p₀) (h₁:p₁) (h₂:p₂) (h₃:p₃) (h₄:p₄):And5 p₀ p₁ p₂ p₃ p₄
inductive And6(p₀ p₁ p₂ p₃ p₄ p₅:Prop):Prop
 |mk (h₀:p₀) (h₁:p₁) (h₂:p₂) (h₃:p₃) (h₄:p₄) (h₅:p₅):And6 p₀ p₁ p₂ p₃ p₄ p₅
inductive Own where | sh | own | bor
 deriving DecidableEq
abbrev Slot:=Own×D
abbrev St:=List (Option Slot)
noncomputable def St.get(σ:St)(i:Nat):Option Slot:=(σ[i]?).join
noncomputable def St.put(σ:St)(i:Nat)(s:Slot):St:=List.set σ i (some s)
noncomputable def St.del(σ:St)(i:Nat):St:=List.set σ i Option.none
inductive Op where | add | sub | mul | fdiv | mod | pow | band
inductive Cmp where | eq | ne | lt | le | gt | ge | isIn | notIn | isNot
inductive Bi where | len | range | list | min | max | sum | sorted | Ahn | isBool | isInt
inductive Mt where | lower | upper | split | join | index | get
inductive Tg where
 |v (i:Nat) | t (xs:List Nat)
set_option genInjectivity false in
inductive E where
 |lit (d:D) | Ahi (s:List Nat) | var (i:Nat) | glob (d:D)
 |bin (o:Op) (l r:E) | neg (e:E) | not (e:E) | and (es:List E) | or (es:List E) | orv (l r:E)
 |ite (t b o:E) | cmp (o:Cmp) (l r:E)
 |list (es:List E) | tup (es:List E) | Ahr
 |call (f:E) (args:List E) (io:Bool)
 |bi (b:Bi) (args:List E) | meth (m:Mt) (o:E) (args:List E)
 |repl (o old:E) (w:List Nat)
 |idx (o i:E) | Ahu (o i:E) | slc (o:E) (l u:Option E) (rev:Bool)
 |comp (elt:E) (gs:List (Tg×E×List E)) | Ah1 (k v:E) (g:Tg×E)
 |enum (e:E)
set_option genInjectivity false in
inductive S where
 |app (x:Nat) (e:E) | ext (x:Nat) (e:E)
 |asg (x:Nat) (e:E) | asg2 (x y:Nat) (e:E) | Ah0 (xs:List Nat) (e:E)
 |Ahs (xs:List Nat) (es:List E)
 |swp (x:Nat) (is:List E) (es:List E)
 |put (x:Nat) (i e:E) | aug (o:Op) (x:Nat) (e:E) | Ahq (o:Op) (x:Nat) (i e:E)
 |ite (t:E) (b o:List S) | whl (t:E) (b:List S) | for (tg:Tg) (it:E) (b:List S)
 |ret (e:E) | Aht (b:List S)
inductive Fl where
 |next | ret (d:D)
noncomputable def line:Nat:=2 ^ 20
noncomputable def sml(i:Int):Bool:=decide (i.natAbs<2 ^ 63)
noncomputable def E3(i:Int):Bool:=decide (i.natAbs<2 ^ 40)
noncomputable def L6:D→Option (List Nat)
 |.str s=>some s
 |_=>Option.none
noncomputable def Re:D→Option (List D)
 |.list l=>some l
 |_=>Option.none
noncomputable def Rm:D→Option Int
 |.int i=>some i
 |_=>Option.none
noncomputable def A1:List D→Option (List Int)
 |[]=>some []
 |d :: r=>(Rm d).bind fun i=>(A1 r).map (i :: ·)
noncomputable def F1:List D→Option (List (List Nat))
 |[]=>some []
 |d :: r=>(L6 d).bind fun i=>(F1 r).map (i :: ·)
noncomputable def Hm:List D→Option (List (List Int))
 |[]=>some []
 |d :: r=>(Re d).bind fun l=>(A1 l).bind fun i=>(Hm r).map (i :: ·)
noncomputable def reps{α:Type}(n:Nat)(l:List α):List α:=(List.replicate n l).flatten
noncomputable def G5{α:Type}(a b:D)(f:Int→Int→Option α):Option α:=match a with
 |.int x=>(match b with
  |.int y=>f x y
  |_=>Option.none)
 |_=>Option.none
@[simp] theorem Xz{α:Type}{x y:Int}{f:Int→Int→Option α}:G5 (.int x) (.int y) f=f x y:=rfl
noncomputable def Agv(a b:D):Option D:=match a with
 |.int x=>(match b with
  |.int y=>some (.int (x+y))
  |_=>Option.none)
 |.str x=>(match b with
  |.str y=>if x.length+y.length≤line then some (.str (x++y)) else Option.none
  |_=>Option.none)
 |.list x=>(match b with
  |.list y=>if x.length+y.length≤line then some (.list (x++y)) else Option.none
  |_=>Option.none)
 |.tup x=>(match b with
  |.tup y=>if x.length+y.length≤line∧0<x.length∧0<y.length then some (.tup (x++y)) else Option.none
  |_=>Option.none)
 |_=>Option.none
@[simp] theorem addD_str{x y:List Nat}:Agv (.str x) (.str y)=if x.length+y.length≤line then some (.str (x++y)) else Option.none:=rfl
@[simp] theorem Jn{x y:List D}:Agv (.list x) (.list y)=if x.length+y.length≤line then some (.list (x++y)) else Option.none:=rfl
noncomputable def Ae5(a b:D):Option D:=match b with
 |.int n=>(match a with
  |.int x=>if sml x && sml n then some (.int (x * n)) else Option.none
  |.str x=>if sml n && decide (x.length * n.toNat≤line) then some (.str (reps n.toNat x)) else Option.none
  |.list x=>if sml n && decide (x.length * n.toNat≤line) then some (.list (reps n.toNat x)) else Option.none
  |_=>Option.none)
 |_=>Option.none
@[simp] theorem mulD_int{x y:Int}:Ae5 (.int x) (.int y)=if sml x && sml y then some (.int (x * y)) else Option.none:=rfl
@[simp] theorem mulD_str{x:List Nat}{n:Int}:Ae5 (.str x) (.int n)=if sml n && decide (x.length * n.toNat≤line) then some (.str (reps n.toNat x)) else Option.none:=rfl
noncomputable def A3(o:Op)(a b:D):Option D:=match o with
 |.add=>Agv a b
 |.sub=>G5 a b fun a b=>some (.int (a - b))
 |.mul=>Ae5 a b
 |.fdiv=>G5 a b fun a b=>if sml a && sml b && decide (b≠0) then some (.int (a.fdiv b)) else Option.none
 |.mod=>G5 a b fun a b=>if decide (b≠0) then some (.int (a.fmod b)) else Option.none
 |.pow=>G5 a b fun a b=>if sml a && decide (0≤b) && decide (b≤1000) then some (.int (a ^ b.toNat)) else Option.none
 |.band=>G5 a b fun a b=>if decide (0≤a) && decide (0≤b) then some (.int ((a.toNat &&& b.toNat:Nat):Int)) else Option.none
noncomputable def eqD(a b:D):Option Bool:=match a with
 |.int x=>(match b with
  |.int y=>some (decide (x=y))
  |_=>Option.none)
 |.str x=>(match b with
  |.str y=>some (x == y)
  |_=>Option.none)
 |.bool x=>(match b with
  |.bool y=>some (x == y)
  |_=>Option.none)
 |.list x=>(match b with
  |.list y=>(match y with
   |[]=>some x.isEmpty
   |_ :: _=>(A1 x).bind fun u=>(A1 y).map fun v=>u == v)
  |_=>Option.none)
 |_=>Option.none
@[simp] theorem eqD_nil{x:List D}:eqD (.list x) (.list [])=some x.isEmpty:=rfl
noncomputable def inD(a b:D):Option Bool:=match a with
 |.str x=>(match x with
  |[c]=>(match b with
   |.str y=>some (y.contains c)
   |_=>Option.none)
  |_=>Option.none)
 |.int x=>(match b with
  |.list y=>(A1 y).map fun l=>l.contains x
  |_=>Option.none)
 |_=>Option.none
@[simp] theorem inD_str{c:Nat}{y:List Nat}:inD (.str [c]) (.str y)=some (y.contains c):=rfl
@[simp] theorem Aa3{x:Int}{y:List D}:inD (.int x) (.list y)=(A1 y).map fun l=>l.contains x:=rfl
noncomputable def Xf(a b:D):Option Bool:=match a with
 |.list x=>(match b with
  |.list y=>(A1 x).bind fun u=>(Hm y).map fun v=>!v.contains u
  |_=>Option.none)
 |_=>Option.none
noncomputable def C3(o:Cmp)(a b:D):Option Bool:=match o with
 |.eq=>eqD a b
 |.ne=>(eqD a b).map (!·)
 |.lt=>G5 a b fun a b=>some (decide (a<b))
 |.le=>G5 a b fun a b=>some (decide (a≤b))
 |.gt=>G5 a b fun a b=>some (decide (b<a))
 |.ge=>G5 a b fun a b=>some (decide (b≤a))
 |.isIn=>inD a b
 |.notIn=>Xf a b
 |.isNot=>(match a with
  |.bool x=>(match b with
   |.bool y=>some (!(x == y))
   |_=>Option.none)
  |_=>Option.none)
noncomputable def G3:D→Option Bool
 |.bool b=>some b
 |.int i=>some (decide (i≠0))
 |.str s=>some (!s.isEmpty)
 |.none=>some false
 |_=>Option.none
noncomputable def Cg{α β:Type}[DecidableEq α](es:List (α×β))(k:α)(v:β):List (α×β):=
 if es.any (fun e=>e.1=k) then es.map (fun e=>if e.1=k then (e.1,v) else e) else es++[(k,v)]
noncomputable def Be{α β:Type}[DecidableEq α](es:List (α×β))(k:α):Option β:=(es.find? fun e=>e.1=k).map (·.2)
noncomputable def nth{α:Type}(xs:List α)(i:Int):Option α:=
 if 0≤i then xs[i.toNat]? else if -(xs.length:Int)≤i then xs[(i+xs.length).toNat]? else Option.none
noncomputable def Ar(o i:D):Option D:=match o with
 |.list xs=>(match i with
  |.int i=>if sml i then nth xs i else Option.none
  |_=>Option.none)
 |.tup xs=>(match i with
  |.int i=>if sml i then nth xs i else Option.none
  |_=>Option.none)
 |.str xs=>(match i with
  |.int i=>if sml i then (nth xs i).map fun c=>.str [c] else Option.none
  |_=>Option.none)
 |.Ahe es=>(match i with
  |.int k=>Be es k
  |_=>Option.none)
 |.Ahf es=>(match i with
  |.str k=>Be es k
  |_=>Option.none)
 |_=>Option.none
noncomputable def bnd(n:Nat)(dflt:Nat):Option Int→Nat
 |Option.none=>dflt
 |some i=>if 0≤i then Nat.min i.toNat n else (i+n).toNat
noncomputable def cut{α:Type}(xs:List α)(l u:Option Int):List α:=
 (xs.take (bnd xs.length xs.length u)).drop (bnd xs.length 0 l)
noncomputable def Xc:D→Option (Option Int)
 |.none=>some Option.none
 |.int i=>if sml i then some (some i) else Option.none
 |_=>Option.none
noncomputable def Z7(d:D)(l u:Option Int):Option D:=match d with
 |.list xs=>some (.list (cut xs l u))
 |.Ahm xs=>some (.list (cut xs l u))
 |.str xs=>some (.str (cut xs l u))
 |_=>Option.none
noncomputable def Aep(d:D):Option D:=match d with
 |.list xs=>some (.list xs.reverse)
 |_=>Option.none
noncomputable def Em(d l u:D)(rev:Bool):Option D:=(Xc l).bind fun l=>(Xc u).bind fun u=>match rev with
 |false=>Z7 d l u
 |true=>if l.isNone && u.isNone then Aep d else Option.none
noncomputable def rsz(a b c:Int):Int:=
 if c > 0 then (if a<b then (b - a - 1) / c+1 else 0) else (if a > b then (a - b - 1) / (-c)+1 else 0)
noncomputable def Bx(a b c:Int):List Int:=(List.range (rsz a b c).toNat).map fun k:Nat=>a+(k:Int) * c
noncomputable def Hy:Int→List Int→Int
 |a,[]=>a
 |a,b :: r=>Hy (if b<a then b else a) r
noncomputable def sumL(l:List Int):Int:=l.sum
noncomputable def Mb(a:Int):List Int→List Int
 |[]=>[a]
 |b :: r=>if a<b then a :: b :: r else b :: Mb a r
noncomputable def O4(l:List Int):List Int:=l.foldl (fun r a=>Mb a r) []
noncomputable def Fy(c:Nat):Nat:=if 65≤c∧c≤90 then c+32 else c
noncomputable def Ot(c:Nat):Nat:=if 97≤c∧c≤122 then c - 32 else c
noncomputable def ascii(s:List Nat):Bool:=s.all (· < 128)
noncomputable def one{α:Type}(ds:List D)(f:D→Option α):Option α:=match ds with
 |[]=>Option.none
 |a :: r=>(match r with
  |[]=>f a
  |_ :: _=>Option.none)
@[simp] theorem Gk{α:Type}{a:D}{f:D→Option α}:one [a] f=f a:=rfl
noncomputable def two{α:Type}(ds:List D)(f:D→D→Option α):Option α:=match ds with
 |[]=>Option.none
 |a :: r=>one r (f a)
@[simp] theorem Sh{α:Type}{a b:D}{f:D→D→Option α}:two [a,b] f=f a b:=rfl
noncomputable def lenD(a:D):Option D:=match a with
 |.str s=>some (.int s.length)
 |.list s=>some (.int s.length)
 |_=>Option.none
noncomputable def Ms{α:Type}(a:D)(f:List D→Option α):Option α:=match a with
 |.list xs=>f xs
 |_=>Option.none
@[simp] theorem Ej{α:Type}{xs:List D}{f:List D→Option α}:Ms (.list xs) f=f xs:=rfl
noncomputable def Nu(ds:List D):Option D:=match ds with
 |[]=>Option.none
 |a :: r=>(match r with
  |[]=>(match a with
   |.int b=>if sml b then some (.rng 0 b 1) else Option.none
   |_=>Option.none)
  |b :: r=>(match r with
   |[]=>G5 a b fun a b=>if sml a && sml b then some (.rng a b 1) else Option.none
   |c :: r=>(match r with
    |[]=>G5 a b fun a b=>(match c with
     |.int c=>if sml a && sml b && sml c && decide (c≠0) then some (.rng a b c) else Option.none
     |_=>Option.none)
    |_ :: _=>Option.none)))
@[simp] theorem Pb{b:Int}:Nu [.int b]=if sml b then some (.rng 0 b 1) else Option.none:=rfl
@[simp] theorem Ky{a b c:Int}:Nu [.int a,.int b,.int c]=if sml a && sml b && sml c && decide (c≠0) then some (.rng a b c) else Option.none:=rfl
noncomputable def Ae6(xs:List D):Option D:=(A1 xs).bind fun l=>match l with
 |a :: r=>some (.int (Hy a r))
 |[]=>Option.none
noncomputable def S8(a:D):Option D:=match a with
 |.bool _=>some (.bool true)
 |.int _=>some (.bool false)
 |_=>Option.none
noncomputable def Xw(a:D):Option D:=match a with
 |.bool _=>some (.bool true)
 |.int _=>some (.bool true)
 |_=>Option.none
noncomputable def biD(b:Bi)(ds:List D):Option D:=match b with
 |.len=>one ds lenD
 |.range=>Nu ds
 |.list=>one ds fun a=>match a with
  |.rng a b c=>if (E3 a && E3 b && E3 c && decide (c≠0))=true∧(Bx a b c).length≤line then some (.list ((Bx a b c).map .int)) else Option.none
  |_=>Option.none
 |.min=>(match ds with
  |[]=>Option.none
  |a :: r=>(match r with
   |[]=>Ms a Ae6
   |_ :: _=>one r fun b=>G5 a b fun a b=>some (.int (if b<a then b else a))))
 |.max=>two ds fun a b=>G5 a b fun a b=>some (.int (if a<b then b else a))
 |.sum=>one ds fun a=>Ms a fun xs=>(A1 xs).map fun l=>.int (sumL l)
 |.sorted=>one ds fun a=>Ms a fun xs=>(A1 xs).bind fun l=>if l.length≤8 then some (.list ((O4 l).map .int)) else Option.none
 |.Ahn=>two ds fun a b=>match a with
  |.str s=>(match b with
   |.tup xs=>if s.length=xs.length∧s.length≤16∧s.eraseDups.length=s.length then
     some (.Ahf ((s.map fun c=>[c]).zip xs)) else Option.none
   |_=>Option.none)
  |_=>Option.none
 |.isBool=>one ds S8
 |.isInt=>one ds Xw
noncomputable def A6(c:Nat)(w:List Nat)(s:List Nat):List Nat:=s.flatMap fun x=>if x=c then w else [x]
noncomputable def A2(sep:List Nat):List Nat→List Nat→Nat→List (List Nat)
 |[],acc,_=>[acc.reverse]
 |_ :: r,acc,k+1=>A2 sep r acc k
 |c :: r,acc,0=>if sep.isPrefixOf (c :: r) then acc.reverse :: A2 sep r [] (sep.length - 1) else A2 sep r (c :: acc) 0
theorem Dq{sep r acc:List Nat}{c:Nat}:A2 sep (c :: r) acc 0=if sep.isPrefixOf (c :: r) then acc.reverse :: A2 sep r [] (sep.length - 1) else A2 sep r (c :: acc) 0:=rfl
theorem I4{sep r acc:List Nat}{c k:Nat}:A2 sep (c :: r) acc (k+1)=A2 sep r acc k:=rfl
theorem Gi{sep acc:List Nat}{k:Nat}:A2 sep [] acc k=[acc.reverse]:=rfl
noncomputable def A4(sep:List Nat):List (List Nat)→List Nat
 |[]=>[]
 |[a]=>a
 |a :: b :: r=>a++sep++A4 sep (b :: r)
noncomputable def Df{α:Type}[BEq α](a:α):List α→Option Nat
 |[]=>Option.none
 |b :: r=>if b == a then some 0 else (Df a r).map (·+1)
noncomputable def F4{α:Type}(a:D)(f:List Nat→Option α):Option α:=match a with
 |.str s=>f s
 |_=>Option.none
@[simp] theorem Gn{α:Type}{s:List Nat}{f:List Nat→Option α}:F4 (.str s) f=f s:=rfl
noncomputable def Y4(ds:List D)(f:Nat→Nat)(s:List Nat):Option D:=match ds with
 |[]=>if ascii s && decide (s.length≤line) then some (.str (s.map f)) else Option.none
 |_ :: _=>Option.none
@[simp] theorem Vd{f:Nat→Nat}{s:List Nat}:Y4 [] f s=if ascii s && decide (s.length≤line) then some (.str (s.map f)) else Option.none:=rfl
noncomputable def V3(s p:List Nat):Option D:=match p with
 |[]=>Option.none
 |c :: r=>if s.length≤4096∧(c :: r).all (· < 256)=true then some (.list ((A2 (c :: r) s [] 0).map .str)) else Option.none
@[simp] theorem O2{s r:List Nat}{c:Nat}:V3 s (c :: r)=if s.length≤4096∧(c :: r).all (· < 256)=true then some (.list ((A2 (c :: r) s [] 0).map .str)) else Option.none:=rfl
noncomputable def N7(s p:List Nat):Option D:=match p with
 |[]=>Option.none
 |c :: r=>(match r with
  |[]=>(Df c s).map fun k:Nat=>D.int k
  |_ :: _=>Option.none)
@[simp] theorem Rn{s:List Nat}{c:Nat}:N7 s [c]=(Df c s).map fun k:Nat=>D.int k:=rfl
noncomputable def N8(xs:List D)(a:D):Option D:=match a with
 |.int a=>(A1 xs).bind fun l=>(Df a l).map fun k:Nat=>D.int k
 |.list a=>(Hm xs).bind fun l=>(A1 a).bind fun x=>(Df x l).map fun k:Nat=>D.int k
 |_=>Option.none
@[simp] theorem Afh{xs:List D}{a:Int}:N8 xs (.int a)=(A1 xs).bind fun l=>(Df a l).map fun k:Nat=>D.int k:=rfl
noncomputable def Rq(o a:D):Option D:=match o with
 |.str s=>F4 a (N7 s)
 |.list xs=>N8 xs a
 |_=>Option.none
@[simp] theorem Rp{s:List Nat}{a:D}:Rq (.str s) a=F4 a (N7 s):=rfl
@[simp] theorem Adk{xs:List D}{a:D}:Rq (.list xs) a=N8 xs a:=rfl
noncomputable def Adn(o k d:D):Option D:=match o with
 |.Ahf es=>F4 k fun k=>some ((Be es k).getD d)
 |_=>Option.none
@[simp] theorem Te{es:List (List Nat×D)}{k:List Nat}{d:D}:Adn (.Ahf es) (.str k) d=some ((Be es k).getD d):=rfl
noncomputable def Bw(m:Mt)(o:D)(ds:List D):Option D:=match m with
 |.lower=>F4 o (Y4 ds Fy)
 |.upper=>F4 o (Y4 ds Ot)
 |.split=>F4 o fun s=>one ds fun a=>F4 a (V3 s)
 |.join=>F4 o fun s=>one ds fun a=>Ms a fun xs=>(F1 xs).bind fun l=>if (A4 s l).length≤line then some (.str (A4 s l)) else Option.none
 |.index=>one ds (Rq o)
 |.get=>two ds (Adn o)
noncomputable def kd:D→Nat
 |.str _=>1
 |.list _=>2
 |.Ahf _=>3
 |_=>0
noncomputable def Fn:D→Option (List D)
 |.list xs=>some xs
 |.tup xs=>some xs
 |.str s=>if ascii s then some (s.map fun c=>.str [c]) else Option.none
 |.rng a b c=>if E3 a && E3 b && E3 c && decide (c≠0) then some ((Bx a b c).map .int) else Option.none
 |_=>Option.none
noncomputable def Iq:Nat→List D→List D
 |_,[]=>[]
 |k,d :: r=>.tup [.int k,d] :: Iq (k+1) r
noncomputable def D0(o k v:D):Option D:=match o with
 |.list xs=>match k with
  |.int i=>if sml i && decide (0≤i) && decide (i<xs.length) then some (.list (xs.set i.toNat v)) else Option.none
  |_=>Option.none
 |.Ahe es=>match k with
  |.int k=>if es.length≤4096 then some (.Ahe (Cg es k v)) else Option.none
  |_=>Option.none
 |_=>Option.none
noncomputable def Pm:D→Option D
 |.int i=>some (.int (-i))
 |_=>Option.none
noncomputable def fnA:D→Option Nat
 |.fn a=>some a
 |_=>Option.none
noncomputable def Si:D→Option Nat
 |.Ahj [c]=>some c
 |_=>Option.none
noncomputable def Kx(σ:St)(i:Nat):Option Slot→Option (D×St)
 |some (.sh,d)=>some (d,σ)
 |some (.own,d)=>some (d,σ.put i (.sh,d))
 |_=>Option.none
noncomputable def noO:Option (Own×D×St)→Option (D×St)
 |some (_,d,σ)=>some (d,σ)
 |Option.none=>Option.none
noncomputable def shO:Option (D×St)→Option (Own×D×St)
 |some (d,σ)=>some (.sh,d,σ)
 |Option.none=>Option.none
noncomputable def V7:Option Slot→Option D
 |some (.sh,d)=>some d
 |_=>Option.none
noncomputable def Ey:Option Slot→Option D
 |some (.own,d)=>some d
 |_=>Option.none
noncomputable def Ii:Option Slot→Bool
 |some (_,.list _)=>true
 |_=>false
noncomputable def Iv(σ:St)(x:Nat)(d:D):Option Slot→Option (Fl×St)
 |some (.sh,_)=>Option.none
 |some (o,.list xs)=>if xs.length<line then some (.next,σ.put x (o,.list (xs++[d]))) else Option.none
 |_=>Option.none
noncomputable def Kg(σ:St)(x:Nat)(ys:List D):Option Slot→Option (Fl×St)
 |some (.sh,_)=>Option.none
 |some (o,.list xs)=>if xs.length+ys.length≤line then some (.next,σ.put x (o,.list (xs++ys))) else Option.none
 |_=>Option.none
noncomputable def lend(e:E)(σ:St):Option (List Slot×St):=match e with
 |.var i=>(Ey (σ.get i)).map fun d=>([(.bor,d)],σ)
 |_=>Option.none
set_option genInjectivity false in
structure Ahc where
 np:Nat
 nv:Nat
 body:List S
set_option genInjectivity false in
structure Ahl where
 ev:E→St→Option (D×St)
 evO:E→St→Option (Own×D×St)
 evT:E→St→Option (Bool×St)
 call:Nat→List Slot→Option (D×Option Slot)
 ex:S→St→Option (Fl×St)
noncomputable def nil:Ahl:=⟨fun ζ ζ=>Option.none,fun ζ ζ=>Option.none,fun ζ ζ=>Option.none,fun ζ ζ=>Option.none,fun ζ ζ=>Option.none⟩
section
variable (F:Ahl)
noncomputable def evs:List E→St→Option (List D×St)
 |[],σ=>some ([],σ)
 |e :: r,σ=>(F.ev e σ).bind fun p=>(evs r p.2).map fun q=>(p.1 :: q.1,q.2)
noncomputable def Ln:List E→St→Option (List Slot×St)
 |[],σ=>some ([],σ)
 |e :: r,σ=>(F.evO e σ).bind fun p=>(Ln r p.2.2).map fun q=>((p.1,p.2.1) :: q.1,q.2)
noncomputable def G9:List E→St→Option (Bool×St)
 |[],σ=>some (true,σ)
 |e :: r,σ=>(F.evT e σ).bind fun p=>if p.1=true then G9 r p.2 else some (false,p.2)
noncomputable def Ly:List E→St→Option (Bool×St)
 |[],σ=>some (false,σ)
 |e :: r,σ=>(F.evT e σ).bind fun p=>if p.1=true then some (true,p.2) else Ly r p.2
noncomputable def A8(e:E)(σ:St):Option (D×St):=match e with
 |.var i=>(σ.get i).map fun s=>(s.2,σ)
 |e=>F.ev e σ
noncomputable def again(e:E)(d:D)(σ:St):Option D:=match e with
 |.var i=>(σ.get i).map (·.2)
 |_=>some d
noncomputable def J5:Option E→St→Option (D×St)
 |Option.none,σ=>some (.none,σ)
 |some e,σ=>F.ev e σ
noncomputable def By:List Nat→List Slot→St→Option St
 |[],[],σ=>some σ
 |i :: is,s :: ss,σ=>By is ss (σ.put i s)
 |_,_,_=>Option.none
noncomputable def Cy:Tg→D→St→Option St
 |.v i,d,σ=>some (σ.put i (.sh,d))
 |.t is,.tup ds,σ=>if is.length=ds.length then By is (ds.map fun d=>(Own.sh,d)) σ else Option.none
 |_,_,_=>Option.none
noncomputable def Iu(xs:List Nat)(d:D)(σ:St):Option St:=match d with
 |.tup ds=>Cy (.t xs) (.tup ds) σ
 |_=>Option.none
noncomputable def J9:Tg→St→St
 |.v i,σ=>σ.del i
 |.t is,σ=>is.foldl (fun σ i=>St.del σ i) σ
noncomputable def items(e:E)(σ:St):Option (List D×St):=match e with
 |.enum e=>(F.ev e σ).bind fun p=>(Re p.1).map fun l=>(Iq 0 l,p.2)
 |e=>(F.ev e σ).bind fun p=>(Fn p.1).map fun l=>(l,p.2)
noncomputable def E7(tg:Tg)(conds:List E)(body:St→List D→Option (List D×St)):List D→St→List D→Option (List D×St)
 |[],σ,acc=>some (acc,σ)
 |d :: r,σ,acc=>(Cy tg d σ).bind fun σ=>(G9 F conds σ).bind fun p=>if p.1=true then (body p.2 acc).bind fun q=>E7 tg conds body r q.2 q.1 else E7 tg conds body r p.2 acc
noncomputable def Eb(elt:E):List (Tg×E×List E)→St→List D→Option (List D×St)
 |[],σ,acc=>(F.ev elt σ).bind fun p=>if acc.length<line then some (acc++[p.1],p.2) else Option.none
 |g :: gs,σ,acc=>(items F g.2.1 σ).bind fun p=>E7 F g.1 g.2.2 (Eb elt gs) p.1 p.2 acc
noncomputable def Jj:List (Tg×E×List E)→St→St
 |[],σ=>σ
 |g :: gs,σ=>Jj gs (J9 g.1 σ)
noncomputable def Ps(tg:Tg)(k v:E):List D→St→List (List Nat×D)→Option (List (List Nat×D)×St)
 |[],σ,acc=>some (acc,σ)
 |d :: r,σ,acc=>(Cy tg d σ).bind fun σ=>(F.ev k σ).bind fun p=>(L6 p.1).bind fun kd=>(F.ev v p.2).bind fun q=>if acc.length<16 then Ps tg k v r q.2 (Cg acc kd q.1) else Option.none
noncomputable def Bt(k:St→Option (Fl×St)):Option (Fl×St)→Option (Fl×St)
 |some (.next,σ)=>k σ
 |some (.ret d,σ)=>some (.ret d,σ)
 |Option.none=>Option.none
noncomputable def exs:List S→St→Option (Fl×St)
 |[],σ=>some (.next,σ)
 |s :: r,σ=>Bt (exs r) (F.ex s σ)
noncomputable def Dl(tg:Tg)(b:List S):List D→St→Option (Fl×St)
 |[],σ=>some (.next,σ)
 |d :: r,σ=>(Cy tg d σ).bind fun σ=>Bt (Dl tg b r) (exs F b σ)
noncomputable def I2(x:Nat):List E→List D→St→Option St
 |[],[],σ=>some σ
 |i :: is,d :: ds,σ=>if (σ.get x).isSome=true then (F.ev i σ).bind fun q=>(Ey (q.2.get x)).bind fun xs=>(D0 xs q.1 d).bind fun xs=>I2 x is ds (q.2.put x (.own,xs)) else Option.none
 |_,_,_=>Option.none
noncomputable def Fe(io:Bool):List E→St→Option (List Slot×St)
 |[],σ=>some ([],σ)
 |e :: r,σ=>match r with
  |[]=>match io with
   |true=>lend e σ
   |false=>(F.ev e σ).map fun p=>([(.sh,p.1)],p.2)
  |_ :: _=>(F.ev e σ).bind fun p=>(Fe io r p.2).map fun q=>((.sh,p.1) :: q.1,q.2)
noncomputable def back1(e:E)(s:Option Slot)(σ:St):Option St:=match e with
 |.var i=>s.map fun s=>σ.put i (.own,s.2)
 |_=>Option.none
noncomputable def Tt:List E→Option Slot→St→Option St
 |[],_,_=>Option.none
 |e :: r,s,σ=>match r with
  |[]=>back1 e s σ
  |_ :: _=>Tt r s σ
noncomputable def N5:Cmp→Bool
 |.isIn | .notIn=>true
 |_=>false
noncomputable def Ab(e:E)(σ:St):Option (D×St):=match e with
 |.lit d=>some (d,σ)
 |.Ahi s=>some (.Ahj s,σ)
 |.glob d=>some (d,σ)
 |.var i=>Kx σ i (σ.get i)
 |.bin o l r=>(F.ev l σ).bind fun p=>(F.ev r p.2).bind fun q=>(A3 o p.1 q.1).map fun d=>(d,q.2)
 |.neg e=>(F.ev e σ).bind fun p=>(Pm p.1).map fun d=>(d,p.2)
 |.orv l r=>(F.ev l σ).bind fun p=>(G3 p.1).bind fun t=>if t=true then some p else F.ev r p.2
 |.ite t b o=>(F.evT t σ).bind fun p=>if p.1=true then F.ev b p.2 else F.ev o p.2
 |.cmp o l r=>(F.ev l σ).bind fun p=>(if N5 o=true then A8 F r p.2 else F.ev r p.2).bind fun q=>(C3 o p.1 q.1).map fun c=>(.bool c,q.2)
 |.tup es=>(evs F es σ).bind fun p=>if p.1.length≤line then some (.tup p.1,p.2) else Option.none
 |.list es=>noO (F.evO (.list es) σ)
 |.Ahr=>noO (F.evO .Ahr σ)
 |.comp e gs=>noO (F.evO (.comp e gs) σ)
 |.call f args io=>(F.ev f σ).bind fun p=>(fnA p.1).bind fun a=>(Fe F io args p.2).bind fun q=>(F.call a q.1).bind fun r=>
  if io=true then (Tt args r.2 q.2).map fun σ=>(r.1,σ) else some (r.1,q.2)
 |.bi b es=>match b with
  |.list=>noO (F.evO (.bi .list es) σ)
  |.len=>match es with
   |[e]=>(A8 F e σ).bind fun p=>(biD .len [p.1]).map fun d=>(d,p.2)
   |_=>Option.none
  |b=>(evs F es σ).bind fun p=>(biD b p.1).map fun d=>(d,p.2)
 |.meth m o es=>(A8 F o σ).bind fun p=>(evs F es p.2).bind fun q=>(again o p.1 q.2).bind fun d=>if kd p.1=kd d then (Bw m d q.1).map fun d=>(d,q.2) else Option.none
 |.repl o old w=>(F.ev o σ).bind fun p=>(L6 p.1).bind fun s=>(F.ev old p.2).bind fun q=>(Si q.1).bind fun c=>
  if s.length≤4096∧w.length≤64∧w≠[c]∧c<256 then some (.str (A6 c w s),q.2) else Option.none
 |.Ahu o i=>(F.ev o σ).bind fun p=>(L6 p.1).bind fun s=>(F.ev i p.2).bind fun q=>((Ar (.str s) q.1).bind L6).map fun c=>(.Ahj c,q.2)
 |.idx o i=>(A8 F o σ).bind fun p=>(F.ev i p.2).bind fun q=>(again o p.1 q.2).bind fun d=>(Ar d q.1).map fun d=>(d,q.2)
 |.slc o l u rev=>(A8 F o σ).bind fun p=>(J5 F l p.2).bind fun q=>(J5 F u q.2).bind fun r=>(again o p.1 r.2).bind fun d=>(Em d q.1 r.1 rev).map fun d=>(d,r.2)
 |.Ah1 k v g=>(items F g.2 σ).bind fun p=>(Ps F g.1 k v p.1 p.2 []).map fun q=>(.Ahf q.1,J9 g.1 q.2)
 |_=>Option.none
noncomputable def Av(e:E)(σ:St):Option (Own×D×St):=match e with
 |.list es=>(evs F es σ).bind fun p=>if p.1.length≤line then some (.own,.list p.1,p.2) else Option.none
 |.Ahr=>some (.own,.Ahe [],σ)
 |.comp e gs=>(Eb F e gs σ []).map fun p=>(.own,.list p.1,Jj gs p.2)
 |.bi .list [e]=>(F.ev e σ).bind fun p=>(biD .list [p.1]).map fun d=>(.own,d,p.2)
 |.ite t b o=>(F.evT t σ).bind fun p=>if p.1=true then F.evO b p.2 else F.evO o p.2
 |e=>shO (F.ev e σ)
noncomputable def Fs(e:E)(σ:St):Option (Bool×St):=match e with
 |.not e=>(F.evT e σ).map fun p=>(!p.1,p.2)
 |.and es=>G9 F es σ
 |.or es=>Ly F es σ
 |e=>(F.ev e σ).bind fun p=>(G3 p.1).map fun b=>(b,p.2)
noncomputable def Bz(s:S)(σ:St):Option (Fl×St):=match s with
 |.app x e=>if Ii (σ.get x)=true then (F.ev e σ).bind fun p=>Iv p.2 x p.1 (p.2.get x) else Option.none
 |.ext x e=>if Ii (σ.get x)=true then (F.ev e σ).bind fun p=>(Re p.1).bind fun ys=>Kg p.2 x ys (p.2.get x) else Option.none
 |.asg x e=>(F.evO e σ).map fun p=>(.next,p.2.2.put x (p.1,p.2.1))
 |.asg2 x y e=>(F.ev e σ).map fun p=>(.next,(p.2.put x (.sh,p.1)).put y (.sh,p.1))
 |.Ah0 xs e=>(F.ev e σ).bind fun p=>(Iu xs p.1 p.2).map fun σ=>(.next,σ)
 |.Ahs xs es=>(Ln F es σ).bind fun p=>(By xs p.1 p.2).map fun σ=>(.next,σ)
 |.swp x is es=>(evs F es σ).bind fun p=>(I2 F x is p.1 p.2).map fun σ=>(.next,σ)
 |.put x i e=>(F.ev e σ).bind fun p=>(I2 F x [i] [p.1] p.2).map fun σ=>(.next,σ)
 |.aug o x e=>(V7 (σ.get x)).bind fun old=>(F.ev e σ).bind fun p=>((A3 o old p.1).bind Rm).map fun r=>(.next,p.2.put x (.sh,.int r))
 |.Ahq o x i e=>if (σ.get x).isSome=true then (F.ev i σ).bind fun q=>(Ey (q.2.get x)).bind fun xs=>(Ar xs q.1).bind fun old=>(F.ev e q.2).bind fun p=>((A3 o old p.1).bind Rm).bind fun r=>(Ey (p.2.get x)).bind fun xs=>(D0 xs q.1 (.int r)).map fun xs=>(.next,p.2.put x (.own,xs)) else Option.none
 |.ite t b o=>(F.evT t σ).bind fun p=>if p.1=true then exs F b p.2 else exs F o p.2
 |.whl t b=>(F.evT t σ).bind fun p=>if p.1=true then Bt (F.ex (.whl t b)) (exs F b p.2) else some (.next,p.2)
 |.for tg it b=>(items F it σ).bind fun p=>Dl F tg b p.1 p.2
 |.ret e=>(F.ev e σ).map fun p=>(.ret p.1,p.2)
 |.Aht b=>exs F b σ
noncomputable def Ai5:D→D
 |.Ahj s=>.str s
 |d=>d
noncomputable def weak:D→D
 |.list ds=>.list (ds.map Ai5)
 |.Ahj s=>.str s
 |d=>d
noncomputable def Q8:Option Slot→Option Slot→Bool
 |some (.bor,_),some (.bor,_)=>true
 |some (.bor,_),_=>false
 |_,_=>true
noncomputable def retD:Fl→Option D
 |.ret d=>some d
 |.next=>Option.none
noncomputable def Ml(P:List (Nat×Ahc))(a:Nat)(ss:List Slot):Option (D×Option Slot):=(P.lookup a).bind fun f=>
 if ss.length=f.np then (exs F f.body (ss.map some++List.replicate (f.nv - f.np) Option.none)).bind fun p=>(retD p.1).bind fun d=>
  if Q8 ss.getLast? (p.2.get (f.np - 1))=true then some (weak d,p.2.get (f.np - 1)) else Option.none
 else Option.none
end
noncomputable def Ev(P:List (Nat×Ahc)):Nat→Ahl
 |0=>nil
 |n+1=>⟨Ab (Ev P n),Av (Ev P n),Fs (Ev P n),Ml (Ev P n) P,Bz (Ev P n)⟩
theorem Cj{α β:Type}{P:List α→List β→Prop}(nn:P [] [])(cc:∀a as b bs,P as bs→P (a :: as) (b :: bs))(nc:∀b bs,P [] (b :: bs))(cn:∀a as,P (a :: as) [])(as:List α):∀bs,P as bs:=
 List.rec (motive:=fun as=>∀bs,P as bs) (fun bs=>List.casesOn bs nn nc) (fun a as ih bs=>List.casesOn bs (cn a as) fun b bs=>cc a as b bs (ih bs)) as
theorem lt3{P:Nat→Prop}(h0:P 0)(h1:P 1)(h2:P 2){k:Nat}(h:k<3):P k:=by
 rcases Nat.lt_succ_iff_lt_or_eq.mp h with h | rfl
 ·rcases Nat.lt_succ_iff_lt_or_eq.mp h with h | rfl
  ·rw [Nat.lt_one_iff.mp h];exact h0
  ·exact h1
 ·exact h2
theorem lt5{P:Nat→Prop}(h0:P 0)(h1:P 1)(h2:P 2)(h3:P 3)(h4:P 4){k:Nat}(h:k<5):P k:=by
 rcases Nat.lt_succ_iff_lt_or_eq.mp h with h | rfl
 ·rcases Nat.lt_succ_iff_lt_or_eq.mp h with h | rfl
  ·exact lt3 h0 h1 h2 h
  ·exact h3
 ·exact h4
theorem bs{α β:Type}{x:Option α}{f:α→Option β}{b:β}(h:x.bind f=some b):∃a,x=some a∧f a=some b:=Option.bind_eq_some_iff.mp h
theorem ms{α β:Type}{x:Option α}{f:α→β}{b:β}(h:x.map f=some b):∃a,x=some a∧f a=b:=Option.map_eq_some_iff.mp h
theorem nos{α:Type}{x:α}{P:Prop}(e:Option.none=some x):P:=by cases e
theorem Ag{α:Type}{a b:α}(h:some a=some b):a=b:=Option.some.inj h
theorem As{α β:Type}{a c:α}{b d:β}(h:some (a,b)=some (c,d)):a=c∧b=d:=Prod.mk.inj (Option.some.inj h)
theorem pm3{α β γ:Type}{a c:α}{b d:β}{x y:γ}(h:(a,b,x)=(c,d,y)):a=c∧b=d∧x=y:=⟨(Prod.mk.inj h).1,Prod.mk.inj (Prod.mk.inj h).2⟩
theorem Ac0{α β γ:Type}{a c:α}{b d:β}{x y:γ}(h:some (a,b,x)=some (c,d,y)):a=c∧b=d∧x=y:=⟨(As h).1,As (congrArg some (As h).2)⟩
theorem Rl{d:D}{i:Int}(h:Rm d=some i):d=.int i:=by
 induction d using D.casesOn with | int _=>rw [Ag h] | _=>exact nos h
theorem Rd{d:D}{l:List D}(h:Re d=some l):d=.list l:=by
 induction d using D.casesOn with | list _=>rw [Ag h] | _=>exact nos h
theorem H4{d:D}{s:List Nat}(h:L6 d=some s):d=.str s:=by
 induction d using D.casesOn with | str _=>rw [Ag h] | _=>exact nos h
noncomputable def mL{α:Type}(d:D)(b:α)(f:List D→α):α:=match d with
 |.list l=>f l
 |_=>b
@[simp] theorem mL_l{α:Type}{l:List D}{b:α}{f:List D→α}:mL (.list l) b f=f l:=rfl
noncomputable def mI{α:Type}(d:D)(b:α)(f:Int→α):α:=match d with
 |.int l=>f l
 |_=>b
@[simp] theorem U0{α:Type}{l:Int}{b:α}{f:Int→α}:mI (.int l) b f=f l:=rfl
noncomputable def mS{α:Type}(d:D)(b:α)(f:Nat→α):α:=match d with
 |.str [l]=>f l
 |_=>b
@[simp] theorem mS_s{α:Type}{l:Nat}{b:α}{f:Nat→α}:mS (.str [l]) b f=f l:=rfl
theorem Mg{σ:St}{x:Nat}{d:D}{xs:List D}:Iv σ x d (some (.own,.list xs))=if xs.length<line then some (.next,σ.put x (.own,.list (xs++[d]))) else Option.none:=rfl
theorem xs_o{σ:St}{x:Nat}{ys xs:List D}:Kg σ x ys (some (.own,.list xs))=if xs.length+ys.length≤line then some (.next,σ.put x (.own,.list (xs++ys))) else Option.none:=rfl
theorem Ij{o:Own}{xs:List D}:Ii (some (o,.list xs))=true:=rfl
theorem Ea{xs:List D}:Fn (.list xs)=some xs:=rfl
theorem Adi{s:List Nat}:Fn (.str s)=if ascii s then some (s.map fun c=>.str [c]) else Option.none:=rfl
theorem Xs{a b c:Int}:Fn (.rng a b c)=if E3 a && E3 b && E3 c && decide (c≠0) then some ((Bx a b c).map .int) else Option.none:=rfl
theorem set_l{xs:List D}{i:Int}{v:D}:D0 (.list xs) (.int i) v=if sml i && decide (0≤i) && decide (i<xs.length) then some (.list (xs.set i.toNat v)) else Option.none:=rfl
theorem Ac1{es:List (Int×D)}{k:Int}{v:D}:D0 (.Ahe es) (.int k) v=if es.length≤4096 then some (.Ahe (Cg es k v)) else Option.none:=rfl
theorem Xd:Xc .none=some Option.none:=rfl
theorem Uw{i:Int}:Xc (.int i)=if sml i then some (some i) else Option.none:=rfl
theorem Aee{xs:List D}{l u:Option Int}:Z7 (.list xs) l u=some (.list (cut xs l u)):=rfl
theorem sl_w{xs:List D}{l u:Option Int}:Z7 (.Ahm xs) l u=some (.list (cut xs l u)):=rfl
theorem Aed{xs:List Nat}{l u:Option Int}:Z7 (.str xs) l u=some (.str (cut xs l u)):=rfl
theorem Zc{is:List Nat}{ds:List D}{σ:St}:Cy (.t is) (.tup ds) σ=if is.length=ds.length then By is (ds.map fun d=>(Own.sh,d)) σ else Option.none:=rfl
theorem Ut{σ:St}:By [] [] σ=some σ:=rfl
theorem Uu{i:Nat}{is:List Nat}{s:Slot}{ss:List Slot}{σ:St}:By (i :: is) (s :: ss) σ=By is ss (σ.put i s):=rfl
theorem wk_l{ds:List D}:weak (.list ds)=.list (ds.map Ai5):=rfl
theorem io_n{α:Type}[BEq α]{a:α}:Df a []=Option.none:=rfl
theorem Rk{α:Type}[BEq α]{a b:α}{r:List α}:Df a (b :: r)=if b == a then some 0 else (Df a r).map (·+1):=rfl
theorem mi_n{a:Int}:Hy a []=a:=rfl
theorem Ae7{a b:Int}{r:List Int}:Hy a (b :: r)=Hy (if b<a then b else a) r:=rfl
theorem in_n{a:Int}:Mb a []=[a]:=rfl
theorem in_c{a b:Int}{r:List Int}:Mb a (b :: r)=if a<b then a :: b :: r else b :: Mb a r:=rfl
theorem lC_n{F:Ahl}{tg:Tg}{cs:List E}{body:St→List D→Option (List D×St)}{σ:St}{acc:List D}:E7 F tg cs body [] σ acc=some (acc,σ):=rfl
theorem en_c{k:Nat}{d:D}{r:List D}:Iq k (d :: r)=.tup [.int k,d] :: Iq (k+1) r:=rfl
theorem Ab2{σ:St}:Jj [] σ=σ:=rfl
theorem Ab3{g:Tg×E×List E}{gs:List (Tg×E×List E)}{σ:St}:Jj (g :: gs) σ=Jj gs (J9 g.1 σ):=rfl
theorem Ab1{i:Nat}{σ:St}:J9 (.v i) σ=σ.del i:=rfl
theorem dT_t{is:List Nat}{σ:St}:J9 (.t is) σ=is.foldl (fun σ i=>St.del σ i) σ:=rfl
theorem Afd{s:List Nat}:A4 s []=[]:=rfl
theorem Rh{s a:List Nat}:A4 s [a]=a:=rfl
theorem Pu{s a b:List Nat}{r:List (List Nat)}:A4 s (a :: b :: r)=a++s++A4 s (b :: r):=rfl
theorem iE1:N5 .eq=false:=rfl
theorem iE2:N5 .ne=false:=rfl
theorem iE3:N5 .lt=false:=rfl
theorem iE5:N5 .gt=false:=rfl
theorem iE7:N5 .isIn=true:=rfl
theorem Ad7:A1 []=some []:=rfl
theorem Vz{i:Int}{r:List D}:A1 (.int i :: r)=(A1 r).map (i :: ·):=rfl
theorem tS_c{i:List Nat}{r:List D}:F1 (.str i :: r)=(F1 r).map (i :: ·):=rfl
theorem nab{n:Nat}{i:Int}:i.natAbs<n ↔ -(n:Int)<i∧i<n:=by
 induction i using Int.casesOn with
 |ofNat k=>exact ⟨fun h=>⟨Int.lt_of_lt_of_le (Int.neg_neg_of_pos (Int.natCast_pos.mpr (Nat.zero_lt_of_lt h))) (Int.natCast_nonneg k),Int.ofNat_lt.mpr h⟩,fun h=>Int.ofNat_lt.mp h.2⟩
 |negSucc k=>exact ⟨fun h=>⟨Int.neg_lt_neg (Int.ofNat_lt.mpr h),Int.lt_of_lt_of_le (Int.negSucc_lt_zero k) (Int.natCast_nonneg n)⟩,fun h=>Int.ofNat_lt.mp (Int.lt_of_neg_lt_neg h.1)⟩
theorem K6{a b k:Nat}(ha:a<k)(hb:b<k):((a:Int) - b).natAbs<k:=nab.mpr ⟨Int.lt_of_lt_of_le (Int.neg_lt_neg (Int.ofNat_lt.mpr hb)) (Int.le_trans (Int.le_of_eq (Int.zero_sub _).symm) (Int.sub_le_sub_right (Int.natCast_nonneg a) _)),Int.lt_of_le_of_lt (Int.sub_le_self _ (Int.natCast_nonneg b)) (Int.ofNat_lt.mpr ha)⟩
theorem Ae3{q k:Nat}(h:q+1<k):(-(q:Int) - 1).natAbs<k:=by
 rw [show -(q:Int) - 1 = -((q+1:Nat):Int) from Int.neg_add.symm,Int.natAbs_neg];exact h
theorem clip1(n:Nat)(i:Int)(h:0≤i):((min i.toNat n:Nat):Int)=max 0 (min i n):=by
 obtain ⟨k,rfl⟩:=Int.eq_ofNat_of_zero_le h
 rw [Int.toNat_natCast,Int.max_eq_right (Int.le_min.mpr ⟨h,Int.natCast_nonneg n⟩)]
 rcases Nat.le_total k n with q | q
 ·rw [Nat.min_eq_left q,Int.min_eq_left (Int.ofNat_le.mpr q)]
 ·rw [Nat.min_eq_right q,Int.min_eq_right (Int.ofNat_le.mpr q)]
theorem clip2(n:Nat)(i:Int)(h:i<0):((i+n).toNat:Int)=max 0 (min (i+n) n):=by
 rw [Int.min_eq_left (Int.le_trans (Int.add_le_add_right (Int.le_of_lt h) n) (Int.le_of_eq (Int.zero_add _))),Int.max_comm];exact Int.toNat_eq_max _
theorem Afj{a q:Nat}(h:q<a):(-(q:Int) - 1+a).toNat=a - 1 - q:=by
 obtain ⟨k,rfl⟩:=Nat.exists_eq_add_of_lt h
 rw [show -(q:Int) - 1+((q+k+1:Nat):Int)=(k:Nat) by rw [Int.natCast_add,Int.natCast_add];lia]
 rw [Int.toNat_natCast,Nat.add_sub_cancel,Nat.add_sub_cancel_left]
theorem Ad6{a q:Nat}:(-(q:Int)+a).toNat=a - q:=by rw [Int.add_comm];exact Int.toNat_sub a q
theorem tn1{l:Int}{k:Nat}(h:l.toNat=k+1):(l - 1).toNat=k:=by
 induction l using Int.casesOn with
 |ofNat n=>
  obtain rfl:=(h:n=k+1)
  show ((k:Int)+1 - 1).toNat=k
  rw [Int.add_sub_cancel];rfl
 |negSucc n=>exact absurd h.symm (Nat.succ_ne_zero _)
theorem sp6{s c:Nat}(h:0<s):c+1+(s - 1)=c+s:=by rw [Nat.add_assoc,Nat.add_sub_cancel' h]
theorem sb1{x c n s:Nat}(h:x - c=n)(hc:c<x)(hs:0<s):x - (c+s)<n:=h ▸ Nat.sub_lt_sub_left hc (Nat.lt_add_of_pos_right hs)
theorem Adb{lo hi:Nat}:(((hi:Int) - lo+1 - 1) / 1).toNat=hi - lo:=by rw [Int.add_sub_cancel,Int.ediv_one];exact Int.toNat_sub hi lo
theorem odd2(j:Nat):2 * ((j+1:Nat):Int) - 1=1+2 * (j:Int):=by
 rw [show ((j+1:Nat):Int)=(j:Int)+1 from rfl,Int.mul_add,Int.add_sub_assoc,Int.add_comm];rfl
theorem row2{k:Nat}(h:k≠0):((2 * (k:Int) - 0 - 1) / 2+1).toNat=k:=by
 obtain ⟨j,rfl⟩:=Nat.exists_eq_succ_of_ne_zero h
 rw [Int.sub_zero,odd2,Int.add_mul_ediv_left _ _ (by decide),show (1:Int) / 2=0 from rfl,Int.zero_add]
 rfl
theorem row1{k:Nat}(h:0<k):((2 * ((k:Int)+1) - 2 - 1) / 2+1).toNat=k:=by
 rw [Int.mul_add,show (2:Int) * 1=2 from rfl,Int.add_sub_cancel]
 have:=row2 (Nat.ne_of_gt h);rw [Int.sub_zero] at this;exact this
theorem Tz{b:Int}(h1 : -(2 ^ 42)≤b)(h2:b≤2 ^ 42) : -(2 ^ 63)≤b∧b<2 ^ 63:=⟨Int.le_trans (by decide) h1,Int.lt_of_le_of_lt h2 (by decide)⟩
theorem fuel{n k f:Nat}(h:k≤n):n+f=n - k+f+k:=by rw [Nat.add_right_comm,Nat.sub_add_cancel h]
end Mine
end
section
open PySem PySem.W PyProof.Rows
set_option autoImplicit false
namespace Mine
set_option tactic.hygienic true in
theorem I5{M:Model}{Γ:Ctx}{p:Pos}{t:Sem Fin}{fs:List Frame}{s:Shared}{e:End}{s':Shared}(h:Runs M Γ p t fs s e s'):s.toks≤s'.toks:=by
 induction h <;> first
  |exact Nat.le_refl _
  |assumption
  |(rename_i ih;exact Nat.le_of_succ_le ih)
  |(rename_i a b;exact Nat.le_trans a b)
  |(rename_i a b c;exact Nat.le_trans a b)
  |(rename_i a b c d;exact Nat.le_trans a b)
theorem Nt{M:Model}{Γ:Ctx}{p:Pos}{s:Shared}{r:Result}{s':Shared}(h:Returns M Γ p s r s'):s.toks≤s'.toks:=I5 h
theorem Qm{M:Model}{Γ:Ctx}{p:Pos}{g:Nat}{r:Resume}{s:Shared}{res:GenResult}{s':Shared}(h:Wakes M Γ p g r s res s'):s.toks≤s'.toks:=by
 unfold Wakes at h
 split at h
 ·exact h.elim
 ·split at h
  ·obtain ⟨e₁,s₁,h1,_,_,rfl⟩:=h;have q:=I5 h1;exact q
  ·rw [h.2];exact Nat.le_refl _
  ·rw [h.2];exact Nat.le_refl _
 ·obtain ⟨e₁,s₁,h1,_,_,rfl⟩:=h;have q:=I5 h1;exact q
 ·rw [h.2];exact Nat.le_refl _
 ·rw [h.2];exact Nat.le_refl _
theorem Zn{α:Type}{M:Model}{Γ:Ctx}(t:Sem α):∀ {Q:α→Pos→Shared→Prop} {E:Value→Pos→Shared→Prop} {p:Pos} {s:Shared} {n:Nat},n≤s.toks→
  Sem.wp M Γ t (fun a p' s'=>n≤s'.toks→Q a p' s') (fun e p' s'=>n≤s'.toks→E e p' s') p s→Sem.wp M Γ t Q E p s:=by
 induction t with
 |pure a=>intro Q E p s n h w;exact w h
 |raise e=>intro Q E p s n h w;exact w h
 |unsupported _=>intro Q E p s n h w;exact w
 |finish _=>intro Q E p s n h w;exact w
 |rule _ k ih=>intro Q E p s n h w;exact ih _ h w
 |«at» _ k ih=>intro Q E p s n h w;exact ih _ h w
 |load a _ k ih=>intro Q E p s n h w;obtain ⟨o,e,w⟩:=w;exact ⟨o,e,ih _ h w⟩
 |update a _ f k ih=>intro Q E p s n h w;exact ⟨w.1,ih _ h w.2⟩
 |loadIfAlive a k ih=>intro Q E p s n h w;exact ih _ h w
 |point _ k ih=>intro Q E p s n h w;exact ih _ h w
 |register _ _=>intro Q E p s n h w;exact w
 |alloc o k ih=>intro Q E p s n h w;exact ih _ h w
 |fresh k ih=>intro Q E p s n h w;exact ih _ (Nat.le_succ_of_le h) w
 |ask k ih=>intro Q E p s n h w;exact ih _ h w
 |choose src m k ih=>intro Q E p s n h w;exact ⟨w.1,ih _ h w.2⟩
 |os q _ k ih=>intro Q E p s n h w;exact ih _ h w
 |call c hd _ _ k ih=>intro Q E p s n h w;obtain ⟨r,s',hr,w⟩:=w;exact ⟨r,s',hr,ih _ (Nat.le_trans h (Nt hr)) w⟩
 |handled own k ih=>intro Q E p s n h w;exact ih _ h w
 |genState g k ih=>intro Q E p s n h w;obtain ⟨st,e,w⟩:=w;exact ⟨st,e,ih _ h w⟩
 |newGen c k ih=>intro Q E p s n h w;exact ih _ h w
 |resume g r _ k ih=>intro Q E p s n h w;obtain ⟨res,s',hr,w⟩:=w;exact ⟨res,s',hr,ih _ (Nat.le_trans h (Qm hr)) w⟩
 |yield _ _ _ _=>intro Q E p s n h w;exact w
 |stack k ih=>intro Q E p s n h w;exact ih _ h w
 |fork _ _=>intro Q E p s n h w;exact w
 |thread k ih=>intro Q E p s n h w;exact ih _ h w
 |await _ _ _ _ _=>intro Q E p s n h w;exact w
theorem Ce{α:Type}{M:Model}{A:Around}{t:Sem α}{Q:α→Shared→Prop}{E:Value→Shared→Prop}{s:Shared}
  (h:wpAny M A t (fun a s'=>s.toks≤s'.toks→Q a s') E s):wpAny M A t Q E s:=fun Γ p hΓ=>
 Zn (Q:=fun a ζ s'=>Q a s') (E:=fun e ζ s'=>E e s') t (Nat.le_refl _) (Sem.wp_mono M Γ t (fun ζ ζ ζ h'=>h') (fun e _ s' (h':E e s') (_:s.toks≤s'.toks)=>h') p s (h Γ p hΓ))
end Mine
end
section
namespace G1
open Mine
noncomputable def tokD:D:=.Ahf [([33],.int 54),([33,61],.int 28),([37],.int 24),([37,61],.int 40),([38],.int 19),([38,61],.int 41),([40],.int 7),([41],.int 8),([42],.int 16),([42,42],.int 35),([42,42,61],.int 46),([42,61],.int 38),([43],.int 14),([43,61],.int 36),([44],.int 12),([45],.int 15),([45,61],.int 37),([45,62],.int 51),([46],.int 23),([46,46,46],.int 52),([47],.int 17),([47,47],.int 47),([47,47,61],.int 48),([47,61],.int 39),([58],.int 11),([58,61],.int 53),([59],.int 13),([60],.int 20),([60,60],.int 33),([60,60,61],.int 44),([60,61],.int 29),([61],.int 22),([61,61],.int 27),([62],.int 21),([62,61],.int 30),([62,62],.int 34),([62,62,61],.int 45),([64],.int 49),([64,61],.int 50),([91],.int 9),([93],.int 10),([94],.int 32),([94,61],.int 43),([123],.int 25),([124],.int 18),([124,61],.int 42),([125],.int 26),([126],.int 31)]
noncomputable def Aid:List S:=[
 .ite (.cmp .eq (.var 0) (.var 1)) [.ret (.lit (.int 0))] [],
 .ite (.cmp .eq (.meth .lower (.var 0) []) (.meth .lower (.var 1) [])) [.ret (.glob (.int 1))] [],
 .ret (.glob (.int 2))]
noncomputable def Ah2:Ahc:=⟨2,2,Aid⟩
noncomputable def Aie:List S:=[
 .ite (.cmp .eq (.var 0) (.var 1)) [.ret (.lit (.int 0))] [],
 .asg 3 (.lit (.int 0)),
 .whl (.and [(.slc (.var 0) (some (.var 3)) none false),(.slc (.var 1) (some (.var 3)) none false),(.cmp .eq (.idx (.var 0) (.var 3)) (.idx (.var 1) (.var 3)))]) [.aug .add 3 (.lit (.int 1))],
 .asg 0 (.slc (.var 0) (some (.var 3)) none false),
 .asg 1 (.slc (.var 1) (some (.var 3)) none false),
 .asg 4 (.lit (.int 0)),
 .whl (.and [(.slc (.var 0) none (some (.orv (.var 4) (.lit .none))) false),(.slc (.var 1) none (some (.orv (.var 4) (.lit .none))) false),(.cmp .eq (.idx (.var 0) (.bin .sub (.var 4) (.lit (.int 1)))) (.idx (.var 1) (.bin .sub (.var 4) (.lit (.int 1)))))]) [.aug .sub 4 (.lit (.int 1))],
 .asg 0 (.slc (.var 0) none (some (.orv (.var 4) (.lit .none))) false),
 .asg 1 (.slc (.var 1) none (some (.orv (.var 4) (.lit .none))) false),
 .ite (.or [(.not (.var 0)),(.not (.var 1))]) [.ret (.bin .mul (.glob (.int 2)) (.bin .add (.bi .len [(.var 0)]) (.bi .len [(.var 1)])))] [],
 .ite (.or [(.cmp .gt (.bi .len [(.var 0)]) (.glob (.int 40))),(.cmp .gt (.bi .len [(.var 1)]) (.glob (.int 40)))]) [.ret (.bin .add (.var 2) (.lit (.int 1)))] [],
 .ite (.cmp .lt (.bi .len [(.var 1)]) (.bi .len [(.var 0)])) [.Ahs [0,1] [(.var 1),(.var 0)]] [],
 .ite (.cmp .gt (.bin .mul (.bin .sub (.bi .len [(.var 1)]) (.bi .len [(.var 0)])) (.glob (.int 2))) (.var 2)) [.ret (.bin .add (.var 2) (.lit (.int 1)))] [],
 .asg 5 (.bi .list [(.bi .range [(.glob (.int 2)),(.bin .mul (.glob (.int 2)) (.bin .add (.bi .len [(.var 0)]) (.lit (.int 1)))),(.glob (.int 2))])]),
 .asg 6 (.lit (.int 0)),
 .for (.v 7) (.bi .range [(.bi .len [(.var 1)])]) [.asg 8 (.idx (.var 1) (.var 7)),.asg2 9 6 (.bin .mul (.var 7) (.glob (.int 2))),.asg 10 (.lit (.int 9223372036854775807)),.for (.v 11) (.bi .range [(.bi .len [(.var 0)])]) [.asg 12 (.bin .add (.var 9) (.call (.glob (.fn 21)) [(.var 8),(.idx (.var 0) (.var 11))] false)),.asg 9 (.idx (.var 5) (.var 11)),.asg 13 (.bin .add (.bi .min [(.var 6),(.var 9)]) (.glob (.int 2))),.asg 6 (.bi .min [(.var 13),(.var 12)]),.put 5 (.var 11) (.var 6),.ite (.cmp .lt (.var 6) (.var 10)) [.asg 10 (.var 6)] []],.ite (.cmp .gt (.var 10) (.var 2)) [.ret (.bin .add (.var 2) (.lit (.int 1)))] []],
 .ret (.var 6)]
noncomputable def Ah3:Ahc:=⟨3,14,Aie⟩
noncomputable def Aif:List S:=[
 .ret (.cmp .lt (.var 0) (.glob (.int 256)))]
noncomputable def Ah4:Ahc:=⟨1,1,Aif⟩
noncomputable def Aig:List S:=[
 .ret (.cmp .ge (.var 0) (.glob (.int 256)))]
noncomputable def Ah5:Ahc:=⟨1,1,Aig⟩
noncomputable def Aih:List S:=[
 .ret (.cmp .eq (.var 0) (.glob (.int 0)))]
noncomputable def Ah6:Ahc:=⟨1,1,Aih⟩
noncomputable def Lx:List S:=[
 .Aht [.ite (.cmp .isIn (.lit (.str [38])) (.var 0)) [.asg 0 (.repl (.var 0) (.Ahi [38]) [38,97,109,112,59])] [],.ite (.cmp .isIn (.lit (.str [60])) (.var 0)) [.asg 0 (.repl (.var 0) (.Ahi [60]) [38,108,116,59])] [],.ite (.cmp .isIn (.lit (.str [62])) (.var 0)) [.asg 0 (.repl (.var 0) (.Ahi [62]) [38,103,116,59])] [],.ret (.var 0)]]
noncomputable def Ll:Ahc:=⟨1,1,Lx⟩
noncomputable def Ka:List S:=[
 .Aht [.ite (.cmp .isIn (.lit (.str [38])) (.var 0)) [.asg 0 (.repl (.var 0) (.Ahi [38]) [38,97,109,112,59])] [],.ite (.cmp .isIn (.lit (.str [60])) (.var 0)) [.asg 0 (.repl (.var 0) (.Ahi [60]) [38,108,116,59])] [],.ite (.cmp .isIn (.lit (.str [62])) (.var 0)) [.asg 0 (.repl (.var 0) (.Ahi [62]) [38,103,116,59])] [],.ite (.cmp .isIn (.lit (.str [34])) (.var 0)) [.asg 0 (.repl (.var 0) (.Ahi [34]) [38,113,117,111,116,59])] [],.ite (.cmp .isIn (.lit (.str [13])) (.var 0)) [.asg 0 (.repl (.var 0) (.Ahi [13]) [38,35,49,51,59])] [],.ite (.cmp .isIn (.lit (.str [10])) (.var 0)) [.asg 0 (.repl (.var 0) (.Ahi [10]) [38,35,49,48,59])] [],.ite (.cmp .isIn (.lit (.str [9])) (.var 0)) [.asg 0 (.repl (.var 0) (.Ahi [9]) [38,35,48,57,59])] [],.ret (.var 0)]]
noncomputable def J7:Ahc:=⟨1,1,Ka⟩
noncomputable def Gd:List S:=[
 .Aht [.ite (.cmp .isIn (.lit (.str [38])) (.var 0)) [.asg 0 (.repl (.var 0) (.Ahi [38]) [38,97,109,112,59])] [],.ite (.cmp .isIn (.lit (.str [62])) (.var 0)) [.asg 0 (.repl (.var 0) (.Ahi [62]) [38,103,116,59])] [],.ite (.cmp .isIn (.lit (.str [34])) (.var 0)) [.asg 0 (.repl (.var 0) (.Ahi [34]) [38,113,117,111,116,59])] [],.ret (.var 0)]]
noncomputable def F8:Ahc:=⟨1,1,Gd⟩
noncomputable def G8:List S:=[
 .Aht [.ite (.cmp .isIn (.lit (.str [38])) (.var 0)) [.asg 0 (.repl (.var 0) (.Ahi [38]) [38,97,109,112,59])] [],.ite (.cmp .isIn (.lit (.str [60])) (.var 0)) [.asg 0 (.repl (.var 0) (.Ahi [60]) [38,108,116,59])] [],.ite (.cmp .isIn (.lit (.str [62])) (.var 0)) [.asg 0 (.repl (.var 0) (.Ahi [62]) [38,103,116,59])] [],.ite (.cmp .isIn (.lit (.str [13])) (.var 0)) [.asg 0 (.repl (.var 0) (.Ahi [13]) [38,35,120,68,59])] [],.ret (.var 0)]]
noncomputable def G6:Ahc:=⟨1,1,G8⟩
noncomputable def Gf:List S:=[
 .Aht [.ite (.cmp .isIn (.lit (.str [38])) (.var 0)) [.asg 0 (.repl (.var 0) (.Ahi [38]) [38,97,109,112,59])] [],.ite (.cmp .isIn (.lit (.str [60])) (.var 0)) [.asg 0 (.repl (.var 0) (.Ahi [60]) [38,108,116,59])] [],.ite (.cmp .isIn (.lit (.str [34])) (.var 0)) [.asg 0 (.repl (.var 0) (.Ahi [34]) [38,113,117,111,116,59])] [],.ite (.cmp .isIn (.lit (.str [9])) (.var 0)) [.asg 0 (.repl (.var 0) (.Ahi [9]) [38,35,120,57,59])] [],.ite (.cmp .isIn (.lit (.str [10])) (.var 0)) [.asg 0 (.repl (.var 0) (.Ahi [10]) [38,35,120,65,59])] [],.ite (.cmp .isIn (.lit (.str [13])) (.var 0)) [.asg 0 (.repl (.var 0) (.Ahi [13]) [38,35,120,68,59])] [],.ret (.var 0)]]
noncomputable def F9:Ahc:=⟨1,1,Gf⟩
noncomputable def Aik:List S:=[
 .asg 1 (.list [(.Ahu (.lit (.str [38,60,62])) (.bin .mod (.var 0) (.lit (.int 3))))]),
 .asg 2 (.repl (.lit (.str [40,41,91,93,58,44,43,45,42,47,124,38,60,62,61,46,37,123,125])) (.idx (.var 1) (.lit (.int 0))) []),
 .app 1 (.Ahu (.var 2) (.bin .mod (.bin .fdiv (.var 0) (.lit (.int 3))) (.lit (.int 18)))),
 .app 1 (.Ahu (.repl (.var 2) (.idx (.var 1) (.lit (.int 1))) []) (.bin .mod (.bin .fdiv (.var 0) (.lit (.int 54))) (.lit (.int 17)))),
 .ret (.slc (.slc (.bin .mul (.var 1) (.lit (.int 2))) (some (.bin .mod (.bin .fdiv (.var 0) (.lit (.int 918))) (.lit (.int 3)))) none false) none (some (.lit (.int 3))) false)]
noncomputable def Ah9:Ahc:=⟨1,3,Aik⟩
noncomputable def Aij:List S:=[
 .asg 1 (.tup [(.glob (.fn 66)),(.glob (.fn 73)),(.glob (.fn 80)),(.glob (.fn 87)),(.glob (.fn 94))]),
 .asg 2 (.ite (.cmp .eq (.var 0) (.lit (.int 1))) (.tup [(.lit (.str [38,35,49,51,59])),(.lit (.str [38,35,49,48,59])),(.lit (.str [38,35,48,57,59]))]) (.tup [(.lit (.str [38,35,120,68,59])),(.lit (.str [38,35,120,65,59])),(.lit (.str [38,35,120,57,59]))])),
 .asg 3 (.bi .Ahn [(.lit (.str [38,60,62,34,13,10,9])),(.bin .add (.tup [(.lit (.str [38,97,109,112,59])),(.lit (.str [38,108,116,59])),(.lit (.str [38,103,116,59])),(.lit (.str [38,113,117,111,116,59]))]) (.var 2))]),
 .asg 4 (.idx (.tup [(.lit (.str [38,60,62])),(.lit (.str [38,60,62,34,13,10,9])),(.lit (.str [38,62,34])),(.lit (.str [38,60,62,13])),(.lit (.str [38,60,34,13,10,9]))]) (.var 0)),
 .ret (.tup [(.idx (.var 1) (.var 0)),(.Ah1 (.var 5) (.idx (.var 3) (.var 5)) (.v 5,(.var 4)))])]
noncomputable def Ah8:Ahc:=⟨1,6,Aij⟩
noncomputable def R3:List S:=[
 .asg 1 (.list [(.lit (.int 0)),(.lit (.int 1)),(.lit (.int 2)),(.lit (.int 3))]),
 .for (.v 2) (.var 0) [.ite (.call (.glob (.fn 38)) [(.bin .sub (.bin .add (.lit (.int 256)) (.idx (.var 1) (.var 2))) (.idx (.var 1) (.bin .add (.var 2) (.lit (.int 1)))))] false) [.swp 1 [(.var 2),(.bin .add (.var 2) (.lit (.int 1)))] [(.idx (.var 1) (.bin .add (.var 2) (.lit (.int 1)))),(.idx (.var 1) (.var 2))]] []],
 .ret (.var 1)]
noncomputable def Aia:Ahc:=⟨1,3,R3⟩
noncomputable def Mf:List S:=[
 .Ahs [2,3,4] [(.list [(.var 0)]),(.list []),(.list [])],
 .whl (.cmp .lt (.bi .len [(.var 3)]) (.bi .len [(.var 2)])) [.asg 5 (.idx (.var 2) (.bi .len [(.var 3)])),.app 4 (.bin .add (.lit (.int 256)) (.bi .len [(.var 3)])),.asg 6 (.list []),.for (.v 7) (.bi .range [(.lit (.int 3))]) [.ite (.call (.glob (.fn 45)) [(.bin .sub (.bin .add (.lit (.int 255)) (.idx (.var 5) (.var 7))) (.idx (.var 5) (.bin .add (.var 7) (.lit (.int 1)))))] false) [.asg 8 (.bin .add (.bin .add (.slc (.var 5) none (some (.var 7)) false) (.list [(.idx (.var 5) (.bin .add (.var 7) (.lit (.int 1)))),(.idx (.var 5) (.var 7))])) (.slc (.var 5) (some (.bin .add (.var 7) (.lit (.int 2)))) none false)),.ite (.cmp .notIn (.var 8) (.var 2)) [.app 2 (.var 8)] [],.app 6 (.tup [(.var 7),(.meth .index (.var 2) [(.var 8)])]),.ext 4 (.list [(.bin .add (.lit (.int 256)) (.meth .index (.var 2) [(.var 8)])),(.idx (.var 1) (.var 7))])] []],.app 4 (.lit (.int 0)),.app 3 (.var 6)],
 .ret (.tup [(.var 3),(.var 4)])]
noncomputable def Me:Ahc:=⟨2,9,Mf⟩
noncomputable def Aii:List S:=[
 .ite (.call (.glob (.fn 38)) [(.var 1)] false) [.ret (.list [(.list [(.var 1)])])] [],
 .asg 2 (.comp (.slc (.idx (.var 0) (.var 1)) (some (.var 4)) (some (.bin .add (.var 4) (.lit (.int 2)))) false) [(.v 4,(.bi .range [(.lit (.int 0)),(.bi .len [(.idx (.var 0) (.var 1))]),(.lit (.int 2))]),[])]),
 .asg 3 (.comp (.bin .add (.var 6) (.var 7)) [(.v 5,(.var 2),[]),(.v 6,(.call (.glob (.fn 125)) [(.var 0),(.idx (.var 5) (.lit (.int 0)))] false),[]),(.v 7,(.call (.glob (.fn 125)) [(.var 0),(.idx (.var 5) (.lit (.int 1)))] false),[])]),
 .ret (.ite (.cmp .ne (.var 2) (.list [])) (.var 3) (.list [(.list [])]))]
noncomputable def Ah7:Ahc:=⟨2,8,Aii⟩
noncomputable def Qg:List S:=[
 .asg 2 .Ahr,
 .for (.v 3) (.bi .range [(.bin .sub (.bi .len [(.var 0)]) (.lit (.int 1))),(.neg (.lit (.int 1))),(.neg (.lit (.int 1)))]) [.asg 4 (.list []),.for (.v 5) (.bi .range [(.lit (.int 5))]) [.asg 6 (.ite (.cmp .gt (.var 5) (.lit (.int 0))) (.list [(.bin .add (.idx (.var 4) (.bin .sub (.var 5) (.lit (.int 1)))) (.lit (.int 2)))]) (.ite (.cmp .eq (.idx (.var 0) (.var 3)) (.list [])) (.list [(.lit (.int 0))]) (.list []))),.for (.t [7,8]) (.idx (.var 0) (.var 3)) [.app 6 (.bin .add (.idx (.idx (.var 2) (.var 8)) (.var 5)) (.lit (.int 2))),.app 6 (.ite (.cmp .gt (.var 5) (.lit (.int 0))) (.bin .add (.idx (.idx (.var 2) (.var 8)) (.bin .sub (.var 5) (.lit (.int 1)))) (.ite (.cmp .eq (.idx (.var 1) (.bin .sub (.var 5) (.lit (.int 1)))) (.var 7)) (.lit (.int 0)) (.lit (.int 2)))) (.bin .add (.idx (.idx (.var 2) (.var 8)) (.var 5)) (.lit (.int 2))))],.app 4 (.bi .min [(.var 6)])],.put 2 (.var 3) (.var 4)],
 .ret (.idx (.idx (.var 2) (.lit (.int 0))) (.lit (.int 4)))]
noncomputable def Aib:Ahc:=⟨2,9,Qg⟩
noncomputable def Ail:List S:=[
 .asg 1 (.list [(.lit (.int 46)),(.lit (.int 1016)),(.lit (.int 1591)),(.lit (.int 36))]),
 .for (.t [2,3]) (.enum (.slc (.var 0) none (some (.lit (.int 60))) false)) [.Ahq .add 1 (.bin .mod (.var 2) (.lit (.int 4))) (.bin .mod (.var 3) (.bin .pow (.lit (.int 10)) (.lit (.int 6))))],
 .asg 4 (.call (.glob (.fn 101)) [(.idx (.var 1) (.lit (.int 2)))] false),
 .asg 5 (.comp (.idx (.glob tokD) (.var 37)) [(.v 37,(.var 4),[])]),
 .asg 6 (.comp (.bin .mod (.bin .fdiv (.idx (.var 1) (.lit (.int 0))) (.bin .pow (.lit (.int 3)) (.var 38))) (.lit (.int 3))) [(.v 38,(.bi .range [(.lit (.int 4))]),[])]),
 .asg 7 (.ite (.cmp .eq (.bin .mod (.bin .fdiv (.idx (.var 1) (.lit (.int 1))) (.lit (.int 1024))) (.lit (.int 2))) (.lit (.int 0))) (.comp (.bin .mod (.bin .fdiv (.idx (.var 1) (.lit (.int 1))) (.bin .pow (.lit (.int 4)) (.var 39))) (.lit (.int 4))) [(.v 39,(.bi .range [(.lit (.int 5))]),[])]) (.var 6)),
 .asg 8 (.call (.glob (.fn 113)) [(.comp (.var 40) [(.v 40,(.var 7),[(.cmp .lt (.var 40) (.lit (.int 3)))])])] false),
 .Ah0 [9,10] (.call (.glob (.fn 120)) [(.var 8),(.var 5)] false),
 .Ahs [11,12] [.Ahr,(.list [])],
 .for (.v 13) (.bin .add (.bin .add (.var 10) (.bi .list [(.bi .range [(.lit (.int 252)),(.lit (.int 260))])])) (.list [(.neg (.lit (.int 1))),(.bi .sum [(.var 1)]),(.neg (.bi .sum [(.var 1)]))])) [.ite (.or [(.cmp .isNot (.call (.glob (.fn 38)) [(.var 13)] false) (.cmp .lt (.var 13) (.lit (.int 256)))),(.cmp .isNot (.call (.glob (.fn 45)) [(.var 13)] false) (.cmp .gt (.var 13) (.lit (.int 255)))),(.cmp .isNot (.call (.glob (.fn 52)) [(.var 13)] false) (.cmp .eq (.var 13) (.lit (.int 0))))]) [.ret (.lit (.bool false))] [],.app 12 (.var 13),.ite (.call (.glob (.fn 52)) [(.var 13)] false) [.put 11 (.idx (.var 12) (.lit (.int 0))) (.slc (.var 12) (some (.lit (.int 1))) (some (.neg (.lit (.int 1)))) false),.asg 12 (.list [])] []],
 .asg 14 (.comp (.meth .join (.lit (.str [])) [(.comp (.idx (.var 4) (.meth .index (.var 5) [(.var 42)])) [(.v 42,(.var 41),[])])]) [(.v 41,(.call (.glob (.fn 125)) [(.var 11),(.lit (.int 256))] false),[])]),
 .Ahs [15,16,17] [(.bi .len [(.idx (.var 14) (.lit (.int 0)))]),(.list []),(.list [])],
 .for (.v 18) (.bi .range [(.lit (.int 16))]) [.asg 19 (.comp (.idx (.var 6) (.var 43)) [(.v 43,(.bi .range [(.lit (.int 4))]),[(.cmp .eq (.bin .mod (.bin .fdiv (.var 18) (.bin .pow (.lit (.int 2)) (.var 43))) (.lit (.int 2))) (.lit (.int 1)))])]),.asg 12 (.meth .join (.lit (.str [])) [(.comp (.idx (.var 4) (.var 44)) [(.v 44,(.var 19),[])])]),.asg 20 (.bin .mul (.lit (.int 2)) (.bin .sub (.bi .len [(.var 12)]) (.var 15))),.asg 21 (.comp (.ite (.bin .mod (.var 18) (.lit (.int 3))) (.tup [(.var 45),(.var 12)]) (.tup [(.var 12),(.var 45)])) [(.v 45,(.var 14),[])]),.asg 22 (.comp (.call (.glob (.fn 28)) [(.var 46),(.var 47),(.bin .add (.var 20) (.bin .mod (.bin .fdiv (.idx (.var 1) (.lit (.int 3))) (.lit (.int 125))) (.lit (.int 4))))] false) [(.t [46,47],(.var 21),[])]),.ext 17 (.var 22),.app 16 (.ite (.cmp .isIn (.var 20) (.var 22)) (.bin .sub (.lit (.int 1)) (.bin .mul (.bin .mod (.bi .len [(.var 12)]) (.lit (.int 2))) (.lit (.int 2)))) (.lit (.int 0))),.asg 23 (.bi .sum [(.comp (.idx (.var 16) (.var 48)) [(.v 48,(.bi .range [(.bin .add (.var 18) (.lit (.int 1)))]),[(.cmp .eq (.bin .band (.var 48) (.var 18)) (.var 48))])])]),.ite (.or [(.cmp .lt (.bi .min [(.var 22)]) (.var 20)),(.cmp .ne (.var 23) (.ite (.cmp .eq (.call (.glob (.fn 113)) [(.var 19)] false) (.var 8)) (.bin .sub (.lit (.int 1)) (.bin .mul (.bin .mod (.var 15) (.lit (.int 2))) (.lit (.int 2)))) (.lit (.int 0))))]) [.ret (.lit (.bool false))] []],
 .asg 24 (.lit (.int 13)),
 .for (.v 25) (.var 14) [.app 17 (.call (.glob (.fn 28)) [(.var 12),(.var 25),(.bin .sub (.var 24) (.lit (.int 1)))] false),.asg 24 (.bi .min [(.var 24),(.idx (.var 17) (.neg (.lit (.int 1))))])],
 .ite (.or [(.cmp .ne (.var 24) (.call (.glob (.fn 132)) [(.var 9),(.var 6)] false)),(.cmp .ne (.var 5) (.comp (.bin .add (.lit (.int 7)) (.meth .index (.lit (.str [40,41,91,93,58,44,59,43,45,42,47,124,38,60,62,61,46,37,123,125])) [(.var 49)])) [(.v 49,(.var 4),[])]))]) [.ret (.lit (.bool false))] [],
 .Ah0 [26,27] (.call (.glob (.fn 106)) [(.bin .mod (.idx (.var 1) (.lit (.int 3))) (.lit (.int 5)))] false),
 .asg 28 (.idx (.lit (.str [34,13,10,9,32])) (.bin .mod (.bin .fdiv (.idx (.var 1) (.lit (.int 3))) (.lit (.int 5))) (.lit (.int 5)))),
 .asg 29 (.meth .join (.var 28) [(.bin .add (.list [(.var 12)]) (.var 14))]),
 .asg 30 (.call (.var 26) [(.var 29)] false),
 .ite (.cmp .ne (.var 30) (.meth .join (.lit (.str [])) [(.comp (.meth .get (.var 27) [(.var 50),(.var 50)]) [(.v 50,(.var 29),[])])])) [.ret (.lit (.bool false))] [],
 .asg 31 (.meth .split (.var 30) [(.meth .get (.var 27) [(.var 28),(.var 28)])]),
 .asg 32 (.bin .mod (.bin .fdiv (.idx (.var 1) (.lit (.int 3))) (.lit (.int 25))) (.bi .len [(.var 14)])),
 .asg 33 (.bin .mul (.lit (.int 2)) (.bin .sub (.bi .len [(.idx (.var 31) (.lit (.int 0)))]) (.bi .len [(.idx (.var 31) (.bin .add (.lit (.int 1)) (.var 32)))]))),
 .app 17 (.call (.glob (.fn 28)) [(.idx (.var 31) (.bin .add (.lit (.int 1)) (.var 32))),(.idx (.var 31) (.lit (.int 0))),(.var 33)] false),
 .ite (.cmp .ne (.cmp .eq (.idx (.var 17) (.neg (.lit (.int 1)))) (.var 33)) (.cmp .eq (.idx (.var 22) (.var 32)) (.var 20))) [.ret (.lit (.bool false))] [],
 .asg 34 (.comp (.call (.var 26) [(.var 51)] false) [(.v 51,(.var 4),[])]),
 .for (.t [35,36]) (.comp (.tup [(.var 52),(.var 53)]) [(.v 52,(.var 34),[]),(.v 53,(.var 34),[])]) [.asg 20 (.ite (.cmp .ne (.idx (.var 35) (.lit (.int 0))) (.idx (.var 36) (.lit (.int 0)))) (.bin .mul (.lit (.int 2)) (.bi .max [(.bi .len [(.var 35)]),(.bi .len [(.var 36)])])) (.ite (.cmp .eq (.bi .len [(.var 35)]) (.bi .len [(.var 36)])) (.lit (.int 3)) (.lit (.int 6)))),.asg 20 (.ite (.cmp .eq (.var 35) (.var 36)) (.bi .len [(.comp (.var 54) [(.v 54,(.var 35),[(.cmp .isIn (.var 54) (.lit (.str [97,109,112,108,116,103])))])])]) (.var 20)),.ext 17 (.list [(.call (.glob (.fn 28)) [(.var 35),(.meth .upper (.var 36) []),(.var 20)] false),(.call (.glob (.fn 28)) [(.meth .upper (.var 35) []),(.var 36),(.var 20)] false)]),.ite (.cmp .ne (.slc (.var 17) (some (.neg (.lit (.int 2)))) none false) (.list [(.var 20),(.var 20)])) [.ret (.lit (.bool false))] []],
 .ret (.cmp .eq (.comp (.var 55) [(.v 55,(.bin .add (.var 17) (.var 5)),[(.or [(.bi .isBool [(.var 55)]),(.not (.bi .isInt [(.var 55)]))])])]) (.list []))]
noncomputable def Aic:Ahc:=⟨1,56,Ail⟩
noncomputable def P:List (Nat×Ahc):=[(21,Ah2),(28,Ah3),(38,Ah4),(45,Ah5),(52,Ah6),(66,Ll),(73,J7),(80,F8),(87,G6),(94,F9),(101,Ah9),(106,Ah8),(113,Aia),(120,Me),(125,Ah7),(132,Aib),(137,Aic)]
end G1
end
section
open PySem PySem.W PyProof.Rows Mine
namespace G1
noncomputable def nd(s:String)(d:D):Str×D:=(Str.ofString s,d)
noncomputable def Aa6:List (Str×Nat):=[(Str.ofString "_substitution_cost",21),(Str.ofString "_levenshtein_distance",28),(Str.ofString "ISTERMINAL",38),(Str.ofString "ISNONTERMINAL",45),(Str.ofString "ISEOF",52),(Str.ofString "_raise_serialization_error",59),(Str.ofString "_escape_cdata",66),(Str.ofString "_escape_attrib",73),(Str.ofString "_escape_attrib_html",80),(Str.ofString "_escape_cdata_c14n",87),(Str.ofString "_escape_attrib_c14n",94),(Str.ofString "_law_signs",101),(Str.ofString "_law_hand",106),(Str.ofString "_law_made",113),(Str.ofString "_law_grammar",120),(Str.ofString "_law_rows",125),(Str.ofString "_law_price",132),(Str.ofString "law",137)]
noncomputable def Xy:List (Str×Int×Tok):=[(Str.ofString "_MAX_STRING_SIZE",40,189),(Str.ofString "_MOVE_COST",2,191),(Str.ofString "_CASE_COST",1,193),(Str.ofString "ENDMARKER",0,225),(Str.ofString "NT_OFFSET",256,323)]
noncomputable def globs:List (Str×D):=Aa6.map (fun q=>(q.1,.fn q.2))++(Xy.map (fun q=>(q.1,.int q.2.1))++[nd "EXACT_TOKEN_TYPES" tokD])
noncomputable def Gm(x:Str):Option D:=globs.lookup x
def KH(h:Heap):Prop:=Ex5 fun p loose mean mg mb=>(KF1 p).In h∧Top vw1 loose mean mg mb h
end G1
namespace Mine
noncomputable def prog:Program:=rr1.prog
def Ad0(w:World)(d:DefRec)(kwd:List (Str×Expr)):Prop:=WalkO vw1 [Str.ofString "EXACT_TOKEN_TYPES"] (XL vw1 []) (fun w' h=>H1.says w' h∧w'=w) rr1.toRowW d kwd fun f vs=>PySem.call f vs
def Ag1(w:World):Prop:=¬ ∀d kwd,defOf vw1 rr1.name=some (d,kwd)→Ad0 w d kwd
noncomputable def w:World:=@Classical.epsilon World ⟨⟨fun ζ ζ=>0,{ strHash:=fun ζ=>0,shareClass:=fun ζ=>0,mergeTok:=id,idOf:=fun ζ=>0,idOfShared:=fun ζ ζ=>0,followText:=fun ζ=>false,idOfImm:=fun ζ=>0 }⟩⟩ Ag1
theorem w_all(h:∀d kwd,defOf vw1 rr1.name=some (d,kwd)→Ad0 w d kwd){d:DefRec}{kwd:List (Str×Expr)}(hd:defOf vw1 rr1.name=some (d,kwd)) :
  WalkO vw1 [Str.ofString "EXACT_TOKEN_TYPES"] (XL vw1 []) H1.says rr1.toRowW d kwd fun f vs=>PySem.call f vs:=by
 intro w' s₀ s₁ mg mb g y
 by_cases b:Ag1 w'
 ·exact absurd h (@Classical.epsilon_spec World Ag1 ⟨w',b⟩)
 ·exact Classical.not_not.mp b d kwd hd w' s₀ s₁ mg mb g ⟨y,rfl⟩
noncomputable def G:Str→Option D:=G1.Gm
def K:Heap→Prop:=G1.KH
end Mine
end
section
open PySem PySem.W PyProof.Rows
namespace Mine
noncomputable def mkS(s:List Nat):Str:=⟨s.toArray⟩
mutual
inductive Ahb(h:Heap)(k:Tok)(M:Addr→Prop):Value→D→Prop
 |none:Ahb h k M .none .none
 |bool (b:Bool):Ahb h k M (.bool b) (.bool b)
 |int (i:Int) (t:Tok):Ahb h k M (.int i t) (.int i)
 |str {s:List Nat} (t:Tok):s.length≤line→Ahb h k M (.str (mkS s) t) (.str s)
 |Ahj {s:List Nat} {t:Tok}:s.length≤line→t≠0→t<k→Ahb h k M (.str (mkS s) t) (.Ahj s)
 |fn {a:Addr} {o:Obj}:¬M a→h.get? a=some o→Ahb h k M (.ref a) (.fn a)
 |list {a:Addr} {vs:List Value} {ds:List D} {n:Nat}:¬M a→IsL h a vs.toArray n→Ag8 h k M vs ds→ds.length≤line→Ahb h k M (.ref a) (.list ds)
 |Ahm {a:Addr} {vs:List Value} {ds:List D}:¬M a→h.IsList a vs.toArray→Ag8 h k M vs ds→ds.length≤line→Ahb h k M (.ref a) (.Ahm ds)
 |tup {a:Addr} {vs:List Value} {ds:List D} {n:Nat}:¬M a→IsT h a vs.toArray n→Ag8 h k M vs ds→Ahb h k M (.ref a) (.tup ds)
 |rng {r:Addr} {a b c:Int} {t u v:Tok}:¬M r→IsRange h r a b c t u v→Ahb h k M (.ref r) (.rng a b c)
 |Ahe {a:Addr} {kvs:List (Int×Value)} {es:List (Int×D)}:¬M a→(a == sysModules)=false→h.DictOf (intKind prog w) a kvs→Aha h k M kvs es→Ahb h k M (.ref a) (.Ahe es)
 |Ahf {a:Addr} {kvs:List (Str×Value)} {es:List (List Nat×D)}:¬M a→(a == sysModules)=false→h.DictOf (strKind prog w) a kvs→Ag9 h k M kvs es→Ahb h k M (.ref a) (.Ahf es)
inductive Ag8(h:Heap)(k:Tok)(M:Addr→Prop):List Value→List D→Prop
 |nil:Ag8 h k M [] []
 |cons {v:Value} {d:D} {vs:List Value} {ds:List D}:Ahb h k M v d→Ag8 h k M vs ds→Ag8 h k M (v :: vs) (d :: ds)
inductive Aha(h:Heap)(k:Tok)(M:Addr→Prop):List (Int×Value)→List (Int×D)→Prop
 |nil:Aha h k M [] []
 |cons {j:Int} {v:Value} {d:D} {vs:List (Int×Value)} {ds:List (Int×D)}:Ahb h k M v d→Aha h k M vs ds→Aha h k M ((j,v) :: vs) ((j,d) :: ds)
inductive Ag9(h:Heap)(k:Tok)(M:Addr→Prop):List (Str×Value)→List (List Nat×D)→Prop
 |nil:Ag9 h k M [] []
 |cons {j:List Nat} {v:Value} {d:D} {vs:List (Str×Value)} {ds:List (List Nat×D)}:Ahb h k M v d→Ag9 h k M vs ds→Ag9 h k M ((mkS j,v) :: vs) ((j,d) :: ds)
end
section
variable (h:Heap) (k:Tok) (M:Addr→Prop)
def Acp(v:Value):D→Prop
 |.none=>v=.none
 |.bool b=>v=.bool b
 |.int i=>∃t,v=.int i t
 |.str s=>∃t,v=.str (mkS s) t∧s.length≤line
 |.Ahj s=>∃t,v=.str (mkS s) t∧s.length≤line∧t≠0∧t<k
 |.fn a=>∃o,v=.ref a∧¬M a∧h.get? a=some o
 |.list ds=>Ex3 fun a vs n=>And5 (v=.ref a) (¬M a) (IsL h a vs.toArray n) (Ag8 h k M vs ds) (ds.length≤line)
 |.Ahm ds=>Ex2 fun a vs=>And5 (v=.ref a) (¬M a) (h.IsList a vs.toArray) (Ag8 h k M vs ds) (ds.length≤line)
 |.tup ds=>Ex3 fun a vs n=>And4 (v=.ref a) (¬M a) (IsT h a vs.toArray n) (Ag8 h k M vs ds)
 |.rng a b c=>Ex4 fun r t u v'=>And3 (v=.ref r) (¬M r) (IsRange h r a b c t u v')
 |.Ahe es=>Ex2 fun a kvs=>And5 (v=.ref a) (¬M a) ((a == sysModules)=false) (h.DictOf (intKind prog w) a kvs) (Aha h k M kvs es)
 |.Ahf es=>Ex2 fun a kvs=>And5 (v=.ref a) (¬M a) ((a == sysModules)=false) (h.DictOf (strKind prog w) a kvs) (Ag9 h k M kvs es)
def Zj(vs:List Value):List D→Prop
 |[]=>vs=[]
 |d :: ds=>Ex2 fun v r=>And3 (vs=v :: r) (Ahb h k M v d) (Ag8 h k M r ds)
end
theorem Ahb.inv{h:Heap}{k:Tok}{M:Addr→Prop}{v:Value}{d:D}(r:Ahb h k M v d):Acp h k M v d:=by
 induction r using Ahb.casesOn with
 |none=>exact rfl
 |bool=>exact rfl
 |int _ t=>exact ⟨t,rfl⟩
 |str t z=>exact ⟨t,rfl,z⟩
 |Ahj z a b=>exact ⟨_,rfl,z,a,b⟩
 |fn m e=>exact ⟨_,rfl,m,e⟩
 |list m l r z=>exact ⟨_,_,_,rfl,m,l,r,z⟩
 |Ahm m l r z=>exact ⟨_,_,rfl,m,l,r,z⟩
 |tup m l r=>exact ⟨_,_,_,rfl,m,l,r⟩
 |rng m l=>exact ⟨_,_,_,_,rfl,m,l⟩
 |Ahe m n l r=>exact ⟨_,_,rfl,m,n,l,r⟩
 |Ahf m n l r=>exact ⟨_,_,rfl,m,n,l,r⟩
theorem Ag8.inv{h:Heap}{k:Tok}{M:Addr→Prop}{v:List Value}{d:List D}(r:Ag8 h k M v d):Zj h k M v d:=
 by induction r using Ag8.casesOn with | nil=>exact rfl | cons a b=>exact ⟨_,_,rfl,a,b⟩
section
variable {h:Heap} {k:Tok} {M:Addr→Prop}
theorem Ag8.ind{P:(vs:List Value)→(ds:List D)→Ag8 h k M vs ds→Prop}(nil:P [] [] .nil)(cons:∀(v:Value) (d:D) (vs:List Value) (ds:List D) (a:Ahb h k M v d) (r:Ag8 h k M vs ds),P vs ds r→P (v :: vs) (d :: ds) (.cons a r)){vs:List Value}{ds:List D}(r:Ag8 h k M vs ds):P vs ds r:=by
 exact Ag8.rec (motive_1:=fun ζ ζ ζ=>True) (motive_2:=P) (motive_3:=fun ζ ζ ζ=>True) (motive_4:=fun ζ ζ ζ=>True) (by intros;trivial) (by intros;trivial) (by intros;trivial) (by intros;trivial) (by intros;trivial) (by intros;trivial) (by intros;trivial) (by intros;trivial) (by intros;trivial) (by intros;trivial) (by intros;trivial) (by intros;trivial) nil (fun a r ζ ih=>cons _ _ _ _ a r ih) (by intros;trivial) (by intros;trivial) (by intros;trivial) (by intros;trivial) r
theorem Aha.ind{P:(vs:List (Int×Value))→(ds:List (Int×D))→Aha h k M vs ds→Prop}(nil:P [] [] .nil)(cons:∀(j:Int) (v:Value) (d:D) (vs:List (Int×Value)) (ds:List (Int×D)) (a:Ahb h k M v d) (r:Aha h k M vs ds),P vs ds r→P ((j,v) :: vs) ((j,d) :: ds) (.cons a r)){vs:List (Int×Value)}{ds:List (Int×D)}(r:Aha h k M vs ds):P vs ds r:=by
 exact Aha.rec (motive_1:=fun ζ ζ ζ=>True) (motive_2:=fun ζ ζ ζ=>True) (motive_3:=P) (motive_4:=fun ζ ζ ζ=>True) (by intros;trivial) (by intros;trivial) (by intros;trivial) (by intros;trivial) (by intros;trivial) (by intros;trivial) (by intros;trivial) (by intros;trivial) (by intros;trivial) (by intros;trivial) (by intros;trivial) (by intros;trivial) (by intros;trivial) (by intros;trivial) nil (fun a r ζ ih=>cons _ _ _ _ _ a r ih) (by intros;trivial) (by intros;trivial) r
theorem Ag9.ind{P:(vs:List (Str×Value))→(ds:List (List Nat×D))→Ag9 h k M vs ds→Prop}(nil:P [] [] .nil)(cons:∀(j:List Nat) (v:Value) (d:D) (vs:List (Str×Value)) (ds:List (List Nat×D)) (a:Ahb h k M v d) (r:Ag9 h k M vs ds),P vs ds r→P ((mkS j,v) :: vs) ((j,d) :: ds) (.cons a r)){vs:List (Str×Value)}{ds:List (List Nat×D)}(r:Ag9 h k M vs ds):P vs ds r:=by
 exact Ag9.rec (motive_1:=fun ζ ζ ζ=>True) (motive_2:=fun ζ ζ ζ=>True) (motive_3:=fun ζ ζ ζ=>True) (motive_4:=P) (by intros;trivial) (by intros;trivial) (by intros;trivial) (by intros;trivial) (by intros;trivial) (by intros;trivial) (by intros;trivial) (by intros;trivial) (by intros;trivial) (by intros;trivial) (by intros;trivial) (by intros;trivial) (by intros;trivial) (by intros;trivial) (by intros;trivial) (by intros;trivial) nil (fun a r ζ ih=>cons _ _ _ _ _ a r ih) r
end
structure Step(h:Heap)(M T:Addr→Prop)(h':Heap)(M' T':Addr→Prop):Prop where
 keep:∀b o,¬M b→h.get? b=some o→h'.get? b=some o
 pend:∀b o,M b→¬T b→h.get? b=some o→h'.get? b=some o∧M' b
 old:∀b,M' b→M b∨h.get? b=none
 Aiq:∀b,T' b→T b∨h.get? b=none
theorem Step.refl(h:Heap)(M T:Addr→Prop):Step h M T h M T:=⟨fun ζ ζ ζ e=>e,fun ζ ζ m ζ e=>⟨e,m⟩,fun ζ m=>.inl m,fun ζ m=>.inl m⟩
theorem Step.trans{h₁ h₂ h₃:Heap}{M₁ M₂ M₃ T₁ T₂ T₃:Addr→Prop}(x:Step h₁ M₁ T₁ h₂ M₂ T₂)(y:Step h₂ M₂ T₂ h₃ M₃ T₃):Step h₁ M₁ T₁ h₃ M₃ T₃:=by
 have nk:∀b o,¬M₁ b→h₁.get? b=some o→¬M₂ b:=fun b o m e m₂=>by
  rcases x.old b m₂ with q | q
  ·exact m q
  ·rw [q] at e;exact nos e
 refine ⟨fun b o m e=>y.keep b o (nk b o m e) (x.keep b o m e),fun b o m t e=>?_,fun b m=>?_,fun b t=>?_⟩
 ·obtain ⟨e₂,m₂⟩:=x.pend b o m t e
  refine y.pend b o m₂ (fun t₂=>?_) e₂
  rcases x.Aiq b t₂ with q | q
  ·exact t q
  ·rw [q] at e;exact nos e
 ·rcases y.old b m with m₂ | n
  ·exact x.old b m₂
  ·cases q:h₁.get? b with
   |none=>exact .inr rfl
   |some o=>
    by_cases m₁:M₁ b
    ·exact .inl m₁
    ·rw [x.keep b o m₁ q] at n;exact nos n.symm
 ·rcases y.Aiq b t with t₂ | n
  ·exact x.Aiq b t₂
  ·cases q:h₁.get? b with
   |none=>exact .inr rfl
   |some o=>
    by_cases m₁:M₁ b
    ·by_cases t₁:T₁ b
     ·exact .inl t₁
     ·rw [(x.pend b o m₁ t₁ q).1] at n;exact nos n.symm
    ·rw [x.keep b o m₁ q] at n;exact nos n.symm
theorem Step.out{h h':Heap}{M M' T T':Addr→Prop}(x:Step h M T h' M' T'){a:Addr}{o:Obj}(m:¬M a)(e:h.get? a=some o):¬M' a:=fun m'=>by
 rcases x.old a m' with q | q
 ·exact m q
 ·rw [e] at q;exact nos q.symm
theorem IsList.at{h h':Heap}{a:Addr}{items:Array Value}(x:h.IsList a items)(k:∀o,h.get? a=some o→h'.get? a=some o):h'.IsList a items:=let ⟨o,e,r⟩:=x;⟨o,k o e,r⟩
theorem IsList.some{h:Heap}{a:Addr}{items:Array Value}(x:h.IsList a items):∃o,h.get? a=some o:=let ⟨o,e,_⟩:=x;⟨o,e⟩
theorem DictOf.some{K:Type}[DecidableEq K]{knd:KeyKind prog w K}{h:Heap}{a:Addr}{kvs:List (K×Value)}(x:h.DictOf knd a kvs):∃o,h.get? a=some o:=let ⟨o,_,_,e,_⟩:=x;⟨o,e⟩
def Bc(h:Heap)(M:Addr→Prop):Prop:=∀b,M b→∃o,h.get? b=some o
section
variable {h h':Heap} {k k':Tok} {M M' T T':Addr→Prop}
theorem Ahb.mono(x:Step h M T h' M' T')(lk:k≤k'){v:Value}{d:D}(r:Ahb h k M v d):Ahb h' k' M' v d:=
 Ahb.rec (motive_1:=fun v d ζ=>Ahb h' k' M' v d) (motive_2:=fun v d ζ=>Ag8 h' k' M' v d) (motive_3:=fun v d ζ=>Aha h' k' M' v d) (motive_4:=fun v d ζ=>Ag9 h' k' M' v d)
  .none .bool .int (fun t l=>.str t l) (fun l t q=>.Ahj l t (Nat.lt_of_lt_of_le q lk)) (fun m e=>.fn (x.out m e) (x.keep _ _ m e))
  (fun m l ζ z r=>.list (x.out m l) (x.keep _ _ m l) r z) (fun m l ζ z r=>.Ahm (x.out m (IsList.some l).choose_spec) (IsList.at l fun ζ e=>x.keep _ _ m e) r z)
  (fun m l ζ r=>.tup (x.out m l) (x.keep _ _ m l) r) (fun m l=>.rng (x.out m l) (x.keep _ _ m l))
  (fun m n l ζ r=>.Ahe (x.out m (DictOf.some l).choose_spec) n (l.at fun ζ e=>x.keep _ _ m e) r) (fun m n l ζ r=>.Ahf (x.out m (DictOf.some l).choose_spec) n (l.at fun ζ e=>x.keep _ _ m e) r)
  .nil (fun ζ ζ a b=>.cons a b) .nil (fun ζ ζ a b=>.cons a b) .nil (fun ζ ζ a b=>.cons a b) r
theorem Ag8.mono(x:Step h M T h' M' T')(lk:k≤k'){v:List Value}{d:List D}(r:Ag8 h k M v d):Ag8 h' k' M' v d:=by
 induction r using Ag8.ind with | nil=>exact .nil | cons _ _ _ _ a _ ih=>exact .cons (a.mono x lk) ih
theorem Aha.mono(x:Step h M T h' M' T')(lk:k≤k'){v:List (Int×Value)}{d:List (Int×D)}(r:Aha h k M v d):Aha h' k' M' v d:=by
 induction r using Aha.ind with | nil=>exact .nil | cons _ _ _ _ _ a _ ih=>exact .cons (a.mono x lk) ih
theorem Ag9.mono(x:Step h M T h' M' T')(lk:k≤k'){v:List (Str×Value)}{d:List (List Nat×D)}(r:Ag9 h k M v d):Ag9 h' k' M' v d:=by
 induction r using Ag9.ind with | nil=>exact .nil | cons _ _ _ _ _ a _ ih=>exact .cons (a.mono x lk) ih
end
structure Ext(s s':Shared):Prop where
 keep:∀b o,s.heap.get? b=some o→s'.heap.get? b=some o
 gens:s'.gens=s.gens
 os:s'.os=s.os
 toks:s.toks≤s'.toks
theorem Ext.refl(s:Shared):Ext s s:=⟨fun ζ ζ e=>e,rfl,rfl,Nat.le_refl _⟩
theorem Ext.trans{s₁ s₂ s₃:Shared}(x:Ext s₁ s₂)(y:Ext s₂ s₃):Ext s₁ s₃:=⟨fun b o e=>y.keep b o (x.keep b o e),y.gens.trans x.gens,y.os.trans x.os,Nat.le_trans x.toks y.toks⟩
theorem Ext.tk(s:Shared){n:Nat}(h:s.toks≤n):Ext s { s with toks:=n }:=⟨fun ζ ζ e=>e,rfl,rfl,h⟩
theorem Ext.tk1(s:Shared):Ext s { s with toks:=s.toks+1 }:=Ext.tk s (Nat.le_succ _)
theorem Ext.tk2(s:Shared):Ext s { s with toks:=s.toks+1+1 }:=Ext.tk s (Nat.le_succ_of_le (Nat.le_succ _))
theorem Ext.push(s:Shared)(o:Obj):Ext s { s with heap:=s.heap.push o }:=⟨fun ζ ζ e=>Heap.get?_push_of_some o e,rfl,rfl,Nat.le_refl _⟩
theorem Ext.pushTk(s:Shared)(o:Obj){n:Nat}(h:s.toks≤n):Ext s { s with heap:=s.heap.push o,toks:=n }:=⟨fun ζ ζ e=>Heap.get?_push_of_some o e,rfl,rfl,h⟩
theorem Ext.step{s s':Shared}(x:Ext s s')(M T:Addr→Prop):Step s.heap M T s'.heap M T:=⟨fun b o ζ e=>x.keep b o e,fun b o m ζ e=>⟨x.keep b o e,m⟩,fun ζ m=>.inl m,fun ζ m=>.inl m⟩
theorem Ext.Ahd{s s':Shared}(x:Ext s s'){M:Addr→Prop}(S:Bc s.heap M):Bc s'.heap M:=fun b m=>let ⟨o,e⟩:=S b m;⟨o,x.keep b o e⟩
theorem A9(h:Heap):h.get? h.objs.size=none:=by
 cases e:h.get? h.objs.size with
 |none=>rfl
 |some o=>exact absurd (Heap.lt_size e) (Nat.lt_irrefl _)
theorem Bc.fresh{h:Heap}{M:Addr→Prop}(S:Bc h M):¬M h.objs.size:=fun m=>by
 obtain ⟨o,e⟩:=S _ m
 rw [A9] at e;exact nos e
theorem Ahb.ext{s s':Shared}{M:Addr→Prop}(x:Ext s s'){v:Value}{d:D}(r:Ahb s.heap s.toks M v d):Ahb s'.heap s'.toks M v d:=r.mono (x.step M M) x.toks
theorem Ag8.ext{s s':Shared}{M:Addr→Prop}(x:Ext s s'){v:List Value}{d:List D}(r:Ag8 s.heap s.toks M v d):Ag8 s'.heap s'.toks M v d:=r.mono (x.step M M) x.toks
section
variable {h:Heap} {k:Tok} {M:Addr→Prop} {vs vs':List Value} {ds ds':List D}
theorem Ag8.len(r:Ag8 h k M vs ds):vs.length=ds.length:=by
 induction r using Ag8.ind with | nil=>rfl | cons _ _ _ _ _ _ ih=>exact congrArg Nat.succ ih
theorem Ag8.append(x:Ag8 h k M vs ds)(y:Ag8 h k M vs' ds'):Ag8 h k M (vs++vs') (ds++ds'):=by
 induction x using Ag8.ind with | nil=>exact y | cons _ _ _ _ a _ ih=>exact .cons a ih
theorem Ag8.get(r:Ag8 h k M vs ds){i:Nat}{d:D}(e:ds[i]? = some d):∃v,vs[i]? = some v∧Ahb h k M v d:=by
 induction r using Ag8.ind generalizing i with
 |nil=>exact nos e
 |cons v d' _ _ a _ ih=>
  induction i using Nat.casesAuxOn with
  |zero=>obtain rfl:=Ag (show some d'=some d from e);exact ⟨v,rfl,a⟩
  |succ i=>exact ih e
theorem Ag8.drop(r:Ag8 h k M vs ds)(n:Nat):Ag8 h k M (vs.drop n) (ds.drop n):=by
 induction r using Ag8.ind generalizing n with
 |nil=>induction n using Nat.casesAuxOn with | zero=>exact .nil | succ _=>exact .nil
 |cons _ _ _ _ a r ih=>induction n using Nat.casesAuxOn with | zero=>exact .cons a r | succ n=>exact ih n
theorem Ag8.take(r:Ag8 h k M vs ds)(n:Nat):Ag8 h k M (vs.take n) (ds.take n):=by
 induction r using Ag8.ind generalizing n with
 |nil=>induction n using Nat.casesAuxOn with | zero=>exact .nil | succ _=>exact .nil
 |cons _ _ _ _ a r ih=>induction n using Nat.casesAuxOn with | zero=>exact .nil | succ n=>exact .cons a (ih n)
theorem Ag8.set(r:Ag8 h k M vs ds)(i:Nat){v:Value}{d:D}(x:Ahb h k M v d):Ag8 h k M (vs.set i v) (ds.set i d):=by
 induction r using Ag8.ind generalizing i with
 |nil=>exact .nil
 |cons _ _ _ _ a r ih=>induction i using Nat.casesAuxOn with | zero=>exact .cons x r | succ i=>exact .cons a (ih i)
end
end Mine
end
section
open PySem PySem.W PyProof.Rows
namespace Mine
section
variable {A:Around} {E:Value→Shared→Prop} {s:Shared} {k:Tok} {M:Addr→Prop}
noncomputable def K3:Op→Operator
 |.add=>.Add | .sub=>.Sub | .mul=>.Mult | .fdiv=>.FloorDiv | .mod=>.Mod | .pow=>.Pow | .band=>.BitAnd
theorem Aw:line=1048576:=rfl
theorem Db{i:Int}:sml i=true ↔ -(2 ^ 63)<i∧i<2 ^ 63:=by
 exact decide_eq_true_iff.trans nab
theorem Ae(a:List Nat):(mkS a).length=a.length:=by simp [mkS,Str.length]
theorem Rc(a b:List Nat):mkS a++mkS b=mkS (a++b):=by
 show Str.mk (a.toArray++b.toArray)=Str.mk _
 rw [List.append_toArray]
theorem Ru(n:Nat)(a:List Nat)(b:Array Nat):(List.replicate n a.toArray).foldl (·++·) b=b++(reps n a).toArray:=by
 induction n generalizing b with
 |zero=>simp [reps]
 |succ n ih=>rw [List.replicate_succ,List.foldl_cons,ih];simp [reps,List.replicate_succ,Array.append_assoc]
theorem Ws{α:Type}(a:List α):reps 1 a=a:=by simp [reps]
theorem Ig{α:Type}(n:Nat)(a:List α):(reps n a).length=n * a.length:=by
 induction n with
 |zero=>simp [reps]
 |succ n ih=>rw [reps,List.replicate_succ,List.flatten_cons,List.length_append];show _+(reps n a).length=_;rw [ih,Nat.succ_mul,Nat.add_comm]
theorem Ag8.reps{h:Heap}{vs:List Value}{ds:List D}(x:Ag8 h k M vs ds):∀n:Nat,Ag8 h k M (reps n vs) (reps n ds)
 |0=>.nil
 |n+1=>by
  have q:=x.append (x.reps n)
  have e:∀ {α:Type} (l:List α),Mine.reps (n+1) l=l++Mine.reps n l:=fun l=>by rw [Mine.reps,List.replicate_succ,List.flatten_cons];rfl
  rw [e,e];exact q
theorem Kd{vs:List Value}{ds:List D}(S:Bc s.heap M)(r:Ag8 s.heap s.toks M vs ds)(z:ds.length≤line) :
  Ahb { s with heap:=s.heap.push { cls:=.type "list",data:=.seq vs.toArray } }.heap s.toks M (.ref s.heap.objs.size) (.list ds):=
 .list (n:=0) S.fresh (Heap.get?_push_size _ rfl) (r.ext (Ext.push ..)) z
theorem Sw{vs:List Value}{ds:List D}(S:Bc s.heap M)(r:Ag8 s.heap s.toks M vs ds) :
  Ahb { s with heap:=s.heap.push { cls:=.type "tuple",data:=.seq vs.toArray } }.heap s.toks M (.ref s.heap.objs.size) (.tup ds):=
 .tup (n:=0) S.fresh (Heap.get?_push_size _ rfl) (r.ext (Ext.push ..))
theorem Yb(n:Nat)(vs:List Value)(b:Array Value):List.foldl (fun x1 x2=>x1++x2) b (List.replicate n vs.toArray)=b++(reps n vs).toArray:=by
 induction n generalizing b with
 |zero=>simp [reps]
 |succ n ih=>rw [List.replicate_succ,List.foldl_cons,ih];simp [reps,List.replicate_succ,Array.append_assoc]
theorem Aat{l:Addr}{vs:List Value}{ds:List D}{n₀:Nat}{x:Int}{u:Tok}(S:Bc s.heap M)(hl:IsL s.heap l vs.toArray n₀)(r:Ag8 s.heap s.toks M vs ds)
  (hx : -(2 ^ 63)<x∧x<2 ^ 63) (hsz:ds.length * x.toNat≤line) {Q:Value→Shared→Prop} (hQ:∀v s',Ext s s'→Ahb s'.heap s'.toks M v (.list (reps x.toNat ds))→Q v s') :
  wpAny (model prog w) A (binaryOp .Mult (.ref l) (.int x u)) Q E s:=by
 have hz:vs.toArray.size * x.toNat≤2 ^ 20:=by rw [List.size_toArray,r.len];exact hsz
 refine wpAny_binaryOp_repeat_ref (T:= "list") (U:= "int") (by decide) ⟨_,hl,rfl⟩ (fun s'=>typeIs_int s' x u) noFill_list_mul F.fills_int_mul F.slot_int_rmul repeat_list F.slot_int_index.lookup
  (call_meets F.slot_int_rmul (typeIs_int s x u) F.entry_int_rmul (F.args_int_rmul_2 _ _) (int___rmul___int_list x u l vs.toArray n₀)
   ⟨hl,rfl,⟨_,hl,rfl⟩,call_meets F.slot_list_mul ⟨_,hl,rfl⟩ F.entry_list_mul (F.args_list_mul_2 _ _)
    (AutoListH.list___mul___list_int_3 l vs.toArray n₀ x u (by simp [Builtin.List.listFitsIndex];lia) (by lia) (by simp only [Builtin.List.listTooLong,sizeLine];simp;simp at hz;lia))
    ⟨hl,?_⟩⟩)
 have e:List.foldl (fun x1 x2=>x1++x2) #[] (List.replicate (if vs.toArray.isEmpty=true then 0 else x.toNat) vs.toArray)=(reps x.toNat vs).toArray:=by
  rw [Yb]
  induction vs using List.casesOn with
  |nil=>simp [reps]
  |cons v vs=>simp
 rw [e]
 exact hQ _ _ (Ext.push ..) (Kd S (r.reps _) (by rw [Ig,Nat.mul_comm];exact hsz))
theorem B3{α:Type}{a b:D}{f:Int→Int→Option α}{c:α}(e:G5 a b f=some c):Ex2 fun x y=>And3 (a=.int x) (b=.int y) (f x y=some c):=by
 induction a using D.casesOn with
 |int x=>induction b using D.casesOn with
  |int y=>exact ⟨x,y,rfl,rfl,e⟩
  |_=>exact nos e
 |_=>exact nos e
theorem Cd{α:Type}{p:Prop}[Decidable p]{x y:α}(e:(if p then some x else Option.none)=some y):p∧x=y:=by
 by_cases h:p
 ·rw [if_pos h] at e;exact ⟨h,Option.some.inj e⟩
 ·rw [if_neg h] at e;exact nos e
theorem J6{α:Type}{p:Prop}[Decidable p]{x:Option α}{y:α}(e:(if p then x else Option.none)=some y):p∧x=some y:=by
 by_cases h:p
 ·rw [if_pos h] at e;exact ⟨h,e⟩
 ·rw [if_neg h] at e;exact nos e
theorem Agh{o:Op}{a b d:D}{x y:Value}(S:Bc s.heap M)(hx:Ahb s.heap s.toks M x a)(hy:Ahb s.heap s.toks M y b)(e:A3 o a b=some d)
  {Q:Value→Shared→Prop} (hQ:∀v s',Ext s s'→Ahb s'.heap s'.toks M v d→Q v s'):wpAny (model prog w) A (binaryOp (K3 o) x y) Q E s:=by
 induction o using Op.casesOn with
 |add=>
  induction a using D.casesOn with
  |int i=>induction b using D.casesOn with
   |int j=>
    obtain ⟨t,rfl⟩:=hx.inv;obtain ⟨u,rfl⟩:=hy.inv;obtain rfl:=Ag e;exact PyProof.Rows.add_int (hQ _ _ (Ext.tk1 s) (.int _ _))
   |_=>exact nos e
  |str i=>induction b using D.casesOn with
   |str j=>
    obtain ⟨hl,rfl⟩:=Cd e
    obtain ⟨t,rfl,z₁⟩:=hx.inv;obtain ⟨u,rfl,z₂⟩:=hy.inv
    refine Ce (PyProof.Rows.add_str (fun t' tk hk=>?_) (by rw [Ae,Ae];rw [Aw] at hl;rw [sizeLine_eq];lia))
    rw [Rc];exact hQ _ _ (Ext.tk s hk) (.str _ (by rw [List.length_append,Aw];exact hl))
   |_=>exact nos e
  |list i=>induction b using D.casesOn with
   |list j=>
    obtain ⟨hl,rfl⟩:=Cd e
    obtain ⟨_,_,_,rfl,m₁,l₁,r₁,z₁⟩:=hx.inv;obtain ⟨_,_,_,rfl,m₂,l₂,r₂,z₂⟩:=hy.inv
    refine P.add_list l₁ l₂ ?_ (by rw [List.size_toArray,List.size_toArray,r₁.len,r₂.len];rw [Aw] at hl;rw [sizeLine_eq];lia)
    rw [List.append_toArray]
    exact hQ _ _ (Ext.push ..) (Kd S (r₁.append r₂) (by rw [List.length_append];exact hl))
   |_=>exact nos e
  |tup i=>induction b using D.casesOn with
   |tup j=>
    obtain ⟨hl,rfl⟩:=Cd e
    obtain ⟨hl,ha,hb⟩:=hl
    obtain ⟨_,_,_,rfl,m₁,l₁,r₁⟩:=hx.inv;obtain ⟨_,_,_,rfl,m₂,l₂,r₂⟩:=hy.inv
    have q₁:=r₁.len;have q₂:=r₂.len
    refine P.add_tuple l₁ l₂ (by rw [List.isEmpty_toArray,List.isEmpty_iff_length_eq_zero];lia) (by rw [List.isEmpty_toArray,List.isEmpty_iff_length_eq_zero];lia) ?_ (by rw [List.size_toArray,List.size_toArray,q₁,q₂];rw [Aw] at hl;rw [sizeLine_eq];lia)
    rw [List.append_toArray]
    exact hQ _ _ (Ext.push ..) (Sw S (r₁.append r₂))
   |_=>exact nos e
  |_=>exact nos e
 |sub=>
  obtain ⟨i,j,rfl,rfl,e⟩:=B3 e
  obtain ⟨t,rfl⟩:=hx.inv;obtain ⟨u,rfl⟩:=hy.inv;obtain rfl:=Ag e;exact PyProof.Rows.sub_int (hQ _ _ (Ext.tk1 s) (.int _ _))
 |mul=>
  induction b using D.casesOn with
  |int j=>induction a using D.casesOn with
   |int i=>
    obtain ⟨hl,rfl⟩:=Cd e
    rw [Bool.and_eq_true,Db,Db] at hl
    obtain ⟨t,rfl⟩:=hx.inv;obtain ⟨u,rfl⟩:=hy.inv;exact PyProof.Rows.mul_int (hQ _ _ (Ext.tk1 s) (.int _ _)) (IntMulOk.of_left (intBits_le_64 (by lia) (by lia)))
   |str i=>
    obtain ⟨hl,rfl⟩:=Cd e
    rw [Bool.and_eq_true,Db,decide_eq_true_eq,Aw] at hl
    obtain ⟨t,rfl,z₁⟩:=hx.inv;obtain ⟨u,rfl⟩:=hy.inv
    refine P.mul_str ?_ (fun h1 h2=>?_) (fun ζ ζ=>?_) ?_
    ·rw [Bool.or_eq_false_iff];exact ⟨decide_eq_false (by lia),decide_eq_false (by lia)⟩
    ·have h3:0<j:=by lia
     have h4:(i.length:Int) * j≤1048576:=by
      have:=hl.2
      have e:((i.length * j.toNat:Nat):Int)=i.length * j:=by rw [Int.natCast_mul,Int.toNat_of_nonneg (by exact Int.le_of_lt h3)]
      exact Nat.ToInt.of_le e rfl this
     rw [Ae,gt_iff_lt,Int.not_lt]
     exact Int.le_trans (Int.le_ediv_of_mul_le h3 h4) (Int.ediv_le_ediv h3 (by decide))
    ·unfold Builtin.Str.tooLong;rw [Ae];exact decide_eq_false (by rw [sizeLine_eq];lia)
    ·split
     ·rename_i h1
      have:j.toNat=0:=by lia
      rw [this] at hQ
      exact ⟨by decide,hQ _ _ (Ext.tk1 s) (.str (s:=[]) _ (Nat.zero_le _))⟩
     ·split
      ·rename_i h1 h2
       have e:reps j.toNat i=i:=by
        rw [Bool.or_eq_true,Ae,beq_iff_eq,beq_iff_eq] at h2
        rcases h2 with h2 | h2
        ·subst h2;exact Ws i
        ·have:=List.eq_nil_of_length_eq_zero h2
         subst this
         exact List.eq_nil_of_length_eq_zero (by rw [Ig];rfl)
       rw [e] at hQ
       exact hQ _ _ (Ext.refl _) (.str _ z₁)
      ·have e:(⟨(List.replicate j.toNat (mkS i).cps).foldl (·++·) #[]⟩ : Str)=mkS (reps j.toNat i):=by
        show Str.mk _=Str.mk _
        rw [show (mkS i).cps=i.toArray from rfl,Ru,Array.empty_append]
       rw [e]
       refine ⟨?_,hQ _ _ (Ext.tk1 s) (.str _ (by rw [Ig,Nat.mul_comm,Aw];exact hl.2))⟩
       rw [Ae,Ig,Nat.mul_comm,sizeLine_eq];lia
   |list i=>
    obtain ⟨hl,rfl⟩:=Cd e
    rw [Bool.and_eq_true,Db,decide_eq_true_eq] at hl
    obtain ⟨_,_,_,rfl,m₁,l₁,r₁,z₁⟩:=hx.inv;obtain ⟨u,rfl⟩:=hy.inv
    exact Aat S l₁ r₁ hl.1 hl.2 hQ
   |_=>exact nos e
  |_=>exact nos e
 |fdiv=>
  obtain ⟨i,j,rfl,rfl,e⟩:=B3 e
  obtain ⟨hl,rfl⟩:=Cd e
  rw [Bool.and_eq_true,Bool.and_eq_true,decide_eq_true_eq] at hl
  obtain ⟨t,rfl⟩:=hx.inv;obtain ⟨u,rfl⟩:=hy.inv;exact PyProof.Rows.floordiv_int hl.2 (hQ _ _ (Ext.tk1 s) (.int _ _)) (.inl (PyProof.noPylong_of_log2 (by
   by_cases h0:j.natAbs=0
   ·rw [h0];decide +kernel
   ·have h63:j.natAbs.log2<63:=(Nat.log2_lt h0).mpr (of_decide_eq_true hl.1.2)
    lia)))
 |mod=>
  obtain ⟨i,j,rfl,rfl,e⟩:=B3 e
  obtain ⟨hl,rfl⟩:=Cd e
  rw [decide_eq_true_eq] at hl
  obtain ⟨t,rfl⟩:=hx.inv;obtain ⟨u,rfl⟩:=hy.inv;exact PyProof.Rows.mod_int hl (hQ _ _ (Ext.tk1 s) (.int _ _))
 |pow=>
  obtain ⟨i,j,rfl,rfl,e⟩:=B3 e
  obtain ⟨hl,rfl⟩:=Cd e
  rw [Bool.and_eq_true,Bool.and_eq_true,decide_eq_true_eq,decide_eq_true_eq] at hl
  obtain ⟨t,rfl⟩:=hx.inv;obtain ⟨u,rfl⟩:=hy.inv;exact PyProof.Rows.pow_int_small hl.1.2 (by have:=hl.2;lia) (Nat.lt_trans (of_decide_eq_true hl.1.1) (by decide)) (hQ _ _ (Ext.tk1 s) (.int _ _))
 |band=>
  obtain ⟨i,j,rfl,rfl,e⟩:=B3 e
  obtain ⟨hl,rfl⟩:=Cd e
  rw [Bool.and_eq_true,decide_eq_true_eq,decide_eq_true_eq] at hl
  obtain ⟨t,rfl⟩:=hx.inv;obtain ⟨u,rfl⟩:=hy.inv
  refine PyProof.Rows.and_int ?_
  rw [bitAnd_pp hl.1 hl.2]
  exact hQ _ _ (Ext.tk1 s) (.int _ _)
end
end Mine
end
section
open PySem PySem.W PyProof.Rows PySem.SeqAt
set_option autoImplicit false
namespace Mine
section
variable {A:Around} {E:Value→Shared→Prop} {s:Shared} {k:Tok} {M:Addr→Prop}
noncomputable def Eu:Cmp→CmpOp
 |.eq=>.Eq | .ne=>.NotEq | .lt=>.Lt | .le=>.LtE | .gt=>.Gt | .ge=>.GtE | .isIn=>.In | .notIn=>.NotIn | .isNot=>.IsNot
theorem Ag8.isEmpty{h:Heap}{vs:List Value}{ds:List D}(r:Ag8 h k M vs ds):vs.isEmpty=ds.isEmpty:=by cases r <;> rfl
theorem Jo{d:D}{ds:List D}{l:List Int}(e:A1 (d :: ds)=some l):Ex2 fun i r=>And3 (d=.int i) (A1 ds=some r) (l=i :: r):=by
 obtain ⟨i,h1,e⟩:=bs e;obtain ⟨r,h2,rfl⟩:=ms e;exact ⟨i,r,Rl h1,h2,rfl⟩
theorem Ag8.ints{h:Heap}{vs:List Value}{ds:List D}{l:List Int}(r:Ag8 h k M vs ds)(e:A1 ds=some l):IntsAre vs l:=by
 induction r using Ag8.ind generalizing l with
 |nil=>obtain rfl:=Ag e;exact .nil
 |cons _ _ _ _ a r ih=>
  obtain ⟨i,l',rfl,e',rfl⟩:=Jo e
  obtain ⟨t,rfl⟩:=a.inv;exact .cons _ _ (ih e')
theorem Qs{ds:List D}{l:List Int}(e:A1 ds=some l):ds.length=l.length:=by
 induction ds generalizing l with
 |nil=>obtain rfl:=Ag e;rfl
 |cons d ds ih=>
  obtain ⟨i,l',rfl,e',rfl⟩:=Jo e
  exact congrArg Nat.succ (ih e')
theorem H7:∀(x y:List Int),x.length=y.length→((List.range x.length).all fun j=>x[j]? == y[j]?)=(x == y)
 |x,y,h=>by
  rw [Bool.eq_iff_iff,List.all_eq_true,beq_iff_eq]
  constructor
  ·intro q
   refine List.ext_getElem? fun j=>?_
   by_cases hj:j<x.length
   ·exact eq_of_beq (q j (List.mem_range.mpr hj))
   ·rw [List.getElem?_eq_none (by exact Nat.le_of_not_lt hj),List.getElem?_eq_none (by lia)]
  ·rintro rfl j _
   exact beq_self_eq_true _
theorem IntsAre.len{vs:List Value}{ns:List Int}(h:IntsAre vs ns):vs.length=ns.length:=IntsAre.length h
theorem IntsAre.at{vs:List Value}{ns:List Int}(h:IntsAre vs ns):∀(j:Nat) (hj:j<vs.length),∃t,vs[j]=.int (ns[j]'(by rw [← IntsAre.len h];exact hj)) t:=by
 induction h with
 |nil=>intro j hj;simp at hj
 |cons n u h ih=>
  intro j hj
  induction j using Nat.casesAuxOn with
  |zero=>exact ⟨_,rfl⟩
  |succ j=>exact ih j (by simpa using hj)
theorem N6{A:Around}{s:Shared}{vs ws:List Value}{x y:List Int}(hx:IntsAre vs x)(hy:IntsAre ws y) :
  ∀j (h1:j<vs.toArray.size) (h2:j<ws.toArray.size),EqAt A s vs.toArray[j] ws.toArray[j] (x[j]? == y[j]?):=by
 intro j h1 h2
 have h1':j<vs.length:=by simpa using h1
 have h2':j<ws.length:=by simpa using h2
 obtain ⟨t,e1⟩:=IntsAre.at hx j h1'
 obtain ⟨u,e2⟩:=IntsAre.at hy j h2'
 have l1:=IntsAre.len hx
 have l2:=IntsAre.len hy
 rw [List.getElem_toArray,List.getElem_toArray,e1,e2,List.getElem?_eq_getElem (by exact Nat.lt_of_lt_of_eq h1 l1),List.getElem?_eq_getElem (by exact Nat.lt_of_lt_of_eq h2 l2)]
 exact EqAt.int_int _ _ _ _
theorem Ym{a b:Addr}{vs ws:List Value}{n m:Nat}{x y:List Int}(ha:IsL s.heap a vs.toArray n)(hb:IsL s.heap b ws.toArray m)(hx:IntsAre vs x)(hy:IntsAre ws y)(hu:A.units<cLine) :
  RcAt A s (.ref a) (.ref b) (x == y):=by
 have l1:=IntsAre.len hx
 have l2:=IntsAre.len hy
 by_cases h:vs.length=ws.length
 ·have q:=RcAt.lists ha.isList hb.isList (by simpa using h) hu (N6 hx hy)
  rw [List.size_toArray,l1,H7 x y (by lia)] at q
  exact q
 ·have q:RcAt A s (.ref a) (.ref b) false:=RcAt.lists_lengths ha.isList hb.isList (by simpa using h) hu
  rw [show (x == y)=false from beq_false_of_ne fun e=>h (by rw [l1,l2,e])]
  exact q
theorem Ae1{a b:Addr}{vs ws:List Value}{n m:Nat}{x y:List Int}(ha:IsL s.heap a vs.toArray n)(hb:IsL s.heap b ws.toArray m)(hx:IntsAre vs x)(hy:IntsAre ws y)(hu:A.units<cLine) :
  RcNeAt A s (.ref a) (.ref b) (!(x == y)):=by
 have l1:=IntsAre.len hx
 have l2:=IntsAre.len hy
 by_cases h:vs.length=ws.length
 ·have q:=RcNeAt.lists ha.isList hb.isList (by simpa using h) hu (N6 hx hy)
  rw [List.size_toArray,l1,H7 x y (by lia)] at q
  exact q
 ·have q:RcNeAt A s (.ref a) (.ref b) true:=RcNeAt.lists_lengths ha.isList hb.isList (by simpa using h) hu
  rw [show (x == y)=false from beq_false_of_ne fun e=>h (by rw [l1,l2,e])]
  exact q
theorem Yl{a b:Addr}{vs:List Value}{n m:Nat}(ha:IsL s.heap a vs.toArray n)(hb:IsL s.heap b #[] m)(hu:A.units<cLine):RcAt A s (.ref a) (.ref b) vs.isEmpty:=by
 induction vs using List.casesOn with
 |nil=>exact RcAt.lists (e:=fun ζ=>true) ha.isList hb.isList rfl hu (fun j h1=>by simp at h1)
 |cons v vs=>exact RcAt.lists_lengths ha.isList hb.isList (by simp) hu
theorem Xg{a b:Addr}{vs:List Value}{n m:Nat}(ha:IsL s.heap a vs.toArray n)(hb:IsL s.heap b #[] m)(hu:A.units<cLine):RcNeAt A s (.ref a) (.ref b) (!vs.isEmpty):=by
 induction vs using List.casesOn with
 |nil=>exact RcNeAt.lists (e:=fun ζ=>true) ha.isList hb.isList rfl hu (fun j h1=>by simp at h1)
 |cons v vs=>exact RcNeAt.lists_lengths ha.isList hb.isList (by simp) hu
theorem Vl{k:Int}{vs:List Value}{ns:List Int}(h:IntsAre vs ns):vs.any (isInt k)=ns.contains k:=by
 induction h with
 |nil=>rfl
 |cons n u h ih=>
  rw [List.any_cons,List.contains_cons,ih]
  exact congrArg (· || _) (BEq.comm (a:=n) (b:=k))
def Hf(h:Heap)(x:List Int)(v:Value):Prop:=Ex3 fun a vs n=>And3 (v=.ref a) (IsL h a vs.toArray n) (IntsAre vs x)
class inductive Ai3(h:Heap):List (List Int)→List Value→Prop
 |nil:Ai3 h [] []
 |cons {x:List Int} {v:Value} {l:List (List Int)} {vs:List Value}:Hf h x v→Ai3 h l vs→Ai3 h (x :: l) (v :: vs)
def Acr(vs:List Value):List Int→Prop
 |[]=>vs=[]
 |i :: l=>Ex2 fun t r=>vs=.int i t :: r∧IntsAre r l
theorem Lc{vs:List Value}{l:List Int}(h:IntsAre vs l):Acr vs l:=by
 induction h using IntsAre.casesOn with | nil=>exact rfl | cons _ _ h=>exact ⟨_,_,rfl,h⟩
theorem Xx{vs:List Value}{x y:List Int}(h:IntsAre vs x)(g:IntsAre vs y):x=y:=by
 induction h generalizing y with
 |nil=>induction y using List.casesOn with
  |nil=>rfl
  |cons _ _=>obtain ⟨_,_,e,_⟩:=Lc g;exact absurd e.symm (List.cons_ne_nil _ _)
 |cons i t h ih=>induction y using List.casesOn with
  |nil=>exact absurd (Lc g) (List.cons_ne_nil _ _)
  |cons j l=>
   obtain ⟨_,_,e,g⟩:=Lc g
   obtain ⟨e2,rfl⟩:=List.cons.inj e
   rw [ih g,(Value.int.inj e2).1]
theorem Sp{h:Heap}{x y:List Int}{v:Value}(a:Hf h x v)(b:Hf h y v):x=y:=by
 obtain ⟨p,vs,n,rfl,l,i⟩:=a
 obtain ⟨q,ws,m,e,l',i'⟩:=b
 obtain rfl:=Value.ref.inj e
 have q:=Option.some.inj (l.symm.trans l')
 have q2:vs.toArray=ws.toArray:=by injection q with _ _ q _;injection q
 have q3:vs=ws:=by simpa using q2
 subst q3
 exact Xx i i'
theorem Ahb.row{h:Heap}{v:Value}{ds:List D}{x:List Int}(r:Ahb h k M v (.list ds))(e:A1 ds=some x):Hf h x v:=by
 obtain ⟨_,_,_,rfl,m,l,q,_⟩:=r.inv;exact ⟨_,_,_,rfl,l,q.ints e⟩
theorem Ov{d:D}{ds:List D}{l:List (List Int)}(e:Hm (d :: ds)=some l):Ex3 fun xs i r=>And4 (d=.list xs) (A1 xs=some i) (Hm ds=some r) (l=i :: r):=by
 obtain ⟨xs,h1,e⟩:=bs e;obtain ⟨i,h2,e⟩:=bs e;obtain ⟨r,h3,rfl⟩:=ms e;exact ⟨xs,i,r,Rd h1,h2,h3,rfl⟩
theorem Ag8.rows{h:Heap}{vs:List Value}{ds:List D}{l:List (List Int)}(r:Ag8 h k M vs ds)(e:Hm ds=some l):Ai3 h l vs:=by
 induction r using Ag8.ind generalizing l with
 |nil=>obtain rfl:=Ag e;exact .nil
 |cons _ _ _ _ a r ih=>
  obtain ⟨xs,i,l',rfl,e1,e',rfl⟩:=Ov e
  exact .cons (a.row e1) (ih e')
theorem Wr{x y:List Int}{v u:Value}(a:Hf s.heap x v)(b:Hf s.heap y u)(hu:A.units<cLine):EqAt A s v u (x == y):=by
 obtain ⟨p,vs,n,rfl,l,i⟩:=a
 obtain ⟨q,ws,m,rfl,l',i'⟩:=b
 by_cases h:p=q
 ·subst h
  rw [Sp ⟨p,vs,n,rfl,l,i⟩ ⟨p,ws,m,rfl,l',i'⟩,beq_self_eq_true]
  exact EqAt.same _
 ·exact EqAt.of_refs h (Ym l l' i i' hu)
noncomputable def Ld(h:Heap)(x:List Int)(v:Value):Bool:=@decide (Hf h x v) (Classical.propDecidable _)
theorem Fa{h:Heap}{x y:List Int}{v:Value}(a:Hf h y v):Ld h x v=(y == x):=by
 unfold Ld
 rw [Bool.eq_iff_iff,@decide_eq_true_iff _ (Classical.propDecidable _),beq_iff_eq]
 exact ⟨fun b=>Sp a b,fun e=>e ▸ a⟩
theorem R8{h:Heap}{x:List Int}{l:List (List Int)}{vs:List Value}(r:Ai3 h l vs):vs.any (Ld h x)=l.contains x:=by
 induction r with
 |nil=>rfl
 |cons a r ih=>rw [List.any_cons,List.contains_cons,ih,Fa a,BEq.comm]
theorem S4{h:Heap}{l:List (List Int)}{vs:List Value}(r:Ai3 h l vs):∀v∈vs,∃x,Hf h x v:=by
 induction r with
 |nil=>exact fun v m=>absurd m List.not_mem_nil
 |cons a r ih=>
  intro v m
  rcases List.mem_cons.mp m with m | m
  ·exact ⟨_,m ▸ a⟩
  ·exact ih v m
theorem Ra{x y:List D}{c:Bool}(e:Xf (.list x) (.list y)=some c):Ex2 fun u v=>And3 (A1 x=some u) (Hm y=some v) ((!v.contains u)=c):=by
 obtain ⟨u,h1,e⟩:=Option.bind_eq_some_iff.mp (show (A1 x).bind _=some c from e)
 obtain ⟨v,h2,e⟩:=Option.map_eq_some_iff.mp e
 exact ⟨u,v,h1,h2,e⟩
inductive EqR:D→D→Bool→Prop
 |int (i j:Int):EqR (.int i) (.int j) (decide (i=j))
 |str (x y:List Nat):EqR (.str x) (.str y) (x == y)
 |bool (x y:Bool):EqR (.bool x) (.bool y) (x == y)
 |nil (x:List D):EqR (.list x) (.list []) x.isEmpty
 |list (x y:List D) (u v:List Int):A1 x=some u→A1 y=some v→EqR (.list x) (.list y) (u == v)
theorem Tn{a b:D}{c:Bool}(e:eqD a b=some c):EqR a b c:=by
 induction a using D.casesOn with
 |int i=>induction b using D.casesOn with
  |int j=>obtain rfl:=Option.some.inj e;exact .int i j
  |_=>exact nos e
 |str x=>induction b using D.casesOn with
  |str y=>obtain rfl:=Option.some.inj e;exact .str x y
  |_=>exact nos e
 |bool x=>induction b using D.casesOn with
  |bool y=>obtain rfl:=Option.some.inj e;exact .bool x y
  |_=>exact nos e
 |list x=>induction b using D.casesOn with
  |list y=>induction y using List.casesOn with
   |nil=>obtain rfl:=Option.some.inj e;exact .nil x
   |cons y0 y=>
    obtain ⟨u,h1,e⟩:=Option.bind_eq_some_iff.mp (show (A1 x).bind _=some c from e)
    obtain ⟨v,h2,rfl⟩:=Option.map_eq_some_iff.mp e
    exact .list x _ u v h1 h2
  |_=>exact nos e
 |_=>exact nos e
set_option tactic.hygienic true in
theorem Af8{a b:D}{c:Bool}{x y:Value}(hx:Ahb s.heap s.toks M x a)(hy:Ahb s.heap s.toks M y b)(hu:A.units+2<cLine)(e:eqD a b=some c)
  {Q:Value→Shared→Prop} (hQ:∀s',Ext s s'→Q (.bool c) s'):wpAny (model prog w) A (compareOp .Eq x y) Q E s:=by
 cases Tn e with
 |int i j=>obtain ⟨t,rfl⟩:=hx.inv;obtain ⟨u,rfl⟩:=hy.inv;exact PyProof.Rows.eq_int (hQ _ (Ext.refl _))
 |str=>obtain ⟨t,rfl,z₁⟩:=hx.inv;obtain ⟨u,rfl,z₂⟩:=hy.inv;exact P.eq_str (hQ _ (Ext.refl _))
 |bool=>obtain rfl:=hx.inv;obtain rfl:=hy.inv;exact PyProof.Rows.eq_bool (hQ _ (Ext.refl _))
 |nil x=>
  obtain ⟨_,_,_,rfl,m,l,r,z⟩:=hx.inv
  obtain ⟨_,_,_,rfl,m',l',r',z'⟩:=hy.inv
  obtain rfl:=r'.inv
  have q:=Yl l l' (A:=A) (by exact Nat.lt_of_add_right_lt hu)
  rw [r.isEmpty] at q
  exact q prog w E Q (hQ _ (Ext.refl _))
 |list x y u v e1 e2=>
  obtain ⟨_,_,_,rfl,m,l,r,z⟩:=hx.inv
  obtain ⟨_,_,_,rfl,m',l',r',z'⟩:=hy.inv
  exact Ym l l' (r.ints e1) (r'.ints e2) (by exact Nat.lt_of_add_right_lt hu) prog w E Q (hQ _ (Ext.refl _))
set_option tactic.hygienic true in
theorem Ae2{a b:D}{c:Bool}{x y:Value}(hx:Ahb s.heap s.toks M x a)(hy:Ahb s.heap s.toks M y b)(hu:A.units+2<cLine)(e:eqD a b=some c)
  {Q:Value→Shared→Prop} (hQ:∀s',Ext s s'→Q (.bool (!c)) s'):wpAny (model prog w) A (compareOp .NotEq x y) Q E s:=by
 cases Tn e with
 |int i j=>obtain ⟨t,rfl⟩:=hx.inv;obtain ⟨u,rfl⟩:=hy.inv;exact PyProof.Rows.ne_int (hQ _ (Ext.refl _))
 |str=>obtain ⟨t,rfl,z₁⟩:=hx.inv;obtain ⟨u,rfl,z₂⟩:=hy.inv;exact P.ne_str (hQ _ (Ext.refl _))
 |bool=>obtain rfl:=hx.inv;obtain rfl:=hy.inv;exact PyProof.Rows.ne_bool (hQ _ (Ext.refl _))
 |nil x=>
  obtain ⟨_,_,_,rfl,m,l,r,z⟩:=hx.inv
  obtain ⟨_,_,_,rfl,m',l',r',z'⟩:=hy.inv
  obtain rfl:=r'.inv
  have q:=Xg l l' (A:=A) (by exact Nat.lt_of_add_right_lt hu)
  rw [r.isEmpty] at q
  exact q prog w E Q (hQ _ (Ext.refl _))
 |list x y u v e1 e2=>
  obtain ⟨_,_,_,rfl,m,l,r,z⟩:=hx.inv
  obtain ⟨_,_,_,rfl,m',l',r',z'⟩:=hy.inv
  exact Ae1 l l' (r.ints e1) (r'.ints e2) (by exact Nat.lt_of_add_right_lt hu) prog w E Q (hQ _ (Ext.refl _))
theorem Af9{o:Cmp}{a b:D}{c:Bool}{x y:Value}(hx:Ahb s.heap s.toks M x a)(hy:Ahb s.heap s.toks M y b)(hu:A.units+2<cLine)(e:C3 o a b=some c)
  {Q:Value→Shared→Prop} (hQ:∀s',Ext s s'→Q (.bool c) s'):wpAny (model prog w) A (compareOp (Eu o) x y) Q E s:=by
 induction o using Cmp.casesOn with
 |eq=>exact Af8 hx hy hu e hQ
 |ne=>
  obtain ⟨c',e',rfl⟩:=Option.map_eq_some_iff.mp e
  exact Ae2 hx hy hu e' hQ
 |lt=>obtain ⟨i,j,rfl,rfl,e⟩:=B3 e;obtain rfl:=Option.some.inj e;obtain ⟨t,rfl⟩:=hx.inv;obtain ⟨u,rfl⟩:=hy.inv;exact PyProof.Rows.lt_int (hQ _ (Ext.refl _))
 |le=>obtain ⟨i,j,rfl,rfl,e⟩:=B3 e;obtain rfl:=Option.some.inj e;obtain ⟨t,rfl⟩:=hx.inv;obtain ⟨u,rfl⟩:=hy.inv;exact PyProof.Rows.le_int (hQ _ (Ext.refl _))
 |gt=>obtain ⟨i,j,rfl,rfl,e⟩:=B3 e;obtain rfl:=Option.some.inj e;obtain ⟨t,rfl⟩:=hx.inv;obtain ⟨u,rfl⟩:=hy.inv;exact PyProof.Rows.gt_int (hQ _ (Ext.refl _))
 |ge=>obtain ⟨i,j,rfl,rfl,e⟩:=B3 e;obtain rfl:=Option.some.inj e;obtain ⟨t,rfl⟩:=hx.inv;obtain ⟨u,rfl⟩:=hy.inv;exact PyProof.Rows.ge_int (hQ _ (Ext.refl _))
 |isIn=>
  induction a using D.casesOn with
  |str x=>induction x using List.casesOn with
   |nil=>exact nos e
   |cons c' r=>induction r using List.casesOn with
    |cons _ _=>exact nos e
    |nil=>induction b using D.casesOn with
     |str s'=>
      obtain rfl:=Option.some.inj e
      obtain ⟨t,rfl,z₁⟩:=hx.inv
      obtain ⟨u,rfl,z₂⟩:=hy.inv
      refine PySem.SeqRoads2.in_meets (typeIs_str s _ _) F.slot_str_contains F.entry_str_contains (F.args_str_contains_2 _ _) (gives_str_contains (mkS s') (mkS [c']) u t).meets ?_
      refine ⟨_,rfl,?_⟩
      rw [show mkS [c']=⟨#[c']⟩ from rfl,StrLaws.found_one]
      rw [show decide (c'∈(mkS s').cps.toList)=s'.contains c' from by rw [Bool.eq_iff_iff,decide_eq_true_eq,List.contains_iff_mem];exact Iff.rfl]
      exact hQ _ (Ext.refl _)
     |_=>exact nos e
  |int i=>induction b using D.casesOn with
   |list y=>
    obtain ⟨l',e1,rfl⟩:=Option.map_eq_some_iff.mp (show (A1 y).map _=some c from e)
    obtain ⟨t,rfl⟩:=hx.inv
    obtain ⟨_,_,_,rfl,m,l,r,z⟩:=hy.inv
    have hi:=r.ints e1
    refine in_listAt (isInt _) l.isList (fun y hy=>(eq_isInt _ t hi y (by simpa using hy)).at _ _) ?_
    rw [← Array.any_toList,Vl hi]
    exact hQ _ (Ext.refl _)
   |_=>exact nos e
  |_=>exact nos e
 |notIn=>
  induction a using D.casesOn with
  |list x=>induction b using D.casesOn with
   |list y=>
    obtain ⟨xr,lr,e1,e2,rfl⟩:=Ra e
    have hr:=hx.row e1
    obtain ⟨_,_,_,rfl,m,l,r,z⟩:=hy.inv
    have hi:=r.rows e2
    refine notIn_listAt (Ld s.heap xr) l.isList (fun y hy=>?_) ?_
    ·obtain ⟨x',hx'⟩:=S4 hi y (by simpa using hy)
     rw [Fa hx']
     exact Wr hx' hr (by show A.units+1<cLine;exact Nat.lt_of_succ_lt hu)
    ·rw [← Array.any_toList,R8 hi]
     exact hQ _ (Ext.refl _)
   |_=>exact nos e
  |_=>exact nos e
 |isNot=>
  induction a using D.casesOn with
  |bool p=>induction b using D.casesOn with
   |bool q=>
    obtain rfl:=Option.some.inj e
    obtain rfl:=hx.inv
    obtain rfl:=hy.inv
    exact wpAny_isNot_plain rfl (by rw [show (Value.bool p == Value.bool q)=(p == q) from by rw [Bool.eq_iff_iff,beq_iff_eq,beq_iff_eq];exact ⟨fun e=>by injection e,fun e=>by rw [e]⟩];exact hQ _ (Ext.refl _))
   |_=>exact nos e
  |_=>exact nos e
end
end Mine
end
section
open PySem PySem.W PyProof.Rows PySem.SeqAt
set_option autoImplicit false
namespace Mine
section
variable {A:Around} {E:Value→Shared→Prop} {s:Shared} {k:Tok} {M:Addr→Prop}
theorem Qo{d:D}{b:Bool}{x:Value}(hx:Ahb s.heap s.toks M x d)(e:G3 d=some b){Q:Bool→Shared→Prop}(hQ:∀s',Ext s s'→Q b s'):wpAny (model prog w) A (truthy x) Q E s:=by
 induction d using D.casesOn with
 |none=>obtain rfl:=hx.inv;obtain rfl:=Ag e;exact PyProof.Rows.truthy_none (hQ _ (Ext.refl _))
 |bool b'=>obtain rfl:=hx.inv;obtain rfl:=Ag e;exact wpAny_truthy_bool (hQ _ (Ext.refl _))
 |int i=>
  obtain ⟨t,rfl⟩:=hx.inv
  obtain rfl:=Ag e
  refine PyProof.Rows.truthy_int ?_
  rw [show (i != 0)=decide (i≠0) from by rw [bne,decide_not];rfl];exact hQ _ (Ext.refl _)
 |str t=>
  obtain ⟨u,rfl,h⟩:=hx.inv
  obtain rfl:=Ag e
  rw [Aw] at h
  refine P.truthy_str (by rw [Ae];lia) ?_
  rw [Ae,show ((t.length:Int) != 0) = !t.isEmpty from by induction t using List.casesOn <;> rfl]
  exact hQ _ (Ext.tk2 s)
 |_=>exact nos e
theorem X0{o:Op}{a b:D}{r:Int}{x y:Value}(hx:Ahb s.heap s.toks M x a)(hy:Ahb s.heap s.toks M y b)(e:A3 o a b=some (.int r))(ho:o=.add∨o=.sub∨o=.mul)
  {Q:Value→Shared→Prop} (hQ:∀t s',Ext s s'→Q (.int r t) s'):wpAny (model prog w) A (inplaceOp (K3 o) x y) Q E s:=by
 rcases ho with rfl | rfl | rfl
 ·induction a using D.casesOn with
  |int i=>induction b using D.casesOn with
   |int j=>
    obtain rfl:i+j=r:=by injection Option.some.inj e
    obtain ⟨t,rfl⟩:=hx.inv
    obtain ⟨u,rfl⟩:=hy.inv
    exact PyProof.Rows.iadd_int (hQ _ _ (Ext.tk1 s))
   |_=>exact nos e
  |str i=>induction b using D.casesOn with
   |str j=>exact D.noConfusion (Cd e).2
   |_=>exact nos e
  |list i=>induction b using D.casesOn with
   |list j=>exact D.noConfusion (Cd e).2
   |_=>exact nos e
  |tup i=>induction b using D.casesOn with
   |tup j=>exact D.noConfusion (Cd e).2
   |_=>exact nos e
  |_=>exact nos e
 ·obtain ⟨i,j,rfl,rfl,e⟩:=B3 e
  obtain rfl:i - j=r:=by injection Option.some.inj e
  obtain ⟨t,rfl⟩:=hx.inv
  obtain ⟨u,rfl⟩:=hy.inv
  exact PyProof.Rows.isub_int (hQ _ _ (Ext.tk1 s))
 ·induction b using D.casesOn with
  |int j=>induction a using D.casesOn with
   |int i=>
    obtain ⟨hl,e⟩:=Cd e
    obtain rfl:i * j=r:=by injection e
    rw [Bool.and_eq_true,Db,Db] at hl
    obtain ⟨t,rfl⟩:=hx.inv
    obtain ⟨u,rfl⟩:=hy.inv
    exact PyProof.Rows.imul_int (hQ _ _ (Ext.tk1 s)) (IntMulOk.of_left (intBits_le_64 (by lia) (by lia)))
   |str i=>exact D.noConfusion (Cd e).2
   |list i=>exact D.noConfusion (Cd e).2
   |_=>exact nos e
  |_=>exact nos e
theorem Ja{α:Type}{xs:List α}{i:Int}{c:α}(e:nth xs i=some c) :
  (0≤i∧xs[i.toNat]? = some c)∨(i<0∧-(xs.length:Int)≤i∧xs[(i+xs.length).toNat]? = some c):=by
 delta nth at e
 split at e
 ·rename_i h;exact .inl ⟨h,e⟩
 ·split at e
  ·rename_i h h';exact .inr ⟨by exact Int.lt_of_not_ge h,h',e⟩
  ·exact nos e
theorem Qy{α:Type}{xs:List α}{i:Int}{c:α}(e:nth xs i=some c):∃j,seqIndex? i xs.length=some j∧xs[j]? = some c:=by
 unfold seqIndex?
 rcases Ja e with ⟨h0,h1⟩ | ⟨h0,h1,h2⟩
 ·have hl:=(List.getElem?_eq_some_iff.mp h1).1
  refine ⟨i.toNat,?_,h1⟩
  have e0:(if i<0 then i+(xs.length:Int) else i)=i:=if_neg (by exact Int.not_lt_of_ge h0)
  simp only [e0]
  rw [if_pos (by rw [Bool.and_eq_true,decide_eq_true_eq,decide_eq_true_eq];lia)]
 ·have hl:=(List.getElem?_eq_some_iff.mp h2).1
  refine ⟨_,?_,h2⟩
  have e0:(if i<0 then i+(xs.length:Int) else i)=i+xs.length:=if_pos h0
  simp only [e0]
  rw [if_pos (by rw [Bool.and_eq_true,decide_eq_true_eq,decide_eq_true_eq];lia)]
theorem Aha.look{h:Heap}{j₀:Int}{kvs:List (Int×Value)}{es:List (Int×D)}(r:Aha h k M kvs es) :
  match Be es j₀ with
  |none=>valueAt kvs j₀=none
  |some d=>∃v,valueAt kvs j₀=some v∧Ahb h k M v d:=by
 induction r using Aha.ind with
 |nil=>rfl
 |cons j _ _ _ _ a r ih=>
  delta Be valueAt
  rw [List.find?_cons,List.find?_cons]
  by_cases hj:j=j₀
  ·simp only [hj,decide_true];exact ⟨_,rfl,a⟩
  ·simp only [hj,decide_false];exact ih
theorem Fm{a b:List Nat}:mkS a=mkS b↔a=b:=⟨fun e=>by injection e with e;simpa using e,fun e=>by rw [e]⟩
theorem Ag9.look{h:Heap}{j₀:List Nat}{kvs:List (Str×Value)}{es:List (List Nat×D)}(r:Ag9 h k M kvs es) :
  match Be es j₀ with
  |none=>valueAt kvs (mkS j₀)=none
  |some d=>∃v,valueAt kvs (mkS j₀)=some v∧Ahb h k M v d:=by
 induction r using Ag9.ind with
 |nil=>rfl
 |cons j _ _ _ _ a r ih=>
  delta Be valueAt
  rw [List.find?_cons,List.find?_cons]
  by_cases hj:j=j₀
  ·simp only [hj,decide_true];exact ⟨_,rfl,a⟩
  ·simp only [hj,decide_false,Fm];exact ih
theorem Afk{o i d:D}{x y:Value}(hx:Ahb s.heap s.toks M x o)(hy:Ahb s.heap s.toks M y i)(e:Ar o i=some d)
  {Q:Value→Shared→Prop} (hQ:∀v s',Ext s s'→Ahb s'.heap s'.toks M v d→Q v s'):wpAny (model prog w) A (getItem x y) Q E s:=by
 induction o using D.casesOn with
 |list ds=>induction i using D.casesOn with
  |int k=>
   obtain ⟨_,vs,_,rfl,hm,hl,hr,hz⟩:=hx.inv
   obtain ⟨t,rfl⟩:=hy.inv
   obtain ⟨hs,e⟩:=J6 e
   rw [Db] at hs
   rcases Ja e with ⟨h0,h1⟩ | ⟨h0,h1,h2⟩
   ·obtain ⟨v,q,r⟩:=hr.get h1
    exact wpAny_getItem_list hl.isList h0 hs.2 (by simpa using q) (hQ _ _ (Ext.refl _) r)
   ·obtain ⟨v,q,r⟩:=hr.get h2
    rw [← hr.len] at h1 q
    exact wpAny_getItem_list_neg hl.isList h0 (by simpa using h1) (by lia) (by simpa using q) (hQ _ _ (Ext.refl _) r)
  |_=>exact nos e
 |tup ds=>induction i using D.casesOn with
  |int k=>
   obtain ⟨_,vs,_,rfl,hm,hl,hr⟩:=hx.inv
   obtain ⟨t,rfl⟩:=hy.inv
   obtain ⟨hs,e⟩:=J6 e
   rw [Db] at hs
   obtain ⟨j,h1,h2⟩:=Qy e
   obtain ⟨v,q,r⟩:=hr.get h2
   rw [← hr.len] at h1
   exact P.getItem_tuple hl (by lia) hs.2 (by simpa using h1) (by simpa using q) (hQ _ _ (Ext.refl _) r)
  |_=>exact nos e
 |str xs=>induction i using D.casesOn with
  |int k=>
   obtain ⟨t,rfl,hz⟩:=hx.inv
   obtain ⟨u,rfl⟩:=hy.inv
   obtain ⟨hs,e⟩:=J6 e
   rw [Db] at hs
   obtain ⟨c,q,rfl⟩:=Option.map_eq_some_iff.mp e
   obtain ⟨j,h1,h2⟩:=Qy q
   refine P.getItem_str (c:=c) (by rw [Bool.or_eq_false_iff];exact ⟨decide_eq_false (by lia),decide_eq_false (by lia)⟩) ?_ (hQ _ _ (Ext.tk1 s) (.str (s:=[c]) _ (by rw [Aw];exact Nat.le_of_ble_eq_true rfl)))
   rw [Ae,h1]
   simpa [mkS] using h2
  |_=>exact nos e
 |Ahe es=>induction i using D.casesOn with
  |int k=>
   obtain ⟨a,kvs,rfl,hm,hn,hl,hr⟩:=hx.inv
   obtain ⟨t,rfl⟩:=hy.inv
   have q:=hr.look (j₀:=k)
   rw [show Be es k=some d from e] at q
   obtain ⟨v,q1,q2⟩:=q
   exact wpAny_getItem_of (intKind_is prog w k t) hl.mapOf q1 (hQ _ _ (Ext.tk1 s) (q2.ext (Ext.tk1 s)))
  |_=>exact nos e
 |Ahf es=>induction i using D.casesOn with
  |str k=>
   obtain ⟨a,kvs,rfl,hm,hn,hl,hr⟩:=hx.inv
   obtain ⟨t,rfl,hz⟩:=hy.inv
   have q:=hr.look (j₀:=k)
   rw [show Be es k=some d from e] at q
   obtain ⟨v,q1,q2⟩:=q
   exact wpAny_getItem_of (strKind_is prog w (mkS k) t) hl.mapOf q1 (hQ _ _ (Ext.tk1 s) (q2.ext (Ext.tk1 s)))
  |_=>exact nos e
 |_=>exact nos e
theorem Uq{α:Type}(xs:List α)(lo hi:Nat)(hh:hi≤xs.length) :
  (sliceRange lo hi 1).filterMap (xs[·]?)=(xs.take hi).drop lo:=by
 delta sliceRange
 simp only [show (1:Int) > 0 from by decide,if_true]
 have e:∀(n:Nat) (l:Nat),l+n≤xs.length→((List.range n).map fun k:Nat=>(((l:Nat):Int)+1 * (k:Int)).toNat).filterMap (xs[·]?)=(xs.take (l+n)).drop l:=by
  intro n
  induction n with
  |zero=>intro l h;simp
  |succ n ih=>
   intro l h
   rw [List.range_succ,List.map_append,List.filterMap_append,ih l (by exact Nat.le_of_succ_le h)]
   have hx:l+n<xs.length:=by assumption
   have e1:((l:Int)+1 * (n:Int)).toNat=l+n:=by rw [Int.one_mul];rfl
   simp only [List.map_cons,List.map_nil,List.filterMap_cons,List.filterMap_nil,e1,List.getElem?_eq_getElem hx]
   rw [show l+(n+1)=(l+n)+1 from rfl,List.take_add_one,List.getElem?_eq_getElem hx,List.drop_append_of_le_length (by simp;lia)]
   rfl
 by_cases h:(lo:Int)<hi
 ·rw [if_pos h]
  have hq:lo+(hi - lo)=hi:=Nat.add_sub_cancel' (Nat.le_of_lt (Int.ofNat_lt.mp h))
  rw [Adb,e (hi - lo) lo (Nat.le_trans (Nat.le_of_eq hq) hh),hq]
 ·rw [if_neg h]
  simp
  lia
theorem R2(n d:Nat)(o:Option Int)(hd:d≤n):bnd n d o≤n:=by
 delta bnd
 induction o using Option.casesOn with
 |none=>exact hd
 |some i=>dsimp only;split;(exact Nat.min_le_right _ _);lia
theorem It(n d:Nat)(o:Option Int):((bnd n d o:Nat):Int)=(match o with
  |none=>(d:Int)
  |some i=>max 0 (min (if i<0 then i+n else i) (n:Int))):=by
 delta bnd
 induction o using Option.casesOn with
 |none=>rfl
 |some i=>
  dsimp only
  split
  ·rename_i h;rw [if_neg (Int.not_lt.mpr h)];exact clip1 n i h
  ·rename_i h;rw [if_pos (Int.not_le.mp h)];exact clip2 n i (Int.not_le.mp h)
theorem Su{α:Type}(xs:List α)(l u:Option Int) :
  (sliceRange (sliceBounds l u none xs.length).1 (sliceBounds l u none xs.length).2.1 (sliceBounds l u none xs.length).2.2).filterMap (xs[·]?)=cut xs l u:=by
 have h1:(sliceBounds l u none xs.length).1=((bnd xs.length 0 l:Nat):Int):=by rw [It];cases l <;> rfl
 have h2:(sliceBounds l u none xs.length).2.1=((bnd xs.length xs.length u:Nat):Int):=by rw [It];cases u <;> rfl
 rw [h1,h2]
 exact Uq xs _ _ (R2 _ _ _ (Nat.le_refl _))
theorem R0{α:Type}(xs:List α)(l u:Option Int):(cut xs l u).length≤xs.length:=by
 delta Mine.cut
 rw [List.length_drop,List.length_take]
 exact Nat.le_trans (Nat.sub_le _ _) (Nat.min_le_right _ _)
theorem Ag8.cut{h:Heap}{vs:List Value}{ds:List D}(r:Ag8 h k M vs ds)(l u:Option Int):Ag8 h k M (Mine.cut vs l u) (Mine.cut ds l u):=by
 delta Mine.cut
 rw [r.len]
 exact (r.take _).drop _
inductive Part:Value→D→Option Int→Prop
 |none:Part .none .none none
 |int (i:Int) (t:Tok):Part (.int i t) (.int i) (some i)
theorem Part.of{v:Value}{d:D}{o:Option Int}(r:Ahb s.heap s.toks M v d)(e:Xc d=some o):Part v d o:=by
 induction d using D.casesOn with
 |none=>obtain rfl:=r.inv;obtain rfl:=Ag e;exact .none
 |int i=>obtain ⟨t,rfl⟩:=r.inv;obtain ⟨_,rfl⟩:=Cd e;exact .int _ _
 |_=>exact nos e
theorem Part.isPart{v:Value}{d:D}{o:Option Int}(p:Part v d o):IsPart v o:=by
 induction p using Part.casesOn with | none=>exact .none | int _ _=>exact .int _ _
theorem Z6{a sl:Addr}{vs:List Value}{ds:List D}{vl vu:Value}{l u:Option Int}(S:Bc s.heap M)(hl:s.heap.IsList a vs.toArray)(r:Ag8 s.heap s.toks M vs ds)
  (hs:s.heap.IsSliceOf sl vl vu .none) (pl:IsPart vl l) (pu:IsPart vu u) (hsz:ds.length≤line)
  {Q:Value→Shared→Prop} (hQ:∀v s',Ext s s'→Ahb s'.heap s'.toks M v (.list (cut ds l u))→Q v s'):wpAny (model prog w) A (getItem (.ref a) (.ref sl)) Q E s:=by
 refine wpAny_getItem_list_slice hl hs pl pu .none (by simp) ?_ (by rw [List.size_toArray,r.len,sizeLine_eq];rw [Aw] at hsz;lia)
 have e:slicePick vs.toArray l u none=(cut vs l u).toArray:=by
  delta slicePick
  rw [← Su]
  simp only [List.size_toArray,List.getElem?_toArray]
 rw [e]
 exact hQ _ _ (Ext.push ..) (Kd S (r.cut l u) (Nat.le_trans (R0 _ _ _) hsz))
theorem Yw{α:Type}(xs:List α)(l u:Option Int)(h:(cut xs l u).length=xs.length):cut xs l u=xs:=by
 delta cut at h ⊢
 rw [List.length_drop,List.length_take] at h
 have h1:=R2 xs.length xs.length u (Nat.le_refl _)
 by_cases h0:xs.length=0
 ·have:=List.eq_nil_of_length_eq_zero h0
  subst this;simp
 ·rw [Nat.min_eq_left h1] at h
  have h2:bnd xs.length xs.length u=xs.length:=Nat.le_antisymm h1 (Nat.le_trans (Nat.le_of_eq h.symm) (Nat.sub_le _ _))
  have h3:bnd xs.length 0 l=0:=Nat.eq_zero_of_not_pos fun hb=>absurd h (Nat.ne_of_lt (Nat.lt_of_lt_of_le (Nat.sub_lt (h2.symm ▸ Nat.pos_of_ne_zero h0) hb) h1))
  rw [h2,h3,List.take_length,List.drop_zero]
theorem Aah{α:Type}(xs:List α)(l u:Option Int) :
  (cut xs l u).length=(sliceRange (sliceBounds l u none xs.length).1 (sliceBounds l u none xs.length).2.1 (sliceBounds l u none xs.length).2.2).length:=by
 have h1:(sliceBounds l u none xs.length).1=((bnd xs.length 0 l:Nat):Int):=by rw [It];cases l <;> rfl
 have h2:(sliceBounds l u none xs.length).2.1=((bnd xs.length xs.length u:Nat):Int):=by rw [It];cases u <;> rfl
 have h3:(sliceBounds l u none xs.length).2.2=1:=rfl
 have hh:=R2 xs.length xs.length u (Nat.le_refl _)
 rw [h1,h2,h3]
 delta cut sliceRange
 rw [List.length_drop,List.length_take,List.length_map,List.length_range]
 simp only [show (1:Int) > 0 from by decide,if_true]
 rw [Nat.min_eq_left hh]
 split
 ·exact Adb.symm
 ·rename_i h;exact Nat.sub_eq_zero_of_le (Int.ofNat_le.mp (Int.not_lt.mp h))
set_option tactic.hygienic true in
theorem Z4{sl:Addr}{xs:List Nat}{t:Tok}{dl du:D}{vl vu:Value}{l u:Option Int}(hs:s.heap.IsSliceOf sl vl vu .none)(pl:Part vl dl l)(pu:Part vu du u)(hsz:xs.length≤line)
  {Q:Value→Shared→Prop} (hQ:∀v s',Ext s s'→Ahb s'.heap s'.toks M v (.str (cut xs l u))→Q v s'):wpAny (model prog w) A (getItem (.str (mkS xs) t) (.ref sl)) Q E s:=by
 have e1:∃l':Option (Int×Tok),partValue l'=vl∧l'.map (·.1)=l:=by cases pl;exact ⟨none,rfl,rfl⟩;rename_i i t;exact ⟨some (i,t),rfl,rfl⟩
 have e2:∃l':Option (Int×Tok),partValue l'=vu∧l'.map (·.1)=u:=by cases pu;exact ⟨none,rfl,rfl⟩;rename_i i t;exact ⟨some (i,t),rfl,rfl⟩
 obtain ⟨l',rfl,rfl⟩:=e1
 obtain ⟨u',rfl,rfl⟩:=e2
 have hq:slicePicked (mkS xs) l' u' none=sliceRange (sliceBounds (l'.map (·.1)) (u'.map (·.1)) none xs.length).1 (sliceBounds (l'.map (·.1)) (u'.map (·.1)) none xs.length).2.1 (sliceBounds (l'.map (·.1)) (u'.map (·.1)) none xs.length).2.2:=by
  delta slicePicked
  rw [Ae]
  rfl
 have hp:(slicePicked (mkS xs) l' u' none).filterMap ((mkS xs).cps[·]?)=cut xs (l'.map (·.1)) (u'.map (·.1)):=by
  rw [← Su,hq]
  simp only [mkS,List.getElem?_toArray]
 refine wpAny_getItem_str_slice (l:=l') (u:=u') (st:=none) hs rfl ?_
 delta sliceMade
 split
 ·rename_i h
  rw [Bool.and_eq_true,beq_iff_eq,beq_iff_eq,Ae] at h
  have hlen:(cut xs (l'.map (·.1)) (u'.map (·.1))).length=xs.length:=by
   rw [← h.2,hq,Aah]
  rw [Yw _ _ _ hlen] at hQ
  exact hQ _ _ (Ext.refl _) (.str _ hsz)
 ·rw [hp]
  refine ⟨?_,hQ _ _ (Ext.tk1 s) (.str _ (Nat.le_trans (R0 _ _ _) hsz))⟩
  show (mkS _).length≤_
  rw [Ae,sizeLine_eq]
  have:=R0 xs (l'.map (·.1)) (u'.map (·.1))
  rw [Aw] at hsz
  lia
theorem Ag8.reverse{h:Heap}{vs:List Value}{ds:List D}(r:Ag8 h k M vs ds):Ag8 h k M vs.reverse ds.reverse:=by
 induction r using Ag8.ind with
 |nil=>exact .nil
 |cons _ _ _ _ a r ih=>rw [List.reverse_cons,List.reverse_cons];exact ih.append (.cons a .nil)
theorem Z5{a sl:Addr}{vs:List Value}{ds:List D}{t:Tok}(S:Bc s.heap M)(hl:s.heap.IsList a vs.toArray)(r:Ag8 s.heap s.toks M vs ds)
  (hs:s.heap.IsSliceOf sl .none .none (.int (-1) t)) (hsz:ds.length≤line)
  {Q:Value→Shared→Prop} (hQ:∀v s',Ext s s'→Ahb s'.heap s'.toks M v (.list ds.reverse)→Q v s'):wpAny (model prog w) A (getItem (.ref a) (.ref sl)) Q E s:=by
 refine wpAny_getItem_list_slice hl hs .none .none (.int _ _) (by simp) ?_ (by rw [List.size_toArray,r.len,sizeLine_eq];rw [Aw] at hsz;lia)
 have e:slicePick vs.toArray none none (some (-1))=vs.reverse.toArray:=by
  rw [krv_pick]
 rw [e]
 exact hQ _ _ (Ext.push ..) (Kd S r.reverse (by rw [List.length_reverse];exact hsz))
end
end Mine
end
section
open PySem PySem.W PyProof.Rows PySem.SeqAt
set_option autoImplicit false
namespace Mine
section
variable {A:Around} {E:Value→Shared→Prop} {s:Shared} {k:Tok} {M:Addr→Prop}
noncomputable def biV:Bi→Value
 |.len=>.builtin "len" | .range=>.type "range" | .list=>.type "list" | .min=>.builtin "min" | .max=>.builtin "max" | .sum=>.builtin "sum"
 |.sorted=>.builtin "sorted" | .Ahn=>.type "dict" | .isBool=>.builtin "isinstance" | .isInt=>.builtin "isinstance"
theorem Ext.of{s:Shared}{h':Heap}{tk:Nat}(k:∀b o,s.heap.get? b=some o→h'.get? b=some o)(h:s.toks≤tk):Ext s { s with heap:=h',toks:=tk }:=⟨k,rfl,rfl,h⟩
theorem Wn(a b c:Int):Builtin.Range.rangeSize a b c=rsz a b c:=rfl
theorem Kt(a b c:Int):0≤rsz a b c:=by
 unfold rsz
 split
 ·split
  ·have:=Int.ediv_nonneg (a:=b - a - 1) (b:=c) (by lia) (Int.le_of_lt (by assumption));exact Int.le_add_one this
  ·decide
 ·split
  ·have:=Int.ediv_nonneg (a:=a - b - 1) (b:=-c) (by lia) (by lia);exact Int.le_add_one this
  ·decide
theorem Po:∀(r:List Int) (a:Int),Hy a r∈a :: r
 |[],a=>by simp [mi_n]
 |b :: r,a=>by
  have:=Po r (if b<a then b else a)
  rw [Ae7]
  rcases List.mem_cons.mp this with e | e
  ·rw [e];split <;> simp
  ·exact List.mem_cons_of_mem _ (List.mem_cons_of_mem _ e)
theorem S0:∀(r:List Int) (a:Int),∀x∈a :: r,Hy a r≤x
 |[],a,x,h=>by simp [mi_n] at *;exact Int.le_of_eq (id (Eq.symm h))
 |b :: r,a,x,h=>by
  have ih:=S0 r (if b<a then b else a)
  rw [Ae7]
  have h0:=ih _ List.mem_cons_self
  have ih':∀x∈r,Hy (if b<a then b else a) r≤x:=fun x e=>ih x (List.mem_cons_of_mem _ e)
  clear ih
  generalize Hy (if b<a then b else a) r=m at h0 ih' ⊢
  rcases List.mem_cons.mp h with e | e
  ·subst e;split at h0 <;> lia
  ·rcases List.mem_cons.mp e with e | e
   ·subst e;split at h0 <;> lia
   ·exact ih' x e
theorem Je(a:Int):∀l:List Int,(Mb a l).Perm (a :: l)
 |[]=>.refl _
 |b :: r=>by
  rw [in_c]
  split
  ·exact .refl _
  ·exact ((Je a r).cons b).trans (.swap ..)
theorem Jw(a:Int):∀l:List Int,l.Pairwise (·≤·)→(Mb a l).Pairwise (·≤·)
 |[],_=>by simp [in_n]
 |b :: r,h=>by
  rw [in_c]
  have hb:=List.pairwise_cons.mp h
  split
  ·rename_i hab
   refine List.pairwise_cons.mpr ⟨fun x hx=>?_,h⟩
   rcases List.mem_cons.mp hx with e | e
   ·lia
   ·have:=hb.1 x e;lia
  ·refine List.pairwise_cons.mpr ⟨fun x hx=>?_,Jw a r hb.2⟩
   have:=(Je a r).mem_iff.mp hx
   rcases List.mem_cons.mp this with e | e
   ·lia
   ·exact hb.1 x e
theorem O3(l:List Int):(O4 l).Perm l∧(O4 l).Pairwise (·≤·):=by
 have key:∀(l r:List Int),r.Pairwise (·≤·)→(l.foldl (fun r a=>Mb a r) r).Perm (l++r)∧(l.foldl (fun r a=>Mb a r) r).Pairwise (·≤·):=by
  intro l
  induction l with
  |nil=>intro r h;exact ⟨.refl _,h⟩
  |cons a l ih=>
   intro r h
   obtain ⟨p,q⟩:=ih (Mb a r) (Jw a r h)
   refine ⟨p.trans ?_,q⟩
   exact ((Je a r).append_left l).trans (by rw [List.cons_append];exact List.perm_middle)
 have:=key l [] .nil
 rwa [List.append_nil] at this
theorem V4{l r:List Int}(p:r.Perm l)(q:r.Pairwise (·≤·)):r=O4 l:=by
 obtain ⟨p',q'⟩:=O3 l
 exact (p.trans p'.symm).eq_of_pairwise (le:=(·≤·)) (fun a b ζ ζ h1 h2=>by exact Int.le_antisymm h1 h2) q q'
theorem IntsAre.real{h:Heap}{vs:List Value}{ns:List Int}(r:IntsAre vs ns):Ag8 h k M vs (ns.map .int):=by
 induction r with | nil=>exact .nil | cons n u r ih=>exact .cons (.int _ _) ih
theorem Ed{α:Type}{ds:List D}{f:D→Option α}{c:α}(e:one ds f=some c):∃a,ds=[a]∧f a=some c:=by
 induction ds using List.casesOn with
 |nil=>exact nos e
 |cons a r=>induction r using List.casesOn with
  |nil=>exact ⟨a,rfl,e⟩
  |cons _ _=>exact nos e
theorem H3{α:Type}{ds:List D}{f:D→D→Option α}{c:α}(e:two ds f=some c):Ex2 fun a b=>ds=[a,b]∧f a b=some c:=by
 induction ds using List.casesOn with
 |nil=>exact nos e
 |cons a r=>
  obtain ⟨b,rfl,e⟩:=Ed (ds:=r) e
  exact ⟨a,b,rfl,e⟩
theorem Gp{α:Type}{a:D}{f:List D→Option α}{c:α}(e:Ms a f=some c):∃xs,a=.list xs∧f xs=some c:=by
 induction a using D.casesOn with
 |list xs=>exact ⟨xs,rfl,e⟩
 |_=>exact nos e
theorem Cc{α:Type}{a:D}{f:List Nat→Option α}{c:α}(e:F4 a f=some c):∃xs,a=.str xs∧f xs=some c:=by
 induction a using D.casesOn with
 |str xs=>exact ⟨xs,rfl,e⟩
 |_=>exact nos e
theorem Ag8.one{h:Heap}{k:Tok}{vs:List Value}{a:D}(r:Ag8 h k M vs [a]):∃x,vs=[x]∧Ahb h k M x a:=by
 replace r:=r.inv;obtain ⟨x,q,rfl,rx,r⟩:=r
 obtain rfl:=r.inv
 exact ⟨x,rfl,rx⟩
theorem Ag8.two{h:Heap}{k:Tok}{vs:List Value}{a b:D}(r:Ag8 h k M vs [a,b]):Ex2 fun x y=>And3 (vs=[x,y]) (Ahb h k M x a) (Ahb h k M y b):=by
 replace r:=r.inv;obtain ⟨x,q,rfl,rx,r⟩:=r
 obtain ⟨y,rfl,ry⟩:=r.one
 exact ⟨x,y,rfl,rx,ry⟩
theorem Q6{ds:List D}{d:D}(e:Nu ds=some d):(∃b,ds=[.int b]∧d=.rng 0 b 1)∨(Ex2 fun a b=>ds=[.int a,.int b]∧d=.rng a b 1)∨(Ex3 fun a b c=>And3 (ds=[.int a,.int b,.int c]) ((sml a && sml b && sml c && decide (c≠0))=true) (d=.rng a b c)):=by
 induction ds using List.casesOn with
 |nil=>exact nos e
 |cons a r=>induction r using List.casesOn with
  |nil=>induction a using D.casesOn with
   |int b=>obtain ⟨_,rfl⟩:=Cd e;exact .inl ⟨b,rfl,rfl⟩
   |_=>exact nos e
  |cons b r=>induction r using List.casesOn with
   |nil=>
    obtain ⟨x,y,rfl,rfl,e⟩:=B3 e
    obtain ⟨_,rfl⟩:=Cd e
    exact .inr (.inl ⟨x,y,rfl,rfl⟩)
   |cons c r=>induction r using List.casesOn with
    |nil=>
     obtain ⟨x,y,rfl,rfl,e⟩:=B3 e
     induction c using D.casesOn with
     |int z=>obtain ⟨h,rfl⟩:=Cd e;exact .inr (.inr ⟨x,y,z,rfl,h,rfl⟩)
     |_=>exact nos e
    |cons _ _=>exact nos e
theorem Adx{b:Bi}{vs:List Value}{ds:List D}{d:D}(S:Bc s.heap M)(hh:A.handled=none)(hx:Ag8 s.heap s.toks M vs ds)(e:biD b ds=some d)
  (hb:b=.len∨b=.range∨b=.min∨b=.max∨b=.sum∨b=.sorted)
  {Q:Value→Shared→Prop} (hQ:∀v s',Ext s s'→Ahb s'.heap s'.toks M v d→Q v s'):wpAny (model prog w) A (call (biV b) vs) Q E s:=by
 induction b using Bi.casesOn with
 |len=>
  obtain ⟨o,rfl,e⟩:=Ed e
  obtain ⟨x,rfl,a⟩:=hx.one
  induction o using D.casesOn with
  |str s=>
   obtain rfl:=Option.some.inj e
   obtain ⟨t,rfl,hz⟩:=a.inv
   rw [Aw] at hz
   refine P.len_str (by rw [Ae];lia) ?_
   rw [Ae];exact hQ _ _ (Ext.tk2 _) (.int _ _)
  |list l=>
   obtain rfl:=Option.some.inj e
   obtain ⟨_,_,_,rfl,m,l,r,hz⟩:=a.inv
   rw [Aw] at hz
   refine Calls.call_len_list l.isList (by rw [List.size_toArray,r.len];lia) ?_
   rw [List.size_toArray,r.len];exact hQ _ _ (Ext.tk2 _) (.int _ _)
  |_=>exact nos e
 |range=>
  rcases Q6 e with ⟨b,rfl,rfl⟩ | ⟨a,b,rfl,rfl⟩ | ⟨a,b,c,rfl,hl,rfl⟩
  ·obtain ⟨x,rfl,a⟩:=hx.one
   obtain ⟨t,rfl⟩:=a.inv
   exact call_range_1 (hQ _ _ (Ext.pushTk s _ (by lia)) (.rng S.fresh (Heap.get?_push_size _ rfl)))
  ·obtain ⟨x,y,rfl,a,b⟩:=hx.two
   obtain ⟨t,rfl⟩:=a.inv
   obtain ⟨u,rfl⟩:=b.inv
   exact call_range_2 (hQ _ _ (Ext.pushTk s _ (by exact Nat.le_add_right s.toks 1)) (.rng S.fresh (Heap.get?_push_size _ rfl)))
  ·simp only [Bool.and_eq_true,Db,decide_eq_true_eq] at hl
   obtain ⟨_,_,rfl,a,r⟩:=hx.inv
   obtain ⟨x,y,rfl,b,c'⟩:=r.two
   obtain ⟨t,rfl⟩:=a.inv
   obtain ⟨u,rfl⟩:=b.inv
   obtain ⟨v,rfl⟩:=c'.inv
   refine call_range_3 hl.2 (hQ _ _ (Ext.pushTk s _ (by exact Nat.le_refl s.toks)) (.rng S.fresh (Heap.get?_push_size _ rfl))) (.inl (PyProof.noPylong_of_log2 ?_))
   by_cases h0:c.natAbs=0
   ·rw [h0];decide +kernel
   ·have h63:c.natAbs.log2<63:=(Nat.log2_lt h0).mpr (nab.mpr hl.1.2)
    lia
 |list=>rcases hb with h | h | h | h | h | h <;> cases h
 |min=>
  induction ds using List.casesOn with
  |nil=>exact nos e
  |cons o r=>induction r using List.casesOn with
   |nil=>
    obtain ⟨xs,rfl,e⟩:=Gp e
    obtain ⟨l,e1,e⟩:=Option.bind_eq_some_iff.mp e
    obtain ⟨x,rfl,a⟩:=hx.one
    induction l using List.casesOn with
    |nil=>exact nos e
    |cons a₀ r₀=>
     obtain rfl:=Option.some.inj e
     obtain ⟨_,_,_,rfl,m,l,r,hz⟩:=a.inv
     have hi:=r.ints e1
     obtain ⟨xs,ex⟩:=hi.allInts.items
     have hns:a₀ :: r₀=xs.toList.map (·.1):=by rw [← hi.numsOf,← nums_intItems,← ex]
     have hsz:0<xs.size:=by
      have h3:0<(a₀ :: r₀).length:=Nat.succ_pos _
      rw [hns,List.length_map,Array.length_toList] at h3;exact h3
     have hl:=l.isList
     rw [ex] at hl
     refine Ce (min_intList hh hl hsz fun v h' tk hv hk ht=>?_)
     obtain ⟨t,rfl⟩:=intItems_at hv
     obtain ⟨h1,h2⟩:=argBest_lt (numAt xs) (xs.size - 1)
     have hM:numAt xs (argBest (fun i j=>decide (numAt xs i<numAt xs j)) (xs.size - 1))=Hy a₀ r₀:=by
      have m1:numAt xs (argBest (fun i j=>decide (numAt xs i<numAt xs j)) (xs.size - 1))∈a₀ :: r₀:=by
       rw [hns,numAt_eq];exact getD_mem (by rw [List.length_map,Array.length_toList];exact Nat.lt_of_le_pred hsz h1)
      have m2:∀x∈a₀ :: r₀,numAt xs (argBest (fun i j=>decide (numAt xs i<numAt xs j)) (xs.size - 1))≤x:=by
       intro x hx
       rw [hns] at hx
       obtain ⟨j,hj,rfl⟩:=mem_getD hx
       rw [List.length_map,Array.length_toList] at hj
       rw [← numAt_eq];exact h2 j (by exact (Nat.le_sub_one_iff_lt hsz).mpr hj)
      have a1:=S0 r₀ a₀ _ m1
      have a2:=m2 _ (Po r₀ a₀)
      exact Int.le_antisymm a2 a1
     rw [hM]
     exact hQ _ _ (Ext.of hk ht) (.int _ _)
   |cons o' r=>
    obtain ⟨q,e0,e⟩:=Ed (show one (o' :: r) (fun b=>G5 o b fun a b=>some (.int (if b<a then b else a)))=some d from e)
    obtain ⟨rfl,rfl⟩:=List.cons.inj e0
    obtain ⟨i,j,rfl,rfl,e⟩:=B3 e
    obtain rfl:=Option.some.inj e
    obtain ⟨x,y,rfl,a,b⟩:=hx.two
    obtain ⟨t,rfl⟩:=a.inv
    obtain ⟨u,rfl⟩:=b.inv
    refine Ce (min_two_ints hh fun h' tk hk ht=>?_)
    split
    ·rename_i h;rw [if_pos h] at hQ;exact hQ _ _ (Ext.of hk ht) (.int _ _)
    ·rename_i h;rw [if_neg h] at hQ;exact hQ _ _ (Ext.of hk ht) (.int _ _)
 |max=>
  obtain ⟨o,o',rfl,e⟩:=H3 e
  obtain ⟨i,j,rfl,rfl,e⟩:=B3 e
  obtain rfl:=Option.some.inj e
  obtain ⟨x,y,rfl,a,b⟩:=hx.two
  obtain ⟨t,rfl⟩:=a.inv
  obtain ⟨u,rfl⟩:=b.inv
  refine Ce (max_two_ints hh fun h' tk hk ht=>?_)
  split
  ·rename_i h;rw [if_pos h] at hQ;exact hQ _ _ (Ext.of hk ht) (.int _ _)
  ·rename_i h;rw [if_neg h] at hQ;exact hQ _ _ (Ext.of hk ht) (.int _ _)
 |sum=>
  obtain ⟨o,rfl,e⟩:=Ed e
  obtain ⟨xs,rfl,e⟩:=Gp e
  obtain ⟨ns,e1,rfl⟩:=Option.map_eq_some_iff.mp e
  obtain ⟨x,rfl,a⟩:=hx.one
  obtain ⟨_,_,_,rfl,m,l,r,hz⟩:=a.inv
  have hi:=r.ints e1
  obtain ⟨xs,ex⟩:=hi.allInts.items
  have hns:ns=xs.toList.map (·.1):=by rw [← hi.numsOf,← nums_intItems,← ex]
  have hl:=l.isList
  rw [ex] at hl
  refine Ce (sum_intListG hh hl fun h' tk t' hk ht=>?_)
  rw [preSum_eq,← hns,show xs.size=ns.length from by rw [hns,List.length_map,Array.length_toList],List.take_length]
  exact hQ _ _ (Ext.of hk ht) (.int _ _)
 |sorted=>
  obtain ⟨o,rfl,e⟩:=Ed e
  obtain ⟨xs,rfl,e⟩:=Gp e
  obtain ⟨ns,e1,e⟩:=Option.bind_eq_some_iff.mp e
  obtain ⟨h8,rfl⟩:=Cd e
  obtain ⟨x,rfl,a⟩:=hx.one
  replace a:=a.inv;obtain ⟨a,vs',n',rfl,m,l,r,hz⟩:=a
  have hi:=r.ints e1
  refine sorted_ints l.isList hi (by rw [IntsAre.len hi];lia) fun out ns' ho hp hs=>?_
  rw [V4 hp hs] at ho
  have hl8:(O4 ns).length≤line:=by rw [(O3 ns).1.length_eq,Aw];lia
  obtain ⟨e',hat⟩:=sortedAll_at s.heap vs' out
  have x:Ext s { s with heap:=sortedAll s.heap vs' out }:=⟨fun ζ ζ hb=>sortedAll_old hb,rfl,rfl,Nat.le_refl _⟩
  have hr:=IntsAre.real (h:=sortedAll s.heap vs' out) (k:=s.toks) (M:=M) ho
  refine hQ _ _ x (.list (vs:=out.toList) (n:=e') (fun m'=>?_) (by simpa using hat) hr (by rw [List.length_map];exact hl8))
  obtain ⟨o,ho'⟩:=S _ m'
  exact Nat.lt_irrefl _ (Nat.lt_of_succ_lt (Heap.lt_size ho'))
 |Ahn=>rcases hb with h | h | h | h | h | h <;> cases h
 |isBool=>rcases hb with h | h | h | h | h | h <;> cases h
 |isInt=>rcases hb with h | h | h | h | h | h <;> cases h
end
end Mine
end
section
open PySem PySem.W PyProof.Rows PySem.SeqAt
set_option autoImplicit false
namespace Mine
section
variable {A:Around} {E:Value→Shared→Prop} {s:Shared} {k:Tok} {M:Addr→Prop}
theorem Ou{d:D}{ds:List D}{l:List (List Nat)}(e:F1 (d :: ds)=some l):Ex2 fun i r=>And3 (d=.str i) (F1 ds=some r) (l=i :: r):=by
 obtain ⟨i,h1,e⟩:=bs e;obtain ⟨r,h2,rfl⟩:=ms e;exact ⟨i,r,H4 h1,h2,rfl⟩
theorem Ag8.strs{h:Heap}{vs:List Value}{ds:List D}{l:List (List Nat)}(r:Ag8 h k M vs ds)(e:F1 ds=some l):StrsAre vs (l.map mkS):=by
 induction r using Ag8.ind generalizing l with
 |nil=>obtain rfl:=Ag e;exact .nil
 |cons _ _ _ _ a r ih=>
  obtain ⟨i,l',rfl,e',rfl⟩:=Ou e
  obtain ⟨t,rfl,_⟩:=a.inv;exact .cons _ _ (ih e')
theorem M5(sep:List Nat):∀l:List (List Nat),(l.map (·.length)).sum+l.length * sep.length≤(A4 sep l).length+sep.length
 |[]=>by simp [Afd]
 |[a]=>by simp [Rh]
 |a :: b :: r=>by
  have ih:=M5 sep (b :: r)
  simp only [Pu,List.map_cons,List.sum_cons,List.length_cons,List.length_append,Nat.succ_mul] at ih ⊢
  lia
theorem M6(sep:List Nat):∀(l:List (List Nat)) (acc:Array Nat),(l.map mkS).foldl (fun acc p=>acc++(mkS sep).cps++p.cps) acc=acc++(l.flatMap fun p=>sep++p).toArray
 |[],acc=>by simp
 |a :: l,acc=>by
  rw [List.map_cons,List.foldl_cons,M6 sep l]
  simp [mkS,Array.append_assoc]
theorem K9(sep:List Nat):∀(a:List Nat) (l:List (List Nat)),A4 sep (a :: l)=a++l.flatMap fun p=>sep++p
 |a,[]=>by simp [Rh]
 |a,b :: r=>by rw [Pu,K9 sep b r];simp
theorem S7(sep:List Nat)(l:List (List Nat)):Txt.join (mkS sep) (l.map mkS)=mkS (A4 sep l):=by
 delta Txt.join PySem.Builtin.Str.glued
 induction l using List.casesOn with
 |nil=>rfl
 |cons a r=>
  rw [K9]
  simp only [List.map_cons,List.drop_one,List.tail_cons,List.headD_cons]
  rw [M6]
  simp [mkS]
theorem Fo{α:Type}[BEq α][LawfulBEq α]{a:α}:∀ {l:List α} {j:Nat},Df a l=some j→∃h:j<l.length,l[j]=a∧∀m (hm:m<l.length),m<j→l[m]≠a
 |[],_,e=>by simp [io_n] at e
 |b :: r,j,e=>by
  rw [Rk] at e
  split at e
  ·rename_i hb
   obtain rfl:=Ag e
   exact ⟨Nat.succ_pos _,eq_of_beq hb,fun m hm hj=>by lia⟩
  ·rename_i hb
   cases hr:Df a r with
   |none=>rw [hr] at e;exact nos e
   |some j'=>
    rw [hr] at e
    have e:=Option.some.inj e
    subst e
    obtain ⟨h,h1,h2⟩:=Fo hr
    refine ⟨Nat.succ_lt_succ h,h1,fun m hm hj=>?_⟩
    induction m using Nat.casesAuxOn with
    |zero=>intro q;exact hb (by rw [show b=a from q];exact beq_self_eq_true _)
    |succ m=>exact h2 m (by simpa using hm) (Nat.lt_of_succ_lt_succ hj)
theorem Py{k₀:Int}{vs:List Value}{ns:List Int}(h:IntsAre vs ns)(j:Nat)(hj:j<vs.length):isInt k₀ vs[j]=(ns[j]'(by rw [← IntsAre.len h];exact hj) == k₀):=by
 obtain ⟨t,e⟩:=IntsAre.at h j hj
 rw [e]
 rfl
theorem Ai3.len{h:Heap}{l:List (List Int)}{vs:List Value}(r:Ai3 h l vs):vs.length=l.length:=by
 induction r with | nil=>rfl | cons _ _ ih=>exact congrArg Nat.succ ih
theorem Ai3.at{h:Heap}{l:List (List Int)}{vs:List Value}(r:Ai3 h l vs)(j:Nat)(hj:j<vs.length)(hj':j<l.length):Hf h l[j] vs[j]:=by
 induction r generalizing j with
 |nil=>exact absurd hj (Nat.not_lt_zero _)
 |cons a _ ih=>induction j using Nat.casesAuxOn with
  |zero=>exact a
  |succ j=>exact ih j (Nat.lt_of_succ_lt_succ hj) (Nat.lt_of_succ_lt_succ hj')
theorem Ze(x sep:List Nat)(i:Nat)(hi:i≤x.length):StrLaws.At (mkS x) (mkS sep) x.length i↔sep.isPrefixOf (x.drop i)=true:=by
 delta StrLaws.At Builtin.Str.subAt
 rw [Ae,List.isPrefixOf_iff_prefix,List.prefix_iff_eq_take,beq_iff_eq]
 constructor
 ·rintro ⟨h1,h2⟩
  have:=congrArg Array.toList h2
  simp only [mkS,Array.toList_extract,List.extract_eq_take_drop] at this
  rw [show i+sep.length - i=sep.length from by exact Nat.add_sub_self_left i sep.length] at this
  exact this.symm
 ·intro h
  have hl:=congrArg List.length h
  rw [List.length_take,List.length_drop] at hl
  refine ⟨by lia,?_⟩
  simp only [mkS,List.extract_toArray,List.extract_eq_take_drop]
  rw [show i+sep.length - i=sep.length from by exact Nat.add_sub_self_left i sep.length,← h]
theorem Pi{s:Str}{w a:Nat}:StrLaws.partsFrom s w a []=[Builtin.Str.strSub s a s.length]:=rfl
theorem Pj{s:Str}{w a c:Nat}{r:List Nat}:StrLaws.partsFrom s w a (c :: r)=Builtin.Str.strSub s a c :: StrLaws.partsFrom s w (c+w) r:=rfl
theorem H5(sep:List Nat):∀(n:Nat) (l acc:List Nat),A2 sep l acc n=A2 sep (l.drop n) acc 0
 |0,_,_=>rfl
 |n+1,[],acc=>rfl
 |n+1,c :: l,acc=>(H5 sep n l acc).trans rfl
theorem Qu(x:List Nat)(a b:Nat):Builtin.Str.strSub (mkS x) a b=mkS ((x.drop a).take (b - a)):=by
 delta Builtin.Str.strSub mkS
 rw [List.extract_toArray,List.extract_eq_take_drop]
theorem L8(x sep:List Nat)(hw:0<sep.length):∀(n:Nat) (cuts:List Nat) (a f p:Nat),x.length - p=n→StrLaws.ChainG (mkS x) (mkS sep) x.length a cuts f→(∀q,f≤q→¬StrLaws.At (mkS x) (mkS sep) x.length q)→
  a≤p→p≤x.length→(∀c r,cuts=c :: r→p≤c)→(A2 sep (x.drop p) ((x.drop a).take (p - a)).reverse 0).map mkS=StrLaws.partsFrom (mkS x) sep.length a cuts:=by
 intro n
 induction n using Nat.strongRecOn with
 |ind n ih=>
  intro cuts a f p hn hc hf hap hp hcut
  by_cases hpl:p=x.length
  ·subst hpl
   rw [List.drop_length]
   induction cuts using List.casesOn with
   |nil=>
    show [mkS (List.reverse (List.reverse _))]=[Builtin.Str.strSub _ _ (mkS x).length]
    rw [List.reverse_reverse,Ae,Qu]
   |cons c r=>
    have h1:=hcut c r rfl
    have h2:=hc.2.1.1
    rw [Ae] at h2
    lia
  ·have hlt:p<x.length:=by exact Nat.lt_of_le_of_ne hp hpl
   rw [List.drop_eq_getElem_cons hlt]
   by_cases hA:StrLaws.At (mkS x) (mkS sep) x.length p
   ·have hpre:=(Ze x sep p hp).mp hA
    rw [List.drop_eq_getElem_cons hlt] at hpre
    induction cuts using List.casesOn with
    |nil=>exact absurd hA (hf p (by have e:f=a:=hc;exact le_of_eq_of_le hc hap))
    |cons c r=>
     have h1:=hcut c r rfl
     have h3:=hc.2.2.1
     have hcp:c=p:=by
      by_cases h:p<c
      ·exact absurd hA (h3 p hap h)
      ·lia
     subst hcp
     rw [Dq,if_pos hpre,List.map_cons,List.reverse_reverse,H5,List.drop_drop,Pj,Qu]
     congr 1
     have hA1:=hA.1
     rw [Ae] at hA1
     have e1:c+1+(sep.length - 1)=c+sep.length:=sp6 hw
     rw [e1]
     have:=ih (x.length - (c+sep.length)) (sb1 hn hlt hw) r (c+sep.length) f (c+sep.length) rfl (by have:=hc.2.2.2;rw [Ae] at this;exact this) hf (Nat.le_refl _) hA1 (fun c' r' e=>by
      subst e
      have:=hc.2.2.2.1
      rw [Ae] at this
      exact this)
     rw [Nat.sub_self,List.take_zero,List.reverse_nil] at this
     exact this
   ·have hpre:¬sep.isPrefixOf (x[p] :: x.drop (p+1))=true:=by
     rw [← List.drop_eq_getElem_cons hlt]
     exact fun h=>hA ((Ze x sep p hp).mpr h)
    rw [Dq,if_neg hpre]
    have:=ih (x.length - (p+1)) (sb1 hn hlt Nat.one_pos) cuts a f (p+1) rfl hc hf (by exact Nat.le_add_right_of_le hap) hlt (fun c r e=>by
     have h1:=hcut c r e
     subst e
     have hA':=hc.2.1
     by_cases h:c=p
     ·subst h;exact absurd hA' hA
     ·lia)
    rw [← this]
    congr 2
    have e2:(x.drop a).take (p+1 - a)=(x.drop a).take (p - a)++[x[p]]:=by
     rw [show p+1 - a=(p - a)+1 from by exact Nat.sub_add_comm hap,List.take_add_one,List.getElem?_drop,show a+(p - a)=p from by exact Nat.add_sub_of_le hap,List.getElem?_eq_getElem hlt]
     rfl
    rw [e2,List.reverse_append]
    rfl
theorem O1(x sep:List Nat)(hw:0<sep.length)(hk:Builtin.Str.strKind (mkS sep)=1):Txt.split (mkS x) (mkS sep)=(A2 sep x [] 0).map mkS:=by
 obtain ⟨f,hc,hf⟩:=StrLaws.occ_tight (mkS x) (mkS sep) (by rw [Ae];exact hw)
 rw [Ae] at hc hf
 have key:=L8 x sep hw _ _ 0 f 0 rfl hc hf (Nat.le_refl _) (Nat.zero_le _) (fun ζ ζ ζ=>Nat.zero_le _)
 rw [List.drop_zero,Nat.sub_zero,List.take_zero,List.reverse_nil] at key
 rw [key]
 delta Txt.split
 rw [Ae,Ae]
 have hone:Builtin.Str.occurrences (mkS x) (mkS sep) 0 x.length (x.length+1)=[]→StrLaws.partsFrom (mkS x) sep.length 0 (Builtin.Str.occurrences (mkS x) (mkS sep) 0 x.length (x.length+1))=[mkS x]:=by
  intro h
  rw [h,Pi,Ae,Qu,List.drop_zero,Nat.sub_zero,List.take_length]
 split
 ·rename_i h
  rw [Bool.or_eq_true,decide_eq_true_eq,decide_eq_true_eq,hk] at h
  refine (hone ?_).symm
  rcases h with h | h
  ·rcases StrLaws.occ_head_from (mkS x) (mkS sep) 0 (x.length+1) (by exact Nat.le_add_left 1 x.length) with ⟨h',_⟩ | ⟨i,r,_,_,hi,_⟩
   ·rw [Ae] at h';exact h'
   ·have:=hi.1;rw [Ae,Ae] at this;lia
  ·exfalso
   delta Builtin.Str.strKind at h
   split at h
   ·lia
   ·split at h <;> lia
 ·split
  ·rename_i h
   exact (hone (List.isEmpty_iff.mp h)).symm
  ·rw [StrLaws.partsBetween_eq]
theorem Ag8.ofStrs{h:Heap}{l:List (Str×Tok)}{ps:List (List Nat)}(e:l.map (·.1)=ps.map mkS)(hp:∀p∈ps,p.length≤line):Ag8 h k M (strValues l) (ps.map .str):=by
 induction l,ps using Cj with
 |nn=>exact .nil
 |nc=>exact absurd e.symm (List.cons_ne_nil _ _)
 |cn=>exact absurd e (List.cons_ne_nil _ _)
 |cc a l p ps ih=>
  obtain ⟨x,t⟩:=a
  obtain ⟨rfl,e2⟩:=List.cons.inj (show x :: l.map (·.1)=mkS p :: ps.map mkS from e)
  exact .cons (.str t (hp p List.mem_cons_self)) (ih e2 fun q hq=>hp q (List.mem_cons_of_mem _ hq))
theorem Er(sep:List Nat):∀(l acc:List Nat) (n:Nat),(∀p∈A2 sep l acc n,p.length≤l.length+acc.length)∧(A2 sep l acc n).length≤l.length+1
 |[],acc,n=>by
  refine ⟨fun p hp=>?_,by simp [Gi]⟩
  rw [Gi,List.mem_singleton] at hp
  subst hp;simp
 |c :: r,acc,0=>by
  rw [Dq]
  split
  ·obtain ⟨h1,h2⟩:=Er sep r [] (sep.length - 1)
   refine ⟨fun p hp=>?_,by simp;assumption⟩
   rcases List.mem_cons.mp hp with rfl | hp
   ·simp
   ·have:=h1 p hp;simp at this ⊢;lia
  ·obtain ⟨h1,h2⟩:=Er sep r (c :: acc) 0
   refine ⟨fun p hp=>?_,by simp;exact Nat.le_add_right_of_le h2⟩
   have:=h1 p hp;simp at this ⊢;lia
 |_ :: r,acc,n+1=>by
  rw [I4]
  obtain ⟨h1,h2⟩:=Er sep r acc n
  refine ⟨fun p hp=>?_,by simp;exact Nat.le_add_right_of_le h2⟩
  have:=h1 p hp;simp at this ⊢;lia
noncomputable def Pn:D→Mt→String
 |.str _,.lower=> "str.lower" | .str _,.upper=> "str.upper" | .str _,.split=> "str.split" | .str _,.join=> "str.join" | .str _,.index=> "str.index"
 |.list _,.index=> "list.index" | .Ahf _,.get=> "dict.get" | _,_=> ""
theorem S2{m:Mt}{o d:D}{x:Value}{vs:List Value}{ds:List D}(S:Bc s.heap M)(hx:Ahb s.heap s.toks M x o)(hv:Ag8 s.heap s.toks M vs ds)(hu:A.units+3<cLine)(e:Bw m o ds=some d)
  {Q:Value→Shared→Prop} (hQ:∀v s',Ext s s'→Ahb s'.heap s'.toks M v d→Q v s'):wpAny (model prog w) A (call (.builtin (Pn o m)) (x :: vs)) Q E s:=by
 induction m using Mt.casesOn with
 |lower=>
  obtain ⟨s₀,rfl,e⟩:=Cc e
  induction ds using List.casesOn with
  |cons _ _=>exact nos e
  |nil=>
   obtain ⟨hl,rfl⟩:=Cd e
   rw [Bool.and_eq_true,decide_eq_true_eq] at hl
   obtain ⟨t,rfl,hz⟩:=hx.inv
   obtain rfl:=hv.inv
   have hA:∀c∈(mkS s₀).cps.toList,c<128:=fun c hc=>of_decide_eq_true (List.all_eq_true.mp hl.1 c (by simpa [mkS] using hc))
   have el:Txt.lower (mkS s₀)=mkS (s₀.map Fy):=by
    rw [lower_ascii hA]
    show Str.mk _=Str.mk _
    simp only [mkS,List.map_toArray]
    rfl
   refine SC.lower ?_ ?_
   ·rw [el,Ae,List.length_map];delta Builtin.Str.tooLong;exact decide_eq_false (by rw [sizeLine_eq];rw [Aw] at hz;lia)
   ·rw [el];exact hQ _ _ (Ext.tk1 s) (.str _ (by rw [List.length_map];exact hz))
 |upper=>
  obtain ⟨s₀,rfl,e⟩:=Cc e
  induction ds using List.casesOn with
  |cons _ _=>exact nos e
  |nil=>
   obtain ⟨hl,rfl⟩:=Cd e
   rw [Bool.and_eq_true,decide_eq_true_eq] at hl
   obtain ⟨t,rfl,hz⟩:=hx.inv
   obtain rfl:=hv.inv
   have hA:∀c∈(mkS s₀).cps.toList,c<128:=fun c hc=>of_decide_eq_true (List.all_eq_true.mp hl.1 c (by simpa [mkS] using hc))
   have el:Txt.upper (mkS s₀)=mkS (s₀.map Ot):=by
    rw [upper_ascii hA]
    show Str.mk _=Str.mk _
    simp only [mkS,List.map_toArray]
    rfl
   refine SC.upper ?_ ?_
   ·rw [el,Ae,List.length_map];delta Builtin.Str.tooLong;exact decide_eq_false (by rw [sizeLine_eq];rw [Aw] at hz;lia)
   ·rw [el];exact hQ _ _ (Ext.tk1 s) (.str _ (by rw [List.length_map];exact hz))
 |split=>
  obtain ⟨s₀,rfl,e⟩:=Cc e
  obtain ⟨o',rfl,e⟩:=Ed e
  obtain ⟨p,rfl,e⟩:=Cc e
  induction p using List.casesOn with
  |nil=>exact nos e
  |cons c r=>
   obtain ⟨hl,rfl⟩:=Cd e
   obtain ⟨t,rfl,hz⟩:=hx.inv
   obtain ⟨_,rfl,a⟩:=hv.one
   obtain ⟨u,rfl,hz'⟩:=a.inv
   have hsp:=O1 s₀ (c :: r) (Nat.succ_pos _) (by delta Builtin.Str.strKind;rw [if_pos (by simpa [mkS] using hl.2)])
   obtain ⟨hlen1,hlen2⟩:=Er (c :: r) s₀ [] 0
   have hsz:(mkS s₀).length≤sizeLine:=by rw [Ae,sizeLine_eq];lia
   have done:∀(l:List (Str×Tok)) (tk:Nat),s.toks≤tk→l.map (·.1)=Txt.split (mkS s₀) (mkS (c :: r))→
     Q (.ref s.heap.objs.size) { s with heap:=s.heap.push { cls:=.type "list",data:=.seq (strValues l).toArray },toks:=tk }:=by
    intro l tk hk hl'
    have hr:Ag8 s.heap s.toks M (strValues l) ((A2 (c :: r) s₀ [] 0).map .str):=Ag8.ofStrs (hl'.trans hsp) fun p hp=>by have:=hlen1 p hp;rw [Aw];simp at this;exact Nat.le_trans (hlen1 p hp) hz
    have x:Ext s { s with heap:=s.heap.push { cls:=.type "list",data:=.seq (strValues l).toArray },toks:=tk }:=Ext.pushTk s _ hk
    exact hQ _ _ x (.list (n:=0) S.fresh (Heap.get?_push_size _ rfl) (hr.ext x) (by rw [List.length_map,Aw];lia))
   show wpAny _ _ (call (.builtin "str.split") _) _ _ _
   cases h1:(decide ((mkS s₀).length<(mkS (c :: r)).length) || decide (Builtin.Str.strKind (mkS s₀)<Builtin.Str.strKind (mkS (c :: r))))
   ·cases hf:(Builtin.Str.occurrences (mkS s₀) (mkS (c :: r)) 0 (mkS s₀).length ((mkS s₀).length+1)).isEmpty
    ·have hn:(Builtin.Str.partsBetween (mkS s₀) (Builtin.Str.occurrences (mkS s₀) (mkS (c :: r)) 0 (mkS s₀).length ((mkS s₀).length+1)) (mkS (c :: r)).length).length≤sizeLine:=by
      have e1:=StrLaws.occ_length_le (mkS s₀) (mkS (c :: r)) 0 (mkS s₀).length ((mkS s₀).length+1)
      rw [length_partsBetween,sizeLine_eq]
      rw [Ae] at e1
      rw [Ae];lia
     refine call_meets F.slot_str_split (typeIs_str _ _ _) F.entry_str_split (F.args_str_split_2 _ _) (meets_str_split_sep _ _ t u h1 (by simp [Ae]) hf hsz hn) ?_
     have:=done (numbered s.toks (Builtin.Str.partsBetween (mkS s₀) (Builtin.Str.occurrences (mkS s₀) (mkS (c :: r)) 0 (mkS s₀).length ((mkS s₀).length+1)) (mkS (c :: r)).length)) (s.toks+(Builtin.Str.partsBetween (mkS s₀) (Builtin.Str.occurrences (mkS s₀) (mkS (c :: r)) 0 (mkS s₀).length ((mkS s₀).length+1)) (mkS (c :: r)).length).length) (Nat.le_add_right _ _) ((numbered_texts _ _).trans ((if_neg (ne_true_of_eq_false h1)).trans (if_neg (ne_true_of_eq_false hf))).symm)
     rw [← strsFrom_eq] at this
     exact this
    ·exact call_meets F.slot_str_split (typeIs_str _ _ _) F.entry_str_split (F.args_str_split_2 _ _) (meets_str_split_not_found _ _ t u h1 (by simp [Ae]) hf)
      (done [(mkS s₀,t)] s.toks (Nat.le_refl _) ((if_neg (ne_true_of_eq_false h1)).trans (if_pos hf)).symm)
   ·exact call_meets F.slot_str_split (typeIs_str _ _ _) F.entry_str_split (F.args_str_split_2 _ _) (meets_str_split_cannot_occur _ _ t u h1)
     (done [(mkS s₀,t)] s.toks (Nat.le_refl _) (if_pos h1).symm)
 |join=>
  obtain ⟨s₀,rfl,e⟩:=Cc e
  obtain ⟨o',rfl,e⟩:=Ed e
  obtain ⟨xs,rfl,e⟩:=Gp e
  obtain ⟨l,e1,e⟩:=Option.bind_eq_some_iff.mp e
  obtain ⟨hl,rfl⟩:=Cd e
  obtain ⟨t,rfl,hz⟩:=hx.inv
  obtain ⟨_,rfl,a⟩:=hv.one
  replace a:=a.inv;obtain ⟨a,vs',n',rfl,m,l',r',hz'⟩:=a
  have hi:=r'.strs e1
  refine Ce (join_list l'.isList (items:=vs'.toArray) (ys:=l.map mkS) (by simpa using hi) ?_ fun t' k' hk=>?_)
  ·have:=M5 s₀ l
   rw [List.map_map,List.length_map,Ae,show ((fun x:Str=>x.length) ∘ mkS)=fun x:List Nat=>x.length from funext fun x=>Ae x]
   rw [Aw] at hl hz
   lia
  ·rw [S7];exact hQ _ _ (Ext.tk s hk) (.str _ hl)
 |index=>
  obtain ⟨o',rfl,e⟩:=Ed e
  obtain ⟨_,rfl,b⟩:=hv.one
  induction o using D.casesOn with
  |str s₀=>
   obtain ⟨p,rfl,e⟩:=Cc (show F4 o' (N7 s₀)=some d from e)
   induction p using List.casesOn with
   |nil=>exact nos e
   |cons c r=>induction r using List.casesOn with
    |cons _ _=>exact nos e
    |nil=>
     obtain ⟨j,hi,rfl⟩:=Option.map_eq_some_iff.mp e
     obtain ⟨hj,h1,h2⟩:=Fo hi
     obtain ⟨t,rfl,hz⟩:=hx.inv
     obtain ⟨u,rfl,_⟩:=b.inv
     have hAt:∀i,StrLaws.At (mkS s₀) ⟨#[c]⟩ (mkS s₀).length i↔s₀[i]? = some c:=fun i=>(StrLaws.subAt_one (mkS s₀) c i).trans (by simp [mkS])
     have ho:∃r,Builtin.Str.occurrences (mkS s₀) ⟨#[c]⟩ 0 (mkS s₀).length 1=j :: r:=by
      rcases StrLaws.occ_head_from (mkS s₀) ⟨#[c]⟩ 0 1 (Nat.le_refl _) with ⟨_,hn⟩ | ⟨i,r,ho,_,hi',hn⟩
      ·exact absurd ((hAt j).mpr (by rw [List.getElem?_eq_getElem hj,h1])) (hn j (Nat.zero_le _))
      ·have e1:=(hAt i).mp hi'
       obtain ⟨q1,q2⟩:=List.getElem?_eq_some_iff.mp e1
       by_cases hij:i<j
       ·exact absurd q2 (h2 i q1 hij)
       ·by_cases hji:j<i
        ·exact absurd ((hAt j).mpr (by rw [List.getElem?_eq_getElem hj,h1])) (hn j (Nat.zero_le _) hji)
        ·have:i=j:=by lia
         subst this;exact ⟨r,ho⟩
     obtain ⟨r,ho⟩:=ho
     exact SC.index ho (hQ _ _ (Ext.tk1 s) (.int _ _))
  |list xs=>induction o' using D.casesOn with
   |int a₀=>
    obtain ⟨ns,e1,e⟩:=Option.bind_eq_some_iff.mp e
    obtain ⟨j,hi,rfl⟩:=Option.map_eq_some_iff.mp e
    obtain ⟨hj,h1,h2⟩:=Fo hi
    obtain ⟨a,vs',n',rfl,m,l,r,hz⟩:=hx.inv
    obtain ⟨t,rfl⟩:=b.inv
    have ha:=r.ints e1
    have hn:=IntsAre.len ha
    have hz':ns.length≤1048576:=by rw [← Qs e1];exact hz
    show wpAny _ _ (call (.builtin "list.index") _) _ _ _
    refine call_meets F.slot_list_index ⟨_,l,rfl⟩ F.entry_list_index (F.args_list_index_2 _ _) (list_indexAt a vs'.toArray n' none #[] (.int a₀ t) (isInt a₀) j (by simpa [hn] using hj) (by lia) ?_ ?_) ⟨l,?_,?_⟩
    ·rw [List.getElem_toArray,Py ha j (by exact Nat.lt_of_lt_of_eq hj (id (Eq.symm hn))),h1];exact beq_self_eq_true _
    ·intro m' hm hmj
     have hm':m'<vs'.length:=by simpa using hm
     rw [List.getElem_toArray,Py ha m' hm']
     exact beq_false_of_ne (h2 m' (by exact Nat.lt_trans hmj hj) hmj)
    ·intro y hy
     exact (eq_isInt a₀ t ha y (by simpa using hy)).at _ _
    ·exact hQ _ _ (Ext.tk1 s) (.int _ _)
   |list as=>
    obtain ⟨rows,e1,e⟩:=Option.bind_eq_some_iff.mp e
    obtain ⟨x₀,e2,e⟩:=Option.bind_eq_some_iff.mp e
    obtain ⟨j,hi,rfl⟩:=Option.map_eq_some_iff.mp e
    obtain ⟨hj,h1,h2⟩:=Fo hi
    obtain ⟨a,vs',n',rfl,m,l,r,hz⟩:=hx.inv
    have ha:=r.rows e1
    have hb:=b.row e2
    have hn:=ha.len
    have hz':vs'.length≤1048576:=by rw [r.len];exact hz
    show wpAny _ _ (call (.builtin "list.index") _) _ _ _
    refine call_meets F.slot_list_index ⟨_,l,rfl⟩ F.entry_list_index (F.args_list_index_2 _ _) (list_indexAt a vs'.toArray n' none #[] _ (Ld s.heap x₀) j (by simpa [hn] using hj) (by lia) ?_ ?_) ⟨l,?_,?_⟩
    ·rw [List.getElem_toArray,Fa (ha.at j (by exact Nat.lt_of_lt_of_eq hj (id (Eq.symm hn))) hj),h1];exact beq_self_eq_true _
    ·intro m' hm hmj
     have hm':m'<vs'.length:=by simpa using hm
     rw [List.getElem_toArray,Fa (ha.at m' hm' (by exact Nat.lt_trans hmj hj))]
     exact beq_false_of_ne (h2 m' (by exact Nat.lt_trans hmj hj) hmj)
    ·intro y hy
     obtain ⟨x',hx'⟩:=S4 ha y (by simpa using hy)
     rw [Fa hx']
     exact Wr hx' hb (by show A.units+1<cLine;lia)
    ·exact hQ _ _ (Ext.tk1 s) (.int _ _)
   |_=>exact nos e
  |_=>exact nos e
 |get=>
  obtain ⟨k',dflt,rfl,e⟩:=H3 e
  induction o using D.casesOn with
  |Ahf es=>
   obtain ⟨key,rfl,e⟩:=Cc e
   obtain rfl:=Option.some.inj e
   obtain ⟨a,kvs,rfl,hm,hn,hl,hr⟩:=hx.inv
   obtain ⟨_,_,rfl,b,c⟩:=hv.two
   obtain ⟨t,rfl,hz⟩:=b.inv
   have q:=hr.look (j₀:=key)
   show wpAny _ _ (call (.builtin "dict.get") _) _ _ _
   refine call_meetsIn F.slot_dict_get hl.typeIs F.entry_dict_get (F.args_dict_get_3 _ _ _) (meets_dict_get_default (strKind prog w) a (strKind_is prog w (mkS key) t) hn _) ⟨valueAt kvs,hl.mapOf,?_⟩
   cases hk:Be es key with
   |none=>
    rw [hk] at q hQ
    rw [q]
    exact hQ _ _ (Ext.tk1 s) (c.ext (Ext.tk1 s))
   |some d'=>
    rw [hk] at q hQ
    obtain ⟨v,q1,q2⟩:=q
    rw [q1]
    exact hQ _ _ (Ext.tk1 s) (q2.ext (Ext.tk1 s))
  |_=>exact nos e
end
end Mine
end
section
open PySem PySem.W PyProof.Rows PySem.SeqAt
set_option autoImplicit false
namespace Mine
section
variable {A:Around} {E:Value→Shared→Prop} {s:Shared} {k:Tok} {M:Addr→Prop}
theorem Hq(sep:List Nat):∀(l acc:List Nat) (n:Nat),Ex2 fun p q=>A2 sep l acc n=p :: q
 |[],_,_=>⟨_,_,rfl⟩
 |c :: r,acc,0=>by
  rw [Dq]
  split
  ·exact ⟨_,_,rfl⟩
  ·exact Hq sep r _ 0
 |_ :: r,acc,n+1=>by rw [I4];exact Hq sep r acc n
theorem Rg(w a:List Nat){l:List (List Nat)}(h:Ex2 fun p q=>l=p :: q):A4 w (a :: l)=a++w++A4 w l:=by
 obtain ⟨p,q,rfl⟩:=h
 rfl
theorem Hs(c:Nat)(w:List Nat):∀(s acc:List Nat),A4 w (A2 [c] s acc 0)=acc.reverse++A6 c w s
 |[],acc=>by simp [Gi,Rh,A6]
 |x :: r,acc=>by
  rw [Dq]
  by_cases h:x=c
  ·subst h
   rw [if_pos (by simp [List.isPrefixOf]),Rg _ _ (Hq ..)]
   show _++A4 w (A2 [x] r [] 0)=_
   rw [Hs x w r []]
   simp [A6]
  ·rw [if_neg (by simp [List.isPrefixOf];exact fun e=>h e.symm),Hs c w r (x :: acc)]
   simp [A6,h]
theorem Xr(w:List Nat):∀l:List (List Nat),Str.join (mkS w) (l.map mkS)=mkS (A4 w l):=by
 intro l
 rw [← S7]
 unfold Txt.join
 rw [StrLaws.glued_eq_join]
theorem Mp(c:Nat)(w:List Nat):∀s:List Nat,(A6 c w s).length≤s.length * (w.length+1)
 |[]=>by simp [A6]
 |x :: r=>by
  have:=Mp c w r
  rw [A6,List.flatMap_cons,List.length_append,List.length_cons,Nat.succ_mul]
  have h2:(List.flatMap (fun x=>if x=c then w else [x]) r).length≤r.length * (w.length+1):=this
  generalize (List.flatMap (fun x=>if x=c then w else [x]) r).length=m at h2 ⊢
  split
  ·lia
  ·rw [List.length_singleton];lia
theorem Aab{x:List Nat}{c:Nat}{w₁:List Nat}{t u v:Tok}(hu:u≠0)(hv:u<v)(hx:x.length≤4096)(hw:w₁.length≤64)(hne:w₁≠[c])(hc:c<256)
  {Q:Value→Shared→Prop} (hQ:∀v s',Ext s s'→Ahb s'.heap s'.toks M v (.str (A6 c w₁ x))→Q v s') :
  wpAny (model prog w) A (call (.builtin "str.replace") [.str (mkS x) t,.str (mkS [c]) u,.str (mkS w₁) v]) Q E s:=by
 have h2:((mkS x).length+1) * (mkS w₁).length≤4097 * 64:=by rw [Ae,Ae];exact Nat.mul_le_mul (by exact Nat.succ_le_succ hx) hw
 refine Ce (SC.replace hu (Nat.ne_of_gt (Nat.lt_of_le_of_lt (Nat.zero_le u) hv)) (Nat.ne_of_lt hv) (beq_false_of_ne fun e=>hne (Fm.mp e).symm) (by rw [Ae] at h2 ⊢;lia) fun t' k' hk=>?_)
 have e:Txt.replace (mkS x) (mkS [c]) (mkS w₁)=mkS (A6 c w₁ x):=by
  rw [show mkS [c]=⟨#[c]⟩ from rfl,StrLaws.replace_one]
  rw [show (⟨#[c]⟩ : Str)=mkS [c] from rfl,O1 x [c] (Nat.succ_pos _) (by unfold Builtin.Str.strKind;rw [if_pos (by simpa [mkS] using hc)]),Xr,Hs]
  rfl
 rw [e]
 refine hQ _ _ (Ext.tk s hk) (.str _ ?_)
 have h3:=Mp c w₁ x
 have h4:x.length * (w₁.length+1)≤4096 * 65:=Nat.mul_le_mul hx (by exact Nat.succ_le_succ hw)
 rw [Aw];lia
theorem Xu{x:Value}{d:D}{b:Bool}(hx:Ahb s.heap s.toks M x d)(e:biD .isBool [d]=some (.bool b))
  {Q:Value→Shared→Prop} (hQ:∀s',Ext s s'→Q (.bool b) s'):wpAny (model prog w) A (call (.builtin "isinstance") [x,.type "bool"]) Q E s:=by
 induction d using D.casesOn with
 |bool _=>obtain rfl:=hx.inv;obtain rfl:=D.bool.inj (Ag e);exact IsiPair.bool_bool (hQ _ (Ext.refl _))
 |int _=>obtain ⟨_,rfl⟩:=hx.inv;obtain rfl:=D.bool.inj (Ag e);exact IsiPair.int_bool (hQ _ (Ext.tk1 s))
 |_=>exact nos e
theorem Aa2{x:Value}{d:D}{b:Bool}(hx:Ahb s.heap s.toks M x d)(e:biD .isInt [d]=some (.bool b))
  {Q:Value→Shared→Prop} (hQ:∀s',Ext s s'→Q (.bool b) s'):wpAny (model prog w) A (call (.builtin "isinstance") [x,.type "int"]) Q E s:=by
 induction d using D.casesOn with
 |bool _=>obtain rfl:=hx.inv;obtain rfl:=D.bool.inj (Ag e);exact IsiPair.bool_int (hQ _ (Ext.refl _))
 |int _=>obtain ⟨_,rfl⟩:=hx.inv;obtain rfl:=D.bool.inj (Ag e);exact IsiPair.int_int (hQ _ (Ext.refl _))
 |_=>exact nos e
theorem Ag8.of_get{h:Heap}{vs:List Value}{ds:List D}(e:vs.length=ds.length)(g:∀(i:Nat) (d:D),ds[i]? = some d→∃v,vs[i]? = some v∧Ahb h k M v d):Ag8 h k M vs ds:=by
 induction vs,ds using Cj with
 |nn=>exact .nil
 |nc=>exact absurd e.symm (Nat.succ_ne_zero _)
 |cn=>exact absurd e (Nat.succ_ne_zero _)
 |cc v vs d ds ih=>
  obtain ⟨v',q,r⟩:=g 0 d rfl
  obtain rfl:=Ag (show some v=some v' from q)
  exact .cons r (ih (Nat.succ.inj e) fun i d' hd=>g (i+1) d' hd)
theorem Ow{i:Int}:E3 i=true ↔ -(2 ^ 40)<i∧i<2 ^ 40:=by
 exact decide_eq_true_iff.trans nab
theorem tin{i:Int}(h:E3 i=true) : -(2 ^ 40)≤i∧i≤2 ^ 40:=⟨Int.le_of_lt (Ow.mp h).1,Int.le_of_lt (Ow.mp h).2⟩
theorem Adr{a b q:Int}(h:q≤b - a - 1)(ha : -(2 ^ 40)≤a)(hb:b≤2 ^ 40):q+1≤2 ^ 42:=
 Int.le_trans (Int.add_le_of_le_sub_right h) (Int.le_trans (Int.sub_le_sub hb ha) (by decide))
theorem Aen(a b c:Int)(ha:E3 a=true)(hb:E3 b=true)(hc:c≠0):rsz a b c≤2 ^ 42:=by
 have ha:=tin ha
 have hb:=tin hb
 unfold rsz
 split
 ·split
  ·rename_i h1 h2
   exact Adr (Int.ediv_le_self (a:=b - a - 1) c (by lia)) ha.1 hb.2
  ·decide
 ·split
  ·rename_i h1 h2
   exact Adr (Int.ediv_le_self (a:=a - b - 1) (-c) (by lia)) hb.1 ha.2
  ·decide
theorem Jr(a b c:Int)(h:(E3 a && E3 b && E3 c && decide (c≠0))=true):Builtin.Range.small a b c=true:=by
 simp only [Bool.and_eq_true,decide_eq_true_eq] at h
 have h1:=Aen a b c h.1.1.1 h.1.1.2 h.2
 have h2:=Kt a b c
 have ha:=tin h.1.1.1
 have hb:=tin h.1.1.2
 have hc:=tin h.1.2
 unfold Builtin.Range.small
 rw [Wn]
 unfold Builtin.Range.rangeFitsLong
 simp only [Bool.and_eq_true,Bool.or_eq_true,decide_eq_true_eq]
 refine ⟨⟨⟨⟨?_,?_⟩,?_⟩,?_⟩,.inr ?_⟩
 ·exact Tz (Int.le_trans (by decide) ha.1) (Int.le_trans ha.2 (by decide))
 ·exact Tz (Int.le_trans (by decide) hb.1) (Int.le_trans hb.2 (by decide))
 ·exact Tz (Int.le_trans (by decide) hc.1) (Int.le_trans hc.2 (by decide))
 ·exact Tz (Int.le_trans (by decide) h2) h1
 ·split
  ·have q:=Tz (Int.le_trans (by decide) (Int.add_le_add hb.1 (Int.sub_le_sub_right hc.1 1))) (Int.le_trans (Int.add_le_add hb.2 (Int.sub_le_sub_right hc.2 1)) (by decide))
   exact Bool.and_eq_true_iff.mpr ⟨decide_eq_true q.1,decide_eq_true q.2⟩
  ·have q:=Tz (Int.le_trans (by decide) (Int.add_le_add hb.1 (Int.add_le_add_right hc.1 1))) (Int.le_trans (Int.add_le_add hb.2 (Int.add_le_add_right hc.2 1)) (by decide))
   exact Bool.and_eq_true_iff.mpr ⟨decide_eq_true q.1,decide_eq_true q.2⟩
theorem Hu(a b c:Int):(Bx a b c).length=(rsz a b c).toNat:=by unfold Bx;simp
theorem Q5(a b c:Int)(i:Nat)(h:i<(rsz a b c).toNat):(Bx a b c)[i]? = some (a+(i:Int) * c):=by
 unfold Bx
 rw [List.getElem?_map,List.getElem?_range h]
 rfl
theorem N1{x:Value}{a b c:Int}{d:D}(S:Bc s.heap M)(hh:A.handled=none)(hx:Ahb s.heap s.toks M x (.rng a b c))(e:biD .list [.rng a b c]=some d)
  {Q:Value→Shared→Prop} (hQ:∀vs n s',Ext s s'→s.heap.get? s.heap.objs.size=none→IsL s'.heap s.heap.objs.size vs n→Ag8 s'.heap s'.toks M vs.toList ((Bx a b c).map .int)→d=.list ((Bx a b c).map .int)→
   ((Bx a b c).map D.int).length≤line→Q (.ref s.heap.objs.size) s') :
  wpAny (model prog w) A (call (.type "list") [x]) Q E s:=by
 obtain ⟨hl,rfl⟩:=Cd e
 obtain ⟨_,_,_,_,rfl,m,hr⟩:=hx.inv
 have hn:=Kt a b c
 refine Ce (call_list_range hh hr (Jr a b c hl.1) (n:=(rsz a b c).toNat) (by rw [Wn];exact Int.eq_natCast_toNat.mpr hn) (by have:=hl.2;rw [Hu,Aw] at this;lia) fun h' tk acc c' hk hat hit htk=>?_)
 refine hQ acc c' _ (Ext.of hk htk) (A9 _) hat ?_ rfl (by rw [List.length_map];exact hl.2)
 refine Ag8.of_get (by rw [List.length_map,Hu,Array.length_toList];exact hit.1) fun i d hd=>?_
 rw [List.getElem?_map] at hd
 have hi:i<(rsz a b c).toNat:=by
  cases q:(Bx a b c)[i]? with
  |none=>rw [q] at hd;exact nos hd
  |some z=>
   have:=(List.getElem?_eq_some_iff.mp q).1
   rwa [Hu] at this
 rw [Q5 a b c i hi] at hd
 obtain rfl:=Ag hd
 have hsz:i<acc.size:=by rw [hit.1];exact hi
 obtain ⟨t,et⟩:=hit.2 i acc[i] (Array.getElem?_eq_getElem hsz)
 exact ⟨acc[i],by rw [Array.getElem?_toList,Array.getElem?_eq_getElem hsz],by rw [et];exact .int _ _⟩
end
end Mine
end
section
set_option genSizeOf false
open PySem PySem.W PyProof.Rows
set_option autoImplicit false
namespace Mine
theorem St.Ag6(σ:St)(i j:Nat)(s:Slot)(h:i<σ.length):(σ.put i s).get j=if j=i then some s else σ.get j:=by
 delta St.get St.put
 by_cases e:j=i
 ·subst e;rw [if_pos rfl,List.getElem?_set_self h];rfl
 ·rw [if_neg e,List.getElem?_set_ne (Ne.symm e)]
theorem St.get_del(σ:St)(i j:Nat):(σ.del i).get j=if j=i then none else σ.get j:=by
 delta St.get St.del
 by_cases e:j=i
 ·subst e;rw [if_pos rfl,List.getElem?_set];simp;split <;> rfl
 ·rw [if_neg e,List.getElem?_set_ne (Ne.symm e)]
theorem St.get_put'{σ:St}{i j:Nat}{s t:Slot}(h:(σ.put i s).get j=some t):(j=i∧t=s)∨(j≠i∧σ.get j=some t):=by
 delta St.get St.put at h
 by_cases e:j=i
 ·subst e
  rw [List.getElem?_set] at h
  simp at h
  split at h
  ·simp at h;exact .inl ⟨rfl,h.symm⟩
  ·exact nos h
 ·rw [List.getElem?_set_ne (Ne.symm e)] at h
  exact .inr ⟨e,h⟩
theorem St.Ag7(σ:St)(i:Nat)(s:Slot):(σ.put i s).length=σ.length:=List.length_set
theorem St.len_del(σ:St)(i:Nat):(σ.del i).length=σ.length:=List.length_set
inductive Loc | dct (a:Addr) (x:Str) | cel (c:Addr)
noncomputable def Loc.addr:Loc→Addr | .dct a _=>a | .cel c=>c
noncomputable def Loc.ok(h:Heap):Loc→Prop | .dct a _=>∃m,h.Ns a m | .cel c=>∃v,h.IsCell c v
noncomputable def Loc.has(h:Heap)(v:Value):Loc→Prop | .dct a x=>∃m,h.Ns a m∧m x=some v | .cel c=>h.IsCell c (some v)
set_option genInjectivity false in
structure Fx where
 hT:Heap
 h₀:Heap
 M₀:Addr→Prop
 X:Addr→Prop
 nv:Nat
structure Fx.Ok(φ:Fx):Prop where
 top:∀b o,φ.hT.get? b=some o→φ.h₀.get? b=some o
 out:∀b,φ.M₀ b→φ.hT.get? b=none
 sub:∀b,φ.X b→φ.M₀ b
 Ahd:Bc φ.h₀ φ.M₀
abbrev Bl:=Nat→Option Loc
set_option genInjectivity false in
structure Cf where
 s:Shared
 M:Addr→Prop
 vs:Nat→Value
def Root(σ:St)(vs:Nat→Value)(a:Addr):Prop:=Ex3 fun i o d=>And3 (σ.get i=some (o,d)) (o≠Own.sh) (vs i=.ref a)
def Aa(loc:Bl)(σ:St)(vs:Nat→Value)(a:Addr):Prop:=(Ex2 fun i L=>loc i=some L∧L.addr=a)∨Root σ vs a
inductive Ahh(h:Heap)(k:Tok)(M:Addr→Prop):Value→D→Prop
 |list {a:Addr} {vs:List Value} {ds:List D} {n:Nat}:M a→IsL h a vs.toArray n→Ag8 h k M vs ds→ds.length≤line→Ahh h k M (.ref a) (.list ds)
 |Ahe {a:Addr} {kvs:List (Int×Value)} {es:List (Int×D)}:M a→(a == sysModules)=false→h.DictOf (intKind prog w) a kvs→Aha h k M kvs es→Ahh h k M (.ref a) (.Ahe es)
def Du(φ:Fx)(c:Cf):Own→D→Value→Prop
 |.sh,d,v=>Ahb c.s.heap c.s.toks c.M v d
 |.own,d,v=>Ahh c.s.heap c.s.toks c.M v d∧∀a,v=.ref a→φ.h₀.get? a=none
 |.bor,d,v=>Ahh c.s.heap c.s.toks c.M v d∧∀a,v=.ref a→φ.X a
structure Rep(φ:Fx)(loc:Bl)(σ:St)(c:Cf):Prop where
 fx:φ.Ok
 len:σ.length=φ.nv
 top:∀b o,φ.h₀.get? b=some o→¬φ.X b→c.s.heap.get? b=some o
 sup:∀b,φ.M₀ b→c.M b
 old:∀b,c.M b→φ.M₀ b∨φ.h₀.get? b=none
 Ahd:Bc c.s.heap c.M
 pos:0<c.s.toks
 locs:∀i L,loc i=some L→L.ok c.s.heap∧c.M L.addr∧φ.h₀.get? L.addr=none∧i<σ.length
 vals:∀i o d,σ.get i=some (o,d)→∃L,loc i=some L∧L.has c.s.heap (c.vs i)∧Du φ c o d (c.vs i)
 inj:∀i j oi di oj dj,σ.get i=some (oi,di)→σ.get j=some (oj,dj)→oi≠.sh→oj≠.sh→c.vs i=c.vs j→i=j
 Air:∀i j L,loc i=some L→loc j=some L→i=j
 apart:∀i o d a,σ.get i=some (o,d)→o≠.sh→c.vs i=.ref a→∀j L,loc j=some L→L.addr≠a
structure Go(φ:Fx)(loc:Bl)(σ:St)(c:Cf)(loc':Bl)(σ':St)(c':Cf):Prop where
 rep:Rep φ loc' σ' c'
 step:Step c.s.heap c.M (Aa loc σ c.vs) c'.s.heap c'.M (Aa loc' σ' c'.vs)
 toks:c.s.toks≤c'.s.toks
 gens:c'.s.gens=c.s.gens
 os:c'.s.os=c.s.os
 Ain:∀b,c'.s.heap.get? b=none→c.s.heap.get? b=none
theorem Loc.ok_of_has{h:Heap}{v:Value}:∀ {L:Loc},L.has h v→L.ok h
 |.dct _ _,⟨m,n,_⟩=>⟨m,n⟩
 |.cel _,n=>⟨_,n⟩
theorem Ns.keep{h h':Heap}{a:Addr}{m:Str→Option Value}(x:h.Ns a m)(k:∀o,h.get? a=some o→h'.get? a=some o):h'.Ns a m:=by
 obtain ⟨o,es,ep,x,r⟩:=x;exact ⟨o,es,ep,k _ x,r⟩
theorem IsCell.keep{h h':Heap}{a:Addr}{v:Option Value}(x:h.IsCell a v)(k:∀o,h.get? a=some o→h'.get? a=some o):h'.IsCell a v:=by
 obtain ⟨o,e,r⟩:=x;exact ⟨o,k _ e,r⟩
theorem Loc.Aio{h h':Heap}{v:Value}{L:Loc}(x:L.has h v)(k:∀o,h.get? L.addr=some o→h'.get? L.addr=some o):L.has h' v:=by
 induction L using Loc.casesOn with
 |dct _ _=>exact x.imp fun m x=>⟨Ns.keep x.1 k,x.2⟩
 |cel _=>exact IsCell.keep x k
theorem Loc.Ait{h h':Heap}{L:Loc}(x:L.ok h)(k:∀o,h.get? L.addr=some o→h'.get? L.addr=some o):L.ok h':=by
 induction L using Loc.casesOn with
 |dct _ _=>exact x.imp fun m x=>Ns.keep x k
 |cel _=>exact x.imp fun m x=>IsCell.keep x k
theorem Ext.back{s s':Shared}(x:Ext s s'){b:Addr}(e:s'.heap.get? b=none):s.heap.get? b=none:=by
 cases q:s.heap.get? b with
 |none=>rfl
 |some o=>rw [x.keep b o q] at e;exact nos e.symm
structure Aip(s:Shared)(M:Addr→Prop)(s':Shared)(M':Addr→Prop):Prop where
 ext:Ext s s'
 up:∀b,M b→M' b
 old:∀b,M' b→M b∨s.heap.get? b=none
 Ahd:Bc s'.heap M'
theorem Aip.of{s s':Shared}{M:Addr→Prop}(S:Bc s.heap M)(x:Ext s s'):Aip s M s' M:=⟨x,fun ζ m=>m,fun ζ m=>.inl m,x.Ahd S⟩
theorem Aip.step{s s':Shared}{M M':Addr→Prop}(x:Aip s M s' M'){T T':Addr→Prop}(t:∀b,T' b→T b∨s.heap.get? b=none):Step s.heap M T s'.heap M' T':=
 ⟨fun b o ζ e=>x.ext.keep b o e,fun b o m ζ e=>⟨x.ext.keep b o e,x.up b m⟩,x.old,t⟩
section
variable {φ:Fx} {loc loc' loc₁ loc₂ loc₃:Bl} {σ σ₀ σ₁ σ₂ σ₃:St} {c c₀ c₁ c₂ c₃:Cf}
theorem Go.refl(R:Rep φ loc σ c):Go φ loc σ c loc σ c:=⟨R,.refl ..,Nat.le_refl _,rfl,rfl,fun ζ e=>e⟩
theorem Go.trans(x:Go φ loc₁ σ₁ c₁ loc₂ σ₂ c₂)(y:Go φ loc₂ σ₂ c₂ loc₃ σ₃ c₃):Go φ loc₁ σ₁ c₁ loc₃ σ₃ c₃:=
 ⟨y.rep,x.step.trans y.step,Nat.le_trans x.toks y.toks,y.gens.trans x.gens,y.os.trans x.os,fun b e=>x.Ain b (y.Ain b e)⟩
theorem Go.real(x:Go φ loc₁ σ₁ c₁ loc₂ σ₂ c₂){v:Value}{d:D}(r:Ahb c₁.s.heap c₁.s.toks c₁.M v d):Ahb c₂.s.heap c₂.s.toks c₂.M v d:=r.mono x.step x.toks
theorem Go.realL(x:Go φ loc₁ σ₁ c₁ loc₂ σ₂ c₂){v:List Value}{d:List D}(r:Ag8 c₁.s.heap c₁.s.toks c₁.M v d):Ag8 c₂.s.heap c₂.s.toks c₂.M v d:=r.mono x.step x.toks
def Acq(h:Heap)(k:Tok)(M:Addr→Prop)(v:Value):D→Prop
 |.list ds=>Ex3 fun a vs n=>And5 (v=.ref a) (M a) (IsL h a vs.toArray n) (Ag8 h k M vs ds) (ds.length≤line)
 |.Ahe es=>Ex2 fun a kvs=>And5 (v=.ref a) (M a) ((a == sysModules)=false) (h.DictOf (intKind prog w) a kvs) (Aha h k M kvs es)
 |_=>False
theorem Ahh.inv{h:Heap}{k:Tok}{M:Addr→Prop}{v:Value}{d:D}(r:Ahh h k M v d):Acq h k M v d:=by
 induction r using Ahh.casesOn with
 |list m l r z=>exact ⟨_,_,_,rfl,m,l,r,z⟩
 |Ahe m n l r=>exact ⟨_,_,rfl,m,n,l,r⟩
theorem Ahh.mono'{h h':Heap}{k k':Tok}{M M' T T':Addr→Prop}{v:Value}{d:D}(x:Step h M T h' M' T')(lk:k≤k')(r:Ahh h k M v d)
  (keep:∀a o,v=.ref a→h.get? a=some o→h'.get? a=some o) (up:∀a,v=.ref a→M a→M' a):Ahh h' k' M' v d:=by
 induction r using Ahh.casesOn with
 |list m l r z=>exact .list (up _ rfl m) (keep _ _ rfl l) (r.mono x lk) z
 |Ahe m n l r=>exact .Ahe (up _ rfl m) n (l.at fun o e=>keep _ _ rfl e) (r.mono x lk)
theorem Ahh.ref{h:Heap}{k:Tok}{M:Addr→Prop}{v:Value}{d:D}(r:Ahh h k M v d):Ex2 fun a o=>And3 (v=.ref a) (M a) (h.get? a=some o):=by
 induction r using Ahh.casesOn with
 |list m l r z=>exact ⟨_,_,rfl,m,l⟩
 |Ahe m n l r=>obtain ⟨o,e⟩:=DictOf.some l;exact ⟨_,o,rfl,m,e⟩
theorem Ahh.real{h:Heap}{k:Tok}{M M':Addr→Prop}{v:Value}{d:D}(r:Ahh h k M v d)(n:∀a,v=.ref a→¬M' a)(sub:∀b,M' b→M b):Ahb h k M' v d:=by
 have st:Step h M (fun ζ=>True) h M' (fun ζ=>True):=⟨fun ζ ζ ζ e=>e,fun ζ ζ ζ f ζ=>absurd trivial f,fun b m=>.inl (sub b m),fun ζ t=>.inl t⟩
 induction r using Ahh.casesOn with
 |list m l r z=>exact .list (n _ rfl) l (r.mono st (Nat.le_refl _)) z
 |Ahe m nn l r=>exact .Ahe (n _ rfl) nn l (r.mono st (Nat.le_refl _))
theorem Rep.fresh(R:Rep φ loc σ c){a:Addr}(h:c.s.heap.get? a=none):φ.h₀.get? a=none:=by
 cases e:φ.h₀.get? a with
 |none=>rfl
 |some o=>
  by_cases x:φ.X a
  ·obtain ⟨o',q⟩:=R.Ahd a (R.sup a (R.fx.sub a x))
   rw [h] at q;exact nos q
  ·rw [R.top a o e x] at h;exact nos h.symm
theorem Rep.grow(R:Rep φ loc σ c){s':Shared}{M':Addr→Prop}(x:Aip c.s c.M s' M'):Rep φ loc σ ⟨s',M',c.vs⟩ where
 fx:=R.fx
 len:=R.len
 top:=fun b o e n=>x.ext.keep b o (R.top b o e n)
 sup:=fun b m=>x.up b (R.sup b m)
 old:=fun b m=>by
  rcases x.old b m with q | q
  ·exact R.old b q
  ·exact .inr (R.fresh q)
 Ahd:=x.Ahd
 pos:=Nat.lt_of_lt_of_le R.pos x.ext.toks
 locs:=fun i L e=>let ⟨a,b,d,f⟩:=R.locs i L e;⟨Loc.Ait a fun o=>x.ext.keep _ o,x.up _ b,d,f⟩
 vals:=fun i o d e=>by
  obtain ⟨L,a,b,r⟩:=R.vals i o d e
  refine ⟨L,a,Loc.Aio b fun o=>x.ext.keep _ o,?_⟩
  have st:=x.step (T:=Aa loc σ c.vs) (T':=Aa loc σ c.vs) (fun b t=>.inl t)
  induction o using Own.casesOn with
  |sh=>exact Ahb.mono st x.ext.toks r
  |own=>exact ⟨Ahh.mono' st x.ext.toks r.1 (fun a o ζ=>x.ext.keep a o) (fun a ζ=>x.up a),r.2⟩
  |bor=>exact ⟨Ahh.mono' st x.ext.toks r.1 (fun a o ζ=>x.ext.keep a o) (fun a ζ=>x.up a),r.2⟩
 inj:=R.inj
 Air:=R.Air
 apart:=R.apart
theorem Rep.grows(R:Rep φ loc σ c){s':Shared}{M':Addr→Prop}(x:Aip c.s c.M s' M'):Go φ loc σ c loc σ ⟨s',M',c.vs⟩:=
 ⟨R.grow x,x.step fun ζ t=>.inl t,x.ext.toks,x.ext.gens,x.ext.os,fun b e=>x.ext.back e⟩
theorem Rep.ext(R:Rep φ loc σ c){s':Shared}(x:Ext c.s s'):Go φ loc σ c loc σ ⟨s',c.M,c.vs⟩:=R.grows (.of R.Ahd x)
theorem Du.root{o:Own}{d:D}{v:Value}(h:o≠.sh)(r:Du φ c o d v):Ahh c.s.heap c.s.toks c.M v d:=by
 induction o using Own.casesOn with
 |sh=>exact absurd rfl h
 |own=>exact r.1
 |bor=>exact r.1
theorem Rep.freeze(R:Rep φ loc σ c){i:Nat}{d:D}(e:σ.get i=some (.own,d)) :
  ∃M',Go φ loc σ c loc (σ.put i (.sh,d)) ⟨c.s,M',c.vs⟩∧Ahb c.s.heap c.s.toks M' (c.vs i) d:=by
 obtain ⟨L,hL,hv,r,fr⟩:=R.vals i _ _ e
 obtain ⟨a,o,va,ma,ea⟩:=r.ref
 have li:=(R.locs i L hL).2.2.2
 have sub:∀b,(c.M b∧b≠a)→c.M b:=fun b m=>m.1
 have hr:Ahb c.s.heap c.s.toks (fun b=>c.M b∧b≠a) (c.vs i) d:=r.real (fun b q m=>m.2 (by rw [va] at q;obtain rfl:=Value.ref.inj q;rfl)) sub
 have ta:Aa loc σ c.vs a:=.inr ⟨i,_,_,e,by decide,va⟩
 have Aiq:∀b,Aa loc (σ.put i (.sh,d)) c.vs b→Aa loc σ c.vs b:=by
  rintro b (q | ⟨j,o',d',ej,oj,vj⟩)
  ·exact .inl q
  ·rw [St.Ag6 _ _ _ _ li] at ej
   split at ej
   ·obtain ⟨rfl,rfl⟩:=As ej;exact absurd rfl oj
   ·exact .inr ⟨j,o',d',ej,oj,vj⟩
 have st:Step c.s.heap c.M (Aa loc σ c.vs) c.s.heap (fun b=>c.M b∧b≠a) (Aa loc (σ.put i (.sh,d)) c.vs):=
  ⟨fun ζ ζ ζ e=>e,fun b o m t e=>⟨e,m,fun q=>t (q ▸ ta)⟩,fun b m=>.inl m.1,fun b t=>.inl (Aiq b t)⟩
 refine ⟨fun b=>c.M b∧b≠a,⟨⟨R.fx,(St.Ag7 ..).trans R.len,R.top,fun b m=>⟨R.sup b m,fun q=>?_⟩,fun b m=>R.old b m.1,fun b m=>R.Ahd b m.1,R.pos,fun j L' e'=>?_,fun j o' d' e'=>?_,fun j k oj dj ok dk ej ek=>?_,R.Air,fun j o' d' b ej oj=>?_⟩,st,Nat.le_refl _,rfl,rfl,fun ζ e=>e⟩,hr⟩
 ·obtain ⟨o',e'⟩:=R.fx.Ahd b m
  rw [q,fr a va] at e';exact nos e'
 ·obtain ⟨x,y,z,u⟩:=R.locs j L' e'
  exact ⟨x,⟨y,R.apart i _ _ a e (by decide) va j L' e'⟩,z,by rw [St.Ag7];exact u⟩
 ·rw [St.Ag6 _ _ _ _ li] at e'
  split at e'
  ·rename_i q
   obtain ⟨rfl,rfl⟩:=As e';subst q
   exact ⟨L,hL,hv,hr⟩
  ·rename_i q
   obtain ⟨L',x,y,z⟩:=R.vals j _ _ e'
   refine ⟨L',x,y,?_⟩
   have ne:o'≠.sh→∀b,c.vs j=.ref b→b≠a:=fun oj b vb ba=>q (R.inj j i _ _ _ _ e' e oj (by decide) (by rw [vb,va,ba]))
   induction o' using Own.casesOn with
   |sh=>exact Ahb.mono st (Nat.le_refl _) z
   |own=>exact ⟨Ahh.mono' st (Nat.le_refl _) z.1 (fun ζ ζ ζ e=>e) (fun b vb m=>⟨m,ne (by decide) b vb⟩),z.2⟩
   |bor=>exact ⟨Ahh.mono' st (Nat.le_refl _) z.1 (fun ζ ζ ζ e=>e) (fun b vb m=>⟨m,ne (by decide) b vb⟩),z.2⟩
 ·intro oj' ok' vv
  rw [St.Ag6 _ _ _ _ li] at ej ek
  split at ej
  ·obtain ⟨rfl,rfl⟩:=As ej;exact absurd rfl oj'
  ·split at ek
   ·obtain ⟨rfl,rfl⟩:=As ek;exact absurd rfl ok'
   ·exact R.inj j k _ _ _ _ ej ek oj' ok' vv
 ·intro vj
  rw [St.Ag6 _ _ _ _ li] at ej
  split at ej
  ·obtain ⟨rfl,rfl⟩:=As ej;exact absurd rfl oj
  ·exact R.apart j _ _ b ej oj vj
def Dv(c₀:Cf)(loc:Bl)(σ:St)(c:Cf):Own→D→Value→Prop
 |.sh,d,v=>Ahb c.s.heap c.s.toks c.M v d
 |.own,d,v=>Ahh c.s.heap c.s.toks c.M v d∧∀a,v=.ref a→c₀.s.heap.get? a=none∧¬Aa loc σ c.vs a
 |.bor,_,_=>False
theorem Ahh.go(g:Go φ loc σ c loc' σ₁ c₁){v:Value}{d:D}(r:Ahh c.s.heap c.s.toks c.M v d)(n:∀a,v=.ref a→¬Aa loc σ c.vs a) :
  Ahh c₁.s.heap c₁.s.toks c₁.M v d:=by
 obtain ⟨a,o,rfl,m,e⟩:=r.ref
 exact Ahh.mono' g.step g.toks r (fun b o q e=>by obtain rfl:=Value.ref.inj q;exact (g.step.pend a o m (n a rfl) e).1) fun b q m=>by obtain rfl:=Value.ref.inj q;exact (g.step.pend a o m (n a rfl) e).2
theorem Dv.go(g:Go φ loc σ c loc' σ₁ c₁){o:Own}{d:D}{v:Value}(p:Dv c₀ loc σ c o d v):Dv c₀ loc' σ₁ c₁ o d v:=by
 induction o using Own.casesOn with
 |sh=>exact g.real p
 |own=>
  obtain ⟨r,n⟩:=p
  refine ⟨r.go g fun a q=>(n a q).2,fun a q=>⟨(n a q).1,fun t=>?_⟩⟩
  obtain ⟨a',o,q',m,e⟩:=r.ref
  rw [q] at q';obtain rfl:=Value.ref.inj q'
  rcases g.step.Aiq a t with t | t
  ·exact (n a q).2 t
  ·rw [e] at t;exact nos t.symm
 |bor=>exact p
theorem Dv.back(g:Go φ loc₁ σ₁ c₁ loc₂ σ₂ c₂){o:Own}{d:D}{v:Value}(p:Dv c₂ loc σ c o d v):Dv c₁ loc σ c o d v:=by
 induction o using Own.casesOn with
 |sh=>exact p
 |own=>exact ⟨p.1,fun a q=>⟨g.Ain a (p.2 a q).1,(p.2 a q).2⟩⟩
 |bor=>exact p
theorem Dv.slot(R:Rep φ loc σ c)(g:Go φ loc₁ σ₁ c₁ loc₂ σ₂ c₂)(R₁:Rep φ loc₁ σ₁ c₁){o:Own}{d:D}{v:Value}(p:Dv c₁ loc σ c o d v):Du φ c o d v:=by
 induction o using Own.casesOn with
 |sh=>exact p
 |own=>exact ⟨p.1,fun a q=>R₁.fresh (p.2 a q).1⟩
 |bor=>exact p.elim
theorem Go.thaw(g:Go φ loc₁ σ₁ c₁ loc σ c){o:Own}{d:D}{v:Value}(R₁:Rep φ loc₁ σ₁ c₁)(p:Dv c₁ loc σ c o d v) :
  ∃M',Go φ loc₁ σ₁ c₁ loc σ ⟨c.s,M',c.vs⟩∧Ahb c.s.heap c.s.toks M' v d:=by
 induction o using Own.casesOn with
 |sh=>exact ⟨c.M,g,p⟩
 |bor=>exact p.elim
 |own=>
  obtain ⟨r,n⟩:=p
  obtain ⟨a,o,rfl,ma,ea⟩:=r.ref
  obtain ⟨fr,nt⟩:=n a rfl
  have hr:Ahb c.s.heap c.s.toks (fun b=>c.M b∧b≠a) (.ref a) d:=r.real (fun b q m=>m.2 (by obtain rfl:=Value.ref.inj q;rfl)) fun b m=>m.1
  refine ⟨fun b=>c.M b∧b≠a,?_,hr⟩
  have st:Step c.s.heap c.M (fun b=>b=a) c.s.heap (fun b=>c.M b∧b≠a) (fun b=>b=a):=⟨fun ζ ζ ζ e=>e,fun b o m t e=>⟨e,m,t⟩,fun b m=>.inl m.1,fun b t=>.inl t⟩
  have R:=g.rep
  refine ⟨⟨R.fx,R.len,R.top,fun b m=>⟨R.sup b m,fun q=>?_⟩,fun b m=>R.old b m.1,fun b m=>R.Ahd b m.1,R.pos,fun j L' e'=>?_,fun j o' d' e'=>?_,R.inj,R.Air,R.apart⟩,
   ⟨g.step.keep,fun b o m t e=>?_,fun b m=>g.step.old b m.1,g.step.Aiq⟩,g.toks,g.gens,g.os,g.Ain⟩
  ·obtain ⟨o',e'⟩:=R.fx.Ahd b m
   rw [q,R₁.fresh fr] at e';exact nos e'
  ·obtain ⟨x,y,z,u⟩:=R.locs j L' e'
   exact ⟨x,⟨y,fun q=>nt (.inl ⟨j,L',e',q⟩)⟩,z,u⟩
  ·obtain ⟨L',x,y,z⟩:=R.vals j _ _ e'
   refine ⟨L',x,y,?_⟩
   have ne:o'≠.sh→∀b,c.vs j=.ref b→b≠a:=fun oj b vb ba=>nt (.inr ⟨j,o',d',e',oj,by rw [vb,ba]⟩)
   induction o' using Own.casesOn with
   |sh=>exact Ahb.mono st (Nat.le_refl _) z
   |own=>exact ⟨Ahh.mono' st (Nat.le_refl _) z.1 (fun ζ ζ ζ e=>e) (fun b vb m=>⟨m,ne (by decide) b vb⟩),z.2⟩
   |bor=>exact ⟨Ahh.mono' st (Nat.le_refl _) z.1 (fun ζ ζ ζ e=>e) (fun b vb m=>⟨m,ne (by decide) b vb⟩),z.2⟩
  ·obtain ⟨e',m'⟩:=g.step.pend b o m t e
   exact ⟨e',m',fun q=>by rw [q,fr] at e;cases e⟩
structure At1(a:Addr)(s s':Shared):Prop where
 keep:∀b o,b≠a→s.heap.get? b=some o→s'.heap.get? b=some o
 self:∃o,s'.heap.get? a=some o
 gens:s'.gens=s.gens
 os:s'.os=s.os
 toks:s.toks≤s'.toks
theorem At1.back{a:Addr}{s s':Shared}(x:At1 a s s'){b:Addr}(e:s'.heap.get? b=none):s.heap.get? b=none:=by
 by_cases q:b=a
 ·obtain ⟨o,h⟩:=x.self;rw [q,h] at e;exact nos e.symm
 ·cases h:s.heap.get? b with
  |none=>rfl
  |some o=>rw [x.keep b o q h] at e;exact nos e.symm
theorem Go.put(R₀:Rep φ loc σ₀ c₀)(g:Go φ loc σ₀ c₀ loc σ c){j:Nat}{L:Loc}{o:Own}{d:D}{v:Value}{s':Shared}(hL:loc j=some L)(p:Dv c₀ loc σ c o d v)(x:At1 L.addr c.s s')
  (has:L.has s'.heap v) (others:∀i L',loc i=some L'→i≠j→(∀u,L'.has c.s.heap u→L'.has s'.heap u)∧L'.ok s'.heap) :
  Go φ loc σ₀ c₀ loc (σ.put j (o,d)) ⟨s',c.M,fun i=>if i=j then v else c.vs i⟩:=by
 have R:=g.rep
 obtain ⟨_,mL,nL,lj⟩:=R.locs j L hL
 have sl:=Dv.slot R g R₀ p
 have stT:∀T:Addr→Prop,T L.addr→Step c.s.heap c.M T s'.heap c.M T:=fun T t=>⟨fun b o m e=>x.keep b o (fun q=>m (q ▸ mL)) e,fun b o m n e=>⟨x.keep b o (fun q=>n (q ▸ t)) e,m⟩,fun b m=>.inl m,fun b t=>.inl t⟩
 have st:=stT (Aa loc σ c.vs) (.inl ⟨j,L,hL,rfl⟩)
 have pv:o≠.sh→∃a,v=.ref a∧c₀.s.heap.get? a=none∧¬Aa loc σ c.vs a:=fun h=>by
  induction o using Own.casesOn with
  |sh=>exact absurd rfl h
  |bor=>exact p.elim
  |own=>obtain ⟨a,o,q,_,_⟩:=p.1.ref;exact ⟨a,q,(p.2 a q).1,(p.2 a q).2⟩
 have own:∀ {o':Own} {d':D} {u:Value},(o'≠.sh→∀a,u=.ref a→a≠L.addr)→Du φ c o' d' u→Du φ ⟨s',c.M,fun i=>if i=j then v else c.vs i⟩ o' d' u:=by
  intro o' d' u h z
  induction o' using Own.casesOn with
  |sh=>exact Ahb.mono st x.toks z
  |own=>exact ⟨Ahh.mono' st x.toks z.1 (fun b o q e=>x.keep b o (h (by decide) b q) e) (fun ζ ζ m=>m),z.2⟩
  |bor=>exact ⟨Ahh.mono' st x.toks z.1 (fun b o q e=>x.keep b o (h (by decide) b q) e) (fun ζ ζ m=>m),z.2⟩
 refine ⟨⟨R.fx,(St.Ag7 ..).trans R.len,fun b o e n=>x.keep b o (fun q=>by rw [q,nL] at e;exact nos e) (R.top b o e n),R.sup,R.old,fun b m=>?_,Nat.lt_of_lt_of_le R.pos x.toks,fun i L' e=>?_,fun i o' d' e=>?_,
  fun i k oi di ok dk ei ek hi hk q=>?_,R.Air,fun i o' d' a ei oi q k L' eL=>?_⟩,?_,Nat.le_trans g.toks x.toks,x.gens.trans g.gens,x.os.trans g.os,fun b e=>g.Ain b (x.back e)⟩
 ·by_cases q:b=L.addr
  ·rw [q];exact x.self
  ·obtain ⟨o,e⟩:=R.Ahd b m;exact ⟨o,x.keep b o q e⟩
 ·obtain ⟨a,b,d,f⟩:=R.locs i L' e
  refine ⟨?_,b,d,by rw [St.Ag7];exact f⟩
  by_cases q:i=j
  ·subst q;rw [hL] at e;obtain rfl:=Ag e;exact Loc.ok_of_has has
  ·exact (others i L' e q).2
 ·rw [St.Ag6 _ _ _ _ lj] at e
  dsimp only
  split at e
  ·rename_i q
   obtain ⟨rfl,rfl⟩:=As e;subst q
   rw [if_pos rfl]
   refine ⟨L,hL,has,own (fun h a q q'=>?_) sl⟩
   obtain ⟨a',va,_,nt⟩:=pv h
   rw [q] at va;obtain rfl:=Value.ref.inj va
   exact nt (.inl ⟨i,L,hL,q'.symm⟩)
  ·rename_i q
   rw [if_neg q]
   obtain ⟨L',x',y',z⟩:=R.vals i _ _ e
   refine ⟨L',x',(others i L' x' q).1 _ y',own (fun h a q' q''=>?_) z⟩
   exact R.apart i _ _ a e h q' j L hL q''.symm
 ·rw [St.Ag6 _ _ _ _ lj] at ei ek
  dsimp only at q
  split at ei <;> split at ek
  ·rename_i a b;rw [a,b]
  ·rename_i a b
   obtain ⟨rfl,rfl⟩:=As ei
   rw [if_pos a,if_neg b] at q
   obtain ⟨a',va,_,nt⟩:=pv hi
   exact absurd (.inr ⟨k,_,_,ek,hk,by rw [← q,va]⟩) nt
  ·rename_i a b
   obtain ⟨rfl,rfl⟩:=As ek
   rw [if_pos b,if_neg a] at q
   obtain ⟨a',va,_,nt⟩:=pv hk
   exact absurd (.inr ⟨i,_,_,ei,hi,by rw [q,va]⟩) nt
  ·rename_i a b
   rw [if_neg a,if_neg b] at q
   exact R.inj i k _ _ _ _ ei ek hi hk q
 ·rw [St.Ag6 _ _ _ _ lj] at ei
  dsimp only at q
  split at ei
  ·rename_i h
   obtain ⟨rfl,rfl⟩:=As ei
   rw [if_pos h] at q
   obtain ⟨a',va,_,nt⟩:=pv oi
   rw [q] at va;obtain rfl:=Value.ref.inj va
   exact fun q'=>nt (.inl ⟨k,L',eL,q'⟩)
  ·rename_i h
   rw [if_neg h] at q
   exact R.apart i _ _ a ei oi q k L' eL
 ·have t1:∀b,Aa loc (σ.put j (o,d)) (fun i=>if i=j then v else c.vs i) b→Aa loc σ c.vs b∨c₀.s.heap.get? b=none:=by
   rintro b (q | ⟨i,o',d',ei,oi,vi⟩)
   ·exact .inl (.inl q)
   ·rw [St.Ag6 _ _ _ _ lj] at ei
    dsimp only at vi
    split at ei
    ·rename_i h
     obtain ⟨rfl,rfl⟩:=As ei
     rw [if_pos h] at vi
     obtain ⟨a',va,fr,_⟩:=pv oi
     rw [vi] at va;obtain rfl:=Value.ref.inj va
     exact .inr fr
    ·rename_i h
     rw [if_neg h] at vi
     exact .inl (.inr ⟨i,o',d',ei,oi,vi⟩)
  have s2:=g.step.trans st
  exact ⟨s2.keep,s2.pend,s2.old,fun b t=>by
   rcases t1 b t with t | t
   ·exact g.step.Aiq b t
   ·exact .inr t⟩
theorem Rep.root(R:Rep φ loc σ c){i:Nat}{o:Own}{d d':D}{a:Addr}{s':Shared}{M':Addr→Prop}(e:σ.get i=some (o,d))(ho:o≠.sh)(va:c.vs i=.ref a)(x:At1 a c.s s')
  (up:∀b,c.M b→M' b) (old:∀b,M' b→c.M b∨c.s.heap.get? b=none) (S:Bc s'.heap M') (r:Ahh s'.heap s'.toks M' (.ref a) d') :
  Go φ loc σ c loc (σ.put i (o,d')) ⟨s',M',c.vs⟩:=by
 obtain ⟨L,hL,hv,z⟩:=R.vals i _ _ e
 have li:=(R.locs i L hL).2.2.2
 obtain ⟨a',o',va',ma,ea⟩:=(Du.root ho z).ref
 rw [va] at va';obtain rfl:=Value.ref.inj va'
 have tr:∀b,Aa loc (σ.put i (o,d')) c.vs b→Aa loc σ c.vs b:=by
  rintro b (q | ⟨j,o',d',ej,oj,vj⟩)
  ·exact .inl q
  ·rw [St.Ag6 _ _ _ _ li] at ej
   split at ej
   ·rename_i q;obtain ⟨rfl,rfl⟩:=As ej;exact .inr ⟨i,_,_,e,ho,q ▸ vj⟩
   ·exact .inr ⟨j,_,_,ej,oj,vj⟩
 have st:Step c.s.heap c.M (Aa loc σ c.vs) s'.heap M' (Aa loc (σ.put i (o,d')) c.vs):=
  ⟨fun b o m e=>x.keep b o (fun q=>m (q ▸ ma)) e,fun b o' m t e'=>⟨x.keep b o' (fun q=>t (q ▸ .inr ⟨i,_,_,e,ho,va⟩)) e',up b m⟩,old,fun b t=>.inl (tr b t)⟩
 refine ⟨⟨R.fx,(St.Ag7 ..).trans R.len,fun b ob e' n=>?_,fun b m=>up b (R.sup b m),fun b m=>?_,S,Nat.lt_of_lt_of_le R.pos x.toks,fun j L' e'=>?_,fun j oj dj ej=>?_,fun j k oj dj ok dk ej ek hj hk q=>?_,R.Air,fun j oj dj b ej hj q k L' eL=>?_⟩,
  st,x.toks,x.gens,x.os,fun b e=>x.back e⟩
 ·by_cases q:b=a
  ·subst q
   induction o using Own.casesOn with
   |sh=>exact absurd rfl ho
   |own=>rw [z.2 b va] at e';exact nos e'
   |bor=>exact absurd (z.2 b va) n
  ·exact x.keep b ob q (R.top b ob e' n)
 ·rcases old b m with q | q
  ·exact R.old b q
  ·exact .inr (R.fresh q)
 ·obtain ⟨u1,u2,u3,u4⟩:=R.locs j L' e'
  exact ⟨Loc.Ait u1 fun o=>x.keep _ o (R.apart i _ _ a e ho va j L' e'),up _ u2,u3,by rw [St.Ag7];exact u4⟩
 ·rw [St.Ag6 _ _ _ _ li] at ej
  split at ej
  ·rename_i q
   obtain ⟨rfl,rfl⟩:=As ej;subst q
   refine ⟨L,hL,Loc.Aio hv fun o=>x.keep _ o (R.apart j _ _ a e ho va j L hL),?_⟩
   induction o using Own.casesOn with
   |sh=>exact absurd rfl ho
   |own=>exact ⟨by rw [show (⟨s',M',c.vs⟩ : Cf).vs j=.ref a from va];exact r,z.2⟩
   |bor=>exact ⟨by rw [show (⟨s',M',c.vs⟩ : Cf).vs j=.ref a from va];exact r,z.2⟩
  ·rename_i q
   obtain ⟨L',x',y',z'⟩:=R.vals j _ _ ej
   refine ⟨L',x',Loc.Aio y' fun o=>x.keep _ o (R.apart i _ _ a e ho va j L' x'),?_⟩
   have ne:oj≠.sh→∀b,c.vs j=.ref b→b≠a:=fun hj b vb ba=>q (R.inj j i _ _ _ _ ej e hj ho (by rw [vb,va,ba]))
   induction oj using Own.casesOn with
   |sh=>exact Ahb.mono st x.toks z'
   |own=>exact ⟨Ahh.mono' st x.toks z'.1 (fun b o q e=>x.keep b o (ne (by decide) b q) e) (fun b ζ m=>up b m),z'.2⟩
   |bor=>exact ⟨Ahh.mono' st x.toks z'.1 (fun b o q e=>x.keep b o (ne (by decide) b q) e) (fun b ζ m=>up b m),z'.2⟩
 ·rw [St.Ag6 _ _ _ _ li] at ej ek
  split at ej <;> split at ek
  ·rename_i p q;rw [p,q]
  ·rename_i p h;obtain ⟨rfl,rfl⟩:=As ej;rw [p];exact R.inj i k _ _ _ _ e ek hj hk (by rw [← p];exact q)
  ·rename_i p h;obtain ⟨rfl,rfl⟩:=As ek;rw [h];exact R.inj j i _ _ _ _ ej e hj hk (by rw [← h];exact q)
  ·exact R.inj j k _ _ _ _ ej ek hj hk q
 ·rw [St.Ag6 _ _ _ _ li] at ej
  split at ej
  ·rename_i p;obtain ⟨rfl,rfl⟩:=As ej;exact R.apart i _ _ b e hj (by rw [← p];exact q) k L' eL
  ·exact R.apart j _ _ b ej hj q k L' eL
end
end Mine
end
section
set_option genSizeOf false
open PySem PySem.W PyProof.Rows
set_option autoImplicit false
namespace Mine
set_option genInjectivity false in
structure Sx where
 vars:List (Str×Nat)
 names:List (Str×NameKind)
 top:Nat
 nv:Nat
noncomputable def U2:Option NameKind→Bool
 |some .cell=>true
 |some .free=>true
 |_=>false
inductive Place(env:Env)(S:Sx)(x:Str):Loc→Prop
 |dct:S.names.lookup x=some .local→Place env S x (.dct env.locals x)
 |cel {c:Addr}:U2 (S.names.lookup x)=true→env.cells.lookup x=some c→Place env S x (.cel c)
structure Ahk(φ:Fx)(S:Sx)(loc:Bl)(env:Env):Prop where
 kind:env.scope.kind=.function
 g:env.globals=mainGlobals
 b:env.builtins=builtinsNs
 names:∀x k,S.names.lookup x=some k→env.kindOf x=some k∨(k=.free∧env.kindOf x=some .cell)
 vars:∀x i,S.vars.lookup x=some i→∃L,loc i=some L∧Place env S x L
 top:∀i L,loc i=some L→i<S.top
 nv:φ.nv=S.nv
noncomputable def biL:List (Str×Value):=[("len",.builtin "len"),("range",.type "range"),("list",.type "list"),("min",.builtin "min"),("max",.builtin "max"),("sum",.builtin "sum"),
 ("sorted",.builtin "sorted"),("dict",.type "dict"),("zip",.type "zip"),("isinstance",.builtin "isinstance"),("bool",.type "bool"),("int",.type "int"),("enumerate",.type "enumerate")]
structure Gl(hT:Heap):Prop where
 nl:hT.NoLimit
 k:K hT
 glob:Ex2 fun mg mb=>And4 (hT.Ns mainGlobals mg) (hT.Ns builtinsNs mb) ((∀x d,G x=some d→∃v,mg x=some v∧Ahb hT 0 (fun ζ=>False) v d)) (∀x v,biL.lookup x=some v→mg x=none∧mb x=some v)
def Da(n:Nat)(A:Around):Prop:=A.handled=none∧A.depth+n≤900∧A.units+12 * n≤9000
section
variable {φ:Fx} {loc:Bl} {σ σ₁:St} {c c₁ c₀:Cf} {A:Around} {E:Value→Shared→Prop} {S:Sx} {env:Env}
theorem Ahk.local'(V:Ahk φ S loc env){x:Str}(h:S.names.lookup x=some .local):env.kindOf x=some .local:=by
 rcases V.names x _ h with q | ⟨q,_⟩
 ·exact q
 ·cases q
theorem Ahk.global(V:Ahk φ S loc env){x:Str}(h:S.names.lookup x=some .globalImplicit):env.kindOf x=some .globalImplicit:=by
 rcases V.names x _ h with q | ⟨q,_⟩
 ·exact q
 ·cases q
theorem Ahk.cf(V:Ahk φ S loc env){x:Str}(h:U2 (S.names.lookup x)=true):env.kindOf x=some .cell∨env.kindOf x=some .free:=by
 cases q:S.names.lookup x with
 |none=>rw [q] at h;exact absurd h Bool.false_ne_true
 |some k=>
  rw [q] at h
  cases k <;> try ((first | exact absurd h Bool.false_ne_true | cases h);done)
  ·rcases V.names x _ q with q | ⟨q,_⟩
   ·exact .inl q
   ·cases q
  ·rcases V.names x _ q with q | ⟨_,q⟩
   ·exact .inr q
   ·exact .inl q
theorem Ae0{h:Heap}{a:Addr}{m m':Str→Option Value}(n:h.Ns a m)(n':h.Ns a m'):m=m':=by
 obtain ⟨o,es,ep,e,d,_,f⟩:=n
 obtain ⟨o',es',ep',e',d',_,f'⟩:=n'
 rw [e] at e';obtain rfl:=Ag e'
 rw [d] at d';cases d'
 funext x;rw [← f x,← f' x]
theorem Ee(V:Ahk φ S loc env)(R:Rep φ loc σ c){x:Str}{i:Nat}{o:Own}{d:D}(hx:S.vars.lookup x=some i)(e:σ.get i=some (o,d))(hd:(x == ("__classdict__" : Str))=false)
  {Q:Value→Shared→Prop} (hQ:Q (c.vs i) c.s):wpAny (model prog w) A (loadName env x) Q E c.s:=by
 obtain ⟨L,hL,pl⟩:=V.vars x i hx
 obtain ⟨L',hL',has,_⟩:=R.vals i _ _ e
 rw [hL] at hL';obtain rfl:=Ag hL'
 induction pl using Place.casesOn with
 |dct h=>
  obtain ⟨m,n,e⟩:=has
  exact wpAny_loadName_local V.kind (V.local' h) n e hQ
 |cel h hc=>
  rcases V.cf h with q | q
  ·exact wpAny_loadName_cell V.kind q hc has hQ
  ·exact wpAny_loadName_free V.kind q hc has hQ hd
theorem Dh(V:Ahk φ S loc env)(R₀:Rep φ loc σ₁ c₀)(g:Go φ loc σ₁ c₀ loc σ c){x:Str}{i:Nat}{o:Own}{d:D}{v:Value}(hx:S.vars.lookup x=some i)(hf:S.names.lookup x≠some .free)(p:Dv c₀ loc σ c o d v)
  {Q:Unit→Shared→Prop} (hQ:∀c',Go φ loc σ₁ c₀ loc (σ.put i (o,d)) c'→c'.M=c.M→c'.vs=(fun j=>if j=i then v else c.vs j)→
   (∀b o,¬Aa loc σ c.vs b→c.s.heap.get? b=some o→c'.s.heap.get? b=some o)→c.s.toks≤c'.s.toks→Q () c'.s):wpAny (model prog w) A (storeName env x v) Q E c.s:=by
 obtain ⟨L,hL,pl⟩:=V.vars x i hx
 have R:=g.rep
 obtain ⟨ok,mL,nL,li⟩:=R.locs i L hL
 induction pl using Place.casesOn with
 |dct h=>
  obtain ⟨m,n⟩:=ok
  refine wpAny_storeName_local (V.local' h) n (fun h' hn hs=>?_) (by rw [V.kind];rfl)
  have sh:∀ {b o},b≠env.locals→c.s.heap.get? b=some o→h'.get? b=some o:=fun hb e=>(hs.2 _ hb).trans e
  refine hQ ⟨{ c.s with heap:=h',toks:=c.s.toks+1 },c.M,fun j=>if j=i then v else c.vs j⟩ ?_ rfl rfl (fun b o nt e=>sh (fun q=>nt (.inl ⟨i,_,hL,q.symm⟩)) e) (Nat.le_succ _)
  refine Go.put R₀ g hL p ⟨fun b o hb e=>sh hb e,?_,rfl,rfl,Nat.le_succ _⟩ ⟨_,hn,if_pos rfl⟩ fun j L' hL' hj=>?_
  ·obtain ⟨o,_,_,e,_⟩:=hn;exact ⟨o,e⟩
  ·induction L' using Loc.casesOn with
   |dct a y=>
    by_cases ha:a=env.locals
    ·subst ha
     have ne:y≠x:=fun q=>hj (R.Air j i _ hL' (by rw [hL,q]))
     refine ⟨fun u hu=>?_,⟨_,hn⟩⟩
     obtain ⟨m',n',e'⟩:=hu
     refine ⟨_,hn,?_⟩
     rw [if_neg ne,← e',Ae0 n n']
    ·exact ⟨fun u hu=>Loc.Aio hu fun o e=>sh ha e,Loc.Ait (R.locs j _ hL').1 fun o e=>sh ha e⟩
   |cel a=>
    have ha:a≠env.locals:=by
     rintro rfl
     obtain ⟨_,o,e,q⟩:=(R.locs j _ hL').1
     obtain ⟨o',_,_,e',q',_⟩:=n
     rw [e] at e';obtain rfl:=Ag e'
     rw [q] at q';cases q'
    exact ⟨fun u hu=>Loc.Aio hu fun o e=>sh ha e,Loc.Ait (R.locs j _ hL').1 fun o e=>sh ha e⟩
 |@cel a h hc=>
  obtain ⟨v₀,n⟩:=ok
  have done:∀h',h'.IsCell a (some v)→Heap.SameBut a c.s.heap h'→Q () { c.s with heap:=h' }:=fun h' hn hs=>by
   have sh:∀ {b o},b≠a→c.s.heap.get? b=some o→h'.get? b=some o:=fun hb e=>(hs.2 _ hb).trans e
   refine hQ ⟨{ c.s with heap:=h' },c.M,fun j=>if j=i then v else c.vs j⟩ ?_ rfl rfl (fun b o nt e=>sh (fun q=>nt (.inl ⟨i,_,hL,q.symm⟩)) e) (Nat.le_refl _)
   refine Go.put R₀ g hL p ⟨fun b o hb e=>sh hb e,?_,rfl,rfl,Nat.le_refl _⟩ hn fun j L' hL' hj=>?_
   ·obtain ⟨o,e,_⟩:=hn;exact ⟨o,e⟩
   ·have ha:L'.addr≠a:=by
     intro q
     induction L' using Loc.casesOn with
     |dct b y=>
      change b=a at q
      obtain ⟨_,o',_,_,e',q',_⟩:=(R.locs j _ hL').1
      obtain ⟨o,e,q2⟩:=n
      rw [q,e] at e';obtain rfl:=Ag e'
      rw [q2] at q';cases q'
     |cel b=>change b=a at q;exact hj (R.Air j i _ hL' (by rw [hL,q]))
    exact ⟨fun u hu=>Loc.Aio hu fun o e=>sh ha e,Loc.Ait (R.locs j _ hL').1 fun o e=>sh ha e⟩
  refine wpAny_storeName_cell V.kind ?_ hc n done
  cases q:S.names.lookup x with
  |none=>rw [q] at h;exact absurd h Bool.false_ne_true
  |some k=>
   rw [q] at h hf
   cases k <;> try ((first | exact absurd h Bool.false_ne_true | cases h);done)
   ·rcases V.names x _ q with q | ⟨q,_⟩
    ·exact q
    ·cases q
   ·exact absurd rfl hf
end
end Mine
end
section
open PySem PySem.W PyProof.Rows
set_option autoImplicit false
namespace Mine
noncomputable def bn:Bi→Str
 |.len=> "len" | .range=> "range" | .list=> "list" | .min=> "min" | .max=> "max" | .sum=> "sum"
 |.sorted=> "sorted" | .Ahn=> "dict" | .isBool=> "isinstance" | .isInt=> "isinstance"
noncomputable def mn:Mt→Str
 |.lower=> "lower" | .upper=> "upper" | .split=> "split" | .join=> "join" | .index=> "index" | .get=> "get"
noncomputable def Za:Bi→Bool
 |.range | .min | .max | .sum | .sorted=>true
 |_=>false
noncomputable def D4:Option NameKind→Bool
 |some .cell=>true
 |some .local=>true
 |_=>false
noncomputable def Dk{α:Type}[DecidableEq α]:List α→Bool
 |[]=>true
 |a :: l=>!l.contains a && Dk l
noncomputable def Dz:List (Tg×E×List E)→List Nat
 |[]=>[]
 |(.v i,_,_) :: r=>i :: Dz r
 |(.t is,_,_) :: r=>is++Dz r
theorem tg_n:Dz []=[]:=rfl
theorem tg_v{i:Nat}{g:E×List E}{r:List (Tg×E×List E)}:Dz ((.v i,g) :: r)=i :: Dz r:=rfl
theorem tg_t{i:List Nat}{g:E×List E}{r:List (Tg×E×List E)}:Dz ((.t i,g) :: r)=i++Dz r:=rfl
noncomputable def F7:E→Bool
 |.enum _=>true
 |_=>false
noncomputable def Fr:List (Tg×E×List E)→Bool
 |[]=>true
 |(.t _,_,_) :: r=>Fr r
 |(.v _,it,_) :: r=>!F7 it && Fr r
theorem en_v{i:Nat}{it:E}{cs:List E}{r:List (Tg×E×List E)}:Fr ((.v i,it,cs) :: r)=(!F7 it && Fr r):=rfl
noncomputable def El(S S':Sx)(scope:Scope)(own:List (Str×Nat))(del:List Nat):Bool:=
 (scope.kind == .function) && (S'.names == scope.names) && (S'.nv == S.nv) && decide (S.top≤S'.top) && decide (S'.top≤S.nv) &&
 own.all (fun p=>D4 (scope.names.lookup p.1) && decide (S.top≤p.2) && decide (p.2<S'.top) && del.contains p.2) &&
 Dk (own.map (·.1)) && Dk (own.map (·.2)) && Dk (scope.names.map (·.1)) &&
 S'.vars.all (fun p=>own.contains p || ((scope.names.lookup p.1 == some .free) && (S.vars.lookup p.1 == some p.2) && U2 (S.names.lookup p.1))) &&
 scope.names.all (fun p=>!(p.2 == .free) || (U2 (S.names.lookup p.1) && (S.vars.lookup p.1).isSome)) &&
 scope.names.all (fun p=>!(p.2 == .local) || (p.1 == (".0" : Str)) || (own.map (·.1)).contains p.1)
def Bn(pe:Expr):Prop:=∀env x,foldedSetIterable pe env x=pure x
noncomputable def Cx(S:Sx)(x:Str):Bool:=(S.names.lookup x == some .globalImplicit) && !(x == ("__debug__" : Str))
noncomputable def Cq(x:Str):Bool:=!(x == ("__debug__" : Str)) && !(x == ("__classdict__" : Str))
noncomputable def Fk:Expr→Bool
 |.ListComp .. | .SetComp .. | .DictComp ..=>false
 |_=>true
noncomputable def Bh:Expr→Bool
 |.Slice ..=>false
 |_=>true
section
class inductive TrN:Sx→List Nat→List Expr→Prop
 |nil {S}:TrN S [] []
 |cons {S i x p is pes}:S.vars.lookup x=some i→D4 (S.names.lookup x)=true→TrN S is pes→TrN S (i :: is) (.Name x p :: pes)
inductive Ahw:Sx→Tg→Expr→Prop
 |v {S i x p}:S.vars.lookup x=some i→D4 (S.names.lookup x)=true→Cq x=true→Ahw S (.v i) (.Name x p)
 |t {S is pes k p}:Dk is=true→TrN S is pes→Ahw S (.t is) (.Tuple pes k p)
section
variable (R:Sx→E→Expr→Prop)
class inductive TrL:Sx→List E→List Expr→Prop
 |nil {S}:TrL S [] []
 |cons {S e es pe pes}:R S e pe→TrL S es pes→TrL S (e :: es) (pe :: pes)
inductive TrO:Sx→Option E→Option Expr→Prop
 |none {S}:TrO S Option.none Option.none
 |some {S e pe}:R S e pe→TrO S (Option.some e) (Option.some pe)
mutual
inductive TrT:Sx→E→Expr→Prop
 |not {S e pe p}:TrT S e pe→TrT S (.not e) (.UnaryOp .Not pe p)
 |and {S es pes p}:Ahx S es pes→TrT S (.and es) (.BoolOp .And pes p)
 |or {S es pes p}:Ahx S es pes→TrT S (.or es) (.BoolOp .Or pes p)
 |cmp {S o l r po pl pr p}:po=Eu o→behindInMarks (Eu o) pr=false→R S l pl→R S r pr→TrT S (.cmp o l r) (.Compare pl [po] [pr] p)
 |val {S e pe}:(∀env t,isTrue pe env t=(do let v ← t;standAt pe.pos;holding [v] (truthy v)))→R S e pe→TrT S e pe
inductive Ahx:Sx→List E→List Expr→Prop
 |nil {S}:Ahx S [] []
 |cons {S e es pe pes}:TrT S e pe→Ahx S es pes→Ahx S (e :: es) (pe :: pes)
end
inductive TrI:Sx→E→Expr→Prop
 |enum {S e x q pe p}:Cx S "enumerate" = true→x=("enumerate" : Str)→R S e pe→TrI S (.enum e) (.Call (.Name x q) [pe] [] p)
 |plain {S e pe}:R S e pe→TrI S e pe
class inductive TrG:Sx→List (Tg×E×List E)→List Comprehension→Prop
 |nil {S}:TrG S [] []
 |cons {S tg it cs gs ptg pit pcs pgs}:Bn pit→TrI R S it pit→Ahw S tg ptg→Ahx R S cs pcs→TrG S gs pgs→TrG S ((tg,it,cs) :: gs) (⟨ptg,pit,pcs,0⟩ :: pgs)
end
inductive Ahv(R:Sx→E→Expr→Prop):Sx→E→Expr→Prop
 |none {S k p}:Ahv R S (.lit .none) (.Constant .none k p)
 |bool {S b k p}:Ahv R S (.lit (.bool b)) (.Constant (.bool b) k p)
 |int {S i k p}:Ahv R S (.lit (.int i)) (.Constant (.int i) k p)
 |str {S s x k p}:x=mkS s→s.length≤line→Ahv R S (.lit (.str s)) (.Constant (.str x) k p)
 |Ahi {S s x k p}:x=mkS s→s.length≤line→Ahv R S (.Ahi s) (.Constant (.str x) k p)
 |var {S i x p}:S.vars.lookup x=some i→Cq x=true→Ahv R S (.var i) (.Name x p)
 |glob {S d x p}:Cx S x=true→G x=some d→Ahv R S (.glob d) (.Name x p)
 |bin {S o l r po pl pr p}:po=K3 o→R S l pl→R S r pr→Ahv R S (.bin o l r) (.BinOp pl po pr p)
 |neg {S e pe p}:R S e pe→Ahv R S (.neg e) (.UnaryOp .USub pe p)
 |orv {S l r pl pr p}:R S l pl→R S r pr→Ahv R S (.orv l r) (.BoolOp .Or [pl,pr] p)
 |ite {S t b o pt pb po p}:TrT R S t pt→R S b pb→R S o po→Ahv R S (.ite t b o) (.IfExp pt pb po p)
 |cmp {S o l r po pl pr p}:po=Eu o→behindInMarks (Eu o) pr=false→R S l pl→R S r pr→Ahv R S (.cmp o l r) (.Compare pl [po] [pr] p)
 |list {S es pes p}:TrL R S es pes→Ahv R S (.list es) (.List pes p)
 |tup {S es pes k p}:TrL R S es pes→Ahv R S (.tup es) (.Tuple pes k p)
 |Ahr {S p}:Ahv R S .Ahr (.Dict [] [] p)
 |call {S f a as x q Ahp p} {io:Bool}:R S f (.Name x q)→TrL R S (a :: as) Ahp→decide (Ahp.length≤30)=true→Ahv R S (.call f (a :: as) io) (.Call (.Name x q) Ahp [] p)
 |len {S e x q pe p}:Cx S "len" = true→x=("len" : Str)→R S e pe→Ahv R S (.bi .len [e]) (.Call (.Name x q) [pe] [] p)
 |bi {S b a as x q Ahp p}:Za b=true→Cx S (bn b)=true→x=bn b→TrL R S (a :: as) Ahp→Ahv R S (.bi b (a :: as)) (.Call (.Name x q) Ahp [] p)
 |blist {S e x q pe p}:Cx S "list" = true→x=("list" : Str)→R S e pe→Ahv R S (.bi .list [e]) (.Call (.Name x q) [pe] [] p)
 |isB {S e x y q r pe p}:Cx S "isinstance" = true→Cx S "bool" = true→x=("isinstance" : Str)→y=("bool" : Str)→R S e pe→Ahv R S (.bi .isBool [e]) (.Call (.Name x q) [pe,.Name y r] [] p)
 |isI {S e x y q r pe p}:Cx S "isinstance" = true→Cx S "int" = true→x=("isinstance" : Str)→y=("int" : Str)→R S e pe→Ahv R S (.bi .isInt [e]) (.Call (.Name x q) [pe,.Name y r] [] p)
 |Ahn {S a b x y q r pa pb p p'}:Cx S "dict" = true→Cx S "zip" = true→x=("dict" : Str)→y=("zip" : Str)→R S a pa→R S b pb→
   Ahv R S (.bi .Ahn [a,b]) (.Call (.Name x q) [.Call (.Name y r) [pa,pb] [] p'] [] p)
 |meth {S m o args n po ap Ahp p}:n=mn m→(∀env t,attributeBase po (mn m) env t=t)→(ap.endLine == p.line)=true→decide (Ahp.length<30)=true→R S o po→TrL R S args Ahp→
   Ahv R S (.meth m o args) (.Call (.Attribute po n ap) Ahp [] p)
 |repl {S o old w x n po pold k q ap p}:n=("replace" : Str)→(∀env t,attributeBase po ("replace" : Str) env t=t)→(ap.endLine == p.line)=true→x=mkS w→decide (w.length≤line)=true→R S o po→R S old pold→
   Ahv R S (.repl o old w) (.Call (.Attribute po n ap) [pold,.Constant (.str x) k q] [] p)
 |idx {S o i po pi p}:Bh pi=true→R S o po→R S i pi→Ahv R S (.idx o i) (.Subscript po pi p)
 |Ahu {S o i po pi p}:Bh pi=true→R S o po→R S i pi→Ahv R S (.Ahu o i) (.Subscript po pi p)
 |slc {S o l u po pl pu q p}:R S o po→TrO R S l pl→TrO R S u pu→Ahv R S (.slc o l u false) (.Subscript po (.Slice pl pu Option.none q) p)
 |slcR {S o po k r t q p}:R S o po→Ahv R S (.slc o Option.none Option.none true) (.Subscript po (.Slice Option.none Option.none (some (.UnaryOp .USub (.Constant (.int 1) k r) t)) q) p)
 |comp {S S' own elt tg it cs gs Aho ptg pit pcs pgs scope p}:El S S' scope own (Dz ((tg,it,cs) :: gs))=true→Fr ((tg,it,cs) :: gs)=true→Bn pit→TrI R S it pit→Ahw S' tg ptg→Ahx R S' cs pcs→TrG R S' gs pgs→R S' elt Aho→
   Ahv R S (.comp elt ((tg,it,cs) :: gs)) (.ListComp Aho (⟨ptg,pit,pcs,0⟩ :: pgs) scope p)
 |Ah1 {S S' own k v tg it pk pv ptg pit scope p}:El S S' scope own (Dz [(tg,it,[])])=true→Fr [(tg,it,[])]=true→Bn pit→TrI R S it pit→Ahw S' tg ptg→R S' k pk→R S' v pv→
   Ahv R S (.Ah1 k v (tg,it)) (.DictComp pk pv [⟨ptg,pit,[],0⟩] scope p)
def TrE:Nat→Sx→E→Expr→Prop
 |0=>fun ζ ζ ζ=>False
 |n+1=>Ahv (TrE n)
end
section
variable (R:Sx→E→Expr→Prop)
def Agx(S:Sx)(pes:List Expr):List E→Prop
 |[]=>pes=[]
 |e :: es=>Ex2 fun pe r=>And3 (pes=pe :: r) (R S e pe) (TrL R S es r)
def Acn(S:Sx)(pes:List Expr):List E→Prop
 |[]=>pes=[]
 |e :: es=>Ex2 fun pe r=>And3 (pes=pe :: r) (TrT R S e pe) (Ahx R S es r)
def Agy(S:Sx)(pgs:List Comprehension):List (Tg×E×List E)→Prop
 |[]=>pgs=[]
 |g :: gs=>Ex4 fun ptg pit pcs r=>And6 (pgs=⟨ptg,pit,pcs,0⟩ :: r) (Bn pit) (TrI R S g.2.1 pit) (Ahw S g.1 ptg) (Ahx R S g.2.2 pcs) (TrG R S gs r)
class inductive TrW:Sx→Nat→List E→List Expr→Prop
 |nil {S i}:TrW S i [] []
 |cons {S i e x q pe p es pes}:S.vars.lookup x=some i→Cq x=true→Bh pe=true→R S e pe→TrW S i es pes→TrW S i (e :: es) (.Subscript (.Name x q) pe p :: pes)
class inductive Ahy(RS:Sx→S→Stmt→Prop):Sx→List S→List Stmt→Prop
 |nil {S}:Ahy RS S [] []
 |cons {S s ss ps pss}:RS S s ps→Ahy RS S ss pss→Ahy RS S (s :: ss) (ps :: pss)
inductive Ahz(R:Sx→E→Expr→Prop)(RS:Sx→S→Stmt→Prop):Sx→S→Stmt→Prop
 |app {S i e x q n ap pe cp p}:S.vars.lookup x=some i→Cq x=true→n=("append" : Str)→(ap.endLine == cp.line)=true→R S e pe→
   Ahz R RS S (.app i e) (.Expr (.Call (.Attribute (.Name x q) n ap) [pe] [] cp) p)
 |ext {S i e x q n ap pe cp p}:S.vars.lookup x=some i→Cq x=true→n=("extend" : Str)→(ap.endLine == cp.line)=true→R S e pe→
   Ahz R RS S (.ext i e) (.Expr (.Call (.Attribute (.Name x q) n ap) [pe] [] cp) p)
 |asg {S i e x q pe p}:S.vars.lookup x=some i→D4 (S.names.lookup x)=true→Cq x=true→Fk pe=true→R S e pe→Ahz R RS S (.asg i e) (.Assign [.Name x q] pe p)
 |asgC {S i elt gs x q Aho pgs scope r p}:S.vars.lookup x=some i→D4 (S.names.lookup x)=true→Cq x=true→R S (.comp elt gs) (.ListComp Aho pgs scope r)→
   Ahz R RS S (.asg i (.comp elt gs)) (.Assign [.Name x q] (.ListComp Aho pgs scope r) p)
 |asg2 {S i j e x y q r pe p}:S.vars.lookup x=some i→D4 (S.names.lookup x)=true→S.vars.lookup y=some j→D4 (S.names.lookup y)=true→Cq x=true→Cq y=true→R S e pe→
   Ahz R RS S (.asg2 i j e) (.Assign [.Name x q,.Name y r] pe p)
 |Ah0 {S is e pes k q pe p}:(∀env,swappedStores [.Tuple pes k q] pe env=pure none)→Dk is=true→TrN S is pes→R S e pe→Ahz R RS S (.Ah0 is e) (.Assign [.Tuple pes k q] pe p)
 |Ahs {S is es pes pvs k q k' q' p}:Dk is=true→decide (is.length≤3)=true→TrN S is pes→TrL R S es pvs→(pvs.all (foldedForSure 8)=true∨pvs.all (constantsAlone 8)=false)→
   Ahz R RS S (.Ahs is es) (.Assign [.Tuple pes k q] (.Tuple pvs k' q') p)
 |swp {S i is es pts pvs k q k' q' p}:decide (is.length≤3)=true→TrW R S i is pts→TrL R S es pvs→Ahz R RS S (.swp i is es) (.Assign [.Tuple pts k q] (.Tuple pvs k' q') p)
 |put {S i ie e x q pi r pe p}:S.vars.lookup x=some i→Cq x=true→Bh pi=true→Fk pe=true→R S ie pi→R S e pe→Ahz R RS S (.put i ie e) (.Assign [.Subscript (.Name x q) pi r] pe p)
 |aug {S o i e x q po pe p}:po=K3 o→(o=.add∨o=.sub∨o=.mul)→S.vars.lookup x=some i→D4 (S.names.lookup x)=true→Cq x=true→R S e pe→Ahz R RS S (.aug o i e) (.AugAssign (.Name x q) po pe p)
 |Ahq {S o i ie e x q pi r po pe p}:po=K3 o→(o=.add∨o=.sub∨o=.mul)→S.vars.lookup x=some i→Cq x=true→Bh pi=true→R S ie pi→R S e pe→
   Ahz R RS S (.Ahq o i ie e) (.AugAssign (.Subscript (.Name x q) pi r) po pe p)
 |ite {S t b o pt pb po p}:TrT R S t pt→Ahy RS S b pb→Ahy RS S o po→Ahz R RS S (.ite t b o) (.If pt pb po p)
 |whl {S t b pt pb p}:TrT R S t pt→Ahy RS S b pb→Ahz R RS S (.whl t b) (.While pt pb [] p)
 |for {S tg it b ptg pit pb p}:Fr [(tg,it,[])]=true→Bn pit→TrI R S it pit→Ahw S tg ptg→Ahy RS S b pb→Ahz R RS S (.for tg it b) (.For ptg pit pb [] p)
 |ret {S e pe p}:R S e pe→Ahz R RS S (.ret e) (.Return (some pe) p)
 |Aht {S b pb h hs p}:Ahy RS S b pb→Ahz R RS S (.Aht b) (.Try pb (h :: hs) [] [] p)
end
section
def TrS:Nat→Sx→Mine.S→Stmt→Prop
 |0=>fun ζ ζ ζ=>False
 |n+1=>Ahz (TrE n) (TrS n)
end
theorem TrE.out{l:Nat}{S:Sx}{e:E}{pe:Expr}(t:TrE l S e pe):∃l,Ahv (TrE l) S e pe:=by
 induction l using Nat.casesAuxOn with | zero=>exact t.elim | succ l=>exact ⟨l,t⟩
theorem TrS.out{l:Nat}{S:Sx}{e:Mine.S}{pe:Stmt}(t:TrS l S e pe):∃l,Ahz (TrE l) (TrS l) S e pe:=by
 induction l using Nat.casesAuxOn with | zero=>exact t.elim | succ l=>exact ⟨l,t⟩
def Agw(R:Sx→E→Expr→Prop)(S:Sx)(i:Nat)(pes:List Expr):List E→Prop
 |[]=>pes=[]
 |e :: es=>Ex5 fun x q p pe r=>And6 (pes=.Subscript (.Name x q) pe p :: r) (S.vars.lookup x=some i) (Cq x=true) (Bh pe=true) (R S e pe) (TrW R S i es r)
theorem TrW.inv{R:Sx→E→Expr→Prop}{S:Sx}{i:Nat}{es:List E}{pes:List Expr}(t:TrW R S i es pes):Agw R S i pes es:=by
 induction t using TrW.casesOn with | nil=>exact rfl | cons a b c d e=>exact ⟨_,_,_,_,_,rfl,a,b,c,d,e⟩
theorem TrL.inv{R:Sx→E→Expr→Prop}{S:Sx}{es:List E}{pes:List Expr}(t:TrL R S es pes):Agx R S pes es:=by
 induction t using TrL.casesOn with | nil=>exact rfl | cons a b=>exact ⟨_,_,rfl,a,b⟩
theorem TrG.inv{R:Sx→E→Expr→Prop}{S:Sx}{gs:List (Tg×E×List E)}{pgs:List Comprehension}(t:TrG R S gs pgs):Agy R S pgs gs:=by
 induction t using TrG.casesOn with | nil=>exact rfl | cons a b c d e=>exact ⟨_,_,_,_,rfl,a,b,c,d,e⟩
def Zh(S:Sx)(pe:Expr):E→Prop
 |.var i=>Ex2 fun x p=>And3 (pe=.Name x p) (S.vars.lookup x=some i) (Cq x=true)
 |_=>True
theorem TrE.var_inv{S:Sx}{l:Nat}{i:Nat}{pe:Expr}(t:TrE l S (.var i) pe):Ex2 fun x p=>And3 (pe=.Name x p) (S.vars.lookup x=some i) (Cq x=true):=by
 obtain ⟨l,t⟩:=t.out
 suffices h:∀e,Ahv (TrE l) S e pe→Zh S pe e from h _ t
 intro e t
 induction t using Ahv.casesOn with
 |var h1 h2=>exact ⟨_,_,rfl,h1,h2⟩
 |_=>exact trivial
theorem Ahx.inv{R:Sx→E→Expr→Prop}{S:Sx}{es:List E}{pes:List Expr}(t:Ahx R S es pes):Acn R S pes es:=by
 induction t using Ahx.casesOn with | nil=>exact rfl | cons a b=>exact ⟨_,_,rfl,a,b⟩
def Aco(RS:Sx→Mine.S→Stmt→Prop)(S:Sx)(pes:List Stmt):List Mine.S→Prop
 |[]=>pes=[]
 |e :: es=>Ex2 fun pe r=>And3 (pes=pe :: r) (RS S e pe) (Ahy RS S es r)
theorem Ahy.inv{RS:Sx→Mine.S→Stmt→Prop}{S:Sx}{es:List Mine.S}{pes:List Stmt}(t:Ahy RS S es pes):Aco RS S pes es:=by
 induction t using Ahy.casesOn with | nil=>exact rfl | cons a b=>exact ⟨_,_,rfl,a,b⟩
end Mine
end
section
open PySem PySem.W PyProof.Rows
set_option autoImplicit false
namespace Mine
def Iw(h:Heap)(k:Tok)(M:Addr→Prop)(v:Value)(d:D):Prop:=Ahb h k M v d∨Ahh h k M v d
section
variable {A:Around} {E:Value→Shared→Prop} {s:Shared} {k:Tok} {M:Addr→Prop}
theorem Ahb.less{h:Heap}{M':Addr→Prop}{v:Value}{d:D}(r:Ahb h k M v d)(sub:∀b,M' b→M b):Ahb h k M' v d:=
 r.mono (show Step h M (fun ζ=>True) h M' (fun ζ=>True) from ⟨fun ζ ζ ζ e=>e,fun ζ ζ ζ f ζ=>absurd trivial f,fun b m=>.inl (sub b m),fun ζ t=>.inl t⟩) (Nat.le_refl _)
theorem Ag8.less{h:Heap}{M':Addr→Prop}{v:List Value}{d:List D}(r:Ag8 h k M v d)(sub:∀b,M' b→M b):Ag8 h k M' v d:=
 r.mono (show Step h M (fun ζ=>True) h M' (fun ζ=>True) from ⟨fun ζ ζ ζ e=>e,fun ζ ζ ζ f ζ=>absurd trivial f,fun b m=>.inl (sub b m),fun ζ t=>.inl t⟩) (Nat.le_refl _)
theorem Iw.bare{h:Heap}{v:Value}{d:D}(x:Iw h k M v d):∃M',(∀b,M' b→M b)∧Ahb h k M' v d:=by
 rcases x with x | x
 ·exact ⟨M,fun ζ m=>m,x⟩
 ·obtain ⟨a,o,rfl,m,e⟩:=x.ref
  exact ⟨fun b=>M b∧b≠a,fun b m=>m.1,x.real (fun b q m=>m.2 (by obtain rfl:=Value.ref.inj q;rfl)) fun b m=>m.1⟩
theorem O7{o i d:D}{x y:Value}(hx:Iw s.heap s.toks M x o)(hy:Ahb s.heap s.toks M y i)(e:Ar o i=some d)
  {Q:Value→Shared→Prop} (hQ:∀v s',Ext s s'→Ahb s'.heap s'.toks M v d→Q v s'):wpAny (model prog w) A (getItem x y) Q E s:=by
 rcases hx with hx | hx
 ·exact Afk hx hy e hQ
 ·induction hx using Ahh.casesOn with
  |list hm hl hr hz=>induction i using D.casesOn with
   |int k=>
    obtain ⟨t,rfl⟩:=hy.inv
    obtain ⟨hs,e⟩:=J6 e
    rw [Db] at hs
    rcases Ja e with ⟨h0,h1⟩ | ⟨h0,h1,h2⟩
    ·obtain ⟨v,q,r⟩:=hr.get h1
     exact wpAny_getItem_list hl.isList h0 hs.2 (by simpa using q) (hQ _ _ (Ext.refl _) r)
    ·obtain ⟨v,q,r⟩:=hr.get h2
     rw [← hr.len] at h1 q
     exact wpAny_getItem_list_neg hl.isList h0 (by simpa using h1) (by lia) (by simpa using q) (hQ _ _ (Ext.refl _) r)
   |_=>exact nos e
  |Ahe hm hn hl hr=>induction i using D.casesOn with
   |int k=>
    obtain ⟨t,rfl⟩:=hy.inv
    have q:=hr.look (j₀:=k)
    rw [show Be _ k=some d from e] at q
    obtain ⟨v,q1,q2⟩:=q
    exact wpAny_getItem_of (intKind_is prog w k t) hl.mapOf q1 (hQ _ _ (Ext.tk1 s) (q2.ext (Ext.tk1 s)))
   |_=>exact nos e
theorem Xn{o d:D}(e:lenD o=some d):∃i,d=.int i:=by
 induction o using D.casesOn with
 |str s=>exact ⟨_,(Option.some.inj e).symm⟩
 |list s=>exact ⟨_,(Option.some.inj e).symm⟩
 |_=>exact nos e
theorem Ro{xs:List D}{a d:D}(e:N8 xs a=some d):∃i,d=.int i:=by
 induction a using D.casesOn with
 |int a=>
  obtain ⟨l,_,e⟩:=Option.bind_eq_some_iff.mp e
  obtain ⟨k,_,rfl⟩:=Option.map_eq_some_iff.mp e
  exact ⟨_,rfl⟩
 |list a=>
  obtain ⟨l,_,e⟩:=Option.bind_eq_some_iff.mp e
  obtain ⟨x,_,e⟩:=Option.bind_eq_some_iff.mp e
  obtain ⟨k,_,rfl⟩:=Option.map_eq_some_iff.mp e
  exact ⟨_,rfl⟩
 |_=>exact nos e
theorem Mx{m:Mt}{o d:D}{ds:List D}(e:Bw m o ds=some d):(m=.get∧∃es,o=.Ahf es)∨(∃s,o=.str s)∨(m=.index∧∃xs,o=.list xs∧∃i,d=.int i):=by
 induction m using Mt.casesOn with
 |index=>
  obtain ⟨a,rfl,e⟩:=Ed e
  induction o using D.casesOn with
  |str s=>exact .inr (.inl ⟨s,rfl⟩)
  |list xs=>exact .inr (.inr ⟨rfl,xs,rfl,Ro e⟩)
  |_=>exact nos e
 |get=>
  obtain ⟨a,b,rfl,e⟩:=H3 e
  induction o using D.casesOn with
  |Ahf es=>exact .inl ⟨rfl,es,rfl⟩
  |_=>exact nos e
 |lower=>obtain ⟨s,rfl,_⟩:=Cc e;exact .inr (.inl ⟨s,rfl⟩)
 |upper=>obtain ⟨s,rfl,_⟩:=Cc e;exact .inr (.inl ⟨s,rfl⟩)
 |split=>obtain ⟨s,rfl,_⟩:=Cc e;exact .inr (.inl ⟨s,rfl⟩)
 |join=>obtain ⟨s,rfl,_⟩:=Cc e;exact .inr (.inl ⟨s,rfl⟩)
theorem Wa{o d:D}{x:Value}(S:Bc s.heap M)(hh:A.handled=none)(hx:Iw s.heap s.toks M x o)(e:biD .len [o]=some d)
  {Q:Value→Shared→Prop} (hQ:∀v s',Ext s s'→Ahb s'.heap s'.toks M v d→Q v s'):wpAny (model prog w) A (call (.builtin "len") [x]) Q E s:=by
 obtain ⟨M',sub,r⟩:=hx.bare
 refine Adx (b:=.len) (vs:=[x]) (ds:=[o]) (fun b m=>S b (sub b m)) hh (.cons r .nil) e (.inl rfl) fun v s' x r'=>hQ v s' x ?_
 have hd:=Xn e
 obtain ⟨i,rfl⟩:=hd
 obtain ⟨t,rfl⟩:=r'.inv;exact .int _ _
theorem O8{o:Cmp}{a b:D}{c:Bool}{x y:Value}(hx:Ahb s.heap s.toks M x a)(hy:Iw s.heap s.toks M y b)(hu:A.units+2<cLine)(e:C3 o a b=some c)
  {Q:Value→Shared→Prop} (hQ:∀s',Ext s s'→Q (.bool c) s'):wpAny (model prog w) A (compareOp (Eu o) x y) Q E s:=by
 obtain ⟨M',sub,r⟩:=hy.bare
 exact Af9 (hx.less sub) r hu e hQ
theorem Ub{m:Mt}{o d:D}{x:Value}{vs:List Value}{ds:List D}(S:Bc s.heap M)(hx:Iw s.heap s.toks M x o)(hv:Ag8 s.heap s.toks M vs ds)(hu:A.units+3<cLine)(e:Bw m o ds=some d)
  {Q:Value→Shared→Prop} (hQ:∀v s',Ext s s'→Ahb s'.heap s'.toks M v d→Q v s'):wpAny (model prog w) A (call (.builtin (Pn o m)) (x :: vs)) Q E s:=by
 rcases hx with hx | hx
 ·exact S2 S hx hv hu e hQ
 ·obtain ⟨M',sub,r⟩:=Iw.bare (.inr hx)
  refine S2 (fun b m=>S b (sub b m)) r (hv.less sub) hu e fun v s' x r'=>hQ v s' x ?_
  have hd:∃i,d=.int i:=by
   rcases Mx e with ⟨_,es,rfl⟩ | ⟨s',rfl⟩ | ⟨_,xs,rfl,h⟩
   ·exact (Ahh.inv hx).elim
   ·exact (Ahh.inv hx).elim
   ·exact h
  obtain ⟨i,rfl⟩:=hd
  obtain ⟨t,rfl⟩:=r'.inv;exact .int _ _
end
end Mine
end
section
set_option autoImplicit false
namespace Mine
section
variable {F:Ahl} {σ σ₁:St} {P:List (Nat×Ahc)} {n:Nat}
@[simp] theorem Cu:(Ev P (n+1)).ev=Ab (Ev P n):=rfl
@[simp] theorem Dp:(Ev P (n+1)).evO=Av (Ev P n):=rfl
@[simp] theorem D5:(Ev P (n+1)).evT=Fs (Ev P n):=rfl
@[simp] theorem De:(Ev P (n+1)).ex=Bz (Ev P n):=rfl
theorem Agd:(Ev P (n+1)).call=Ml (Ev P n) P:=rfl
theorem Ag6(σ:St)(i j:Nat)(s:Slot)(h:i<σ.length):(σ.put i s).get j=if j=i then some s else σ.get j:=by
 delta St.get St.put
 by_cases e:j=i
 ·subst e;rw [if_pos rfl,List.getElem?_set_self h];rfl
 ·rw [if_neg e,List.getElem?_set_ne (Ne.symm e)]
@[simp] theorem Ag7(σ:St)(i:Nat)(s:Slot):(σ.put i s).length=σ.length:=List.length_set
@[simp] theorem Kb(σ:St)(i:Nat)(s t:Slot):(σ.put i s).put i t=σ.put i t:=List.set_set ..
@[simp] theorem Il(x:Option Slot)(r:St):St.get (x :: r) 0=x:=rfl
@[simp] theorem Im(x:Option Slot)(r:St)(i:Nat):St.get (x :: r) (i+1)=St.get r i:=rfl
@[simp] theorem Ia(x:Option Slot)(r:St)(s:Slot):St.put (x :: r) 0 s=some s :: r:=rfl
@[simp] theorem Ib(x:Option Slot)(r:St)(i:Nat)(s:Slot):St.put (x :: r) (i+1) s=x :: St.put r i s:=rfl
@[simp] theorem Dg{d:D}:Ab F (.lit d) σ=some (d,σ):=rfl
@[simp] theorem x_tlit{s:List Nat}:Ab F (.Ahi s) σ=some (.Ahj s,σ):=rfl
@[simp] theorem Ng{d:D}:Ab F (.glob d) σ=some (d,σ):=rfl
@[simp] theorem C5{i:Nat}:Ab F (.var i) σ=Kx σ i (σ.get i):=rfl
@[simp] theorem D2{i:Nat}{d:D}:Kx σ i (some (.sh,d))=some (d,σ):=rfl
@[simp] theorem Q2{i:Nat}{d:D}:Kx σ i (some (.own,d))=some (d,σ.put i (.sh,d)):=rfl
@[simp] theorem E0{o:Op}{l r:E}:Ab F (.bin o l r) σ=(F.ev l σ).bind fun p=>(F.ev r p.2).bind fun q=>(A3 o p.1 q.1).map fun d=>(d,q.2):=rfl
@[simp] theorem Act{e:E}:Ab F (.neg e) σ=(F.ev e σ).bind fun p=>(Pm p.1).map fun d=>(d,p.2):=rfl
@[simp] theorem Se{t b o:E}:Ab F (.ite t b o) σ=(F.evT t σ).bind fun p=>if p.1=true then F.ev b p.2 else F.ev o p.2:=rfl
@[simp] theorem D9{o:Cmp}{l r:E}:Ab F (.cmp o l r) σ=(F.ev l σ).bind fun p=>(if N5 o=true then A8 F r p.2 else F.ev r p.2).bind fun q=>(C3 o p.1 q.1).map fun c=>(.bool c,q.2):=rfl
@[simp] theorem x_tup{es:List E}:Ab F (.tup es) σ=(evs F es σ).bind fun p=>if p.1.length≤line then some (.tup p.1,p.2) else none:=rfl
@[simp] theorem Vn{es:List E}:Ab F (.list es) σ=noO (F.evO (.list es) σ):=rfl
@[simp] theorem Ff{e:E}{gs:List (Tg×E×List E)}:Ab F (.comp e gs) σ=noO (F.evO (.comp e gs) σ):=rfl
@[simp] theorem Zm{es:List E}:Ab F (.bi .list es) σ=noO (F.evO (.bi .list es) σ):=rfl
@[simp] theorem Cp{o:Own}{d:D}:noO (some (o,d,σ))=some (d,σ):=rfl
@[simp] theorem Sd{e:E}:Ab F (.bi .len [e]) σ=(A8 F e σ).bind fun p=>(biD .len [p.1]).map fun d=>(d,p.2):=rfl
@[simp] theorem L3{b:Bi}{es:List E}(h1:b≠.len)(h2:b≠.list):Ab F (.bi b es) σ=(evs F es σ).bind fun p=>(biD b p.1).map fun d=>(d,p.2):=by
 cases b <;> first | exact absurd rfl h1 | exact absurd rfl h2 | rfl
@[simp] theorem Ad3{m:Mt}{o:E}{es:List E}:Ab F (.meth m o es) σ=(A8 F o σ).bind fun p=>(evs F es p.2).bind fun q=>(again o p.1 q.2).bind fun d=>if kd p.1=kd d then (Bw m d q.1).map fun d=>(d,q.2) else none:=rfl
@[simp] theorem Hb{o i:E}:Ab F (.idx o i) σ=(A8 F o σ).bind fun p=>(F.ev i p.2).bind fun q=>(again o p.1 q.2).bind fun d=>(Ar d q.1).map fun d=>(d,q.2):=rfl
@[simp] theorem x_slc{o:E}{l u:Option E}{rev:Bool}:Ab F (.slc o l u rev) σ=(A8 F o σ).bind fun p=>(J5 F l p.2).bind fun q=>(J5 F u q.2).bind fun r=>(again o p.1 r.2).bind fun d=>(Em d q.1 r.1 rev).map fun d=>(d,r.2):=rfl
@[simp] theorem Nh{f:E}{args:List E}{io:Bool}:Ab F (.call f args io) σ=(F.ev f σ).bind fun p=>(fnA p.1).bind fun a=>(Fe F io args p.2).bind fun q=>(F.call a q.1).bind fun r=>
  if io=true then (Tt args r.2 q.2).map fun σ=>(r.1,σ) else some (r.1,q.2):=rfl
@[simp] theorem pk_var{i:Nat}:A8 F (.var i) σ=(σ.get i).map fun s=>(s.2,σ):=rfl
@[simp] theorem ag_var{i:Nat}{d:D}:again (.var i) d σ=(σ.get i).map (·.2):=rfl
@[simp] theorem Xe{es:List E}:Av F (.list es) σ=(evs F es σ).bind fun p=>if p.1.length≤line then some (.own,.list p.1,p.2) else none:=rfl
@[simp] theorem o_edict:Av F .Ahr σ=some (.own,.Ahe [],σ):=rfl
@[simp] theorem I9{e:E}{gs:List (Tg×E×List E)}:Av F (.comp e gs) σ=(Eb F e gs σ []).map fun p=>(.own,.list p.1,Jj gs p.2):=rfl
@[simp] theorem Aam{e:E}:Av F (.bi .list [e]) σ=(F.ev e σ).bind fun p=>(biD .list [p.1]).map fun d=>(.own,d,p.2):=rfl
@[simp] theorem Mu{t b o:E}:Av F (.ite t b o) σ=(F.evT t σ).bind fun p=>if p.1=true then F.evO b p.2 else F.evO o p.2:=rfl
noncomputable def isO:E→Bool
 |.list _=>true | .Ahr=>true | .comp ..=>true | .bi .list [_]=>true | .ite ..=>true
 |_=>false
theorem o_sh{e:E}(h:isO e=false):Av F e σ=shO (F.ev e σ):=by
 induction e using E.casesOn with
 |bi b es=>induction b using Bi.casesOn with
  |list=>induction es using List.casesOn with
   |nil=>rfl
   |cons x r=>induction r using List.casesOn with
    |nil=>exact absurd h.symm Bool.false_ne_true
    |cons _ _=>rfl
  |_=>rfl
 |_=>first | rfl | exact absurd h.symm Bool.false_ne_true
@[simp] theorem E5{d:D}:shO (some (d,σ))=some (.sh,d,σ):=rfl
@[simp] theorem t_not{e:E}:Fs F (.not e) σ=(F.evT e σ).map fun p=>(!p.1,p.2):=rfl
@[simp] theorem t_or{es:List E}:Fs F (.or es) σ=Ly F es σ:=rfl
noncomputable def Afg:E→Bool
 |.not _=>true | .and _=>true | .or _=>true
 |_=>false
theorem Acw{e:E}(h:Afg e=false):Fs F e σ=(F.ev e σ).bind fun p=>(G3 p.1).map fun b=>(b,p.2):=by
 induction e using E.casesOn <;> first | rfl | exact absurd h.symm Bool.false_ne_true
@[simp] theorem G0:G9 F [] σ=some (true,σ):=rfl
@[simp] theorem all_cons{e:E}{r:List E}:G9 F (e :: r) σ=(F.evT e σ).bind fun p=>if p.1=true then G9 F r p.2 else some (false,p.2):=rfl
@[simp] theorem Tv:Ly F [] σ=some (false,σ):=rfl
@[simp] theorem any_cons{e:E}{r:List E}:Ly F (e :: r) σ=(F.evT e σ).bind fun p=>if p.1=true then some (true,p.2) else Ly F r p.2:=rfl
@[simp] theorem Et:evs F [] σ=some ([],σ):=rfl
@[simp] theorem Dm{e:E}{r:List E}:evs F (e :: r) σ=(F.ev e σ).bind fun p=>(evs F r p.2).map fun q=>(p.1 :: q.1,q.2):=rfl
@[simp] theorem evOs_nil:Ln F [] σ=some ([],σ):=rfl
@[simp] theorem Ag5{e:E}{r:List E}:Ln F (e :: r) σ=(F.evO e σ).bind fun p=>(Ln F r p.2.2).map fun q=>((p.1,p.2.1) :: q.1,q.2):=rfl
@[simp] theorem Ag4:J5 F none σ=some (.none,σ):=rfl
@[simp] theorem Ag3{e:E}:J5 F (some e) σ=F.ev e σ:=rfl
@[simp] theorem Ade{d:D}:Av F (.lit d) σ=shO (F.ev (.lit d) σ):=rfl
@[simp] theorem o_var{i:Nat}:Av F (.var i) σ=shO (F.ev (.var i) σ):=rfl
@[simp] theorem t_bin{o:Op}{l r:E}:Fs F (.bin o l r) σ=(F.ev (.bin o l r) σ).bind fun p=>(G3 p.1).map fun b=>(b,p.2):=rfl
@[simp] theorem o_bin{o:Op}{l r:E}:Av F (.bin o l r) σ=shO (F.ev (.bin o l r) σ):=rfl
@[simp] theorem Ei{o:Cmp}{l r:E}:Fs F (.cmp o l r) σ=(F.ev (.cmp o l r) σ).bind fun p=>(G3 p.1).map fun b=>(b,p.2):=rfl
@[simp] theorem t_call{f:E}{args:List E}{io:Bool}:Fs F (.call f args io) σ=(F.ev (.call f args io) σ).bind fun p=>(G3 p.1).map fun b=>(b,p.2):=rfl
@[simp] theorem Aez{f:E}{args:List E}{io:Bool}:Av F (.call f args io) σ=shO (F.ev (.call f args io) σ):=rfl
@[simp] theorem Aey{m:Mt}{o:E}{es:List E}:Av F (.meth m o es) σ=shO (F.ev (.meth m o es) σ):=rfl
@[simp] theorem o_repl{o q:E}{w:List Nat}:Av F (.repl o q w) σ=shO (F.ev (.repl o q w) σ):=rfl
@[simp] theorem Aao{es:List E}:Av F (.bi .len es) σ=shO (F.ev (.bi .len es) σ):=rfl
@[simp] theorem Aan{es:List E}:Av F (.bi .sum es) σ=shO (F.ev (.bi .sum es) σ):=rfl
@[simp] theorem Qt{es:List E}:Fs F (.bi .isBool es) σ=(F.ev (.bi .isBool es) σ).bind fun p=>(G3 p.1).map fun b=>(b,p.2):=rfl
@[simp] theorem T7{es:List E}:Fs F (.bi .isInt es) σ=(F.ev (.bi .isInt es) σ).bind fun p=>(G3 p.1).map fun b=>(b,p.2):=rfl
@[simp] theorem Kl:exs F [] σ=some (.next,σ):=rfl
@[simp] theorem C0{s:S}{r:List S}:exs F (s :: r) σ=Bt (exs F r) (F.ex s σ):=rfl
@[simp] theorem Ax{k:St→Option (Fl×St)}:Bt k (some (.next,σ))=k σ:=rfl
@[simp] theorem then_ret{k:St→Option (Fl×St)}{d:D}:Bt k (some (.ret d,σ))=some (.ret d,σ):=rfl
@[simp] theorem Hd{x:Nat}{e:E}:Bz F (.asg x e) σ=(F.evO e σ).map fun p=>(.next,p.2.2.put x (p.1,p.2.1)):=rfl
@[simp] theorem s_ret{e:E}:Bz F (.ret e) σ=(F.ev e σ).map fun p=>(.ret p.1,p.2):=rfl
@[simp] theorem Wb{t:E}{b o:List S}:Bz F (.ite t b o) σ=(F.evT t σ).bind fun p=>if p.1=true then exs F b p.2 else exs F o p.2:=rfl
@[simp] theorem Aeg{b:List S}:Bz F (.Aht b) σ=exs F b σ:=rfl
@[simp] theorem Jq{tg:Tg}{it:E}{b:List S}:Bz F (.for tg it b) σ=(items F it σ).bind fun p=>Dl F tg b p.1 p.2:=rfl
@[simp] theorem s_tupl{xs:List Nat}{es:List E}:Bz F (.Ahs xs es) σ=(Ln F es σ).bind fun p=>(By xs p.1 p.2).map fun σ=>(.next,σ):=rfl
@[simp] theorem Ao{e:E}(h:(match e with | .enum _=>true | _=>false)=false):items F e σ=(F.ev e σ).bind fun p=>(Fn p.1).map fun l=>(l,p.2):=by
 induction e using E.casesOn <;> first | rfl | exact absurd h.symm Bool.false_ne_true
@[simp] theorem x_idxT{o i:E}:Ab F (.Ahu o i) σ=(F.ev o σ).bind fun p=>(L6 p.1).bind fun s=>(F.ev i p.2).bind fun q=>((Ar (.str s) q.1).bind L6).map fun c=>(.Ahj c,q.2):=rfl
@[simp] theorem Aef{xs:List Nat}{e:E}:Bz F (.Ah0 xs e) σ=(F.ev e σ).bind fun p=>(Iu xs p.1 p.2).map fun σ=>(.next,σ):=rfl
@[simp] theorem O9{x:Nat}{e:E}:Bz F (.app x e) σ=if Ii (σ.get x)=true then (F.ev e σ).bind fun p=>Iv p.2 x p.1 (p.2.get x) else none:=rfl
@[simp] theorem Qh{a b:Int}:A3 .add (.int a) (.int b)=some (.int (a+b)):=rfl
@[simp] theorem Ady{a b:Int}:A3 .sub (.int a) (.int b)=some (.int (a - b)):=rfl
theorem J2{a b:Int}(h1:sml a=true)(h2:sml b=true):A3 .mul (.int a) (.int b)=some (.int (a * b)):=by simp [A3,h1,h2]
theorem R4{a b:Int}(h1:sml a=true)(h2:sml b=true)(h3:b≠0):A3 .fdiv (.int a) (.int b)=some (.int (a.fdiv b)):=by simp [A3,h1,h2,h3]
theorem J3{a b:Int}(h3:b≠0):A3 .mod (.int a) (.int b)=some (.int (a.fmod b)):=by simp [A3,h3]
@[simp] theorem r_int{a:Int}:G3 (.int a)=some (decide (a≠0)):=rfl
@[simp] theorem C7{a:Bool}:G3 (.bool a)=some a:=rfl
@[simp] theorem Ir{a b:Int}:C3 .eq (.int a) (.int b)=some (decide (a=b)):=rfl
@[simp] theorem c_nei{a b:Int}:C3 .ne (.int a) (.int b)=some (decide (a≠b)):=by
 exact congrArg some decide_not.symm
@[simp] theorem c_lti{a b:Int}:C3 .lt (.int a) (.int b)=some (decide (a<b)):=rfl
@[simp] theorem c_lei{a b:Int}:C3 .le (.int a) (.int b)=some (decide (a≤b)):=rfl
@[simp] theorem Y5{a b:Int}:C3 .gt (.int a) (.int b)=some (decide (b<a)):=rfl
@[simp] theorem c_eqs{a b:List Nat}:C3 .eq (.str a) (.str b)=some (a == b):=rfl
@[simp] theorem Adw{a b:List Nat}:C3 .ne (.str a) (.str b)=some (!(a == b)):=rfl
@[simp] theorem Xp{a:List Nat}:biD .len [.str a]=some (.int a.length):=rfl
@[simp] theorem Afb{a:List D}:biD .len [.list a]=some (.int a.length):=rfl
@[simp] theorem Tx{e:E}:Fe F false [e] σ=(F.ev e σ).map fun p=>([(.sh,p.1)],p.2):=rfl
@[simp] theorem R9{io:Bool}{e e':E}{r:List E}:Fe F io (e :: e' :: r) σ=(F.ev e σ).bind fun p=>(Fe F io (e' :: r) p.2).map fun q=>((.sh,p.1) :: q.1,q.2):=rfl
@[simp] theorem own_get{d:D}:Ey (some (.own,d))=some d:=rfl
theorem Kc{x:Option (Own×D×St)}{d:D}{σ':St}(h:noO x=some (d,σ')):∃o,x=some (o,d,σ'):=by
 induction x using Option.casesOn with
 |none=>exact nos h
 |some q=>obtain ⟨o,e,s⟩:=q;obtain ⟨rfl,rfl⟩:=As h;exact ⟨o,rfl⟩
theorem Z8{x:Option (D×St)}{o:Own}{d:D}{σ':St}(h:shO x=some (o,d,σ')):o=.sh∧x=some (d,σ'):=by
 induction x using Option.casesOn with
 |none=>exact nos h
 |some q=>obtain ⟨e,s⟩:=q;obtain ⟨rfl,rfl,rfl⟩:=Ac0 h;exact ⟨rfl,rfl⟩
theorem Aer{i:Nat}{x:Option Slot}{d:D}{σ':St}(h:Kx σ i x=some (d,σ')):∃o,x=some (o,d)∧((o=.sh∧σ'=σ)∨(o=.own∧σ'=σ.put i (.sh,d))):=by
 induction x using Option.casesOn with
 |none=>exact nos h
 |some q=>
  obtain ⟨o,e⟩:=q
  induction o using Own.casesOn with
  |sh=>obtain ⟨rfl,rfl⟩:=As h;exact ⟨_,rfl,.inl ⟨rfl,rfl⟩⟩
  |own=>obtain ⟨rfl,rfl⟩:=As h;exact ⟨_,rfl,.inr ⟨rfl,rfl⟩⟩
  |bor=>exact nos h
theorem Iz{k:St→Option (Fl×St)}{x:Option (Fl×St)}{fl:Fl}{σ':St}(h:Bt k x=some (fl,σ')):(∃σ₁,x=some (.next,σ₁)∧k σ₁=some (fl,σ'))∨∃d,x=some (.ret d,σ')∧fl=.ret d:=by
 induction x using Option.casesOn with
 |none=>exact nos h
 |some q=>
  obtain ⟨f,s⟩:=q
  induction f using Fl.casesOn with
  |next=>exact .inl ⟨s,rfl,h⟩
  |ret d=>obtain ⟨rfl,rfl⟩:=As h;exact .inr ⟨d,rfl,rfl⟩
theorem Aci{x:Nat}{d:D}{s:Option Slot}{fl:Fl}{σ':St}(h:Iv σ x d s=some (fl,σ')):Ex2 fun o xs=>And5 (s=some (o,.list xs)) (o≠.sh) (xs.length<line) (fl=.next) (σ'=σ.put x (o,.list (xs++[d]))):=by
 induction s using Option.casesOn with
 |none=>exact nos h
 |some q=>
  obtain ⟨o,e⟩:=q
  induction e using D.casesOn with
  |list xs=>
   induction o using Own.casesOn with
   |sh=>exact nos h
   |own=>obtain ⟨hz,h⟩:=Cd h;obtain ⟨rfl,rfl⟩:=Prod.mk.inj h;exact ⟨_,xs,rfl,nofun,hz,rfl,rfl⟩
   |bor=>obtain ⟨hz,h⟩:=Cd h;obtain ⟨rfl,rfl⟩:=Prod.mk.inj h;exact ⟨_,xs,rfl,nofun,hz,rfl,rfl⟩
  |_=>induction o using Own.casesOn <;> exact nos h
theorem Abb{x:Nat}{ys:List D}{s:Option Slot}{fl:Fl}{σ':St}(h:Kg σ x ys s=some (fl,σ')):Ex2 fun o xs=>And5 (s=some (o,.list xs)) (o≠.sh) (xs.length+ys.length≤line) (fl=.next) (σ'=σ.put x (o,.list (xs++ys))):=by
 induction s using Option.casesOn with
 |none=>exact nos h
 |some q=>
  obtain ⟨o,e⟩:=q
  induction e using D.casesOn with
  |list xs=>
   induction o using Own.casesOn with
   |sh=>exact nos h
   |own=>obtain ⟨hz,h⟩:=Cd h;obtain ⟨rfl,rfl⟩:=Prod.mk.inj h;exact ⟨_,xs,rfl,nofun,hz,rfl,rfl⟩
   |bor=>obtain ⟨hz,h⟩:=Cd h;obtain ⟨rfl,rfl⟩:=Prod.mk.inj h;exact ⟨_,xs,rfl,nofun,hz,rfl,rfl⟩
  |_=>induction o using Own.casesOn <;> exact nos h
theorem Agf{xs:List Nat}{d:D}{σ':St}(h:Iu xs d σ=some σ'):∃ds,d=.tup ds∧Cy (.t xs) (.tup ds) σ=some σ':=by
 induction d using D.casesOn with | tup ds=>exact ⟨ds,rfl,h⟩ | _=>exact nos h
theorem Aeq{f:Fl}{d:D}(h:retD f=some d):f=.ret d:=by
 induction f using Fl.casesOn with | ret _=>rw [Ag h] | next=>exact nos h
theorem fn_is{d:D}{a:Nat}(h:fnA d=some a):d=.fn a:=by
 induction d using D.casesOn with | fn _=>rw [Ag h] | _=>exact nos h
theorem Ny{x:Option Slot}{d:D}(h:Ey x=some d):x=some (.own,d):=by
 induction x using Option.casesOn with
 |none=>exact nos h
 |some s=>obtain ⟨o,e⟩:=s;induction o using Own.casesOn with | own=>rw [Ag h] | _=>exact nos h
theorem sh_is{x:Option Slot}{d:D}(h:V7 x=some d):x=some (.sh,d):=by
 induction x using Option.casesOn with
 |none=>exact nos h
 |some s=>obtain ⟨o,e⟩:=s;induction o using Own.casesOn with | sh=>rw [Ag h] | _=>exact nos h
theorem Px{x:Option Slot}(h:Ii x=true):Ex2 fun o l=>x=some (o,.list l):=by
 induction x using Option.casesOn with
 |none=>exact absurd h Bool.false_ne_true
 |some s=>obtain ⟨o,e⟩:=s;induction e using D.casesOn with | list l=>exact ⟨o,l,rfl⟩ | _=>exact absurd h Bool.false_ne_true
@[simp] theorem w_nil{x:Nat}:I2 F x [] [] σ=some σ:=rfl
@[simp] theorem Ad5{x:Nat}{i:E}{is:List E}{d:D}{ds:List D}:I2 F x (i :: is) (d :: ds) σ=if (σ.get x).isSome=true then (F.ev i σ).bind fun q=>(Ey (q.2.get x)).bind fun xs=>(D0 xs q.1 d).bind fun xs=>I2 F x is ds (q.2.put x (.own,xs)) else none:=rfl
theorem Nn{x:Nat}{i:E}{is:List E}{d:D}{ds:List D}{σ':St}(h:I2 F x (i :: is) (d :: ds) σ=some σ'):Ex6 fun o s iv σ₁ xs xs'=>And5 (σ.get x=some (o,s)) (F.ev i σ=some (iv,σ₁)) (σ₁.get x=some (.own,xs)) (D0 xs iv d=some xs') (I2 F x is ds (σ₁.put x (.own,xs'))=some σ'):=by
 obtain ⟨h0,h⟩:=J6 h
 obtain ⟨⟨o,s⟩,h0⟩:=Option.isSome_iff_exists.mp h0
 obtain ⟨⟨iv,σ₁⟩,h1,h⟩:=bs h
 obtain ⟨xs,h2,h⟩:=bs h
 obtain ⟨xs',h3,h⟩:=bs h
 exact ⟨o,s,iv,σ₁,xs,xs',h0,h1,Ny h2,h3,h⟩
@[simp] theorem s_put{x:Nat}{i e:E}:Bz F (.put x i e) σ=(F.ev e σ).bind fun p=>(I2 F x [i] [p.1] p.2).map fun σ=>(.next,σ):=rfl
@[simp] theorem s_swp{x:Nat}{is es:List E}:Bz F (.swp x is es) σ=(evs F es σ).bind fun p=>(I2 F x is p.1 p.2).map fun σ=>(.next,σ):=rfl
@[simp] theorem f_nil{tg:Tg}{b:List S}:Dl F tg b [] σ=some (.next,σ):=rfl
theorem Fp{tg:Tg}{b:List S}{d:D}{r:List D}:Dl F tg b (d :: r) σ=(Cy tg d σ).bind fun σ=>Bt (Dl F tg b r) (exs F b σ):=rfl
@[simp] theorem Vf{i:Nat}{d:D}:Cy (.v i) d σ=some (σ.put i (.sh,d)):=rfl
@[simp] theorem Aa7{a:Nat}:fnA (.fn a)=some a:=rfl
@[simp] theorem int_d{i:Int}:Rm (.int i)=some i:=rfl
noncomputable def mn2(a b:Int):Int:=if b<a then b else a
@[simp] theorem Ag2{c:Nat}:Si (.Ahj [c])=some c:=rfl
@[simp] theorem strD_str{s:List Nat}:L6 (.str s)=some s:=rfl
@[simp] theorem x_repl{o old:E}{w:List Nat}:Ab F (.repl o old w) σ=(F.ev o σ).bind fun p=>(L6 p.1).bind fun s=>(F.ev old p.2).bind fun q=>(Si q.1).bind fun c=>
  if s.length≤4096∧w.length≤64∧w≠[c]∧c<256 then some (.str (A6 c w s),q.2) else none:=rfl
end
end Mine
end
section
open PySem PySem.W PyProof.Rows
set_option autoImplicit false
namespace Mine
structure Ge(φ:Fx)(loc:Bl)(σ:St)(c:Cf)(σ':St)(c':Cf):Prop where
 go:Go φ loc σ c loc σ' c'
 vs:∀i L,loc i=some L→c'.vs i=c.vs i
section
variable {φ:Fx} {loc:Bl} {σ σ₁ σ₂ σ₃:St} {c c₁ c₂ c₃:Cf}
theorem Ge.refl(R:Rep φ loc σ c):Ge φ loc σ c σ c:=⟨.refl R,fun ζ ζ ζ=>rfl⟩
theorem Ge.trans(x:Ge φ loc σ₁ c₁ σ₂ c₂)(y:Ge φ loc σ₂ c₂ σ₃ c₃):Ge φ loc σ₁ c₁ σ₃ c₃:=⟨x.go.trans y.go,fun i L h=>(y.vs i L h).trans (x.vs i L h)⟩
theorem Ge.ext(x:Ge φ loc σ₁ c₁ σ₂ c₂){s':Shared}(e:Ext c₂.s s'):Ge φ loc σ₁ c₁ σ₂ ⟨s',c₂.M,c₂.vs⟩:=x.trans ⟨x.go.rep.ext e,fun ζ ζ ζ=>rfl⟩
theorem Ge.grow(x:Ge φ loc σ₁ c₁ σ₂ c₂){s':Shared}{M':Addr→Prop}(e:Aip c₂.s c₂.M s' M'):Ge φ loc σ₁ c₁ σ₂ ⟨s',M',c₂.vs⟩:=x.trans ⟨x.go.rep.grows e,fun ζ ζ ζ=>rfl⟩
end
section
def D8(F:Ahl)(n:Nat):Prop:=∀ {lv:Nat} {φ:Fx} {loc:Bl} {σ:St} {c:Cf} {S:Sx} {env:Env} {A:Around} {e:E} {pe:Expr} {d:D} {σ':St} {Q:Value→Shared→Prop} {E:Value→Shared→Prop},
 Gl φ.hT→Da n A→Ahk φ S loc env→Rep φ loc σ c→TrE lv S e pe→F.ev e σ=some (d,σ')→
 (∀v c',Ge φ loc σ c σ' c'→Ahb c'.s.heap c'.s.toks c'.M v d→Q v c'.s)→wpAny (model prog w) A (eval pe env) Q E c.s
def J4(F:Ahl)(n:Nat):Prop:=∀ {lv:Nat} {φ:Fx} {loc:Bl} {σ:St} {c:Cf} {S:Sx} {env:Env} {A:Around} {e:E} {pe:Expr} {o:Own} {d:D} {σ':St} {Q:Value→Shared→Prop} {E:Value→Shared→Prop},
 Gl φ.hT→Da n A→Ahk φ S loc env→Rep φ loc σ c→TrE lv S e pe→F.evO e σ=some (o,d,σ')→
 (∀v c',Ge φ loc σ c σ' c'→Dv c loc σ' c' o d v→Q v c'.s)→wpAny (model prog w) A (eval pe env) Q E c.s
def Ew(F:Ahl)(n:Nat):Prop:=∀ {lv:Nat} {φ:Fx} {loc:Bl} {σ:St} {c:Cf} {S:Sx} {env:Env} {A:Around} {e:E} {pe:Expr} {b:Bool} {σ':St} {Q:Bool→Shared→Prop} {E:Value→Shared→Prop},
 Gl φ.hT→Da n A→Ahk φ S loc env→Rep φ loc σ c→TrT (TrE lv) S e pe→F.evT e σ=some (b,σ')→
 (∀c',Ge φ loc σ c σ' c'→Q b c'.s)→wpAny (model prog w) A (isTrue pe env (eval pe env)) Q E c.s
def Zl(F:Ahl)(n:Nat):Prop:=∀ {lv:Nat} {φ:Fx} {loc:Bl} {σ:St} {c:Cf} {S:Sx} {env:Env} {A:Around} {o:Cmp} {l r:E} {pl pr:Expr} {d:D} {σ':St} {Q:Value→Shared→Prop} {E:Value→Shared→Prop},
 Gl φ.hT→Da n A→Ahk φ S loc env→Rep φ loc σ c→TrE lv S l pl→TrE lv S r pr→F.ev (.cmp o l r) σ=some (d,σ')→
 (∀b c',Ge φ loc σ c σ' c'→d=.bool b→Q (.bool b) c'.s)→
 wpAny (model prog w) A (eval pl env) (fun a s₁=>wpAny (model prog w) A (eval pr env) (fun b s₂=>wpAny (model prog w) A (compareOp (Eu o) a b) Q E s₂) E s₁) E c.s
class inductive Args(h:Heap)(k:Tok)(M X:Addr→Prop):List Value→List Slot→Prop
 |nil:Args h k M X [] []
 |bor {a:Addr} {d:D}:Ahh h k M (.ref a) d→X a→Args h k M X [.ref a] [(.bor,d)]
 |cons {v:Value} {d:D} {vs:List Value} {ss:List Slot}:Ahb h k M v d→Args h k M X vs ss→Args h k M X (v :: vs) ((.sh,d) :: ss)
def Oo(F:Ahl)(n:Nat):Prop:=∀ {hT:Heap} {s:Shared} {M X:Addr→Prop} {A:Around} {a:Nat} {vs:List Value} {ss:List Slot} {d:D} {back:Option Slot} {Q:Value→Shared→Prop} {E:Value→Shared→Prop},
 Gl hT→Da n A→0<s.toks→(∀b o,hT.get? b=some o→s.heap.get? b=some o)→(∀b,M b→hT.get? b=none)→(∀b,X b→M b)→Bc s.heap M→(∀b,X b→vs.getLast? = some (.ref b))→
 Args s.heap s.toks M X vs ss→F.call a ss=some (d,back)→
 (∀v s' M',Step s.heap M X s'.heap M' X→s.toks≤s'.toks→s'.gens=s.gens→s'.os=s.os→(∀b,s'.heap.get? b=none→s.heap.get? b=none)→Bc s'.heap M'→(∀b,M b→M' b)→
  Ahb s'.heap s'.toks M' v d→(∀r dr,ss.getLast? = some (.bor,dr)→vs.getLast? = some (.ref r)→Ex2 fun o' d'=>back=some (o',d')∧Ahh s'.heap s'.toks M' (.ref r) d')→Q v s')→
 wpAny (model prog w) A (call (.ref a) vs) Q E s
def Acs(hT:Heap)(a:Nat):Prop:=Ex2 fun o fd=>hT.get? a=some o∧o.data=.func fd
end
section
variable {lv:Nat} {F:Ahl} {n:Nat} {φ:Fx} {loc:Bl} {σ σ':St} {c:Cf} {S:Sx} {env:Env} {A:Around} {EE:Value→Shared→Prop}
theorem Da.units(r:Da n A):A.units+3<cLine:=by
 have:=r.2.2
 have:cLine=9900:=rfl
 lia
theorem Da.weaken{m:Nat}(r:Da n A)(h:m≤n):Da m A:=⟨r.1,by have:=r.2.1;lia,by have:=r.2.2;lia⟩
theorem Bj{x:Str}(h:Cq x=true):(x == ("__debug__" : Str))=false∧(x == ("__classdict__" : Str))=false:=by
 unfold Cq at h;simpa [Bool.and_eq_true] using h
theorem Qd{x:Str}(h:Cx S x=true):S.names.lookup x=some .globalImplicit∧(x == ("__debug__" : Str))=false:=by
 unfold Cx at h;simpa [Bool.and_eq_true] using h
theorem B4(Gx:Gl φ.hT)(V:Ahk φ S loc env)(R:Rep φ loc σ c){x:Str}{v:Value}{p:Pos}(hx:Cx S x=true)(hv:biL.lookup x=some v)
  {Q:Value→Shared→Prop} (hQ:Q v c.s):wpAny (model prog w) A (eval (.Name x p) env) Q EE c.s:=by
 obtain ⟨h1,h2⟩:=Qd hx
 obtain ⟨mg,mb,ng,nb,_,hb⟩:=Gx.glob
 obtain ⟨e1,e2⟩:=hb x v hv
 have kp:∀ {a m},φ.hT.Ns a m→c.s.heap.Ns a m:=fun n=>n.at' fun o e=>by
  refine R.top _ o (R.fx.top _ o e) fun hX=>?_
  rw [R.fx.out _ (R.fx.sub _ hX)] at e;exact nos e
 refine Calls.Name_function_global V.kind (V.global h1) ?_ h2
 exact Calls.loadGlobal_builtin (V.g ▸ kp ng) e1 (V.b ▸ kp nb) e2 hQ
theorem X7(Gx:Gl φ.hT)(V:Ahk φ S loc env)(R:Rep φ loc σ c){x:Str}{d:D}{p:Pos}(hx:Cx S x=true)(hv:G x=some d)
  {Q:Value→Shared→Prop} (hQ:∀v,Ahb c.s.heap c.s.toks c.M v d→Q v c.s):wpAny (model prog w) A (eval (.Name x p) env) Q EE c.s:=by
 obtain ⟨h1,h2⟩:=Qd hx
 obtain ⟨mg,mb,ng,nb,hg,_⟩:=Gx.glob
 obtain ⟨v,e1,r⟩:=hg x d hv
 have kp:∀b o,φ.hT.get? b=some o→c.s.heap.get? b=some o:=fun b o e=>by
  refine R.top _ o (R.fx.top _ o e) fun hX=>?_
  rw [R.fx.out _ (R.fx.sub _ hX)] at e;exact nos e
 refine Calls.Name_function_global V.kind (V.global h1) ?_ h2
 refine Calls.loadGlobal_global (V.g ▸ ng.at' fun o e=>kp _ o e) e1 (hQ v (r.mono (T:=fun ζ=>False) (T':=fun ζ=>False) ⟨fun b o ζ e=>kp b o e,fun ζ ζ f=>f.elim,fun b m=>.inr ?_,fun ζ f=>f.elim⟩ (Nat.zero_le _)))
 rcases R.old b m with q | q
 ·exact R.fx.out b q
 ·cases e:φ.hT.get? b with
  |none=>rfl
  |some o=>rw [R.fx.top b o e] at q;exact nos q.symm
def Sa(φ:Fx)(loc:Bl)(σ:St)(c:Cf)(e:E)(d:D)(v:Value):Prop:=
 match e with
 |.var i=>(∃o,σ.get i=some (o,d))∧v=c.vs i
 |_=>Ahb c.s.heap c.s.toks c.M v d
theorem W8(e:E):(∃i,e=.var i)∨((∀(F:Ahl) (σ:St),A8 F e σ=F.ev e σ)∧(∀(d:D) (σ:St),again e d σ=some d)∧∀(σ:St) (c:Cf) (d:D) (v:Value),Sa φ loc σ c e d v=Ahb c.s.heap c.s.toks c.M v d):=by
 induction e using E.casesOn with
 |var i=>exact .inl ⟨i,rfl⟩
 |_=>exact .inr ⟨fun ζ ζ=>rfl,fun ζ ζ=>rfl,fun ζ ζ ζ ζ=>rfl⟩
theorem Sa.seen(R:Rep φ loc σ c){e:E}{d:D}{v:Value}(h:Sa φ loc σ c e d v):Iw c.s.heap c.s.toks c.M v d:=by
 rcases W8 (φ:=φ) (loc:=loc) e with ⟨i,rfl⟩ | ⟨_,_,hp⟩
 ·obtain ⟨⟨o,e⟩,rfl⟩:=h
  obtain ⟨_,_,_,r⟩:=R.vals _ _ _ e
  induction o using Own.casesOn with
  |sh=>exact .inl r
  |own=>exact .inr r.1
  |bor=>exact .inr r.1
 ·exact .inl (hp .. ▸ h)
theorem Sa.again{σ₁ σ₂:St}{c₁ c₂:Cf}(g:Ge φ loc σ₁ c₁ σ₂ c₂)(R:Rep φ loc σ₁ c₁){e:E}{d d':D}{v:Value}(h:Sa φ loc σ₁ c₁ e d v)(e':again e d σ₂=some d'):Sa φ loc σ₂ c₂ e d' v:=by
 rcases W8 (φ:=φ) (loc:=loc) e with ⟨i,rfl⟩ | ⟨_,ha,hp⟩
 ·obtain ⟨⟨o,_⟩,hs,rfl⟩:=ms e'
  obtain ⟨⟨o',e1⟩,rfl⟩:=h
  obtain ⟨L,hL,_⟩:=R.vals _ _ _ e1
  exact ⟨⟨o,hs⟩,(g.vs i L hL).symm⟩
 ·obtain rfl:=Ag ((ha d σ₂).symm.trans e')
  rw [hp] at h ⊢
  exact g.go.real h
theorem Gj(ev:D8 F n)(Gx:Gl φ.hT)(r:Da n A)(V:Ahk φ S loc env)(R:Rep φ loc σ c){e:E}{pe:Expr}{d:D}(t:TrE lv S e pe)(h:A8 F e σ=some (d,σ'))
  {Q:Value→Shared→Prop} (hQ:∀v c',Ge φ loc σ c σ' c'→Sa φ loc σ' c' e d v→Q v c'.s):wpAny (model prog w) A (eval pe env) Q EE c.s:=by
 rcases W8 (φ:=φ) (loc:=loc) e with ⟨i,rfl⟩ | ⟨hk,_,hp⟩
 ·obtain ⟨⟨o,_⟩,hs,h⟩:=ms h
  obtain ⟨rfl,rfl⟩:=Prod.mk.inj h
  obtain ⟨x,p,rfl,hx,hn⟩:=t.var_inv
  refine wpAny_Name (Ee V R hx hs (Bj hn).2 ?_) (Bj hn).1
  exact hQ _ c (.refl R) ⟨⟨o,hs⟩,rfl⟩
 ·exact ev Gx r V R t ((hk F σ).symm.trans h) fun v c' g rl=>hQ v c' g (hp .. ▸ rl)
theorem Ah{e:E}{pe:Expr}(t:TrE lv S e pe)(rest:List Expr):starEach (pe :: rest) env=(false,eval pe env) :: starEach rest env:=by
 obtain ⟨_,t⟩:=t.out
 induction t using Ahv.casesOn <;> rfl
theorem F3{es:List E}{pes:List Expr}(t:TrL (TrE lv) S es pes):starEach pes env=pes.map fun pe=>(false,eval pe env):=by
 induction es generalizing pes with
 |nil=>obtain rfl:=t.inv;rfl
 |cons e es ih=>replace t:=t.inv;obtain ⟨pe,r,rfl,t,ts⟩:=t;rw [Ah t,ih ts];rfl
theorem Ba{es:List E}{pes:List Expr}(t:TrL (TrE lv) S es pes)(p:Pos):backTo p (starEach pes env)=pes.map fun pe=>(false,eval pe env):=by
 rw [F3 t];simp [backTo]
theorem H0(ev:D8 F n)(Gx:Gl φ.hT)(r:Da n A)(V:Ahk φ S loc env):∀ {es:List E} {pes:List Expr} {σ:St} {c:Cf} {ds:List D} {σ':St} (R:Rep φ loc σ c) (t:TrL (TrE lv) S es pes) (h:evs F es σ=some (ds,σ'))
  {Q:List Value→Shared→Prop} (hQ:∀vs c',Ge φ loc σ c σ' c'→Ag8 c'.s.heap c'.s.toks c'.M vs ds→Q vs c'.s),wpAny (model prog w) A (spliced (pes.map fun pe=>(false,eval pe env))) Q EE c.s:=by
 intro es
 induction es with
 |nil=>
  intro pes σ c ds σ' R t h Q hQ
  obtain rfl:=t.inv;obtain ⟨rfl,rfl⟩:=As h
  exact Calls.spliced_nil (hQ [] c (.refl R) .nil)
 |cons e es ih=>
  intro pes σ c ds σ' R t h Q hQ
  replace t:=t.inv;obtain ⟨pe,pes,rfl,t,ts⟩:=t
  obtain ⟨⟨d,σ₁⟩,h1,h⟩:=bs h
  obtain ⟨⟨ds,σ₂⟩,h2,h⟩:=ms h
  obtain ⟨rfl,rfl⟩:=Prod.mk.inj h
  refine Calls.spliced_cons (ev Gx r V R t h1 fun v c₁ g₁ r₁=>ih g₁.go.rep ts h2 fun vs c₂ g₂ r₂=>hQ _ _ (g₁.trans g₂) (.cons (g₂.go.real r₁) r₂))
end
end Mine
end
section
open PySem PySem.W PyProof.Rows
set_option autoImplicit false
namespace Mine
section
variable {F:Ahl} {σ σ':St} {d:D}
theorem Vs{d:D}{c:Nat}(h:Si d=some c):d=.Ahj [c]:=by
 induction d using D.casesOn with
 |Ahj t=>induction t using List.casesOn with
  |nil=>exact nos h
  |cons x r=>induction r using List.casesOn with
   |nil=>rw [Option.some.inj h]
   |cons _ _=>exact nos h
 |_=>exact nos h
theorem Acb{o:Op}{l r:E}(e:Ab F (.bin o l r) σ=some (d,σ')):Ex3 fun a σ₁ b=>And3 (F.ev l σ=some (a,σ₁)) (F.ev r σ₁=some (b,σ')) (A3 o a b=some d):=by
 obtain ⟨⟨a,σ₁⟩,h1,e⟩:=bs e
 obtain ⟨⟨b,σ₂⟩,h2,e⟩:=bs e
 obtain ⟨d',h3,e⟩:=ms e
 obtain ⟨rfl,rfl⟩:=Prod.mk.inj e
 exact ⟨a,σ₁,b,h1,h2,h3⟩
theorem Ab6{o:Cmp}{l r:E}(e:Ab F (.cmp o l r) σ=some (d,σ')):Ex4 fun a σ₁ b c=>And4 (F.ev l σ=some (a,σ₁)) ((if N5 o then A8 F r σ₁ else F.ev r σ₁)=some (b,σ')) (C3 o a b=some c) (d=.bool c):=by
 obtain ⟨⟨a,σ₁⟩,h1,e⟩:=bs e
 obtain ⟨⟨b,σ₂⟩,h2,e⟩:=bs e
 obtain ⟨c,h3,e⟩:=ms e
 obtain ⟨rfl,rfl⟩:=Prod.mk.inj e
 exact ⟨a,σ₁,b,c,h1,h2,h3,rfl⟩
theorem Aas{l:E}(e:Ab F (.neg l) σ=some (d,σ')):∃i,F.ev l σ=some (.int i,σ')∧d=.int (-i):=by
 obtain ⟨⟨a,σ₁⟩,h1,e⟩:=bs e
 obtain ⟨c,h3,e⟩:=ms e
 obtain ⟨rfl,rfl⟩:=Prod.mk.inj e
 induction a using D.casesOn with
 |int i=>exact ⟨i,h1,(Option.some.inj h3).symm⟩
 |_=>exact nos h3
theorem Aak{l r:E}(e:Ab F (.orv l r) σ=some (d,σ')):Ex2 fun a σ₁=>F.ev l σ=some (a,σ₁)∧((G3 a=some true∧d=a∧σ'=σ₁)∨(G3 a=some false∧F.ev r σ₁=some (d,σ'))):=by
 obtain ⟨⟨a,σ₁⟩,h1,e⟩:=bs e
 obtain ⟨t,h2,e⟩:=bs e
 refine ⟨a,σ₁,h1,?_⟩
 induction t using Bool.casesOn with
 |true=>obtain ⟨rfl,rfl⟩:=As e;exact .inl ⟨h2,rfl,rfl⟩
 |false=>exact .inr ⟨h2,e⟩
theorem Zp{es:List E}(e:Ab F (.tup es) σ=some (d,σ')):∃ds,evs F es σ=some (ds,σ')∧ds.length≤line∧d=.tup ds:=by
 obtain ⟨⟨ds,σ₁⟩,h1,e⟩:=bs e
 obtain ⟨hz,e⟩:=Cd e
 obtain ⟨rfl,rfl⟩:=Prod.mk.inj e
 exact ⟨ds,h1,hz,rfl⟩
theorem Aa4{o i:E}(e:Ab F (.idx o i) σ=some (d,σ')):Ex4 fun a σ₁ b a'=>And4 (A8 F o σ=some (a,σ₁)) (F.ev i σ₁=some (b,σ')) (again o a σ'=some a') (Ar a' b=some d):=by
 obtain ⟨⟨a,σ₁⟩,h1,e⟩:=bs e
 obtain ⟨⟨b,σ₂⟩,h2,e⟩:=bs e
 obtain ⟨a',h3,e⟩:=bs e
 obtain ⟨c,h4,e⟩:=ms e
 obtain ⟨rfl,rfl⟩:=Prod.mk.inj e
 exact ⟨a,σ₁,b,a',h1,h2,h3,h4⟩
theorem X1{o i:E}(e:Ab F (.Ahu o i) σ=some (d,σ')):Ex4 fun a σ₁ b c=>And4 (F.ev o σ=some (.str a,σ₁)) (F.ev i σ₁=some (b,σ')) (Ar (.str a) b=some (.str c)) (d=.Ahj c):=by
 obtain ⟨⟨a,σ₁⟩,h1,e⟩:=bs e
 obtain ⟨s,h2,e⟩:=bs e
 obtain ⟨⟨b,σ₂⟩,h3,e⟩:=bs e
 obtain ⟨c,h4,e⟩:=ms e
 obtain ⟨rfl,rfl⟩:=Prod.mk.inj e
 obtain ⟨c',h5,h6⟩:=bs h4
 obtain rfl:=H4 h2
 obtain rfl:=H4 h6
 exact ⟨s,σ₁,b,c,h1,h3,h5,rfl⟩
theorem So{o:E}{l u:Option E}{rv:Bool}(e:Ab F (.slc o l u rv) σ=some (d,σ')):Ex6 fun a σ₁ lv σ₂ uv a'=>And5 (A8 F o σ=some (a,σ₁)) (J5 F l σ₁=some (lv,σ₂)) (J5 F u σ₂=some (uv,σ')) (again o a σ'=some a') (Em a' lv uv rv=some d):=by
 obtain ⟨⟨a,σ₁⟩,h1,e⟩:=bs e
 obtain ⟨⟨lv,σ₂⟩,h2,e⟩:=bs e
 obtain ⟨⟨uv,σ₃⟩,h3,e⟩:=bs e
 obtain ⟨a',h4,e⟩:=bs e
 obtain ⟨c,h5,e⟩:=ms e
 obtain ⟨rfl,rfl⟩:=Prod.mk.inj e
 exact ⟨a,σ₁,lv,σ₂,uv,a',h1,h2,h3,h4,h5⟩
theorem Nq{xs:List D}{k v d:D}(h:D0 (.list xs) k v=some d):∃i,k=.int i∧D0 (.list xs) (.int i) v=some d:=by
 induction k using D.casesOn with | int i=>exact ⟨i,rfl,h⟩ | _=>exact nos h
theorem L9{es:List (Int×D)}{k v d:D}(h:D0 (.Ahe es) k v=some d):∃i,k=.int i∧D0 (.Ahe es) (.int i) v=some d:=by
 induction k using D.casesOn with | int i=>exact ⟨i,rfl,h⟩ | _=>exact nos h
theorem Aaa{a d:D}(h:Aep a=some d):∃xs,a=.list xs∧d=.list xs.reverse:=by
 induction a using D.casesOn with | list xs=>exact ⟨xs,rfl,(Ag h).symm⟩ | _=>exact nos h
theorem Aay{e₁:E}(e:Ab F (.bi .len [e₁]) σ=some (d,σ')):∃a,A8 F e₁ σ=some (a,σ')∧biD .len [a]=some d:=by
 obtain ⟨⟨a,σ₁⟩,h1,e⟩:=bs e
 obtain ⟨c,h3,e⟩:=ms e
 obtain ⟨rfl,rfl⟩:=Prod.mk.inj e
 exact ⟨a,h1,h3⟩
theorem Xi{m:Mt}{o:E}{args:List E}(e:Ab F (.meth m o args) σ=some (d,σ')):Ex4 fun a σ₁ ds a'=>And5 (A8 F o σ=some (a,σ₁)) (evs F args σ₁=some (ds,σ')) (again o a σ'=some a') (kd a=kd a') (Bw m a' ds=some d):=by
 obtain ⟨⟨a,σ₁⟩,h1,e⟩:=bs e
 obtain ⟨⟨ds,σ₂⟩,h2,e⟩:=bs e
 obtain ⟨a',h3,e⟩:=bs e
 obtain ⟨hk,e⟩:=J6 e
 obtain ⟨c,h4,e⟩:=ms e
 obtain ⟨rfl,rfl⟩:=Prod.mk.inj e
 exact ⟨a,σ₁,ds,a',h1,h2,h3,hk,h4⟩
theorem Wt{o old:E}{ww:List Nat}(e:Ab F (.repl o old ww) σ=some (d,σ')):Ex3 fun xs σ₁ c=>And4 (F.ev o σ=some (.str xs,σ₁)) (F.ev old σ₁=some (.Ahj [c],σ')) ((xs.length≤4096∧ww.length≤64∧ww≠[c]∧c<256)) (d=.str (A6 c ww xs)):=by
 obtain ⟨⟨a,σ₁⟩,h1,e⟩:=bs e
 obtain ⟨xs,h2,e⟩:=bs e
 obtain ⟨⟨b,σ₂⟩,h3,e⟩:=bs e
 obtain ⟨cc,h4,e⟩:=bs e
 obtain ⟨hg,e⟩:=Cd e
 obtain ⟨rfl,rfl⟩:=Prod.mk.inj e
 obtain rfl:=H4 h2
 obtain rfl:=Vs h4
 exact ⟨xs,σ₁,cc,h1,h3,hg,rfl⟩
theorem Ago{b:Bi}{a:E}{as:List E}(hb:Za b=true)(e:Ab F (.bi b (a :: as)) σ=some (d,σ')):∃ds,evs F (a :: as) σ=some (ds,σ')∧biD b ds=some d:=by
 have h1:b≠.len:=fun q=>by rw [q] at hb;exact absurd hb Bool.false_ne_true
 have h2:b≠.list:=fun q=>by rw [q] at hb;exact absurd hb Bool.false_ne_true
 rw [L3 h1 h2] at e
 obtain ⟨⟨ds,σ₁⟩,h3,e⟩:=bs e
 obtain ⟨c,h4,e⟩:=ms e
 obtain ⟨rfl,rfl⟩:=Prod.mk.inj e
 exact ⟨ds,h3,h4⟩
theorem S9{b:Bi}{e₁:E}(h1:b≠.len)(h2:b≠.list)(e:Ab F (.bi b [e₁]) σ=some (d,σ')):∃a,F.ev e₁ σ=some (a,σ')∧biD b [a]=some d:=by
 rw [L3 h1 h2,Dm] at e
 obtain ⟨⟨ds,σ₁⟩,h3,e⟩:=bs e
 obtain ⟨⟨a,σ₂⟩,h4,e'⟩:=bs h3
 obtain ⟨q,h5,h6⟩:=ms e'
 obtain rfl:=Ag h5
 obtain ⟨rfl,rfl⟩:=Prod.mk.inj h6
 obtain ⟨c,h7,h8⟩:=ms e
 obtain ⟨rfl,rfl⟩:=Prod.mk.inj h8
 exact ⟨a,h4,h7⟩
theorem Pz{a d:D}(e:S8 a=some d):∃b,d=.bool b:=by
 induction a using D.casesOn with
 |bool _=>exact ⟨_,(Option.some.inj e).symm⟩
 |int _=>exact ⟨_,(Option.some.inj e).symm⟩
 |_=>exact nos e
theorem Rj{a d:D}(e:Xw a=some d):∃b,d=.bool b:=by
 induction a using D.casesOn with
 |bool _=>exact ⟨_,(Option.some.inj e).symm⟩
 |int _=>exact ⟨_,(Option.some.inj e).symm⟩
 |_=>exact nos e
end
end Mine
end
section
open PySem PySem.W PyProof.Rows
set_option autoImplicit false
namespace Mine
section
variable {A:Around} {E:Value→Shared→Prop} {s:Shared} {k:Tok} {M:Addr→Prop}
theorem F2{value slice:Expr}{o i:Value}{T id:String}{ops:List Value}{Q:Value→Shared→Prop}(hT:s.TypeIs o T)
  (hl:typeLookup (.type T) "__getitem__" = pure (some (.builtin id))) (h:wpAny (model prog w) A (getItem o i) Q E s)
  (hs:subscripted slice false o i=operate ops (getItem o i)):wpAny (model prog w) A (subscriptTail value slice o i) Q E s:=by
 delta subscriptTail
 refine wpAny_bind ?_
 rw [getitemInPython_of_ne hT.not_modules]
 refine wpAny_bind (wpAny_specialOf hT hl ?_)
 have fin:wpAny (model prog w) A (subscripted slice false o i) (fun r s₃=>wpAny (model prog w) A (letTemporaryGo value o r >>= fun ζ=>pure r) Q E s₃) E s:=by
  rw [hs]
  exact wpAny_operating (wpAny_mono h (fun r s₃ h₃=>wpAny_bind (wpAny_letTemporaryGo (wpAny_pure h₃))) fun ζ ζ x=>x)
 first
  |exact wpAny_pure (wpAny_bind fin)
  |exact wpAny_bind (wpAny_pure (wpAny_bind fin))
  |exact wpAny_bind fin
theorem IsT.isTuple'{h:Heap}{t:Addr}{items:Array Value}{n:Nat}(x:IsT h t items n):h.IsTuple t items:=⟨_,x,rfl,n,rfl⟩
noncomputable def Td:D→Bool
 |.str _ | .list _ | .Ahm _ | .tup _ | .Ahe _ | .Ahf _=>true
 |_=>false
theorem Iw.type{v:Value}{d:D}(x:Iw s.heap k M v d)(h:Td d=true):Ex2 fun T id=>s.TypeIs v T∧typeLookup (.type T) "__getitem__" = pure (some (.builtin id)):=by
 rcases x with x | x
 ·induction d using D.casesOn with
  |str _=>obtain ⟨_,rfl,_⟩:=x.inv;exact ⟨_,_,typeIs_str _ _ _,F.slot_str_getitem.lookup⟩
  |list _=>obtain ⟨_,_,_,rfl,_,l,_⟩:=x.inv;exact ⟨_,_,l.isList.typeIs,F.slot_list_getitem.lookup⟩
  |Ahm _=>obtain ⟨_,_,rfl,_,l,_⟩:=x.inv;exact ⟨_,_,l.typeIs,F.slot_list_getitem.lookup⟩
  |tup _=>obtain ⟨_,_,_,rfl,_,l,_⟩:=x.inv;exact ⟨_,_,(IsT.isTuple' l).typeIs,F.slot_tuple_getitem.lookup⟩
  |Ahe _=>obtain ⟨_,_,rfl,_,_,l,_⟩:=x.inv;exact ⟨_,_,l.typeIs,F.slot_dict_getitem.lookup⟩
  |Ahf _=>obtain ⟨_,_,rfl,_,_,l,_⟩:=x.inv;exact ⟨_,_,l.typeIs,F.slot_dict_getitem.lookup⟩
  |_=>exact absurd h Bool.false_ne_true
 ·induction x using Ahh.casesOn with
  |list _ l=>exact ⟨_,_,l.isList.typeIs,F.slot_list_getitem.lookup⟩
  |Ahe _ _ l=>exact ⟨_,_,l.typeIs,F.slot_dict_getitem.lookup⟩
theorem X2{o i d:D}(e:Ar o i=some d):Td o=true:=by
 induction o using D.casesOn <;> first | rfl | exact nos e
theorem Id{pi:Expr}(h:Bh pi=true)(o i:Value):subscripted pi false o i=operate [o,i] (getItem o i):=by
 induction pi using Expr.casesOn <;> first | rfl | exact absurd h Bool.false_ne_true
end
section
variable {lv:Nat} {F:Ahl} {n:Nat} {φ:Fx} {loc:Bl} {σ σ':St} {c:Cf} {S:Sx} {env:Env} {A:Around} {EE:Value→Shared→Prop} {Q:Value→Shared→Prop} {d:D}
variable (ev:D8 F n) (Gx:Gl φ.hT) (r:Da n A) (V:Ahk φ S loc env) (R:Rep φ loc σ c)
include ev Gx r V R
theorem Qc{o:Cmp}{l rr:E}{pl pr:Expr}(tl:TrE lv S l pl)(tr:TrE lv S rr pr)(e:Ab F (.cmp o l rr) σ=some (d,σ'))
  (hQ:∀b c',Ge φ loc σ c σ' c'→d=.bool b→Q (.bool b) c'.s) :
  wpAny (model prog w) A (eval pl env) (fun a s₁=>wpAny (model prog w) A (eval pr env) (fun b s₂=>wpAny (model prog w) A (compareOp (Eu o) a b) Q EE s₂) EE s₁) EE c.s:=by
 obtain ⟨a,σ₁,b,b',h1,h2,h3,rfl⟩:=Ab6 e
 refine ev Gx r V R tl h1 fun x c₁ g₁ r₁=>?_
 split at h2
 ·refine Gj ev Gx r V g₁.go.rep tr h2 fun y c₂ g₂ k₂=>?_
  exact O8 (g₂.go.real r₁) (k₂.seen g₂.go.rep) (by have:=r.units;exact Nat.lt_of_succ_lt this) h3 fun s' x=>hQ b' ⟨s',c₂.M,c₂.vs⟩ ((g₁.trans g₂).ext x) rfl
 ·refine ev Gx r V g₁.go.rep tr h2 fun y c₂ g₂ r₂=>?_
  exact O8 (g₂.go.real r₁) (.inl r₂) (by have:=r.units;exact Nat.lt_of_succ_lt this) h3 fun s' x=>hQ b' ⟨s',c₂.M,c₂.vs⟩ ((g₁.trans g₂).ext x) rfl
variable (hQ:∀v c',Ge φ loc σ c σ' c'→Ahb c'.s.heap c'.s.toks c'.M v d→Q v c'.s)
include hQ
theorem Af5{o:Cmp}{l rr:E}{po:CmpOp}{pl pr:Expr}{p:Pos}(ho:po=Eu o)(hm:behindInMarks (Eu o) pr=false)(tl:TrE lv S l pl)(tr:TrE lv S rr pr)(e:Ab F (.cmp o l rr) σ=some (d,σ')) :
  wpAny (model prog w) A (eval (.Compare pl [po] [pr] p) env) Q EE c.s:=by
 subst ho
 exact wpAny_Compare1 (Qc ev Gx r V R tl tr e fun b c' g h=>hQ _ c' g (h ▸ .bool b)) hm
theorem Af6{o:Op}{l rr:E}{po:Operator}{pl pr:Expr}{p:Pos}(ho:po=K3 o)(tl:TrE lv S l pl)(tr:TrE lv S rr pr)(e:Ab F (.bin o l rr) σ=some (d,σ')):wpAny (model prog w) A (eval (.BinOp pl po pr p) env) Q EE c.s:=by
 subst ho
 obtain ⟨a,σ₁,b,h1,h2,h3⟩:=Acb e
 refine wpAny_BinOp (ev Gx r V R tl h1 fun x c₁ g₁ r₁=>ev Gx r V g₁.go.rep tr h2 fun y c₂ g₂ r₂=>?_)
 exact Agh g₂.go.rep.Ahd (g₂.go.real r₁) r₂ h3 fun v s' x r₃=>hQ v ⟨s',c₂.M,c₂.vs⟩ ((g₁.trans g₂).ext x) r₃
theorem Af0{e₁:E}{pe:Expr}{p:Pos}(t:TrE lv S e₁ pe)(e:Ab F (.neg e₁) σ=some (d,σ')):wpAny (model prog w) A (eval (.UnaryOp .USub pe p) env) Q EE c.s:=by
 obtain ⟨i,h1,rfl⟩:=Aas e
 refine wpAny_UnaryOp (ev Gx r V R t h1 fun x c₁ g₁ r₁=>?_)
 obtain ⟨t,rfl⟩:=r₁.inv
 exact P.neg_int (hQ _ ⟨_,c₁.M,c₁.vs⟩ (g₁.ext (Ext.tk1 _)) (.int _ _))
theorem Afz{l rr:E}{pl pr:Expr}{p:Pos}(tl:TrE lv S l pl)(tr:TrE lv S rr pr)(e:Ab F (.orv l rr) σ=some (d,σ')):wpAny (model prog w) A (eval (.BoolOp .Or [pl,pr] p) env) Q EE c.s:=by
 obtain ⟨a,σ₁,h1,e⟩:=Aak e
 show wpAny _ _ (boolOp p .Or [eval pl env,eval pr env]) _ _ _
 delta boolOp
 refine wpAny_bind (ev Gx r V R tl h1 fun x c₁ g₁ r₁=>wpAny_bind (wpAny_standAt (wpAny_bind (wpAny_holding ?_))))
 rcases e with ⟨h2,rfl,rfl⟩ | ⟨h2,e⟩
 ·exact Qo r₁ h2 fun s' x=>wpAny_pure (hQ _ ⟨s',c₁.M,c₁.vs⟩ (g₁.ext x) (r₁.ext x))
 ·refine Qo r₁ h2 fun s' x=>?_
  show wpAny _ _ (boolOp p .Or [eval pr env]) _ _ _
  delta boolOp
  have g:=g₁.ext x
  exact ev Gx r V g.go.rep tr e fun v c₂ g₂ r₂=>hQ v c₂ (g.trans g₂) r₂
theorem Afx{es:List E}{pes:List Expr}{k:Nat}{p:Pos}(t:TrL (TrE lv) S es pes)(e:Ab F (.tup es) σ=some (d,σ')):wpAny (model prog w) A (eval (.Tuple pes k p) env) Q EE c.s:=by
 obtain ⟨ds,h1,hz,rfl⟩:=Zp e
 refine Tuple_ ?_
 rw [Ba t]
 refine H0 ev Gx r V R t h1 fun vs c₁ g₁ r₁=>wpAny_newTuple ?_ (by rw [r₁.len,sizeLine_eq];rw [Aw] at hz;lia)
 exact hQ _ ⟨_,c₁.M,c₁.vs⟩ (g₁.ext (Ext.push _ _)) (Sw g₁.go.rep.Ahd r₁)
theorem Af4{o i:E}{po pi:Expr}{p:Pos}(hs:Bh pi=true)(to:TrE lv S o po)(ti:TrE lv S i pi)(e:Ab F (.idx o i) σ=some (d,σ')):wpAny (model prog w) A (eval (.Subscript po pi p) env) Q EE c.s:=by
 obtain ⟨a,σ₁,b,a',h1,h2,h3,h4⟩:=Aa4 e
 refine Subscript_ (Gj ev Gx r V R to h1 fun x c₁ g₁ k₁=>ev Gx r V g₁.go.rep ti h2 fun y c₂ g₂ r₂=>?_)
 have k₂:=(k₁.again g₂ g₁.go.rep h3).seen g₂.go.rep
 obtain ⟨T,id,hT,hl⟩:=k₂.type (X2 h4)
 exact F2 hT hl (O7 k₂ r₂ h4 fun v s' x r₃=>hQ v ⟨s',c₂.M,c₂.vs⟩ ((g₁.trans g₂).ext x) r₃) (Id hs _ _)
theorem Abn{o i:E}{po pi:Expr}{p:Pos}(hs:Bh pi=true)(to:TrE lv S o po)(ti:TrE lv S i pi)(e:Ab F (.Ahu o i) σ=some (d,σ')):wpAny (model prog w) A (eval (.Subscript po pi p) env) Q EE c.s:=by
 obtain ⟨a,σ₁,b,c',h1,h2,h3,rfl⟩:=X1 e
 refine Subscript_ (ev Gx r V R to h1 fun x c₁ g₁ r₁=>ev Gx r V g₁.go.rep ti h2 fun y c₂ g₂ r₂=>?_)
 have k₂:Iw c₂.s.heap c₂.s.toks c₂.M x (.str a):=.inl (g₂.go.real r₁)
 obtain ⟨T,id,hT,hl⟩:=k₂.type rfl
 refine F2 hT hl ?_ (Id hs _ _)
 obtain ⟨t,rfl,hz⟩:=r₁.inv
 induction b using D.casesOn with
 |int j=>
  obtain ⟨u,rfl⟩:=r₂.inv
  obtain ⟨hs,h3⟩:=J6 h3
  rw [Db] at hs
  obtain ⟨cc,q,e'⟩:=Option.map_eq_some_iff.mp h3
  obtain rfl:[cc]=c':=by injection e'
  obtain ⟨jj,e1,e2⟩:=Qy q
  have pos:0<c₂.s.toks:=g₂.go.rep.pos
  refine P.getItem_str (c:=cc) (by rw [Bool.or_eq_false_iff];exact ⟨decide_eq_false (by lia),decide_eq_false (by lia)⟩) ?_ (hQ _ ⟨_,c₂.M,c₂.vs⟩ ((g₁.trans g₂).ext (Ext.tk1 _)) ?_)
  ·rw [Ae,e1]
   simpa [mkS] using e2
  ·exact .Ahj (s:=[cc]) (by rw [Aw];exact Nat.le_of_ble_eq_true rfl) (Nat.ne_of_gt pos) (Nat.lt_succ_self _)
 |_=>exact nos h3
omit R hQ in
theorem Sv{eo:Option E}{po:Option Expr}{d':D}{σ₁:St}{c₀:Cf}(R₀:Rep φ loc σ c₀)(t:TrO (TrE lv) S eo po)(h:J5 F eo σ=some (d',σ₁)){Q':Value→Shared→Prop}
  (hQ':∀v c',Ge φ loc σ c₀ σ₁ c'→Ahb c'.s.heap c'.s.toks c'.M v d'→Q' v c'.s):wpAny (model prog w) A (evalPart po env) Q' EE c₀.s:=by
 induction t using TrO.casesOn with
 |none=>obtain ⟨rfl,rfl⟩:=As h;exact wpAny_pure (hQ' _ c₀ (.refl R₀) .none)
 |some t=>exact ev Gx r V R₀ t h hQ'
end
end Mine
end
section
open PySem PySem.W PyProof.Rows
set_option autoImplicit false
namespace Mine
theorem allF{α β:Type}(f:α→β)(l:List α):((l.map fun a=>(false,f a)).all fun x=>!x.1)=true:=by
 induction l with | nil=>rfl | cons a l ih=>exact ih
theorem Agn:biL.lookup (bn .len)=some (.builtin "len"):=by kernel_rfl
theorem Y8:biL.lookup (bn .range)=some (.type "range"):=by kernel_rfl
theorem Ace:biL.lookup (bn .list)=some (.type "list"):=by kernel_rfl
theorem Agl:biL.lookup (bn .min)=some (.builtin "min"):=by kernel_rfl
theorem Agm:biL.lookup (bn .max)=some (.builtin "max"):=by kernel_rfl
theorem Agk:biL.lookup (bn .sum)=some (.builtin "sum"):=by kernel_rfl
theorem Vi:biL.lookup (bn .sorted)=some (.builtin "sorted"):=by kernel_rfl
theorem Y9:biL.lookup ("isinstance" : Str)=some (.builtin "isinstance"):=by kernel_rfl
theorem Ach:biL.lookup ("bool" : Str)=some (.type "bool"):=by kernel_rfl
theorem Agp:biL.lookup ("int" : Str)=some (.type "int"):=by kernel_rfl
theorem Acf:biL.lookup ("enumerate" : Str)=some (.type "enumerate"):=by kernel_rfl
theorem Acg:biL.lookup ("dict" : Str)=some (.type "dict"):=by kernel_rfl
theorem Agi:biL.lookup ("zip" : Str)=some (.type "zip"):=by kernel_rfl
theorem Afc{a:D}{s:List Nat}(h:kd a=kd (.str s)):∃s',a=.str s':=by induction a using D.casesOn <;> first | exact ⟨_,rfl⟩ | exact absurd h (Nat.ne_of_beq_eq_false rfl)
theorem Aa0{a:D}{s:List D}(h:kd a=kd (.list s)):∃s',a=.list s':=by induction a using D.casesOn <;> first | exact ⟨_,rfl⟩ | exact absurd h (Nat.ne_of_beq_eq_false rfl)
theorem Xq{a:D}{s:List (List Nat×D)}(h:kd a=kd (.Ahf s)):∃s',a=.Ahf s':=by induction a using D.casesOn <;> first | exact ⟨_,rfl⟩ | exact absurd h (Nat.ne_of_beq_eq_false rfl)
theorem Z2{s:Shared}{k:Tok}{M:Addr→Prop}{m:Mt}{a o d:D}{ds:List D}{x:Value}(hx:Iw s.heap k M x a)(hk:kd a=kd o)(e:Bw m o ds=some d) :
  ∃T,PlainAttrs T∧PySem.Slot T (mn m) (Pn o m)∧typeOf (.builtin (Pn o m))=pure (.type "method_descriptor")∧s.TypeIs x T∧(∀a,x=.ref a→∃ob,s.heap.get? a=some ob∧ob.dict=none):=by
 have lst:∀ds,Iw s.heap k M x (.list ds)→∃T,PlainAttrs T∧PySem.Slot T "index" "list.index" ∧ typeOf (.builtin "list.index")=pure (.type "method_descriptor")∧s.TypeIs x T∧(∀a',x=.ref a'→∃ob,s.heap.get? a'=some ob∧ob.dict=none):=by
  intro ds hx
  have:Ex3 fun a vs n=>x=.ref a∧IsL s.heap a vs n:=by
   rcases hx with hx | hx
   ·obtain ⟨a,vs,n,rfl,_,l,_⟩:=hx.inv;exact ⟨a,_,n,rfl,l⟩
   ·obtain ⟨a,vs,n,rfl,_,l,_⟩:=hx.inv;exact ⟨a,_,n,rfl,l⟩
  obtain ⟨a,vs,n,rfl,l⟩:=this
  exact ⟨"list",PySem.F.plainAttrs_list,PySem.F.slot_list_index,PySem.F.type_list_index,l.isList.typeIs,fun b q=>Value.ref.inj q ▸ ⟨_,l,rfl⟩⟩
 have str:∀xs,Iw s.heap k M x (.str xs)→s.TypeIs x "str" ∧ (∀a',x=.ref a'→∃ob,s.heap.get? a'=some ob∧ob.dict=none):=by
  intro xs hx
  rcases hx with hx | hx
  ·obtain ⟨t,rfl,_⟩:=hx.inv;exact ⟨typeIs_str _ _ _,fun ζ q=>nomatch q⟩
  ·exact hx.inv.elim
 rcases Mx e with ⟨rfl,es,rfl⟩ | ⟨s₀,rfl⟩ | ⟨rfl,xs,rfl,_⟩
 ·obtain ⟨es',rfl⟩:=Xq hk
  rcases hx with hx | hx
  ·obtain ⟨a,kvs,rfl,_,_,l,_⟩:=hx.inv
   refine ⟨"dict",PySem.F.plainAttrs_dict,PySem.F.slot_dict_get,PySem.F.type_dict_get,l.typeIs,fun b q=>?_⟩
   obtain ⟨o,_,_,e,x,_⟩:=l
   exact Value.ref.inj q ▸ ⟨o,e,x.2.1⟩
  ·exact hx.inv.elim
 ·obtain ⟨s₁,rfl⟩:=Afc hk
  induction m using Mt.casesOn with
  |lower=>exact ⟨"str",PySem.F.plainAttrs_str,PySem.F.slot_str_lower,PySem.F.type_str_lower,str _ hx⟩
  |upper=>exact ⟨"str",PySem.F.plainAttrs_str,PySem.F.slot_str_upper,PySem.F.type_str_upper,str _ hx⟩
  |split=>exact ⟨"str",PySem.F.plainAttrs_str,PySem.F.slot_str_split,PySem.F.type_str_split,str _ hx⟩
  |join=>exact ⟨"str",PySem.F.plainAttrs_str,PySem.F.slot_str_join,PySem.F.type_str_join,str _ hx⟩
  |index=>exact ⟨"str",PySem.F.plainAttrs_str,PySem.F.slot_str_index,PySem.F.type_str_index,str _ hx⟩
  |get=>obtain ⟨a,b,rfl,e⟩:=H3 e;exact nos e
 ·obtain ⟨ys,rfl⟩:=Aa0 hk
  exact lst _ hx
section
variable {lv:Nat} {F:Ahl} {n:Nat} {φ:Fx} {loc:Bl} {σ σ':St} {c:Cf} {S:Sx} {env:Env} {A:Around} {EE:Value→Shared→Prop} {Q:Value→Shared→Prop} {d:D}
variable (ev:D8 F n) (Gx:Gl φ.hT) (r:Da n A) (V:Ahk φ S loc env) (R:Rep φ loc σ c)
variable (hQ:∀v c',Ge φ loc σ c σ' c'→Ahb c'.s.heap c'.s.toks c'.M v d→Q v c'.s)
include ev Gx r V R hQ
theorem Afy{o:E}{l u:Option E}{po:Expr}{pl pu:Option Expr}{q p:Pos}(to:TrE lv S o po)(tl:TrO (TrE lv) S l pl)(tu:TrO (TrE lv) S u pu)(e:Ab F (.slc o l u false) σ=some (d,σ')) :
  wpAny (model prog w) A (eval (.Subscript po (.Slice pl pu Option.none q) p) env) Q EE c.s:=by
 obtain ⟨a,σ₁,lv,σ₂,uv,a',h1,h2,h3,h4,h5⟩:=So e
 refine Subscript_ (Gj ev Gx r V R to h1 fun x c₁ g₁ k₁=>wpAny_Slice (Sv ev Gx r V g₁.go.rep tl h2 fun vl c₂ g₂ r₂=>Sv ev Gx r V g₂.go.rep tu h3 fun vu c₃ g₃ r₃=>wpAny_pure ?_))
 have k₃:=((k₁.again (g₂.trans g₃) g₁.go.rep h4).seen ((g₂.trans g₃).go.rep))
 have g:Ge φ loc σ c σ' c₃:=g₁.trans (g₂.trans g₃)
 have hsl:=Heap.IsSliceOf.new c₃.s.heap vl vu .none
 have x0:Ext c₃.s { c₃.s with heap:=c₃.s.heap.push { cls:=.type "slice",data:=.fields #[vl,vu,.none] } }:=Ext.push _ _
 have S':Bc (c₃.s.heap.push { cls:=.type "slice",data:=.fields #[vl,vu,.none] }) c₃.M:=x0.Ahd g.go.rep.Ahd
 have fin:∀v s',Ext { c₃.s with heap:=c₃.s.heap.push { cls:=.type "slice",data:=.fields #[vl,vu,.none] } } s'→Ahb s'.heap s'.toks c₃.M v d→Q v s':=
  fun v s' x rr=>hQ v ⟨s',c₃.M,c₃.vs⟩ (g.ext (x0.trans x)) rr
 obtain ⟨l',el,h5⟩:=bs h5
 obtain ⟨u',eu,h5⟩:=bs h5
 have p1:=(Part.of (g₃.go.real r₂) el)
 have p2:=(Part.of r₃ eu)
 have lst:∀ {b vs ds},c₃.s.heap.IsList b vs.toArray→Ag8 c₃.s.heap c₃.s.toks c₃.M vs ds→ds.length≤line→d=.list (cut ds l' u')→wpAny (model prog w) A (subscriptTail po (.Slice pl pu Option.none q) (.ref b) (.ref c₃.s.heap.objs.size)) Q EE
   { c₃.s with heap:=c₃.s.heap.push { cls:=.type "slice",data:=.fields #[vl,vu,.none] } }:=by
  intro b vs ds hl hr hz hd
  have hl':Heap.IsList (c₃.s.heap.push { cls:=.type "slice",data:=.fields #[vl,vu,.none] }) b vs.toArray:=IsList.at hl fun o e=>x0.keep _ o e
  refine F2 (T:= "list") (Heap.IsList.typeIs hl') PySem.F.slot_list_getitem.lookup ?_ rfl
  exact Z6 S' hl' (hr.ext x0) hsl p1.isPart p2.isPart hz fun v s' x rr=>fin v s' x (hd ▸ rr)
 induction a' using D.casesOn with
 |str xs=>
  obtain rfl:=Ag h5
  have k₄:∃t,x=.str (mkS xs) t∧xs.length≤line:=by
   rcases k₃ with k | k
   ·exact k.inv
   ·exact (Ahh.inv k).elim
  obtain ⟨t,rfl,hz⟩:=k₄
  refine F2 (T:= "str") (typeIs_str _ _ _) PySem.F.slot_str_getitem.lookup ?_ rfl
  exact Z4 hsl p1 p2 hz fun v s' x rr=>fin v s' x rr
 |list _=>
  obtain rfl:=Ag h5
  rcases k₃ with k | k
  ·obtain ⟨_,_,_,rfl,m,l,r,z⟩:=k.inv;exact lst l.isList r z rfl
  ·obtain ⟨_,_,_,rfl,m,l,r,z⟩:=k.inv;exact lst l.isList r z rfl
 |Ahm _=>
  obtain rfl:=Ag h5
  rcases k₃ with k | k
  ·obtain ⟨_,_,rfl,m,l,r,z⟩:=k.inv;exact lst l r z rfl
  ·exact (Ahh.inv k).elim
 |_=>exact nos h5
theorem Abk{o:E}{po:Expr}{k:Nat}{rp t q p:Pos}(to:TrE lv S o po)(e:Ab F (.slc o Option.none Option.none true) σ=some (d,σ')) :
  wpAny (model prog w) A (eval (.Subscript po (.Slice Option.none Option.none (some (.UnaryOp .USub (.Constant (.int 1) k rp) t)) q) p) env) Q EE c.s:=by
 obtain ⟨a,σ₁,lv,σ₂,uv,a',h1,h2,h3,h4,h5⟩:=So e
 obtain ⟨rfl,rfl⟩:=As h2
 obtain ⟨rfl,rfl⟩:=As h3
 refine Subscript_ (Gj ev Gx r V R to h1 fun x c₁ g₁ k₁=>wpAny_Slice (wpAny_pure (wpAny_pure ?_)))
 show wpAny _ _ (eval (.UnaryOp .USub (.Constant (.int 1) k rp) t) env) _ _ _
 refine wpAny_UnaryOp (wpAny_Constant_int (P.neg_int ?_))
 have k₃:=((k₁.again (.refl g₁.go.rep) g₁.go.rep h4).seen g₁.go.rep)
 obtain ⟨xs,rfl,rfl⟩:=Aaa (show Aep a'=some d from h5)
 have lst:Ex2 fun b vs=>And4 (x=.ref b) (c₁.s.heap.IsList b vs.toArray) (Ag8 c₁.s.heap c₁.s.toks c₁.M vs xs) (xs.length≤line):=by
  rcases k₃ with k | k
  ·obtain ⟨_,_,_,rfl,m,l,r,z⟩:=k.inv;exact ⟨_,_,rfl,l.isList,r,z⟩
  ·obtain ⟨_,_,_,rfl,m,l,r,z⟩:=k.inv;exact ⟨_,_,rfl,l.isList,r,z⟩
 obtain ⟨b,vs,rfl,hl,hr,hz⟩:=lst
 have x0:Ext c₁.s { c₁.s with heap:=c₁.s.heap.push { cls:=.type "slice",data:=.fields #[.none,.none,.int (-1) (c₁.s.toks+1)] },toks:=c₁.s.toks+1+1 }:=Ext.pushTk _ _ (Nat.le_succ_of_le (Nat.le_succ _))
 refine F2 (T:= "list") (Heap.IsList.typeIs (IsList.at hl fun o e=>x0.keep _ o e)) PySem.F.slot_list_getitem.lookup ?_ rfl
 exact Z5 (x0.Ahd g₁.go.rep.Ahd) (IsList.at hl fun o e=>x0.keep _ o e) (hr.ext x0) (Heap.IsSliceOf.new _ _ _ _) hz fun v s' x rr=>hQ v ⟨s',c₁.M,c₁.vs⟩ (g₁.ext (x0.trans x)) rr
theorem Af1{e₁:E}{x:Str}{q p:Pos}{pe:Expr}(hb:Cx S "len" = true)(hx:x = "len")(t:TrE lv S e₁ pe)(e:Ab F (.bi .len [e₁]) σ=some (d,σ')) :
  wpAny (model prog w) A (eval (.Call (.Name x q) [pe] [] p) env) Q EE c.s:=by
 subst hx
 obtain ⟨a,h1,h2⟩:=Aay e
 have se:=F3 (env:=env) (TrL.cons t .nil)
 refine Call_ (B4 Gx V R hb Agn ?_)
 refine callWith_builtin1 ?_ (by rw [se];rfl)
 rw [Ba (TrL.cons t .nil)]
 refine Calls.spliced_cons (Gj ev Gx r V R t h1 fun v c₁ g₁ k₁=>Calls.spliced_nil ?_)
 exact Wa g₁.go.rep.Ahd r.1 (k₁.seen g₁.go.rep) h2 fun v s' x rr=>hQ v ⟨s',c₁.M,c₁.vs⟩ (g₁.ext x) rr
theorem ev_bi{b:Bi}{a:E}{as:List E}{x:Str}{q p:Pos}{Ahp:List Expr}(hb0:Za b=true)(hb:Cx S (bn b)=true)(hx:x=bn b)(t:TrL (TrE lv) S (a :: as) Ahp)(e:Ab F (.bi b (a :: as)) σ=some (d,σ')) :
  wpAny (model prog w) A (eval (.Call (.Name x q) Ahp [] p) env) Q EE c.s:=by
 subst hx
 obtain ⟨ds,h1,h2⟩:=Ago hb0 e
 have se:=F3 (env:=env) t
 have bt:=Ba (env:=env) t p
 have run:∀ {Q':Value→Shared→Prop},(∀v s',Q v s'→Q' v s')→wpAny (model prog w) A (spliced (Ahp.map fun pe=>(false,eval pe env))) (fun vs s₁=>wpAny (model prog w) A (call (biV b) vs) Q EE s₁) EE c.s:=by
  intro Q' _
  refine H0 ev Gx r V R t h1 fun vs c₁ g₁ r₁=>?_
  refine Adx g₁.go.rep.Ahd r.1 r₁ h2 ?_ fun v s' x rr=>hQ v ⟨s',c₁.M,c₁.vs⟩ (g₁.ext x) rr
  cases b <;> simp [Za] at hb0 ⊢
 have run:=run (Q':=Q) fun ζ ζ q=>q
 replace t:=t.inv;obtain ⟨_,_,rfl,t,ts⟩:=t
 have hp:=congrArg (fun l=>List.any l (·.1)) (Ba (env:=env) ts p)
 rw [show List.any (List.map (fun pe=>(false,eval pe env)) _) (fun x:Bool×Sem Value=>x.1)=false by simp] at hp
 refine Call_ ?_
 cases b <;> try ((first | exact absurd hb0 Bool.false_ne_true | cases hb0);done)
 ·refine B4 Gx V R hb Y8 (Pv.callWith_type1 (hplain:=hp) ?_ (Ah t _))
  rw [bt];exact run
 ·refine B4 Gx V R hb Agl (PyProof.Rows.callWith_builtin1 (hplain:=hp) ?_ (Ah t _))
  rw [bt];exact run
 ·refine B4 Gx V R hb Agm (PyProof.Rows.callWith_builtin1 (hplain:=hp) ?_ (Ah t _))
  rw [bt];exact run
 ·refine B4 Gx V R hb Agk (PyProof.Rows.callWith_builtin1 (hplain:=hp) ?_ (Ah t _))
  rw [bt];exact run
 ·refine B4 Gx V R hb Vi (PyProof.Rows.callWith_builtin1 (hplain:=hp) ?_ (Ah t _))
  rw [bt];exact run
theorem Af3{e₁:E}{x y:Str}{q p rp:Pos}{pe:Expr}(hb:Cx S "isinstance" = true)(hb':Cx S "bool" = true)(hx:x = "isinstance")(hy:y = "bool")(t:TrE lv S e₁ pe)(e:Ab F (.bi .isBool [e₁]) σ=some (d,σ')) :
  wpAny (model prog w) A (eval (.Call (.Name x q) [pe,.Name y rp] [] p) env) Q EE c.s:=by
 subst hx hy
 obtain ⟨a,h0,h2⟩:=S9 (b:=.isBool) nofun nofun e
 have se:starEach [pe,.Name "bool" rp] env=[(false,eval pe env),(false,eval (.Name "bool" rp) env)]:=Ah t _
 refine Call_ (B4 Gx V R hb Y9 ?_)
 refine callWith_builtin1 ?_ (by rw [se];rfl)
 rw [se]
 refine Calls.spliced_cons (ev Gx r V R t h0 fun v c₁ g₁ r₁=>Calls.spliced_cons (B4 Gx V g₁.go.rep hb' Ach (Calls.spliced_nil ?_)))
 have hd:=Pz h2
 obtain ⟨b,rfl⟩:=hd
 exact Xu r₁ h2 fun s' x=>hQ _ ⟨s',c₁.M,c₁.vs⟩ (g₁.ext x) (.bool b)
theorem Af2{e₁:E}{x y:Str}{q p rp:Pos}{pe:Expr}(hb:Cx S "isinstance" = true)(hb':Cx S "int" = true)(hx:x = "isinstance")(hy:y = "int")(t:TrE lv S e₁ pe)(e:Ab F (.bi .isInt [e₁]) σ=some (d,σ')) :
  wpAny (model prog w) A (eval (.Call (.Name x q) [pe,.Name y rp] [] p) env) Q EE c.s:=by
 subst hx hy
 obtain ⟨a,h0,h2⟩:=S9 (b:=.isInt) nofun nofun e
 have se:starEach [pe,.Name "int" rp] env=[(false,eval pe env),(false,eval (.Name "int" rp) env)]:=Ah t _
 refine Call_ (B4 Gx V R hb Y9 ?_)
 refine callWith_builtin1 ?_ (by rw [se];rfl)
 rw [se]
 refine Calls.spliced_cons (ev Gx r V R t h0 fun v c₁ g₁ r₁=>Calls.spliced_cons (B4 Gx V g₁.go.rep hb' Agp (Calls.spliced_nil ?_)))
 have hd:=Rj h2
 obtain ⟨b,rfl⟩:=hd
 exact Aa2 r₁ h2 fun s' x=>hQ _ ⟨s',c₁.M,c₁.vs⟩ (g₁.ext x) (.bool b)
theorem Abm{m:Mt}{o:E}{args:List E}{nm:Str}{po:Expr}{ap p:Pos}{Ahp:List Expr}(hn:nm=mn m)(hbase:∀env t,attributeBase po (mn m) env t=t)(hline:(ap.endLine == p.line)=true)
  (hlen:decide (Ahp.length<30)=true) (to:TrE lv S o po) (ta:TrL (TrE lv) S args Ahp) (e:Ab F (.meth m o args) σ=some (d,σ')) :
  wpAny (model prog w) A (eval (.Call (.Attribute po nm ap) Ahp [] p) env) Q EE c.s:=by
 subst hn
 obtain ⟨a,σ₁,ds,a',h1,h2,h3,hk,h4⟩:=Xi e
 refine wpAny_Call_method_late (hbase _ _) ?_ hline rfl ?_
 ·rw [Ba ta]
  rw [allF];exact hlen
 refine Gj ev Gx r V R to h1 fun x c₁ g₁ k₁=>?_
 have fin:∀(vs:List Value) (c₂:Cf),Ge φ loc σ₁ c₁ σ' c₂→Ag8 c₂.s.heap c₂.s.toks c₂.M vs ds→wpAny (model prog w) A (call (.builtin (Pn a' m)) (x :: vs)) Q EE c₂.s:=fun vs c₂ g₂ r₂=>
  Ub g₂.go.rep.Ahd ((k₁.again g₂ g₁.go.rep h3).seen g₂.go.rep) r₂ r.units h4 fun v s' x rr=>hQ v ⟨s',c₂.M,c₂.vs⟩ ((g₁.trans g₂).ext x) rr
 have so:∃T,PlainAttrs T∧PySem.Slot T (mn m) (Pn a' m)∧typeOf (.builtin (Pn a' m))=pure (.type "method_descriptor")∧c₁.s.TypeIs x T∧(∀a,x=.ref a→∃ob,c₁.s.heap.get? a=some ob∧ob.dict=none):=Z2 (k₁.seen g₁.go.rep) hk h4
 obtain ⟨T,hp,hs,hty,hT,hd⟩:=so
 refine ⟨T,Pn a' m,hp,hs,hty,hT,hd,?_⟩
 induction ta using TrL.casesOn with
 |nil=>
  obtain ⟨rfl,rfl⟩:=As h2
  exact callWith_method0 (fin [] c₁ (.refl g₁.go.rep) .nil)
 |cons t ts=>
  refine callWith_method1 ?_ (Ah t _) ?_
  ·rw [Ba (.cons t ts)]
   exact H0 ev Gx r V g₁.go.rep (.cons t ts) h2 fun vs c₂ g₂ r₂=>fin vs c₂ g₂ r₂
  ·rw [Ba ts];simp
theorem Abl{o old:E}{ww:List Nat}{x nm:Str}{po pold:Expr}{k:Nat}{q ap p:Pos}(hn:nm=("replace" : Str))(hbase:∀env t,attributeBase po ("replace" : Str) env t=t)(hline:(ap.endLine == p.line)=true)(hx:x=mkS ww)
  (to:TrE lv S o po) (told:TrE lv S old pold) (e:Ab F (.repl o old ww) σ=some (d,σ')) :
  wpAny (model prog w) A (eval (.Call (.Attribute po nm ap) [pold,.Constant (.str x) k q] [] p) env) Q EE c.s:=by
 subst hn hx
 obtain ⟨xs,σ₁,cc,h1,h2,hg,rfl⟩:=Wt e
 have se:starEach [pold,.Constant (.str (mkS ww)) k q] env=[(false,eval pold env),(false,eval (.Constant (.str (mkS ww)) k q) env)]:=Ah told _
 have bt:backTo p (starEach [pold,.Constant (.str (mkS ww)) k q] env)=[(false,eval pold env),(false,eval (.Constant (.str (mkS ww)) k q) env)]:=by rw [se];rfl
 refine wpAny_Call_method_late (hbase _ _) ?_ hline rfl ?_
 ·rw [bt];rfl
 refine ev Gx r V R to h1 fun v c₁ g₁ r₁=>?_
 obtain ⟨t,rfl,hz⟩:=r₁.inv
 refine ⟨"str","str.replace",PySem.F.plainAttrs_str,PySem.F.slot_str_replace,PySem.F.type_str_replace,typeIs_str _ _ _,(fun ζ q=>by cases q),?_⟩
 refine callWith_method1 ?_ (Ah told _) ?_
 ·rw [bt]
  refine Calls.spliced_cons (ev Gx r V g₁.go.rep told h2 fun v₂ c₂ g₂ r₂=>?_)
  obtain ⟨_,rfl,hz',ht,hlt⟩:=r₂.inv
  refine Calls.spliced_cons (wpAny_Constant_str (Calls.spliced_nil ?_))
  refine Aab (M:=c₂.M) ht hlt hg.1 hg.2.1 hg.2.2.1 hg.2.2.2 fun v s' x rr=>?_
  exact hQ v ⟨s',c₂.M,c₂.vs⟩ ((g₁.trans g₂).ext ((Ext.tk1 _).trans x)) rr
 ·rfl
end
end Mine
end
section
open PySem PySem.W PyProof.Rows
set_option autoImplicit false
namespace Mine
section
variable {lv:Nat} {F:Ahl} {n:Nat} {φ:Fx} {loc:Bl} {σ σ':St} {c:Cf} {S:Sx} {env:Env} {A:Around} {EE:Value→Shared→Prop} {Q:Value→Shared→Prop} {d:D}
theorem Qr(l:List Int):A1 (l.map .int)=some l:=by
 induction l with
 |nil=>rfl
 |cons a l ih=>simp [Vz,ih]
theorem Gl.size(Gx:Gl φ.hT)(R:Rep φ loc σ c):(c.s.heap.objs.size == sysModules)=false:=by
 obtain ⟨mg,mb,⟨o,_,_,e,_⟩,_⟩:=Gx.glob
 have e':=R.fx.top _ _ e
 have nx:¬φ.X mainGlobals:=fun x=>by rw [R.fx.out _ (R.fx.sub _ x)] at e;exact nos e
 have h3:3<c.s.heap.objs.size:=Heap.lt_size (R.top _ _ e' nx)
 exact beq_false_of_ne (fun q=>by
  have q':c.s.heap.objs.size=1:=q
  lia)
theorem Aip.push{s:Shared}{M:Addr→Prop}(S:Bc s.heap M)(o:Obj)(ho:o.isFreed=false):Aip s M { s with heap:=s.heap.push o } (fun b=>M b∨b=s.heap.objs.size):=by
 refine ⟨Ext.push _ _,fun b m=>.inl m,fun b m=>?_,fun b m=>?_⟩
 ·rcases m with m | rfl
  ·exact .inl m
  ·exact .inr (A9 _)
 ·rcases m with m | rfl
  ·obtain ⟨o',e⟩:=S b m;exact ⟨o',Heap.get?_push_of_some _ e⟩
  ·exact ⟨o,Heap.get?_push_size _ ho⟩
theorem Aa.some(R:Rep φ loc σ c){a:Addr}(t:Aa loc σ c.vs a):∃o,c.s.heap.get? a=some o:=by
 rcases t with ⟨i,L,h,rfl⟩ | ⟨i,o,d,e,ho,va⟩
 ·exact R.Ahd _ (R.locs i L h).2.1
 ·obtain ⟨L,_,_,sl⟩:=R.vals i _ _ e
  obtain ⟨a',o',va',_,e'⟩:=(Du.root ho sl).ref
  rw [va] at va';obtain rfl:=Value.ref.inj va';exact ⟨o',e'⟩
theorem Aa.ne(R:Rep φ loc σ c){a:Addr}(h:c.s.heap.get? a=none):¬Aa loc σ c.vs a:=fun t=>by
 obtain ⟨o,e⟩:=Aa.some R t;rw [h] at e;exact nos e
theorem Nz{c₁:Cf}(g:Ge φ loc σ c σ' c₁){vs:List Value}{ds:List D}(rl:Ag8 c₁.s.heap c₁.s.toks c₁.M vs ds)(hz:ds.length≤line) :
  ∃c₂:Cf,c₂.s={ c₁.s with heap:=c₁.s.heap.push { cls:=.type "list",data:=.seq vs.toArray } }∧Ge φ loc σ c σ' c₂∧Dv c loc σ' c₂ .own (.list ds) (.ref c₁.s.heap.objs.size):=by
 have gr:=Aip.push g.go.rep.Ahd { cls:=.type "list",data:=.seq vs.toArray } rfl
 refine ⟨⟨_,_,c₁.vs⟩,rfl,g.grow gr,?_,?_⟩
 ·exact .list (n:=0) (.inr rfl) (Heap.get?_push_size _ rfl) (rl.mono (gr.step (T:=fun ζ=>True) (T':=fun ζ=>True) fun ζ t=>.inl t) gr.ext.toks) hz
 ·intro a q
  obtain rfl:=Value.ref.inj q
  have hn:=A9 c₁.s.heap
  exact ⟨g.go.Ain _ hn,Aa.ne (c:=c₁) g.go.rep hn⟩
variable (ev:D8 F n) (evo:J4 F n) (evt:Ew F n)
 (Gx:Gl φ.hT) (r:Da n A) (V:Ahk φ S loc env) (R:Rep φ loc σ c)
theorem Ge.thaw{c₁:Cf}(g:Ge φ loc σ c σ' c₁){o:Own}{v:Value}(R:Rep φ loc σ c)(p:Dv c loc σ' c₁ o d v) :
  ∃M',Ge φ loc σ c σ' ⟨c₁.s,M',c₁.vs⟩∧Ahb c₁.s.heap c₁.s.toks M' v d:=by
 obtain ⟨M',g',rr⟩:=g.go.thaw R p
 exact ⟨M',⟨g',g.vs⟩,rr⟩
include evo Gx r V R in
theorem Oe{e₁:E}{pe:Expr}(t:TrE lv S e₁ pe)(hQ:∀v c',Ge φ loc σ c σ' c'→Ahb c'.s.heap c'.s.toks c'.M v d→Q v c'.s)
  {o:Own} (e:F.evO e₁ σ=some (o,d,σ')):wpAny (model prog w) A (eval pe env) Q EE c.s:=
 evo Gx r V R t e fun v c₁ g p=>by
  obtain ⟨M',g',rr⟩:=g.thaw R p
  exact hQ v ⟨c₁.s,M',c₁.vs⟩ g' rr
section
variable {o:Own} (hP:∀v c',Ge φ loc σ c σ' c'→Dv c loc σ' c' o d v→Q v c'.s)
include ev Gx r V R hP
theorem Yg{es:List E}{pes:List Expr}{p:Pos}(t:TrL (TrE lv) S es pes)(e:Av F (.list es) σ=some (o,d,σ')):wpAny (model prog w) A (eval (.List pes p) env) Q EE c.s:=by
 obtain ⟨⟨ds,σ₁⟩,h1,e⟩:=bs e
 obtain ⟨hz,e⟩:=Cd e
 obtain ⟨rfl,rfl,rfl⟩:=pm3 e
 refine List_ ?_
 rw [Ba t]
 refine H0 ev Gx r V R t h1 fun vs c₁ g₁ r₁=>wpAny_newList ?_ (by rw [r₁.len,sizeLine_eq];rw [Aw] at hz;lia)
 obtain ⟨c₂,e₂,g₂,p₂⟩:=Nz g₁ r₁ hz
 have:=hP _ c₂ g₂ p₂
 rw [e₂] at this;exact this
omit ev in
theorem U6{p:Pos}(e:Av F .Ahr σ=some (o,d,σ')):wpAny (model prog w) A (eval (.Dict [] [] p) env) Q EE c.s:=by
 obtain ⟨rfl,rfl,rfl⟩:=Ac0 e
 refine wpAny_Dict_empty ?_
 have gr:=Aip.push R.Ahd { cls:=.type "dict",data:=.dict #[] } rfl
 have hn:=A9 c.s.heap
 refine hP _ ⟨_,_,c.vs⟩ ((Ge.refl R).grow gr) ⟨.Ahe (.inr rfl) ?_ (kvs:=[]) ?_ .nil,fun a q=>?_⟩
 ·exact Gx.size R
 ·exact Heap.DictOf.new _
 ·obtain rfl:=Value.ref.inj q;exact ⟨hn,Aa.ne R hn⟩
theorem U7{e₁:E}{x:Str}{q p:Pos}{pe:Expr}(hb:Cx S "list" = true)(hx:x = "list")(t:TrE lv S e₁ pe)(e:Av F (.bi .list [e₁]) σ=some (o,d,σ')) :
  wpAny (model prog w) A (eval (.Call (.Name x q) [pe] [] p) env) Q EE c.s:=by
 subst hx
 obtain ⟨⟨a,σ₁⟩,h1,e⟩:=bs e
 obtain ⟨d',h2,e⟩:=ms e
 obtain ⟨rfl,rfl,rfl⟩:=pm3 e
 refine Call_ (B4 Gx V R hb Ace ?_)
 refine Pv.callWith_type1 ?_ (Ah t _)
 rw [Ba (.cons t .nil)]
 refine Calls.spliced_cons (ev Gx r V R t h1 fun v c₁ g₁ r₁=>Calls.spliced_nil ?_)
 induction a using D.casesOn with
 |rng ia ib ic=>
  obtain ⟨ra,it,iu,iv,rfl,hm,hr⟩:=r₁.inv
  refine N1 g₁.go.rep.Ahd r.1 (.rng hm hr) h2 fun vs n s' x hn hl rl hd hz=>?_
  subst hd
  have hsz:c₁.s.heap.objs.size=c₁.s.heap.objs.size:=rfl
  have gr:Aip c₁.s c₁.M s' (fun b=>c₁.M b∨b=c₁.s.heap.objs.size):=by
   refine ⟨x,fun b m=>.inl m,fun b m=>?_,fun b m=>?_⟩
   ·rcases m with m | rfl
    ·exact .inl m
    ·exact .inr hn
   ·rcases m with m | rfl
    ·exact x.Ahd g₁.go.rep.Ahd b m
    ·exact ⟨_,hl⟩
  exact hP _ ⟨s',_,c₁.vs⟩ (g₁.grow gr) ⟨.list (.inr rfl) (vs:=vs.toList) (by simpa using hl) (Mine.IntsAre.real (rl.ints (Qr _))) hz,fun a q=>by obtain rfl:=Value.ref.inj q;exact ⟨g₁.go.Ain _ hn,Aa.ne (c:=c₁) g₁.go.rep hn⟩⟩
 |_=>exact nos h2
end
section
variable {b:Bool} {Q:Bool→Shared→Prop} (hB:∀c',Ge φ loc σ c σ' c'→Q b c'.s)
include evt Gx r V R hB
theorem Abi{e₁:E}{pe:Expr}{p:Pos}{wh:Sem Value}(t:TrT (TrE lv) S e₁ pe)(e:Fs F (.not e₁) σ=some (b,σ')):wpAny (model prog w) A (isTrue (.UnaryOp .Not pe p) env wh) Q EE c.s:=by
 obtain ⟨⟨b',σ₁⟩,h1,e⟩:=ms e
 obtain ⟨rfl,rfl⟩:=Prod.mk.inj e
 exact wpAny_isTrue_Not (evt Gx r V R t h1 fun c₁ g₁=>hB c₁ g₁)
end
include evt Gx r V in
theorem Acl{Q:Bool→Shared→Prop}:∀ {es:List E} {pes:List Expr} {σ:St} {c:Cf} {b:Bool} {σ':St} (R:Rep φ loc σ c) (t:Ahx (TrE lv) S es pes) (h:G9 F es σ=some (b,σ')) (hB:∀c',Ge φ loc σ c σ' c'→Q b c'.s),
  wpAny (model prog w) A (allTrue .And pes env) Q EE c.s:=by
 intro es
 induction es with
 |nil=>intro pes σ c b σ' R t h hB;obtain rfl:=t.inv;obtain ⟨rfl,rfl⟩:=As h;exact wpAny_allTrue_And_nil (hB c (.refl R))
 |cons e es ih=>
  intro pes σ c b σ' R t h hB
  replace t:=t.inv;obtain ⟨_,_,rfl,t,ts⟩:=t
  obtain ⟨⟨b₁,σ₁⟩,h1,h⟩:=bs h
  induction b₁ using Bool.casesOn with
  |true=>
   exact wpAny_allTrue_And_cons (evt Gx r V R t h1 fun c₁ g₁=>ih g₁.go.rep ts h fun c₂ g₂=>hB c₂ (g₁.trans g₂))
  |false=>
   obtain ⟨rfl,rfl⟩:=As h
   exact wpAny_allTrue_And_cons (evt Gx r V R t h1 fun c₁ g₁=>hB c₁ g₁)
include evt Gx r V in
theorem Acj{Q:Bool→Shared→Prop}:∀ {es:List E} {pes:List Expr} {σ:St} {c:Cf} {b:Bool} {σ':St} (R:Rep φ loc σ c) (t:Ahx (TrE lv) S es pes) (h:Ly F es σ=some (b,σ')) (hB:∀c',Ge φ loc σ c σ' c'→Q b c'.s),
  wpAny (model prog w) A (allTrue .Or pes env) Q EE c.s:=by
 intro es
 induction es with
 |nil=>intro pes σ c b σ' R t h hB;obtain rfl:=t.inv;obtain ⟨rfl,rfl⟩:=As h;exact wpAny_allTrue_Or_nil (hB c (.refl R))
 |cons e es ih=>
  intro pes σ c b σ' R t h hB
  replace t:=t.inv;obtain ⟨_,_,rfl,t,ts⟩:=t
  obtain ⟨⟨b₁,σ₁⟩,h1,h⟩:=bs h
  induction b₁ using Bool.casesOn with
  |true=>
   obtain ⟨rfl,rfl⟩:=As h
   exact wpAny_allTrue_Or_cons (evt Gx r V R t h1 fun c₁ g₁=>hB c₁ g₁)
  |false=>
   exact wpAny_allTrue_Or_cons (evt Gx r V R t h1 fun c₁ g₁=>ih g₁.go.rep ts h fun c₂ g₂=>hB c₂ (g₁.trans g₂))
end
end Mine
end
section
open PySem PySem.W PyProof.Rows
set_option autoImplicit false
namespace Mine
theorem Lm{F:Ahl}{e:E}{r:List E}{σ σ₁ σ':St}{d:D}{ds:List D}(h1:F.ev e σ=some (d,σ₁))(h2:evs F r σ₁=some (ds,σ')):evs F (e :: r) σ=some (d :: ds,σ'):=by
 rw [Dm,h1];exact congrArg (Option.map fun q:List D×St=>(d :: q.1,q.2)) h2
theorem argsF{F:Ahl}{as:List E}{σ σ':St}{ss:List Slot}(h:Fe F false as σ=some (ss,σ')):∃ds,evs F as σ=some (ds,σ')∧ss=ds.map fun d=>(Own.sh,d):=by
 induction as generalizing σ ss with
 |nil=>obtain ⟨rfl,rfl⟩:=As h;exact ⟨[],rfl,rfl⟩
 |cons e r ih=>induction r using List.casesOn with
  |nil=>
   obtain ⟨⟨d,σ₁⟩,h1,h⟩:=ms h
   obtain ⟨rfl,rfl⟩:=Prod.mk.inj h
   exact ⟨[d],Lm h1 rfl,rfl⟩
  |cons e' r=>
   obtain ⟨⟨d,σ₁⟩,h1,h⟩:=bs h
   obtain ⟨⟨ss',σ₂⟩,h2,h⟩:=ms h
   obtain ⟨rfl,rfl⟩:=Prod.mk.inj h
   obtain ⟨ds,h3,rfl⟩:=ih h2
   exact ⟨d :: ds,Lm h1 h3,rfl⟩
theorem Xm{e:E}{σ σ':St}{ss:List Slot}(h:lend e σ=some (ss,σ')):Ex2 fun i d=>And4 (e=.var i) (σ.get i=some (.own,d)) (ss=[(.bor,d)]) (σ'=σ):=by
 induction e using E.casesOn with
 |var i=>
  obtain ⟨d,h1,h⟩:=ms h
  obtain ⟨rfl,rfl⟩:=Prod.mk.inj h
  exact ⟨i,d,rfl,Ny h1,rfl,rfl⟩
 |_=>exact nos h
theorem argsT{F:Ahl}{as:List E}{σ σ':St}{ss:List Slot}(n:as≠[])(h:Fe F true as σ=some (ss,σ')) :
  Ex4 fun init i ds d=>And4 (as=init++[.var i]) (evs F init σ=some (ds,σ')) (σ'.get i=some (.own,d)) (ss=(ds.map fun d=>(Own.sh,d))++[(.bor,d)]):=by
 induction as generalizing σ ss with
 |nil=>exact absurd rfl n
 |cons e r ih=>induction r using List.casesOn with
  |nil=>
   obtain ⟨i,d,rfl,h1,rfl,rfl⟩:=Xm h
   exact ⟨[],i,[],d,rfl,rfl,h1,rfl⟩
  |cons e' r=>
   obtain ⟨⟨d,σ₁⟩,h1,h⟩:=bs h
   obtain ⟨⟨ss',σ₂⟩,h2,h⟩:=ms h
   obtain ⟨rfl,rfl⟩:=Prod.mk.inj h
   obtain ⟨init,i,ds,d',ea,h3,h4,rfl⟩:=ih (List.cons_ne_nil _ _) h2
   exact ⟨e :: init,i,d :: ds,d',congrArg (e :: ·) ea,Lm h1 h3,h4,rfl⟩
theorem Zb(init:List E)(i:Nat)(o:Own)(d:D)(σ:St):Tt (init++[.var i]) (some (o,d)) σ=some (σ.put i (.own,d)):=by
 induction init with
 |nil=>rfl
 |cons e r ih=>induction r using List.casesOn with | nil=>rfl | cons _ _=>exact ih
section
variable {lv:Nat} {F:Ahl} {n:Nat} {φ:Fx} {loc:Bl} {σ σ':St} {c:Cf} {S:Sx} {env:Env} {A:Around} {EE:Value→Shared→Prop} {Q:Value→Shared→Prop} {d:D}
theorem TrL.split{init:List E}{i:Nat}{pes:List Expr}(t:TrL (TrE lv) S (init++[.var i]) pes):Ex3 fun pinit x q=>And4 (pes=pinit++[.Name x q]) (TrL (TrE lv) S init pinit) (S.vars.lookup x=some i) (Cq x=true):=by
 induction init generalizing pes with
 |nil=>
  obtain ⟨pe,r,rfl,u,ts⟩:=t.inv
  obtain rfl:=ts.inv
  obtain ⟨x,p,rfl,h1,h2⟩:=u.var_inv
  exact ⟨[],x,p,rfl,.nil,h1,h2⟩
 |cons e init ih=>
  obtain ⟨pe,r,rfl,u,ts⟩:=t.inv
  obtain ⟨pinit,x,q,rfl,h1,h2,h3⟩:=ih ts
  exact ⟨pe :: pinit,x,q,rfl,.cons u h1,h2,h3⟩
theorem Args.sh{h:Heap}{k:Tok}{M X:Addr→Prop}{vs:List Value}{ds:List D}(r:Ag8 h k M vs ds):Args h k M X vs (ds.map fun d=>(Own.sh,d)):=by
 induction r using Ag8.ind with | nil=>exact .nil | cons _ _ _ _ a r ih=>exact .cons a ih
theorem Args.shb{h:Heap}{k:Tok}{M X:Addr→Prop}{a:Addr}{d:D}(o:Ahh h k M (.ref a) d)(hX:X a){vs:List Value}{ds:List D}(r:Ag8 h k M vs ds):Args h k M X (vs++[.ref a]) ((ds.map fun d=>(Own.sh,d))++[(.bor,d)]):=by
 induction r using Ag8.ind with | nil=>exact .bor o hX | cons _ _ _ _ a r ih=>exact .cons a ih
variable (ev:D8 F n) (call:Oo F n) (fa:∀hT,K hT→∀a ss r,F.call a ss=some r→Acs hT a)
 (Gx:Gl φ.hT) (r:Da n A) (V:Ahk φ S loc env) (R:Rep φ loc σ c)
theorem Rep.topKeep(R:Rep φ loc σ c):∀b o,φ.hT.get? b=some o→c.s.heap.get? b=some o:=fun b o e=>by
 refine R.top _ o (R.fx.top _ o e) fun hX=>?_
 rw [R.fx.out _ (R.fx.sub _ hX)] at e;exact nos e
theorem Rep.topOut(R:Rep φ loc σ c):∀b,c.M b→φ.hT.get? b=none:=fun b m=>by
 rcases R.old b m with q | q
 ·exact R.fx.out b q
 ·cases e:φ.hT.get? b with
  |none=>rfl
  |some o=>rw [R.fx.top b o e] at q;exact nos q.symm
include ev Gx r V in
theorem Yd{Q:List Value→Shared→Prop}{tail:Sem Value}:∀ {es:List E} {pes:List Expr} {σ:St} {c:Cf} {ds:List D} {σ':St} (R:Rep φ loc σ c) (t:TrL (TrE lv) S es pes) (h:evs F es σ=some (ds,σ'))
  (hQ:∀vs c',Ge φ loc σ c σ' c'→Ag8 c'.s.heap c'.s.toks c'.M vs ds→wpAny (model prog w) A tail (fun v s'=>Q (vs++[v]) s') EE c'.s),
  wpAny (model prog w) A (spliced ((pes.map fun pe=>(false,eval pe env))++[(false,tail)])) Q EE c.s:=by
 intro es
 induction es generalizing Q with
 |nil=>
  intro pes σ c ds σ' R t h hQ
  obtain rfl:=t.inv;obtain ⟨rfl,rfl⟩:=As h
  exact Calls.spliced_cons (wpAny_mono (hQ [] c (.refl R) .nil) (fun v s' q=>Calls.spliced_nil q) fun ζ ζ e=>e)
 |cons e es ih=>
  intro pes σ c ds σ' R t h hQ
  replace t:=t.inv;obtain ⟨_,_,rfl,t,ts⟩:=t
  obtain ⟨⟨d,σ₁⟩,h1,h⟩:=bs h
  obtain ⟨⟨ds,σ₂⟩,h2,h⟩:=ms h
  obtain ⟨rfl,rfl⟩:=Prod.mk.inj h
  exact Calls.spliced_cons (ev Gx r V R t h1 fun v c₁ g₁ r₁=>ih g₁.go.rep ts h2 fun vs c₂ g₂ r₂=>hQ _ _ (g₁.trans g₂) (.cons (g₂.go.real r₁) r₂))
include ev call fa Gx r V R in
theorem Abo{f a:E}{as:List E}{x:Str}{q p:Pos}{Ahp:List Expr}{io:Bool}(hQ:∀v c',Ge φ loc σ c σ' c'→Ahb c'.s.heap c'.s.toks c'.M v d→Q v c'.s)
  (tf:TrE lv S f (.Name x q)) (ta:TrL (TrE lv) S (a :: as) Ahp) (hl:decide (Ahp.length≤30)=true) (e:Ab F (.call f (a :: as) io) σ=some (d,σ')) :
  wpAny (model prog w) A (eval (.Call (.Name x q) Ahp [] p) env) Q EE c.s:=by
 obtain ⟨⟨fd₀,σ₁⟩,h1,e⟩:=bs e
 obtain ⟨ad,h0,e⟩:=bs e
 obtain ⟨⟨ss,σ₂⟩,h2,e⟩:=bs e
 obtain ⟨⟨d',back⟩,h3,e⟩:=bs e
 obtain rfl:=fn_is h0
 refine Call_ (ev Gx r V R tf h1 fun v c₁ g₁ r₁=>?_)
 obtain ⟨eo,rfl,nm,_⟩:=r₁.inv
 obtain ⟨o,fd,eT,hfd⟩:=fa φ.hT Gx.k _ _ _ h3
 have len:∀ {es:List E} {pes:List Expr},TrL (TrE lv) S es pes→pes=[]→es=[]:=fun {es pes} t h=>by
  induction es using List.casesOn with
  |nil=>rfl
  |cons _ _=>obtain ⟨_,_,e,_⟩:=t.inv;exact absurd (e.symm.trans h) (List.cons_ne_nil _ _)
 have bt:=Ba (env:=env) ta p
 have run:wpAny (model prog w) A (spliced (backTo p (starEach Ahp env))) (fun vs s₁=>s₁.heap.get? ad=some o∧wpAny (model prog w) A (PySem.call (.ref ad) vs) Q EE s₁) EE c₁.s:=by
  rw [bt]
  induction io using Bool.casesOn with
  |false=>
   obtain ⟨ds,h4,rfl⟩:=argsF h2
   obtain ⟨rfl,rfl⟩:=As e
   refine H0 ev Gx r V g₁.go.rep ta h4 fun vs c₂ g₂ r₂=>⟨g₂.go.rep.topKeep _ _ eT,?_⟩
   refine call (M:=c₂.M) (X:=fun ζ=>False) Gx r g₂.go.rep.pos g₂.go.rep.topKeep g₂.go.rep.topOut (fun ζ f=>f.elim) g₂.go.rep.Ahd (fun ζ f=>f.elim) (Args.sh r₂) h3 fun v s' M' st tk gn os sy S' up rv ζ=>?_
   have ext:Ext c₂.s s':=⟨fun b ob eb=>by
    by_cases m:c₂.M b
    ·exact (st.pend b ob m (fun f=>f) eb).1
    ·exact st.keep b ob m eb,gn,os,tk⟩
   exact hQ v ⟨s',M',c₂.vs⟩ ((g₁.trans g₂).grow ⟨ext,up,st.old,S'⟩) rv
  |true=>
   obtain ⟨init,i,ds,dl,ea,h4,h5,rfl⟩:=argsT (List.cons_ne_nil _ _) h2
   rw [ea] at ta e
   obtain ⟨pinit,x,q,rfl,ti,hx,hn⟩:=ta.split
   rw [List.map_append]
   refine Yd ev Gx r V g₁.go.rep ti h4 fun vs c₂ g₂ r₂=>?_
   refine wpAny_Name (Ee V g₂.go.rep hx h5 (Bj hn).2 ⟨g₂.go.rep.topKeep _ _ eT,?_⟩) (Bj hn).1
   obtain ⟨L,hL,has,sl⟩:=g₂.go.rep.vals i _ _ h5
   obtain ⟨ra,ro,va,mr,er⟩:=sl.1.ref
   have sl1:=sl.1
   rw [va] at sl1 ⊢
   refine call (M:=c₂.M) (X:=fun b=>b=ra) Gx r g₂.go.rep.pos g₂.go.rep.topKeep g₂.go.rep.topOut (fun b q=>q ▸ mr) g₂.go.rep.Ahd (fun b q=>by subst q;simp) (Args.shb (X:=fun b=>b=ra) sl1 rfl r₂) h3 fun v s' M' st tk gn os sy S' up rv hb=>?_
   obtain ⟨o',dr,rfl,orr⟩:=hb ra dl (by simp) (by simp)
   obtain ⟨σ₃,h6,e⟩:=ms e
   obtain ⟨rfl,rfl⟩:=Prod.mk.inj e
   obtain rfl:=Ag ((Zb ..).symm.trans h6)
   have a1:At1 ra c₂.s s':=⟨fun b ob hb eb=>by
    by_cases m:c₂.M b
    ·exact (st.pend b ob m hb eb).1
    ·exact st.keep b ob m eb,by obtain ⟨a',o',q,_,e'⟩:=orr.ref;obtain rfl:=Value.ref.inj q;exact ⟨o',e'⟩,gn,os,tk⟩
   have go:=g₂.go.rep.root (i:=i) h5 (by decide) va a1 up st.old S' orr
   exact hQ v ⟨s',M',c₂.vs⟩ ((g₁.trans g₂).trans ⟨go,fun ζ ζ ζ=>rfl⟩) rv
 obtain ⟨_,_,rfl,t,ts⟩:=ta.inv
 exact callWith_def hfd run (Ah t _)
end
end Mine
end
section
open PySem PySem.W PyProof.Rows
set_option autoImplicit false
namespace Mine
structure Gy(φ:Fx)(Y:Addr→Prop)(loc:Bl)(σ:St)(c:Cf)(loc':Bl)(σ':St)(c':Cf):Prop where
 rep:Rep φ loc' σ' c'
 step:Step c.s.heap c.M (fun b=>Aa loc σ c.vs b∨Y b) c'.s.heap c'.M (fun b=>Aa loc' σ' c'.vs b∨Y b)
 toks:c.s.toks≤c'.s.toks
 gens:c'.s.gens=c.s.gens
 os:c'.s.os=c.s.os
 Ain:∀b,c'.s.heap.get? b=none→c.s.heap.get? b=none
structure AtP(P:Addr→Prop)(s s':Shared):Prop where
 keep:∀b o,¬P b→s.heap.get? b=some o→s'.heap.get? b=some o
 gens:s'.gens=s.gens
 os:s'.os=s.os
 toks:s.toks≤s'.toks
theorem AtP.step{P:Addr→Prop}{s s':Shared}{M M':Addr→Prop}(x:AtP P s s')(hP:∀b,P b→M b)(sub:∀b,M' b→M b)(up:∀b,M b→¬P b→M' b):Step s.heap M P s'.heap M' P:=
 ⟨fun b o n e=>x.keep b o (fun p=>n (hP b p)) e,fun b o m n e=>⟨x.keep b o n e,up b m n⟩,fun b m=>.inl (sub b m),fun b t=>.inl t⟩
section
variable {φ:Fx} {loc loc' loc₁ loc₂ loc₃:Bl} {Y:Addr→Prop} {σ σ' σ₁ σ₂ σ₃:St} {c c' c₁ c₂ c₃:Cf}
theorem Go.y(g:Go φ loc σ c loc' σ' c'):Gy φ Y loc σ c loc' σ' c':=
 ⟨g.rep,⟨g.step.keep,fun b o m t e=>g.step.pend b o m (fun q=>t (.inl q)) e,g.step.old,fun b t=>by
  rcases t with t | t
  ·rcases g.step.Aiq b t with q | q
   ·exact .inl (.inl q)
   ·exact .inr q
  ·exact .inl (.inr t)⟩,g.toks,g.gens,g.os,g.Ain⟩
theorem Gy.go(g:Gy φ Y loc σ c loc' σ' c')(h:∀b,¬Y b):Go φ loc σ c loc' σ' c':=
 ⟨g.rep,⟨g.step.keep,fun b o m t e=>g.step.pend b o m (fun q=>q.elim t (h b)) e,g.step.old,fun b t=>by
  rcases g.step.Aiq b (.inl t) with q | q
  ·rcases q with q | q
   ·exact .inl q
   ·exact absurd q (h b)
  ·exact .inr q⟩,g.toks,g.gens,g.os,g.Ain⟩
theorem Gy.trans(x:Gy φ Y loc₁ σ₁ c₁ loc₂ σ₂ c₂)(y:Gy φ Y loc₂ σ₂ c₂ loc₃ σ₃ c₃):Gy φ Y loc₁ σ₁ c₁ loc₃ σ₃ c₃:=
 ⟨y.rep,x.step.trans y.step,Nat.le_trans x.toks y.toks,y.gens.trans x.gens,y.os.trans x.os,fun b e=>x.Ain b (y.Ain b e)⟩
theorem Gy.real(x:Gy φ Y loc₁ σ₁ c₁ loc₂ σ₂ c₂){v:Value}{d:D}(r:Ahb c₁.s.heap c₁.s.toks c₁.M v d):Ahb c₂.s.heap c₂.s.toks c₂.M v d:=r.mono x.step x.toks
theorem Gy.realL(x:Gy φ Y loc₁ σ₁ c₁ loc₂ σ₂ c₂){v:List Value}{d:List D}(r:Ag8 c₁.s.heap c₁.s.toks c₁.M v d):Ag8 c₂.s.heap c₂.s.toks c₂.M v d:=r.mono x.step x.toks
theorem Rep.pend(R:Rep φ loc σ c){P M':Addr→Prop}{s':Shared}(hM:∀b,P b→c.M b)(hn:∀b,P b→φ.h₀.get? b=none)(hT:∀b,P b→¬Aa loc σ c.vs b)(x:AtP P c.s s')
  (sub:∀b,M' b→c.M b) (up:∀b,c.M b→¬P b→M' b) (hS:Bc s'.heap M'):Rep φ loc σ ⟨s',M',c.vs⟩ where
 fx:=R.fx
 len:=R.len
 top:=fun b o e n=>x.keep b o (fun p=>by rw [hn b p] at e;exact nos e) (R.top b o e n)
 sup:=fun b m=>up b (R.sup b m) fun p=>by
  obtain ⟨o,e⟩:=R.fx.Ahd b m
  rw [hn b p] at e;exact nos e
 old:=fun b m=>R.old b (sub b m)
 Ahd:=hS
 pos:=Nat.lt_of_lt_of_le R.pos x.toks
 locs:=fun i L e=>by
  obtain ⟨a,b,d,f⟩:=R.locs i L e
  have np:¬P L.addr:=fun p=>hT _ p (.inl ⟨i,L,e,rfl⟩)
  exact ⟨Loc.Ait a fun o=>x.keep _ o np,up _ b np,d,f⟩
 vals:=fun i o d e=>by
  obtain ⟨L,a,b,r⟩:=R.vals i o d e
  refine ⟨L,a,Loc.Aio b fun o=>x.keep _ o fun p=>hT _ p (.inl ⟨i,L,a,rfl⟩),?_⟩
  have st:=x.step hM sub up
  induction o using Own.casesOn with
  |sh=>exact Ahb.mono st x.toks r
  |own=>
   have np:∀a,c.vs i=.ref a→¬P a:=fun a q p=>hT _ p (.inr ⟨i,_,_,e,by decide,q⟩)
   exact ⟨Ahh.mono' st x.toks r.1 (fun a o q=>x.keep a o (np a q)) (fun a q m=>up a m (np a q)),r.2⟩
  |bor=>
   have np:∀a,c.vs i=.ref a→¬P a:=fun a q p=>hT _ p (.inr ⟨i,_,_,e,by decide,q⟩)
   exact ⟨Ahh.mono' st x.toks r.1 (fun a o q=>x.keep a o (np a q)) (fun a q m=>up a m (np a q)),r.2⟩
 inj:=R.inj
 Air:=R.Air
 apart:=R.apart
theorem Gy.pend(g:Gy φ Y loc₁ σ₁ c₁ loc σ c)(R₁:Rep φ loc₁ σ₁ c₁){P M':Addr→Prop}{s':Shared}(hM:∀b,P b→c.M b)(hn:∀b,P b→c₁.s.heap.get? b=none)(hT:∀b,P b→¬Aa loc σ c.vs b)(x:AtP P c.s s')
  (sub:∀b,M' b→c.M b) (up:∀b,c.M b→¬P b→M' b) (hS:Bc s'.heap M') :
  Gy φ Y loc₁ σ₁ c₁ loc σ ⟨s',M',c.vs⟩:=by
 have np:∀b o,c₁.s.heap.get? b=some o→¬P b:=fun b o e p=>by rw [hn b p] at e;exact nos e
 refine ⟨g.rep.pend hM (fun b p=>R₁.fresh (hn b p)) hT x sub up hS,
  ⟨fun b o m e=>x.keep b o (np b o e) (g.step.keep b o m e),fun b o m t e=>⟨x.keep b o (np b o e) (g.step.pend b o m t e).1,up b (g.step.pend b o m t e).2 (np b o e)⟩,fun b m=>g.step.old b (sub b m),g.step.Aiq⟩,
  Nat.le_trans g.toks x.toks,x.gens.trans g.gens,x.os.trans g.os,fun b e=>?_⟩
 by_cases p:P b
 ·exact hn b p
 ·refine g.Ain b ?_
  cases q:c.s.heap.get? b with
  |none=>rfl
  |some o=>have e':s'.heap.get? b=none:=e;rw [x.keep b o p q] at e';exact nos e'.symm
theorem Gy.chg(R:Rep φ loc σ c){a:Addr}{s':Shared}(hY:Y a)(hM:c.M a)(hn:φ.h₀.get? a=none)(hT:¬Aa loc σ c.vs a)(x:AtP (fun b=>b=a) c.s s'){o:Obj}(hs:s'.heap.get? a=some o) :
  Gy φ Y loc σ c loc σ ⟨s',c.M,c.vs⟩:=by
 have S':Bc s'.heap c.M:=fun b m=>by
  by_cases q:b=a
  ·exact ⟨o,q ▸ hs⟩
  ·obtain ⟨o',e'⟩:=R.Ahd b m;exact ⟨o',x.keep b o' q e'⟩
 refine ⟨R.pend (P:=fun b=>b=a) (fun b p=>p ▸ hM) (fun b p=>p ▸ hn) (fun b p=>p ▸ hT) x (fun ζ m=>m) (fun ζ m ζ=>m) S',
  ⟨fun b o m e=>x.keep b o (fun p=>m (p ▸ hM)) e,fun b o m t e=>⟨x.keep b o (fun p=>t (.inr (p ▸ hY))) e,m⟩,fun b m=>.inl m,fun b t=>.inl t⟩,
  x.toks,x.gens,x.os,fun b e=>?_⟩
 have e':s'.heap.get? b=none:=e
 cases q:c.s.heap.get? b with
 |none=>rfl
 |some o'=>
  by_cases p:b=a
  ·rw [p,hs] at e';exact nos e'.symm
  ·rw [x.keep b o' p q] at e';exact nos e'.symm
theorem Rep.narrow(R:Rep φ loc' σ c)(hl:∀i L,loc i=some L→loc' i=some L)(hs:∀i s,σ'.get i=some s→σ.get i=some s∧∃L,loc i=some L)(len:σ'.length=σ.length):Rep φ loc σ' c where
 fx:=R.fx
 len:=len.trans R.len
 top:=R.top
 sup:=R.sup
 old:=R.old
 Ahd:=R.Ahd
 pos:=R.pos
 locs:=fun i L e=>by
  obtain ⟨a,b,d,f⟩:=R.locs i L (hl i L e)
  exact ⟨a,b,d,len ▸ f⟩
 vals:=fun i o d e=>by
  obtain ⟨e',L,hL⟩:=hs i _ e
  obtain ⟨L',a,b⟩:=R.vals i o d e'
  rw [hl i L hL] at a;obtain rfl:=Ag a
  exact ⟨L,hL,b⟩
 inj:=fun i j oi di oj dj ei ej=>R.inj i j oi di oj dj (hs i _ ei).1 (hs j _ ej).1
 Air:=fun i j L a b=>R.Air i j L (hl i L a) (hl j L b)
 apart:=fun i o d a e ho v j L hL=>R.apart i o d a (hs i _ e).1 ho v j L (hl j L hL)
theorem Nk{vs:Nat→Value}(hl:∀i L,loc i=some L→loc' i=some L)(hs:∀i s,σ'.get i=some s→σ.get i=some s∧∃L,loc i=some L){b:Addr}(t:Aa loc σ' vs b):Aa loc' σ vs b:=by
 rcases t with ⟨i,L,h,e⟩ | ⟨i,o,d,e,ho,v⟩
 ·exact .inl ⟨i,L,hl i L h,e⟩
 ·exact .inr ⟨i,o,d,(hs i _ e).1,ho,v⟩
end
end Mine
end
section
open PySem PySem.W PyProof.Rows
set_option autoImplicit false
namespace Mine
def Ic(T:String):Prop:=["enumerate","zip","dict_itemiterator","dict_reverseitemiterator","odict_iterator","itertools.zip_longest","itertools.pairwise"].contains T=false
inductive Ai4(h:Heap)(k:Tok)(M:Addr→Prop):(Addr→Prop)→Value→Bool→List D→Prop
 |lst {I l:Addr} {vs:List Value} {ds:List D} {n i:Nat}:M I→h.IsListIter I l i→¬M l→IsL h l vs.toArray n→Ag8 h k M vs ds→Ai4 h k M (fun b=>b=I) (.ref I) false (ds.drop i)
 |tup {I l:Addr} {vs:List Value} {ds:List D} {n i:Nat}:M I→h.IsTupleIter I l i→¬M l→IsT h l vs.toArray n→Ag8 h k M vs ds→Ai4 h k M (fun b=>b=I) (.ref I) false (ds.drop i)
 |rng {I:Addr} {x left step:Int}:M I→IsRangeIter h I x left step→Ai4 h k M (fun b=>b=I) (.ref I) false ((List.range left.toNat).map fun j:Nat=>.int (x+j * step))
 |str {I:Addr} {xs:List Nat} {t:Tok} {i:Nat}:M I→h.IsStrIter I "str_ascii_iterator" (mkS xs) t i→Ai4 h k M (fun b=>b=I) (.ref I) false ((xs.drop i).map fun c=>.str [c])
 |enum {e I l:Addr} {vs:List Value} {ds:List D} {n i:Nat} {old:Value}:M e→M I→e≠I→IsEnum h e I i old→h.IsListIter I l i→¬M l→IsL h l vs.toArray n→Ag8 h k M vs ds→
   Ai4 h k M (fun b=>b=e∨b=I) (.ref e) true (Iq i (ds.drop i))
section
variable {A:Around} {E:Value→Shared→Prop}
theorem Ai4.sub{h:Heap}{k:Tok}{M P:Addr→Prop}{v:Value}{en:Bool}{ds:List D}(x:Ai4 h k M P v en ds):∀b,P b→M b:=by
 induction x using Ai4.casesOn with
 |lst m=>intro b q;exact q ▸ m
 |tup m=>intro b q;exact q ▸ m
 |rng m=>intro b q;exact q ▸ m
 |str m=>intro b q;exact q ▸ m
 |enum m m'=>intro b q;rcases q with q | q <;> subst q <;> assumption
theorem Ai4.mono{h h':Heap}{k k':Tok}{M M' T T' P:Addr→Prop}{v:Value}{en:Bool}{ds:List D}(x:Ai4 h k M P v en ds)(st:Step h M T h' M' T')(lk:k≤k')(hP:∀b,P b→¬T b):Ai4 h' k' M' P v en ds:=by
 induction x using Ai4.casesOn with
 |lst m it nl l r=>
  obtain ⟨o,e,q⟩:=it
  obtain ⟨e',m'⟩:=st.pend _ _ m (hP _ rfl) e
  exact .lst m' ⟨o,e',q⟩ (st.out nl l) (st.keep _ _ nl l) (r.mono st lk)
 |tup m it nl l r=>
  obtain ⟨o,e,q⟩:=it
  obtain ⟨e',m'⟩:=st.pend _ _ m (hP _ rfl) e
  exact .tup m' ⟨o,e',q⟩ (st.out nl l) (st.keep _ _ nl l) (r.mono st lk)
 |rng m it=>
  obtain ⟨e',m'⟩:=st.pend _ _ m (hP _ rfl) it
  exact .rng m' e'
 |str m it=>
  obtain ⟨o,e,q⟩:=it
  obtain ⟨e',m'⟩:=st.pend _ _ m (hP _ rfl) e
  exact .str m' ⟨o,e',q⟩
 |enum m m2 ne en it nl l r=>
  obtain ⟨e1,m1'⟩:=st.pend _ _ m (hP _ (.inl rfl)) en
  obtain ⟨o,e,q⟩:=it
  obtain ⟨e',m'⟩:=st.pend _ _ m2 (hP _ (.inr rfl)) e
  exact .enum m1' m' ne e1 ⟨o,e',q⟩ (st.out nl l) (st.keep _ _ nl l) (r.mono st lk)
theorem F6{target:Expr}{I:Addr}{T:String}{fs:Array Value}{v:Value}{s:Shared}{Q:Unit→Shared→Prop}(hit:∃o,s.heap.get? I=some o∧o.cls=.type T∧o.data=.fields fs)(hT:Ic T)(h:Q () s) :
  wpAny (model prog w) A (letOwnedTupleGo target (.ref I) v) Q E s:=by
 obtain ⟨o,ho,hc,hd⟩:=hit
 have hT':=hT
 unfold Ic at hT'
 unfold letOwnedTupleGo
 cases target <;> first
  |exact wpAny_pure h
  |(cases v <;> first
    |exact wpAny_pure h
    |(refine wpAny_bind (wpAny_load ho ?_)
      rw [hc,hd]
      simp only [hT',Bool.false_and,Bool.false_eq_true,if_false]
      exact wpAny_pure h))
noncomputable def Ri:Expr→Bool
 |.Tuple ..=>true
 |_=>false
theorem Lb{s:Shared}{M P:Addr→Prop}{it:Value}{en:Bool}{ds:List D}{ptg:Expr}{Q:Option Value→Shared→Prop}(hh:A.handled=none)(S:Bc s.heap M)(x:Ai4 s.heap s.toks M P it en ds)(ht:en=true→Ri ptg=true)
  (item:∀d r v s₁,ds=d :: r→(∀(K:Unit→Shared→Prop) E',(∀s₂,AtP P s s₂→(∀b,P b→∃o,s₂.heap.get? b=some o)→Ahb s₂.heap s₂.toks M v d→Ai4 s₂.heap s₂.toks M P it en r→K () s₂)→wpAny (model prog w) A (letOwnedTupleGo ptg it v) K E' s₁)→Q (some v) s₁)
  (done:∀s₁,ds=[]→AtP P s s₁→Q none s₁):wpAny (model prog w) A (pyNext it) Q E s:=by
 induction x using Ai4.casesOn with
 |@lst I l vs ds n i m hit nl hl r=>
  cases hd:ds.drop i with
  |nil=>
   have hn:vs.toArray[i]? = none:=by
    have h1:ds.length≤i:=List.drop_eq_nil_iff.mp hd
    rw [← r.len] at h1;simpa using h1
   exact wpAny_pyNext_list_end hh hit hl.isList hn fun h' he=>done _ hd ⟨fun b o hb e=>he b o hb e,rfl,rfl,Nat.le_refl _⟩
  |cons d rest=>
   have h1:ds[i]? = some d:=by
    have:=congrArg (fun l=>l[0]?) hd
    simpa using this
   have h2:ds.drop (i+1)=rest:=by rw [← List.drop_drop,hd];rfl
   obtain ⟨v,hv,rv⟩:=r.get h1
   refine wpAny_pyNext_list_item hit hl.isList (x:=v) (by simpa using hv) fun h' hit' hs=>?_
   refine item d rest v _ hd fun K E' hK=>letGo_listiter hit' (hK _ ?_ ?_ ?_ ?_)
   ·exact ⟨fun b o hb e=>(hs.2 b hb).trans e,rfl,rfl,Nat.le_refl _⟩
   ·rintro b rfl;obtain ⟨o,e,_⟩:=hit';exact ⟨o,e⟩
   all_goals
    have st:Step s.heap M (fun b=>b=I) h' M (fun b=>b=I):=⟨fun b o n e=>(hs.2 b (fun q=>n (q ▸ m))).trans e,fun b o mb n e=>⟨(hs.2 b n).trans e,mb⟩,fun b mb=>.inl mb,fun b t=>.inl t⟩
   ·exact rv.mono st (Nat.le_refl _)
   ·rw [← h2];exact .lst m hit' nl (st.keep _ _ nl hl) (r.mono st (Nat.le_refl _))
 |@tup I l vs ds n i m hit nl hl r=>
  cases hd:ds.drop i with
  |nil=>
   have hn:vs.toArray[i]? = none:=by
    have h1:ds.length≤i:=List.drop_eq_nil_iff.mp hd
    rw [← r.len] at h1;simpa using h1
   exact wpAny_pyNext_tuple_end hh hit (IsT.isTuple' hl) hn fun h' he=>done _ hd ⟨fun b o hb e=>he b o hb e,rfl,rfl,Nat.le_refl _⟩
  |cons d rest=>
   have h1:ds[i]? = some d:=by
    have:=congrArg (fun l=>l[0]?) hd
    simpa using this
   have h2:ds.drop (i+1)=rest:=by rw [← List.drop_drop,hd];rfl
   obtain ⟨v,hv,rv⟩:=r.get h1
   refine wpAny_pyNext_tuple_item hit (IsT.isTuple' hl) (x:=v) (by simpa using hv) fun h' hit' hs=>?_
   refine item d rest v _ hd fun K E' hK=>F6 (T:= "tuple_iterator") (by obtain ⟨o,e,c,d⟩:=hit';exact ⟨o,e,c,d⟩) (by unfold Ic;decide +kernel) (hK _ ?_ ?_ ?_ ?_)
   ·exact ⟨fun b o hb e=>(hs.2 b hb).trans e,rfl,rfl,Nat.le_refl _⟩
   ·rintro b rfl;obtain ⟨o,e,_⟩:=hit';exact ⟨o,e⟩
   all_goals
    have st:Step s.heap M (fun b=>b=I) h' M (fun b=>b=I):=⟨fun b o n e=>(hs.2 b (fun q=>n (q ▸ m))).trans e,fun b o mb n e=>⟨(hs.2 b n).trans e,mb⟩,fun b mb=>.inl mb,fun b t=>.inl t⟩
   ·exact rv.mono st (Nat.le_refl _)
   ·rw [← h2];exact .tup m hit' nl (st.keep _ _ nl hl) (r.mono st (Nat.le_refl _))
 |@rng I x left step m hit=>
  by_cases hl:0<left
  ·refine wpAny_pyNext_range_item hit hl fun h' hit' hs=>?_
   have hd:((List.range left.toNat).map fun j:Nat=>D.int (x+j * step))=.int x :: ((List.range (left - 1).toNat).map fun j:Nat=>D.int (x+step+j * step)):=by
    obtain ⟨k,hk⟩ : ∃k,left.toNat=k+1:=Nat.exists_eq_add_one_of_ne_zero (Nat.ne_of_gt (Int.lt_toNat.mpr hl))
    rw [hk,List.range_succ_eq_map,List.map_cons,tn1 hk]
    congr 1
    ·simp
    ·rw [List.map_map];apply List.map_congr_left;intro j _;simp [Int.add_mul];lia
   refine item _ _ _ _ hd fun K E' hK=>F6 (T:= "range_iterator") ⟨_,hit',rfl,rfl⟩ (by unfold Ic;decide +kernel) (hK _ ?_ ?_ ?_ ?_)
   ·exact ⟨fun b o hb e=>(hs.2 b hb).trans e,rfl,rfl,Nat.le_succ _⟩
   ·rintro b rfl;exact ⟨_,hit'⟩
   ·exact .int _ _
   ·exact .rng m hit'
  ·refine wpAny_pyNext_range_end hh hit (by exact Int.not_lt.mp hl) fun h' he=>done _ ?_ ⟨fun b o hb e=>he b o hb e,rfl,rfl,Nat.le_refl _⟩
   rw [Int.toNat_of_nonpos (Int.not_lt.mp hl)];rfl
 |@str I xs t i m hit=>
  cases hd:xs.drop i with
  |nil=>
   have hn:(mkS xs).cps[i]? = none:=by
    have h1:xs.length≤i:=List.drop_eq_nil_iff.mp hd
    simpa [mkS] using h1
   exact wpAny_pyNext_ascii_end hh hit hn fun h' he=>done _ (by rw [hd];rfl) ⟨fun b o hb e=>he b o hb e,rfl,rfl,Nat.le_refl _⟩
  |cons cc rest=>
   have h1:xs[i]? = some cc:=by
    have:=congrArg (fun l=>l[0]?) hd
    simpa using this
   have h2:xs.drop (i+1)=rest:=by rw [← List.drop_drop,hd];rfl
   refine wpAny_pyNext_ascii_item hit (c:=cc) (by simpa [mkS] using h1) fun h' hit' hs=>?_
   refine item (.str [cc]) (rest.map fun c=>.str [c]) _ _ (by rw [hd];rfl) fun K E' hK=>F6 (T:= "str_ascii_iterator") (by obtain ⟨o,e,c,d⟩:=hit';exact ⟨o,e,c,d⟩) (by unfold Ic;decide +kernel) (hK _ ?_ ?_ ?_ ?_)
   ·exact ⟨fun b o hb e=>(hs.2 b hb).trans e,rfl,rfl,Nat.le_succ _⟩
   ·rintro b rfl;obtain ⟨o,e,_⟩:=hit';exact ⟨o,e⟩
   ·exact .str (s:=[cc]) _ (by rw [Aw];exact Nat.le_of_ble_eq_true rfl)
   ·rw [← h2];exact .str m hit'
 |@enum e I l vs ds n i old m m2 ne hen hit nl hl r=>
  cases hd:ds.drop i with
  |nil=>
   have hn:vs.toArray[i]? = none:=by
    have h1:ds.length≤i:=List.drop_eq_nil_iff.mp hd
    rw [← r.len] at h1;simpa using h1
   exact wpAny_pyNext_enum_end hh hen hit hl.isList hn fun h' he=>done _ (by rw [hd];rfl) ⟨fun b o hb ee=>he b o (fun q=>hb (.inr q)) ee,rfl,rfl,Nat.le_refl _⟩
  |cons d rest=>
   have h1:ds[i]? = some d:=by
    have:=congrArg (fun l=>l[0]?) hd
    simpa using this
   have h2:ds.drop (i+1)=rest:=by rw [← List.drop_drop,hd];rfl
   obtain ⟨v,hv,rv⟩:=r.get h1
   refine wpAny_pyNext_enum_item hen hit hl.isList (x:=v) (by simpa using hv) ne fun h' ho hit' htu hsz hk=>?_
   refine item (.tup [.int i,d]) (Iq (i+1) rest) _ _ (by rw [hd];rfl) fun K E' hK=>?_
   have htg:=ht rfl
   cases ptg <;> try ((first | exact absurd htg Bool.false_ne_true | cases htg);done)
   refine wpAny_letOwnedTupleGo_enum ho fun h'' he hs=>?_
   have es:e≠s.heap.objs.size:=fun q=>by have:=Heap.lt_size hen;rw [q] at this;exact Nat.lt_irrefl _ this
   have keep:∀b o,¬(b=e∨b=I)→s.heap.get? b=some o→h''.get? b=some o:=fun b o n ee=>(hs.2 b (fun q=>n (.inl q))).trans (hk b o (fun q=>n (.inl q)) (fun q=>n (.inr q)) ee)
   have hit2:Heap.IsListIter h'' I l (i+1):=by
    obtain ⟨o,e1,q⟩:=hit'
    exact ⟨o,(hs.2 I (fun q=>ne q.symm)).trans e1,q⟩
   have st:Step s.heap M (fun b=>b=e∨b=I) h'' M (fun b=>b=e∨b=I):=
    ⟨fun b o n ee=>keep b o (fun q=>by rcases q with q | q <;> subst q <;> exact n (by assumption)) ee,fun b o mb n ee=>⟨keep b o n ee,mb⟩,fun b mb=>.inl mb,fun b t=>.inl t⟩
   refine hK _ ⟨keep,rfl,rfl,Nat.le_succ _⟩ ?_ ?_ ?_
   ·rintro b (rfl | rfl)
    ·exact ⟨_,he⟩
    ·obtain ⟨o,e1,_⟩:=hit2;exact ⟨o,e1⟩
   ·exact .tup (vs:=[.int i s.toks,v]) (n:=0) S.fresh ((hs.2 _ es.symm).trans htu) (.cons (.int _ _) (.cons (rv.mono st (Nat.le_succ _)) .nil))
   ·rw [← h2]
    exact .enum m m2 ne (i:=i+1) he hit2 nl (st.keep _ _ nl hl) (r.mono st (Nat.le_succ _))
end
end Mine
end
section
open PySem PySem.W PyProof.Rows
set_option autoImplicit false
namespace Mine
section
variable {lv:Nat} {F:Ahl} {n:Nat} {φ:Fx} {loc:Bl} {σ σ':St} {c:Cf} {S:Sx} {env:Env} {A:Around} {EE:Value→Shared→Prop} {Q:Value→Shared→Prop} {d:D}
theorem La{s:Shared}{k:Tok}{M P:Addr→Prop}{it:Value}{en:Bool}{ds:List D}(x:Ai4 s.heap k M P it en ds)(h:Q it s):wpAny (model prog w) A (pyIter it) Q EE s:=by
 induction x using Ai4.casesOn with
 |lst m hit nl hl r=>exact wpAny_pyIter_listiter hit h
 |tup m hit nl hl r=>exact wpAny_pyIter_tupleiter hit h
 |rng m hit=>exact wpAny_pyIter_rangeiter hit h
 |str m hit=>exact wpAny_pyIter_striter_ascii hit h
 |enum m m2 ne hen hit nl hl r=>exact wpAny_pyIter_enum hen h
variable (ev:D8 F n) (Gx:Gl φ.hT) (r:Da n A) (V:Ahk φ S loc env) (R:Rep φ loc σ c)
include ev Gx r V R in
theorem Ih{it:E}{pit:Expr}{l:List D}(t:TrI (TrE lv) S it pit)(h:items F it σ=some (l,σ'))
  (hQ:∀itv c' P,Ge φ loc σ c σ' c'→Ai4 c'.s.heap c'.s.toks c'.M P itv (F7 it) l→(∀b,P b→c.s.heap.get? b=none∧¬Aa loc σ' c'.vs b)→Q itv c'.s) :
  wpAny (model prog w) A (eval pit env) (fun x s₁=>wpAny (model prog w) A (pyIter x) Q EE s₁) EE c.s:=by
 induction t using TrI.casesOn with
 |@enum e x q pe p hb hx t=>
  subst hx
  obtain ⟨⟨dl,σ₁⟩,h1,h⟩:=bs h
  obtain ⟨ds,h2,h⟩:=ms h
  obtain ⟨rfl,rfl⟩:=Prod.mk.inj h
  obtain rfl:=Rd h2
  refine Call_ (B4 Gx V R hb Acf ?_)
  refine Pv.callWith_type1 ?_ (Ah t _)
  rw [Ba (.cons t .nil)]
  refine Calls.spliced_cons (ev Gx r V R t h1 fun v c₁ g₁ r₁=>Calls.spliced_nil ?_)
  obtain ⟨a,vs,n',rfl,ma,la,ra,za⟩:=r₁.inv
  refine call_enumerate_list la.isList fun h' he hi hsz hk=>?_
  refine wpAny_pyIter_enum he ?_
  have hn:=A9 c₁.s.heap
  have hn1:c₁.s.heap.get? (c₁.s.heap.objs.size+1)=none:=by
   cases q:c₁.s.heap.get? (c₁.s.heap.objs.size+1) with
   |none=>rfl
   |some o=>exact absurd (show c₁.s.heap.objs.size+1<c₁.s.heap.objs.size from Heap.lt_size q) (Nat.not_lt.mpr (Nat.le_succ _))
  have gr:Aip c₁.s c₁.M { c₁.s with heap:=h' } (fun b=>c₁.M b∨(b=c₁.s.heap.objs.size+1∨b=c₁.s.heap.objs.size)):=by
   refine ⟨⟨hk,rfl,rfl,Nat.le_refl _⟩,fun b m=>.inl m,fun b m=>?_,fun b m=>?_⟩
   ·rcases m with m | rfl | rfl
    ·exact .inl m
    ·exact .inr hn1
    ·exact .inr hn
   ·rcases m with m | rfl | rfl
    ·obtain ⟨o,e⟩:=g₁.go.rep.Ahd b m;exact ⟨o,hk b o e⟩
    ·exact ⟨_,he⟩
    ·obtain ⟨o,e,_⟩:=hi;exact ⟨o,e⟩
  have st:=fun _:Nat=>gr.step (T:=fun ζ=>False) (T':=fun ζ=>False) (fun ζ t=>t.elim)
  refine hQ _ ⟨_,_,c₁.vs⟩ (fun b=>b=c₁.s.heap.objs.size+1∨b=c₁.s.heap.objs.size) (g₁.grow gr) ?_ ?_
  ·have:=Ai4.enum (k:=c₁.s.toks) (i:=0) (M:=fun b=>c₁.M b∨(b=c₁.s.heap.objs.size+1∨b=c₁.s.heap.objs.size)) (.inr (.inl rfl)) (.inr (.inr rfl)) (Nat.ne_of_gt (Nat.lt_succ_self _)) he hi ((st 0).out ma la) ((st 0).keep _ _ ma la) (ra.mono (st 0) (Nat.le_refl _))
   exact this
  ·rintro b (rfl | rfl)
   ·exact ⟨g₁.go.Ain _ hn1,Aa.ne (c:=c₁) g₁.go.rep hn1⟩
   ·exact ⟨g₁.go.Ain _ hn,Aa.ne (c:=c₁) g₁.go.rep hn⟩
 |@plain it pit t=>
  have hne:F7 it=false:=by obtain ⟨_,t⟩:=t.out;induction t using Ahv.casesOn <;> rfl
  obtain ⟨⟨d,σ₁⟩,h1,h⟩:=bs ((Ao hne).symm.trans h)
  obtain ⟨l,h2,h⟩:=ms h
  obtain ⟨rfl,rfl⟩:=Prod.mk.inj h
  rw [hne] at hQ
  refine ev Gx r V R t h1 fun v c₁ g₁ r₁=>?_
  have hn:=A9 c₁.s.heap
  have fin:∀(o:Obj),o.isFreed=false→(Ai4 (c₁.s.heap.push o) c₁.s.toks (fun b=>c₁.M b∨b=c₁.s.heap.objs.size) (fun b=>b=c₁.s.heap.objs.size) (.ref c₁.s.heap.objs.size) false l)→
    Q (.ref c₁.s.heap.objs.size) { c₁.s with heap:=c₁.s.heap.push o }:=fun o ho x=>
   hQ _ ⟨_,_,c₁.vs⟩ _ (g₁.grow (Aip.push g₁.go.rep.Ahd o ho)) x fun b q=>by subst q;exact ⟨g₁.go.Ain _ hn,Aa.ne (c:=c₁) g₁.go.rep hn⟩
  have st:∀(o:Obj),o.isFreed=false→Step c₁.s.heap c₁.M (fun ζ=>False) (c₁.s.heap.push o) (fun b=>c₁.M b∨b=c₁.s.heap.objs.size) (fun ζ=>False):=fun o ho=>(Aip.push g₁.go.rep.Ahd o ho).step (fun ζ t=>t.elim)
  induction d using D.casesOn with
  |str xs=>
   obtain ⟨t,rfl,hz⟩:=r₁.inv
   obtain ⟨ha,rfl⟩:=Cd h2
   refine wpAny_pyIter_ascii (by simpa [mkS,Mine.ascii] using ha) (fin _ rfl ?_)
   exact .str (i:=0) (t:=t) (.inr rfl) ⟨_,Heap.get?_push_size _ rfl,rfl,rfl⟩
  |list ds=>
   obtain ⟨ad,vs,n',rfl,ma,la,ra,za⟩:=r₁.inv
   obtain rfl:=Ag h2
   refine wpAny_pyIter_list la.isList (fin _ rfl ?_)
   have st:=fun q=>st { cls:=.type "list_iterator",data:=.fields #[.ref q,.int 0 0] } rfl
   exact .lst (i:=0) (ds:=ds) (.inr rfl) ⟨_,Heap.get?_push_size _ rfl,rfl,rfl⟩ ((st ad).out ma la) ((st ad).keep _ _ ma la) (ra.mono (st ad) (Nat.le_refl _))
  |tup ds=>
   obtain ⟨ad,vs,n',rfl,ma,la,ra⟩:=r₁.inv
   obtain rfl:=Ag h2
   refine wpAny_pyIter_tuple (IsT.isTuple' la) (fin _ rfl ?_)
   have st:=fun q=>st { cls:=.type "tuple_iterator",data:=.fields #[.ref q,.int 0 0] } rfl
   exact .tup (i:=0) (ds:=ds) (.inr rfl) ⟨_,Heap.get?_push_size _ rfl,rfl,rfl⟩ ((st ad).out ma la) ((st ad).keep _ _ ma la) (ra.mono (st ad) (Nat.le_refl _))
  |rng x y z=>
   obtain ⟨a,t,u,v,rfl,m,hr⟩:=r₁.inv
   obtain ⟨hs,rfl⟩:=Cd h2
   refine wpAny_pyIter_range hr (Jr _ _ _ hs) (fin _ rfl ?_)
   have:=Ai4.rng (k:=c₁.s.toks) (M:=fun b=>c₁.M b∨b=c₁.s.heap.objs.size) (h:=c₁.s.heap.push { cls:=.type "range_iterator",data:=.fields #[rawInt x,rawInt (Builtin.Range.rangeSize x y z),rawInt z] }) (I:=c₁.s.heap.objs.size) (x:=x) (left:=Builtin.Range.rangeSize x y z) (step:=z) (.inr rfl) (Heap.get?_push_size _ rfl)
   rw [show (Bx x y z).map D.int=(List.range (Builtin.Range.rangeSize x y z).toNat).map fun j:Nat=>.int (x+j * z) by rw [Bx,List.map_map];rfl]
   exact this
  |_=>exact nos h2
end
end Mine
end
section
open PySem PySem.W PyProof.Rows
set_option autoImplicit false
namespace Mine
theorem Ef{k:Option NameKind}(h:D4 k=true):k≠some .free:=by
 intro q;subst q;exact absurd h Bool.false_ne_true
section
variable {F:Ahl} {n:Nat} {φ:Fx} {loc:Bl} {σ σ' σ₀:St} {c c₀:Cf} {S:Sx} {env:Env} {A:Around} {EE:Value→Shared→Prop} {Q:Unit→Shared→Prop} {d:D}
def Cz(c₀:Cf)(loc:Bl)(σ:St)(c:Cf):List Slot→List Value→Prop
 |[],[]=>True
 |s :: ss,v :: vs=>Dv c₀ loc σ c s.1 s.2 v∧(∀(i:Nat) (s':Slot) (v':Value),ss[i]? = some s'→vs[i]? = some v'→s.1≠.sh→s'.1≠.sh→v≠v')∧Cz c₀ loc σ c ss vs
 |_,_=>False
theorem Dv.store{c':Cf}{i:Nat}{s:Slot}{v:Value}{o:Own}{d:D}{u:Value}(R:Rep φ loc σ c)(p:Dv c₀ loc σ c o d u)
  (hM:c'.M=c.M) (hv:c'.vs=fun j=>if j=i then v else c.vs j) (hk:∀b o,¬Aa loc σ c.vs b→c.s.heap.get? b=some o→c'.s.heap.get? b=some o) (tk:c.s.toks≤c'.s.toks)
  (hi:∃L,loc i=some L) (ne:s.1≠.sh→o≠.sh→v≠u):Dv c₀ loc (σ.put i s) c' o d u:=by
 have st:Step c.s.heap c.M (Aa loc σ c.vs) c'.s.heap c'.M (Aa loc σ c.vs):=by
  rw [hM]
  refine ⟨fun b ob m e=>hk b ob (fun t=>?_) e,fun b ob m t e=>⟨hk b ob t e,m⟩,fun b m=>.inl m,fun b t=>.inl t⟩
  rcases t with ⟨j,L,h,rfl⟩ | ⟨j,o',d',e',ho,va⟩
  ·exact m (R.locs j L h).2.1
  ·obtain ⟨L,_,_,sl⟩:=R.vals j _ _ e'
   obtain ⟨a',o',va',ma,_⟩:=(Du.root ho sl).ref
   rw [va] at va';obtain rfl:=Value.ref.inj va';exact m ma
 induction o using Own.casesOn with
 |sh=>exact Ahb.mono st tk p
 |bor=>exact p
 |own=>
  obtain ⟨rr,fr⟩:=p
  refine ⟨Ahh.mono' st tk rr (fun a o q e=>hk a o (fr a q).2 e) (fun a ζ m=>hM ▸ m),fun a q=>⟨(fr a q).1,fun t=>?_⟩⟩
  rcases t with t | ⟨j,o',d',e',ho,va⟩
  ·exact (fr a q).2 (.inl t)
  ·obtain ⟨L,hL⟩:=hi
   rw [St.Ag6 _ _ _ _ (R.locs i L hL).2.2.2] at e'
   rw [hv] at va
   dsimp only at va
   split at e'
   ·rename_i h
    obtain ⟨rfl,rfl⟩:=As e'
    rw [if_pos h] at va
    exact ne ho (by decide) (va.trans q.symm)
   ·rename_i h
    rw [if_neg h] at va
    exact (fr a q).2 (.inr ⟨j,o',d',e',ho,va⟩)
theorem Cz.store{c':Cf}{i:Nat}{s:Slot}{v:Value}(R:Rep φ loc σ c)(hM:c'.M=c.M)(hv:c'.vs=fun j=>if j=i then v else c.vs j)(hk:∀b o,¬Aa loc σ c.vs b→c.s.heap.get? b=some o→c'.s.heap.get? b=some o)(tk:c.s.toks≤c'.s.toks)
  (hi:∃L,loc i=some L):∀ {ss:List Slot} {vs:List Value},Cz c₀ loc σ c ss vs→(∀(j:Nat) (s':Slot) (v':Value),ss[j]? = some s'→vs[j]? = some v'→s.1≠.sh→s'.1≠.sh→v≠v')→Cz c₀ loc (σ.put i s) c' ss vs
 := by
 intro ss vs h ne
 induction ss,vs using Cj with
 |nn=>trivial
 |cc s' ss v' vs ih=>exact ⟨Dv.store R h.1 hM hv hk tk hi (ne 0 s' v' rfl rfl),h.2.1,ih h.2.2 fun j s'' v'' e1 e2=>ne (j+1) s'' v'' e1 e2⟩
 |nc=>exact h.elim
 |cn=>exact h.elim
theorem Fd{is:List Nat}{pes:List Expr}(t:TrN S is pes):(assignEach pes env).length=is.length∧(assignEach pes env).findIdx? (·.1)=none:=by
 induction t with
 |nil=>exact ⟨rfl,rfl⟩
 |cons h1 h2 ts ih=>
  obtain ⟨a,b⟩:=ih
  exact ⟨congrArg Nat.succ a,List.findIdx?_cons.trans (by rw [if_neg Bool.false_ne_true,b];rfl)⟩
theorem Jp(V:Ahk φ S loc env)(R₀:Rep φ loc σ₀ c₀):∀ {is:List Nat} {pes:List Expr} {ss:List Slot} {vs:List Value} {σ σ':St} {c:Cf} (g:Go φ loc σ₀ c₀ loc σ c) (t:TrN S is pes) (h:By is ss σ=some σ') (W:Cz c₀ loc σ c ss vs)
  (hQ:∀c',Go φ loc σ₀ c₀ loc σ' c'→(∀j,j∉is→c'.vs j=c.vs j)→Q () c'.s),wpAny (model prog w) A (assignInOrder ((assignEach pes env).map (·.2)) vs) Q EE c.s
 := by
 intro is pes ss vs σ σ' c g t
 induction t generalizing ss vs σ c with
 |nil=>
  intro h W hQ
  induction ss using List.casesOn with
  |cons _ _=>exact nos h
  |nil=>induction vs using List.casesOn with
   |cons _ _=>exact W.elim
   |nil=>
    obtain rfl:=Ag h
    exact wpAny_pure (hQ c g fun ζ ζ=>rfl)
 |@cons i x p is pes h1 h2 ts ih=>
  intro h W hQ
  induction ss using List.casesOn with
  |nil=>exact nos h
  |cons s ss=>induction vs using List.casesOn with
  |nil=>exact W.elim
  |cons v vs=>
  obtain ⟨L,hL,_⟩:=V.vars x i h1
  refine wpAny_bind (wpAny_holding (wpAny_assign_Name (Dh V R₀ g h1 (Ef h2) W.1 fun c' g' hM hv hk tk=>?_)))
  exact ih g' h (Cz.store g.rep hM hv hk tk ⟨L,hL⟩ W.2.2 W.2.1) fun c'' g'' hv'=>hQ c'' g'' fun j hj=>by
   rw [hv' j (fun m=>hj (List.mem_cons_of_mem _ m)),hv];exact if_neg (fun q:j=i=>hj (by rw [q];exact List.mem_cons_self))
theorem Cz.sh{ds:List D}{vs:List Value}(r:Ag8 c.s.heap c.s.toks c.M vs ds):Cz c₀ loc σ c (ds.map fun d=>(Own.sh,d)) vs:=by
 induction r using Ag8.ind with | nil=>trivial | cons _ _ _ _ a r ih=>exact ⟨a,fun ζ ζ ζ ζ ζ h=>absurd rfl h,ih⟩
theorem Hw:∀ {is:List Nat} {ss:List Slot} {σ σ':St},By is ss σ=some σ'→is.length=ss.length
 := by
 intro is ss σ σ' h
 induction is,ss using Cj generalizing σ with
 |nn=>rfl
 |cc i is s ss ih=>exact congrArg Nat.succ (ih h)
 |nc=>exact nos h
 |cn=>exact nos h
noncomputable def Ko:Tg→List Nat
 |.v i=>[i]
 |.t is=>is
theorem Gz(r:Da n A)(V:Ahk φ S loc env)(R:Rep φ loc σ c){tg:Tg}{ptg:Expr}{v:Value}(t:Ahw S tg ptg)(rv:Ahb c.s.heap c.s.toks c.M v d)(h:Cy tg d σ=some σ')
  (hQ:∀c',Go φ loc σ c loc σ' c'→(∀j,j∉Ko tg→c'.vs j=c.vs j)→Q () c'.s):wpAny (model prog w) A (assign ptg env v) Q EE c.s:=by
 induction t using Ahw.casesOn with
 |v h1 h2 h3=>
  obtain rfl:=Ag h
  exact wpAny_assign_Name (Dh (d:=d) (o:=.sh) V R (.refl R) h1 (Ef h2) rv fun c' g ζ hv ζ ζ=>hQ c' g fun j hj=>by rw [hv];exact if_neg (fun q=>hj (by rw [q];exact List.mem_cons_self)))
 |@t is _ _ _ hn ts=>
  induction d using D.casesOn with
  |tup ds=>
   rw [Zc] at h
   by_cases hq:is.length=ds.length
   ·rw [if_pos hq] at h
    obtain ⟨_,_,_,rfl,ma,la,ra⟩:=rv.inv
    obtain ⟨e1,e2⟩:=Fd (env:=env) ts
    have hl:=Hw h
    refine wpAny_assign_Tuple r.1 (IsT.isTuple' la) (by rw [e1,List.size_toArray,ra.len,hl];simp) e2 fun h' he=>?_
    have x:Ext c.s { c.s with heap:=h' }:=⟨fun b o e=>he b o (fun q=>by rw [q,A9] at e;exact nos e) e,rfl,rfl,Nat.le_refl _⟩
    have g:=R.ext x
    exact Jp (c:=⟨_,c.M,c.vs⟩) V R g ts h (Cz.sh (by simpa using ra.ext x)) hQ
   ·rw [if_neg hq] at h;exact nos h
  |_=>exact nos h
end
end Mine
end
section
open PySem PySem.W PyProof.Rows
set_option autoImplicit false
namespace Mine
section
variable {lv:Nat} {F:Ahl} {n:Nat} {φ:Fx} {loc loc₁:Bl} {σ σ' σ₁:St} {c c₁:Cf} {S:Sx} {env:Env} {A:Around} {EE:Value→Shared→Prop} {d:D}
theorem Ox(evt:Ew F n)(Gx:Gl φ.hT)(r:Da n A)(V:Ahk φ S loc env){Q:Bool→Shared→Prop}
  (f:Expr→Bool→Sem (ForInStep Bool)) (hf:∀c r,f c r=if r=true then do let ok ← isTrue c env (eval c env);pure (ForInStep.yield ok) else pure (ForInStep.yield r)) :
  ∀ {es:List E} {pes:List Expr} {σ:St} {c:Cf} {b:Bool} {σ':St} (R:Rep φ loc σ c) (t:Ahx (TrE lv) S es pes) (h:G9 F es σ=some (b,σ')) (hB:∀c',Ge φ loc σ c σ' c'→Q b c'.s),
  wpAny (model prog w) A (forIn pes true f) Q EE c.s:=by
 have skip:∀(pes:List Expr) (s:Shared),Q false s→wpAny (model prog w) A (forIn pes false f) Q EE s:=by
  intro pes
  induction pes with
  |nil=>intro s q;rw [List.forIn_nil];exact wpAny_pure q
  |cons p pes ih=>
   intro s q
   rw [List.forIn_cons,hf]
   exact wpAny_bind (wpAny_pure (ih s q))
 intro es
 induction es with
 |nil=>intro pes σ c b σ' R t h hB;obtain rfl:=t.inv;obtain ⟨rfl,rfl⟩:=As h;rw [List.forIn_nil];exact wpAny_pure (hB c (.refl R))
 |cons e es ih=>
  intro pes σ c b σ' R t h hB
  replace t:=t.inv;obtain ⟨_,_,rfl,t,ts⟩:=t
  rw [List.forIn_cons,hf,if_pos rfl]
  obtain ⟨⟨b₁,σ₁⟩,h1,h⟩:=bs h
  induction b₁ using Bool.casesOn with
  |true=>exact wpAny_bind (wpAny_bind (evt Gx r V R t h1 fun c₁ g₁=>wpAny_pure (ih g₁.go.rep ts h fun c₂ g₂=>hB c₂ (g₁.trans g₂))))
  |false=>
   obtain ⟨rfl,rfl⟩:=As h
   exact wpAny_bind (wpAny_bind (evt Gx r V R t h1 fun c₁ g₁=>wpAny_pure (skip _ _ (hB c₁ g₁))))
theorem Qb{Aho:Expr}{gens:List Comprehension}{scope:Scope}{pos:Pos}{k:Nat}{target iter:Expr}{ifs:List Expr}{it acc:Value}{s:Shared}{Q:Fin→Shared→Prop}
  (hg:gens[k]? = some ⟨target,iter,ifs,0⟩) (ha:∀g',gens[k+1]? = some g'→g'.is_async=0)
  (h:wpAny (model prog w) A (pyNext it) (fun r s₁=>match r with
   |none=>Q (.done .next) s₁
   |some v=>wpAny (model prog w) A (letOwnedTupleGo target it v) (fun ζ s₂=>wpAny (model prog w) A (assign target env v) (fun ζ s₃=>
     wpAny (model prog w) A (forIn ifs true fun c r=>if r=true then do let ok ← isTrue c env (eval c env);pure (ForInStep.yield ok) else pure (ForInStep.yield r)) (fun ok s₄=>
      if ok=true then (match gens[k+1]? with
       |some g'=>wpAny (model prog w) A (eval g'.iter env) (fun x s₅=>wpAny (model prog w) A (foldedSetIterable g'.iter env x) (fun x s₅=>
         wpAny (model prog w) A (pyIter x) (fun it' s₆=>wpAny (model prog w) A (runOwn (.compStart (.ListComp Aho gens scope pos) (k+1) it' acc env) env) (fun ζ s₇=>Q (.again (.compLoop (.ListComp Aho gens scope pos) k it acc env)) s₇) EE s₆) EE s₅) EE s₅) EE s₄
       |none=>wpAny (model prog w) A (eval Aho env) (fun x s₅=>wpAny (model prog w) A (call (.builtin "list.append") [acc,x]) (fun ζ s₆=>Q (.again (.compLoop (.ListComp Aho gens scope pos) k it acc env)) s₆) EE s₅) EE s₄)
      else Q (.again (.compLoop (.ListComp Aho gens scope pos) k it acc env)) s₄) EE s₃) EE s₂) EE s₁) EE s) :
  wpAny (model prog w) A (compTurn (.ListComp Aho gens scope pos) k it acc env) Q EE s:=by
 unfold compTurn
 simp only [hg]
 refine wpAny_bind (wpAny_standAt (wpAny_bind (wpAny_mono h (fun r s₁ h₁=>?_) fun ζ ζ e=>e)))
 induction r using Option.casesOn with
 |none=>exact wpAny_pure h₁
 |some v=>
  refine wpAny_bind (wpAny_mono h₁ (fun ζ s₂ h₂=>wpAny_bind (wpAny_mono h₂ (fun ζ s₃ h₃=>wpAny_bind (wpAny_mono h₃ (fun ok s₄ h₄=>?_) fun ζ ζ e=>e)) fun ζ ζ e=>e)) fun ζ ζ e=>e)
  induction ok using Bool.casesOn with
  |false=>exact wpAny_pure (by simpa using h₄)
  |true=>
   simp only [if_true] at h₄ ⊢
   cases hk:gens[k+1]? with
   |none=>
    rw [hk] at h₄
    exact wpAny_bind (wpAny_bind (wpAny_mono h₄ (fun x s₅ h₅=>wpAny_bind (wpAny_mono h₅ (fun ζ s₆ h₆=>wpAny_pure (wpAny_pure h₆)) fun ζ ζ e=>e)) fun ζ ζ e=>e))
   |some g'=>
    rw [hk] at h₄
    have ha':=ha g' hk
    simp only [ha',show ((0:Int) != 0)=false from rfl,Bool.false_eq_true,if_false]
    refine wpAny_bind (wpAny_mono h₄ (fun x s₅ h₅=>wpAny_bind (wpAny_standAt (wpAny_bind (wpAny_mono h₅ (fun x s₅ h₅=>?_) fun ζ ζ e=>e)))) fun ζ ζ e=>e)
    exact wpAny_bind (wpAny_holding (wpAny_mono h₅ (fun it' s₆ h₆=>wpAny_bind (wpAny_mono h₆ (fun ζ s₇ h₇=>wpAny_pure h₇) fun ζ ζ e=>e)) fun ζ ζ e=>e))
end
end Mine
end
section
open PySem PySem.W PyProof.Rows
set_option autoImplicit false
namespace Mine
section
variable {lv:Nat} {F:Ahl} {n:Nat} {φ:Fx} {loc loc₁:Bl} {σ σ' σ₁:St} {c c₁ c':Cf} {S:Sx} {env:Env} {A:Around} {EE:Value→Shared→Prop} {d:D} {R:Result→Shared→Prop}
theorem D6{Aho:Expr}{gens:List Comprehension}{scope:Scope}{pos:Pos}{k:Nat}{it acc:Value}{s:Shared}(ha:∀g,gens[k]? = some g→g.is_async=0)
  (h0:codeAny (model prog w) A (.compLoop (.ListComp Aho gens scope pos) k it acc env) R s)
  (h:∀E',wpAny (model prog w) A (pyIter it) (fun it' s'=>codeAny (model prog w) A (.compLoop (.ListComp Aho gens scope pos) k it' acc env) R s') E' s) :
  codeAny (model prog w) A (.compStart (.ListComp Aho gens scope pos) k it acc env) R s:=by
 refine codeAny_of_tree ?_
 show wpAny _ _ ((compStart (.ListComp Aho gens scope pos) k it acc env).onRaise (fun x=>do noteFrame x env;standAt theWindowsPlace)) _ _ s
 refine wpAny_notedAt ?_
 unfold compStart
 have e:(((clausesOf (.ListComp Aho gens scope pos))[k]?).elim false (·.is_async != 0))=false:=by
  show ((gens[k]?).elim false (·.is_async != 0))=false
  cases q:gens[k]? with
  |none=>rfl
  |some g=>simp [ha g q]
 simp only [e,Bool.false_eq_true,if_false]
 show wpAny _ _ (ask >>= _) _ _ s
 refine wpAny_bind (wpAny_askSetting (wpAny_ite ?_))
 split
 ·first
   |exact wpAny_bind (wpAny_pure (wpAny_pure (And.intro rfl h0)))
   |exact wpAny_pure (And.intro rfl h0)
 ·refine wpAny_bind (wpAny_rule ?_)
  have cl:clausesOf (.ListComp Aho gens scope pos)=gens:=rfl
  rw [cl]
  cases q:gens[k]? with
  |none=>exact wpAny_bind (wpAny_mono (h _) (fun it' s' h'=>wpAny_pure (And.intro rfl h')) fun ζ ζ x=>x)
  |some g=>exact wpAny_bind (wpAny_standAt (wpAny_bind (wpAny_mono (h _) (fun it' s' h'=>wpAny_pure (And.intro rfl h')) fun ζ ζ x=>x)))
def Acc(D₁:Addr)(c:Cf)(acc:List D):Prop:=Ahh c.s.heap c.s.toks c.M (.ref D₁) (.list acc)
theorem R7{D₁:Addr}{acc:List D}{v:Value}(a:Acc D₁ c acc)(rv:Ahb c.s.heap c.s.toks c.M v d)(hz:acc.length<line)(R₁:Rep φ loc σ c)(hn:φ.h₀.get? D₁=none)(hT:¬Aa loc σ c.vs D₁){Q:Value→Shared→Prop}
  (hQ:∀c',Gy φ (fun b=>b=D₁) loc σ c loc σ c'→c'.vs=c.vs→Acc D₁ c' (acc++[d])→Q .none c'.s):wpAny (model prog w) A (call (.builtin "list.append") [.ref D₁,v]) Q EE c.s:=by
 obtain ⟨_,vs,n',e₀,m,l,r,z⟩:=a.inv
 injection e₀ with e₀
 subst e₀
 refine call_meets PySem.F.slot_list_append l.isList.typeIs PySem.F.entry_list_append (PySem.F.args_list_append_2 _ _) (list_append D₁ vs.toArray n' v (by rw [List.size_toArray,r.len,sizeLine_eq];rw [Aw] at hz;lia)) ?_
 refine ⟨l,?_⟩
 have st:AtP (fun b=>b=D₁) c.s { c.s with heap:=c.s.heap.update D₁ (Obj.mapSeq fun xs=>xs.push v) }:=⟨fun b o hb e=>((Heap.SameBut.update ..).2 b hb).trans e,rfl,rfl,Nat.le_refl _⟩
 have hl:∃n2,IsL (c.s.heap.update D₁ (Obj.mapSeq fun xs=>xs.push v)) D₁ (vs++[v]).toArray n2:=by
  have:=Heap.get?_update_self (Obj.mapSeq fun xs=>xs.push v) l rfl
  rw [show (vs++[v]).toArray=vs.toArray.push v by simp]
  exact ⟨_,this⟩
 obtain ⟨n2,hl⟩:=hl
 have g:=Gy.chg (Y:=fun b=>b=D₁) R₁ rfl m hn hT st hl
 refine hQ ⟨_,c.M,c.vs⟩ g rfl ?_
 exact .list m hl ((g.realL r).append (.cons (g.real rv) .nil)) (by rw [List.length_append,List.length_singleton];assumption)
theorem Gr{Y:Addr→Prop}(g:Gy φ Y loc σ c loc₁ σ₁ c₁){b:Addr}(m:c.M b)(R₁:Rep φ loc σ c)(nt:¬Aa loc σ c.vs b)(ny:¬Y b):¬Aa loc₁ σ₁ c₁.vs b:=fun t=>by
 rcases g.step.Aiq b (.inl t) with q | q
 ·exact q.elim nt ny
 ·obtain ⟨o,e⟩:=R₁.Ahd b m
  rw [e] at q;exact nos q.symm
theorem B5(g:Go φ loc σ c loc₁ σ₁ c₁){b:Addr}(m:c.M b)(R₁:Rep φ loc σ c)(nt:¬Aa loc σ c.vs b):¬Aa loc₁ σ₁ c₁.vs b:=
 Gr (Y:=fun ζ=>False) g.y m R₁ nt (fun f=>f)
variable (ev:D8 F n) (evt:Ew F n) (Gx:Gl φ.hT) (r:Da n A) (V:Ahk φ S loc env)
def Is(A:Around)(Aho:Expr)(gens:List Comprehension)(scope:Scope)(pos:Pos)(k:Nat)(acc:Value)(env:Env)(Qa:Shared→Prop)(EE:Value→Shared→Prop)(s₄:Shared):Prop:=
 match gens[k+1]? with
 |some g'=>wpAny (model prog w) A (eval g'.iter env) (fun x s₅=>wpAny (model prog w) A (foldedSetIterable g'.iter env x) (fun x s₅=>
   wpAny (model prog w) A (pyIter x) (fun it' s₆=>wpAny (model prog w) A (runOwn (.compStart (.ListComp Aho gens scope pos) (k+1) it' acc env) env) (fun ζ s₇=>Qa s₇) EE s₆) EE s₅) EE s₅) EE s₄
 |none=>wpAny (model prog w) A (eval Aho env) (fun x s₅=>wpAny (model prog w) A (call (.builtin "list.append") [acc,x]) (fun ζ s₆=>Qa s₆) EE s₅) EE s₄
inductive Aiv{α:Type}(φ:Fx)(Fz:Nat→Prop)(v₀:Nat→Value)(Run:List D→St→α→Prop)(D₁:Addr)(locs:Bl)(σs:St)(cs':Cf)(loc:Bl)(P:Addr→Prop)(itv:Value)(en:Bool)(Ac:Cf→α→Prop)(m:Nat)(s:Shared):Prop
 |mk (ds:List D) (acc:α) (σ:St) (c:Cf):s=c.s→(∀i,Fz i→c.vs i=v₀ i)→m=ds.length→Run ds σ acc→Gy φ (fun b=>b=D₁) locs σs cs' loc σ c→Ai4 c.s.heap c.s.toks c.M P itv en ds→
  (∀b,P b→cs'.s.heap.get? b=none∧¬Aa loc σ c.vs b∧b≠D₁)→Ac c acc→¬Aa loc σ c.vs D₁→Aiv φ Fz v₀ Run D₁ locs σs cs' loc P itv en Ac m s
include evt Gx r V in
theorem S5{Aho:Expr}{gens:List Comprehension}{scope:Scope}{pos:Pos}(ha:∀g∈gens,g.is_async=0){D₁:Addr}(hD:φ.h₀.get? D₁=none){B:St→List D→Option (List D×St)}{k:Nat}
  {Fz:Nat→Prop} (hz:∀i,Fz i→∃L,loc i=some L)
  (hB:∀ {σ:St} {acc acc₁:List D} {σ₁:St} {c:Cf} {Qa:Shared→Prop} {EE:Value→Shared→Prop},B σ acc=some (acc₁,σ₁)→Rep φ loc σ c→Acc D₁ c acc→¬Aa loc σ c.vs D₁→
   (∀c',Gy φ (fun b=>b=D₁) loc σ c loc σ₁ c'→Acc D₁ c' acc₁→¬Aa loc σ₁ c'.vs D₁→(∀i,Fz i→c'.vs i=c.vs i)→Qa c'.s)→Is A Aho gens scope pos k (.ref D₁) env Qa EE c.s)
  {tg:Tg} {cs:List E} {ptg pit:Expr} {pcs:List Expr} (hg:gens[k]? = some ⟨ptg,pit,pcs,0⟩) (ttg:Ahw S tg ptg) (tcs:Ahx (TrE lv) S cs pcs) (htz:∀i∈Ko tg,¬Fz i)
  {ds acc acc':List D} {σ σ':St} {c:Cf} {P:Addr→Prop} {itv:Value} {en:Bool} {locs:Bl} {σs:St} {cs':Cf} {R:Result→Shared→Prop} (h:E7 F tg cs B ds σ acc=some (acc',σ')) (Rs:Rep φ locs σs cs')
  (g:Gy φ (fun b=>b=D₁) locs σs cs' loc σ c) (x:Ai4 c.s.heap c.s.toks c.M P itv en ds) (ht:en=true→Ri ptg=true) (hP:∀b,P b→cs'.s.heap.get? b=none∧¬Aa loc σ c.vs b∧b≠D₁)
  (ac:Acc D₁ c acc) (nt:¬Aa loc σ c.vs D₁)
  (hR:∀c',Gy φ (fun b=>b=D₁) locs σs cs' loc σ' c'→Acc D₁ c' acc'→¬Aa loc σ' c'.vs D₁→(∀i,Fz i→c'.vs i=c.vs i)→R (.ok .next) c'.s) :
  codeAny (model prog w) A (.compLoop (.ListComp Aho gens scope pos) k itv (.ref D₁) env) R c.s:=by
 obtain ⟨v₀,hv₀⟩ : ∃v₀,v₀=c.vs:=⟨_,rfl⟩
 refine codeAny_loop rfl (Aiv φ Fz v₀ (fun ds σ acc=>E7 F tg cs B ds σ acc=some (acc',σ')) D₁ locs σs cs' loc P itv en (Acc D₁)) (fun m s hI=>?_) ds.length (.mk ds acc σ c rfl (fun i ζ=>by rw [hv₀]) rfl h g x hP ac nt)
 rw [← hv₀] at hR
 clear h g x hP ac nt hv₀
 obtain ⟨ds,acc,σ,c,rfl,hvz,rfl,h,g,x,hP,ac,nt⟩:=hI
 show wpAny _ A ((compTurn (.ListComp Aho gens scope pos) k itv (.ref D₁) env).onRaise (fun x=>do noteFrame x env;theTreesLotGoes x)) _ _ c.s
 refine wpAny_noted (Qb hg (fun g' q=>ha g' (List.mem_of_getElem? q)) ?_)
 have subP:=x.sub
 refine Lb r.1 g.rep.Ahd x ht (fun d ds' v s₁ hds hgo=>?_) (fun s₁ hds x₁=>?_)
 ·subst hds
  obtain ⟨σ₁,h1,h⟩:=bs h
  refine hgo _ _ fun s₂ x₂ self real itx=>?_
  have S₂:Bc s₂.heap c.M:=fun b m=>by
   by_cases p:P b
   ·exact self b p
   ·obtain ⟨o,e⟩:=g.rep.Ahd b m;exact ⟨o,x₂.keep b o p e⟩
  have g₂:=g.pend Rs subP (fun b p=>(hP b p).1) (fun b p=>(hP b p).2.1) x₂ (fun ζ m=>m) (fun ζ m ζ=>m) S₂
  have ac₂:Acc D₁ ⟨s₂,c.M,c.vs⟩ acc:=by
   obtain ⟨a',o',q,md,ed⟩:=Ahh.ref ac
   obtain rfl:=Value.ref.inj q
   exact Ahh.mono' (x₂.step subP (M':=c.M) (fun ζ m=>m) (fun ζ m ζ=>m)) x₂.toks ac (fun a o q e=>by obtain rfl:=Value.ref.inj q;exact x₂.keep _ o (fun p=>(hP _ p).2.2 rfl) e) (fun a ζ m=>m)
  obtain ⟨_,_,q0,mD,_⟩:=Ahh.ref ac₂
  obtain rfl:=Value.ref.inj q0
  refine Gz (c:=⟨s₂,c.M,c.vs⟩) r V g₂.rep ttg real h1 fun c₃ g₃ hv₃=>?_
  obtain ⟨⟨b₁,σ₂⟩,h2,h⟩:=bs h
  induction b₁ using Bool.casesOn with
  |true=>
   obtain ⟨⟨acc₁,σ₃⟩,h3,h⟩:=bs h
   refine Ox evt Gx r V _ (fun ζ ζ=>rfl) g₃.rep tcs h2 fun c₄ g₄=>?_
   simp only [if_true]
   have g₅:=g₃.trans g₄.go
   have nt₄:¬Aa loc σ₂ c₄.vs D₁:=B5 g₅ mD g₂.rep nt
   refine hB h3 g₄.go.rep (Ahh.go g₅ ac₂ fun a q=>Value.ref.inj q ▸ nt) nt₄ fun c' g' ac' nt' hv'=>?_
   have g₆:=(g₅.y (Y:=fun b=>b=D₁)).trans g'
   exact ⟨trivial,ds'.length,Nat.lt_succ_self _,.mk ds' acc₁ σ₃ c' rfl (fun i hi=>by
    obtain ⟨L,hL⟩:=hz i hi
    rw [hv' i hi,g₄.vs i L hL,hv₃ i (fun m=>htz i m hi)];exact hvz i hi) rfl h (g₂.trans g₆) (itx.mono g₆.step g₆.toks (fun b p t=>t.elim (hP b p).2.1 (hP b p).2.2))
    (fun b p=>⟨(hP b p).1,Gr g₆ (subP b p) g₂.rep (hP b p).2.1 (hP b p).2.2,(hP b p).2.2⟩) ac' nt'⟩
  |false=>
   refine Ox evt Gx r V _ (fun ζ ζ=>rfl) g₃.rep tcs h2 fun c₄ g₄=>?_
   simp only [Bool.false_eq_true,if_false]
   have g₅:=g₃.trans g₄.go
   have g₆:=g₅.y (Y:=fun b=>b=D₁)
   exact ⟨trivial,ds'.length,Nat.lt_succ_self _,.mk ds' acc σ₂ c₄ rfl (fun i hi=>by
    obtain ⟨L,hL⟩:=hz i hi
    rw [g₄.vs i L hL,hv₃ i (fun m=>htz i m hi)];exact hvz i hi) rfl h (g₂.trans g₆) (itx.mono g₆.step g₆.toks (fun b p t=>t.elim (hP b p).2.1 (hP b p).2.2))
    (fun b p=>⟨(hP b p).1,Gr g₆ (subP b p) g₂.rep (hP b p).2.1 (hP b p).2.2,(hP b p).2.2⟩) (Ahh.go g₅ ac₂ (fun a q=>Value.ref.inj q ▸ nt)) (B5 g₅ mD g₂.rep nt)⟩
 ·subst hds
  obtain ⟨rfl,rfl⟩:=As h
  have S₂:Bc s₁.heap (fun b=>c.M b∧¬P b):=fun b m=>by
   obtain ⟨o,e⟩:=g.rep.Ahd b m.1;exact ⟨o,x₁.keep b o m.2 e⟩
  have g₂:=g.pend Rs subP (fun b p=>(hP b p).1) (fun b p=>(hP b p).2.1) x₁ (M':=fun b=>c.M b∧¬P b) (fun ζ m=>m.1) (fun ζ m n=>⟨m,n⟩) S₂
  refine hR ⟨s₁,_,c.vs⟩ g₂ ?_ nt hvz
  exact Ahh.mono' (x₁.step subP (M':=fun b=>c.M b∧¬P b) (fun ζ m=>m.1) (fun ζ m n=>⟨m,n⟩)) x₁.toks ac (fun a o q e=>by obtain rfl:=Value.ref.inj q;exact x₁.keep _ o (fun p=>(hP _ p).2.2 rfl) e) (fun a q m=>by obtain rfl:=Value.ref.inj q;exact ⟨m,fun p=>(hP _ p).2.2 rfl⟩)
include ev evt Gx r V in
theorem Aca{elt:E}{Aho:Expr}{gens:List Comprehension}{scope:Scope}{pos:Pos}(ha:∀g∈gens,g.is_async=0)(telt:TrE lv S elt Aho){D₁:Addr}(hD:φ.h₀.get? D₁=none){Fz:Nat→Prop}(hz:∀i,Fz i→∃L,loc i=some L) :
  ∀(gs:List (Tg×E×List E)) {pgs:List Comprehension} {k:Nat},gens.drop (k+1)=pgs→TrG (TrE lv) S gs pgs→(∀g∈gs,F7 g.2.1=true→∃is,g.1=.t is)→(∀g∈gs,∀i∈Ko g.1,¬Fz i)→
  ∀ {σ:St} {acc acc₁:List D} {σ₁:St} {c:Cf} {Qa:Shared→Prop} {EE:Value→Shared→Prop},Eb F elt gs σ acc=some (acc₁,σ₁)→Rep φ loc σ c→Acc D₁ c acc→¬Aa loc σ c.vs D₁→
   (∀c',Gy φ (fun b=>b=D₁) loc σ c loc σ₁ c'→Acc D₁ c' acc₁→¬Aa loc σ₁ c'.vs D₁→(∀i,Fz i→c'.vs i=c.vs i)→Qa c'.s)→Is A Aho gens scope pos k (.ref D₁) env Qa EE c.s:=by
 intro gs
 induction gs with
 |nil=>
  intro pgs k hp t he htz σ acc acc₁ σ₁ c Qa EE h R ac nt hQ
  obtain rfl:=t.inv
  have hk:gens[k+1]? = none:=by
   have:=congrArg (fun l=>l[0]?) hp
   simpa using this
  unfold Is
  rw [hk]
  obtain ⟨⟨d,σ₂⟩,h1,h⟩:=bs h
  obtain ⟨hlen,h⟩:=Cd h
  obtain ⟨rfl,rfl⟩:=Prod.mk.inj h
  refine ev Gx r V R telt h1 fun v c₁ g₁ r₁=>?_
  obtain ⟨_,_,q0,mD,_⟩:=Ahh.ref ac
  obtain rfl:=Value.ref.inj q0
  have nt₁:=B5 g₁.go mD R nt
  refine R7 (Ahh.go g₁.go ac fun a q=>Value.ref.inj q ▸ nt) r₁ hlen g₁.go.rep hD nt₁ fun c' g' ev' ac'=>?_
  exact hQ c' (g₁.go.y.trans g') ac' (by rw [ev'];exact nt₁) fun i hi=>by
   obtain ⟨L,hL⟩:=hz i hi
   rw [ev'];exact g₁.vs i L hL
 |cons g gs ih=>
  intro pgs k hp t he htz σ acc acc₁ σ₁ c Qa EE h R ac nt hQ
  obtain ⟨tg,it,cs⟩:=g
  obtain ⟨ptg,pit,pcs,pgs',rfl,hpl,tit,ttg,tcs,tgs⟩:=t.inv
  have hk:gens[k+1]? = some ⟨ptg,pit,pcs,0⟩:=by
   have:=congrArg (fun l=>l[0]?) hp
   simpa using this
  have hp':gens.drop (k+1+1)=pgs':=by rw [← List.drop_drop,hp];rfl
  unfold Is
  rw [hk]
  obtain ⟨⟨l,σ₂⟩,h1,h⟩:=bs h
  obtain ⟨_,_,q0,mD,eD⟩:=Ahh.ref ac
  obtain rfl:=Value.ref.inj q0
  have main:∀ {Q:Value→Shared→Prop},(∀itv c' P,Ge φ loc σ c σ₂ c'→Ai4 c'.s.heap c'.s.toks c'.M P itv (F7 it) l→(∀b,P b→c.s.heap.get? b=none∧¬Aa loc σ₂ c'.vs b)→Q itv c'.s)→
    wpAny (model prog w) A (eval pit env) (fun x s₁=>wpAny (model prog w) A (foldedSetIterable pit env x) (fun x s₁=>wpAny (model prog w) A (pyIter x) Q EE s₁) EE s₁) EE c.s:=fun {Q} hq=>
   wpAny_mono (Ih ev Gx r V R tit h1 hq) (fun x s₁ h'=>wpAny_of_eq (hpl env x) h') fun ζ ζ e=>e
  refine main fun itv c' P g' x' hP=>?_
  have nt':=B5 g'.go mD R nt
  have ac':Acc D₁ c' acc:=Ahh.go g'.go ac fun a q=>Value.ref.inj q ▸ nt
  have run:codeAny (model prog w) A (.compLoop (.ListComp Aho gens scope pos) (k+1) itv (.ref D₁) env) (fun r s'=>match r with | .ok f=>Qa s' | .error e=>cameBackBy (model prog w) A env EE e s') c'.s:=by
   refine S5 evt Gx r V ha hD hz (ih hp' tgs (fun g hg=>he g (List.mem_cons_of_mem _ hg)) fun g hg=>htz g (List.mem_cons_of_mem _ hg)) hk ttg tcs (htz _ List.mem_cons_self) h R g'.go.y x' (fun e=>?_) (fun b p=>⟨(hP b p).1,(hP b p).2,fun q=>by have h5:=(hP b p).1;rw [q,eD] at h5;cases h5⟩) ac' nt' fun c'' g'' ac'' nt'' hv''=>hQ c'' g'' ac'' nt'' fun i hi=>by
    obtain ⟨L,hL⟩:=hz i hi
    rw [hv'' i hi];exact g'.vs i L hL
   obtain ⟨is,q⟩:=he _ List.mem_cons_self e
   dsimp only at q
   subst q
   cases ttg;rfl
  refine wpAny_runOwn ?_
  exact D6 (fun g q=>ha g (List.mem_of_getElem? q)) run fun E'=>La x' run
end
end Mine
end
section
open PySem PySem.W PyProof.Rows
set_option autoImplicit false
namespace Mine
noncomputable def Nj(use:Option (Value→Sem Unit))(v:Value):Sem Unit:=match use with
 |none=>pure ()
 |some u=>u v
noncomputable def Ni(use:Option (Value→Sem Unit))(v:Value):Value:=match use with
 |none=>v
 |some _=>.none
noncomputable def Co(scope:Scope)(env:Env):Scope:=
 { scope with names:=scope.names.map fun (n,k)=>if (k == .free && env.scope.kind == .function && env.kindOf n == some .cell) then (n,.cell) else (n,k) }
theorem Rf{names:List (Str×NameKind)}{p:Str→NameKind→Bool}{x:Str} :
  (names.map fun (n,k)=>if p n k then (n,NameKind.cell) else (n,k)).lookup x=(names.lookup x).map fun k=>if p x k then .cell else k:=by
 induction names with
 |nil=>rfl
 |cons a r ih=>
  obtain ⟨n,k⟩:=a
  rw [List.map_cons,List.lookup_cons]
  dsimp only
  cases hb:x == n with
  |true=>
   have e:x=n:=eq_of_beq hb
   subst e
   cases hp:p x k <;> simp [hp]
  |false=>
   cases hp:p n k <;> simp [List.lookup_cons,hb,ih]
theorem Mw(scope:Scope)(env:Env)(x:Str):(Co scope env).names.lookup x=(scope.names.lookup x).map fun k=>if (k == .free && env.scope.kind == .function && env.kindOf x == some .cell) then .cell else k:=
 Rf (p:=fun n k=>(k == .free && env.scope.kind == .function && env.kindOf n == some .cell))
section
variable {M:Model} {A:Around} {E:Value→Shared→Prop} {s:Shared} {env:Env}
theorem Js{scope:Scope}{cl:List (Str×Addr)}{Q:Env→Shared→Prop}
  (h:Q (newEnv scope s.heap.objs.size env.globals (cellsFrom (s.heap.objs.size+1) scope.names cl) env.qual none .none (some env) builtinsNs) { s with heap:=pushCells (s.heap.push { cls:=.type "dict",data:=.dict #[] }) scope.names }) :
  wpAny M A (newFunctionEnv scope env.globals cl [] env.qual none .none (some env)) Q E s:=by
 simp only [newFunctionEnv,Option.isSome_some,if_true]
 refine wpAny_bind (wpAny_alloc ?_)
 refine wpAny_bind (wpAny_layCells _ (fun name kind cells=>by cases hkc:kind == NameKind.cell <;> simp) _ _ _ _ ?_)
 rw [show ({ s with heap:=s.heap.push { cls:=.type "dict",data:=.dict #[] } }:Shared).heap.objs.size=s.heap.objs.size+1 from Heap.size_push ..]
 rw [List.forIn_nil]
 exact wpAny_bind (wpAny_pure (wpAny_pure h))
theorem Ju{cenv:Env}{cellsOf:List (Str×NameKind)→List Value}{Q:Unit→Shared→Prop}:∀(vs:List (Str×NameKind)) (s:Shared),(∀x∈vs,x.2≠.local)→Q () s→wpAny M A (comprehension.letGo cenv cellsOf vs) Q E s
 |[],s,_,h=>wpAny_pure h
 |(n,k) :: r,s,hk,h=>by
  rw [comprehension.letGo]
  have hb:(k == NameKind.local)=false:=by simpa using hk (n,k) List.mem_cons_self
  refine wpAny_bind (wpAny_holding ?_)
  simp only [hb,Bool.false_eq_true,if_false]
  exact wpAny_point (Ju r s (fun x hx=>hk x (List.mem_cons_of_mem _ hx)) h)
def Az(scope:Scope):Prop:=∃x∈scope.names,x.2=NameKind.local∧x.1 ≠ ".0"
theorem M3{scope:Scope}{cenv:Env}{cellsOf:List (Str×NameKind)→List Value}(hkind:cenv.scope.kind=.function){Q:Unit→Shared→Prop}{s:Shared}(vs:List (Str×NameKind))(sub:∀x∈vs,x∈scope.names.filter fun x=>(x.2 == .local || x.2 == .cell) && x.1 != (".0" : Str))
  (hv:∀x∈vs,x.2=.local→cenv.kindOf x.1=some .local) (hn:Az scope→∃m,s.heap.Ns cenv.locals m) (hQ:∀h',Heap.SameBut cenv.locals s.heap h'→(¬Az scope→h'=s.heap)→Q () { s with heap:=h' }):wpAny M A (comprehension.letGo cenv cellsOf vs) Q E s:=by
 by_cases hl:Az scope
 ·obtain ⟨m,hn⟩:=hn hl
  exact wpAny_comp_letGo hkind vs s m hv hn fun h' m' ζ hs=>hQ h' hs fun n=>absurd hl n
 ·refine Ju vs s (fun x hx hloc=>hl ?_) (hQ s.heap (.refl ..) fun ζ=>rfl)
  obtain ⟨h1,h2⟩:=List.mem_filter.mp (sub x hx)
  rw [Bool.and_eq_true] at h2
  exact ⟨x,h1,hloc,by simpa using h2.2⟩
theorem Na{e:Expr}{scope:Scope}{pos:Pos}{newAcc first:Sem Value}{g:Comprehension}{gs:List Comprehension}{use:Option (Value→Sem Unit)}{cl:List (Str×Addr)}{Q:Value→Shared→Prop}
  (hcl:clausesOf e=g :: gs) (hs:∀x,foldedSetIterable g.iter env x=pure x) (hclos:closureFor scope env=pure cl) (hkind:scope.kind=.function) (hnames:∀x∈scope.names,x.2=.local→scope.names.lookup x.1=some .local)
  (h:wpAny M A first (fun x s₁=>wpAny M A (pyIter x) (fun it s₂=>wpAny M A newAcc (fun acc s₃=>
   wpAny M A (newFunctionEnv scope env.globals cl [] env.qual none .none (some env)) (fun cenv s₄=>
    codeAny M A (.compStart e 0 it acc { cenv with scope:=Co scope env }) (fun r s'=>match r with
     |.error _=>False
     |.ok _=>wpAny M A (Nj use acc) (fun ζ s''=>(Az scope→∃m,s''.heap.Ns cenv.locals m)∧∀h',Heap.SameBut cenv.locals s''.heap h'→(¬Az scope→h'=s''.heap)→Q (Ni use (acc)) { s'' with heap:=h' }) E s') s₄) E s₃) E s₂) E s₁) E s) :
  wpAny M A (comprehension e scope env pos newAcc false first use) Q E s:=by
 unfold comprehension
 rw [hclos,hcl]
 refine wpAny_bind (wpAny_mono h (fun x s₁ h₁=>wpAny_bind (wpAny_standAt (wpAny_bind (wpAny_of_eq (hs x) (wpAny_bind (wpAny_holding (wpAny_mono h₁ (fun it s₂ h₂=>
  wpAny_standIf (wpAny_bind (wpAny_mono h₂ (fun acc s₃ h₃=>wpAny_bind (wpAny_pure (wpAny_bind (wpAny_mono h₃ (fun cenv s₄ h₄=>?_) fun ζ ζ h'=>h')))) fun ζ ζ h'=>h')))
   fun ζ ζ h'=>h'))))))) fun ζ ζ h'=>h')
 dsimp only
 have kloc:∀x∈scope.names,x.2=.local→Env.kindOf { cenv with scope:=Co scope env } x.1=some .local:=fun x hx hl=>by
  show (Co scope env).names.lookup x.1=_
  rw [Mw,hnames x hx hl];rfl
 have hk':({ cenv with scope:=Co scope env }:Env).scope.kind=.function:=hkind
 have hv:∀l:List (Str×NameKind),(∀x∈l,x∈scope.names)→∀x∈l,x.2=.local→Env.kindOf { cenv with scope:=Co scope env } x.1=some .local:=fun l hl x hx hloc=>kloc x (hl x hx) hloc
 have sub:∀x∈(scope.names.filter fun x=>(x.2 == .local || x.2 == .cell) && x.1 != (".0" : Str)).reverse,x∈scope.names:=fun x hx=>(List.mem_filter.mp (List.mem_reverse.mp hx)).1
 refine wpAny_holding (wpAny_bind (wpAny_attempt (wpAny_holding (wpAny_run (codeAny_mono h₄ fun r s' hr=>?_)))))
 induction r using Except.casesOn with
 |error x=>exact hr.elim
 |ok f=>
  induction use using Option.casesOn with
  |none=>
   refine (show ∀ {X:Sem Value} {E':Value→Shared→Prop},wpAny M A ((pure ():Sem Unit) >>= fun ζ=>X) Q E' s'→wpAny M A X Q E' s' from fun h=>h) (wpAny_bind (wpAny_mono hr (fun ζ s'' hr'=>?_) fun ζ ζ h'=>h'))
   obtain ⟨hn,hr'⟩:=hr'
   exact wpAny_bind (wpAny_holding (M3 (cenv:={ cenv with scope:=Co scope env }) hk' _ (fun x hx=>List.mem_reverse.mp hx) (hv _ sub) hn fun h' hs' n=>wpAny_pure (hr' h' hs' n)))
  |some u=>
   refine wpAny_bind (wpAny_rule (wpAny_bind (wpAny_holding (wpAny_mono hr (fun ζ s'' hr'=>?_) fun ζ ζ h'=>h'))))
   obtain ⟨hn,hr'⟩:=hr'
   have sub':∀(l:List (Str×NameKind)) x,x∈l.drop 1++l.take 1→x∈l:=fun l x hx=>(List.mem_append.mp hx).elim (fun h1=>List.mem_of_mem_drop h1) (fun h1=>List.mem_of_mem_take h1)
   exact wpAny_bind (M3 (cenv:={ cenv with scope:=Co scope env }) hk' _ (fun x hx=>List.mem_reverse.mp (sub' _ x hx)) (hv _ fun x hx=>sub x (sub' _ x hx)) hn fun h' hs' n=>wpAny_pure (hr' h' hs' n))
end
end Mine
end
section
open PySem PySem.W PyProof.Rows
set_option autoImplicit false
namespace Mine
theorem A7:∀(names:List (Str×NameKind)) (n:Nat) (acc:List (Str×Addr)),cellsFrom n names acc=cellsFrom n names []++acc
 |[],n,acc=>rfl
 |(x,k) :: r,n,acc=>by
  unfold cellsFrom
  split
  ·rw [A7 r (n+1) ((x,n) :: acc),A7 r (n+1) [(x,n)]];simp
  ·exact A7 r n acc
theorem Dw{α:Type}{l r:List (Str×α)}{x:Str}:(l++r).lookup x=(l.lookup x).or (r.lookup x):=by
 induction l with
 |nil=>simp
 |cons a l ih=>
  obtain ⟨k,v⟩:=a
  rw [List.cons_append,List.lookup_cons,List.lookup_cons]
  cases x == k <;> simp [ih]
theorem Ez:∀(names:List (Str×NameKind)) (n:Nat) (x:Str) (c:Addr),(x,c)∈cellsFrom n names []→(x,NameKind.cell)∈names
 |[],n,x,c,h=>by cases h
 |(y,k) :: r,n,x,c,h=>by
  unfold cellsFrom at h
  split at h
  ·rename_i hk
   rw [A7] at h
   rcases List.mem_append.mp h with h | h
   ·exact List.mem_cons_of_mem _ (Ez r _ x c h)
   ·simp at h
    obtain ⟨rfl,rfl⟩:=h
    rw [eq_of_beq hk];exact List.mem_cons_self
  ·exact List.mem_cons_of_mem _ (Ez r _ x c h)
theorem Cw:∀(names:List (Str×NameKind)) (n:Nat) (x:Str),(x,NameKind.cell)∈names→∃c,(cellsFrom n names []).lookup x=some c
 |[],n,x,h=>by cases h
 |(y,k) :: r,n,x,h=>by
  unfold cellsFrom
  rcases List.mem_cons.mp h with h | h
  ·cases h
   show ∃c,List.lookup y (cellsFrom (n+1) r [(y,n)])=some c
   rw [A7,Dw]
   cases q:(cellsFrom (n+1) r []).lookup y with
   |some c=>exact ⟨c,rfl⟩
   |none=>exact ⟨n,by simp⟩
  ·split
   ·rw [A7,Dw]
    obtain ⟨c,q⟩:=Cw r (n+1) x h
    exact ⟨c,by rw [q];rfl⟩
   ·exact Cw r n x h
theorem A0{α:Type}{l:List (Str×α)}{x:Str}{v:α}(h:l.lookup x=some v):(x,v)∈l:=mem_of_lookup h
theorem Ci{α:Type}[DecidableEq α]:∀ {l:List α},Dk l=true→l.Nodup
 |[],_=>List.nodup_nil
 |a :: l,h=>by
  obtain ⟨h1,h2⟩:=Bool.and_eq_true_iff.mp (show (!l.contains a && Dk l)=true from h)
  exact List.nodup_cons.mpr ⟨fun m=>by rw [List.contains_iff_mem.mpr m] at h1;exact Bool.false_ne_true h1,Ci h2⟩
theorem D3{α:Type}:∀ {l:List (Str×α)} {x:Str} {v:α},(l.map (·.1)).Nodup→(x,v)∈l→l.lookup x=some v
 |(y,u) :: r,x,v,hn,h=>by
  rw [List.map_cons,List.nodup_cons] at hn
  rw [List.lookup_cons]
  rcases List.mem_cons.mp h with h | h
  ·obtain ⟨rfl,rfl⟩:=Prod.mk.inj h;simp
  ·have:x≠y:=fun q=>hn.1 (List.mem_map.mpr ⟨(x,v),h,q⟩)
   rw [beq_false_of_ne this]
   exact D3 hn.2 h
theorem Lu{scope:Scope}{env:Env}(h:∀x,(x,NameKind.free)∈scope.names→∃c,env.cells.lookup x=some c) :
  ∃cl,closureFor scope env=pure cl∧(∀x c,cl.lookup x=some c→env.cells.lookup x=some c)∧∀x,(x,NameKind.free)∈scope.names→∃c,cl.lookup x=some c:=by
 have key:∀(f:Str×NameKind→List (Str×Addr)→Sem (ForInStep (List (Str×Addr)))) (hf:∀n k cs,f (n,k) cs=if k == .free then (do let a ← cellOf env n;pure (.yield ((n,a) :: cs))) else pure (.yield cs))
   (names:List (Str×NameKind)) (acc:List (Str×Addr)),(∀x,(x,NameKind.free)∈names→∃c,env.cells.lookup x=some c)→(∀x c,acc.lookup x=some c→env.cells.lookup x=some c)→
   ∃cl,(forIn names acc f:Sem _)=pure cl∧(∀x c,cl.lookup x=some c→env.cells.lookup x=some c)∧(∀x,(x,NameKind.free)∈names→∃c,cl.lookup x=some c)∧∀x c,acc.lookup x=some c→∃c,cl.lookup x=some c:=by
  intro f hf names
  induction names with
  |nil=>intro acc _ ha;exact ⟨acc,by rw [List.forIn_nil],ha,fun x h=>(nomatch h),fun x c h=>⟨c,h⟩⟩
  |cons p r ih=>
   intro acc hn ha
   obtain ⟨n,k⟩:=p
   rw [List.forIn_cons,hf]
   cases hk:k == NameKind.free with
   |false=>
    obtain ⟨cl,e,a,b,d⟩:=ih acc (fun x hx=>hn x (List.mem_cons_of_mem _ hx)) ha
    refine ⟨cl,by simpa using e,a,fun x hx=>?_,d⟩
    rcases List.mem_cons.mp hx with q | q
    ·obtain ⟨rfl,rfl⟩:=Prod.mk.inj q;exact absurd hk.symm Bool.false_ne_true
    ·exact b x q
   |true=>
    have hk':=eq_of_beq hk
    subst hk'
    obtain ⟨c,hc⟩:=hn n List.mem_cons_self
    have ha':∀x c',((n,c) :: acc).lookup x=some c'→env.cells.lookup x=some c':=fun x c' h=>by
     rw [List.lookup_cons] at h
     cases hb:x == n with
     |true=>rw [hb] at h;obtain rfl:=Ag h;rw [eq_of_beq hb];exact hc
     |false=>rw [hb] at h;exact ha x c' h
    obtain ⟨cl,e,a,b,d⟩:=ih ((n,c) :: acc) (fun x hx=>hn x (List.mem_cons_of_mem _ hx)) ha'
    refine ⟨cl,?_,a,fun x hx=>?_,fun x c' h=>?_⟩
    ·simp only [if_true]
     unfold cellOf
     rw [hc]
     exact e
    ·rcases List.mem_cons.mp hx with q | q
     ·cases q;exact d n c (by simp)
     ·exact b x q
    ·by_cases hb:x=n
     ·subst hb;exact d x c (by simp)
     ·exact d x c' (by rw [List.lookup_cons,beq_false_of_ne hb];exact h)
 obtain ⟨cl,e,a,b,_⟩:=key (fun p cs=>if p.2 == .free then (do let a ← cellOf env p.1;pure (.yield ((p.1,a) :: cs))) else pure (.yield cs)) (fun ζ ζ ζ=>rfl) scope.names [] h (fun x c h=>by exact nos h)
 refine ⟨cl,?_,a,b⟩
 rw [← e]
 unfold closureFor
 have eta:∀m:Sem (List (Str×Addr)),(m >>= fun cs=>pure cs)=m:=fun m=>bind_pure m
 exact eta _
section
variable {φ:Fx} {loc loc':Bl} {Y:Addr→Prop} {σ:St} {c:Cf}
theorem Rep.widen(R:Rep φ loc σ c){s':Shared}{M':Addr→Prop}(x:Aip c.s c.M s' M')(hl:∀i L,loc i=some L→loc' i=some L)
  (hn:∀i L,loc' i=some L→loc i=some L∨(L.ok s'.heap∧M' L.addr∧c.s.heap.get? L.addr=none∧i<σ.length)) (Air:∀i j L,loc' i=some L→loc' j=some L→i=j):Rep φ loc' σ ⟨s',M',c.vs⟩:=by
 have R':=R.grow x
 refine { R' with locs:=fun i L e=>?_,vals:=fun i o d e=>?_,Air:=Air,apart:=fun i o d a e ho va j L hL=>?_ }
 ·rcases hn i L e with q | ⟨a,b,d,f⟩
  ·exact R'.locs i L q
  ·exact ⟨a,b,R.fresh d,f⟩
 ·obtain ⟨L,a,b⟩:=R'.vals i o d e
  exact ⟨L,hl i L a,b⟩
 ·rcases hn j L hL with q | ⟨_,_,d',_⟩
  ·exact R'.apart i o d a e ho va j L q
  ·intro q
   obtain ⟨_,_,_,sl⟩:=R.vals i o d e
   obtain ⟨a',o',va',_,e'⟩:=(Du.root ho sl).ref
   have va2:c.vs i=.ref a:=va
   rw [va2] at va';obtain rfl:=Value.ref.inj va'
   rw [← q,d'] at e';exact nos e'
theorem Rep.widens(R:Rep φ loc σ c){s':Shared}{M':Addr→Prop}(x:Aip c.s c.M s' M')(hl:∀i L,loc i=some L→loc' i=some L)
  (hn:∀i L,loc' i=some L→loc i=some L∨(L.ok s'.heap∧M' L.addr∧c.s.heap.get? L.addr=none∧i<σ.length)) (Air:∀i j L,loc' i=some L→loc' j=some L→i=j):Go φ loc σ c loc' σ ⟨s',M',c.vs⟩:=
 ⟨R.widen x hl hn Air,x.step fun b t=>by
  rcases t with ⟨i,L,h,rfl⟩ | t
  ·rcases hn i L h with q | ⟨_,_,d,_⟩
   ·exact .inl (.inl ⟨i,L,q,rfl⟩)
   ·exact .inr d
  ·exact .inl (.inr t),x.ext.toks,x.ext.gens,x.ext.os,fun b e=>x.ext.back e⟩
end
end Mine
end
section
open PySem PySem.W PyProof.Rows
set_option autoImplicit false
namespace Mine
structure Ck(S S':Sx)(scope:Scope)(own:List (Str×Nat))(del:List Nat):Prop where
 kind:scope.kind=.function
 names:S'.names=scope.names
 nv:S'.nv=S.nv
 le:S.top≤S'.top
 le':S'.top≤S.nv
 ownc:∀x i,(x,i)∈own→D4 (scope.names.lookup x)=true∧S.top≤i∧i<S'.top∧i∈del
 nd1:(own.map (·.1)).Nodup
 nd2:(own.map (·.2)).Nodup
 nd3:(scope.names.map (·.1)).Nodup
 vars:∀x i,(x,i)∈S'.vars→(x,i)∈own∨(scope.names.lookup x=some .free∧S.vars.lookup x=some i∧U2 (S.names.lookup x)=true)
 locs:∀x,(x,NameKind.local)∈scope.names→x ≠ ".0" → ∃i,(x,i)∈own
 free:∀x,(x,NameKind.free)∈scope.names→U2 (S.names.lookup x)=true∧∃i,S.vars.lookup x=some i
theorem Vq:∀ {l:List (Str×Nat)} {x y:Str} {i:Nat},(l.map (·.2)).Nodup→(x,i)∈l→(y,i)∈l→x=y
 |(z,j) :: r,x,y,i,hn,h1,h2=>by
  rw [List.map_cons,List.nodup_cons] at hn
  rcases List.mem_cons.mp h1 with h1 | h1 <;> rcases List.mem_cons.mp h2 with h2 | h2
  ·obtain ⟨rfl,rfl⟩:=Prod.mk.inj h1;cases h2;rfl
  ·cases h1;exact absurd (List.mem_map.mpr ⟨_,h2,rfl⟩) hn.1
  ·cases h2;exact absurd (List.mem_map.mpr ⟨_,h1,rfl⟩) hn.1
  ·exact Vq hn.2 h1 h2
theorem Vr:∀ {l:List (Str×Nat)} {x:Str} {i j:Nat},(l.map (·.1)).Nodup→(x,i)∈l→(x,j)∈l→i=j
 |(z,k) :: r,x,i,j,hn,h1,h2=>by
  rw [List.map_cons,List.nodup_cons] at hn
  rcases List.mem_cons.mp h1 with h1 | h1 <;> rcases List.mem_cons.mp h2 with h2 | h2
  ·obtain ⟨rfl,rfl⟩:=Prod.mk.inj h1;cases h2;rfl
  ·cases h1;exact absurd (List.mem_map.mpr ⟨_,h2,rfl⟩) hn.1
  ·cases h2;exact absurd (List.mem_map.mpr ⟨_,h1,rfl⟩) hn.1
  ·exact Vr hn.2 h1 h2
theorem Adu{S S':Sx}{scope:Scope}{own:List (Str×Nat)}{del:List Nat}(h:El S S' scope own del=true):Ck S S' scope own del:=by
 unfold El at h
 simp only [Bool.and_eq_true,List.all_eq_true,decide_eq_true_eq,beq_iff_eq,Bool.or_eq_true,List.contains_eq_mem,Bool.not_eq_true',beq_eq_false_iff_ne] at h
 obtain ⟨⟨⟨⟨⟨⟨⟨⟨⟨⟨⟨h1,h2⟩,h3⟩,h4⟩,h5⟩,h6⟩,h7⟩,h8⟩,h9⟩,h10⟩,h11⟩,h12⟩:=h
 refine ⟨h1,h2,h3,h4,h5,fun x i m=>?_,Ci h7,Ci h8,Ci h9,fun x i m=>?_,fun x m n=>?_,fun x m=>?_⟩
 ·have:=h6 (x,i) m;exact ⟨this.1.1.1,this.1.1.2,this.1.2,this.2⟩
 ·rcases h10 (x,i) m with q | q
  ·exact .inl q
  ·exact .inr ⟨q.1.1,q.1.2,q.2⟩
 ·rcases h12 (x,.local) m with (q | q) | q
  ·exact absurd rfl q
  ·exact absurd q n
  ·obtain ⟨p,hp,e⟩:=List.mem_map.mp q
   have e':p.1=x:=e
   exact ⟨p.2,by rw [← e'];exact hp⟩
 ·rcases h11 (x,.free) m with q | q
  ·exact absurd rfl q
  ·exact ⟨q.1,Option.isSome_iff_exists.mp q.2⟩
noncomputable def E8(scope:Scope)(own:List (Str×Nat))(L:Addr)(cells:List (Str×Addr))(loc:Bl):Bl:=fun i=>
 match own.find? (fun p=>p.2 == i) with
 |some p=>if scope.names.lookup p.1=some .local then some (.dct L p.1) else (cells.lookup p.1).map .cel
 |none=>loc i
section
variable {φ:Fx} {loc:Bl} {σ:St} {c:Cf} {S S':Sx} {env:Env} {scope:Scope} {own:List (Str×Nat)} {del:List Nat}
noncomputable def On(env:Env)(scope:Scope)(L:Addr)(cl:List (Str×Addr)):Env:=
 { newEnv scope L env.globals (cellsFrom (L+1) scope.names cl) env.qual none .none (some env) builtinsNs with scope:=Co scope env }
inductive CEnv(φ:Fx)(loc:Bl)(σ:St)(c:Cf)(S':Sx)(env:Env)(scope:Scope)(cl:List (Str×Addr))(del:List Nat):Prop
 |mk (loc':Bl) (M':Addr→Prop):Ahk φ S' loc' (On env scope c.s.heap.objs.size cl)→
  Go φ loc σ c loc' σ ⟨{ c.s with heap:=pushCells (c.s.heap.push { cls:=.type "dict",data:=.dict #[] }) scope.names },M',c.vs⟩→
  (∀b o,c.s.heap.get? b=some o→(pushCells (c.s.heap.push { cls:=.type "dict",data:=.dict #[] }) scope.names).get? b=some o)→
  (∀i L,loc i=some L→loc' i=some L)→(∀i L,loc' i=some L→loc i=some L∨i∈del)→M' c.s.heap.objs.size→c.s.heap.get? c.s.heap.objs.size=none→
  (∃m,(pushCells (c.s.heap.push { cls:=.type "dict",data:=.dict #[] }) scope.names).Ns c.s.heap.objs.size m)→(∀b,M' b→c.M b∨c.s.heap.get? b=none)→
  (Az scope→Ex2 fun i x=>loc' i=some (.dct c.s.heap.objs.size x))→CEnv φ loc σ c S' env scope cl del
set_option tactic.hygienic true in
theorem Ls(V:Ahk φ S loc env)(ck:Ck S S' scope own del)(R:Rep φ loc σ c){cl:List (Str×Addr)}(hcl:∀x a,cl.lookup x=some a→env.cells.lookup x=some a)(hfr:∀x,(x,NameKind.free)∈scope.names→∃a,cl.lookup x=some a) :
  CEnv φ loc σ c S' env scope cl del:=by
 have hn:=A9 c.s.heap
 have keep:∀b o,c.s.heap.get? b=some o→(pushCells (c.s.heap.push { cls:=.type "dict",data:=.dict #[] }) scope.names).get? b=some o:=fun b o e=>pushCells_keeps _ _ b o (Heap.get?_push_of_some _ e)
 have ok:=cellsFrom_ok scope.names (c.s.heap.push { cls:=.type "dict",data:=.dict #[] }) (c.s.heap.objs.size+1) [] ⟨fun ζ ζ hm=>(nomatch hm),List.Pairwise.nil⟩ (by rw [Heap.size_push];exact Nat.le_refl _)
 rw [Heap.size_push] at ok
 have hns:(pushCells (c.s.heap.push { cls:=.type "dict",data:=.dict #[] }) scope.names).Ns c.s.heap.objs.size (fun ζ=>none):=(Heap.Ns.new c.s.heap (.type "dict")).keeps (pushCells_keeps _ _)
 have Aiu:∀b,c.s.heap.objs.size≤b→c.s.heap.get? b=none:=fun b hb=>by
  cases e:c.s.heap.get? b with
  |none=>rfl
  |some o=>exact absurd (Heap.lt_size e) (Nat.not_lt.mpr hb)
 have gr:Aip c.s c.M { c.s with heap:=pushCells (c.s.heap.push { cls:=.type "dict",data:=.dict #[] }) scope.names } (fun b=>c.M b∨b=c.s.heap.objs.size∨∃x,(x,b)∈cellsFrom (c.s.heap.objs.size+1) scope.names []):=by
  refine ⟨⟨keep,rfl,rfl,Nat.le_refl _⟩,fun b m=>.inl m,fun b m=>?_,fun b m=>?_⟩
  ·rcases m with m | rfl | ⟨x,m⟩
   ·exact .inl m
   ·exact .inr hn
   ·exact .inr (Aiu b (Nat.le_of_succ_le (ok.empty x b m).2))
  ·rcases m with m | rfl | ⟨x,m⟩
   ·obtain ⟨o,e⟩:=R.Ahd b m;exact ⟨o,keep b o e⟩
   ·obtain ⟨o,_,_,e,_⟩:=hns;exact ⟨o,e⟩
   ·obtain ⟨o,e,_⟩:=(ok.empty x b m).1;exact ⟨o,e⟩
 have lnew:∀i p,own.find? (fun p=>p.2 == i)=some p→p∈own∧p.2=i:=fun i p q=>⟨List.mem_of_find?_eq_some q,by have:=List.find?_some q;simpa using this⟩
 have find_own:∀ {x:Str} {i:Nat},(x,i)∈own→own.find? (fun p=>p.2 == i)=some (x,i):=by
  intro x i m
  cases q:own.find? (fun p=>p.2 == i) with
  |none=>exact absurd (List.find?_eq_none.mp q (x,i) m) (by simp)
  |some p=>
   obtain ⟨y,j⟩:=p
   obtain ⟨h1,h2⟩:=lnew i _ q
   dsimp only at h2
   subst h2
   rw [Vq ck.nd2 h1 m]
 have new:∀i L,E8 scope own c.s.heap.objs.size (cellsFrom (c.s.heap.objs.size+1) scope.names []) loc i=some L→loc i=some L∨∃x,(x,i)∈own∧
   ((scope.names.lookup x=some .local∧L=.dct c.s.heap.objs.size x)∨(scope.names.lookup x=some .cell∧∃a,(cellsFrom (c.s.heap.objs.size+1) scope.names []).lookup x=some a∧L=.cel a)):=by
  intro i L h
  unfold E8 at h
  split at h
  ·rename_i p q
   obtain ⟨y,j⟩:=p
   obtain ⟨h1,h2⟩:=lnew i _ q
   dsimp only at h2
   subst h2
   refine .inr ⟨y,h1,?_⟩
   split at h
   ·rename_i hl;obtain rfl:=Ag h;exact .inl ⟨hl,rfl⟩
   ·rename_i hl
    have:=(ck.ownc y j h1).1
    cases hk:scope.names.lookup y with
    |none=>rw [hk] at this;exact absurd this Bool.false_ne_true
    |some k=>
     rw [hk] at this
     cases k <;> try ((first | exact absurd this Bool.false_ne_true | cases this);done)
     ·exact absurd hk hl
     ·cases hc:(cellsFrom (c.s.heap.objs.size+1) scope.names []).lookup y with
      |none=>rw [hc] at h;exact nos h
      |some a=>rw [hc] at h;obtain rfl:=Ag h;exact .inr ⟨rfl,a,rfl,rfl⟩
  ·exact .inl h
 have old:∀i L,loc i=some L→E8 scope own c.s.heap.objs.size (cellsFrom (c.s.heap.objs.size+1) scope.names []) loc i=some L:=by
  intro i L h
  unfold E8
  split
  ·rename_i p q
   obtain ⟨y,j⟩:=p
   obtain ⟨h1,h2⟩:=lnew i _ q
   dsimp only at h2
   subst h2
   exact absurd (V.top j L h) (Nat.not_lt.mpr (ck.ownc y j h1).2.1)
  ·exact h
 have hown:∀x i,(x,i)∈own→∃L,E8 scope own c.s.heap.objs.size (cellsFrom (c.s.heap.objs.size+1) scope.names []) loc i=some L∧
   ((scope.names.lookup x=some .local∧L=.dct c.s.heap.objs.size x)∨(scope.names.lookup x=some .cell∧∃a,(cellsFrom (c.s.heap.objs.size+1) scope.names []).lookup x=some a∧L=.cel a)):=by
  intro x i m
  unfold E8
  rw [find_own m]
  dsimp only
  have:=(ck.ownc x i m).1
  cases hk:scope.names.lookup x with
  |none=>rw [hk] at this;exact absurd this Bool.false_ne_true
  |some k=>
   rw [hk] at this
   cases k <;> try ((first | exact absurd this Bool.false_ne_true | cases this);done)
   ·exact ⟨_,by rw [if_pos rfl],.inl ⟨rfl,rfl⟩⟩
   ·obtain ⟨a,ha⟩:=Cw scope.names (c.s.heap.objs.size+1) x (A0 hk)
    exact ⟨_,by rw [if_neg (by decide),ha];rfl,.inr ⟨rfl,a,ha,rfl⟩⟩
 refine ⟨E8 scope own c.s.heap.objs.size (cellsFrom (c.s.heap.objs.size+1) scope.names []) loc,_,?_,R.widens gr old (fun i L h=>?_) (fun i j L hi hj=>?_),keep,old,fun i L h=>?_,.inr (.inl rfl),hn,⟨_,hns⟩,gr.old,fun hl=>?_⟩
 ·refine ⟨ck.kind,V.g,V.b,fun x k h=>?_,fun x i h=>?_,fun i L h=>?_,V.nv.trans ck.nv.symm⟩
  ·rw [ck.names] at h
   show (Co scope env).names.lookup x=some k∨(k=.free∧(Co scope env).names.lookup x=some .cell)
   rw [Mw,h,Option.map_some]
   cases hc:(k == NameKind.free && env.scope.kind == ScopeKind.function && env.kindOf x == some NameKind.cell) with
   |false=>exact .inl rfl
   |true=>
    rw [Bool.and_eq_true,Bool.and_eq_true] at hc
    exact .inr ⟨eq_of_beq hc.1.1,rfl⟩
  ·rcases ck.vars x i (A0 h) with m | ⟨h1,h2,h3⟩
   ·obtain ⟨L,e,q⟩:=hown x i m
    refine ⟨L,e,?_⟩
    rcases q with ⟨hl,rfl⟩ | ⟨hc,a,ha,rfl⟩
    ·exact .dct (by rw [ck.names];exact hl)
    ·refine .cel (by rw [ck.names,hc];rfl) ?_
     show (cellsFrom (c.s.heap.objs.size+1) scope.names cl).lookup x=some a
     rw [A7,Dw,ha];rfl
   ·obtain ⟨L,e,pl⟩:=V.vars x i h2
    refine ⟨L,old i L e,?_⟩
    induction pl using Place.casesOn with
    |dct q=>rw [q] at h3;exact absurd h3 Bool.false_ne_true
    |@cel a _ q=>
     refine .cel (by rw [ck.names,h1];rfl) ?_
     show (cellsFrom (c.s.heap.objs.size+1) scope.names cl).lookup x=some a
     rw [A7,Dw]
     cases hx:(cellsFrom (c.s.heap.objs.size+1) scope.names []).lookup x with
     |some a'=>
      have:=D3 ck.nd3 (Ez _ _ x a' (A0 hx))
      rw [h1] at this;cases this
     |none=>
      obtain ⟨a',ha'⟩:=hfr x (A0 h1)
      have:=hcl x a' ha'
      rw [q] at this;obtain rfl:=Ag this
      rw [ha'];rfl
  ·rcases new i L h with q | ⟨x,m,_⟩
   ·exact Nat.lt_of_lt_of_le (V.top i L q) ck.le
   ·exact (ck.ownc x i m).2.2.1
 ·rcases new i L h with q | ⟨x,m,q⟩
  ·exact .inl q
  ·right
   have hlen:i<σ.length:=by rw [R.len,V.nv];exact Nat.lt_of_lt_of_le (ck.ownc x i m).2.2.1 ck.le'
   rcases q with ⟨_,rfl⟩ | ⟨_,a,ha,rfl⟩
   ·exact ⟨⟨_,hns⟩,.inr (.inl rfl),hn,hlen⟩
   ·have hm:=A0 ha
    exact ⟨⟨_,(ok.empty x a hm).1⟩,.inr (.inr ⟨x,hm⟩),Aiu a (Nat.le_of_succ_le (ok.empty x a hm).2),hlen⟩
 ·have oldne:∀i L,loc i=some L→∃o,c.s.heap.get? L.addr=some o:=fun i L h=>R.Ahd _ (R.locs i L h).2.1
  have newn:∀ {L:Loc} {x:Str},((scope.names.lookup x=some .local∧L=.dct c.s.heap.objs.size x)∨(scope.names.lookup x=some .cell∧∃a,(cellsFrom (c.s.heap.objs.size+1) scope.names []).lookup x=some a∧L=.cel a))→c.s.heap.get? L.addr=none:=by
   rintro L x (⟨_,rfl⟩ | ⟨_,a,ha,rfl⟩)
   ·exact hn
   ·exact Aiu a (Nat.le_of_succ_le (ok.empty x a (A0 ha)).2)
  rcases new i L hi with q | ⟨x,m,q⟩ <;> rcases new j L hj with q' | ⟨y,m',q'⟩
  ·exact R.Air i j L q q'
  ·obtain ⟨o,e⟩:=oldne i L q;rw [newn q'] at e;exact nos e
  ·obtain ⟨o,e⟩:=oldne j L q';rw [newn q] at e;exact nos e
  ·have hxy:x=y:=by
    rcases q with ⟨_,rfl⟩ | ⟨_,a,ha,rfl⟩ <;> rcases q' with ⟨_,q'⟩ | ⟨_,b,hb,q'⟩
    ·cases q';rfl
    ·cases q'
    ·cases q'
    ·cases q';exact name_of_addr ok.apart (A0 ha) (A0 hb)
   subst hxy
   exact Vr ck.nd1 m m'
 ·rcases new i L h with q | ⟨x,m,_⟩
  ·exact .inl q
  ·exact .inr (ck.ownc x i m).2.2.2
 ·obtain ⟨⟨x,k⟩,hx,hk,h0⟩:=hl
  dsimp only at hk h0
  subst hk
  obtain ⟨i,m⟩:=ck.locs x hx h0
  have hlk:=D3 ck.nd3 hx
  obtain ⟨L,e,⟨_,rfl⟩ | ⟨q,_⟩⟩:=hown x i m
  ·exact ⟨i,x,e⟩
  ·rw [hlk] at q;cases q
end
end Mine
end
section
open PySem PySem.W PyProof.Rows
set_option autoImplicit false
namespace Mine
theorem Ab0{tg:Tg}{σ:St}:(J9 tg σ).length=σ.length∧∀i s,(J9 tg σ).get i=some s→σ.get i=some s∧i∉Ko tg:=by
 induction tg using Tg.casesOn with
 |v j=>
  refine ⟨St.len_del ..,fun i s h=>?_⟩
  simp only [Ab1] at h
  rw [St.get_del] at h
  split at h
  ·exact nos h
  ·rename_i q;exact ⟨h,by simp [Ko,q]⟩
 |t is=>
  simp only [dT_t,Ko]
  induction is generalizing σ with
  |nil=>exact ⟨rfl,fun i s h=>⟨h,by simp⟩⟩
  |cons j is ih=>
   obtain ⟨h1,h2⟩:=ih (σ:=σ.del j)
   refine ⟨h1.trans (St.len_del ..),fun i s h=>?_⟩
   obtain ⟨h3,h4⟩:=h2 i s h
   rw [St.get_del] at h3
   split at h3
   ·exact nos h3
   ·rename_i q;exact ⟨h3,by simp [q,h4]⟩
theorem Ol:∀ {gs:List (Tg×E×List E)} {σ:St},(Jj gs σ).length=σ.length∧∀i s,(Jj gs σ).get i=some s→σ.get i=some s∧i∉Dz gs
 |[],σ=>⟨rfl,fun i s h=>⟨h,by simp [tg_n]⟩⟩
 |(tg,it,cs) :: r,σ=>by
  obtain ⟨h1,h2⟩:=Ol (gs:=r) (σ:=J9 tg σ)
  obtain ⟨h3,h4⟩:=Ab0 (tg:=tg) (σ:=σ)
  refine ⟨h1.trans h3,fun i s h=>?_⟩
  obtain ⟨h5,h6⟩:=h2 i s h
  obtain ⟨h7,h8⟩:=h4 i s h5
  refine ⟨h7,?_⟩
  cases tg <;> simp only [tg_v,tg_t,Ko,List.mem_cons,List.mem_append] at h8 ⊢ <;> exact fun q=>q.elim (fun q=>h8 (by simpa using q)) h6
theorem Gu:∀ {gs:List (Tg×E×List E)},Fr gs=true→∀g∈gs,F7 g.2.1=true→∃is,g.1=.t is
 |[],_,g,h,_=>by cases h
 |(.t is,it,cs) :: r,he,g,h,hi=>by
  rcases List.mem_cons.mp h with h | h
  ·exact ⟨is,by rw [h]⟩
  ·exact Gu (gs:=r) he g h hi
 |(.v j,it,cs) :: r,he,g,h,hi=>by
  simp only [en_v,Bool.and_eq_true,Bool.not_eq_true'] at he
  rcases List.mem_cons.mp h with h | h
  ·rw [h] at hi;rw [he.1] at hi;exact absurd hi Bool.false_ne_true
  ·exact Gu he.2 g h hi
theorem T5{lv:Nat}{S:Sx}{gs:List (Tg×E×List E)}{pgs:List Comprehension}(t:TrG (TrE lv) S gs pgs):∀g∈pgs,g.is_async=0:=by
 induction gs generalizing pgs with
 |nil=>obtain rfl:=t.inv;exact fun g h=>absurd h List.not_mem_nil
 |cons g gs ih=>
  replace t:=t.inv;obtain ⟨_,_,_,_,rfl,_,_,_,_,t⟩:=t
  intro g h
  rcases List.mem_cons.mp h with h | h
  ·rw [h]
  ·exact ih t g h
section
variable {lv:Nat} {F:Ahl} {n:Nat} {φ:Fx} {loc:Bl} {σ σ':St} {c:Cf} {S S':Sx} {env:Env} {A:Around} {EE:Value→Shared→Prop} {d:D}
theorem Zr{own:List (Str×Nat)}{del:List Nat}{scope:Scope}(ck:Ck S S' scope own del){is:List Nat}{pes:List Expr}(t:TrN S' is pes):∀i∈is,S.top≤i:=by
 induction t with
 |nil=>exact fun i h=>absurd h List.not_mem_nil
 |@cons i x _ _ _ h1 h2 ts ih=>
  intro i h
  rcases List.mem_cons.mp h with h | h
  ·rw [h]
   rcases ck.vars x _ (A0 h1) with m | ⟨q,_⟩
   ·exact (ck.ownc x _ m).2.1
   ·rw [ck.names,q] at h2;exact absurd h2 Bool.false_ne_true
  ·exact ih i h
theorem Km{own:List (Str×Nat)}{del:List Nat}{scope:Scope}(ck:Ck S S' scope own del){tg:Tg}{ptg:Expr}(t:Ahw S' tg ptg):∀i∈Ko tg,S.top≤i:=by
 induction t using Ahw.casesOn with
 |@v i x p h1 h2 h3=>
  intro j hj
  have hj':j=i:=by simpa [Ko] using hj
  subst hj'
  rcases ck.vars x _ (A0 h1) with m | ⟨q,_⟩
  ·exact (ck.ownc x _ m).2.1
  ·rw [ck.names,q] at h2;exact absurd h2 Bool.false_ne_true
 |t h ts=>exact Zr ck ts
theorem Zs{own:List (Str×Nat)}{del:List Nat}{scope:Scope}(ck:Ck S S' scope own del){gs:List (Tg×E×List E)}{pgs:List Comprehension}(t:TrG (TrE lv) S' gs pgs):∀g∈gs,∀i∈Ko g.1,S.top≤i:=by
 induction gs generalizing pgs with
 |nil=>exact fun g h=>absurd h List.not_mem_nil
 |cons g gs ih=>
  obtain ⟨_,_,_,_,_,_,_,t,_,ts⟩:=t.inv
  intro g h
  rcases List.mem_cons.mp h with h | h
  ·rw [h];exact Km ck t
  ·exact ih ts g h
end
end Mine
end
section
open PySem PySem.W PyProof.Rows
set_option autoImplicit false
namespace Mine
section
variable {lv:Nat} {F:Ahl} {n:Nat} {φ:Fx} {loc:Bl} {σ σ':St} {c:Cf} {S S':Sx} {env:Env} {A:Around} {EE:Value→Shared→Prop} {Q:Value→Shared→Prop}
theorem Lr{loc':Bl}{del:List Nat}{σe σd:St}{c₅:Cf}{D₁ L₀:Addr}{scope:Scope}(R:Rep φ loc σ c)(old:∀i L,loc i=some L→loc' i=some L)(new:∀i L,loc' i=some L→loc i=some L∨i∈del)(g₅:Gy φ (fun b=>b=D₁) loc σ c loc' σe c₅)(hlen:σd.length=σe.length)
  (hdel:∀i s,σd.get i=some s→σe.get i=some s∧i∉del) (hD0:c.s.heap.get? D₁=none) (nt₅:¬Aa loc' σe c₅.vs D₁) (hv:∀i L,loc i=some L→c₅.vs i=c.vs i) (nL0:c.s.heap.get? L₀=none) (hloc:Az scope→Ex2 fun i x=>loc' i=some (.dct L₀ x)) :
  Ge φ loc σ c σd c₅∧¬Aa loc σd c₅.vs D₁∧(Az scope→c₅.M L₀∧¬Aa loc σd c₅.vs L₀∧∃m,c₅.s.heap.Ns L₀ m):=by
 have hs:∀i s,σd.get i=some s→σe.get i=some s∧∃L,loc i=some L:=fun i s e=>by
  obtain ⟨e1,e2⟩:=hdel i s e
  obtain ⟨o,d⟩:=s
  obtain ⟨L,hL,_⟩:=g₅.rep.vals i o d e1
  exact ⟨e1,L,(new i L hL).resolve_right e2⟩
 have tn:∀b,Aa loc σd c₅.vs b→Aa loc' σe c₅.vs b:=fun b t=>Nk old hs t
 refine ⟨⟨⟨g₅.rep.narrow old hs hlen,⟨g₅.step.keep,fun b o m t e=>g₅.step.pend b o m (fun q=>q.elim t (fun q=>by rw [q,hD0] at e;exact nos e)) e,g₅.step.old,fun b t=>?_⟩,g₅.toks,g₅.gens,g₅.os,g₅.Ain⟩,hv⟩,fun t=>nt₅ (tn _ t),fun hl=>?_⟩
 ·rcases g₅.step.Aiq b (.inl (tn b t)) with (q | q) | q
  ·exact .inl q
  ·exact .inr (by rw [q];exact hD0)
  ·exact .inr q
 ·obtain ⟨i,x,hLi⟩:=hloc hl
  obtain ⟨n',mL',_,_⟩:=g₅.rep.locs i _ hLi
  refine ⟨mL',fun t=>?_,n'⟩
  rcases t with ⟨j,L',hj,q⟩ | ⟨j,o,d,e,ho,va⟩
  ·obtain ⟨o,e⟩:=R.Ahd _ (R.locs j L' hj).2.1
   rw [q,nL0] at e;exact nos e
  ·exact g₅.rep.apart j o d _ (hs j _ e).1 ho va i _ hLi rfl
theorem Jk(ev:D8 F n)(evt:Ew F n)(Gx:Gl φ.hT)(r:Da n A)(V:Ahk φ S loc env)(R:Rep φ loc σ c)
  {own:List (Str×Nat)} {elt:E} {tg:Tg} {it:E} {cs:List E} {gs:List (Tg×E×List E)} {Aho ptg pit:Expr} {pcs:List Expr} {pgs:List Comprehension} {scope:Scope} {p:Pos} {use:Option (Value→Sem Unit)}
  (hck:El S S' scope own (Dz ((tg,it,cs) :: gs))=true) (hen:Fr ((tg,it,cs) :: gs)=true) (hpl:Bn pit) (tit:TrI (TrE lv) S it pit) (ttg:Ahw S' tg ptg) (tcs:Ahx (TrE lv) S' cs pcs) (tgs:TrG (TrE lv) S' gs pgs) (telt:TrE lv S' elt Aho)
  {ds:List D} {σe:St} (h:Eb F elt ((tg,it,cs) :: gs) σ []=some (ds,σe))
  (hC:∀v c' L,Ge φ loc σ c (Jj ((tg,it,cs) :: gs) σe) c'→Dv c loc (Jj ((tg,it,cs) :: gs) σe) c' .own (.list ds) v→c.s.heap.get? L=none→v≠.ref L→(Az scope→c'.M L∧¬Aa loc (Jj ((tg,it,cs) :: gs) σe) c'.vs L∧∃m,c'.s.heap.Ns L m)→
   wpAny (model prog w) A (Nj use v) (fun ζ s''=>(Az scope→∃m,s''.heap.Ns L m)∧∀h',Heap.SameBut L s''.heap h'→(¬Az scope→h'=s''.heap)→Q (Ni use (v)) { s'' with heap:=h' }) EE c'.s) :
  wpAny (model prog w) A (comprehension (.ListComp Aho (⟨ptg,pit,pcs,0⟩ :: pgs) scope p) scope env pit.pos (newList []) false (eval pit env) use) Q EE c.s:=by
 have ck:=Adu hck
 obtain ⟨⟨l,σ₁⟩,h1,h⟩:=bs h
 have hfree:∀x,(x,NameKind.free)∈scope.names→∃a,env.cells.lookup x=some a:=fun x hx=>by
  obtain ⟨h1,i,h2⟩:=ck.free x hx
  obtain ⟨L,_,pl⟩:=V.vars x i h2
  induction pl using Place.casesOn with
  |dct q=>rw [q] at h1;exact absurd h1 Bool.false_ne_true
  |@cel a _ q=>exact ⟨a,q⟩
 obtain ⟨cl,hcl,hcl1,hcl2⟩:=Lu hfree
 refine Na (use:=use) (g:=⟨ptg,pit,pcs,0⟩) (gs:=pgs) rfl (hpl env) hcl ck.kind (fun x hx hl=>by
  have:=D3 ck.nd3 (show (x.1,x.2)∈scope.names from hx)
  rw [hl] at this;exact this) ?_
 refine Ih ev Gx r V R tit h1 fun itv c₁ P g₁ x₁ hP=>?_
 refine wpAny_newList ?_ (by simp [sizeLine_eq])
 have gr:=Aip.push g₁.go.rep.Ahd { cls:=.type "list",data:=.seq ([]:List Value).toArray } rfl
 have hn:=A9 c₁.s.heap
 have g₂:=g₁.go.rep.grows gr
 have acc₂:Acc c₁.s.heap.objs.size ⟨{ c₁.s with heap:=c₁.s.heap.push { cls:=.type "list",data:=.seq ([]:List Value).toArray } },fun b=>c₁.M b∨b=c₁.s.heap.objs.size,c₁.vs⟩ []:=Ahh.list (n:=0) (vs:=[]) (.inr rfl) (Heap.get?_push_size _ rfl) .nil (Nat.zero_le _)
 have nt₂:¬Aa loc σ₁ c₁.vs c₁.s.heap.objs.size:=Aa.ne (c:=c₁) g₁.go.rep hn
 refine Js ?_
 obtain ⟨loc',M',V',g₃,keep,old,new,mL,nL,⟨m,ns⟩,mold,hloc⟩:=Ls (c:=⟨{ c₁.s with heap:=c₁.s.heap.push { cls:=.type "list",data:=.seq ([]:List Value).toArray } },fun b=>c₁.M b∨b=c₁.s.heap.objs.size,c₁.vs⟩) V ck g₂.rep hcl1 hcl2
 have acc₃:=Ahh.go g₃ acc₂ fun a q=>by obtain rfl:=Value.ref.inj q;exact nt₂
 have nt₃:=B5 g₃ (b:=c₁.s.heap.objs.size) (.inr rfl) g₂.rep nt₂
 have g₁₃:=g₁.go.trans (g₂.trans g₃)
 have x₃:=x₁.mono (g₂.trans g₃).step (g₂.trans g₃).toks fun b pb t=>(hP b pb).2 t
 have hPn:∀b,P b→∃o,c₁.s.heap.get? b=some o:=fun b pb=>g₁.go.rep.Ahd b (x₁.sub b pb)
 have hP₃:∀b,P b→c.s.heap.get? b=none∧¬Aa loc' σ₁ c₁.vs b∧b≠c₁.s.heap.objs.size:=fun b pb=>⟨(hP b pb).1,B5 (g₂.trans g₃) (x₁.sub b pb) g₁.go.rep (hP b pb).2,fun q=>by
  obtain ⟨o,e⟩:=hPn b pb
  rw [q,hn] at e;cases e⟩
 have hD0:c.s.heap.get? c₁.s.heap.objs.size=none:=g₁.go.Ain _ hn
 have hD:φ.h₀.get? c₁.s.heap.objs.size=none:=R.fresh hD0
 have Fz:∀i,(∃L,loc i=some L)→∃L,loc' i=some L:=fun i ⟨L,h⟩=>⟨L,old i L h⟩
 have fz:∀i,S.top≤i→¬ ∃L,loc i=some L:=fun i hi ⟨L,h⟩=>absurd (V.top i L h) (Nat.not_lt.mpr hi)
 have ha:∀g∈(⟨ptg,pit,pcs,0⟩ :: pgs:List Comprehension),g.is_async=0:=fun g hg=>by
  rcases List.mem_cons.mp hg with q | q
  ·rw [q]
  ·exact T5 tgs g q
 have run:codeAny (model prog w) A (.compLoop (.ListComp Aho (⟨ptg,pit,pcs,0⟩ :: pgs) scope p) 0 itv (.ref c₁.s.heap.objs.size) (On env scope _ cl)) _ _:=
  S5 evt Gx r V' ha hD Fz (Aca ev evt Gx r V' ha telt hD Fz gs (pgs:=pgs) (k:=0) rfl tgs (fun g hg=>Gu hen g (List.mem_cons_of_mem _ hg)) fun g hg i hi=>fz i (Zs ck tgs g hg i hi)) (k:=0) rfl ttg tcs (fun i hi=>fz i (Km ck ttg i hi)) h R g₁₃.y x₃
   (fun e=>by
    obtain ⟨is,q⟩:=Gu hen _ List.mem_cons_self e
    dsimp only at q;subst q;cases ttg;rfl) hP₃ acc₃ nt₃ (R:=fun r s'=>match r with
     |.error _=>False
     |.ok _=>wpAny (model prog w) A (Nj use (.ref c₁.s.heap.objs.size)) (fun ζ s''=>(Az scope→∃m,s''.heap.Ns (c₁.s.heap.push { cls:=.type "list",data:=.seq ([]:List Value).toArray }).objs.size m)∧∀h',Heap.SameBut (c₁.s.heap.push { cls:=.type "list",data:=.seq ([]:List Value).toArray }).objs.size s''.heap h'→(¬Az scope→h'=s''.heap)→Q (Ni use (.ref c₁.s.heap.objs.size)) { s'' with heap:=h' }) EE s')
   (fun c₅ g₅ ac₅ nt₅ hv₅=>by
    obtain ⟨hlen,hdel⟩:=Ol (gs:=(tg,it,cs) :: gs) (σ:=σe)
    have nL0:c.s.heap.get? _=none:=(g₁.go.trans g₂).Ain _ nL
    obtain ⟨ge,nt₆,hl⟩:=Lr R old new g₅ hlen hdel hD0 nt₅ (fun i L hL=>(hv₅ i ⟨L,hL⟩).trans (g₁.vs i L hL)) nL0 hloc
    refine hC (.ref c₁.s.heap.objs.size) c₅ _ ge ⟨ac₅,fun a q=>Value.ref.inj q ▸ ⟨hD0,nt₆⟩⟩ nL0 (fun q=>?_) hl
    have q':=(Value.ref.inj q).symm
    rw [q',Heap.get?_push_size _ rfl] at nL;exact nos nL.symm)
 exact D6 (fun g q=>ha g (List.mem_of_getElem? q)) run fun E'=>La x₃ run
end
end Mine
end
section
open PySem PySem.W PyProof.Rows
set_option autoImplicit false
namespace Mine
section
variable {lv:Nat} {F:Ahl} {n:Nat} {φ:Fx} {loc loc':Bl} {σ σ':St} {c c':Cf} {S S':Sx} {env:Env} {A:Around} {EE:Value→Shared→Prop}
theorem Go.letGo(R:Rep φ loc σ c)(g:Go φ loc σ c loc' σ' c'){L:Addr}{lc:Prop}(nL:c.s.heap.get? L=none)(hl:lc→c'.M L∧¬Aa loc' σ' c'.vs L){h':Heap}
  (sb:Heap.SameBut L c'.s.heap h') (hn:¬lc→h'=c'.s.heap) :
  ∃M',Go φ loc σ c loc' σ' ⟨{ c'.s with heap:=h' },M',c'.vs⟩∧∀ {o:Own} {d:D} {v:Value},v≠.ref L→Dv c loc' σ' c' o d v→Dv c loc' σ' ⟨{ c'.s with heap:=h' },M',c'.vs⟩ o d v:=by
 by_cases h:lc
 ·obtain ⟨mL,nt⟩:=hl h
  have x:AtP (fun b=>b=L) c'.s { c'.s with heap:=h' }:=⟨fun b o hb e=>(sb.2 b hb).trans e,rfl,rfl,Nat.le_refl _⟩
  have st:=x.step (M:=c'.M) (M':=fun b=>c'.M b∧b≠L) (fun b p=>p ▸ mL) (fun b m=>m.1) (fun b m n=>⟨m,n⟩)
  refine ⟨fun b=>c'.M b∧b≠L,(g.y (Y:=fun ζ=>False)).pend R (P:=fun b=>b=L) (fun b p=>p ▸ mL) (fun b p=>p ▸ nL) (fun b p=>p ▸ nt) x (fun b m=>m.1) (fun b m n=>⟨m,n⟩) (fun b m=>?_) |>.go fun ζ f=>f,fun {o d v} hv p=>?_⟩
  ·obtain ⟨o,e⟩:=g.rep.Ahd b m.1
   exact ⟨o,x.keep b o m.2 e⟩
  ·induction o using Own.casesOn with
   |sh=>exact Ahb.mono st (Nat.le_refl _) p
   |bor=>exact p
   |own=>exact ⟨Ahh.mono' st (Nat.le_refl _) p.1 (fun a o q e=>x.keep a o (fun r=>hv (by rw [q,r])) e) (fun a q m=>⟨m,fun r=>hv (by rw [q,r])⟩),p.2⟩
 ·have:=hn h
  subst this
  exact ⟨c'.M,g,fun ζ p=>p⟩
variable (ev:D8 F n) (evt:Ew F n) (Gx:Gl φ.hT) (r:Da n A) (V:Ahk φ S loc env) (R:Rep φ loc σ c)
include ev evt Gx r V R
theorem Yh{own:List (Str×Nat)}{elt:E}{tg:Tg}{it:E}{cs:List E}{gs:List (Tg×E×List E)}{Aho ptg pit:Expr}{pcs:List Expr}{pgs:List Comprehension}{scope:Scope}{p:Pos}{o:Own}{d:D}{Q:Value→Shared→Prop}
  (hck:El S S' scope own (Dz ((tg,it,cs) :: gs))=true) (hen:Fr ((tg,it,cs) :: gs)=true) (hpl:Bn pit) (tit:TrI (TrE lv) S it pit) (ttg:Ahw S' tg ptg) (tcs:Ahx (TrE lv) S' cs pcs) (tgs:TrG (TrE lv) S' gs pgs) (telt:TrE lv S' elt Aho)
  (e:Av F (.comp elt ((tg,it,cs) :: gs)) σ=some (o,d,σ'))
  (hP:∀v c',Ge φ loc σ c σ' c'→Dv c loc σ' c' o d v→Q v c'.s) :
  wpAny (model prog w) A (eval (.ListComp Aho (⟨ptg,pit,pcs,0⟩ :: pgs) scope p) env) Q EE c.s:=by
 obtain ⟨⟨ds,σe⟩,h1,e⟩:=ms e
 obtain ⟨rfl,rfl,rfl⟩:=pm3 e
 rw [eval_ListComp]
 refine Jk (use:=none) ev evt Gx r V R hck hen hpl tit ttg tcs tgs telt h1 fun v c' L g p nL nv hl=>?_
 refine wpAny_pure ⟨fun h=>(hl h).2.2,fun h' sb hn=>?_⟩
 obtain ⟨M',g',hp⟩:=g.go.letGo R nL (fun h=>⟨(hl h).1,(hl h).2.1⟩) sb hn
 exact hP v ⟨{ c'.s with heap:=h' },M',c'.vs⟩ ⟨g',g.vs⟩ (hp nv p)
theorem Abg{own:List (Str×Nat)}{elt:E}{tg:Tg}{it:E}{cs:List E}{gs:List (Tg×E×List E)}{Aho ptg pit:Expr}{pcs:List Expr}{pgs:List Comprehension}{scope:Scope}{p q p':Pos}{x:Str}{i:Nat}{Q:Flow→Shared→Prop}
  (hck:El S S' scope own (Dz ((tg,it,cs) :: gs))=true) (hen:Fr ((tg,it,cs) :: gs)=true) (hpl:Bn pit) (tit:TrI (TrE lv) S it pit) (ttg:Ahw S' tg ptg) (tcs:Ahx (TrE lv) S' cs pcs) (tgs:TrG (TrE lv) S' gs pgs) (telt:TrE lv S' elt Aho)
  (hx:S.vars.lookup x=some i) (hlc:D4 (S.names.lookup x)=true) {ds:List D} {σe:St} (h1:Eb F elt ((tg,it,cs) :: gs) σ []=some (ds,σe))
  (hQ:∀c',Go φ loc σ c loc ((Jj ((tg,it,cs) :: gs) σe).put i (.own,.list ds)) c'→Q .next c'.s) :
  wpAny (model prog w) A (exec (.Assign [.Name x q] (.ListComp Aho (⟨ptg,pit,pcs,0⟩ :: pgs) scope p) p') env) Q EE c.s:=by
 have sw:∃b,swapsWith (.ListComp Aho (⟨ptg,pit,pcs,0⟩ :: pgs) scope p) (some (.Name x q)) p'.line env=pure b:=⟨_,rfl⟩
 obtain ⟨b,sw⟩:=sw
 induction b using Bool.casesOn with
 |false=>
  refine wpAny_Assign_Name ?_ sw
  rw [eval_ListComp]
  refine Jk (use:=none) ev evt Gx r V R hck hen hpl tit ttg tcs tgs telt h1 fun v c' L g p nL nv hl=>?_
  refine wpAny_pure ⟨fun h=>(hl h).2.2,fun h' sb hn=>?_⟩
  obtain ⟨M',g',hp⟩:=g.go.letGo R nL (fun h=>⟨(hl h).1,(hl h).2.1⟩) sb hn
  exact Dh (c:=⟨{ c'.s with heap:=h' },M',c'.vs⟩) V R g' hx (Ef hlc) (hp nv p) fun c'' g'' ζ ζ ζ ζ=>hQ c'' g''
 |true=>
  rw [exec_Assign_Name_used _ _ _ _ sw]
  refine wpAny_bind (wpAny_standAt (wpAny_bind ?_))
  unfold evalThenUse
  refine wpAny_bind ?_
  refine Jk (use:=some (assign (.Name x q) env)) ev evt Gx r V R hck hen hpl tit ttg tcs tgs telt h1 fun v c' L g p nL nv hl=>?_
  refine wpAny_assign_Name (Dh V R g.go hx (Ef hlc) p fun c'' g'' hM hv hk tk=>?_)
  have ht:Az scope→c''.M L∧¬Aa loc ((Jj ((tg,it,cs) :: gs) σe).put i (.own,.list ds)) c''.vs L:=fun h=>by
   obtain ⟨mL,nt,_⟩:=hl h
   refine ⟨hM ▸ mL,fun t=>?_⟩
   rcases t with t | ⟨j,o',d',e',ho,va⟩
   ·exact nt (.inl t)
   ·rw [hv] at va
    dsimp only at va
    rcases St.get_put' e' with ⟨rfl,e2⟩ | ⟨hj,e2⟩
    ·rw [if_pos rfl] at va;exact nv va
    ·rw [if_neg hj] at va;exact nt (.inr ⟨j,o',d',e2,ho,va⟩)
  refine ⟨fun h=>?_,fun h' sb hn=>?_⟩
  ·obtain ⟨mL,nt,m,ns⟩:=hl h
   exact ⟨m,ns.at' fun o e=>hk _ o nt e⟩
  ·obtain ⟨M',g',hp⟩:=g''.letGo R nL ht sb hn
   exact wpAny_pure (wpAny_pure (hQ ⟨{ c''.s with heap:=h' },M',c''.vs⟩ g'))
end
end Mine
end
section
open PySem PySem.W PyProof.Rows
set_option maxRecDepth 100000
namespace Mine
theorem G7:typeLookup (.type "zip") "__getattr__" = pure none:=by rw [typeLookup_type,builtinLookup_eq_fast];kernel_rfl
theorem Ji:typeLookup (.type "zip") "keys" = pure none:=by rw [typeLookup_type,builtinLookup_eq_fast];kernel_rfl
theorem En:entryFor table "zip.__getattribute__" = some Builtin.«object.__getattribute__»:=
 entryFor_alias (id':= "object.__getattribute__") (by kernel_rfl) (by decide +kernel) (by decide +kernel) (by kernel_rfl)
theorem Yo{α:Type}{prog:Program}{w:World}{A:Around}{E:Value→Shared→Prop}{s:Shared}{o:Value}{name:Str}{msg:Str}{Q:α→Shared→Prop}(hh:A.handled=none)
  (h:∀h' tk e,Heap.NewAttrErr s.heap h' e o name→s.toks≤tk→E (.ref e) { s with heap:=h',toks:=tk }) (hm:msg.length≤sizeLine:=by size_fits) :
  wpAny (model prog w) A (raiseAttrError o name msg:Sem α) Q E s:=by
 delta raiseAttrError
 refine wpAny_bind (wpAny_mkStr (wpAny_bind ?_) hm)
 delta newExc newTuple
 refine wpAny_bind (wpAny_newObj_type ?_ (by size_fits))
 refine wpAny_bind (m:=firstArgMember _ _) (wpAny_of_eq (a:=Value.none) (by simp only [firstArgMember,attrError_no_first];rfl) ?_)
 rw [ownMembersOf_AttributeError]
 refine wpAny_newObj_type ?_ (by size_fits)
 obtain ⟨hp,g,d,tk,os⟩:=s
 have f1:=sub_AttributeError
 repeat (any_goals (first | assumption | wp_step))
 delta raiseNew
 refine wpAny_bind (wpAny_handled ?_)
 rw [hh]
 first
  |refine wpAny_throw ?_
  |refine wpAny_bind (wpAny_pure (wpAny_throw ?_))
 dsimp only
 refine h _ _ _ ⟨fun b ob hb=>?_,Heap.get?_none_of_le (by simp),?_⟩ (by dsimp only;lia)
 ·have hlt:b<hp.objs.size:=Heap.lt_size hb
  refine (Heap.get?_update_other _ _ ?_).trans (Heap.get?_push_of_some _ (Heap.get?_push_of_some _ hb))
  simp only [Heap.size_push]
  exact Nat.ne_of_gt (Nat.lt_succ_of_lt hlt)
 ·exact ⟨_,_,Heap.get?_update_self _ (Heap.get?_push_size _ rfl) rfl⟩
theorem Oh(a:Addr)(vs:Array Value)(u:Tok):Meets (Builtin.«object.__getattribute__» ⟨[.ref a,.str "keys" u],[]⟩) (fun A R s=>s.heap.get? a=some { cls:=.type "zip",dict:=none,data:=.fields vs,slots:=#[] }∧A.handled=none∧
   ∀h' tk e,Heap.NewAttrErr s.heap h' e (.ref a) "keys" → s.toks≤tk→R (.error (.ref e)) { s with heap:=h',toks:=tk }):=
 Meets.of_wp fun prog w A R s hs=>by
  obtain ⟨hp,g,d,tk,os⟩:=s
  obtain ⟨hz,hs⟩:=hs
  have hT:(⟨hp,g,d,tk,os⟩ : Shared).TypeIs (.ref a) "zip" := ⟨_,hz,rfl⟩
  have hm:=Ji
  delta Builtin.«object.__getattribute__»
  repeat (any_goals (first | assumption | wp_step))
  exact Yo hs.1 hs.2 (attrMsg_fits (by decide +kernel) (by size_fits))
theorem Abu{prog:Program}{w:World}{A:Around}{E:Value→Shared→Prop}{s:Shared}{a:Addr}{vs:Array Value}{Q:Option Value→Shared→Prop}(hz:s.heap.get? a=some { cls:=.type "zip",dict:=none,data:=.fields vs,slots:=#[] })(hA:A.handled=none)
  (h:∀h' tk,(∀b o,s.heap.get? b=some o→h'.get? b=some o)→s.toks≤tk→Q none { s with heap:=h',toks:=tk }) :
  wpAny (model prog w) A (getAttr? (.ref a) "keys") Q E s:=by
 obtain ⟨hp,g,d,tk,os⟩:=s
 have hT:∀n,(⟨hp,g,d,n,os⟩ : Shared).TypeIs (.ref a) "zip" := fun ζ=>⟨_,hz,rfl⟩
 have hT0:=hT tk
 have hT1:=hT (tk+1)
 have f1:=sub_AttributeError
 have f3:=F.slot_zip_getattribute.lookup
 have f4:=F.slot_zip_getattribute.bind (.ref a)
 have f5:=G7
 unfold getAttr? getAttrBy? getAttrBy
 repeat (any_goals (first | assumption | ((with_reducible show wpAny _ _ (call (Value.builtin "zip.__getattribute__") _ _) _ _ _);refine call_meets F.slot_zip_getattribute (hT _) En (F.args_zip_getattribute_2 _ _) (Oh a vs _) ⟨hz,hA,fun h' tk' e hx htk=>?_⟩) | wp_step))
 obtain ⟨t',u',he⟩:=hx.there
 show wpAny _ _ (getattributeRaised _ _ _ _ _ _ _) _ _ _
 delta getattributeRaised
 repeat (any_goals (first | assumption | wp_step))
 exact h _ _ hx.keeps (by dsimp only at htk ⊢;exact Nat.le_of_succ_le htk)
end Mine
end
section
open PySem PySem.W PyProof.Rows
set_option maxRecDepth 100000
namespace Mine
abbrev ZZ(h:Heap)(z TI TO:Addr)(f0 f1:Value):Prop:=
 h.get? z=some { cls:=.type "zip",dict:=none,data:=.fields #[f0,f1,.bool false,.ref TI,.ref TO],slots:=#[] }
def AIt(h:Heap)(i:Addr)(x:Str)(t:Tok)(k:Nat):Prop:=h.IsStrIter i "str_ascii_iterator" x t k∨h.IsStrIter i "str_iterator" x t k
theorem AIt.at{h h':Heap}{i:Addr}{x:Str}{t:Tok}{k:Nat}(a:AIt h i x t k)(hs:∀o,h.get? i=some o→h'.get? i=some o):AIt h' i x t k:=by
 rcases a with ⟨o,ho,r⟩ | ⟨o,ho,r⟩
 ·exact .inl ⟨o,hs o ho,r⟩
 ·exact .inr ⟨o,hs o ho,r⟩
theorem AIt.lt{h:Heap}{i:Addr}{x:Str}{t:Tok}{k:Nat}(a:AIt h i x t k):∃o,h.get? i=some o:=by
 rcases a with ⟨o,ho,r⟩ | ⟨o,ho,r⟩ <;> exact ⟨o,ho⟩
section
variable {prog:Program} {w:World} {A:Around} {E:Value→Shared→Prop} {s:Shared}
theorem Gb{a:Addr}{Q:Option Obj→Shared→Prop}(h:Q (s.heap.get? a) s):wpAny (model prog w) A (loadIfAlive a) Q E s:=fun Γ p ζ=>by
 show Sem.wp _ _ (.loadIfAlive a .pure) _ _ _ _
 rw [Sem.wp_loadIfAlive,Sem.wp_pure];exact h
theorem Fw{it t:Addr}{i:Nat}{items}{x:Value}{Q:Value→Shared→Prop}(hit:s.heap.IsTupleIter it t i)
  (ht:s.heap.IsTuple t items) (hx:items[i]? = some x)
  (hQ:∀h',h'.IsTupleIter it t (i+1)→Heap.SameBut it s.heap h'→Q x { s with heap:=h' }) :
  wpAny (model prog w) A (Builtin.SmallTypes.nextOf (.ref it)) Q E s:=by
 obtain ⟨o,ho,hc,hd⟩:=id hit
 obtain ⟨ol,hol,_,nl,hdl⟩:=ht
 unfold Builtin.SmallTypes.nextOf
 refine wpAny_bind (wpAny_callSpecial?_slot (name:=Str.ofString "__next__") hit.typeIs F.slot_tuple_iterator_next
  (wpAny_call_entry F.slot_tuple_iterator_next hit.typeIs F.entry_tuple_iterator_next ?_ (F.args_tuple_iterator_next_1 _)))
 show wpAny _ _ (field (.ref it) 0 >>= _) _ _ s
 refine wpAny_bind (wpAny_field ho hd (x:=.ref t) rfl ?_)
 show wpAny _ _ (if (Value.ref t == Value.none)=true then _ else _) _ _ s
 rw [if_neg (show ¬((Value.ref t == Value.none)=true) from Bool.false_ne_true)]
 show wpAny _ _ (field (.ref it) 1 >>= _) _ _ s
 refine wpAny_bind (wpAny_field ho hd (x:=.int i 0) rfl ?_)
 show wpAny _ _ (seqItems? (.ref t) >>= _) _ _ s
 refine wpAny_bind (wpAny_seqItems hol hdl ?_)
 simp only [Int.toNat_natCast,hx]
 refine wpAny_bind (wpAny_setField ho hd (by simp) (wpAny_pure ⟨x,rfl,wpAny_pure (hQ _ ?_ (Heap.SameBut.update ..))⟩))
 exact ⟨_,Heap.get?_update_self _ ho (Obj.isFreed_of_fields (Obj.data_mapFields hd _)),(Obj.cls_mapFields ..).trans hc,by
  rw [Obj.data_mapFields hd];simp [rawInt]⟩
theorem Cv{h h':Heap}{i b:Addr}{x:Str}{t:Tok}{k:Nat}(a:AIt h i x t k)(hs:Heap.ExtBut b h h')(hab:i≠b):AIt h' i x t k:=a.at fun o e=>hs i o hab e
theorem Hk{it:Addr}{x:Str}{t:Tok}{i c:Nat}{Q:Value→Shared→Prop}(hit:AIt s.heap it x t i)(hx:x.cps[i]? = some c)
  (hQ:∀h',AIt h' it x t (i+1)→Heap.SameBut it s.heap h'→Q (.str ⟨#[c]⟩ s.toks) { s with heap:=h',toks:=s.toks+1 }) :
  wpAny (model prog w) A (Builtin.SmallTypes.nextOf (.ref it)) Q E s:=by
 rcases hit with h | h
 ·exact wpAny_nextOf_ascii_item h hx fun h' a b=>hQ h' (.inl a) b
 ·exact wpAny_nextOf_wide_item h hx fun h' a b=>hQ h' (.inr a) b
theorem Fb{it:Addr}{x:Str}{t:Tok}{i:Nat}{Q:Value→Shared→Prop}(hh:A.handled=none)(hit:AIt s.heap it x t i)(hx:x.cps[i]? = none)
  (hE:∀h' e,Heap.ExtBut it s.heap h'→(∃o,h'.get? e=some o∧o.cls=.type "StopIteration")→E (.ref e) { s with heap:=h' }) :
  wpAny (model prog w) A (Builtin.SmallTypes.nextOf (.ref it)) Q E s:=by
 rcases hit with h | h
 ·exact wpAny_nextOf_ascii_end hh h hx hE
 ·exact wpAny_nextOf_wide_end hh h hx hE
theorem Yr{z TI TO i1 i2 T:Addr}{x:Str}{t:Tok}{k c:Nat}{ys:Array Value}{y a b:Value}{Q:Value→Shared→Prop}(D:ZipApart z TI TO i1 i2 T T)
  (hz:ZZ s.heap z TI TO .none (.bool false)) (hTI:IsPair s.heap TI (.ref i1) (.ref i2)) (hTO:IsPair s.heap TO a b)
  (h1:AIt s.heap i1 x t k) (h2:s.heap.IsTupleIter i2 T k) (hT:s.heap.IsTuple T ys) (hx:x.cps[k]? = some c) (hy:ys[k]? = some y)
  (hQ:∀h',ZZ h' z TI TO (rawInt s.heap.objs.size) (.bool false)→IsPair h' TO (.str ⟨#[c]⟩ s.toks) y→AIt h' i1 x t (k+1)→h'.IsTupleIter i2 T (k+1)→IsPair h' s.heap.objs.size (.str ⟨#[c]⟩ s.toks) y→h'.objs.size=s.heap.objs.size+1→
   (∀c o,c≠z→c≠TO→c≠i1→c≠i2→s.heap.get? c=some o→h'.get? c=some o)→Q (.ref s.heap.objs.size) { s with heap:=h',toks:=s.toks+1 }) :
  wpAny (model prog w) A (Builtin.«zip.__next__» ⟨[.ref z],[]⟩) (fun fin s'=>∃v,fin=.done (.ret v)∧Q v s') E s:=by
 show wpAny _ _ (field (.ref z) 2 >>= _) _ _ _
 refine wpAny_bind (wpAny_field hz rfl (x:=.bool false) rfl ?_)
 show wpAny _ _ (field (.ref z) 3 >>= _) _ _ _
 refine wpAny_bind (wpAny_field hz rfl (x:=.ref TI) rfl ?_)
 refine wpAny_bind (wpAny_seqItems hTI rfl ?_)
 show wpAny _ _ (Builtin.SmallTypes.ownedTupleIsFree (.ref z) >>= _) _ _ _
 refine wpAny_bind ?_
 unfold Builtin.SmallTypes.ownedTupleIsFree
 refine wpAny_bind (wpAny_field hz rfl (x:=.none) rfl (wpAny_pure ?_))
 simp only [if_true]
 refine wpAny_bind (wpAny_rule ?_)
 refine wpAny_bind (wpAny_field hz rfl (x:=.ref TO) rfl ?_)
 refine wpAny_bind (wpAny_setField_rec hz (by simp) fun h₁ hz₁ hs₁=>?_)
 replace hz₁:ZZ h₁ z TI TO .ellipsis (.bool false):=hz₁
 refine wpAny_bind ?_
 simp only [List.zipIdx_cons,List.zipIdx_nil,List.forIn_cons,List.forIn_nil]
 refine wpAny_bind (wpAny_bind (wpAny_onRaise ?_))
 show wpAny _ _ (Builtin.SmallTypes.nextOf (.ref i1) >>= _) _ _ _
 refine wpAny_bind (Hk (Cv h1 hs₁.extBut D.i1z) hx fun h₂ h1₂ hs₂=>wpAny_pure ?_)
 have hTO₂:IsPair h₂ TO a b:=hs₂.extBut _ _ D.TOi1 (hs₁.extBut _ _ D.TOz hTO)
 refine wpAny_bind (wpAny_seqItems hTO₂ rfl ?_)
 refine wpAny_bind (wpAny_updateSeq_pair hTO₂ fun h₃ hTO₃ hs₃=>?_)
 replace hTO₃:IsPair h₃ TO (.str ⟨#[c]⟩ s.toks) b:=hTO₃
 refine wpAny_bind (wpAny_letGo (wpAny_pure ?_))
 refine wpAny_bind (wpAny_bind (wpAny_onRaise ?_))
 show wpAny _ _ (Builtin.SmallTypes.nextOf (.ref i2) >>= _) _ _ _
 refine wpAny_bind (Fw (((h2.extBut hs₁.extBut D.i2z).extBut hs₂.extBut D.i12.symm).extBut hs₃.extBut D.TOi2.symm)
  (((hT.extBut hs₁.extBut D.l2z).extBut hs₂.extBut D.l2i1).extBut hs₃.extBut D.l2TO) hy fun h₄ h2₄ hs₄=>wpAny_pure ?_)
 have hTO₄:IsPair h₄ TO (.str ⟨#[c]⟩ s.toks) b:=hs₄.extBut _ _ D.TOi2 hTO₃
 refine wpAny_bind (wpAny_seqItems hTO₄ rfl ?_)
 refine wpAny_bind (wpAny_updateSeq_pair hTO₄ fun h₅ hTO₅ hs₅=>?_)
 replace hTO₅:IsPair h₅ TO (.str ⟨#[c]⟩ s.toks) y:=hTO₅
 refine wpAny_bind (wpAny_letGo (wpAny_pure (wpAny_pure ?_)))
 refine wpAny_bind (wpAny_seqItems hTO₅ rfl ?_)
 refine wpAny_bind (wpAny_newTuple ?_)
 have hsz:h₅.objs.size=s.heap.objs.size:=by rw [hs₅.1,hs₄.1,hs₃.1,hs₂.1,hs₁.1]
 have hz₅:ZZ h₅ z TI TO .ellipsis (.bool false):=hs₅.extBut _ _ D.TOz.symm (hs₄.extBut _ _ D.i2z.symm (hs₃.extBut _ _ D.TOz.symm (hs₂.extBut _ _ D.i1z.symm hz₁)))
 have hk₅:∀c o,c≠z→c≠TO→c≠i1→c≠i2→s.heap.get? c=some o→h₅.get? c=some o:=fun c o c1 c2 c3 c4 e=>
  hs₅.extBut _ _ c2 (hs₄.extBut _ _ c4 (hs₃.extBut _ _ c2 (hs₂.extBut _ _ c3 (hs₁.extBut _ _ c1 e))))
 have h1₅:AIt h₅ i1 x t (k+1):=Cv (Cv (Cv h1₂ hs₃.extBut D.TOi1.symm) hs₄.extBut D.i12) hs₅.extBut D.TOi1.symm
 have h2₅:h₅.IsTupleIter i2 T (k+1):=h2₄.extBut hs₅.extBut D.TOi2.symm
 have hzlt:z<h₅.objs.size:=Heap.lt_size hz₅
 have hTOlt:TO<h₅.objs.size:=Heap.lt_size hTO₅
 have hi1lt:i1<h₅.objs.size:=by obtain ⟨_,e⟩:=h1₅.lt;exact Heap.lt_size e
 have hi2lt:i2<h₅.objs.size:=by obtain ⟨_,e,_⟩:=h2₅;exact Heap.lt_size e
 show wpAny _ _ (Builtin.SmallTypes.ownedTupleHandOut (.ref z) (.ref h₅.objs.size) >>= _) _ _ _
 refine wpAny_bind ?_
 unfold Builtin.SmallTypes.ownedTupleHandOut
 have hz₆:ZZ (h₅.push { cls:=.type "tuple",data:=.seq #[.str ⟨#[c]⟩ s.toks,y] }) z TI TO .ellipsis (.bool false):=Heap.get?_push_of_some _ hz₅
 refine wpAny_bind (wpAny_setField_rec hz₆ (by simp) fun h₇ hz₇ hs₇=>?_)
 replace hz₇:ZZ h₇ z TI TO (rawInt h₅.objs.size) (.bool false):=hz₇
 refine wpAny_setField_rec hz₇ (by simp) fun h₈ hz₈ hs₈=>?_
 replace hz₈:ZZ h₈ z TI TO (rawInt h₅.objs.size) (.bool false):=hz₈
 have up:∀c o,c≠z→h₅.get? c=some o→h₈.get? c=some o:=fun c o c1 e=>hs₈.extBut _ _ c1 (hs₇.extBut _ _ c1 (Heap.get?_push_of_some _ e))
 have hT₈:IsPair h₈ h₅.objs.size (.str ⟨#[c]⟩ s.toks) y:=hs₈.extBut _ _ (Nat.ne_of_gt hzlt) (hs₇.extBut _ _ (Nat.ne_of_gt hzlt) (Heap.get?_push_size _ rfl))
 have hz8:h₈.objs.size=h₅.objs.size+1:=by rw [hs₈.1,hs₇.1,Heap.size_push]
 rw [hsz] at hz₈ hT₈ hz8
 refine wpAny_pure ⟨_,rfl,?_⟩
 show Q (.ref h₅.objs.size) _
 rw [hsz]
 have h1₈:AIt h₈ i1 x t (k+1):=h1₅.at fun o ho=>up _ o D.i1z ho
 have h2₈:h₈.IsTupleIter i2 T (k+1):=let ⟨o,ho,r⟩:=h2₅;⟨o,up _ o D.i2z ho,r⟩
 exact hQ h₈ hz₈ (up _ _ D.TOz hTO₅) h1₈ h2₈ hT₈ hz8 fun c o c1 c2 c3 c4 e=>up c o c1 (hk₅ c o c1 c2 c3 c4 e)
theorem Yq{z TI TO i1 i2 T T0:Addr}{o0:Obj}{x:Str}{t:Tok}{k c:Nat}{ys:Array Value}{y:Value}{f1:Bool}{Q:Value→Shared→Prop}(D:ZipApart z TI TO i1 i2 T T)
  (hz:ZZ s.heap z TI TO (rawInt T0) (.bool f1)) (hT0:s.heap.get? T0=some o0) (hTI:IsPair s.heap TI (.ref i1) (.ref i2))
  (h1:AIt s.heap i1 x t k) (h2:s.heap.IsTupleIter i2 T k) (hT:s.heap.IsTuple T ys) (hx:x.cps[k]? = some c) (hy:ys[k]? = some y)
  (hQ:∀h',ZZ h' z TI TO (rawInt T0) (.bool true)→AIt h' i1 x t (k+1)→h'.IsTupleIter i2 T (k+1)→IsPair h' s.heap.objs.size (.str ⟨#[c]⟩ s.toks) y→h'.objs.size=s.heap.objs.size+1→
   (∀c o,c≠z→c≠i1→c≠i2→s.heap.get? c=some o→h'.get? c=some o)→Q (.ref s.heap.objs.size) { s with heap:=h',toks:=s.toks+1 }) :
  wpAny (model prog w) A (Builtin.«zip.__next__» ⟨[.ref z],[]⟩) (fun fin s'=>∃v,fin=.done (.ret v)∧Q v s') E s:=by
 have key:∀R:Bool→Shared→Prop,(∀h₀,ZZ h₀ z TI TO (rawInt T0) (.bool true)→Heap.SameBut z s.heap h₀→R false { s with heap:=h₀ })→
   wpAny (model prog w) A (if (Value.bool f1 != Value.bool true)=true then do setField (Value.ref z) 1 (Value.bool true);pure false else pure false) R E s:=by
  intro R hR
  induction f1 using Bool.casesOn with
  |true=>rw [if_neg (by decide)];exact wpAny_pure (hR s.heap hz ⟨rfl,fun ζ ζ=>rfl⟩)
  |false=>
   rw [if_pos (by decide)]
   exact wpAny_bind (wpAny_setField_rec hz (by simp) fun h₁ hz₁ hs₁=>wpAny_pure (hR h₁ hz₁ hs₁))
 show wpAny _ _ (field (.ref z) 2 >>= _) _ _ _
 refine wpAny_bind (wpAny_field hz rfl (x:=.bool false) rfl ?_)
 show wpAny _ _ (field (.ref z) 3 >>= _) _ _ _
 refine wpAny_bind (wpAny_field hz rfl (x:=.ref TI) rfl ?_)
 refine wpAny_bind (wpAny_seqItems hTI rfl ?_)
 show wpAny _ _ (Builtin.SmallTypes.ownedTupleIsFree (.ref z) >>= _) _ _ _
 refine wpAny_bind ?_
 unfold Builtin.SmallTypes.ownedTupleIsFree
 refine wpAny_bind (wpAny_field hz rfl (x:=rawInt T0) rfl ?_)
 show wpAny _ _ (loadIfAlive (Int.toNat (T0:Nat)) >>= _) _ _ _
 refine wpAny_bind (Gb ?_)
 rw [Int.toNat_natCast,hT0]
 simp only [Option.isNone_some,Bool.false_eq_true,if_false]
 refine wpAny_bind (wpAny_field hz rfl (x:=.bool f1) rfl ?_)
 refine key _ fun h₀ hz₀ hs₀=>?_
 simp only [Bool.false_eq_true,if_false,List.forIn_toArray,List.forIn_cons,List.forIn_nil]
 refine wpAny_bind (wpAny_bind (wpAny_bind (wpAny_holding ?_)))
 show wpAny _ _ (Builtin.SmallTypes.nextOf (.ref i1) >>= _) _ _ _
 refine wpAny_bind (Hk (Cv h1 hs₀.extBut D.i1z) hx fun h₂ h1₂ hs₂=>wpAny_pure (wpAny_pure ?_))
 refine wpAny_bind (wpAny_bind (wpAny_holding ?_))
 show wpAny _ _ (Builtin.SmallTypes.nextOf (.ref i2) >>= _) _ _ _
 refine wpAny_bind (Fw ((h2.extBut hs₀.extBut D.i2z).extBut hs₂.extBut D.i12.symm) ((hT.extBut hs₀.extBut D.l2z).extBut hs₂.extBut D.l2i1) hy fun h₃ h2₃ hs₃=>wpAny_pure (wpAny_pure (wpAny_pure ?_)))
 refine wpAny_bind (wpAny_newTuple ?_ (by show 2≤sizeLine;rw [sizeLine_eq];decide))
 have hsz:h₃.objs.size=s.heap.objs.size:=by rw [hs₃.1,hs₂.1,hs₀.1]
 refine wpAny_pure ⟨_,rfl,?_⟩
 show Q (.ref h₃.objs.size) _
 have up:∀b ob,h₃.get? b=some ob→(h₃.push { cls:=.type "tuple",data:=.seq #[.str ⟨#[c]⟩ s.toks,y] }).get? b=some ob:=fun b ob e=>Heap.get?_push_of_some _ e
 have hz₃:ZZ h₃ z TI TO (rawInt T0) (.bool true):=hs₃.extBut _ _ D.i2z.symm (hs₂.extBut _ _ D.i1z.symm hz₀)
 have h1₃:AIt h₃ i1 x t (k+1):=Cv h1₂ hs₃.extBut D.i12
 have q:=hQ (h₃.push { cls:=.type "tuple",data:=.seq #[.str ⟨#[c]⟩ s.toks,y] }) (up _ _ hz₃) (h1₃.at fun o ho=>up _ o ho) (let ⟨o,ho,r⟩:=h2₃;⟨o,up _ o ho,r⟩) (by
  rw [← hsz];exact Heap.get?_push_size _ rfl) (by rw [Heap.size_push,hsz]) fun c o c1 c2 c3 e=>up _ _ (hs₃.extBut _ _ c3 (hs₂.extBut _ _ c2 (hs₀.extBut _ _ c1 e)))
 rw [hsz]
 exact q
theorem Abw{z TI TO i1 i2 T:Addr}{x:Str}{t:Tok}{k:Nat}{a b:Value}{Q:Fin→Shared→Prop}(hh:A.handled=none)(D:ZipApart z TI TO i1 i2 T T)
  (hz:ZZ s.heap z TI TO .none (.bool false)) (hTI:IsPair s.heap TI (.ref i1) (.ref i2)) (hTO:IsPair s.heap TO a b)
  (h1:AIt s.heap i1 x t k) (hx:x.cps[k]? = none)
  (hE:∀h' e,(∀c o,c≠z→c≠TO→c≠i1→c≠i2→s.heap.get? c=some o→h'.get? c=some o)→(∃o,h'.get? e=some o∧o.cls=.type "StopIteration")→E (.ref e) { s with heap:=h' }) :
  wpAny (model prog w) A (Builtin.«zip.__next__» ⟨[.ref z],[]⟩) Q E s:=by
 show wpAny _ _ (field (.ref z) 2 >>= _) _ _ _
 refine wpAny_bind (wpAny_field hz rfl (x:=.bool false) rfl ?_)
 show wpAny _ _ (field (.ref z) 3 >>= _) _ _ _
 refine wpAny_bind (wpAny_field hz rfl (x:=.ref TI) rfl ?_)
 refine wpAny_bind (wpAny_seqItems hTI rfl ?_)
 show wpAny _ _ (Builtin.SmallTypes.ownedTupleIsFree (.ref z) >>= _) _ _ _
 refine wpAny_bind ?_
 unfold Builtin.SmallTypes.ownedTupleIsFree
 refine wpAny_bind (wpAny_field hz rfl (x:=.none) rfl (wpAny_pure ?_))
 simp only [if_true]
 refine wpAny_bind (wpAny_rule ?_)
 refine wpAny_bind (wpAny_field hz rfl (x:=.ref TO) rfl ?_)
 refine wpAny_bind (wpAny_setField_rec hz (by simp) fun h₁ hz₁ hs₁=>?_)
 replace hz₁:ZZ h₁ z TI TO .ellipsis (.bool false):=hz₁
 refine wpAny_bind ?_
 simp only [List.zipIdx_cons,List.zipIdx_nil,List.forIn_cons,List.forIn_nil]
 refine wpAny_bind (wpAny_bind (wpAny_onRaise ?_))
 show wpAny _ _ (Builtin.SmallTypes.nextOf (.ref i1) >>= _) _ _ _
 refine wpAny_bind (Fb hh (Cv h1 hs₁.extBut D.i1z) hx fun h₂ e hs₂ he=>?_)
 obtain ⟨oe,hoe,hce⟩:=he
 have hz₂:ZZ h₂ z TI TO .ellipsis (.bool false):=hs₂ _ _ D.i1z.symm hz₁
 have hez:e≠z:=fun x=>by subst x;rw [hz₂] at hoe;cases hoe;simp at hce
 refine wpAny_setField_rec hz₂ (by simp) fun h₃ ζ hs₃=>hE h₃ e (fun c o c1 ζ c3 ζ x=>hs₃.extBut _ _ c1 (hs₂ _ _ c3 (hs₁.extBut _ _ c1 x))) ⟨oe,hs₃.extBut _ _ hez hoe,hce⟩
theorem Abv{z TI TO i1 i2 T T0:Addr}{o0:Obj}{x:Str}{t:Tok}{k:Nat}{f1:Bool}{Q:Fin→Shared→Prop}(hh:A.handled=none)(D:ZipApart z TI TO i1 i2 T T)
  (hz:ZZ s.heap z TI TO (rawInt T0) (.bool f1)) (hT0:s.heap.get? T0=some o0) (hTI:IsPair s.heap TI (.ref i1) (.ref i2))
  (h1:AIt s.heap i1 x t k) (hx:x.cps[k]? = none)
  (hE:∀h' e,(∀c o,c≠z→c≠TO→c≠i1→c≠i2→s.heap.get? c=some o→h'.get? c=some o)→(∃o,h'.get? e=some o∧o.cls=.type "StopIteration")→E (.ref e) { s with heap:=h' }) :
  wpAny (model prog w) A (Builtin.«zip.__next__» ⟨[.ref z],[]⟩) Q E s:=by
 have key:∀R:Bool→Shared→Prop,(∀h₀,ZZ h₀ z TI TO (rawInt T0) (.bool true)→Heap.SameBut z s.heap h₀→R false { s with heap:=h₀ })→
   wpAny (model prog w) A (if (Value.bool f1 != Value.bool true)=true then do setField (Value.ref z) 1 (Value.bool true);pure false else pure false) R E s:=by
  intro R hR
  induction f1 using Bool.casesOn with
  |true=>rw [if_neg (by decide)];exact wpAny_pure (hR s.heap hz ⟨rfl,fun ζ ζ=>rfl⟩)
  |false=>
   rw [if_pos (by decide)]
   exact wpAny_bind (wpAny_setField_rec hz (by simp) fun h₁ hz₁ hs₁=>wpAny_pure (hR h₁ hz₁ hs₁))
 show wpAny _ _ (field (.ref z) 2 >>= _) _ _ _
 refine wpAny_bind (wpAny_field hz rfl (x:=.bool false) rfl ?_)
 show wpAny _ _ (field (.ref z) 3 >>= _) _ _ _
 refine wpAny_bind (wpAny_field hz rfl (x:=.ref TI) rfl ?_)
 refine wpAny_bind (wpAny_seqItems hTI rfl ?_)
 show wpAny _ _ (Builtin.SmallTypes.ownedTupleIsFree (.ref z) >>= _) _ _ _
 refine wpAny_bind ?_
 unfold Builtin.SmallTypes.ownedTupleIsFree
 refine wpAny_bind (wpAny_field hz rfl (x:=rawInt T0) rfl ?_)
 show wpAny _ _ (loadIfAlive (Int.toNat (T0:Nat)) >>= _) _ _ _
 refine wpAny_bind (Gb ?_)
 rw [Int.toNat_natCast,hT0]
 simp only [Option.isNone_some,Bool.false_eq_true,if_false]
 refine wpAny_bind (wpAny_field hz rfl (x:=.bool f1) rfl ?_)
 refine key _ fun h₀ hz₀ hs₀=>?_
 simp only [Bool.false_eq_true,if_false,List.forIn_toArray,List.forIn_cons,List.forIn_nil]
 refine wpAny_bind (wpAny_bind (wpAny_bind (wpAny_holding ?_)))
 show wpAny _ _ (Builtin.SmallTypes.nextOf (.ref i1) >>= _) _ _ _
 exact wpAny_bind (Fb hh (Cv h1 hs₀.extBut D.i1z) hx fun h₂ e hs₂ he=>hE h₂ e (fun c o c1 ζ c3 ζ x=>hs₂ _ _ c3 (hs₀.extBut _ _ c1 x)) he)
end
end Mine
end
section
open PySem PySem.W PyProof.Rows
set_option maxRecDepth 100000
namespace Mine
theorem Hl:entryFor table "dict.update.loop" = some Builtin.«dict.update.loop»:=entryFor_of_fast (by kernel_rfl)
theorem Dx:plainId "dict.update.loop" = true:=by decide +kernel
section
variable {prog:Program} {w:World} {A:Around} {E:Value→Shared→Prop} {s:Shared}
inductive ZAt(h:Heap)(z TI TO i1 i2 d:Addr):Prop
 |free (a b:Value):ZZ h z TI TO .none (.bool false)→IsPair h TO a b→ZAt h z TI TO i1 i2 d
 |held {T0:Addr} {o0:Obj} {f1:Bool}:ZZ h z TI TO (rawInt T0) (.bool f1)→h.get? T0=some o0→T0≠z→T0≠i1→T0≠i2→T0≠d→ZAt h z TI TO i1 i2 d
structure ZSt(h:Heap)(z TI TO i1 i2 T d:Addr)(x:Str)(t:Tok)(ys:Array Value)(k:Nat):Prop where
 at_:ZAt h z TI TO i1 i2 d
 pair:IsPair h TI (.ref i1) (.ref i2)
 it1:AIt h i1 x t k
 it2:h.IsTupleIter i2 T k
 tup:h.IsTuple T ys
theorem ZSt.keep{h h':Heap}{z TI TO i1 i2 T d:Addr}{x:Str}{t:Tok}{ys:Array Value}{k:Nat}(Z:ZSt h z TI TO i1 i2 T d x t ys k)(hd:d≠z∧d≠TI∧d≠TO∧d≠i1∧d≠i2∧d≠T)(hs:Heap.SameBut d h h'):ZSt h' z TI TO i1 i2 T d x t ys k:=by
 obtain ⟨a1,a2,a3,a4,a5,a6⟩:=hd
 have up:∀b o,b≠d→h.get? b=some o→h'.get? b=some o:=hs.extBut
 refine ⟨?_,up _ _ (Ne.symm a2) Z.pair,Z.it1.at fun o e=>up _ o (Ne.symm a4) e,Z.it2.extBut hs.extBut (Ne.symm a5),Z.tup.extBut hs.extBut (Ne.symm a6)⟩
 cases Z.at_ with
 |free a b h1 h2=>exact .free a b (up _ _ (Ne.symm a1) h1) (up _ _ (Ne.symm a3) h2)
 |held h1 h2 n1 n2 n3 n4=>exact .held (up _ _ (Ne.symm a1) h1) (up _ _ n4 h2) n1 n2 n3 n4
theorem Va{z TI TO i1 i2 T d:Addr}{x:Str}{t:Tok}{k c:Nat}{ys:Array Value}{y:Value}{Q:Option Value→Shared→Prop}(D:ZipApart z TI TO i1 i2 T T)(hdf:∃od,s.heap.get? d=some od)(hd:d≠z∧d≠TI∧d≠TO∧d≠i1∧d≠i2∧d≠T)
  (Z:ZSt s.heap z TI TO i1 i2 T d x t ys k) (hx:x.cps[k]? = some c) (hy:ys[k]? = some y)
  (hQ:∀h',ZSt h' z TI TO i1 i2 T d x t ys (k+1)→IsPair h' s.heap.objs.size (.str ⟨#[c]⟩ s.toks) y→(∀c o,c≠z→c≠TO→c≠i1→c≠i2→s.heap.get? c=some o→h'.get? c=some o)→Q (some (.ref s.heap.objs.size)) { s with heap:=h',toks:=s.toks+1 }) :
  wpAny (model prog w) A (pyNext (.ref z)) Q E s:=by
 have lt:∀ {c o},s.heap.get? c=some o→s.heap.objs.size≠c:=fun e=>Nat.ne_of_gt (Heap.lt_size e)
 have hi1:s.heap.objs.size≠i1:=by obtain ⟨_,e⟩:=Z.it1.lt;exact lt e
 have hi2:s.heap.objs.size≠i2:=by obtain ⟨_,e,_⟩:=Z.it2;exact lt e
 have hdn:s.heap.objs.size≠d:=by obtain ⟨_,e⟩:=hdf;exact lt e
 unfold pyNext
 cases Z.at_ with
 |free a b hz hTO=>
  have hT:s.TypeIs (.ref z) "zip" := ⟨_,hz,rfl⟩
  exact wpAny_bind (wpAny_attempt (wpAny_callSpecial?_slot (name:=Str.ofString "__next__") hT F.slot_zip_next
   (wpAny_call_entry F.slot_zip_next hT F.entry_zip_next
    (Yr D hz Z.pair hTO Z.it1 Z.it2 Z.tup hx hy fun h' a1 a2 a3 a4 a5 a6 a7=>wpAny_pure (hQ h'
     ⟨.held (f1:=false) a1 a5 (lt hz) hi1 hi2 hdn,a7 _ _ D.TIz D.TITO D.TIi1 D.TIi2 Z.pair,a3,a4,let ⟨o,ho,r⟩:=Z.tup;⟨o,a7 _ o D.l1z D.l1TO D.l1i1 D.l1i2 ho,r⟩⟩ a5 a7)) (F.args_zip_next_1 _))))
 |held hz h0 n1 n2 n3 n4=>
  have hT:s.TypeIs (.ref z) "zip" := ⟨_,hz,rfl⟩
  exact wpAny_bind (wpAny_attempt (wpAny_callSpecial?_slot (name:=Str.ofString "__next__") hT F.slot_zip_next
   (wpAny_call_entry F.slot_zip_next hT F.entry_zip_next
    (Yq D hz h0 Z.pair Z.it1 Z.it2 Z.tup hx hy fun h' a1 a3 a4 a5 a6 a7=>wpAny_pure (hQ h'
     ⟨.held (f1:=true) a1 (a7 _ _ n1 n2 n3 h0) n1 n2 n3 n4,a7 _ _ D.TIz D.TIi1 D.TIi2 Z.pair,a3,a4,let ⟨o,ho,r⟩:=Z.tup;⟨o,a7 _ o D.l1z D.l1i1 D.l1i2 ho,r⟩⟩ a5 fun c o c1 ζ c3 c4 e=>a7 c o c1 c3 c4 e)) (F.args_zip_next_1 _))))
theorem Yp{z TI TO i1 i2 T d:Addr}{x:Str}{t:Tok}{k:Nat}{ys:Array Value}{Q:Option Value→Shared→Prop}(hh:A.handled=none)(D:ZipApart z TI TO i1 i2 T T)
  (Z:ZSt s.heap z TI TO i1 i2 T d x t ys k) (hx:x.cps[k]? = none)
  (hQ:∀h',(∀c o,c≠z→c≠TO→c≠i1→c≠i2→s.heap.get? c=some o→h'.get? c=some o)→Q none { s with heap:=h' }) :
  wpAny (model prog w) A (pyNext (.ref z)) Q E s:=by
 unfold pyNext
 cases Z.at_ with
 |free a b hz hTO=>
  have hT:s.TypeIs (.ref z) "zip" := ⟨_,hz,rfl⟩
  refine wpAny_bind (wpAny_attempt (wpAny_callSpecial?_slot (name:=Str.ofString "__next__") hT F.slot_zip_next
   (wpAny_call_entry F.slot_zip_next hT F.entry_zip_next (Abw hh D hz Z.pair hTO Z.it1 hx fun h' e hk he=>?_) (F.args_zip_next_1 _))))
  obtain ⟨o,ho,hc⟩:=he
  exact wpAny_bind (wpAny_isInstance (T:= "StopIteration") (b:=true) ⟨o,ho,hc⟩ isSubtype_stop (wpAny_pure (hQ _ hk)))
 |held hz h0 n1 n2 n3 n4=>
  have hT:s.TypeIs (.ref z) "zip" := ⟨_,hz,rfl⟩
  refine wpAny_bind (wpAny_attempt (wpAny_callSpecial?_slot (name:=Str.ofString "__next__") hT F.slot_zip_next
   (wpAny_call_entry F.slot_zip_next hT F.entry_zip_next (Abv hh D hz h0 Z.pair Z.it1 hx fun h' e hk he=>?_) (F.args_zip_next_1 _))))
  obtain ⟨o,ho,hc⟩:=he
  exact wpAny_bind (wpAny_isInstance (T:= "StopIteration") (b:=true) ⟨o,ho,hc⟩ isSubtype_stop (wpAny_pure (hQ _ hk)))
end
end Mine
end
section
open PySem PySem.W PyProof.Rows
set_option maxRecDepth 100000
namespace Mine
section
variable {prog:Program} {w:World} {A:Around} {E:Value→Shared→Prop} {s:Shared}
structure ZMv(z TO i1 i2 d:Addr)(s s':Shared):Prop where
 keep:∀c o,c≠z→c≠TO→c≠i1→c≠i2→c≠d→s.heap.get? c=some o→s'.heap.get? c=some o
 gens:s'.gens=s.gens
 os:s'.os=s.os
 toks:s.toks≤s'.toks
theorem ZMv.trans{z TO i1 i2 d:Addr}{s s' s'':Shared}(a:ZMv z TO i1 i2 d s s')(b:ZMv z TO i1 i2 d s' s''):ZMv z TO i1 i2 d s s'':=
 ⟨fun c o c1 c2 c3 c4 c5 e=>b.keep c o c1 c2 c3 c4 c5 (a.keep c o c1 c2 c3 c4 c5 e),b.gens.trans a.gens,b.os.trans a.os,Nat.le_trans a.toks b.toks⟩
theorem U9{L:List (Str×Value)}{k:Nat}{p:Str×Value}(hn:(L.map (·.1)).Nodup)(hk:L[k]? = some p):stored (L.take k) p.1 p.2=L.take (k+1):=by
 have hl:k<L.length:=(List.getElem?_eq_some_iff.mp hk).1
 have e:L.take (k+1)=L.take k++[p]:=by rw [List.take_add_one,hk];rfl
 unfold stored
 rw [if_neg,e]
 simp only [List.any_eq_true,decide_eq_true_eq,not_exists,not_and]
 intro q hq hqp
 obtain ⟨j,hj⟩:=List.mem_iff_getElem?.mp hq
 have hjl:j<(L.take k).length:=(List.getElem?_eq_some_iff.mp hj).1
 rw [List.length_take] at hjl
 have hjk:j<k:=by lia
 rw [List.getElem?_take_of_lt hjk] at hj
 have h1:(L.map (·.1))[j]? = some q.1:=by rw [List.getElem?_map,hj];rfl
 have h2:(L.map (·.1))[k]? = some p.1:=by rw [List.getElem?_map,hk];rfl
 have hjl':j<(L.map (·.1)).length:=by rw [List.length_map];exact place_lt hj
 have hjk2:j=k:=(List.getElem?_inj hjl' hn).mp (h1.trans ((congrArg some hqp).trans h2.symm))
 lia
theorem Tr{z TI TO i1 i2 T d:Addr}{x:Str}{t:Tok}{ys:Array Value}{L:List (Str×Value)}{R:Result→Shared→Prop}(hh:A.handled=none)(D:ZipApart z TI TO i1 i2 T T)(hd:d≠z∧d≠TI∧d≠TO∧d≠i1∧d≠i2∧d≠T)
  (hL:∀(k:Nat) (p:Str×Value),L[k]? = some p→∃c,p.1=⟨#[c]⟩∧x.cps[k]? = some c∧ys[k]? = some p.2) (hend:x.cps[L.length]? = none) (hn:(L.map (·.1)).Nodup) (hsz:L.length≤16) :
  ∀(m k:Nat) (i:Int) (s:Shared),k+m=L.length→ZSt s.heap z TI TO i1 i2 T d x t ys k→s.heap.DictOf (strKind prog w) d (L.take k)→
   (∀s',ZMv z TO i1 i2 d s s'→s'.heap.DictOf (strKind prog w) d L→R (.ok (.ret .none)) s')→
   codeAny (model prog w) A (.builtin "dict.update.loop" ⟨[.ref d,.ref z,rawInt i,.none],[]⟩) R s
 |0,k,i,s,hk,Z,hm,hR=>by
  have hk':k=L.length:=by assumption
  subst hk'
  refine codeAny_builtin Hl ?_
  rw [Around.under_plainId Dx _]
  show wpAny _ A.in1 (pyNext (.ref z) >>= _) _ _ s
  refine wpAny_bind (Yp (show A.in1.handled=none from hh) D Z hend fun h' hk'=>?_)
  show wpAny _ A.in1 (Builtin.Dict.addKeywords d [] >>= _) _ _ _
  refine wpAny_bind (wpAny_pure (wpAny_pure ?_))
  rw [List.take_length] at hm
  obtain ⟨o,es,ep,ho,r⟩:=hm
  obtain ⟨a1,a2,a3,a4,a5,a6⟩:=hd
  exact hR { s with heap:=h' } ⟨fun c o c1 c2 c3 c4 ζ e=>hk' c o c1 c2 c3 c4 e,rfl,rfl,Nat.le_refl _⟩ ⟨o,es,ep,hk' _ _ a1 a3 a4 a5 ho,r⟩
 |m+1,k,i,s,hk,Z,hm,hR=>by
  have hlt:k<L.length:=by lia
  obtain ⟨c,hc1,hc2,hc3⟩:=hL k L[k] (List.getElem?_eq_getElem hlt)
  have hd':=hd
  obtain ⟨a1,a2,a3,a4,a5,a6⟩:=hd
  have hdf:∃od,s.heap.get? d=some od:=let ⟨o,es,ep,ho,r⟩:=hm;⟨o,ho⟩
  refine codeAny_builtin Hl ?_
  rw [Around.under_plainId Dx _]
  show wpAny _ A.in1 (pyNext (.ref z) >>= _) _ _ s
  refine wpAny_bind (Va D hdf hd' Z hc2 hc3 fun h' Z' pr kp=>?_)
  refine wpAny_bind (wpAny_holding ?_)
  refine wpAny_bind (wpAny_tryCatch ?_)
  unfold Builtin.Dict.pairItems
  refine wpAny_bind (wpAny_typeOf (T:= "tuple") ⟨_,pr,rfl⟩ ?_)
  rw [if_pos (by decide)]
  refine wpAny_bind (wpAny_seqItems pr rfl (wpAny_pure ?_))
  have hm':h'.DictOf (strKind prog w) d (L.take k):=let ⟨o,es,ep,ho,r⟩:=hm;⟨o,es,ep,kp _ _ a1 a3 a4 a5 ho,r⟩
  show wpAny _ _ (holding [.str ⟨#[c]⟩ s.toks,L[k].2] (dictSet d (.str ⟨#[c]⟩ s.toks) L[k].2)) _ _ _
  refine wpAny_holding (wpAny_dictSet_pairs (knd:=strKind prog w) (k:=⟨#[c]⟩) (strKind_is prog w _ _) hm' (fun h'' hm'' hs''=>?_) (by
   rw [List.length_take,sizeLine_eq];lia))
  rw [← hc1,U9 hn (List.getElem?_eq_getElem hlt)] at hm''
  refine wpAny_pure ⟨plainId_quiet Dx _,?_⟩
  have mv0:ZMv z TO i1 i2 d s { s with heap:=h'',toks:=s.toks+1+1 }:=⟨fun b o b1 b2 b3 b4 b5 e=>hs''.extBut _ _ b5 (kp _ _ b1 b2 b3 b4 e),rfl,rfl,by show s.toks≤s.toks+1+1;lia⟩
  exact Tr hh D hd' hL hend hn hsz m (k+1) (i+1) _ (by lia) (Z'.keep hd' hs'') hm'' fun s' mv hf=>hR s' (mv0.trans mv) hf
end
end Mine
end
section
open PySem PySem.W PyProof.Rows
set_option maxRecDepth 100000
namespace Mine
abbrev zq1(h:Heap)(x:Str)(t:Tok):Heap:=h.push { cls:=.type (strIterType x),data:=.fields #[.str x t,.int 0 0] }
abbrev zq2(h:Heap)(x:Str)(t:Tok)(T:Addr):Heap:=(zq1 h x t).push { cls:=.type "tuple_iterator",data:=.fields #[.ref T,.int 0 0] }
abbrev zq3(h:Heap)(x:Str)(t:Tok)(T:Addr):Heap:=(zq2 h x t T).push { cls:=.type "tuple",data:=.seq #[.ref h.objs.size,.ref (zq1 h x t).objs.size] }
abbrev zq4(h:Heap)(x:Str)(t:Tok)(T:Addr):Heap:=(zq3 h x t T).push { cls:=.type "tuple",data:=.seq #[.none,.none] }
abbrev zq5(h:Heap)(x:Str)(t:Tok)(T:Addr):Heap:=(zq4 h x t T).push { cls:=.type "zip",data:=.fields #[.none,.bool false,.bool false,.ref (zq2 h x t T).objs.size,.ref (zq3 h x t T).objs.size] }
theorem P7(v:Value)(o1:Obj)(T:Addr)(ys:Array Value)(hpy:∀(prog:Program) (w:World) (A:Around) (E:Value→Shared→Prop) (s:Shared) (Q:Value→Shared→Prop),Q (.ref s.heap.objs.size) { s with heap:=s.heap.push o1 }→wpAny (model prog w) A (pyIter v) Q E s) :
  Meets (Builtin.«zip.__new__» ⟨[.type "zip",v,.ref T],[]⟩) (fun ζ R s=>s.heap.IsTuple T ys∧
   R (.ok (.ret (.ref ((((s.heap.push o1).push { cls:=.type "tuple_iterator",data:=.fields #[.ref T,.int 0 0] }).push { cls:=.type "tuple",data:=.seq #[.ref s.heap.objs.size,.ref (s.heap.push o1).objs.size] }).push { cls:=.type "tuple",data:=.seq #[.none,.none] }).objs.size)))
    { s with heap:=((((s.heap.push o1).push { cls:=.type "tuple_iterator",data:=.fields #[.ref T,.int 0 0] }).push { cls:=.type "tuple",data:=.seq #[.ref s.heap.objs.size,.ref (s.heap.push o1).objs.size] }).push { cls:=.type "tuple",data:=.seq #[.none,.none] }).push { cls:=.type "zip",data:=.fields #[.none,.bool false,.bool false,.ref ((s.heap.push o1).push { cls:=.type "tuple_iterator",data:=.fields #[.ref T,.int 0 0] }).objs.size,.ref (((s.heap.push o1).push { cls:=.type "tuple_iterator",data:=.fields #[.ref T,.int 0 0] }).push { cls:=.type "tuple",data:=.seq #[.ref s.heap.objs.size,.ref (s.heap.push o1).objs.size] }).objs.size] } }):=
 .of_wp fun prog w A R s h=>by
  obtain ⟨hp,g,d,tk,os⟩:=s;obtain ⟨hT,h⟩:=h
  have hsub:=sub_zip
  have hL2:Heap.IsTuple (Shared.heap ⟨hp.push o1,g,d,tk,os⟩) T ys:=Heap.IsTuple.push hT _
  wp_walk using hpy,wpAny_pyIter_tuple hL2
  exact ⟨_,rfl,h⟩
theorem Rw(x:Str)(t:Tok)(T:Addr)(ys:Array Value) :
  Meets (Builtin.«zip.__new__» ⟨[.type "zip",.str x t,.ref T],[]⟩) (fun ζ R s=>s.heap.IsTuple T ys∧
   R (.ok (.ret (.ref (zq4 s.heap x t T).objs.size))) { s with heap:=zq5 s.heap x t T }):=
 P7 (.str x t) { cls:=.type (strIterType x),data:=.fields #[.str x t,.int 0 0] } T ys fun ζ ζ ζ ζ ζ ζ h=>wpAny_pyIter_strU h
end Mine
end
section
open PySem PySem.W PyProof.Rows
set_option maxRecDepth 100000
namespace Mine
section
variable {prog:Program} {w:World} {A:Around} {E:Value→Shared→Prop} {s:Shared}
theorem P8{x:Str}{t:Tok}{T:Addr}{ys:Array Value}{Q:Value→Shared→Prop}(hT:s.heap.IsTuple T ys)
  (h:∀h',ZZ h' (s.heap.objs.size+4) (s.heap.objs.size+2) (s.heap.objs.size+3) .none (.bool false)→IsPair h' (s.heap.objs.size+2) (.ref s.heap.objs.size) (.ref (s.heap.objs.size+1))→
   IsPair h' (s.heap.objs.size+3) .none .none→AIt h' s.heap.objs.size x t 0→h'.IsTupleIter (s.heap.objs.size+1) T 0→h'.objs.size=s.heap.objs.size+5→
   (∀c o,s.heap.get? c=some o→h'.get? c=some o)→Q (.ref (s.heap.objs.size+4)) { s with heap:=h' }) :
  wpAny (model prog w) A (call (.type "zip") [.str x t,.ref T]) Q E s:=by
 refine callType_new F.called_zip (by decide) (F.typeCall_zip_2 _ _) (F.newCall_zip_2 _ _) (fun obj=>F.args_object_init_3 obj _ _) F.entry_zip_new
  (Rw x t T ys) ⟨hT,?_⟩
 have z1:(zq1 s.heap x t).objs.size=s.heap.objs.size+1:=Heap.size_push ..
 have z2:(zq2 s.heap x t T).objs.size=s.heap.objs.size+2:=by rw [Heap.size_push,z1]
 have z3:(zq3 s.heap x t T).objs.size=s.heap.objs.size+3:=by rw [Heap.size_push,z2]
 have z4:(zq4 s.heap x t T).objs.size=s.heap.objs.size+4:=by rw [Heap.size_push,z3]
 have z5:(zq5 s.heap x t T).objs.size=s.heap.objs.size+5:=by rw [Heap.size_push,z4]
 have g5:(zq5 s.heap x t T).get? (zq4 s.heap x t T).objs.size=some _:=Heap.get?_push_size _ rfl
 have g4:(zq5 s.heap x t T).get? (zq3 s.heap x t T).objs.size=some _:=Heap.get?_push_of_some _ (Heap.get?_push_size _ rfl)
 have g3:(zq5 s.heap x t T).get? (zq2 s.heap x t T).objs.size=some _:=Heap.get?_push_of_some _ (Heap.get?_push_of_some _ (Heap.get?_push_size _ rfl))
 have g2:(zq5 s.heap x t T).get? (zq1 s.heap x t).objs.size=some _:=Heap.get?_push_of_some _ (Heap.get?_push_of_some _ (Heap.get?_push_of_some _ (Heap.get?_push_size _ rfl)))
 have g1:(zq5 s.heap x t T).get? s.heap.objs.size=some _:=Heap.get?_push_of_some _ (Heap.get?_push_of_some _ (Heap.get?_push_of_some _ (Heap.get?_push_of_some _ (Heap.get?_push_size _ rfl))))
 have hAt:AIt (zq5 s.heap x t T) s.heap.objs.size x t 0:=by
  by_cases q:strIterType x = "str_iterator"
  ·exact .inr ⟨_,g1,by rw [q],rfl⟩
  ·refine .inl ⟨_,g1,?_,rfl⟩
   have:strIterType x = "str_ascii_iterator" := by
    revert q;unfold strIterType;split <;> simp
   rw [this]
 show _∧_
 rw [z2,z3,z4] at g5
 rw [z1,z2] at g3
 rw [z3] at g4
 rw [z1] at g2
 rw [z4]
 exact ⟨⟨_,g5,rfl⟩,h _ g5 g3 g4 hAt ⟨_,g2,rfl,rfl⟩ z5 fun c o x=>
  Heap.get?_push_of_some _ (Heap.get?_push_of_some _ (Heap.get?_push_of_some _ (Heap.get?_push_of_some _ (Heap.get?_push_of_some _ x))))⟩
theorem Oi{z TI TO i1 i2 T:Addr}{x:Str}{t:Tok}{ys:Array Value}{L:List (Str×Value)}{Q:Value→Shared→Prop}(hh:A.handled=none)(D:ZipApart z TI TO i1 i2 T T)
  (hz:ZZ s.heap z TI TO .none (.bool false)) (hTI:IsPair s.heap TI (.ref i1) (.ref i2)) (hTO:IsPair s.heap TO .none .none) (h1:AIt s.heap i1 x t 0) (h2:s.heap.IsTupleIter i2 T 0) (hT:s.heap.IsTuple T ys)
  (hL:∀(k:Nat) (p:Str×Value),L[k]? = some p→∃c,p.1=⟨#[c]⟩∧x.cps[k]? = some c∧ys[k]? = some p.2) (hend:x.cps[L.length]? = none) (hn:(L.map (·.1)).Nodup) (hsz:L.length≤16)
  (hQ:∀s',(∀c o,c≠z→c≠TO→c≠i1→c≠i2→s.heap.get? c=some o→s'.heap.get? c=some o)→s'.gens=s.gens→s'.os=s.os→s.toks≤s'.toks→s'.heap.DictOf (strKind prog w) s.heap.objs.size L→Q (.ref s.heap.objs.size) s') :
  wpAny (model prog w) A (call (.type "dict") [.ref z]) Q E s:=by
 refine callType_codes (Q₁:=fun obj s₁=>obj=.ref s.heap.objs.size∧s₁={ s with heap:=s.heap.push { cls:=.type "dict",data:=.dict #[] } }) F.kt_called_dict (F.kt_typeCall_dict_1 _) F.entry_dict_init (kt_code_dict_new _ ⟨rfl,rfl⟩) ?_
 rintro obj s₁ ⟨rfl,rfl⟩
 have hnew:(s.heap.push { cls:=.type "dict",data:=.dict #[] }).DictOf (strKind prog w) s.heap.objs.size []:=Heap.DictOf.new s.heap
 have up:∀c o,s.heap.get? c=some o→(s.heap.push { cls:=.type "dict",data:=.dict #[] }).get? c=some o:=fun c o e=>Heap.get?_push_of_some _ e
 have lt:∀ {c o},s.heap.get? c=some o→s.heap.objs.size≠c:=fun e=>Nat.ne_of_gt (Heap.lt_size e)
 have hd:s.heap.objs.size≠z∧s.heap.objs.size≠TI∧s.heap.objs.size≠TO∧s.heap.objs.size≠i1∧s.heap.objs.size≠i2∧s.heap.objs.size≠T:=
  ⟨lt hz,lt hTI,lt hTO,(by obtain ⟨_,e⟩:=h1.lt;exact lt e),(by obtain ⟨_,e,_⟩:=h2;exact lt e),(by obtain ⟨_,e,_⟩:=hT;exact lt e)⟩
 refine ⟨hnew.typeIs,F.args_dict_init_2 _ _,?_⟩
 unfold Builtin.«dict.__init__»
 refine wpAny_bind ?_
 unfold Builtin.Dict.selfAndRest
 refine wpAny_bind (wpAny_notOrdered_dict hnew.typeIs ?_)
 show wpAny _ _ (pure (s.heap.objs.size,[Value.ref z])) _ _ _
 refine wpAny_pure ?_
 show wpAny _ _ (Builtin.Dict.updateFrom "dict.__init__" s.heap.objs.size (.ref z) [] .none) _ _ _
 unfold Builtin.Dict.updateFrom
 refine wpAny_bind (wpAny_typeOf (T:= "zip") ⟨_,up _ _ hz,rfl⟩ ?_)
 rw [if_pos (by decide)]
 refine wpAny_bind (Abu (up _ _ hz) (show A.in1.in1.handled=none from hh) fun h' tk hk htk=>?_)
 rw [if_pos (show (none:Option Value).isNone=true from rfl)]
 refine wpAny_bind (wpAny_rule ?_)
 refine wpAny_bind (wpAny_pyIter_zip (TI:=TI) (TO:=TO) (f0:=.none) (hk _ _ (up _ _ hz)) ?_)
 have Z:ZSt h' z TI TO i1 i2 T s.heap.objs.size x t ys 0:=⟨.free _ _ (hk _ _ (up _ _ hz)) (hk _ _ (up _ _ hTO)),hk _ _ (up _ _ hTI),h1.at fun o e=>hk _ _ (up _ _ e),let ⟨o,ho,r⟩:=h2;⟨o,hk _ _ (up _ _ ho),r⟩,let ⟨o,ho,r⟩:=hT;⟨o,hk _ _ (up _ _ ho),r⟩⟩
 have hm:h'.DictOf (strKind prog w) s.heap.objs.size (L.take 0):=let ⟨o,es,ep,ho,r⟩:=hnew;⟨o,es,ep,hk _ _ ho,r⟩
 refine wpAny_pure ⟨plainId_quiet Dx _,?_⟩
 refine Tr (A:=A.in1) (show A.in1.handled=none from hh) D hd hL hend hn hsz L.length 0 0 _ (Nat.zero_add _) Z hm fun s' mv hf=>⟨rfl,?_⟩
 exact hQ s' (fun c o c1 c2 c3 c4 e=>mv.keep c o c1 c2 c3 c4 (Ne.symm (lt e)) (hk _ _ (up _ _ e))) mv.gens mv.os (Nat.le_trans htk mv.toks) hf
end
end Mine
end
section
open PySem PySem.W PyProof.Rows
set_option autoImplicit false
set_option maxRecDepth 100000
namespace Mine
theorem Ip{α:Type}[BEq α]:∀(n:Nat) (l:List α),l.length≤n→l.eraseDups.length≤l.length
 |_,[],_=>by simp
 |0,a :: l,h=>by simp at h
 |n+1,a :: l,h=>by
  rw [List.eraseDups_cons,List.length_cons,List.length_cons]
  have h1:=List.length_filter_le (fun b=>!b == a) l
  rw [List.length_cons] at h
  have:=Ip n (l.filter fun b=>!b == a) (by lia)
  lia
theorem F5{α:Type}[BEq α][LawfulBEq α]:∀(l:List α),l.eraseDups.length=l.length→l.Nodup
 |[],_=>List.nodup_nil
 |a :: l,h=>by
  rw [List.eraseDups_cons,List.length_cons,List.length_cons] at h
  have h1:=List.length_filter_le (fun b=>!b == a) l
  have h2:=Ip _ (l.filter fun b=>!b == a) (Nat.le_refl _)
  have h3:(l.filter fun b=>!b == a).length=l.length:=by lia
  have h4:l.filter (fun b=>!b == a)=l:=List.filter_eq_self.mpr (fun b hb=>(List.length_filter_eq_length_iff.mp h3) b hb)
  rw [h4] at h
  refine List.nodup_cons.mpr ⟨fun m=>?_,F5 l (by exact Nat.add_right_cancel h)⟩
  have:=(List.length_filter_eq_length_iff.mp h3) a m
  simp at this
section
variable {h:Heap} {k:Tok} {M:Addr→Prop}
theorem Uc{vs:List Value}{ds:List D}(s:List Nat)(r:Ag8 h k M vs ds):Ag9 h k M ((s.map fun c=>mkS [c]).zip vs) ((s.map fun c=>[c]).zip ds):=by
 induction s generalizing vs ds with
 |nil=>exact .nil
 |cons c s ih=>induction r using Ag8.casesOn with
  |nil=>exact .nil
  |cons a r=>exact .cons a (ih r)
end
section
variable {lv:Nat} {F:Ahl} {n:Nat} {φ:Fx} {loc:Bl} {σ σ':St} {c:Cf} {S:Sx} {env:Env} {A:Around} {EE:Value→Shared→Prop} {Q:Value→Shared→Prop} {d:D}
theorem Gl.pos3(Gx:Gl φ.hT)(R:Rep φ loc σ c) : @LT.lt Nat _ 3 c.s.heap.objs.size:=by
 obtain ⟨mg,mb,⟨o,_,_,e,_⟩,_⟩:=Gx.glob
 have e':=R.fx.top _ _ e
 have nx:¬φ.X mainGlobals:=fun x=>by rw [R.fx.out _ (R.fx.sub _ x)] at e;exact nos e
 exact Heap.lt_size (R.top _ _ e' nx)
variable (ev:D8 F n) (Gx:Gl φ.hT) (r:Da n A) (V:Ahk φ S loc env) (R:Rep φ loc σ c)
variable (hQ:∀v c',Ge φ loc σ c σ' c'→Ahb c'.s.heap c'.s.toks c'.M v d→Q v c'.s)
include ev Gx r V R hQ
theorem Rv{a b:E}{x y:Str}{q rp p p':Pos}{pa pb:Expr}(hb1:Cx S "dict" = true)(hb2:Cx S "zip" = true)(hx:x=("dict" : Str))(hy:y=("zip" : Str))(ta:TrE lv S a pa)(tb:TrE lv S b pb)
  (e:Ab F (.bi .Ahn [a,b]) σ=some (d,σ')) :
  wpAny (model prog w) A (eval (.Call (.Name x q) [.Call (.Name y rp) [pa,pb] [] p'] [] p) env) Q EE c.s:=by
 subst hx hy
 obtain ⟨⟨ds,σ'⟩,h1,e⟩:=bs e
 obtain ⟨d,h2,e⟩:=ms e
 obtain ⟨rfl,rfl⟩:=Prod.mk.inj e
 have tl:TrL (TrE lv) S [a,b] [pa,pb]:=.cons ta (.cons tb .nil)
 have bt:=Ba (env:=env) tl p'
 have hp:=congrArg (fun l=>List.any l (·.1)) (Ba (env:=env) (.cons tb .nil) p')
 rw [show List.any (List.map (fun pe=>(false,eval pe env)) _) (fun x:Bool×Sem Value=>x.1)=false by simp] at hp
 refine Call_ ?_
 refine B4 Gx V R hb1 Acg ?_
 show wpAny _ _ (callWith p (.type "dict") [] [(false,eval (.Call (.Name "zip" rp) [pa,pb] [] p') env)] []) _ _ _
 refine PySem.callWith_type1 ?_
 refine Call_ ?_
 refine B4 Gx V R hb2 Agi (Pv.callWith_type1 (hplain:=hp) ?_ (Ah ta _))
 rw [bt]
 refine H0 ev Gx r V R tl h1 fun vs c₁ g₁ r₁=>?_
 obtain ⟨o1,o2,rfl,h2⟩:=H3 h2
 obtain ⟨_,_,rfl,ra,rb⟩:=r₁.two
 induction o1 using D.casesOn with
 |none | bool | int | Ahj | fn | list | Ahm | tup | rng | Ahe | Ahf=>exact nos h2
 |str xs=>
 induction o2 using D.casesOn with
 |none | bool | int | str | Ahj | fn | list | Ahm | rng | Ahe | Ahf=>exact nos h2
 |tup ys=>
 obtain ⟨hc,rfl⟩:=Cd h2
 obtain ⟨t,rfl,hlx⟩:=ra.inv
 obtain ⟨T,vs',nT,rfl,mT,lT,rT⟩:=rb.inv
 obtain ⟨hc1,hc2,hc3⟩:=hc
 have hnd:=F5 xs hc3
 have hT:c₁.s.heap.IsTuple T vs'.toArray:=IsT.isTuple' lT
 refine P8 hT fun h' hz hTI hTO h1 h2 hsz hkeep=>?_
 have ltT : @LT.lt Nat _ T c₁.s.heap.objs.size:=Heap.lt_size lT
 have hvl:vs'.length=xs.length:=rT.len.trans hc1.symm
 have hll:((xs.map fun c=>mkS [c]).zip vs').length=xs.length:=by rw [List.length_zip,List.length_map,hvl,Nat.min_self]
 have D:ZipApart (c₁.s.heap.objs.size+4) (c₁.s.heap.objs.size+2) (c₁.s.heap.objs.size+3) c₁.s.heap.objs.size (c₁.s.heap.objs.size+1) T T:=
  ⟨Nat.ne_of_lt (by lia),Nat.ne_of_lt (by exact Nat.lt_add_one (c₁.s.heap.objs.size+3)),Nat.ne_of_lt (by lia),Nat.ne_of_lt (by lia),Nat.ne_of_lt (by lia),Nat.ne_of_gt (by lia),Nat.ne_of_gt (by lia),Nat.ne_of_gt (by lia),Nat.ne_of_gt (by lia),Nat.ne_of_lt (by lia),
   Nat.ne_of_lt (by lia),Nat.ne_of_lt (by lia),Nat.ne_of_lt (by lia),Nat.ne_of_lt (by lia),Nat.ne_of_lt (by lia),Nat.ne_of_lt (by lia),Nat.ne_of_lt (by lia),Nat.ne_of_lt (by lia)⟩
 obtain ⟨s₂,hs₂⟩ : ∃s₂:Shared,s₂={ c₁.s with heap:=h' }:=⟨_,rfl⟩
 have e1:s₂.heap=h':=by rw [hs₂]
 have e2:s₂.gens=c₁.s.gens:=by rw [hs₂]
 have e3:s₂.os=c₁.s.os:=by rw [hs₂]
 have e4:s₂.toks=c₁.s.toks:=by rw [hs₂]
 rw [show ({ c₁.s with heap:=h' }:Shared)=s₂ from hs₂.symm]
 clear hs₂
 subst e1
 refine Oi (s:=s₂) (L:=(xs.map fun c=>mkS [c]).zip vs') r.1 D hz hTI hTO h1 h2 (let ⟨o,ho,r⟩:=hT;⟨o,hkeep _ _ ho,r⟩) (fun k p hk=>?_) ?_ ?_ (by lia) fun s' hk hg ho ht hd=>?_
 ·obtain ⟨hk1,hk2⟩:=List.getElem?_zip_eq_some.mp hk
  rw [List.getElem?_map] at hk1
  cases hx:xs[k]? with
  |none=>rw [hx] at hk1;exact nos hk1
  |some c=>
   rw [hx] at hk1
   exact ⟨c,(Option.some.inj hk1).symm,by simpa [mkS] using hx,by simpa using hk2⟩
 ·rw [hll];simp [mkS]
 ·rw [List.map_fst_zip (by rw [List.length_map];lia)]
  exact List.pairwise_map.mpr (hnd.imp fun h e=>h (by have:=Fm.mp e;injection this))
 ·have kp:∀b o,b<c₁.s.heap.objs.size→c₁.s.heap.get? b=some o→s'.heap.get? b=some o:=fun b o lt e=>
   hk b o (Nat.ne_of_lt (Nat.lt_add_right _ lt)) (Nat.ne_of_lt (Nat.lt_add_right _ lt)) (Nat.ne_of_lt lt) (Nat.ne_of_lt (Nat.lt_add_right _ lt)) (hkeep b o e)
  have x1:Ext c₁.s s':=⟨fun b o e=>kp b o (Heap.lt_size e) e,hg.trans e2,ho.trans e3,e4 ▸ ht⟩
  have g:=g₁.ext x1
  have sz:s₂.heap.objs.size=c₁.s.heap.objs.size+5:=hsz
  have R₁:=g₁.go.rep
  have big:∀b,c₁.M b→@LT.lt Nat _ b c₁.s.heap.objs.size:=fun b m=>by
   obtain ⟨o,e⟩:=R₁.Ahd b m;exact Heap.lt_size e
  refine hQ _ ⟨s',c₁.M,c₁.vs⟩ g (.Ahf (fun m=>?_) (beq_false_of_ne fun q=>?_) hd (Uc xs (rT.ext x1)))
  ·have m':=big _ m;rw [sz] at m';lia
  ·have h5:=Gl.pos3 (c:=c₁) Gx R₁
   have q' : @Eq Nat s₂.heap.objs.size 1:=q
   rw [sz] at q';lia
end
end Mine
end
section
open PySem PySem.W PyProof.Rows
set_option autoImplicit false
set_option maxRecDepth 100000
namespace Mine
section
theorem Ug{h:Heap}{k:Tok}{M:Addr→Prop}{j:List Nat}{kvs:List (Str×Value)}{es:List (List Nat×D)}(r:Ag9 h k M kvs es):kvs.any (fun e=>e.1=mkS j)=es.any (fun e=>e.1=j):=by
 induction r using Ag9.ind with | nil=>rfl | cons _ _ _ _ _ _ _ ih=>rw [List.any_cons,List.any_cons,ih];simp only [Fm]
theorem Ue{h:Heap}{k:Tok}{M:Addr→Prop}{j:List Nat}{v:Value}{d:D}(rv:Ahb h k M v d){kvs:List (Str×Value)}{es:List (List Nat×D)}(r:Ag9 h k M kvs es) :
  Ag9 h k M (kvs.map fun e=>if e.1=mkS j then (e.1,v) else e) (es.map fun e=>if e.1=j then (e.1,d) else e):=by
 induction r using Ag9.ind with
 |nil=>exact .nil
 |cons i _ _ _ _ a r ih=>
  rw [List.map_cons,List.map_cons]
  by_cases q:i=j
  ·rw [if_pos q,if_pos (Fm.mpr q)];exact .cons rv ih
  ·rw [if_neg q,if_neg (fun e=>q (Fm.mp e))];exact .cons a ih
theorem Q0{h:Heap}{k:Tok}{M:Addr→Prop}{j:List Nat}{v:Value}{d:D}(rv:Ahb h k M v d){kvs:List (Str×Value)}{es:List (List Nat×D)}(r:Ag9 h k M kvs es) :
  Ag9 h k M (kvs++[(mkS j,v)]) (es++[(j,d)]):=by
 induction r using Ag9.ind with | nil=>exact .cons rv .nil | cons _ _ _ _ _ a r ih=>exact .cons a ih
theorem Ud{h:Heap}{k:Tok}{M:Addr→Prop}{j:List Nat}{v:Value}{d:D}(rv:Ahb h k M v d){kvs:List (Str×Value)}{es:List (List Nat×D)}(r:Ag9 h k M kvs es) :
  Ag9 h k M (stored kvs (mkS j) v) (Cg es j d):=by
 delta stored Cg
 rw [Ug r]
 split
 ·exact Ue rv r
 ·exact Q0 rv r
theorem Uf{h:Heap}{k:Tok}{M:Addr→Prop}{kvs:List (Str×Value)}{es:List (List Nat×D)}(r:Ag9 h k M kvs es):kvs.length=es.length:=by
 induction r using Ag9.ind with | nil=>rfl | cons _ _ _ _ _ _ _ ih=>exact congrArg Nat.succ ih
end
section
variable {lv:Nat} {F:Ahl} {n:Nat} {φ:Fx} {loc loc₁:Bl} {σ σ' σ₁:St} {c c₁ c':Cf} {S S':Sx} {env:Env} {A:Around} {EE:Value→Shared→Prop} {d:D}
theorem Om{pk pv:Expr}{scope:Scope}{pos:Pos}{target iter:Expr}{it:Value}{D₁:Addr}{s:Shared}{Q:Fin→Shared→Prop}
  (h:wpAny (model prog w) A (pyNext it) (fun r s₁=>match r with
   |none=>Q (.done .next) s₁
   |some v=>wpAny (model prog w) A (letOwnedTupleGo target it v) (fun ζ s₂=>wpAny (model prog w) A (assign target env v) (fun ζ s₃=>
     wpAny (model prog w) A (eval pk env) (fun kv s₄=>wpAny (model prog w) A (eval pv env) (fun vv s₅=>wpAny (model prog w) A (dictSet D₁ kv vv) (fun ζ s₆=>
      Q (.again (.compLoop (.DictComp pk pv [⟨target,iter,[],0⟩] scope pos) 0 it (.ref D₁) env)) s₆) EE s₅) EE s₄) EE s₃) EE s₂) EE s₁) EE s) :
  wpAny (model prog w) A (compTurn (.DictComp pk pv [⟨target,iter,[],0⟩] scope pos) 0 it (.ref D₁) env) Q EE s:=by
 delta compTurn
 refine wpAny_bind (wpAny_standAt (wpAny_bind (wpAny_mono h (fun r s₁ h₁=>?_) fun ζ ζ e=>e)))
 induction r using Option.casesOn with
 |none=>exact wpAny_pure h₁
 |some v=>
  refine wpAny_bind (wpAny_mono h₁ (fun ζ s₂ h₂=>wpAny_bind (wpAny_mono h₂ (fun ζ s₃ h₃=>?_) fun ζ ζ e=>e)) fun ζ ζ e=>e)
  dsimp only
  rw [List.forIn_nil]
  refine wpAny_bind (wpAny_pure ?_)
  simp only [if_true]
  refine wpAny_bind (wpAny_bind (wpAny_mono h₃ (fun kv s₄ h₄=>wpAny_bind (wpAny_holding (wpAny_mono h₄ (fun vv s₅ h₅=>?_) fun ζ ζ e=>e))) fun ζ ζ e=>e))
  exact wpAny_bind (wpAny_standAt (wpAny_holding (wpAny_mono h₅ (fun ζ s₆ h₆=>wpAny_pure h₆) fun ζ ζ e=>e)))
theorem H2{pk pv:Expr}{g:Comprehension}{scope:Scope}{pos:Pos}{it acc:Value}{s:Shared}{R:Result→Shared→Prop}(ha:g.is_async=0)
  (h0:codeAny (model prog w) A (.compLoop (.DictComp pk pv [g] scope pos) 0 it acc env) R s)
  (h:∀E',wpAny (model prog w) A (pyIter it) (fun it' s'=>codeAny (model prog w) A (.compLoop (.DictComp pk pv [g] scope pos) 0 it' acc env) R s') E' s) :
  codeAny (model prog w) A (.compStart (.DictComp pk pv [g] scope pos) 0 it acc env) R s:=by
 refine codeAny_of_tree ?_
 show wpAny _ _ ((compStart (.DictComp pk pv [g] scope pos) 0 it acc env).onRaise (fun x=>do noteFrame x env;standAt theWindowsPlace)) _ _ s
 refine wpAny_notedAt ?_
 delta compStart
 have e:(((clausesOf (.DictComp pk pv [g] scope pos))[0]?).elim false (·.is_async != 0))=false:=by
  show (g.is_async != 0)=false
  simp [ha]
 simp only [e,Bool.false_eq_true,if_false]
 show wpAny _ _ (ask >>= _) _ _ s
 refine wpAny_bind (wpAny_askSetting (wpAny_ite ?_))
 split
 ·first
   |exact wpAny_bind (wpAny_pure (wpAny_pure (And.intro rfl h0)))
   |exact wpAny_pure (And.intro rfl h0)
 ·refine wpAny_bind (wpAny_rule ?_)
  exact wpAny_bind (wpAny_standAt (wpAny_bind (wpAny_mono (h _) (fun it' s' h'=>wpAny_pure (And.intro rfl h')) fun ζ ζ x=>x)))
structure Ais(D₁:Addr)(c:Cf)(acc:List (List Nat×D)):Prop where
 m:c.M D₁
 ns:(D₁ == sysModules)=false
 ex:∃kvs,c.s.heap.DictOf (strKind prog w) D₁ kvs∧Ag9 c.s.heap c.s.toks c.M kvs acc
theorem Ais.mono'{D₁:Addr}{acc:List (List Nat×D)}{T T':Addr→Prop}(a:Ais D₁ c acc)(x:Step c.s.heap c.M T c'.s.heap c'.M T')(lk:c.s.toks≤c'.s.toks)
  (keep:∀o,c.s.heap.get? D₁=some o→c'.s.heap.get? D₁=some o) (up:c'.M D₁):Ais D₁ c' acc:=by
 obtain ⟨m,ns,kvs,l,r⟩:=a
 exact ⟨up,ns,kvs,l.at fun o e=>keep o e,r.mono x lk⟩
theorem Ais.some{D₁:Addr}{acc:List (List Nat×D)}(a:Ais D₁ c acc):∃o,c.s.heap.get? D₁=some o:=by
 obtain ⟨m,ns,kvs,l,r⟩:=a
 exact DictOf.some l
theorem Ais.go{D₁:Addr}{acc:List (List Nat×D)}(a:Ais D₁ c acc)(g:Go φ loc σ c loc₁ σ₁ c₁)(nt:¬Aa loc σ c.vs D₁):Ais D₁ c₁ acc:=by
 obtain ⟨o,e⟩:=a.some
 exact a.mono' g.step g.toks (fun o e=>(g.step.pend D₁ o a.m nt e).1) (g.step.pend D₁ o a.m nt e).2
theorem V9{D₁:Addr}{acc:List (List Nat×D)}{ks:List Nat}{t:Tok}{v:Value}(a:Ais D₁ c acc)(rv:Ahb c.s.heap c.s.toks c.M v d)(hz:acc.length<16)(R₁:Rep φ loc σ c)(hn:φ.h₀.get? D₁=none)(hT:¬Aa loc σ c.vs D₁){Q:Unit→Shared→Prop}
  (hQ:∀c',Gy φ (fun b=>b=D₁) loc σ c loc σ c'→c'.vs=c.vs→Ais D₁ c' (Cg acc ks d)→Q () c'.s):wpAny (model prog w) A (dictSet D₁ (.str (mkS ks) t) v) Q EE c.s:=by
 obtain ⟨m,ns,kvs,l,r⟩:=a
 refine wpAny_dictSet_pairs (knd:=strKind prog w) (strKind_is prog w _ _) l (fun h' l' sb=>?_) (by rw [Uf r,sizeLine_eq];lia)
 have st:AtP (fun b=>b=D₁) c.s { c.s with heap:=h',toks:=c.s.toks+1 }:=⟨fun b o hb e=>(sb.2 b hb).trans e,rfl,rfl,Nat.le_succ _⟩
 obtain ⟨o',ho'⟩:=DictOf.some l'
 have g:=Gy.chg (Y:=fun b=>b=D₁) R₁ rfl m hn hT st (o:=o') ho'
 exact hQ ⟨{ c.s with heap:=h',toks:=c.s.toks+1 },c.M,c.vs⟩ g rfl ⟨m,ns,_,l',Ud (rv.mono g.step g.toks) (r.mono g.step g.toks)⟩
variable (ev:D8 F n) (Gx:Gl φ.hT) (r:Da n A) (V:Ahk φ S loc env)
include ev Gx r V in
theorem Xl{pk pv:Expr}{scope:Scope}{pos:Pos}{D₁:Addr}(hD:φ.h₀.get? D₁=none)
  {Fz:Nat→Prop} (hz:∀i,Fz i→∃L,loc i=some L)
  {tg:Tg} {k v:E} {ptg pit:Expr} (ttg:Ahw S tg ptg) (tk:TrE lv S k pk) (tv:TrE lv S v pv) (htz:∀i∈Ko tg,¬Fz i)
  {ds:List D} {acc acc':List (List Nat×D)} {σ σ':St} {c:Cf} {P:Addr→Prop} {itv:Value} {en:Bool} {locs:Bl} {σs:St} {cs':Cf} {R:Result→Shared→Prop} (h:Ps F tg k v ds σ acc=some (acc',σ')) (Rs:Rep φ locs σs cs')
  (g:Gy φ (fun b=>b=D₁) locs σs cs' loc σ c) (x:Ai4 c.s.heap c.s.toks c.M P itv en ds) (ht:en=true→Ri ptg=true) (hP:∀b,P b→cs'.s.heap.get? b=none∧¬Aa loc σ c.vs b∧b≠D₁)
  (ac:Ais D₁ c acc) (nt:¬Aa loc σ c.vs D₁)
  (hR:∀c',Gy φ (fun b=>b=D₁) locs σs cs' loc σ' c'→Ais D₁ c' acc'→¬Aa loc σ' c'.vs D₁→(∀i,Fz i→c'.vs i=c.vs i)→R (.ok .next) c'.s) :
  codeAny (model prog w) A (.compLoop (.DictComp pk pv [⟨ptg,pit,[],0⟩] scope pos) 0 itv (.ref D₁) env) R c.s:=by
 obtain ⟨v₀,hv₀⟩ : ∃v₀,v₀=c.vs:=⟨_,rfl⟩
 refine codeAny_loop rfl (Aiv φ Fz v₀ (fun ds σ acc=>Ps F tg k v ds σ acc=some (acc',σ')) D₁ locs σs cs' loc P itv en (Ais D₁)) (fun m s hI=>?_) ds.length (.mk ds acc σ c rfl (fun i ζ=>by rw [hv₀]) rfl h g x hP ac nt)
 rw [← hv₀] at hR
 clear h g x hP ac nt hv₀
 obtain ⟨ds,acc,σ,c,rfl,hvz,rfl,h,g,x,hP,ac,nt⟩:=hI
 show wpAny _ A ((compTurn (.DictComp pk pv [⟨ptg,pit,[],0⟩] scope pos) 0 itv (.ref D₁) env).onRaise (fun x=>do noteFrame x env;theTreesLotGoes x)) _ _ c.s
 refine wpAny_noted (Om ?_)
 have subP:=x.sub
 refine Lb r.1 g.rep.Ahd x ht (fun d ds' v s₁ hds hgo=>?_) (fun s₁ hds x₁=>?_)
 ·subst hds
  obtain ⟨σ₁,h1,h⟩:=bs h
  obtain ⟨⟨kd₀,σ₂⟩,h2,h⟩:=bs h
  obtain ⟨kd,h0,h⟩:=bs h
  obtain rfl:=H4 h0
  obtain ⟨⟨vd,σ₃⟩,h3,h⟩:=bs h
  obtain ⟨hlt,h⟩:=J6 h
  refine hgo _ _ fun s₂ x₂ self real itx=>?_
  have S₂:Bc s₂.heap c.M:=fun b m=>by
   by_cases p:P b
   ·exact self b p
   ·obtain ⟨o,e⟩:=g.rep.Ahd b m;exact ⟨o,x₂.keep b o p e⟩
  have g₂:=g.pend Rs subP (fun b p=>(hP b p).1) (fun b p=>(hP b p).2.1) x₂ (fun ζ m=>m) (fun ζ m ζ=>m) S₂
  have ac₂:Ais D₁ ⟨s₂,c.M,c.vs⟩ acc:=
   ac.mono' (c':=⟨s₂,c.M,c.vs⟩) (x₂.step subP (M':=c.M) (fun ζ m=>m) (fun ζ m ζ=>m)) x₂.toks (fun o e=>x₂.keep _ o (fun p=>(hP _ p).2.2 rfl) e) ac.m
  have mD:=ac₂.m
  refine Gz (c:=⟨s₂,c.M,c.vs⟩) r V g₂.rep ttg real h1 fun c₃ g₃ hv₃=>?_
  refine ev Gx r V g₃.rep tk h2 fun kv c₄ g₄ rk=>?_
  obtain ⟨t,rfl,hl⟩:=rk.inv
  refine ev Gx r V g₄.go.rep tv h3 fun vv c₅ g₅ rv=>?_
  have g₆:=(g₃.trans g₄.go).trans g₅.go
  have nt₅:¬Aa loc σ₃ c₅.vs D₁:=B5 g₆ mD g₂.rep nt
  refine V9 (ac₂.go g₆ nt) rv hlt g₅.go.rep hD nt₅ fun c' g' hv' ac'=>?_
  have nt':¬Aa loc σ₃ c'.vs D₁:=by rw [hv'];exact nt₅
  have g₇:=(g₆.y (Y:=fun b=>b=D₁)).trans g'
  exact ⟨rfl,ds'.length,Nat.lt_succ_self _,.mk ds' _ σ₃ c' rfl (fun i hi=>by
   obtain ⟨L,hL⟩:=hz i hi
   rw [hv',g₅.vs i L hL,g₄.vs i L hL,hv₃ i (fun m=>htz i m hi)];exact hvz i hi) rfl h (g₂.trans g₇) (itx.mono g₇.step g₇.toks (fun b p t=>t.elim (hP b p).2.1 (hP b p).2.2))
   (fun b p=>⟨(hP b p).1,Gr g₇ (subP b p) g₂.rep (hP b p).2.1 (hP b p).2.2,(hP b p).2.2⟩) ac' nt'⟩
 ·subst hds
  obtain ⟨rfl,rfl⟩:=As h
  have S₂:Bc s₁.heap (fun b=>c.M b∧¬P b):=fun b m=>by
   obtain ⟨o,e⟩:=g.rep.Ahd b m.1;exact ⟨o,x₁.keep b o m.2 e⟩
  have g₂:=g.pend Rs subP (fun b p=>(hP b p).1) (fun b p=>(hP b p).2.1) x₁ (M':=fun b=>c.M b∧¬P b) (fun ζ m=>m.1) (fun ζ m n=>⟨m,n⟩) S₂
  refine hR ⟨s₁,_,c.vs⟩ g₂ ?_ nt hvz
  exact ac.mono' (c':=⟨s₁,fun b=>c.M b∧¬P b,c.vs⟩) (x₁.step subP (M':=fun b=>c.M b∧¬P b) (fun ζ m=>m.1) (fun ζ m n=>⟨m,n⟩)) x₁.toks (fun o e=>x₁.keep _ o (fun p=>(hP _ p).2.2 rfl) e) ⟨ac.m,fun p=>(hP _ p).2.2 rfl⟩
end
end Mine
end
section
open PySem PySem.W PyProof.Rows
set_option autoImplicit false
set_option maxRecDepth 100000
namespace Mine
section
variable {lv:Nat} {F:Ahl} {n:Nat} {φ:Fx} {loc loc':Bl} {σ σ':St} {c c':Cf} {S S':Sx} {env:Env} {A:Around} {EE:Value→Shared→Prop} {Q:Value→Shared→Prop} {d:D}
theorem Go.thawD(R:Rep φ loc σ c)(g:Go φ loc σ c loc' σ' c'){D₁:Addr}{acc:List (List Nat×D)}(a:Ais D₁ c' acc)(nD:c.s.heap.get? D₁=none)(nt:¬Aa loc' σ' c'.vs D₁) :
  ∃M',Go φ loc σ c loc' σ' ⟨c'.s,M',c'.vs⟩∧Ahb c'.s.heap c'.s.toks M' (.ref D₁) (.Ahf acc):=by
 have x:AtP (fun b=>b=D₁) c'.s c'.s:=⟨fun b o hb e=>e,rfl,rfl,Nat.le_refl _⟩
 have st:=x.step (M:=c'.M) (M':=fun b=>c'.M b∧b≠D₁) (fun b p=>p ▸ a.m) (fun b m=>m.1) (fun b m n=>⟨m,n⟩)
 obtain ⟨m,ns,kvs,l,r⟩:=a
 refine ⟨fun b=>c'.M b∧b≠D₁,(g.y (Y:=fun ζ=>False)).pend R (P:=fun b=>b=D₁) (fun b p=>p ▸ m) (fun b p=>p ▸ nD) (fun b p=>p ▸ nt) x (fun b m=>m.1) (fun b m n=>⟨m,n⟩) (fun b m=>?_) |>.go fun ζ f=>f,?_⟩
 ·exact g.rep.Ahd b m.1
 ·exact .Ahf (fun h=>h.2 rfl) ns l (r.mono st (Nat.le_refl _))
variable (ev:D8 F n) (evt:Ew F n) (Gx:Gl φ.hT) (r:Da n A) (V:Ahk φ S loc env) (R:Rep φ loc σ c)
include ev Gx r V R
theorem Rz{own:List (Str×Nat)}{k v:E}{tg:Tg}{it:E}{pk pv ptg pit:Expr}{scope:Scope}{p:Pos}
  (hck:El S S' scope own (Dz [(tg,it,[])])=true) (hen:Fr [(tg,it,[])]=true) (hpl:Bn pit) (tit:TrI (TrE lv) S it pit) (ttg:Ahw S' tg ptg) (tk:TrE lv S' k pk) (tv:TrE lv S' v pv)
  {l:List D} {σ₁ σe:St} {es:List (List Nat×D)} (h1:items F it σ=some (l,σ₁)) (h:Ps F tg k v l σ₁ []=some (es,σe))
  (hC:∀D₁ c' L,Ge φ loc σ c (J9 tg σe) c'→Ais D₁ c' es→c.s.heap.get? D₁=none→¬Aa loc (J9 tg σe) c'.vs D₁→c.s.heap.get? L=none→D₁≠L→(Az scope→c'.M L∧¬Aa loc (J9 tg σe) c'.vs L∧∃m,c'.s.heap.Ns L m)→
   (Az scope→∃m,c'.s.heap.Ns L m)∧∀h',Heap.SameBut L c'.s.heap h'→(¬Az scope→h'=c'.s.heap)→Q (.ref D₁) { c'.s with heap:=h' }) :
  wpAny (model prog w) A (comprehension (.DictComp pk pv [⟨ptg,pit,[],0⟩] scope p) scope env pit.pos newDict false (eval pit env) none) Q EE c.s:=by
 have ck:=Adu hck
 have hfree:∀x,(x,NameKind.free)∈scope.names→∃a,env.cells.lookup x=some a:=fun x hx=>by
  obtain ⟨h1,i,h2⟩:=ck.free x hx
  obtain ⟨L,_,pl⟩:=V.vars x i h2
  induction pl using Place.casesOn with
  |dct q=>rw [q] at h1;exact absurd h1 Bool.false_ne_true
  |@cel a _ q=>exact ⟨a,q⟩
 obtain ⟨cl,hcl,hcl1,hcl2⟩:=Lu hfree
 refine Na (use:=none) (g:=⟨ptg,pit,[],0⟩) (gs:=[]) rfl (hpl env) hcl ck.kind (fun x hx hl=>by
  have:=D3 ck.nd3 (show (x.1,x.2)∈scope.names from hx)
  rw [hl] at this;exact this) ?_
 refine Ih ev Gx r V R tit h1 fun itv c₁ P g₁ x₁ hP=>?_
 have sysn:=Gl.size (c:=c₁) Gx g₁.go.rep
 refine wpAny_newObj_type ?_ (by simp [sizeOk])
 have gr:=Aip.push g₁.go.rep.Ahd { cls:=.type "dict",data:=.dict #[] } rfl
 have hn:=A9 c₁.s.heap
 have g₂:=g₁.go.rep.grows gr
 have acc₂:Ais c₁.s.heap.objs.size ⟨{ c₁.s with heap:=c₁.s.heap.push { cls:=.type "dict",data:=.dict #[] } },fun b=>c₁.M b∨b=c₁.s.heap.objs.size,c₁.vs⟩ []:=
  ⟨.inr rfl,sysn,[],Heap.DictOf.new c₁.s.heap,.nil⟩
 have nt₂:¬Aa loc σ₁ c₁.vs c₁.s.heap.objs.size:=Aa.ne (c:=c₁) g₁.go.rep hn
 refine Js ?_
 obtain ⟨loc',M',V',g₃,keep,old,new,mL,nL,⟨m,ns⟩,mold,hloc⟩:=Ls (c:=⟨{ c₁.s with heap:=c₁.s.heap.push { cls:=.type "dict",data:=.dict #[] } },fun b=>c₁.M b∨b=c₁.s.heap.objs.size,c₁.vs⟩) V ck g₂.rep hcl1 hcl2
 have acc₃:=acc₂.go g₃ nt₂
 have nt₃:=B5 g₃ (b:=c₁.s.heap.objs.size) (.inr rfl) g₂.rep nt₂
 have g₁₃:=g₁.go.trans (g₂.trans g₃)
 have x₃:=x₁.mono (g₂.trans g₃).step (g₂.trans g₃).toks fun b pb t=>(hP b pb).2 t
 have hPn:∀b,P b→∃o,c₁.s.heap.get? b=some o:=fun b pb=>g₁.go.rep.Ahd b (x₁.sub b pb)
 have hP₃:∀b,P b→c.s.heap.get? b=none∧¬Aa loc' σ₁ c₁.vs b∧b≠c₁.s.heap.objs.size:=fun b pb=>⟨(hP b pb).1,B5 (g₂.trans g₃) (x₁.sub b pb) g₁.go.rep (hP b pb).2,fun q=>by
  obtain ⟨o,e⟩:=hPn b pb
  rw [q,hn] at e;cases e⟩
 have hD0:c.s.heap.get? c₁.s.heap.objs.size=none:=g₁.go.Ain _ hn
 have hD:φ.h₀.get? c₁.s.heap.objs.size=none:=R.fresh hD0
 have Fz:∀i,(∃L,loc i=some L)→∃L,loc' i=some L:=fun i ⟨L,h⟩=>⟨L,old i L h⟩
 have fz:∀i,S.top≤i→¬ ∃L,loc i=some L:=fun i hi ⟨L,h⟩=>absurd (V.top i L h) (Nat.not_lt.mpr hi)
 have run:codeAny (model prog w) A (.compLoop (.DictComp pk pv [⟨ptg,pit,[],0⟩] scope p) 0 itv (.ref c₁.s.heap.objs.size) (On env scope _ cl)) _ _:=
  Xl ev Gx r V' hD Fz ttg tk tv (fun i hi=>fz i (Km ck ttg i hi)) h R g₁₃.y x₃
   (fun e=>by
    obtain ⟨is,q⟩:=Gu hen _ List.mem_cons_self e
    dsimp only at q;subst q;cases ttg;rfl) hP₃ acc₃ nt₃ (R:=fun r s'=>match r with
     |.error _=>False
     |.ok _=>wpAny (model prog w) A (Nj none (.ref c₁.s.heap.objs.size)) (fun ζ s''=>(Az scope→∃m,s''.heap.Ns (c₁.s.heap.push { cls:=.type "dict",data:=.dict #[] }).objs.size m)∧∀h',Heap.SameBut (c₁.s.heap.push { cls:=.type "dict",data:=.dict #[] }).objs.size s''.heap h'→(¬Az scope→h'=s''.heap)→Q (Ni none (.ref c₁.s.heap.objs.size)) { s'' with heap:=h' }) EE s')
   (fun c₅ g₅ ac₅ nt₅ hv₅=>by
    obtain ⟨hlen,hdel⟩:=Ol (gs:=[(tg,it,[])]) (σ:=σe)
    have nL0:c.s.heap.get? _=none:=(g₁.go.trans g₂).Ain _ nL
    obtain ⟨ge,nt₆,hl⟩:=Lr R old new g₅ hlen hdel hD0 nt₅ (fun i L hL=>(hv₅ i ⟨L,hL⟩).trans (g₁.vs i L hL)) nL0 hloc
    refine wpAny_pure (hC c₁.s.heap.objs.size c₅ _ ge ac₅ hD0 nt₆ nL0 (fun q=>?_) hl)
    rw [← q,Heap.get?_push_size _ rfl] at nL;exact nos nL.symm)
 exact H2 rfl run fun E'=>La x₃ run
theorem Yi{own:List (Str×Nat)}{k v:E}{tg:Tg}{it:E}{pk pv ptg pit:Expr}{scope:Scope}{p:Pos}
  (hck:El S S' scope own (Dz [(tg,it,[])])=true) (hen:Fr [(tg,it,[])]=true) (hpl:Bn pit) (tit:TrI (TrE lv) S it pit) (ttg:Ahw S' tg ptg) (tk:TrE lv S' k pk) (tv:TrE lv S' v pv)
  (e:Ab F (.Ah1 k v (tg,it)) σ=some (d,σ')) (hQ:∀v c',Ge φ loc σ c σ' c'→Ahb c'.s.heap c'.s.toks c'.M v d→Q v c'.s) :
  wpAny (model prog w) A (eval (.DictComp pk pv [⟨ptg,pit,[],0⟩] scope p) env) Q EE c.s:=by
 obtain ⟨⟨l,σ₁⟩,h1,e⟩:=bs e
 obtain ⟨⟨es,σe⟩,h,e⟩:=ms e
 obtain ⟨rfl,rfl⟩:=Prod.mk.inj e
 show wpAny _ _ (comprehension (.DictComp pk pv [⟨ptg,pit,[],0⟩] scope p) scope env pit.pos newDict false (eval pit env)) _ _ _
 refine Rz ev Gx r V R hck hen hpl tit ttg tk tv h1 h fun D₁ c' L g a nD nt nL nv hl=>⟨fun h=>(hl h).2.2,fun h' sb hn=>?_⟩
 have st:∃M',Go φ loc σ c loc (J9 tg σe) ⟨{ c'.s with heap:=h' },M',c'.vs⟩∧Ais D₁ ⟨{ c'.s with heap:=h' },M',c'.vs⟩ es:=by
  by_cases h:Az scope
  ·obtain ⟨mL,nt,_⟩:=hl h
   have x:AtP (fun b=>b=L) c'.s { c'.s with heap:=h' }:=⟨fun b o hb e=>(sb.2 b hb).trans e,rfl,rfl,Nat.le_refl _⟩
   have st:=x.step (M:=c'.M) (M':=fun b=>c'.M b∧b≠L) (fun b p=>p ▸ mL) (fun b m=>m.1) (fun b m n=>⟨m,n⟩)
   refine ⟨fun b=>c'.M b∧b≠L,(g.go.y (Y:=fun ζ=>False)).pend R (P:=fun b=>b=L) (fun b p=>p ▸ mL) (fun b p=>p ▸ nL) (fun b p=>p ▸ nt) x (fun b m=>m.1) (fun b m n=>⟨m,n⟩) (fun b m=>?_) |>.go fun ζ f=>f,?_⟩
   ·obtain ⟨o,e⟩:=g.go.rep.Ahd b m.1
    exact ⟨o,x.keep b o m.2 e⟩
   ·exact a.mono' (c':=⟨{ c'.s with heap:=h' },fun b=>c'.M b∧b≠L,c'.vs⟩) st (Nat.le_refl _) (fun o e=>x.keep _ o nv e) ⟨a.m,nv⟩
  ·have:=hn h
   subst this
   exact ⟨c'.M,g.go,a⟩
 obtain ⟨M',g',a'⟩:=st
 obtain ⟨M'',g'',rr⟩:=Go.thawD R g' a' nD nt
 exact hQ _ ⟨{ c'.s with heap:=h' },M'',c'.vs⟩ ⟨g'',g.vs⟩ rr
end
end Mine
end
section
open PySem PySem.W PyProof.Rows
set_option autoImplicit false
namespace Mine
section
variable {F F':Ahl} {n m:Nat}
theorem Abj(hF:F'.ev=Ab F)(hm:n≤m)(ev:D8 F n)(evo:J4 F n)(evt:Ew F n)(cl:Oo F n)(fa:∀hT,K hT→∀a ss r,F.call a ss=some r→Acs hT a):D8 F' m:=by
 intro lv φ loc σ c S env A e pe d σ' Q EE Gx r' V R t h hQ
 have r:=r'.weaken hm
 rw [hF] at h
 have t0:=t
 obtain ⟨lv,u⟩:=t.out
 clear t
 induction u using Ahv.casesOn with
 |none=>obtain ⟨rfl,rfl⟩:=As h;exact wpAny_Constant_none (hQ _ c (.refl R) .none)
 |bool=>obtain ⟨rfl,rfl⟩:=As h;exact wpAny_Constant_bool (hQ _ c (.refl R) (.bool _))
 |int=>obtain ⟨rfl,rfl⟩:=As h;exact wpAny_Constant_int (hQ _ _ ((Ge.refl R).ext (Ext.tk1 _)) (.int _ _))
 |str hx hl=>obtain ⟨rfl,rfl⟩:=As h;subst hx;exact wpAny_Constant_str (hQ _ _ ((Ge.refl R).ext (Ext.tk1 _)) (.str _ hl))
 |Ahi hx hl=>obtain ⟨rfl,rfl⟩:=As h;subst hx;exact wpAny_Constant_str (hQ _ _ ((Ge.refl R).ext (Ext.tk1 _)) (.Ahj hl (Nat.pos_iff_ne_zero.mp R.pos) (Nat.lt_succ_self _)))
 |@var i x p hx hn=>
  obtain ⟨o,hs,h⟩:=Aer h
  rcases h with ⟨rfl,rfl⟩ | ⟨rfl,rfl⟩
  ·refine wpAny_Name (Ee V R hx hs (Bj hn).2 ?_) (Bj hn).1
   obtain ⟨_,_,_,rr⟩:=R.vals _ _ _ hs
   exact hQ _ c (.refl R) rr
  ·refine wpAny_Name (Ee V R hx hs (Bj hn).2 ?_) (Bj hn).1
   obtain ⟨M',g,rr⟩:=R.freeze hs
   exact hQ _ ⟨c.s,M',c.vs⟩ ⟨g,fun ζ ζ ζ=>rfl⟩ rr
 |glob hx hv=>obtain ⟨rfl,rfl⟩:=As h;exact X7 Gx V R hx hv fun v rr=>hQ v c (.refl R) rr
 |bin ho tl tr=>exact Af6 ev Gx r V R hQ ho tl tr h
 |neg t=>exact Af0 ev Gx r V R hQ t h
 |orv tl tr=>exact Afz ev Gx r V R hQ tl tr h
 |ite tt tb to=>
  refine wpAny_IfExp ?_
  obtain ⟨⟨b₁,σ₁⟩,h1,h⟩:=bs h
  induction b₁ using Bool.casesOn with
  |true=>
   refine evt Gx r V R tt h1 fun c₁ g₁=>?_
   exact ev Gx r V g₁.go.rep tb h fun v c₂ g₂ rr=>hQ v c₂ (g₁.trans g₂) rr
  |false=>
   refine evt Gx r V R tt h1 fun c₁ g₁=>?_
   exact ev Gx r V g₁.go.rep to h fun v c₂ g₂ rr=>hQ v c₂ (g₁.trans g₂) rr
 |cmp ho hm tl tr=>exact Af5 ev Gx r V R hQ ho hm tl tr h
 |list ts=>
  obtain ⟨o,h1⟩:=Kc h
  exact Oe evo Gx r V R t0 hQ h1
 |tup ts=>exact Afx ev Gx r V R hQ ts h
 |Ahr=>
  obtain ⟨o,h1⟩:=Kc h
  exact Oe evo Gx r V R t0 hQ h1
 |call tf ta hl=>exact Abo ev cl fa Gx r V R hQ tf ta hl h
 |len hb hx t=>exact Af1 ev Gx r V R hQ hb hx t h
 |bi hb0 hb hx ts=>exact ev_bi ev Gx r V R hQ hb0 hb hx ts h
 |blist hb hx t=>
  obtain ⟨o,h1⟩:=Kc h
  exact Oe evo Gx r V R t0 hQ h1
 |isB hb hb' hx hy t=>exact Af3 ev Gx r V R hQ hb hb' hx hy t h
 |isI hb hb' hx hy t=>exact Af2 ev Gx r V R hQ hb hb' hx hy t h
 |Ahn h1 h2 h3 h4 ta tb=>exact Rv ev Gx r V R hQ h1 h2 h3 h4 ta tb h
 |meth hn hb hl hl2 to ta=>exact Abm ev Gx r V R hQ hn hb hl hl2 to ta h
 |repl hn hb hl hx hl2 to told=>exact Abl ev Gx r V R hQ hn hb hl hx to told h
 |idx hs to ti=>exact Af4 ev Gx r V R hQ hs to ti h
 |Ahu hs to ti=>exact Abn ev Gx r V R hQ hs to ti h
 |slc to tl tu=>exact Afy ev Gx r V R hQ to tl tu h
 |slcR to=>exact Abk ev Gx r V R hQ to h
 |comp h1 h2 h3 h4 h5 h6 h7 h8=>
  obtain ⟨o,h1'⟩:=Kc h
  exact Oe evo Gx r V R t0 hQ h1'
 |Ah1 h1 h2 h3 h4 h5 h6 h7=>exact Yi ev Gx r V R h1 h2 h3 h4 h5 h6 h7 h hQ
theorem Ye(hF:F'.evO=Av F)(hm:n≤m)(ev:D8 F n)(evo:J4 F n)(evt:Ew F n):J4 F' m:=by
 intro lv φ loc σ c S env A e pe o d σ' Q EE Gx r' V R t h hP
 have r:=r'.weaken hm
 rw [hF] at h
 by_cases hi:isO e=false
 ·obtain ⟨rfl,h1⟩:=Z8 ((o_sh hi).symm.trans h)
  exact ev Gx r V R t h1 fun v c' g rr=>hP v c' g rr
 have t0:=t
 obtain ⟨lv,u⟩:=t.out
 clear t
 induction u using Ahv.casesOn with
 |list ts=>exact Yg ev Gx r V R hP ts h
 |Ahr=>exact U6 Gx r V R hP h
 |blist hb hx t=>exact U7 ev Gx r V R hP hb hx t h
 |comp h1 h2 h3 h4 h5 h6 h7 h8=>exact Yh ev evt Gx r V R h1 h2 h3 h4 h5 h6 h7 h8 h hP
 |ite tt tb to=>
  refine wpAny_IfExp ?_
  obtain ⟨⟨b₁,σ₁⟩,h1,h⟩:=bs h
  induction b₁ using Bool.casesOn with
  |true=>
   refine evt Gx r V R tt h1 fun c₁ g₁=>?_
   exact evo Gx r V g₁.go.rep tb h fun v c₂ g₂ p=>hP v c₂ (g₁.trans g₂) (p.back g₁.go)
  |false=>
   refine evt Gx r V R tt h1 fun c₁ g₁=>?_
   exact evo Gx r V g₁.go.rep to h fun v c₂ g₂ p=>hP v c₂ (g₁.trans g₂) (p.back g₁.go)
 |@bi bb _ _ _ _ _ _ a=>induction bb using Bi.casesOn <;> first | exact absurd rfl hi | exact absurd a Bool.false_ne_true
 |_=>exact absurd rfl hi
theorem Yc(hF:F'.evT=Fs F)(hm:n≤m)(ev:D8 F n)(evt:Ew F n)(cm:Zl F n):Ew F' m:=by
 intro lv φ loc σ c S env A e pe b σ' Q EE Gx r' V R t h hB
 have r:=r'.weaken hm
 rw [hF] at h
 induction t using TrT.casesOn with
 |not t=>exact Abi evt Gx r V R hB t h
 |and ts=>exact wpAny_isTrue_BoolOp (Acl evt Gx r V R ts h hB)
 |or ts=>exact wpAny_isTrue_BoolOp (Acj evt Gx r V R ts h hB)
 |cmp ho hm tl tr=>
  obtain ⟨⟨d,σ₁⟩,h1,h⟩:=bs h
  obtain ⟨b',h2,h⟩:=ms h
  obtain ⟨rfl,rfl⟩:=Prod.mk.inj h
  subst ho
  refine wpAny_isTrue_Compare1 ?_ hm
  refine wpAny_mono (cm Gx r V R tl tr h1 (Q:=fun v s=>wpAny (model prog w) A (truthy v) Q EE s) fun b' c' g hd=>?_) (fun a s₁ ha=>wpAny_mono ha (fun b' s₂ hb=>wpAny_mono hb (fun ζ ζ q=>q) fun ζ ζ q=>q) fun ζ ζ q=>q) fun ζ ζ q=>q
  subst hd
  obtain rfl:=Ag h2
  exact wpAny_truthy_bool (hB c' g)
 |@val e pe hw t=>
  have hi:Afg e=false:=by obtain ⟨_,t⟩:=t.out;induction t using Ahv.casesOn <;> rfl
  obtain ⟨⟨d,σ₁⟩,h1,h⟩:=bs ((Acw hi).symm.trans h)
  obtain ⟨b',h2,h⟩:=ms h
  obtain ⟨rfl,rfl⟩:=Prod.mk.inj h
  refine wpAny_isTrue_value (ev Gx r V R t h1 fun v c' g rr=>Qo rr h2 fun s' x=>hB _ (g.ext x)) (hw env _)
theorem Y0(hF:F'.ev=Ab F)(hm:n≤m)(ev:D8 F n):Zl F' m:=by
 intro lv φ loc σ c S env A o l rr pl pr d σ' Q EE Gx r' V R tl tr h hQ
 rw [hF] at h
 exact Qc ev Gx (r'.weaken hm) V R tl tr h hQ
end
end Mine
end
section
open PySem PySem.W PyProof.Rows
set_option autoImplicit false
namespace Mine
theorem Pf{i:Nat}{s:Slot}:∀ {is:List Nat} {ss:List Slot} {σ σ':St},i∉is→By is ss σ=some σ'→By is ss (σ.put i s)=some (σ'.put i s)
 := by
 intro is ss σ σ' hn h
 induction is,ss using Cj generalizing σ with
 |nn=>obtain rfl:=Ag h;rfl
 |nc=>exact nos h
 |cn=>exact nos h
 |cc j is t ss ih=>
  have hj:i≠j:=fun q=>hn (by rw [q];exact List.mem_cons_self)
  have:(σ.put i s).put j t=(σ.put j t).put i s:=List.set_comm _ _ hj
  exact (congrArg (By is ss) this).trans (ih (fun m=>hn (List.mem_cons_of_mem _ m)) h)
theorem Pe{i:Nat}{s:Slot}:∀ {is:List Nat} {ss:List Slot} {σ σ':St},By is ss σ=some σ'→By (is++[i]) (ss++[s]) σ=some (σ'.put i s)
 := by
 intro is ss σ σ' h
 induction is,ss using Cj generalizing σ with
 |nn=>obtain rfl:=Ag h;rfl
 |cc _ is _ ss ih=>exact ih h
 |nc=>exact nos h
 |cn=>exact nos h
theorem Pd:∀ {is:List Nat} {ss:List Slot} (σ:St),is.length=ss.length→∃σ',By is ss σ=some σ'
 := by
 intro is ss σ h
 induction is,ss using Cj generalizing σ with
 |nn=>exact ⟨σ,rfl⟩
 |cc i is s ss ih=>exact ih (σ.put i s) (Nat.succ.inj h)
 |nc=>exact absurd h.symm (Nat.succ_ne_zero _)
 |cn=>exact absurd h (Nat.succ_ne_zero _)
theorem Q7:∀ {is:List Nat} {ss:List Slot} {σ σ':St},is.Nodup→By is ss σ=some σ'→By is.reverse ss.reverse σ=some σ'
 := by
 intro is ss σ σ' hn h
 induction is,ss using Cj generalizing σ σ' with
 |nn=>exact h
 |nc=>exact nos h
 |cn=>exact nos h
 |cc i is s ss ih=>
  rw [List.nodup_cons] at hn
  obtain ⟨σ₁,h1⟩:=Pd (is:=is) (ss:=ss) σ (Hw h)
  have h2:=Pf (s:=s) hn.1 h1
  obtain rfl:=Ag ((show By is ss (σ.put i s)=some σ' from h).symm.trans h2)
  rw [List.reverse_cons,List.reverse_cons]
  exact Pe (ih hn.2 h1)
theorem Jt{α β γ:Type}{f:α→γ}:∀ {l:List α} {r:List β},l.length≤r.length→(l.zip r).map (fun p=>f p.1)=l.map f
 |[],_,_=>rfl
 |_ :: _,_ :: _,h=>by simp [Jt (f:=f) (by simpa using h)]
 |_ :: _,[],h=>by simp at h
noncomputable def Fv:List Expr→List Str
 |.Name x _ :: r=>x :: Fv r
 |_=>[]
section
variable {lv:Nat} {F:Ahl} {n:Nat} {φ:Fx} {loc:Bl} {σ σ' σ₀:St} {c c₀:Cf} {S:Sx} {env:Env} {A:Around} {EE:Value→Shared→Prop} {d:D}
theorem Gh{ss:List Slot}{vs:List Value}:Cz c₀ loc σ c ss vs↔ss.length=vs.length∧(∀p∈ss.zip vs,Dv c₀ loc σ c p.1.1 p.1.2 p.2)∧(ss.zip vs).Pairwise fun p q=>p.1.1≠.sh→q.1.1≠.sh→p.2≠q.2:=by
 induction ss,vs using Cj with
 |nn=>exact ⟨fun ζ=>⟨rfl,fun ζ h=>absurd h List.not_mem_nil,.nil⟩,fun ζ=>trivial⟩
 |nc=>exact ⟨fun h=>h.elim,fun h=>absurd h.1.symm (Nat.succ_ne_zero _)⟩
 |cn=>exact ⟨fun h=>h.elim,fun h=>absurd h.1 (Nat.succ_ne_zero _)⟩
 |cc s ss v vs ih=>
  constructor
  ·intro h
   obtain ⟨a,b,r⟩:=h
   obtain ⟨l,p,q⟩:=ih.mp r
   refine ⟨congrArg Nat.succ l,fun x hx=>?_,.cons (fun x hx=>?_) q⟩
   ·rcases List.mem_cons.mp hx with e | hx
    ·exact e ▸ a
    ·exact p x hx
   ·obtain ⟨i,hi⟩:=List.mem_iff_getElem?.mp hx
    have hi:=List.getElem?_zip_eq_some.mp hi
    exact b i x.1 x.2 hi.1 hi.2
  ·intro h
   obtain ⟨l,p,q⟩:=h
   cases q with | cons a q=>
   exact ⟨p _ List.mem_cons_self,fun i s' v' h1 h2=>a (s',v') (List.mem_iff_getElem?.mpr ⟨i,List.getElem?_zip_eq_some.mpr ⟨h1,h2⟩⟩),ih.mpr ⟨Nat.succ.inj l,fun x hx=>p x (List.mem_cons_of_mem _ hx),q⟩⟩
theorem Sc{α β:Type}{l:List α}{r:List β}(h:l.length=r.length):l.reverse.zip r.reverse=(l.zip r).reverse:=by
 induction l generalizing r with
 |nil=>induction r using List.casesOn with
  |nil=>rfl
  |cons _ _=>cases h
 |cons a l ih=>induction r using List.casesOn with
  |nil=>cases h
  |cons b r=>
   have h':l.length=r.length:=by simpa using h
   rw [List.reverse_cons,List.reverse_cons,List.zip_append (by simp [h']),ih h']
   simp
theorem Cz.rev{ss:List Slot}{vs:List Value}(h:Cz c₀ loc σ c ss vs):Cz c₀ loc σ c ss.reverse vs.reverse:=by
 rw [Gh] at h ⊢
 obtain ⟨l,p,q⟩:=h
 refine ⟨by simp [l],fun x hx=>?_,?_⟩
 ·rw [Sc l] at hx;exact p x (List.mem_reverse.mp hx)
 ·rw [Sc l,List.pairwise_reverse]
  exact q.imp fun {a b} h h1 h2 e=>h h2 h1 e.symm
theorem Cz.go{loc':Bl}{σ₁:St}{c₁:Cf}(g:Go φ loc σ c loc' σ₁ c₁):∀ {ss:List Slot} {vs:List Value},Cz c₀ loc σ c ss vs→Cz c₀ loc' σ₁ c₁ ss vs
 := by
 intro ss vs h
 induction ss,vs using Cj with
 |nn=>trivial
 |cc _ _ _ _ ih=>exact ⟨h.1.go g,h.2.1,ih h.2.2⟩
 |nc=>exact h.elim
 |cn=>exact h.elim
theorem Cz.back{loc₁ loc₂:Bl}{σ₁ σ₂:St}{c₁ c₂:Cf}(g:Go φ loc₁ σ₁ c₁ loc₂ σ₂ c₂):∀ {ss:List Slot} {vs:List Value},Cz c₂ loc σ c ss vs→Cz c₁ loc σ c ss vs
 := by
 intro ss vs h
 induction ss,vs using Cj with
 |nn=>trivial
 |cc _ _ _ _ ih=>exact ⟨h.1.back g,h.2.1,ih h.2.2⟩
 |nc=>exact h.elim
 |cn=>exact h.elim
theorem L7(V:Ahk φ S loc env)(R₀:Rep φ loc σ₀ c₀){Q:Unit→Shared→Prop}:∀ {xs:List (Str×Nat)} {ss:List Slot} {vs:List Value} {σ σ':St} {c:Cf} (g:Go φ loc σ₀ c₀ loc σ c)
  (t:∀p∈xs,S.vars.lookup p.1=some p.2∧D4 (S.names.lookup p.1)=true) (h:By (xs.map (·.2)) ss σ=some σ') (W:Cz c₀ loc σ c ss vs)
  (hQ:∀c',Go φ loc σ₀ c₀ loc σ' c'→Q () c'.s),wpAny (model prog w) A (assignInOrder (xs.map fun p=>bindName env p.1) vs) Q EE c.s
 := by
 intro xs ss vs σ σ' c g t h W hQ
 induction xs,ss using Cj generalizing vs σ c with
 |nc=>exact nos h
 |cn=>exact nos h
 |nn=>
  induction vs using List.casesOn with
  |cons _ _=>exact W.elim
  |nil=>
  obtain rfl:=Ag h
  exact wpAny_pure (hQ c g)
 |cc p xs s ss ih=>
  obtain ⟨x,i⟩:=p
  induction vs using List.casesOn with
  |nil=>exact W.elim
  |cons v vs=>
  obtain ⟨h1,h2⟩:=t (x,i) List.mem_cons_self
  obtain ⟨L,hL,_⟩:=V.vars x i h1
  refine wpAny_bind (wpAny_holding (wpAny_bindName (Dh V R₀ g h1 (Ef h2) W.1 fun c' g' hM hv hk tk=>?_)))
  exact ih g' (fun p hp=>t p (List.mem_cons_of_mem _ hp)) h (Cz.store g.rep hM hv hk tk ⟨L,hL⟩ W.2.2 W.2.1)
theorem Zq{is:List Nat}{pes:List Expr}(t:TrN S is pes):(Fv pes).length=is.length∧is.length=pes.length∧∀p∈(Fv pes).zip is,S.vars.lookup p.1=some p.2∧D4 (S.names.lookup p.1)=true:=by
 induction t with
 |nil=>exact ⟨rfl,rfl,fun p h=>absurd h List.not_mem_nil⟩
 |cons h1 h2 ts ih=>
  obtain ⟨a,a',b⟩:=ih
  refine ⟨congrArg Nat.succ a,congrArg Nat.succ a',fun p hp=>?_⟩
  rcases List.mem_cons.mp hp with q | q
  ·subst q;exact ⟨h1,h2⟩
  ·exact b p q
theorem Qq{f:Expr→Option Str}(hf:∀x p,f (.Name x p)=some x∨f (.Name x p)=none){is:List Nat}{pes:List Expr}(t:TrN S is pes):(pes.filterMap f).length=pes.length→pes.filterMap f=Fv pes:=by
 induction t with
 |nil=>exact fun ζ=>rfl
 |@cons i x p is pes h1 h2 ts ih=>
  intro h
  rcases hf x p with q | q
  ·rw [List.filterMap_cons,q] at h ⊢
   dsimp only at h ⊢
   rw [ih (Nat.succ.inj h)];rfl
  ·rw [List.filterMap_cons,q] at h
   dsimp only at h
   have:=List.length_filterMap_le f pes
   simp at h;lia
theorem L5{is:List Nat}{pes pvs:List Expr}{k k':Nat}{q q':Pos}(t:TrN S is pes)(hc:pvs.all (foldedForSure 8)=true∨pvs.all (constantsAlone 8)=false) :
  swappedStores [.Tuple pes k q] (.Tuple pvs k' q') env=pure none∨swappedStores [.Tuple pes k q] (.Tuple pvs k' q') env=pure (some (Fv pes)):=by
 unfold swappedStores
 dsimp only
 split
 ·exact .inl rfl
 split
 ·exact .inl rfl
 split
 ·exact .inl rfl
 rename_i h3
 split
 ·exact .inl rfl
 rename_i h4
 split
 ·rename_i h5
  rcases hc with hc | hc
  ·exact absurd hc h4
  ·rw [hc] at h5;exact absurd h5 Bool.false_ne_true
 ·right
  refine congrArg (fun l=>(pure (some l):Sem (Option (List Str)))) (Qq (fun x p=>?_) t ?_)
  ·dsimp only
   split
   ·exact .inl rfl
   ·exact .inr rfl
  ·rw [Bool.or_eq_true,not_or] at h3
   exact Decidable.of_not_not fun q=>h3.1 (bne_iff_ne.mpr q)
variable (evo:J4 F n) (Gx:Gl φ.hT) (r:Da n A) (V:Ahk φ S loc env)
include evo Gx r V in
theorem Abp:∀ {es:List E} {pes:List Expr} {σ:St} {c:Cf} {ss:List Slot} {σ':St} (R:Rep φ loc σ c) (t:TrL (TrE lv) S es pes) (h:Ln F es σ=some (ss,σ'))
  {Q:List Value→Shared→Prop} (hQ:∀vs c',Ge φ loc σ c σ' c'→Cz c loc σ' c' ss vs→Q vs c'.s),wpAny (model prog w) A (spliced (pes.map fun pe=>(false,eval pe env))) Q EE c.s:=by
 intro es
 induction es with
 |nil=>
  intro pes σ c ss σ' R t h Q hQ
  obtain rfl:=t.inv;obtain ⟨rfl,rfl⟩:=As h
  exact Calls.spliced_nil (hQ [] c (.refl R) trivial)
 |cons e es ih=>
  intro pes σ c ss σ' R t h Q hQ
  replace t:=t.inv;obtain ⟨_,_,rfl,t,ts⟩:=t
  obtain ⟨⟨o,d,σ₁⟩,h1,h⟩:=bs h
  obtain ⟨⟨ds,σ'⟩,h2,h⟩:=ms h
  obtain ⟨rfl,rfl⟩:=Prod.mk.inj h
  refine Calls.spliced_cons (evo Gx r V R t h1 fun v c₁ g₁ p₁=>ih g₁.go.rep ts h2 fun vs c₂ g₂ W₂=>hQ _ _ (g₁.trans g₂) ⟨p₁.go g₂.go,fun i s' v' e1 e2 n1 n2 q=>?_,W₂.back g₁.go⟩)
  dsimp only at n1
  have hp:Dv c₁ loc σ' c₂ s'.1 s'.2 v':=(Gh.mp W₂).2.1 (s',v') (List.mem_iff_getElem?.mpr ⟨i,by rw [List.getElem?_zip_eq_some];exact ⟨e1,e2⟩⟩)
  obtain ⟨so,sd⟩:=s'
  induction o using Own.casesOn with
  |sh=>exact n1 rfl
  |bor=>exact p₁
  |own=>
   obtain ⟨a,ob,rfl,_,ea⟩:=p₁.1.ref
   induction so using Own.casesOn with
   |sh=>exact n2 rfl
   |bor=>exact hp
   |own=>
    have:=(hp.2 a q.symm).1
    rw [ea] at this;exact nos this.symm
include evo Gx r V in
theorem Abd{is:List Nat}{es:List E}{pes pvs:List Expr}{k k':Nat}{q q' p:Pos}{Q:Flow→Shared→Prop}(R:Rep φ loc σ c)(hn:Dk is=true)(h3:decide (is.length≤3)=true)(tn:TrN S is pes)(tl:TrL (TrE lv) S es pvs)
  (hc:pvs.all (foldedForSure 8)=true∨pvs.all (constantsAlone 8)=false) {ss:List Slot} {σ₁:St} (h1:Ln F es σ=some (ss,σ₁)) (h2:By is ss σ₁=some σ')
  (hQ:∀c',Go φ loc σ c loc σ' c'→Q .next c'.s):wpAny (model prog w) A (exec (.Assign [.Tuple pes k q] (.Tuple pvs k' q') p) env) Q EE c.s:=by
 have hl:=Hw h2
 obtain ⟨l1,l2,hz⟩:=Zq tn
 have val:∀ {Q:Value→Shared→Prop},(∀T vs c₁,Go φ loc σ c loc σ₁ c₁→Cz c loc σ₁ c₁ ss vs→c₁.s.heap.IsTuple T vs.toArray→Q (.ref T) c₁.s)→(hz:ss.length≤sizeLine)→
   wpAny (model prog w) A (eval (.Tuple pvs k' q') env) Q EE c.s:=by
  intro Q hq hz
  refine Tuple_ ?_
  rw [Ba tl]
  refine Abp evo Gx r V R tl h1 fun vs c₁ g₁ W₁=>wpAny_newTuple ?_ (by rw [← (Gh.mp W₁).1];exact hz)
  have g:=g₁.go.trans (g₁.go.rep.ext (Ext.push c₁.s { cls:=.type "tuple",data:=.seq vs.toArray }))
  refine hq _ vs ⟨_,c₁.M,c₁.vs⟩ g (W₁.go (g₁.go.rep.ext (Ext.push c₁.s { cls:=.type "tuple",data:=.seq vs.toArray }))) ?_
  exact ⟨_,Heap.get?_push_size _ rfl,rfl,0,rfl⟩
 have sz:ss.length≤sizeLine:=by
  rw [← hl,sizeLine_eq]
  have:=of_decide_eq_true h3
  lia
 rw [exec_Assign_arm]
 refine wpAny_bind (wpAny_standAt ?_)
 rw [show swapsWithSole [.Tuple pes k q] (.Tuple pvs k' q') p.line env=pure false from rfl]
 refine wpAny_bind (wpAny_pure ?_)
 rw [if_neg (by decide)]
 refine wpAny_bind (val (fun T vs c₁ g₁ W₁ hT=>?_) sz)
 have hlen:=(Gh.mp W₁).1
 rcases L5 (k:=k) (k':=k') (q:=q) (q':=q') (env:=env) tn hc with hw | hw
 ·rw [hw]
  refine wpAny_bind (wpAny_pure ?_)
  show wpAny _ A (do assignAll (.ref T) ((assignEach [.Tuple pes k q] env).map (·.2));pure .next) Q EE c₁.s
  refine wpAny_bind ?_
  show wpAny _ A (assign (.Tuple pes k q) env (.ref T)) _ EE c₁.s
  obtain ⟨e1,e2⟩:=Fd (env:=env) tn
  refine wpAny_assign_Tuple r.1 hT (by rw [e1,List.size_toArray,← hlen,hl]) e2 fun h' he=>?_
  have x:Ext c₁.s { c₁.s with heap:=h' }:=⟨fun b o e=>he b o (fun q=>by rw [q,A9] at e;exact nos e) e,rfl,rfl,Nat.le_refl _⟩
  exact Jp (c:=⟨_,c₁.M,c₁.vs⟩) V R (g₁.trans (g₁.rep.ext x)) tn h2 (by simpa using W₁.go (g₁.rep.ext x)) fun c' g' ζ=>wpAny_pure (hQ c' g')
 ·rw [hw]
  refine wpAny_bind (wpAny_pure ?_)
  show wpAny _ A (do rule "assign.swapped-stores";let items ← unpackItems (.ref T) (Fv pes).length none;assignInOrder ((Fv pes).reverse.map fun n=>bindName env n) items.reverse;pure .next) Q EE c₁.s
  refine wpAny_bind (wpAny_rule (wpAny_bind ?_))
  rw [show (Fv pes).length=vs.toArray.size by rw [List.size_toArray,← hlen,l1,hl]]
  refine wpAny_unpackItems_tuple r.1 hT fun h' he=>?_
  have x:Ext c₁.s { c₁.s with heap:=h' }:=⟨fun b o e=>he b o (fun q=>by rw [q,A9] at e;exact nos e) e,rfl,rfl,Nat.le_refl _⟩
  have e1:((Fv pes).reverse.map fun n=>bindName env n)=(((Fv pes).zip is).reverse.map fun p=>bindName env p.1):=by
   rw [List.map_reverse,List.map_reverse]
   congr 1
   exact (Jt (by exact Nat.le_of_eq l1)).symm
  rw [e1]
  refine wpAny_bind ?_
  refine L7 (c:=⟨_,c₁.M,c₁.vs⟩) V R (g₁.trans (g₁.rep.ext x)) (ss:=ss.reverse) (fun p hp=>hz p (List.mem_reverse.mp hp)) ?_ (by simpa using (W₁.go (g₁.rep.ext x)).rev) fun c' g'=>wpAny_pure (hQ c' g')
  rw [List.map_reverse,show ((Fv pes).zip is).map (·.2)=is from List.map_snd_zip (by exact Nat.le_of_eq (id (Eq.symm l1)))]
  exact Q7 (Ci hn) h2
end
end Mine
end
section
open PySem PySem.W PyProof.Rows
set_option autoImplicit false
namespace Mine
theorem At1.st{a:Addr}{s s':Shared}{M:Addr→Prop}(x:At1 a s s')(ma:M a):Step s.heap M (fun b=>b=a) s'.heap M (fun b=>b=a):=
 ⟨fun b o m e=>x.keep b o (fun q=>m (q ▸ ma)) e,fun b o m t e=>⟨x.keep b o t e,m⟩,fun b m=>.inl m,fun b t=>.inl t⟩
theorem Uk{h:Heap}{k:Tok}{M:Addr→Prop}{j:Int}{kvs:List (Int×Value)}{es:List (Int×D)}(r:Aha h k M kvs es):kvs.any (fun e=>e.1=j)=es.any (fun e=>e.1=j):=by
 induction r using Aha.ind with | nil=>rfl | cons i _ _ _ _ _ _ ih=>exact congrArg (decide (i=j) || ·) ih
theorem Ui{h:Heap}{k:Tok}{M:Addr→Prop}{j:Int}{v:Value}{d:D}(rv:Ahb h k M v d){kvs:List (Int×Value)}{es:List (Int×D)}(r:Aha h k M kvs es) :
  Aha h k M (kvs.map fun e=>if e.1=j then (e.1,v) else e) (es.map fun e=>if e.1=j then (e.1,d) else e):=by
 induction r using Aha.ind with
 |nil=>exact .nil
 |cons i _ _ _ _ a r ih=>
  rw [List.map_cons,List.map_cons]
  by_cases q:i=j
  ·rw [if_pos q,if_pos q];exact .cons rv ih
  ·rw [if_neg q,if_neg q];exact .cons a ih
theorem Q1{h:Heap}{k:Tok}{M:Addr→Prop}{j:Int}{v:Value}{d:D}(rv:Ahb h k M v d){kvs:List (Int×Value)}{es:List (Int×D)}(r:Aha h k M kvs es) :
  Aha h k M (kvs++[(j,v)]) (es++[(j,d)]):=by
 induction r using Aha.ind with | nil=>exact .cons rv .nil | cons _ _ _ _ _ a r ih=>exact .cons a ih
theorem Uh{h:Heap}{k:Tok}{M:Addr→Prop}{j:Int}{v:Value}{d:D}(rv:Ahb h k M v d){kvs:List (Int×Value)}{es:List (Int×D)}(r:Aha h k M kvs es) :
  Aha h k M (stored kvs j v) (Cg es j d):=by
 delta stored Cg
 rw [Uk r]
 split
 ·exact Ui rv r
 ·exact Q1 rv r
theorem Uj{h:Heap}{k:Tok}{M:Addr→Prop}{kvs:List (Int×Value)}{es:List (Int×D)}(r:Aha h k M kvs es):kvs.length=es.length:=by
 induction r using Aha.ind with | nil=>rfl | cons _ _ _ _ _ _ _ ih=>exact congrArg Nat.succ ih
inductive FlOK(c:Cf):Fl→Flow→Prop
 |next:FlOK c .next .next
 |ret {v:Value} {d:D}:Ahb c.s.heap c.s.toks c.M v d→FlOK c (.ret d) (.ret v)
def FlInv(c:Cf)(f:Flow):Fl→Prop
 |.next=>f=.next
 |.ret d=>∃v,f=.ret v∧Ahb c.s.heap c.s.toks c.M v d
theorem FlOK.inv{c:Cf}{fl:Fl}{f:Flow}(h:FlOK c fl f):FlInv c f fl:=by
 induction h using FlOK.casesOn with | next=>exact rfl | ret r=>exact ⟨_,rfl,r⟩
def Mh(F:Ahl)(n:Nat):Prop:=∀ {lv:Nat} {φ:Fx} {loc:Bl} {σ:St} {c:Cf} {S:Sx} {env:Env} {A:Around} {s:Mine.S} {ps:Stmt} {fl:Fl} {σ':St} {Q:Flow→Shared→Prop} {E:Value→Shared→Prop},
 Gl φ.hT→Da n A→Ahk φ S loc env→Rep φ loc σ c→TrS lv S s ps→F.ex s σ=some (fl,σ')→
 (∀f c',Go φ loc σ c loc σ' c'→FlOK c' fl f→Q f c'.s)→wpAny (model prog w) A (exec ps env) Q E c.s
section
variable {lv:Nat} {F:Ahl} {n:Nat} {φ:Fx} {loc:Bl} {σ σ':St} {c:Cf} {S:Sx} {env:Env} {A:Around} {EE:Value→Shared→Prop} {d:D}
theorem Rep.change(R:Rep φ loc σ c){i:Nat}{o:Own}{d d':D}{a:Addr}{s':Shared}(e:σ.get i=some (o,d))(ho:o≠.sh)(va:c.vs i=.ref a)(x:At1 a c.s s')
  (r:Step c.s.heap c.M (fun b=>b=a) s'.heap c.M (fun b=>b=a)→c.M a→Ahh s'.heap s'.toks c.M (.ref a) d'):Go φ loc σ c loc (σ.put i (o,d')) ⟨s',c.M,c.vs⟩:=by
 obtain ⟨L,hL,hv,z⟩:=R.vals i _ _ e
 obtain ⟨a',o',va',ma,ea⟩:=(Du.root ho z).ref
 rw [va] at va';obtain rfl:=Value.ref.inj va'
 refine R.root e ho va x (fun ζ m=>m) (fun ζ m=>.inl m) (fun b m=>?_) (r (x.st ma) ma)
 by_cases q:b=a
 ·rw [q];exact x.self
 ·obtain ⟨o,e⟩:=R.Ahd b m;exact ⟨o,x.keep b o q e⟩
theorem Qw(R:Rep φ loc σ c){x:Nat}{xs xs' ix:D}{iv v:Value}(e:σ.get x=some (.own,xs))(ri:Ahb c.s.heap c.s.toks c.M iv ix)(rv:Ahb c.s.heap c.s.toks c.M v d)(hs:D0 xs ix d=some xs')
  {Q:Unit→Shared→Prop} (hQ:∀c',Go φ loc σ c loc (σ.put x (.own,xs')) c'→c'.vs=c.vs→Q () c'.s):wpAny (model prog w) A (setItem (c.vs x) iv v) Q EE c.s:=by
 obtain ⟨L,hL,hv,z⟩:=R.vals x _ _ e
 generalize hvx:c.vs x=vx
 have z':Ahh c.s.heap c.s.toks c.M vx xs:=hvx ▸ z.1
 induction z' using Ahh.casesOn with
 |@list a vs ds n' ma l r zl=>
  obtain ⟨k,rfl,hs⟩:=Nq hs
  obtain ⟨t,rfl⟩:=ri.inv
  obtain ⟨hc,rfl⟩:=Cd hs
  simp only [Bool.and_eq_true,decide_eq_true_eq] at hc
  obtain ⟨⟨h1,h2⟩,h3⟩:=hc
  have h1':k.natAbs<2 ^ 63:=of_decide_eq_true h1
  refine ki_setAt l h2 (by lia) (by rw [List.size_toArray,r.len];exact h3) ?_
  have hn:∃n2,IsL (c.s.heap.update a (Obj.mapSeq (·.setIfInBounds k.toNat v))) a (vs.set k.toNat v).toArray n2:=by
   have:=Heap.get?_update_self (Obj.mapSeq (·.setIfInBounds k.toNat v)) l rfl
   rw [show (vs.set k.toNat v).toArray=vs.toArray.setIfInBounds k.toNat v by simp]
   exact ⟨_,this⟩
  obtain ⟨n2,hl⟩:=hn
  have x1:At1 a c.s { c.s with heap:=c.s.heap.update a (Obj.mapSeq (·.setIfInBounds k.toNat v)) }:=⟨fun b o hb e=>((Heap.SameBut.update ..).2 b hb).trans e,⟨_,hl⟩,rfl,rfl,Nat.le_refl _⟩
  exact hQ _ (R.change e (by decide) hvx x1 fun st ma=>.list ma hl ((r.mono st x1.toks).set _ (rv.mono st x1.toks)) (by rw [List.length_set];exact zl)) rfl
 |@Ahe a kvs es ma na l r=>
  obtain ⟨k,rfl,hs⟩:=L9 hs
  obtain ⟨t,rfl⟩:=ri.inv
  obtain ⟨hlen,rfl⟩:=Cd hs
  refine wpAny_setItem_pairs (knd:=intKind prog w) (intKind_is prog w k t) l (fun h' hd sb=>?_) (by rw [Uj r,sizeLine_eq];lia)
  have x1:At1 a c.s { c.s with heap:=h',toks:=c.s.toks+1 }:=⟨fun b o hb e=>(sb.2 b hb).trans e,DictOf.some hd,rfl,rfl,Nat.le_succ _⟩
  exact hQ _ (R.change e (by decide) hvx x1 fun st ma=>.Ahe ma na hd (Uh (rv.mono st x1.toks) (r.mono st x1.toks))) rfl
theorem Ags(R:Rep φ loc σ c){x:Nat}{o:Own}{ds:List D}{v:Value}(e:σ.get x=some (o,.list ds))(ho:o≠.sh)(rv:Ahb c.s.heap c.s.toks c.M v d)(hz:ds.length<line)
  {Q:Value→Shared→Prop} (hQ:∀u c',Go φ loc σ c loc (σ.put x (o,.list (ds++[d]))) c'→Q u c'.s):wpAny (model prog w) A (call (.builtin "list.append") [c.vs x,v]) Q EE c.s:=by
 obtain ⟨L,hL,hv,z⟩:=R.vals x _ _ e
 generalize hvx:c.vs x=vx
 have z':Ahh c.s.heap c.s.toks c.M vx (.list ds):=hvx ▸ Du.root ho z
 cases z' with
 |@list a vs _ n' ma l r zl=>
  refine call_meets PySem.F.slot_list_append l.isList.typeIs PySem.F.entry_list_append (PySem.F.args_list_append_2 _ _) (list_append a vs.toArray n' v (by rw [List.size_toArray,r.len,sizeLine_eq];rw [Aw] at hz;lia)) ?_
  refine ⟨l,?_⟩
  have hn:∃n2,IsL (c.s.heap.update a (Obj.mapSeq fun xs=>xs.push v)) a (vs++[v]).toArray n2:=by
   have:=Heap.get?_update_self (Obj.mapSeq fun xs=>xs.push v) l rfl
   rw [show (vs++[v]).toArray=vs.toArray.push v by simp]
   exact ⟨_,this⟩
  obtain ⟨n2,hl⟩:=hn
  have x1:At1 a c.s { c.s with heap:=c.s.heap.update a (Obj.mapSeq fun xs=>xs.push v) }:=⟨fun b o hb e=>((Heap.SameBut.update ..).2 b hb).trans e,⟨_,hl⟩,rfl,rfl,Nat.le_refl _⟩
  exact hQ _ _ (R.change e ho hvx x1 fun st ma=>.list ma hl ((r.mono st x1.toks).append (.cons (rv.mono st x1.toks) .nil)) (by rw [List.length_append,List.length_singleton];assumption))
theorem Afm(R:Rep φ loc σ c){x:Nat}{o:Own}{ds es:List D}{v:Value}(e:σ.get x=some (o,.list ds))(ho:o≠.sh)(rv:Ahb c.s.heap c.s.toks c.M v (.list es))(hz:ds.length+es.length≤line)
  {Q:Value→Shared→Prop} (hQ:∀u c',Go φ loc σ c loc (σ.put x (o,.list (ds++es))) c'→Q u c'.s):wpAny (model prog w) A (call (.builtin "list.extend") [c.vs x,v]) Q EE c.s:=by
 obtain ⟨L,hL,hv,z⟩:=R.vals x _ _ e
 generalize hvx:c.vs x=vx
 have z':Ahh c.s.heap c.s.toks c.M vx (.list ds):=hvx ▸ Du.root ho z
 cases z' with
 |@list a vs _ n' ma l r zl=>
  obtain ⟨b,us,m',rfl,mb,lb,rb,zb⟩:=rv.inv
  rw [Aw] at hz
  have hsz:vs.toArray.size+us.toArray.size≤sizeLine:=by rw [List.size_toArray,List.size_toArray,r.len,rb.len,sizeLine_eq];lia
  refine call_meets PySem.F.slot_list_extend l.isList.typeIs PySem.F.entry_list_extend (PySem.F.args_list_extend_2 _ _) (PySem.AutoSeq1.list_extend_list_list_0 a vs.toArray n' b us.toArray m' ?_ (by exact Nat.le_of_add_right_le hsz) (by exact Nat.le_add_right_of_le hsz)) ?_
  ·rw [Bool.and_eq_true,not_and]
   intro _
   simp only [Builtin.List.listTooLong,decide_eq_true_eq]
   exact Nat.not_lt.mpr hsz
  refine ⟨l,lb,?_⟩
  have hn:∃n2,IsL (c.s.heap.update a (Obj.mapSeq fun xs=>xs++us.toArray)) a (vs++us).toArray n2:=by
   have:=Heap.get?_update_self (Obj.mapSeq fun xs=>xs++us.toArray) l rfl
   rw [show (vs++us).toArray=vs.toArray++us.toArray by simp]
   exact ⟨_,this⟩
  obtain ⟨n2,hl⟩:=hn
  have x1:At1 a c.s { c.s with heap:=c.s.heap.update a (Obj.mapSeq fun xs=>xs++us.toArray) }:=⟨fun b o hb e=>((Heap.SameBut.update ..).2 b hb).trans e,⟨_,hl⟩,rfl,rfl,Nat.le_refl _⟩
  exact hQ _ _ (R.change e ho hvx x1 fun st ma=>.list ma hl ((r.mono st x1.toks).append (rb.mono st x1.toks)) (by rw [List.length_append,Aw];assumption))
theorem R6{M:Model}{o i:Expr}{pos:Pos}{v:Value}{s:Shared}{Q:Unit→Shared→Prop}(h:wpAny M A (eval o env) (fun ov s₂=>wpAny M A (eval i env) (fun iv s₃=>wpAny M A (setItem ov iv v) Q EE s₃) EE s₂) EE s) :
  wpAny M A (assign (.Subscript o i pos) env v) Q EE s:=by
 rw [assign_Subscript]
 exact wpAny_bind (wpAny_holding (wpAny_mono h (fun ov s₂ h₂=>wpAny_bind (wpAny_holding (wpAny_mono h₂ (fun iv s₃ h₃=>wpAny_bind (wpAny_standAt (wpAny_bind (wpAny_holding (wpAny_mono h₃ (fun ζ ζ q=>wpAny_release q) fun ζ ζ e=>e)))))
  fun ζ ζ e=>e))) fun ζ ζ e=>e))
theorem K4{pe:Expr}(h:Fk pe=true)(t:Option Expr)(l:Nat):swapsWith pe t l env=pure false:=by
 induction pe using Expr.casesOn <;> first | rfl | exact absurd h Bool.false_ne_true
theorem Vk{pi:Expr}(h:Bh pi=true)(ov iv new:Value):augStore pi ov iv new=(do holding [new,ov,iv] (setItem ov iv new);release [new,ov,iv] [];pure .next):=by
 induction pi using Expr.casesOn <;> first | rfl | exact absurd h Bool.false_ne_true
theorem V0{x:Nat}{is:List E}{ds:List D}{σ σ':St}(h:I2 F x is ds σ=some σ'):is.length=ds.length:=by
 induction is,ds using Cj generalizing σ with
 |nn=>rfl
 |nc=>exact nos h
 |cn=>exact nos h
 |cc i is d ds ih=>obtain ⟨_,_,_,_,_,_,_,_,_,_,h⟩:=Nn h;exact congrArg Nat.succ (ih h)
theorem T4{x:Nat}{is:List E}{pts:List Expr}(t:TrW (TrE lv) S x is pts):(assignEach pts env).length=is.length∧(assignEach pts env).findIdx? (·.1)=none∧pts.length=is.length:=by
 induction t with
 |nil=>exact ⟨rfl,rfl,rfl⟩
 |cons _ _ _ _ ts ih=>
  obtain ⟨a,b,c⟩:=ih
  exact ⟨congrArg Nat.succ a,List.findIdx?_cons.trans (by rw [if_neg Bool.false_ne_true,b];rfl),congrArg Nat.succ c⟩
theorem Qp{x:Nat}{f:Expr→Option Str}(hf:∀a b p,f (.Subscript a b p)=none){is:List E}{pts:List Expr}(t:TrW (TrE lv) S x is pts):pts.filterMap f=[]:=by
 induction t with
 |nil=>exact rfl
 |cons _ _ _ _ ts ih=>rw [List.filterMap_cons,hf];exact ih
theorem No{x:Nat}{is:List E}{pts pvs:List Expr}{k k':Nat}{q q':Pos}(t:TrW (TrE lv) S x is pts):swappedStores [.Tuple pts k q] (.Tuple pvs k' q') env=pure none:=by
 delta swappedStores
 dsimp only
 rw [Qp (fun ζ ζ ζ=>rfl) t]
 split
 ·rfl
 rename_i h1
 split
 ·rfl
 split
 ·rfl
 rename_i h3
 exfalso
 induction pts using List.casesOn with
 |nil=>simp at h1
 |cons _ _=>simp at h3
variable (ev:D8 F n) (Gx:Gl φ.hT) (r:Da n A) (V:Ahk φ S loc env)
include ev Gx r V
theorem Aea{x:Nat}{Q:Unit→Shared→Prop}:∀ {is:List E} {pts:List Expr} {ds:List D} {vs:List Value} {σ σ':St} {c:Cf} (R:Rep φ loc σ c) (t:TrW (TrE lv) S x is pts) (h:I2 F x is ds σ=some σ') (rl:Ag8 c.s.heap c.s.toks c.M vs ds)
  (hQ:∀c',Go φ loc σ c loc σ' c'→Q () c'.s),wpAny (model prog w) A (assignInOrder ((assignEach pts env).map (·.2)) vs) Q EE c.s:=by
 intro is
 induction is with
 |nil=>
  intro pts ds vs σ σ' c R t h rl hQ
  obtain rfl:=t.inv
  induction ds using List.casesOn with
  |cons _ _=>exact nos h
  |nil=>
  obtain rfl:=Ag h
  exact wpAny_pure (hQ c (.refl R))
 |cons i is ih=>
  intro pts ds vs σ σ' c R t h rl hQ
  obtain ⟨x',q,p,pe,pts,rfl,hx,hn,hsl,te,ts⟩:=t.inv
  induction ds using List.casesOn with
  |nil=>exact nos h
  |cons d ds=>
  obtain ⟨s0o,s0d,iv,σ₁,xs,xs',h0,h1,h2,h3,h⟩:=Nn h
  replace rl:=rl.inv;obtain ⟨_,_,rfl,rd,rl⟩:=rl
  refine wpAny_bind (wpAny_holding (R6 (wpAny_Name (Ee V R hx h0 (Bj hn).2 ?_) (Bj hn).1)))
  refine ev Gx r V R te h1 fun ivv c₁ g₁ ri=>?_
  obtain ⟨L,hL,_⟩:=V.vars _ x hx
  rw [← g₁.vs x L hL]
  refine Qw g₁.go.rep h2 ri (g₁.go.real rd) h3 fun c₂ g₂ ζ=>?_
  exact ih g₂.rep ts h ((g₁.go.trans g₂).realL rl) fun c₃ g₃=>hQ c₃ ((g₁.go.trans g₂).trans g₃)
variable (R:Rep φ loc σ c)
include R
theorem Adg{i:Nat}{e:E}{x:Str}{q ap cp p:Pos}{nm:Str}{mid:String}{pe:Expr}{o:Own}{l0:List D}{σ₁:St}{Q:Flow→Shared→Prop}(hx:S.vars.lookup x=some i)(hn:Cq x=true)(hline:(ap.endLine == cp.line)=true)(t:TrE lv S e pe)
  (hsl:PySem.Slot "list" nm mid) (hty:typeOf (.builtin mid)=pure (.type "method_descriptor")) (h0:σ.get i=some (o,.list l0)) (h1:F.ev e σ=some (d,σ₁))
  (hQ:∀v c₁,Ge φ loc σ c σ₁ c₁→Ahb c₁.s.heap c₁.s.toks c₁.M v d→wpAny (model prog w) A (call (.builtin mid) [c₁.vs i,v]) (fun ζ s'=>Q .next s') EE c₁.s) :
  wpAny (model prog w) A (exec (.Expr (.Call (.Attribute (.Name x q) nm ap) [pe] [] cp) p) env) Q EE c.s:=by
 have hi:interactive env=false:=by delta interactive;rw [show env.scope.kind=.function from V.kind];rfl
 refine wpAny_Expr_any ?_ hi rfl
 refine wpAny_Call_method_late rfl ?_ hline rfl ?_
 ·rw [Ah t];rfl
 refine wpAny_Name (Ee V R hx h0 (Bj hn).2 ?_) (Bj hn).1
 obtain ⟨L,hL,_,sl⟩:=R.vals i _ _ h0
 have hl:Ex3 fun a vs n'=>c.vs i=.ref a∧IsL c.s.heap a vs n':=by
  induction o using Own.casesOn with
  |sh=>
   have sl:Ahb c.s.heap c.s.toks c.M (c.vs i) (.list l0):=sl
   generalize c.vs i=u at sl
   obtain ⟨_,_,_,rfl,_,l,_,_⟩:=sl.inv;exact ⟨_,_,_,rfl,l⟩
  |own=>
   have sl:=sl.1
   generalize c.vs i=u at sl
   obtain ⟨_,_,_,rfl,_,l,_,_⟩:=sl.inv;exact ⟨_,_,_,rfl,l⟩
  |bor=>
   have sl:=sl.1
   generalize c.vs i=u at sl
   obtain ⟨_,_,_,rfl,_,l,_,_⟩:=sl.inv;exact ⟨_,_,_,rfl,l⟩
 obtain ⟨a,vs,n',hv,l⟩:=hl
 refine ⟨"list",mid,PySem.F.plainAttrs_list,hsl,hty,by rw [hv];exact l.isList.typeIs,fun b q=>by rw [hv] at q;obtain rfl:=Value.ref.inj q;exact ⟨_,l,rfl⟩,?_⟩
 obtain ⟨L,hL,_⟩:=V.vars x i hx
 refine callWith_method1 ?_ (Ah t _) ?_
 ·rw [Ba (.cons t .nil)]
  refine Calls.spliced_cons (ev Gx r V R t h1 fun v c₁ g₁ rv=>Calls.spliced_nil ?_)
  rw [← g₁.vs i L hL]
  exact hQ v c₁ g₁ rv
 ·rfl
theorem Afw{i:Nat}{e:E}{x:Str}{q ap cp p:Pos}{nm:Str}{pe:Expr}{fl:Fl}{Q:Flow→Shared→Prop}(hx:S.vars.lookup x=some i)(hn:Cq x=true)(hnm:nm=("append" : Str))(hline:(ap.endLine == cp.line)=true)(t:TrE lv S e pe)
  (h:Bz F (.app i e) σ=some (fl,σ')) (hQ:∀f c',Go φ loc σ c loc σ' c'→FlOK c' fl f→Q f c'.s) :
  wpAny (model prog w) A (exec (.Expr (.Call (.Attribute (.Name x q) nm ap) [pe] [] cp) p) env) Q EE c.s:=by
 subst hnm
 obtain ⟨h0,h⟩:=J6 h
 obtain ⟨o,l0,h0⟩:=Px h0
 obtain ⟨⟨d,σ₁⟩,h1,h⟩:=bs h
 obtain ⟨o,ds,h2,h3,hz,rfl,rfl⟩:=Aci h
 refine Adg ev Gx r V R hx hn hline t PySem.F.slot_list_append PySem.F.type_list_append h0 h1 fun v c₁ g₁ rv=>?_
 exact Ags g₁.go.rep h2 h3 rv hz fun u c' g=>hQ .next c' (g₁.go.trans g) .next
theorem Aft{i:Nat}{e:E}{x:Str}{q ap cp p:Pos}{nm:Str}{pe:Expr}{fl:Fl}{Q:Flow→Shared→Prop}(hx:S.vars.lookup x=some i)(hn:Cq x=true)(hnm:nm=("extend" : Str))(hline:(ap.endLine == cp.line)=true)(t:TrE lv S e pe)
  (h:Bz F (.ext i e) σ=some (fl,σ')) (hQ:∀f c',Go φ loc σ c loc σ' c'→FlOK c' fl f→Q f c'.s) :
  wpAny (model prog w) A (exec (.Expr (.Call (.Attribute (.Name x q) nm ap) [pe] [] cp) p) env) Q EE c.s:=by
 subst hnm
 obtain ⟨h0,h⟩:=J6 h
 obtain ⟨o,l0,h0⟩:=Px h0
 obtain ⟨⟨d,σ₁⟩,h1,h⟩:=bs h
 obtain ⟨ys,hy,h⟩:=bs h
 obtain rfl:=Rd hy
 obtain ⟨o,ds,h2,h3,hz,rfl,rfl⟩:=Abb h
 refine Adg ev Gx r V R hx hn hline t PySem.F.slot_list_extend PySem.F.type_list_extend h0 h1 fun v c₁ g₁ rv=>?_
 exact Afm g₁.go.rep h2 h3 rv hz fun u c' g=>hQ .next c' (g₁.go.trans g) .next
theorem Afq{i:Nat}{ie e:E}{x:Str}{q rp p:Pos}{pi pe:Expr}{fl:Fl}{Q:Flow→Shared→Prop}(hx:S.vars.lookup x=some i)(hn:Cq x=true)(hns:Bh pi=true)(hnc:Fk pe=true)(ti:TrE lv S ie pi)(t:TrE lv S e pe)
  (h:Bz F (.put i ie e) σ=some (fl,σ')) (hQ:∀f c',Go φ loc σ c loc σ' c'→FlOK c' fl f→Q f c'.s) :
  wpAny (model prog w) A (exec (.Assign [.Subscript (.Name x q) pi rp] pe p) env) Q EE c.s:=by
 obtain ⟨⟨d,σ₁⟩,h1,h⟩:=bs h
 obtain ⟨σ₂,h2,h⟩:=ms h
 obtain ⟨rfl,rfl⟩:=Prod.mk.inj h
 obtain ⟨s0o,s0d,iv,σ₃,xs,xs',h0,h3,h4,h5,h2⟩:=Nn h2
 obtain rfl:=Ag h2
 refine wpAny_Assign_Subscript ?_ (K4 hnc _ _)
 refine ev Gx r V R t h1 fun v c₁ g₁ rv=>?_
 refine wpAny_Name (Ee V g₁.go.rep hx h0 (Bj hn).2 ?_) (Bj hn).1
 refine ev Gx r V g₁.go.rep ti h3 fun ivv c₂ g₂ ri=>?_
 obtain ⟨L,hL,_⟩:=V.vars x i hx
 rw [← g₂.vs i L hL]
 exact Qw g₂.go.rep h4 ri (g₂.go.real rv) h5 fun c₃ g₃ ζ=>hQ .next c₃ ((g₁.go.trans g₂.go).trans g₃) .next
theorem Afo{x:Nat}{is es:List E}{pts pvs:List Expr}{k k':Nat}{q q' p:Pos}{fl:Fl}{Q:Flow→Shared→Prop}(h3:decide (is.length≤3)=true)(tw:TrW (TrE lv) S x is pts)(tl:TrL (TrE lv) S es pvs)
  (h:Bz F (.swp x is es) σ=some (fl,σ')) (hQ:∀f c',Go φ loc σ c loc σ' c'→FlOK c' fl f→Q f c'.s) :
  wpAny (model prog w) A (exec (.Assign [.Tuple pts k q] (.Tuple pvs k' q') p) env) Q EE c.s:=by
 obtain ⟨⟨ds,σ₁⟩,h1,h⟩:=bs h
 obtain ⟨σ₂,h2,h⟩:=ms h
 obtain ⟨rfl,rfl⟩:=Prod.mk.inj h
 have hl:=V0 h2
 obtain ⟨a1,a2,a3⟩:=T4 (env:=env) tw
 rw [exec_Assign_arm]
 refine wpAny_bind (wpAny_standAt ?_)
 rw [show swapsWithSole [.Tuple pts k q] (.Tuple pvs k' q') p.line env=pure false from rfl]
 refine wpAny_bind (wpAny_pure ?_)
 rw [if_neg (by decide)]
 refine wpAny_bind (Tuple_ ?_)
 rw [Ba tl]
 have h3':=of_decide_eq_true h3
 refine H0 ev Gx r V R tl h1 fun vs c₁ g₁ r₁=>wpAny_newTuple ?_ (by rw [r₁.len,sizeLine_eq];lia)
 have gx:=g₁.go.rep.ext (Ext.push c₁.s { cls:=.type "tuple",data:=.seq vs.toArray })
 rw [No tw]
 refine wpAny_bind (wpAny_pure ?_)
 show wpAny _ A (do assignAll (.ref c₁.s.heap.objs.size) ((assignEach [.Tuple pts k q] env).map (·.2));pure .next) Q EE _
 refine wpAny_bind ?_
 show wpAny _ A (assign (.Tuple pts k q) env (.ref c₁.s.heap.objs.size)) _ EE _
 refine wpAny_assign_Tuple (items:=vs.toArray) r.1 ⟨_,Heap.get?_push_size _ rfl,rfl,0,rfl⟩ (by rw [a1,List.size_toArray,r₁.len,← hl]) a2 fun h' he=>?_
 have x:Ext { c₁.s with heap:=c₁.s.heap.push { cls:=.type "tuple",data:=.seq vs.toArray } } { c₁.s with heap:=h' }:=⟨fun b o e=>he b o (fun q=>by rw [q,A9] at e;exact nos e) e,rfl,rfl,Nat.le_refl _⟩
 have gy:=gx.trans (gx.rep.ext x)
 refine Aea ev Gx r V (c:=⟨{ c₁.s with heap:=h' },c₁.M,c₁.vs⟩) gy.rep tw h2 (by simpa using gy.realL r₁) fun c' g'=>wpAny_pure (hQ .next c' ((g₁.go.trans gy).trans g') .next)
theorem Afu{o:Op}{i:Nat}{e:E}{x:Str}{q p:Pos}{pe:Expr}{fl:Fl}{Q:Flow→Shared→Prop}(ho:o=.add∨o=.sub∨o=.mul)(hx:S.vars.lookup x=some i)(hlc:D4 (S.names.lookup x)=true)(hn:Cq x=true)(t:TrE lv S e pe)
  (h:Bz F (.aug o i e) σ=some (fl,σ')) (hQ:∀f c',Go φ loc σ c loc σ' c'→FlOK c' fl f→Q f c'.s) :
  wpAny (model prog w) A (exec (.AugAssign (.Name x q) (K3 o) pe p) env) Q EE c.s:=by
 obtain ⟨old,h0,h⟩:=bs h
 obtain ⟨⟨d,σ₁⟩,h1,h⟩:=bs h
 obtain ⟨rr,h2,h⟩:=ms h
 obtain ⟨rfl,rfl⟩:=Prod.mk.inj h
 obtain ⟨rd,h2,h3⟩:=bs h2
 have h0:=sh_is h0
 obtain rfl:=Rl h3
 obtain ⟨_,_,_,ro⟩:=R.vals i _ _ h0
 refine wpAny_AugAssign_Name (Ee V R hx h0 (Bj hn).2 ?_)
 refine ev Gx r V R t h1 fun v c₁ g₁ rv=>?_
 refine X0 (g₁.go.real ro) rv h2 ho fun tk s' xt=>?_
 have g:=g₁.go.trans (g₁.go.rep.ext xt)
 exact Dh (c:=⟨s',c₁.M,c₁.vs⟩) (o:=.sh) (d:=.int rr) V R g hx (Ef hlc) (.int _ _) fun c' g' ζ ζ ζ ζ=>hQ .next c' g' .next
theorem U5{o:Op}{i:Nat}{ie e:E}{x:Str}{q rp p:Pos}{pi pe:Expr}{fl:Fl}{Q:Flow→Shared→Prop}(ho:o=.add∨o=.sub∨o=.mul)(hx:S.vars.lookup x=some i)(hn:Cq x=true)(hns:Bh pi=true)(ti:TrE lv S ie pi)(t:TrE lv S e pe)
  (h:Bz F (.Ahq o i ie e) σ=some (fl,σ')) (hQ:∀f c',Go φ loc σ c loc σ' c'→FlOK c' fl f→Q f c'.s) :
  wpAny (model prog w) A (exec (.AugAssign (.Subscript (.Name x q) pi rp) (K3 o) pe p) env) Q EE c.s:=by
 obtain ⟨h0,h⟩:=J6 h
 obtain ⟨⟨s0o,s0d⟩,h0⟩:=Option.isSome_iff_exists.mp h0
 obtain ⟨⟨iv,σ₁⟩,h1,h⟩:=bs h
 obtain ⟨xs,h2,h⟩:=bs h
 obtain ⟨old,h3,h⟩:=bs h
 obtain ⟨⟨d,σ₂⟩,h4,h⟩:=bs h
 obtain ⟨rr,h5,h⟩:=bs h
 obtain ⟨xs2,h6,h⟩:=bs h
 obtain ⟨xs',h7,h⟩:=ms h
 obtain ⟨rfl,rfl⟩:=Prod.mk.inj h
 obtain ⟨rd,h5,h8⟩:=bs h5
 have h2:=Ny h2
 have h6:=Ny h6
 obtain rfl:=Rl h8
 obtain ⟨L,hL,_⟩:=V.vars x i hx
 refine wpAny_AugAssign_Subscript_any ?_ (Vk hns)
 refine wpAny_Name (Ee V R hx h0 (Bj hn).2 ?_) (Bj hn).1
 refine ev Gx r V R ti h1 fun ivv c₁ g₁ ri=>?_
 rw [← g₁.vs i L hL]
 obtain ⟨_,_,_,so⟩:=g₁.go.rep.vals i _ _ h2
 refine O7 (.inr so.1) ri h3 fun ov s' xt ro=>?_
 have g':=g₁.ext xt
 refine ev Gx r V (c:=⟨s',c₁.M,c₁.vs⟩) g'.go.rep t h4 fun v c₂ g₂ rv=>?_
 refine X0 (g₂.go.real ro) rv h5 ho fun tk s'' xt2=>?_
 have g'':=g₂.ext xt2
 have e1:c₁.vs i=(⟨s'',c₂.M,c₂.vs⟩ : Cf).vs i:=(g₂.vs i L hL).symm
 rw [e1]
 exact Qw (c:=⟨s'',c₂.M,c₂.vs⟩) (v:=.int rr tk) (d:=.int rr) g''.go.rep h6 ((ri.ext xt |> g₂.go.real).ext xt2) (.int _ _) h7 fun c₃ g₃ ζ=>hQ .next c₃ ((g'.go.trans g''.go).trans g₃) .next
end
end Mine
end
section
open PySem PySem.W PyProof.Rows
set_option autoImplicit false
namespace Mine
section
variable {lv:Nat} {F:Ahl} {n:Nat} {φ:Fx} {loc:Bl} {σ σ':St} {c:Cf} {S:Sx} {env:Env} {A:Around} {EE:Value→Shared→Prop} {d:D} {fl:Fl} {Q:Flow→Shared→Prop}
variable (Gx:Gl φ.hT) (r:Da n A) (V:Ahk φ S loc env)
include Gx r V
theorem Ga(ex:Mh F n):∀ {ss:List Mine.S} {pss:List Stmt} {σ:St} {c:Cf} (R:Rep φ loc σ c) (t:Ahy (TrS lv) S ss pss) (h:exs F ss σ=some (fl,σ')) {Q:Flow→Shared→Prop}
  (hQ:∀f c',Go φ loc σ c loc σ' c'→FlOK c' fl f→Q f c'.s),wpAny (model prog w) A (execs pss env) Q EE c.s:=by
 intro ss
 induction ss with
 |nil=>intro pss σ c R t h Q hQ;obtain rfl:=t.inv;obtain ⟨rfl,rfl⟩:=As h;exact wpAny_execs_nil (hQ .next c (.refl R) .next)
 |cons s ss ih=>
  intro pss σ c R t h Q hQ
  replace t:=t.inv;obtain ⟨_,_,rfl,t,ts⟩:=t
  rcases Iz h with ⟨σ₁,h1,h⟩ | ⟨d,h1,rfl⟩
  ·refine wpAny_execs_cons (ex Gx r V R t h1 fun f c₁ g₁ fo=>?_)
   obtain rfl:=fo.inv
   exact ih g₁.rep ts h fun f c₂ g₂ fo=>hQ f c₂ (g₁.trans g₂) fo
  ·refine wpAny_execs_cons (ex Gx r V R t h1 fun f c₁ g₁ fo=>?_)
   obtain ⟨v,rfl,rv⟩:=fo.inv
   exact hQ _ c₁ g₁ (.ret rv)
variable (R:Rep φ loc σ c) (hQ:∀f c',Go φ loc σ c loc σ' c'→FlOK c' fl f→Q f c'.s)
include R hQ
theorem Afv(evo:J4 F n){i:Nat}{e:E}{x:Str}{q p:Pos}{pe:Expr}(hx:S.vars.lookup x=some i)(hlc:D4 (S.names.lookup x)=true)(hnc:Fk pe=true)(t:TrE lv S e pe)(h:Bz F (.asg i e) σ=some (fl,σ')) :
  wpAny (model prog w) A (exec (.Assign [.Name x q] pe p) env) Q EE c.s:=by
 obtain ⟨⟨o,d,σ₁⟩,h1,h⟩:=ms h
 obtain ⟨rfl,rfl⟩:=Prod.mk.inj h
 refine wpAny_Assign_Name ?_ (K4 hnc _ _)
 exact evo Gx r V R t h1 fun v c₁ g₁ p₁=>Dh V R g₁.go hx (Ef hlc) p₁ fun c' g' ζ ζ ζ ζ=>hQ .next c' g' .next
theorem Abh(ev:D8 F n){i j:Nat}{e:E}{x y:Str}{q rp p:Pos}{pe:Expr}(hx:S.vars.lookup x=some i)(hlc:D4 (S.names.lookup x)=true)(hy:S.vars.lookup y=some j)(hlc':D4 (S.names.lookup y)=true)(t:TrE lv S e pe)
  (h:Bz F (.asg2 i j e) σ=some (fl,σ')):wpAny (model prog w) A (exec (.Assign [.Name x q,.Name y rp] pe p) env) Q EE c.s:=by
 obtain ⟨⟨d,σ₁⟩,h1,h⟩:=ms h
 obtain ⟨rfl,rfl⟩:=Prod.mk.inj h
 refine wpAny_Assign_two ?_ rfl rfl
 refine ev Gx r V R t h1 fun v c₁ g₁ rv=>?_
 refine wpAny_assign_Name (Dh (o:=.sh) (d:=d) V g₁.go.rep (.refl g₁.go.rep) hx (Ef hlc) rv fun c₂ g₂ ζ ζ ζ ζ=>?_)
 exact wpAny_assign_Name (Dh (o:=.sh) (d:=d) V g₂.rep (.refl g₂.rep) hy (Ef hlc') (g₂.real rv) fun c₃ g₃ ζ ζ ζ ζ=>hQ .next c₃ ((g₁.go.trans g₂).trans g₃) .next)
theorem Abc(ev:D8 F n){is:List Nat}{e:E}{pes:List Expr}{k:Nat}{q p:Pos}{pe:Expr}(hs:∀env,swappedStores [.Tuple pes k q] pe env=pure none)(hn:Dk is=true)(tn:TrN S is pes)(t:TrE lv S e pe)
  (h:Bz F (.Ah0 is e) σ=some (fl,σ')):wpAny (model prog w) A (exec (.Assign [.Tuple pes k q] pe p) env) Q EE c.s:=by
 obtain ⟨⟨d,σ₁⟩,h1,h⟩:=bs h
 obtain ⟨σ₂,h2,h⟩:=ms h
 obtain ⟨rfl,rfl⟩:=Prod.mk.inj h
 obtain ⟨ds,rfl,h2⟩:=Agf h2
 refine wpAny_Assign_stores ?_ (by cases pe <;> rfl) (hs env)
 refine ev Gx r V R t h1 fun v c₁ g₁ rv=>?_
 show wpAny _ A (assign (.Tuple pes k q) env v) _ EE c₁.s
 exact Gz r V g₁.go.rep (.t hn tn) rv h2 fun c₂ g₂ ζ=>hQ .next c₂ (g₁.go.trans g₂) .next
theorem Afp(ev:D8 F n){e:E}{p:Pos}{pe:Expr}(t:TrE lv S e pe)(h:Bz F (.ret e) σ=some (fl,σ')):wpAny (model prog w) A (exec (.Return (some pe) p) env) Q EE c.s:=by
 obtain ⟨⟨d,σ₁⟩,h1,h⟩:=ms h
 obtain ⟨rfl,rfl⟩:=Prod.mk.inj h
 exact wpAny_Return_some (ev Gx r V R t h1 fun v c₁ g₁ rv=>hQ _ c₁ g₁.go (.ret rv))
theorem Afr(evt:Ew F n)(ex:Mh F n){t:E}{b o:List Mine.S}{pt:Expr}{pb po:List Stmt}{p:Pos}(tt:TrT (TrE lv) S t pt)(tb:Ahy (TrS lv) S b pb)(to:Ahy (TrS lv) S o po)(h:Bz F (.ite t b o) σ=some (fl,σ')) :
  wpAny (model prog w) A (exec (.If pt pb po p) env) Q EE c.s:=by
 refine wpAny_If ?_
 obtain ⟨⟨b₁,σ₁⟩,h1,h⟩:=bs h
 induction b₁ using Bool.casesOn with
 |true=>
  refine evt Gx r V R tt h1 fun c₁ g₁=>?_
  rw [if_pos rfl]
  exact Ga Gx r V ex g₁.go.rep tb h fun f c₂ g₂ fo=>hQ f c₂ (g₁.go.trans g₂) fo
 |false=>
  refine evt Gx r V R tt h1 fun c₁ g₁=>?_
  rw [if_neg (by decide)]
  exact Ga Gx r V ex g₁.go.rep to h fun f c₂ g₂ fo=>hQ f c₂ (g₁.go.trans g₂) fo
theorem Abe(ex:Mh F n){b:List Mine.S}{pb:List Stmt}{hh:ExceptHandler}{hs:List ExceptHandler}{p:Pos}(tb:Ahy (TrS lv) S b pb)(h:Bz F (.Aht b) σ=some (fl,σ')) :
  wpAny (model prog w) A (exec (.Try pb (hh :: hs) [] [] p) env) Q EE c.s:=by
 refine wpAny_Try_except (Ga Gx r V ex R tb h fun f c₁ g₁ fo=>?_)
 induction fo using FlOK.casesOn with
 |next=>exact wpAny_execs_nil (hQ .next c₁ g₁ .next)
 |ret rv=>exact hQ _ c₁ g₁ (.ret rv)
theorem Afs(ev:D8 F n)(ex:Mh F n){tg:Tg}{it:E}{b:List Mine.S}{ptg pit:Expr}{pb:List Stmt}{p:Pos}(hen:Fr [(tg,it,[])]=true)(hpl:Bn pit)(tit:TrI (TrE lv) S it pit)(ttg:Ahw S tg ptg)(tb:Ahy (TrS lv) S b pb)
  (h:Bz F (.for tg it b) σ=some (fl,σ')):wpAny (model prog w) A (exec (.For ptg pit pb [] p) env) Q EE c.s:=by
 obtain ⟨⟨l,σ₁⟩,h1,h⟩:=bs h
 refine wpAny_For ?_ (hpl env)
 refine Ih ev Gx r V R tit h1 fun itv c₁ P g₁ x₁ hP=>?_
 refine codeAny_forLoop_any (fun k s=>Ex3 fun (ds:List D) (σ₂:St) (c₂:Cf)=>And6 (s=c₂.s) (k=ds.length) (Dl F tg b ds σ₂=some (fl,σ')) (Go φ loc σ c loc σ₂ c₂) (Ai4 c₂.s.heap c₂.s.toks c₂.M P itv (F7 it) ds) (∀b,P b→c.s.heap.get? b=none∧¬Aa loc σ₂ c₂.vs b)) (fun k s hI=>?_) l.length ⟨l,σ₁,c₁,rfl,rfl,h,g₁.go,x₁,hP⟩
 clear h h1 g₁ x₁ hP
 obtain ⟨ds,σ₂,c₂,rfl,rfl,h,g,x,hP⟩:=hI
 have subP:=x.sub
 refine Lb (ptg:=ptg) r.1 g.rep.Ahd x (fun e=>?_) (fun d ds' v s₁ hds hgo=>?_) (fun s₁ hds x₁=>?_)
 ·obtain ⟨is,q⟩:=Gu hen _ List.mem_cons_self e
  dsimp only at q;subst q;cases ttg;rfl
 ·subst hds
  obtain ⟨σ₃,h2,h⟩:=bs h
  refine hgo _ _ fun s₂ x₂ self real itx=>?_
  have S₂:Bc s₂.heap c₂.M:=fun b m=>by
   by_cases p:P b
   ·exact self b p
   ·obtain ⟨o,e⟩:=g.rep.Ahd b m;exact ⟨o,x₂.keep b o p e⟩
  have g₂:=((g.y (Y:=fun ζ=>False)).pend R subP (fun b p=>(hP b p).1) (fun b p=>(hP b p).2) x₂ (fun ζ m=>m) (fun ζ m ζ=>m) S₂).go fun ζ f=>f
  refine Gz (c:=⟨s₂,c₂.M,c₂.vs⟩) r V g₂.rep ttg real h2 fun c₃ g₃ ζ=>?_
  rcases Iz h with ⟨σ₄,h3,h⟩ | ⟨dr,h3,rfl⟩
  ·refine Ga Gx r V ex g₃.rep tb h3 fun f c₄ g₄ fo=>?_
   obtain rfl:=fo.inv
   have g₅:=g₃.trans g₄
   exact ⟨ds'.length,Nat.lt_succ_self _,ds',σ₄,c₄,rfl,rfl,h,g₂.trans g₅,itx.mono g₅.step g₅.toks (fun b p t=>(hP b p).2 t),fun b p=>⟨(hP b p).1,B5 g₅ (subP b p) g₂.rep (hP b p).2⟩⟩
  ·refine Ga Gx r V ex g₃.rep tb h3 fun f c₄ g₄ fo=>?_
   obtain ⟨v,rfl,rv⟩:=fo.inv
   exact hQ _ c₄ (g₂.trans (g₃.trans g₄)) (.ret rv)
 ·subst hds
  obtain ⟨rfl,rfl⟩:=As h
  have S₂:Bc s₁.heap (fun b=>c₂.M b∧¬P b):=fun b m=>by
   obtain ⟨o,e⟩:=g.rep.Ahd b m.1;exact ⟨o,x₁.keep b o m.2 e⟩
  have g₂:=((g.y (Y:=fun ζ=>False)).pend R subP (fun b p=>(hP b p).1) (fun b p=>(hP b p).2) x₁ (M':=fun b=>c₂.M b∧¬P b) (fun ζ m=>m.1) (fun ζ m n=>⟨m,n⟩) S₂).go fun ζ f=>f
  exact wpAny_execs_nil (hQ .next ⟨s₁,_,c₂.vs⟩ g₂ .next)
end
section
variable {lv:Nat} {P:List (Nat×Ahc)} {m:Nat} {φ:Fx} {loc:Bl} {σ σ':St} {c:Cf} {S:Sx} {env:Env} {A:Around} {EE:Value→Shared→Prop} {fl:Fl} {Q:Flow→Shared→Prop}
theorem Afn(good:∀k,k<m→Ew (Ev P k) k∧Mh (Ev P k) k)(Gx:Gl φ.hT)(r:Da m A)(V:Ahk φ S loc env)(R:Rep φ loc σ c){t:E}{b:List Mine.S}{pt:Expr}{pb:List Stmt}{p:Pos}
  (tt:TrT (TrE lv) S t pt) (tb:Ahy (TrS lv) S b pb) (h:(Ev P m).ex (.whl t b) σ=some (fl,σ')) (hQ:∀f c',Go φ loc σ c loc σ' c'→FlOK c' fl f→Q f c'.s) :
  wpAny (model prog w) A (exec (.While pt pb [] p) env) Q EE c.s:=by
 refine wpAny_While ?_
 refine codeAny_whileLoop (fun k s=>Ex2 fun (σ₁:St) (c₁:Cf)=>And4 (s=c₁.s) (k≤m) ((Ev P k).ex (.whl t b) σ₁=some (fl,σ')) (Go φ loc σ c loc σ₁ c₁)) (fun k s hI=>?_) m ⟨σ,c,rfl,Nat.le_refl _,h,.refl R⟩
 clear h
 obtain ⟨σ₁,c₁,rfl,hk,h,g⟩:=hI
 induction k using Nat.casesAuxOn with
 |zero=>exact nos h
 |succ k=>
  have h':Bz (Ev P k) (.whl t b) σ₁=some (fl,σ'):=h
  obtain ⟨evt,ex⟩:=good k (by assumption)
  have rk:=r.weaken (show k≤m by exact Nat.le_of_succ_le hk)
  obtain ⟨⟨b₁,σ₂⟩,h1,h'⟩:=bs h'
  induction b₁ using Bool.casesOn with
  |true=>
   refine evt Gx rk V g.rep tt h1 fun c₂ g₂=>?_
   rw [if_pos rfl]
   rcases Iz h' with ⟨σ₃,h2,h'⟩ | ⟨d,h2,rfl⟩
   ·refine Ga Gx rk V ex g₂.go.rep tb h2 fun f c₃ g₃ fo=>?_
    obtain rfl:=fo.inv
    exact ⟨k,Nat.lt_succ_self _,σ₃,c₃,rfl,by exact Nat.le_of_succ_le hk,h',(g.trans g₂.go).trans g₃⟩
   ·refine Ga Gx rk V ex g₂.go.rep tb h2 fun f c₃ g₃ fo=>?_
    obtain ⟨v,rfl,rv⟩:=fo.inv
    exact hQ _ c₃ ((g.trans g₂.go).trans g₃) (.ret rv)
  |false=>
   obtain ⟨rfl,rfl⟩:=As h'
   refine evt Gx rk V g.rep tt h1 fun c₂ g₂=>?_
   rw [if_neg (by decide)]
   exact wpAny_execs_nil (hQ .next c₂ (g.trans g₂.go) .next)
theorem Abf{n:Nat}(good:∀k,k<n+1→Ew (Ev P k) k∧Mh (Ev P k) k)(gev:∀k,k<n+1→D8 (Ev P k) k)(evo:J4 (Ev P n) n):Mh (Ev P (n+1)) (n+1):=by
 intro lv φ loc σ c S env A s ps fl σ' Q EE Gx r' V R t h hQ
 have r:=r'.weaken (Nat.le_succ n)
 obtain ⟨evt,ex⟩:=good n (Nat.lt_succ_self n)
 have ev:D8 (Ev P n) n:=gev n (Nat.lt_succ_self n)
 have h':Bz (Ev P n) s σ=some (fl,σ'):=h
 obtain ⟨lv,u⟩:=t.out
 clear t
 induction u using Ahz.casesOn with
 |app a b c d e=>exact Afw ev Gx r V R a b c d e h' hQ
 |ext a b c d e=>exact Aft ev Gx r V R a b c d e h' hQ
 |asg a b c d e=>exact Afv Gx r V R hQ evo a b d e h'
 |asgC a b c t=>
  obtain ⟨⟨o,d,σ₁⟩,h1,h'⟩:=ms h'
  obtain ⟨rfl,rfl⟩:=Prod.mk.inj h'
  obtain ⟨_,u⟩:=t.out
  cases u with | comp k1 k2 k3 k4 k5 k6 k7 k8=>
  have hF:∃n',n=n'+1:=by
   induction n using Nat.casesAuxOn with
   |zero=>exact nos h1
   |succ n'=>exact ⟨n',rfl⟩
  obtain ⟨n',rfl⟩:=hF
  obtain ⟨⟨ds,σe⟩,h2,h3⟩:=ms (show (Eb (Ev P n') _ _ σ []).map _=some _ from h1)
  obtain ⟨rfl,rfl,rfl⟩:=pm3 h3
  exact Abg (gev n' (by lia)) (good n' (by lia)).1 Gx (r.weaken (Nat.le_succ n')) V R k1 k2 k3 k4 k5 k6 k7 k8 a b h2 fun c' g=>hQ .next c' g .next
 |asg2 a b c d e f t=>exact Abh Gx r V R hQ ev a b c d t h'
 |Ah0 a b c t=>exact Abc Gx r V R hQ ev a b c t h'
 |Ahs a b tn tl hc=>
  obtain ⟨⟨ss,σ₁⟩,h1,h'⟩:=bs h'
  obtain ⟨σ₂,h2,h'⟩:=ms h'
  obtain ⟨rfl,rfl⟩:=Prod.mk.inj h'
  exact Abd evo Gx r V R a b tn tl hc h1 h2 fun c' g=>hQ .next c' g .next
 |swp a b t=>exact Afo ev Gx r V R a b t h' hQ
 |put a b c d e t=>exact Afq ev Gx r V R a b c d e t h' hQ
 |aug a b c d e t=>subst a;exact Afu ev Gx r V R b c d e t h' hQ
 |Ahq a b c d e f t=>subst a;exact U5 ev Gx r V R b c d e f t h' hQ
 |ite a b c=>exact Afr Gx r V R hQ evt ex a b c h'
 |whl a b=>exact Afn good Gx r' V R a b h hQ
 |«for» a b c d e=>exact Afs Gx r V R hQ ev ex a b c d e h'
 |ret t=>exact Afp Gx r V R hQ ev t h'
 |Aht t=>exact Abe Gx r V R hQ ex t h'
end
end Mine
end
section
open PySem PySem.W PyProof.Rows
set_option autoImplicit false
namespace Mine
noncomputable def Ab7(S:Sx)(scope:Scope)(np nv:Nat)(ps:List Str):Bool:=
 (S.names == scope.names) && (S.nv == nv) && decide (S.top≤S.nv) && S.vars.all (fun p=>D4 (scope.names.lookup p.1) && decide (p.2<S.top)) && Dk (S.vars.map (·.1)) && Dk (S.vars.map (·.2)) &&
 Dk (scope.names.map (·.1)) && (ps.length == np) && Dk ps && decide (np≤nv) && decide (0<np) && (ps.zip (List.range np)).all (fun p=>S.vars.lookup p.1 == some p.2)
structure TrF(f:Ahc)(fd:FuncData)(S:Sx)(body:List Stmt)(ps:List Str):Prop where
 kind:fd.scope.kind=.function
 co:fd.scope.isCoroutine=false
 gen:fd.scope.isGenerator=false
 hbody:fd.body=.stmts body
 clo:fd.closure=[]
 g:fd.globals=mainGlobals
 b:fd.builtins=builtinsNs
 chk:Ab7 S fd.scope f.np f.nv ps=true
 bind:∀vals:List Value,vals.length=f.np→bindArgs fd ⟨vals,[]⟩ = pure (ps.zip vals)
 tr:Ahy (TrS 40) S f.body body
structure CkF(S:Sx)(scope:Scope)(np nv:Nat)(ps:List Str):Prop where
 names:S.names=scope.names
 hnv:S.nv=nv
 top:S.top≤S.nv
 vars:∀x i,(x,i)∈S.vars→D4 (scope.names.lookup x)=true∧i<S.top
 nd1:(S.vars.map (·.1)).Nodup
 nd2:(S.vars.map (·.2)).Nodup
 nd3:(scope.names.map (·.1)).Nodup
 len:ps.length=np
 ndp:ps.Nodup
 le:np≤nv
 pos:0<np
 par:∀i x,ps[i]? = some x→S.vars.lookup x=some i
theorem R1{S:Sx}{scope:Scope}{np nv:Nat}{ps:List Str}(h:Ab7 S scope np nv ps=true):CkF S scope np nv ps:=by
 unfold Ab7 at h
 simp only [Bool.and_eq_true,List.all_eq_true,decide_eq_true_eq,beq_iff_eq] at h
 obtain ⟨⟨⟨⟨⟨⟨⟨⟨⟨⟨⟨h1,h2⟩,h3⟩,h4⟩,h5⟩,h6⟩,h7⟩,h8⟩,h9⟩,h10⟩,h11⟩,h12⟩:=h
 refine ⟨h1,h2,h3,fun x i m=>h4 (x,i) m,Ci h5,Ci h6,Ci h7,h8,Ci h9,h10,h11,fun i x e=>h12 (x,i) ?_⟩
 refine List.mem_iff_getElem?.mpr ⟨i,?_⟩
 rw [List.getElem?_zip_eq_some]
 refine ⟨e,?_⟩
 have hi:i<np:=by
  have:=(List.getElem?_eq_some_iff.mp e).1
  rw [h8] at this;exact this
 simp [hi]
theorem Vg{kindOf:Str→Option NameKind}{binds:List (Str×Value)}{m:Str→Option Value}{x:Str}(h:x∉binds.map (·.1)):bindL kindOf binds m x=m x:=by
 induction binds generalizing m with
 |nil=>rfl
 |cons p r ih=>
  obtain ⟨n,v⟩:=p
  rw [List.map_cons,List.mem_cons,not_or] at h
  unfold bindL
  rw [ih h.2]
  by_cases q:kindOf n=some .local
  ·rw [if_pos q];exact if_neg h.1
  ·rw [if_neg q]
theorem Y6{kindOf:Str→Option NameKind}{binds:List (Str×Value)}{m:Str→Option Value}{x:Str}{v:Value}(hn:(binds.map (·.1)).Nodup)(h:(x,v)∈binds)(hk:kindOf x=some .local):bindL kindOf binds m x=some v:=by
 induction binds generalizing m with
 |nil=>exact absurd h List.not_mem_nil
 |cons p r ih=>
  obtain ⟨n,u⟩:=p
  rw [List.map_cons,List.nodup_cons] at hn
  unfold bindL
  rcases List.mem_cons.mp h with q | q
  ·obtain ⟨rfl,rfl⟩:=Prod.mk.inj q
   rw [Vg hn.1,if_pos hk];exact if_pos rfl
  ·exact ih hn.2 q
theorem Vh{kindOf:Str→Option NameKind}{binds:List (Str×Value)}{m:Str→Option Value}{x:Str}(h:x∉binds.map (·.1)):bindC kindOf binds m x=m x:=by
 induction binds generalizing m with
 |nil=>rfl
 |cons p r ih=>
  obtain ⟨n,v⟩:=p
  rw [List.map_cons,List.mem_cons,not_or] at h
  unfold bindC
  rw [ih h.2]
  by_cases q:kindOf n=some .local
  ·rw [if_pos q]
  ·rw [if_neg q];exact if_neg h.1
theorem Y7{kindOf:Str→Option NameKind}{binds:List (Str×Value)}{m:Str→Option Value}{x:Str}{v:Value}(hn:(binds.map (·.1)).Nodup)(h:(x,v)∈binds)(hk:kindOf x≠some .local):bindC kindOf binds m x=some v:=by
 induction binds generalizing m with
 |nil=>exact absurd h List.not_mem_nil
 |cons p r ih=>
  obtain ⟨n,u⟩:=p
  rw [List.map_cons,List.nodup_cons] at hn
  unfold bindC
  rcases List.mem_cons.mp h with q | q
  ·obtain ⟨rfl,rfl⟩:=Prod.mk.inj q
   rw [Vh hn.1,if_neg hk];exact if_pos rfl
  ·exact ih hn.2 q
section
variable {lv:Nat} {F F':Ahl} {P:List (Nat×Ahc)} {n:Nat} {h:Heap} {k:Tok} {M X:Addr→Prop}
theorem Ahb.Ai5{v:Value}{d:D}(r:Ahb h k M v d):Ahb h k M v (Mine.Ai5 d):=by
 induction r using Ahb.casesOn with
 |Ahj l t q=>exact .str _ l
 |_=>simp only [Mine.Ai5];constructor <;> assumption
theorem Ag8.Ai5{vs:List Value}{ds:List D}(r:Ag8 h k M vs ds):Ag8 h k M vs (ds.map Mine.Ai5):=by
 induction r using Ag8.ind with | nil=>exact .nil | cons _ _ _ _ a r ih=>exact .cons a.Ai5 ih
theorem Ahb.weak{v:Value}{d:D}(r:Ahb h k M v d):Ahb h k M v (Mine.weak d):=by
 induction r using Ahb.casesOn with
 |Ahj l t q=>exact .str _ l
 |list m l r z=>exact .list m l r.Ai5 (by rw [List.length_map];exact z)
 |_=>simp only [Mine.weak];constructor <;> assumption
theorem Tu{vs:List Value}{ss:List Slot}(ar:Args h k M X vs ss):vs.length=ss.length∧∀i o d,ss[i]? = some (o,d)→∃v,vs[i]? = some v∧((o=.sh∧Ahb h k M v d)∨(o=.bor∧i+1=ss.length∧Ahh h k M v d∧∃a,v=.ref a∧X a)):=by
 induction ar with
 |nil=>exact ⟨rfl,fun i o d e=>nos e⟩
 |bor ow x=>
  refine ⟨rfl,fun i o d e=>?_⟩
  induction i using Nat.casesAuxOn with
  |zero=>obtain ⟨rfl,rfl⟩:=As e;exact ⟨_,rfl,.inr ⟨rfl,rfl,ow,_,rfl,x⟩⟩
  |succ i=>exact nos e
 |cons rv r ih=>
  obtain ⟨l,f⟩:=ih
  refine ⟨congrArg Nat.succ l,fun i o d e=>?_⟩
  induction i using Nat.casesAuxOn with
  |zero=>obtain ⟨rfl,rfl⟩:=As e;exact ⟨_,rfl,.inl ⟨rfl,rv⟩⟩
  |succ i=>
   obtain ⟨v,e1,q⟩:=f i o d e
   exact ⟨v,e1,q.imp id fun q=>⟨q.1,congrArg Nat.succ q.2.1,q.2.2⟩⟩
theorem T9{ss:List Slot}{k i:Nat}{s:Slot}(h:St.get (ss.map some++List.replicate k none) i=some s):ss[i]? = some s:=by
 unfold St.get at h
 by_cases q:i<ss.length
 ·rw [List.getElem?_append_left (by simpa using q)] at h
  simp [q] at h ⊢
  exact h
 ·rw [List.getElem?_append_right (by simpa using q)] at h
  rw [List.getElem?_replicate] at h
  split at h <;> simp at h
set_option tactic.hygienic true in
theorem X8{hT:Heap}{s s₁:Shared}{f:Ahc}{fd:FuncData}{S:Sx}{body:List Stmt}{ps:List Str}{a:Addr}{vs:List Value}{ss:List Slot}(tf:TrF f fd S body ps)
  (pos:0<s₁.toks) (top:∀b o,hT.get? b=some o→s.heap.get? b=some o) (out:∀b,M b→hT.get? b=none) (sub:∀b,X b→M b) (S₀:Bc s.heap M)
  (args:Args s.heap s.toks M X vs ss) (hl:ss.length=f.np) {env:Env} (he:env=newEnv fd.scope s.heap.objs.size fd.globals (cellsFrom (s.heap.objs.size+1) fd.scope.names []) (fd.qualname ++ ".<locals>.") (some a) fd.code none fd.builtins)
  (x:InCallC s env.locals (bindL env.kindOf (ps.zip vs) fun ζ=>none) env.cells (bindC env.kindOf (ps.zip vs) fun ζ=>none) s₁) (tk:s.toks≤s₁.toks) :
  Ex2 fun loc M'=>Ahk ⟨hT,s.heap,M,X,f.nv⟩ S loc env∧Rep ⟨hT,s.heap,M,X,f.nv⟩ loc (ss.map some++List.replicate (f.nv - f.np) none) ⟨s₁,M',fun i=>vs.getD i .none⟩:=by
 have ck:=R1 tf.chk
 obtain ⟨hvl,hat⟩:=Tu args
 have hL:env.locals=s.heap.objs.size:=by rw [he];rfl
 have hcs:env.cells=cellsFrom (s.heap.objs.size+1) fd.scope.names []:=by rw [he];rfl
 have hko:∀y,env.kindOf y=fd.scope.names.lookup y:=fun y=>by rw [he];rfl
 have hsc:env.scope=fd.scope:=by rw [he];rfl
 have Aiu:∀b,s.heap.objs.size≤b→s.heap.get? b=none:=fun b hb=>by
  cases e:s.heap.get? b with
  |none=>rfl
  |some o=>exact absurd (Heap.lt_size e) (Nat.not_lt.mpr hb)
 have hn:s.heap.get? env.locals=none:=Aiu _ (by rw [hL];exact Nat.le_refl _)
 have hcn:∀y b,env.cells.lookup y=some b→s.heap.get? b=none:=fun y b e=>Aiu _ (by have h5:=x.above y b (mem_of_lookup e);rw [hL] at h5;exact Nat.le_of_lt h5)
 have same:=x.toInCall.same
 have hg:s₁.gens=s.gens∧s₁.os=s.os:=by obtain ⟨h₁,t₁,rfl⟩:=same;exact ⟨rfl,rfl⟩
 have keep:=x.toInCall.keep
 have ns:=x.toInCall.ns
 have gr:Aip s M s₁ (fun b=>M b∨b=env.locals∨∃y,env.cells.lookup y=some b):=by
  refine ⟨⟨keep,hg.1,hg.2,tk⟩,fun b m=>.inl m,fun b m=>?_,fun b m=>?_⟩
  ·rcases m with m | rfl | ⟨y,m⟩
   ·exact .inl m
   ·exact .inr hn
   ·exact .inr (hcn y b m)
  ·rcases m with m | rfl | ⟨y,m⟩
   ·obtain ⟨o,e⟩:=S₀ b m;exact ⟨o,keep b o e⟩
   ·obtain ⟨o,_,_,e,_⟩:=ns;exact ⟨o,e⟩
   ·obtain ⟨o,e,_⟩:=x.cell y b m;exact ⟨o,e⟩
 have find_own:∀ {y:Str} {i:Nat},(y,i)∈S.vars→S.vars.find? (fun p=>p.2 == i)=some (y,i):=by
  intro y i m
  cases q:S.vars.find? (fun p=>p.2 == i) with
  |none=>exact absurd (List.find?_eq_none.mp q (y,i) m) (by simp)
  |some p=>
   obtain ⟨z,j⟩:=p
   have h1:=List.mem_of_find?_eq_some q
   have h2:=List.find?_some q
   have h2':j=i:=by simpa using h2
   subst h2'
   rw [Vq ck.nd2 h1 m]
 have hown:∀y i,(y,i)∈S.vars→∃L,E8 fd.scope S.vars env.locals env.cells (fun ζ=>none) i=some L∧i<S.top∧
   ((fd.scope.names.lookup y=some .local∧L=.dct env.locals y)∨(fd.scope.names.lookup y=some .cell∧∃b,env.cells.lookup y=some b∧L=.cel b)):=by
  intro y i m
  unfold E8
  rw [find_own m]
  dsimp only
  obtain ⟨h1,h2⟩:=ck.vars y i m
  cases hk:fd.scope.names.lookup y with
  |none=>rw [hk] at h1;exact absurd h1 Bool.false_ne_true
  |some kk=>
   rw [hk] at h1
   cases kk <;> try ((first | exact absurd h1 Bool.false_ne_true | cases h1);done)
   ·exact ⟨_,by rw [if_pos rfl],h2,.inl ⟨rfl,rfl⟩⟩
   ·obtain ⟨b,hb⟩:=Cw fd.scope.names (s.heap.objs.size+1) y (A0 hk)
    rw [← hcs] at hb
    refine ⟨.cel b,?_,h2,.inr ⟨rfl,b,hb,rfl⟩⟩
    rw [if_neg (by decide),hb];rfl
 have new:∀i L,E8 fd.scope S.vars env.locals env.cells (fun ζ=>none) i=some L→∃y,(y,i)∈S.vars∧
   ((fd.scope.names.lookup y=some .local∧L=.dct env.locals y)∨(fd.scope.names.lookup y=some .cell∧∃b,env.cells.lookup y=some b∧L=.cel b)):=by
  intro i L h
  have hm:∃y,(y,i)∈S.vars:=by
   unfold E8 at h
   split at h
   ·rename_i p q
    have h1:=List.mem_of_find?_eq_some q
    have h2:=List.find?_some q
    have h2':p.2=i:=by simpa using h2
    exact ⟨p.1,by rw [← h2'];exact h1⟩
   ·exact nos h
  obtain ⟨y,m⟩:=hm
  obtain ⟨L',e,_,q⟩:=hown y i m
  rw [h] at e;obtain rfl:=Ag e
  exact ⟨y,m,q⟩
 have addr:∀i L,E8 fd.scope S.vars env.locals env.cells (fun ζ=>none) i=some L→s.heap.get? L.addr=none:=fun i L h=>by
  obtain ⟨y,m,⟨_,rfl⟩ | ⟨_,b,hb,rfl⟩⟩:=new i L h
  ·exact hn
  ·exact hcn y b hb
 have slot:∀i o d,St.get (ss.map some++List.replicate (f.nv - f.np) none) i=some (o,d)→∃v,vs[i]? = some v∧vs.getD i .none=v∧((o=.sh∧Ahb s.heap s.toks M v d)∨(o=.bor∧i+1=ss.length∧Ahh s.heap s.toks M v d∧∃a,v=.ref a∧X a)):=fun i o d e=>by
  obtain ⟨v,e1,q⟩:=hat i o d (T9 e)
  exact ⟨v,e1,by simp [List.getD,e1],q⟩
 have root:∀i o d,St.get (ss.map some++List.replicate (f.nv - f.np) none) i=some (o,d)→o≠.sh→i+1=ss.length∧∃a,vs.getD i .none=.ref a∧M a:=fun i o d e ho=>by
  obtain ⟨v,_,e2,⟨q,_⟩ | ⟨_,l,ow,b,va,xb⟩⟩:=slot i o d e
  ·exact absurd q ho
  ·exact ⟨l,b,by rw [e2,va],sub b xb⟩
 refine ⟨E8 fd.scope S.vars env.locals env.cells (fun ζ=>none),_,⟨by rw [hsc];exact tf.kind,by rw [he];exact tf.g,by rw [he];exact tf.b,fun y kk e=>.inl (by rw [hko,← ck.names];exact e),fun y i e=>?_,fun i L e=>?_,by rw [ck.hnv]⟩,
  ⟨⟨top,out,sub,S₀⟩,?_,fun b o e ζ=>keep b o e,gr.up,gr.old,gr.Ahd,pos,fun i L e=>?_,fun i o d e=>?_,fun i j oi di oj dj ei ej hi hj ζ=>?_,fun i j L ei ej=>?_,fun i o d b e ho va j L eL q=>?_⟩⟩
 ·obtain ⟨L,e1,_,q⟩:=hown y i (A0 e)
  refine ⟨L,e1,?_⟩
  rcases q with ⟨hl',rfl⟩ | ⟨hc,b,hb,rfl⟩
  ·exact .dct (by rw [ck.names];exact hl')
  ·exact .cel (by rw [ck.names,hc];rfl) hb
 ·obtain ⟨y,m,_⟩:=new i L e
  exact (ck.vars y i m).2
 ·rw [List.length_append,List.length_map,List.length_replicate,hl]
  have:=ck.le
  show f.np+(f.nv - f.np)=f.nv
  exact Nat.add_sub_of_le this
 ·obtain ⟨y,m,q⟩:=new i L e
  have hi:i<(ss.map some++List.replicate (f.nv - f.np) (none:Option Slot)).length:=by
   rw [List.length_append,List.length_map,List.length_replicate,hl]
   have h1:=(ck.vars y i m).2
   have h2:=ck.le
   have h3:=ck.top
   have h4:=ck.hnv
   lia
  refine ⟨?_,?_,addr i L e,hi⟩
  ·rcases q with ⟨_,rfl⟩ | ⟨_,b,hb,rfl⟩
   ·exact ⟨_,ns⟩
   ·exact ⟨_,x.cell y b hb⟩
  ·rcases q with ⟨_,rfl⟩ | ⟨_,b,hb,rfl⟩
   ·exact .inr (.inl rfl)
   ·exact .inr (.inr ⟨y,hb⟩)
 ·obtain ⟨v,e1,e2,q⟩:=slot i o d e
  have hi:i<ps.length:=by
   have:=(List.getElem?_eq_some_iff.mp e1).1
   rw [ck.len,← hl,← hvl];exact this
  have hp:ps[i]? = some ps[i]:=List.getElem?_eq_getElem hi
  have hv:=ck.par i _ hp
  obtain ⟨L,eL,_,qL⟩:=hown _ i (A0 hv)
  have hm:(ps[i],v)∈ps.zip vs:=List.mem_iff_getElem?.mpr ⟨i,by rw [List.getElem?_zip_eq_some];exact ⟨hp,e1⟩⟩
  have hz:((ps.zip vs).map (·.1)).Nodup:=by
   rw [List.map_fst_zip (by rw [ck.len,← hl,hvl];exact Nat.le_refl _)];exact ck.ndp
  refine ⟨L,eL,?_,?_⟩
  ·dsimp only
   rw [e2]
   rcases qL with ⟨hl',rfl⟩ | ⟨hc,b,hb,rfl⟩
   ·exact ⟨_,ns,Y6 hz hm (by rw [hko];exact hl')⟩
   ·have:=x.cell _ b hb
    rw [Y7 hz hm (by rw [hko,hc];decide)] at this
    exact this
  ·dsimp only
   rw [e2]
   have st:=gr.step (T:=fun ζ=>True) (T':=fun ζ=>True) fun ζ t=>.inl t
   rcases q with ⟨rfl,rv⟩ | ⟨rfl,_,ow,b,va,xb⟩
   ·exact rv.mono st tk
   ·exact ⟨Ahh.mono' st tk ow (fun a o ζ=>keep a o) (fun a ζ m=>.inl m),fun a' q=>by rw [va] at q;obtain rfl:=Value.ref.inj q;exact xb⟩
 ·have h1:=(root i oi di ei hi).1
  have h2:=(root j oj dj ej hj).1
  lia
 ·obtain ⟨y,m,q⟩:=new i L ei
  obtain ⟨z,m',q'⟩:=new j L ej
  have hyz:y=z:=by
   rcases q with ⟨_,rfl⟩ | ⟨_,b,hb,rfl⟩ <;> rcases q' with ⟨_,q'⟩ | ⟨_,b',hb',q'⟩
   ·cases q';rfl
   ·cases q'
   ·cases q'
   ·cases q';exact name_of_addr x.apart (mem_of_lookup hb) (mem_of_lookup hb')
  subst hyz
  exact Vr ck.nd1 m m'
 ·obtain ⟨_,a',va',ma⟩:=root i o d e ho
  have va2:vs.getD i .none=.ref b:=va
  rw [va2] at va';obtain rfl:=Value.ref.inj va'
  obtain ⟨o',e'⟩:=S₀ _ ma
  have h6:=addr j L eL
  rw [q,e'] at h6;exact nos h6.symm
def Vm(P:List (Nat×Ahc)):Prop:=∀hT,K hT→∀a f,P.lookup a=some f→Ex5 fun o fd S body ps=>And4 (hT.get? a=some o) (o.data=.func fd) (hT.CodeRec fd.code fd.qualname) (TrF f fd S body ps)
theorem Aa8{P:List (Nat×Ahc)}(kok:Vm P){F:Ahl}:∀hT,K hT→∀a ss r,Ml F P a ss=some r→Acs hT a:=fun hT hK a ss r h=>by
 obtain ⟨f,hf,h⟩:=bs h
 obtain ⟨o,fd,_,_,_,eo,hd,_⟩:=kok hT hK a f hf
 exact ⟨o,fd,eo,hd⟩
theorem Rb{M:Model}{A:Around}{E:Value→Shared→Prop}{s:Shared}{scope:Scope}{globals:Addr}{binds:List (Str×Value)}{qual:Str}{func:Option Addr}{code:Value}{builtins:Addr}{Q:Env→Shared→Prop}
  (hk:scope.kind=.function)
  (hkind:∀x∈binds,scope.names.lookup x.1=some .local∨(scope.names.lookup x.1=some .cell∧((cellsFrom (s.heap.objs.size+1) scope.names []).lookup x.1).isSome=true))
  (hpos:0<s.toks∨Ex2 fun x v=>binds=[(x,v)]∧scope.names.lookup x=some .local)
  (hQ:∀env,env=newEnv scope s.heap.objs.size globals (cellsFrom (s.heap.objs.size+1) scope.names []) qual func code none builtins→
   ∀s',InCallC s env.locals (bindL env.kindOf binds fun ζ=>none) env.cells (bindC env.kindOf binds fun ζ=>none) s'→s.toks≤s'.toks→0<s'.toks→Q env s') :
  wpAny M A (newFunctionEnv scope globals [] binds qual func code none builtins) Q E s:=by
 rcases hpos with hp | ⟨x,v,rfl,hl⟩
 ·exact Ce (wpAny_newFunctionEnv_cells hk hkind fun env he s₁ x tk=>hQ env he s₁ x tk (Nat.lt_of_lt_of_le hp tk))
 ·simp only [newFunctionEnv,Option.isSome_none,Bool.false_eq_true,if_false]
  refine wpAny_bind (wpAny_alloc ?_)
  refine wpAny_bind (wpAny_layCells _ (fun name kind cells=>by cases hkc:kind == NameKind.cell <;> simp) _ _ _ _ ?_)
  have ok:=cellsFrom_ok scope.names (s.heap.push { cls:=.type "frame",data:=.dict #[] }) (s.heap.objs.size+1) [] ⟨fun ζ ζ hm=>(nomatch hm),List.Pairwise.nil⟩ (by rw [Heap.size_push];exact Nat.le_refl _)
  rw [Heap.size_push] at ok
  rw [show ({ s with heap:=s.heap.push { cls:=.type "frame",data:=.dict #[] } }:Shared).heap.objs.size=s.heap.objs.size+1 from Heap.size_push ..]
  rw [List.forIn_cons]
  have ns:(pushCells (s.heap.push { cls:=.type "frame",data:=.dict #[] }) scope.names).Ns s.heap.objs.size (fun ζ=>none):=(Heap.Ns.new s.heap (.type "frame")).keeps (pushCells_keeps _ _)
  have kp:∀b o,s.heap.get? b=some o→(pushCells (s.heap.push { cls:=.type "frame",data:=.dict #[] }) scope.names).get? b=some o:=fun b o e=>pushCells_keeps _ _ b o (Heap.get?_push_of_some _ e)
  refine wpAny_bind (wpAny_bind (wpAny_bind (wpAny_storeName_local (env:=newEnv scope s.heap.objs.size globals (cellsFrom (s.heap.objs.size+1) scope.names []) qual func code none builtins) hl ns (fun h' hn' hs'=>wpAny_pure ?_) (by
   show (scope.kind == _ || (scope.kind == _ && _))=false
   rw [hk];rfl))))
  dsimp only
  rw [List.forIn_nil]
  refine wpAny_pure (wpAny_pure (hQ _ rfl _ ?_ (Nat.le_succ _) (Nat.succ_pos _)))
  have hkof:∀k,(newEnv scope s.heap.objs.size globals (cellsFrom (s.heap.objs.size+1) scope.names []) qual func code none builtins).kindOf k=scope.names.lookup k:=fun ζ=>rfl
  refine ⟨⟨⟨h',_,rfl⟩,?_,fun b o e=>?_,Nat.le_refl _⟩,fun k c hc=>?_,ok.apart,fun k c hm=>(ok.empty k c hm).2⟩
  ·unfold bindL bindL
   rw [hkof,if_pos hl]
   exact hn'
  ·exact hs'.extBut b o (Nat.ne_of_lt (Heap.lt_size e)) (kp b o e)
  ·have e0:=ok.empty k c (PySem.mem_of_lookup hc)
   unfold bindC bindC
   rw [hkof,if_pos hl]
   exact e0.1.sameBut hs' (Nat.ne_of_gt e0.2)
theorem Nc(hF:F'.call=Ml F P)(ex:Mh F n)(kok:Vm P){hT:Heap}{s:Shared}{M X:Addr→Prop}{A:Around}{a:Nat}{vs:List Value}{ss:List Slot}{d:D}{back:Option Slot}{Q:Value→Shared→Prop}{EE:Value→Shared→Prop}
  (Gx:Gl hT) (r:Da (n+1) A) (hpos:0<s.toks∨∀f fd S body ps o,P.lookup a=some f→hT.get? a=some o→o.data=.func fd→TrF f fd S body ps→∃x,ps=[x]∧fd.scope.names.lookup x=some .local)
  (top:∀b o,hT.get? b=some o→s.heap.get? b=some o) (out:∀b,M b→hT.get? b=none) (sub:∀b,X b→M b) (S₀:Bc s.heap M) (hX:∀b,X b→vs.getLast? = some (.ref b))
  (args:Args s.heap s.toks M X vs ss) (h:F'.call a ss=some (d,back))
  (hQ:∀v s' M',Step s.heap M X s'.heap M' X→s.toks≤s'.toks→s'.gens=s.gens→s'.os=s.os→(∀b,s'.heap.get? b=none→s.heap.get? b=none)→Bc s'.heap M'→(∀b,M b→M' b)→
   Ahb s'.heap s'.toks M' v d→(∀r dr,ss.getLast? = some (.bor,dr)→vs.getLast? = some (.ref r)→Ex2 fun o' d'=>back=some (o',d')∧Ahh s'.heap s'.toks M' (.ref r) d')→Q v s') :
  wpAny (model prog w) A (call (.ref a) vs) Q EE s:=by
 rw [hF] at h
 obtain ⟨f,hf,h⟩:=bs h
 obtain ⟨hlen,h⟩:=J6 h
 obtain ⟨⟨fl,σ'⟩,h1,h⟩:=bs h
 obtain ⟨d₀,hd₀,h⟩:=bs h
 obtain ⟨hb,h⟩:=Cd h
 obtain ⟨rfl,rfl⟩:=Prod.mk.inj h
 obtain rfl:=Aeq hd₀
 obtain ⟨o,fd,S,body,ps,eo,hd,hcd,tf⟩:=kok hT Gx.k a f hf
 have ck:=R1 tf.chk
 obtain ⟨hvl,hat⟩:=Tu args
 obtain ⟨r1,r2,r3⟩:=r
 have hroom:A.depth<recursionLimit:=by
  have:recursionLimit=1000:=rfl
  lia
 refine wpAny_call (codeAny_call_function hroom (top _ _ eo) hd tf.co tf.gen tf.hbody (hcd.keeps top) ?_)
 rw [tf.bind vs (by rw [hvl,hlen]),tf.clo]
 refine wpAny_pure (Rb tf.kind (fun y hy=>?_) (hpos.imp id fun hp=>?_) fun env he s₁ x tk pos=>?_)
 ·obtain ⟨i,hi⟩:=List.mem_iff_getElem?.mp hy
  obtain ⟨y1,y2⟩:=y
  rw [List.getElem?_zip_eq_some] at hi
  have h2:=(ck.vars _ i (A0 (ck.par i y1 hi.1))).1
  dsimp only
  cases hk:fd.scope.names.lookup y1 with
  |none=>rw [hk] at h2;exact absurd h2 Bool.false_ne_true
  |some kk=>
   rw [hk] at h2
   cases kk <;> try ((first | exact absurd h2 Bool.false_ne_true | cases h2);done)
   ·exact .inl rfl
   ·obtain ⟨b,hb⟩:=Cw fd.scope.names (s.heap.objs.size+1) y1 (A0 hk)
    exact .inr ⟨rfl,by rw [hb];rfl⟩
 ·obtain ⟨x,e1,e2⟩:=hp f fd S body ps o hf eo hd tf
  obtain ⟨v,hv⟩ : ∃v,vs=[v]:=by
   have h1:=ck.len
   rw [e1] at h1
   have h2:vs.length=1:=by rw [hvl,hlen,← h1];rfl
   exact List.length_eq_one_iff.mp h2
  exact ⟨x,v,by rw [e1,hv];rfl,e2⟩
 ·refine ⟨(Gx.nl.keeps top).keeps x.toInCall.keep,codeAny_func ?_⟩
  obtain ⟨loc,M',V,R⟩:=X8 (a:=a) tf pos top out sub S₀ args hlen he x tk
  have r':Da n (A.deeper env):=⟨r1,by show A.depth+1+n≤900;lia,by show A.units+3+12 * n≤9000;lia⟩
  refine Ga (φ:=⟨hT,s.heap,M,X,f.nv⟩) Gx r' V ex R tf.tr h1 fun fl c' g fo=>?_
  obtain ⟨v,rfl,rv⟩:=fo.inv
  have R':=g.rep
  refine hQ _ c'.s c'.M ⟨fun b o m e=>R'.top b o e fun q=>m (sub b q),fun b o m q e=>⟨R'.top b o e q,R'.sup b m⟩,R'.old,fun b t=>.inl t⟩ (Nat.le_trans tk g.toks) ?_ ?_ (fun b e=>?_) R'.Ahd R'.sup rv.weak fun ra dr hss hvs=>?_
  ·obtain ⟨h₁,t₁,e⟩:=x.toInCall.same
   rw [g.gens,e]
  ·obtain ⟨h₁,t₁,e⟩:=x.toInCall.same
   rw [g.os,e]
  ·have e1:=g.Ain b e
   cases q:s.heap.get? b with
   |none=>rfl
   |some o=>rw [x.toInCall.keep b o q] at e1;exact nos e1.symm
  ·rw [hss] at hb
   cases h3:σ'.get (f.np - 1) with
   |none=>rw [h3] at hb;exact absurd hb Bool.false_ne_true
   |some so=>
    obtain ⟨o',d'⟩:=so
    rw [h3] at hb
    induction o' using Own.casesOn with
    |sh=>exact absurd hb Bool.false_ne_true
    |own=>exact absurd hb Bool.false_ne_true
    |bor=>
     obtain ⟨_,_,_,sl⟩:=R'.vals _ _ _ h3
     obtain ⟨b,ob,vb,_,_⟩:=sl.1.ref
     have:=hX b (sl.2 b vb)
     rw [hvs] at this
     obtain rfl:=Value.ref.inj (Ag this)
     exact ⟨.bor,d',rfl,by rw [← vb];exact sl.1⟩
theorem Ve(hF:F'.call=Ml F P)(ex:Mh F n)(kok:Vm P):Oo F' (n+1):=by
 intro hT s M X A a vs ss d back Q EE Gx r pos top out sub S₀ hX args h hQ
 exact Nc hF ex kok Gx r (.inl pos) top out sub S₀ hX args h hQ
end
end Mine
end
section
open PySem PySem.W PyProof.Rows
set_option autoImplicit false
namespace Mine
section
variable (P:List (Nat×Ahc))
structure Good(n:Nat):Prop where
 ev:D8 (Ev P n) n
 evo:J4 (Ev P n) n
 evt:Ew (Ev P n) n
 cm:Zl (Ev P n) n
 call:Oo (Ev P n) n
 ex:Mh (Ev P n) n
end
section
variable {P:List (Nat×Ahc)}
theorem U3:Good P 0 where
 ev:=by intro lv φ loc σ c S env A e pe d σ' Q E _ _ _ _ _ h _;exact nos h
 evo:=by intro lv φ loc σ c S env A e pe o d σ' Q E _ _ _ _ _ h _;exact nos h
 evt:=by intro lv φ loc σ c S env A e pe b σ' Q E _ _ _ _ _ h _;exact nos h
 cm:=by intro lv φ loc σ c S env A o l r pl pr d σ' Q E _ _ _ _ _ _ h _;exact nos h
 call:=by intro hT s M X A a vs ss d back Q E _ _ _ _ _ _ _ _ _ h _;exact nos h
 ex:=by intro lv φ loc σ c S env A s ps fl σ' Q E _ _ _ _ _ h _;exact nos h
theorem U4(kok:Vm P){n:Nat}(g:∀k,k<n+1→Good P k):Good P (n+1):=by
 have gn:=g n (Nat.lt_succ_self n)
 have fa:∀hT,K hT→∀a ss r,(Ev P n).call a ss=some r→Acs hT a:=by
  intro hT hK a ss r h
  induction n using Nat.casesAuxOn with
  |zero=>exact nos h
  |succ n=>exact Aa8 kok hT hK a ss r h
 exact ⟨Abj rfl (Nat.le_succ n) gn.ev gn.evo gn.evt gn.call fa,Ye rfl (Nat.le_succ n) gn.ev gn.evo gn.evt,Yc rfl (Nat.le_succ n) gn.ev gn.evt gn.cm,Y0 rfl (Nat.le_succ n) gn.ev,
  Ve rfl gn.ex kok,Abf (fun k hk=>⟨(g k hk).evt,(g k hk).ex⟩) (fun k hk=>(g k hk).ev) gn.evo⟩
theorem X6(kok:Vm P)(n:Nat):Good P n:=by
 have key:∀n,∀k,k<n→Good P k:=by
  intro n
  induction n with
  |zero=>intro k hk;exact absurd hk (Nat.not_lt_zero k)
  |succ n ih=>
   intro k hk
   rcases Nat.lt_succ_iff_lt_or_eq.mp hk with q | rfl
   ·exact ih k q
   ·induction k using Nat.casesAuxOn with
    |zero=>exact U3
    |succ m=>exact U4 kok ih
 exact key (n+1) n (Nat.lt_succ_self n)
end
end Mine
end
section
open PySem PySem.W PyProof.Rows
set_option autoImplicit false
namespace Mine
noncomputable def Np(S:Sx)(scope:Scope)(own:List (Str×Nat)):Sx:=
 ⟨own++scope.names.filterMap (fun p=>if p.2 == .free then (S.vars.lookup p.1).map (fun i=>(p.1,i)) else none),scope.names,(own.map (·.2+1)).foldl max S.top,S.nv⟩
noncomputable def tgVs:Tg→Expr→List (Str×Nat)
 |.v i,.Name x _=>[(x,i)]
 |.t is,.Tuple pes _ _=>(Fv pes).zip is
 |_,_=>[]
noncomputable def gVs:List (Tg×E×List E)→List Comprehension→List (Str×Nat)
 |g :: gs,c :: cs=>tgVs g.1 c.target++gVs gs cs
 |_,_=>[]
section
variable {R:Sx→E→Expr→Prop}
theorem Ahv.comp'{S:Sx}{elt:E}{tg:Tg}{it:E}{cs:List E}{gs:List (Tg×E×List E)}{Aho ptg pit:Expr}{pcs:List Expr}{pgs:List Comprehension}{scope:Scope}{p:Pos}
  (h1:El S (Np S scope (gVs ((tg,it,cs) :: gs) (⟨ptg,pit,pcs,0⟩ :: pgs))) scope (gVs ((tg,it,cs) :: gs) (⟨ptg,pit,pcs,0⟩ :: pgs)) (Dz ((tg,it,cs) :: gs))=true) (h2:Fr ((tg,it,cs) :: gs)=true) (h3:Bn pit) (h4:TrI R S it pit)
  (h5:Ahw (Np S scope (gVs ((tg,it,cs) :: gs) (⟨ptg,pit,pcs,0⟩ :: pgs))) tg ptg) (h6:Ahx R (Np S scope (gVs ((tg,it,cs) :: gs) (⟨ptg,pit,pcs,0⟩ :: pgs))) cs pcs)
  (h7:TrG R (Np S scope (gVs ((tg,it,cs) :: gs) (⟨ptg,pit,pcs,0⟩ :: pgs))) gs pgs) (h8:R (Np S scope (gVs ((tg,it,cs) :: gs) (⟨ptg,pit,pcs,0⟩ :: pgs))) elt Aho) :
  Ahv R S (.comp elt ((tg,it,cs) :: gs)) (.ListComp Aho (⟨ptg,pit,pcs,0⟩ :: pgs) scope p):=.comp h1 h2 h3 h4 h5 h6 h7 h8
theorem Ahv.dcomp'{S:Sx}{k v:E}{tg:Tg}{it:E}{pk pv ptg pit:Expr}{scope:Scope}{p:Pos}
  (h1:El S (Np S scope (gVs [(tg,it,[])] [⟨ptg,pit,[],0⟩])) scope (gVs [(tg,it,[])] [⟨ptg,pit,[],0⟩]) (Dz [(tg,it,[])])=true) (h2:Fr [(tg,it,[])]=true) (h3:Bn pit) (h4:TrI R S it pit)
  (h5:Ahw (Np S scope (gVs [(tg,it,[])] [⟨ptg,pit,[],0⟩])) tg ptg) (h6:R (Np S scope (gVs [(tg,it,[])] [⟨ptg,pit,[],0⟩])) k pk) (h7:R (Np S scope (gVs [(tg,it,[])] [⟨ptg,pit,[],0⟩])) v pv) :
  Ahv R S (.Ah1 k v (tg,it)) (.DictComp pk pv [⟨ptg,pit,[],0⟩] scope p):=.Ah1 h1 h2 h3 h4 h5 h6 h7
end
theorem Hz{α β:Type}[BEq α][LawfulBEq α]:∀ {l:List (α×β)} {x:α} {v:β},l.lookup x=some v→(x,v)∈l
 |(y,u) :: r,x,v,h=>by
  rw [List.lookup_cons] at h
  cases hb:x == y with
  |true=>rw [hb] at h;obtain rfl:=Ag h;rw [eq_of_beq hb];exact List.mem_cons_self
  |false=>rw [hb] at h;exact List.mem_cons_of_mem _ (Hz h)
theorem Nr{α:Type}{a b:α}(h:(pure a:Sem α)=pure b):a=b:=by
 have h':(Sem.pure a:Sem α)=Sem.pure b:=h
 injection h'
theorem Uv{f:Ahc}{fd:FuncData}{S:Sx}{body:List Stmt}{ps:List Str}(tf:TrF f fd S body ps)(hn:f.np=1){x:Str}(hb:bindArgs fd ⟨[.none],[]⟩ = pure [(x,.none)])(hl:fd.scope.names.lookup x=some .local) :
  ∃x,ps=[x]∧fd.scope.names.lookup x=some .local:=by
 have ck:=R1 tf.chk
 have h1:=ck.len
 rw [hn] at h1
 match ps,h1 with
 |[y],_=>
  have h2:=tf.bind [.none] (by rw [hn];rfl)
  rw [hb] at h2
  have h3:=Nr h2
  have:x=y:=by simpa using h3
  exact ⟨y,rfl,this ▸ hl⟩
noncomputable def isV(d:D)(v:Value):Bool:=match d with
 |.int i=>(match v with
  |.int j _=>i == j
  |_=>false)
 |_=>false
theorem Aff{h:Heap}{k:Tok}{M:Addr→Prop}{d:D}{v:Value}(e:isV d v=true):Ahb h k M v d:=by
 induction d using D.casesOn with
 |int i=>
  induction v using Value.casesOn with
  |int j u=>obtain rfl:=eq_of_beq (show (i == j)=true from e);exact .int _ _
  |_=>exact absurd e Bool.false_ne_true
 |_=>exact absurd e Bool.false_ne_true
noncomputable def To:List DictEntry→List (List Nat×D)→Bool
 |[],[]=>true
 |e :: es,d :: ds=>(strKind prog w).is (mkS d.1) e.key && (isV d.2 e.val && To es ds)
 |_,_=>false
noncomputable def S6:List DictEntry→List (List Nat×D)→List (Str×Value)
 |e :: es,d :: ds=>(mkS d.1,e.val) :: S6 es ds
 |_,_=>[]
theorem Abs{h:Heap}{k:Tok}{M:Addr→Prop}{es:List DictEntry}{ds:List (List Nat×D)}(x:To es ds=true)(y:es.map (·.hash)=ds.map fun d=>(strKind prog w).hash (mkS d.1)) :
  Pairs (strKind prog w) es (S6 es ds)∧Ag9 h k M (S6 es ds) ds∧(∀e∈es,∃k,(strKind prog w).is k e.key=true∧e.hash=(strKind prog w).hash k)∧(S6 es ds).map (·.1)=(ds.map (·.1)).map mkS:=by
 induction es,ds using Cj with
 |nn=>exact ⟨.nil,.nil,fun ζ h=>absurd h List.not_mem_nil,rfl⟩
 |nc=>exact absurd x Bool.false_ne_true
 |cn=>exact absurd x Bool.false_ne_true
 |cc e es d ds ih=>
  obtain ⟨a,x⟩:=Bool.and_eq_true_iff.mp (show ((strKind prog w).is (mkS d.1) e.key && (isV d.2 e.val && To es ds))=true from x)
  obtain ⟨c,x⟩:=Bool.and_eq_true_iff.mp x
  obtain ⟨b,y⟩:=List.cons.inj (show e.hash :: es.map (·.hash)=(strKind prog w).hash (mkS d.1) :: ds.map (fun d=>(strKind prog w).hash (mkS d.1)) from y)
  obtain ⟨p,q,s,t⟩:=ih x y
  refine ⟨.cons a rfl p,.cons (Aff c) q,fun e' he=>?_,congrArg (mkS d.1 :: ·) t⟩
  rcases List.mem_cons.mp he with q | he
  ·exact q ▸ ⟨_,a,b⟩
  ·exact s e' he
theorem Vu{h:Heap}{a:Addr}{es:Array DictEntry}{ep:Nat}{ds:List (List Nat×D)}(ha:(a == sysModules)=false)(ho:h.get? a=some { cls:=.type "dict",data:=.dict es ep })(hE:To es.toList ds=true)
  (hH:es.toList.map (·.hash)=ds.map fun d=>(strKind prog w).hash (mkS d.1)) (hn:Dk (ds.map (·.1))=true) :
  Ahb h 0 (fun ζ=>False) (.ref a) (.Ahf ds):=by
 obtain ⟨p,q,s,t⟩:=Abs (h:=h) (k:=0) (M:=fun ζ=>False) hE hH
 refine .Ahf (fun f=>f) ha ⟨_,es,ep,ho,⟨rfl,rfl,rfl⟩,rfl,fun e he=>s e (by simpa using he),p,?_⟩ q
 rw [t]
 have:=Ci hn
 exact (List.Pairwise.map mkS (fun a b (h:a≠b) q=>h (Fm.mp q)) this)
theorem vl1{p:List Value→Prop}(h:∀a,p [a]):∀vs:List Value,vs.length=1→p vs:=by
 intro vs e;obtain ⟨a,rfl⟩:=List.length_eq_one_iff.mp e;exact h a
theorem vlS{p:List Value→Prop}{n:Nat}(h:∀a vs,vs.length=n→p (a :: vs))(vs:List Value)(e:vs.length=n+1):p vs:=by
 obtain ⟨a,r,rfl⟩:=List.exists_cons_of_length_eq_add_one e;exact h a r (Nat.succ.inj e)
theorem vl2{p:List Value→Prop}(h:∀a b,p [a,b]):∀vs:List Value,vs.length=2→p vs:=vlS fun a=>vl1 (h a)
theorem vl3{p:List Value→Prop}(h:∀a b c,p [a,b,c]):∀vs:List Value,vs.length=3→p vs:=vlS fun a=>vl2 (h a)
def Agt{α:Type}(p:α→Prop):List α→Prop
 |[]=>True
 |a :: r=>p a∧Agt p r
theorem Qi{α:Type}{p:α→Prop}{l:List α}(h:Agt p l):∀a∈l,p a:=by
 induction l with
 |nil=>exact fun a m=>absurd m List.not_mem_nil
 |cons b r ih=>
  intro a m
  rcases List.mem_cons.mp m with m | m
  ·exact m ▸ h.1
  ·exact ih h.2 a m
end Mine
end
section
open PySem PySem.W PyProof.Rows
set_option autoImplicit false
namespace Mine
noncomputable section
noncomputable def Dc(P:Prop):Type:=Option (PLift P)
noncomputable def yes{P:Prop}(h:P):Dc P:=some ⟨h⟩
noncomputable def no{P:Prop}:Dc P:=none
noncomputable def Dc.b{P Q:Prop}(a:Dc P)(f:P→Dc Q):Dc Q:=Option.rec no (fun h=>f h.down) a
noncomputable def Dc.or{P:Prop}(a b:Dc P):Dc P:=Option.rec b (fun h=>some h) a
theorem Dc.get{P:Prop}{a:Dc P}(h:a.isSome=true):P:=(Option.get a h).down
noncomputable def ifT{Q:Prop}(b:Bool)(f:b=true→Dc Q):Dc Q:=if h:b=true then f h else no
noncomputable def ifE{α:Type}[DecidableEq α]{Q:Prop}(a b:α)(f:a=b→Dc Q):Dc Q:=if h:a=b then f h else no
@[elab_as_elim] noncomputable def ifV{α:Type}[DecidableEq α]{M:α→Type}(a:α)(d:M a)(b:α)(f:M b):M a:=if h:a=b then h ▸ f else d
noncomputable def dT(b:Bool):Dc (b=true):=if h:b=true then yes h else no
noncomputable def dE{α:Type}[DecidableEq α](a b:α):Dc (a=b):=if h:a=b then yes h else no
noncomputable def ap1{A Q:Prop}(f:A→Q)(a:Dc A):Dc Q:=a.b fun a=>yes (f a)
noncomputable def ap2{A B Q:Prop}(φ:A→B→Q)(a:Dc A)(b:Dc B):Dc Q:=a.b fun a=>ap1 (φ a) b
noncomputable def ap3{A B C Q:Prop}(φ:A→B→C→Q)(a:Dc A)(b:Dc B)(c:Dc C):Dc Q:=a.b fun a=>ap2 (φ a) b c
noncomputable def ap4{A B C D Q:Prop}(φ:A→B→C→D→Q)(a:Dc A)(b:Dc B)(c:Dc C)(d:Dc D):Dc Q:=a.b fun a=>ap3 (φ a) b c d
noncomputable def ap5{A B C D E Q:Prop}(φ:A→B→C→D→E→Q)(a:Dc A)(b:Dc B)(c:Dc C)(d:Dc D)(e:Dc E):Dc Q:=a.b fun a=>ap4 (φ a) b c d e
noncomputable def ap6{A B C D E F Q:Prop}(φ:A→B→C→D→E→F→Q)(a:Dc A)(b:Dc B)(c:Dc C)(d:Dc D)(e:Dc E)(f:Dc F):Dc Q:=a.b fun a=>ap5 (φ a) b c d e f
noncomputable def ap7{A B C D E F G Q:Prop}(φ:A→B→C→D→E→F→G→Q)(a:Dc A)(b:Dc B)(c:Dc C)(d:Dc D)(e:Dc E)(f:Dc F)(g:Dc G):Dc Q:=a.b fun a=>ap6 (φ a) b c d e f g
noncomputable def ap8{A B C D E F G H Q:Prop}(φ:A→B→C→D→E→F→G→H→Q)(a:Dc A)(b:Dc B)(c:Dc C)(d:Dc D)(e:Dc E)(f:Dc F)(g:Dc G)(h:Dc H):Dc Q:=a.b fun a=>ap7 (φ a) b c d e f g h
@[elab_as_elim] noncomputable def l0{α:Type}{M:List α→Type}(l:List α)(d:M l)(f:M []):M l:=List.rec (motive:=fun l=>M l→M l) (fun ζ=>f) (fun ζ ζ ζ d=>d) l d
@[elab_as_elim] noncomputable def lC{α:Type}{M:List α→Type}(l:List α)(d:M l)(f:∀a r,M (a :: r)):M l:=List.rec (motive:=fun l=>M l→M l) (fun d=>d) (fun a r ζ ζ=>f a r) l d
@[elab_as_elim] noncomputable def oN{α:Type}{M:Option α→Type}(l:Option α)(d:M l)(f:M none):M l:=Option.rec (motive:=fun l=>M l→M l) (fun ζ=>f) (fun ζ d=>d) l d
@[elab_as_elim] noncomputable def oS{α:Type}{M:Option α→Type}(l:Option α)(d:M l)(f:∀a,M (some a)):M l:=Option.rec (motive:=fun l=>M l→M l) (fun d=>d) (fun a ζ=>f a) l d
@[elab_as_elim] noncomputable def Cl{M:Expr→Type}(t:Expr)(d:M t)(f:∀a b,M (.Name a b)):M t:=if h:t.ctorIdx=23 then Expr.Name.elim t h f else d
@[elab_as_elim] noncomputable def F0{M:Expr→Type}(t:Expr)(d:M t)(f:∀a b c d,M (.Call a b c d)):M t:=if h:t.ctorIdx=16 then Expr.Call.elim t h f else d
@[elab_as_elim] noncomputable def Iy{M:Expr→Type}(t:Expr)(d:M t)(f:∀a b c,M (.Constant a b c)):M t:=if h:t.ctorIdx=19 then Expr.Constant.elim t h f else d
@[elab_as_elim] noncomputable def Oq{M:Expr→Type}(t:Expr)(d:M t)(f:∀a b c,M (.Tuple a b c)):M t:=if h:t.ctorIdx=25 then Expr.Tuple.elim t h f else d
@[elab_as_elim] noncomputable def L4{M:Expr→Type}(t:Expr)(d:M t)(f:∀a b c,M (.Subscript a b c)):M t:=if h:t.ctorIdx=21 then Expr.Subscript.elim t h f else d
@[elab_as_elim] noncomputable def Sf{M:Expr→Type}(t:Expr)(d:M t)(f:∀a b c,M (.Attribute a b c)):M t:=if h:t.ctorIdx=20 then Expr.Attribute.elim t h f else d
@[elab_as_elim] noncomputable def xUn{M:Expr→Type}(t:Expr)(d:M t)(f:∀a b c,M (.UnaryOp a b c)):M t:=if h:t.ctorIdx=3 then Expr.UnaryOp.elim t h f else d
@[elab_as_elim] noncomputable def Vo{M:Expr→Type}(t:Expr)(d:M t)(f:∀a b c,M (.BoolOp a b c)):M t:=if h:t.ctorIdx=0 then Expr.BoolOp.elim t h f else d
@[elab_as_elim] noncomputable def xCmp{M:Expr→Type}(t:Expr)(d:M t)(f:∀a b c d,M (.Compare a b c d)):M t:=if h:t.ctorIdx=15 then Expr.Compare.elim t h f else d
@[elab_as_elim] noncomputable def Ad4{M:Expr→Type}(t:Expr)(d:M t)(f:∀a b c d,M (.BinOp a b c d)):M t:=if h:t.ctorIdx=2 then Expr.BinOp.elim t h f else d
@[elab_as_elim] noncomputable def xLc{M:Expr→Type}(t:Expr)(d:M t)(f:∀a b c d,M (.ListComp a b c d)):M t:=if h:t.ctorIdx=8 then Expr.ListComp.elim t h f else d
@[elab_as_elim] noncomputable def Acu{M:Expr→Type}(t:Expr)(d:M t)(f:∀a b,M (.List a b)):M t:=if h:t.ctorIdx=24 then Expr.List.elim t h f else d
@[elab_as_elim] noncomputable def Ty{M:Stmt→Type}(t:Stmt)(d:M t)(f:∀a b c,M (.Assign a b c)):M t:=if h:t.ctorIdx=5 then Stmt.Assign.elim t h f else d
@[elab_as_elim] noncomputable def xAug{M:Stmt→Type}(t:Stmt)(d:M t)(f:∀a b c d,M (.AugAssign a b c d)):M t:=if h:t.ctorIdx=7 then Stmt.AugAssign.elim t h f else d
def Plain(pe:Expr):Prop:=∀env t,isTrue pe env t=(do let v ← t;standAt pe.pos;holding [v] (truthy v))
noncomputable def plT(pe:Expr):Dc (Plain pe):=
 Dc.or (Cl pe no fun ζ ζ=>yes fun ζ ζ=>rfl) <| Dc.or (F0 pe no fun ζ ζ kw ζ=>l0 kw no <| yes fun ζ ζ=>rfl) <| Dc.or (Ad4 pe no fun ζ ζ ζ ζ=>yes fun ζ ζ=>rfl) <| Dc.or (L4 pe no fun ζ ζ ζ=>yes fun ζ ζ=>rfl) <| Iy pe no fun ζ ζ ζ=>yes fun ζ ζ=>rfl
noncomputable def plI(pe:Expr):Dc (Bn pe):=
 Dc.or (Cl pe no fun ζ ζ=>yes fun ζ ζ=>rfl) <| Dc.or (F0 pe no fun ζ ζ kw ζ=>l0 kw no <| yes fun ζ ζ=>rfl) <| Dc.or (L4 pe no fun ζ ζ ζ=>yes fun ζ ζ=>rfl) <| Dc.or (Ad4 pe no fun ζ ζ ζ ζ=>yes fun ζ ζ=>rfl) <| Dc.or (Oq pe no fun ζ ζ ζ=>yes fun ζ ζ=>rfl) <| Dc.or (xLc pe no fun ζ ζ ζ ζ=>yes fun ζ ζ=>rfl) <| Acu pe no fun ζ ζ=>yes fun ζ ζ=>rfl
noncomputable def plA(pe:Expr):Dc (∀n env t,attributeBase pe n env t=t):=
 Dc.or (Cl pe no fun ζ ζ=>yes fun ζ ζ ζ=>rfl) <| Dc.or (L4 pe no fun ζ ζ ζ=>yes fun ζ ζ ζ=>rfl) <| Iy pe no fun ζ ζ ζ=>yes fun ζ ζ ζ=>rfl
noncomputable def plU(ts:List Expr)(k:Nat)(q:Pos)(pe:Expr):Dc (∀env,swappedStores [.Tuple ts k q] pe env=pure none):=
 Dc.or (ifE pe.ctorIdx 5 fun h=>Expr.IfExp.elim pe h fun ζ ζ ζ ζ=>yes fun ζ=>rfl) <| Dc.or (Cl pe no fun ζ ζ=>yes fun ζ=>rfl) <| Dc.or (F0 pe no fun ζ ζ kw ζ=>l0 kw no <| yes fun ζ=>rfl) <| L4 pe no fun ζ ζ ζ=>yes fun ζ=>rfl
noncomputable def cEs(a b:List (List Nat×D)):Dc (a=b):=by
 induction a generalizing b with
 |nil=>exact l0 b no (yes rfl)
 |cons x a ih=>
  refine lC b no fun y b=>?_
  obtain ⟨k,v⟩:=x;obtain ⟨l,u⟩:=y
  refine ifE k l fun e=>(ih b).b fun e2=>?_
  subst e;subst e2
  induction v using D.casesOn with
  |int i=>
   induction u using D.casesOn with
   |int j=>exact ifE i j fun e=>yes (e ▸ rfl)
   |_=>exact no
  |_=>exact no
noncomputable def cG(x:Str)(d:D):Dc (G x=some d):=by
 generalize G x=o
 refine oS o no fun a=>?_
 induction d using D.casesOn with
 |int i=>
  induction a using D.casesOn with
  |int j=>exact ifE j i fun e=>yes (e ▸ rfl)
  |_=>exact no
 |fn i=>
  induction a using D.casesOn with
  |fn j=>exact ifE j i fun e=>yes (e ▸ rfl)
  |_=>exact no
 |Ahf i=>
  induction a using D.casesOn with
  |Ahf j=>exact (cEs j i).b fun e=>yes (e ▸ rfl)
  |_=>exact no
 |_=>exact no
noncomputable def cN(S:Sx)(is:List Nat)(pes:List Expr):Dc (TrN S is pes):=by
 induction is generalizing pes with
 |nil=>exact l0 pes no (yes .nil)
 |cons i is ih=>exact lC pes no fun pe r=>Cl pe no fun x p=>ap3 .cons (dE (S.vars.lookup x) (some i)) (dT (D4 (S.names.lookup x))) (ih r)
noncomputable def cTg(S:Sx)(tg:Tg)(pe:Expr):Dc (Ahw S tg pe):=by
 induction tg using Tg.casesOn with
 |v i=>exact Cl pe no fun x p=>ap3 .v (dE (S.vars.lookup x) (some i)) (dT (D4 (S.names.lookup x))) (dT (Cq x))
 |t is=>exact Oq pe no fun pes k p=>ap2 .t (dT (Dk is)) (cN S is pes)
section
variable {R:Sx→E→Expr→Prop} (r:∀S e pe,Dc (R S e pe))
noncomputable def cL(S:Sx)(es:List E)(pes:List Expr):Dc (TrL R S es pes):=by
 induction es generalizing pes with
 |nil=>exact l0 pes no (yes .nil)
 |cons e es ih=>exact lC pes no fun pe q=>ap2 .cons (r S e pe) (ih q)
noncomputable def cO(S:Sx)(e:Option E)(pe:Option Expr):Dc (TrO R S e pe):=by
 induction e using Option.casesOn with
 |none=>exact oN pe no (yes .none)
 |some e=>exact oS pe no fun pe=>ap1 .some (r S e pe)
noncomputable def cTs{S:Sx}(t:∀e pe,Dc (TrT R S e pe))(es:List E)(pes:List Expr):Dc (Ahx R S es pes):=by
 induction es generalizing pes with
 |nil=>exact l0 pes no (yes .nil)
 |cons e es ih=>exact lC pes no fun pe q=>ap2 .cons (t e pe) (ih q)
noncomputable def cT(n:Nat)(S:Sx)(e:E)(pe:Expr):Dc (TrT R S e pe):=by
 induction n generalizing e pe with
 |zero=>exact no
 |succ n ih=>
  refine Dc.or (ifE e.ctorIdx 6 fun h=>E.not.elim e h fun e=>xUn pe no fun o q p=>ifV o no .Not (ap1 .not (ih e q))) <|
   Dc.or (ifE e.ctorIdx 7 fun h=>E.and.elim e h fun es=>Vo pe no fun o q p=>ifV o no .And (ap1 .and (cTs ih es q))) <|
   Dc.or (ifE e.ctorIdx 8 fun h=>E.or.elim e h fun es=>Vo pe no fun o q p=>ifV o no .Or (ap1 .or (cTs ih es q))) <|
   Dc.or (ifE e.ctorIdx 11 fun h=>E.cmp.elim e h fun o l q=>xCmp pe no fun pl ops crs p=>lC ops no fun po q3=>l0 q3 no <| lC crs no fun pr q4=>l0 q4 no <| ap4 .cmp (dE po (Eu o)) (dE (behindInMarks (Eu o) pr) false) (r S l pl) (r S q pr)) <|
   ap2 .val (plT pe) (r S e pe)
noncomputable def cI(S:Sx)(e:E)(pe:Expr):Dc (TrI R S e pe):=
 Dc.or (ifE e.ctorIdx 24 fun h=>E.enum.elim e h fun e=>F0 pe no fun g l kw p=>l0 kw no <| Cl g no fun x q=>lC l no fun pe q0=>l0 q0 no <|  ap3 .enum (dT (Cx S "enumerate")) (dE x "enumerate") (r S e pe)) <|
 ap1 .plain (r S e pe)
noncomputable def cGs(S:Sx)(gs:List (Tg×E×List E))(pgs:List Comprehension):Dc (TrG R S gs pgs):=by
 induction gs generalizing pgs with
 |nil=>exact l0 pgs no (yes .nil)
 |cons g gs ih=>
  refine lC pgs no fun pg q=>?_
  obtain ⟨tg,it,cs⟩:=g;obtain ⟨ptg,pit,pcs,as⟩:=pg
  exact ifV as no 0 (ap5 .cons (plI pit) (cI r S it pit) (cTg S tg ptg) (cTs (cT r 9 S) cs pcs) (ih q))
noncomputable def cBi(S:Sx)(b:Bi)(es:List E)(x:Str)(q:Pos)(pes:List Expr)(p:Pos):Dc (Ahv R S (.bi b es) (.Call (.Name x q) pes [] p)):=
 ifT (Za b) fun a=>ifT (Cx S (bn b)) fun c=>ifE x (bn b) fun d=>lC es no fun e es=>ap1 (fun f=>.bi a c d f) (cL r S (e :: es) pes)
noncomputable def cE1(S:Sx)(e:E)(pe:Expr):Dc (Ahv R S e pe):=by
 induction e using E.casesOn with
 |lit d=>
  refine Iy pe no fun v k p=>?_
  induction d using D.casesOn with
  |none=>exact ifV v no .none (yes .none)
  |bool b=>exact ifV v no (.bool b) (yes .bool)
  |int b=>exact ifV v no (.int b) (yes .int)
  |str b=>exact ifV v no (.str (mkS b)) (ap1 (fun a=>.str rfl (of_decide_eq_true a)) (dT (decide (b.length≤line))))
  |_=>exact no
 |Ahi b=>exact Iy pe no fun v k p=>ifV v no (.str (mkS b)) (ap1 (fun a=>.Ahi rfl (of_decide_eq_true a)) (dT (decide (b.length≤line))))
 |var i=>exact Cl pe no fun x p=>ap2 .var (dE (S.vars.lookup x) (some i)) (dT (Cq x))
 |glob d=>exact Cl pe no fun x p=>ap2 .glob (dT (Cx S x)) (cG x d)
 |bin o l q=>exact Ad4 pe no fun pl po pr p=>ap3 .bin (dE po (K3 o)) (r S l pl) (r S q pr)
 |neg e=>exact xUn pe no fun o q p=>ifV o no .USub (ap1 .neg (r S e q))
 |orv l q=>exact Vo pe no fun o vs p=>ifV o no .Or (lC vs no fun pl q1=>lC q1 no fun pr q2=>l0 q2 no <| ap2 .orv (r S l pl) (r S q pr))
 |ite t b o=>exact ifE pe.ctorIdx 5 fun h=>Expr.IfExp.elim pe h fun pt pb po p=>ap3 .ite (cT r 9 S t pt) (r S b pb) (r S o po)
 |cmp o l q=>exact xCmp pe no fun pl ops crs p=>lC ops no fun po q3=>l0 q3 no <| lC crs no fun pr q4=>l0 q4 no <| ap4 .cmp (dE po (Eu o)) (dE (behindInMarks (Eu o) pr) false) (r S l pl) (r S q pr)
 |list es=>exact Acu pe no fun pes p=>ap1 .list (cL r S es pes)
 |tup es=>exact Oq pe no fun pes k p=>ap1 .tup (cL r S es pes)
 |Ahr=>exact ifE pe.ctorIdx 6 fun h=>Expr.Dict.elim pe h fun ks vs p=>l0 ks no (l0 vs no (yes .Ahr))
 |call f args io=>exact F0 pe no fun g Ahp kw p=>l0 kw no <| Cl g no fun x q=>lC args no fun a as=>ap3 .call (r S f (.Name x q)) (cL r S (a :: as) Ahp) (dT (decide (Ahp.length≤30)))
 |bi b es=>
  refine F0 pe no fun g pes kw p=>l0 kw no <| Cl g no fun x q=>?_
  induction b using Bi.casesOn with
  |len=>exact lC es no fun e q0=>l0 q0 no <|  lC pes no fun pe q0=>l0 q0 no <|  ap3 .len (dT (Cx S "len")) (dE x "len") (r S e pe)
  |list=>exact lC es no fun e q0=>l0 q0 no <|  lC pes no fun pe q0=>l0 q0 no <|  ap3 .blist (dT (Cx S "list")) (dE x "list") (r S e pe)
  |isBool=>exact lC es no fun e q0=>l0 q0 no <|  lC pes no fun pe q1=>lC q1 no fun n q2=>l0 q2 no <| Cl n no fun y z=>ap5 .isB (dT (Cx S "isinstance")) (dT (Cx S "bool")) (dE x "isinstance") (dE y "bool") (r S e pe)
  |isInt=>exact lC es no fun e q0=>l0 q0 no <|  lC pes no fun pe q1=>lC q1 no fun n q2=>l0 q2 no <| Cl n no fun y z=>ap5 .isI (dT (Cx S "isinstance")) (dT (Cx S "int")) (dE x "isinstance") (dE y "int") (r S e pe)
  |Ahn=>exact lC es no fun e q1=>lC q1 no fun e' q2=>l0 q2 no <| lC pes no fun pe q0=>l0 q0 no <|  F0 pe no fun g l kw p'=>l0 kw no <| Cl g no fun y z=>lC l no fun pa q1=>lC q1 no fun pb q2=>l0 q2 no <| ifT (Cx S "dict") fun a=>ifT (Cx S "zip") fun b=>ifE x "dict" fun c=>ifE y "zip" fun d=>(r S e pa).b fun f=>(r S e' pb).b fun f'=>yes (.Ahn a b c d f f')
  |_=>exact cBi r S _ es x q pes p
 |meth m o es=>exact F0 pe no fun g pes kw p=>l0 kw no <| Sf g no fun po n ap=>ap6 (fun a b c d e f=>.meth a (b _) c d e f) (dE n (mn m)) (plA po) (dT (ap.endLine == p.line)) (dT (decide (pes.length<30))) (r S o po) (cL r S es pes)
 |repl o old w=>exact F0 pe no fun g pes kw p=>l0 kw no <| Sf g no fun po n ap=>lC pes no fun pold q1=>lC q1 no fun c q2=>l0 q2 no <| Iy c no fun v k q=>ifV v no (.str (mkS w)) <| ap6 (fun a b c d e f=>.repl a (b _) c rfl d e f) (dE n "replace") (plA po) (dT (ap.endLine == p.line)) (dT (decide (w.length≤line))) (r S o po) (r S old pold)
 |idx o i=>exact L4 pe no fun po pi p=>ap3 .idx (dT (Bh pi)) (r S o po) (r S i pi)
 |Ahu o i=>exact L4 pe no fun po pi p=>ap3 .Ahu (dT (Bh pi)) (r S o po) (r S i pi)
 |slc o l u rev=>
  refine L4 pe no fun po ps p=>ifE ps.ctorIdx 26 fun h=>Expr.Slice.elim ps h fun pl pu st q=>?_
  induction rev using Bool.casesOn with
  |false=>exact oN st no (ap3 .slc (r S o po) (cO r S l pl) (cO r S u pu))
  |true=>exact oS st no fun st=>xUn st no fun op c t=>Iy c no fun v k z=>ifV op no .USub <| ifV v no (.int 1) <| oN l no <| oN u no <| oN pl no <| oN pu no <| ap1 .slcR (r S o po)
 |comp elt gs=>
  refine xLc pe no fun Aho pgs scope p=>lC gs no fun g gs=>lC pgs no fun pg pgs=>?_
  obtain ⟨tg,it,cs⟩:=g;obtain ⟨ptg,pit,pcs,as⟩:=pg
  exact ifV as no 0 <| ap8 .comp' (dT _) (dT (Fr ((tg,it,cs) :: gs))) (plI pit) (cI r S it pit) (cTg _ tg ptg) (cTs (cT r 9 _) cs pcs) (cGs r _ gs pgs) (r _ elt Aho)
 |Ah1 k v g=>
  refine ifE pe.ctorIdx 10 fun h=>Expr.DictComp.elim pe h fun pk pv pgs scope p=>lC pgs no fun pg q0=>l0 q0 no <|  ?_
  obtain ⟨tg,it⟩:=g;obtain ⟨ptg,pit,pcs,as⟩:=pg
  exact ifV as no 0 <| l0 pcs no <| ap7 .dcomp' (dT _) (dT (Fr [(tg,it,[])])) (plI pit) (cI r S it pit) (cTg _ tg ptg) (r _ k pk) (r _ v pv)
 |_=>exact no
noncomputable def cW(S:Sx)(i:Nat)(es:List E)(pes:List Expr):Dc (TrW R S i es pes):=by
 induction es generalizing pes with
 |nil=>exact l0 pes no (yes .nil)
 |cons e es ih=>exact lC pes no fun pe w=>L4 pe no fun o pi p=>Cl o no fun x q=>ap5 .cons (dE (S.vars.lookup x) (some i)) (dT (Cq x)) (dT (Bh pi)) (r S e pi) (ih w)
noncomputable def cOp(o:Op):Dc (o=.add∨o=.sub∨o=.mul):=by
 induction o using Op.casesOn with
 |add=>exact yes (.inl rfl)
 |sub=>exact yes (.inr (.inl rfl))
 |mul=>exact yes (.inr (.inr rfl))
 |_=>exact no
variable {RS:Sx→Mine.S→Stmt→Prop} (rs:∀S s ps,Dc (RS S s ps))
noncomputable def cSs(S:Sx)(ss:List Mine.S)(pss:List Stmt):Dc (Ahy RS S ss pss):=by
 induction ss generalizing pss with
 |nil=>exact l0 pss no (yes .nil)
 |cons s ss ih=>exact lC pss no fun ps q=>ap2 .cons (rs S s ps) (ih q)
noncomputable def cS1(S:Sx)(s:Mine.S)(ps:Stmt):Dc (Ahz R RS S s ps):=by
 induction s using Mine.S.casesOn with
 |app i e=>exact ifE ps.ctorIdx 24 fun h=>Stmt.Expr.elim ps h fun v p=>F0 v no fun g l kw cp=>l0 kw no <| Sf g no fun o n ap=>Cl o no fun x q=>lC l no fun pe q0=>l0 q0 no <|  ap5 .app (dE (S.vars.lookup x) (some i)) (dT (Cq x)) (dE n "append") (dT (ap.endLine == cp.line)) (r S e pe)
 |ext i e=>exact ifE ps.ctorIdx 24 fun h=>Stmt.Expr.elim ps h fun v p=>F0 v no fun g l kw cp=>l0 kw no <| Sf g no fun o n ap=>Cl o no fun x q=>lC l no fun pe q0=>l0 q0 no <|  ap5 .ext (dE (S.vars.lookup x) (some i)) (dT (Cq x)) (dE n "extend") (dT (ap.endLine == cp.line)) (r S e pe)
 |asg i e=>exact Ty ps no fun ts v p=>lC ts no fun t q0=>l0 q0 no <|  Cl t no fun x q=>ifE (S.vars.lookup x) (some i) fun a=>ifT (D4 (S.names.lookup x)) fun b=>ifT (Cq x) fun c=>Dc.or (ifE e.ctorIdx 22 fun h=>E.comp.elim e h fun elt gs=>xLc v no fun Aho pgs scope z=>ap1 (fun d=>.asgC a b c d) (r S _ _)) (ap2 (fun d f=>.asg a b c d f) (dT (Fk v)) (r S e v))
 |asg2 i j e=>exact Ty ps no fun ts v p=>lC ts no fun t q1=>lC q1 no fun t' q2=>l0 q2 no <| Cl t no fun x q=>Cl t' no fun y w=>ap7 .asg2 (dE (S.vars.lookup x) (some i)) (dT (D4 (S.names.lookup x))) (dE (S.vars.lookup y) (some j)) (dT (D4 (S.names.lookup y))) (dT (Cq x)) (dT (Cq y)) (r S e v)
 |Ah0 is e=>exact Ty ps no fun ts v p=>lC ts no fun t q0=>l0 q0 no <|  Oq t no fun pes k q=>ap4 .Ah0 (plU pes k q v) (dT (Dk is)) (cN S is pes) (r S e v)
 |Ahs is es=>exact Ty ps no fun ts v p=>lC ts no fun t q0=>l0 q0 no <|  Oq t no fun pes k q=>Oq v no fun pvs k' q'=>ap5 .Ahs (dT (Dk is)) (dT (decide (is.length≤3))) (cN S is pes) (cL r S es pvs) (Dc.or (ifT (pvs.all (foldedForSure 8)) fun h=>yes (.inl h)) (ifE (pvs.all (constantsAlone 8)) false fun h=>yes (.inr h)))
 |swp i is es=>exact Ty ps no fun ts v p=>lC ts no fun t q0=>l0 q0 no <|  Oq t no fun pts k q=>Oq v no fun pvs k' q'=>ap3 .swp (dT (decide (is.length≤3))) (cW r S i is pts) (cL r S es pvs)
 |put i ie e=>exact Ty ps no fun ts v p=>lC ts no fun t q0=>l0 q0 no <|  L4 t no fun o pi z=>Cl o no fun x q=>ap6 .put (dE (S.vars.lookup x) (some i)) (dT (Cq x)) (dT (Bh pi)) (dT (Fk v)) (r S ie pi) (r S e v)
 |aug o i e=>exact xAug ps no fun t po v p=>Cl t no fun x q=>ap6 .aug (dE po (K3 o)) (cOp o) (dE (S.vars.lookup x) (some i)) (dT (D4 (S.names.lookup x))) (dT (Cq x)) (r S e v)
 |Ahq o i ie e=>exact xAug ps no fun t po v p=>L4 t no fun w pi z=>Cl w no fun x q=>ap7 .Ahq (dE po (K3 o)) (cOp o) (dE (S.vars.lookup x) (some i)) (dT (Cq x)) (dT (Bh pi)) (r S ie pi) (r S e v)
 |ite t b o=>exact ifE ps.ctorIdx 12 fun h=>Stmt.If.elim ps h fun pt pb po p=>ap3 .ite (cT r 9 S t pt) (cSs rs S b pb) (cSs rs S o po)
 |whl t b=>exact ifE ps.ctorIdx 11 fun h=>Stmt.While.elim ps h fun pt pb po p=>l0 po no <| ap2 .whl (cT r 9 S t pt) (cSs rs S b pb)
 |«for» tg it b=>exact ifE ps.ctorIdx 9 fun h=>Stmt.For.elim ps h fun ptg pit pb po p=>l0 po no <| ap5 .for (dT (Fr [(tg,it,[])])) (plI pit) (cI r S it pit) (cTg S tg ptg) (cSs rs S b pb)
 |ret e=>exact ifE ps.ctorIdx 3 fun h=>Stmt.Return.elim ps h fun v p=>oS v no fun v=>ap1 .ret (r S e v)
 |Aht b=>exact ifE ps.ctorIdx 17 fun h=>Stmt.Try.elim ps h fun pb hs oe fb p=>lC hs no fun h hs=>l0 oe no <| l0 fb no <| ap1 .Aht (cSs rs S b pb)
end
noncomputable def cE(n:Nat):∀S e pe,Dc (TrE n S e pe):=by
 induction n with
 |zero=>exact fun ζ ζ ζ=>no
 |succ n ih=>exact cE1 ih
noncomputable def cS(n:Nat):∀S s ps,Dc (TrS n S s ps):=by
 induction n with
 |zero=>exact fun ζ ζ ζ=>no
 |succ n ih=>exact cS1 (cE n) ih
end
end Mine
end
section
open PySem PySem.W PyProof.Rows Mine
set_option maxRecDepth 100000
set_option maxHeartbeats 8000000
namespace G1
noncomputable def rc(i:Nat):DefRec:=match (recsOf vw1)[i]? with
 |some d=>d
 |none=>⟨"",⟨[],[],none,[],[],none,[]⟩,[],⟨.function,[],false,false,[]⟩,⟨0,0,0,0⟩⟩
theorem Q3{i:Nat}(h:i<18):rc i∈recsOf vw1:=by
 have e:(recsOf vw1).length=18:=by kernel_rfl
 have e2:=List.getElem?_eq_getElem (e.symm ▸ h:i<(recsOf vw1).length)
 have:rc i=(recsOf vw1)[i]:=by delta rc;rw [e2];rfl
 exact this ▸ List.getElem_mem _
noncomputable def G2(d:DefRec):List (Str×Nat):=((d.scope.names.filter fun p=>D4 (some p.2)).map (·.1)).zipIdx
noncomputable def Sof(vs:List (Str×Nat))(d:DefRec)(f:Ahc):Sx:=⟨vs,d.scope.names,vs.length,f.nv⟩
noncomputable def psOf(vs:List (Str×Nat))(f:Ahc):List Str:=(vs.map (·.1)).take f.np
def TrAt(hT:Heap)(a:Addr)(f:Ahc)(S:Sx)(ps:List Str):Prop:=Ex3 fun o fd body=>And4 (hT.get? a=some o) (o.data=.func fd) (hT.CodeRec fd.code fd.qualname) (TrF f fd S body ps)
noncomputable def cF(vs:List (Str×Nat))(d:DefRec)(f:Ahc):Dc (d.scope.kind=.function∧d.scope.isCoroutine=false∧d.scope.isGenerator=false∧Ab7 (Sof vs d f) d.scope f.np f.nv (psOf vs f)=true∧Ahy (TrS 40) (Sof vs d f) f.body d.body):=
 ap5 (fun a b c d e=>⟨a,b,c,d,e⟩) (dE _ _) (dE _ _) (dE _ _) (dT _) (cSs (cS 40) _ _ _)
theorem fnT{loose:List Str}{mean:ExcName→Option Value}{mg mb:Str→Option Value}{h:Heap}(T:Top vw1 loose mean mg mb h)(i:Nat)(hi:i<18)(vs:List (Str×Nat)){a:Addr}(ha:mg (rc i).name=some (.ref a)){f:Ahc}(hc:(cF vs (rc i) f).isSome=true)
  (hb:∀(pm code doc:Value) (vals:List Value),vals.length=f.np→bindArgs (Calls.docDef (rc i).name (rc i).params (rc i).body (rc i).scope pm code doc) ⟨vals,[]⟩ = pure ((psOf vs f).zip vals)):Ex2 fun S ps=>TrAt h a f S ps:=by
 obtain ⟨a',o,pm,code,doc,h1,h2,h3,h4⟩:=T.fn _ (Q3 hi)
 obtain rfl:=Value.ref.inj (Ag (ha.symm.trans h1))
 obtain ⟨c1,c2,c3,c4,c5⟩:=Dc.get hc
 exact ⟨_,_,o,_,_,h2,h3,h4,⟨c1,c2,c3,rfl,rfl,rfl,rfl,c4,hb pm code doc,c5⟩⟩
noncomputable def lawVs:List (Str×Nat):=((["script","cells","place","x","signs","numbers","row","lead","goal","steps","rules","sides","part","symbol","words","size","worth","answers","mask","choice","due","pairs","told","count","best","word","write","table","mark","line","page","pieces","pick","longer","names","one","other"]:List String).map Str.ofString).zipIdx
theorem trs{p:Params}{loose:List Str}{mean:ExcName→Option Value}{mg mb:Str→Option Value}{h:Heap}(T:Top vw1 loose mean mg mb h)(K:(KF1 p).In h) :
  Agt (fun q=>Ex2 fun S ps=>TrAt h q.1 q.2 S ps) P:=
 ⟨fnT T 0 (by decide) (G2 (rc 0)) (mg_of K T.g (by kernel_rfl)) (by kernel_rfl) fun ζ ζ ζ=>vl2 fun ζ ζ=>rfl,
  fnT T 1 (by decide) (G2 (rc 1)) (mg_of K T.g (by kernel_rfl)) (by kernel_rfl) fun ζ ζ ζ=>vl3 fun ζ ζ ζ=>rfl,
  fnT T 2 (by decide) (G2 (rc 2)) (mg_of K T.g (by kernel_rfl)) (by kernel_rfl) fun ζ ζ ζ=>vl1 fun ζ=>rfl,
  fnT T 3 (by decide) (G2 (rc 3)) (mg_of K T.g (by kernel_rfl)) (by kernel_rfl) fun ζ ζ ζ=>vl1 fun ζ=>rfl,
  fnT T 4 (by decide) (G2 (rc 4)) (mg_of K T.g (by kernel_rfl)) (by kernel_rfl) fun ζ ζ ζ=>vl1 fun ζ=>rfl,
  fnT T 6 (by decide) (G2 (rc 6)) (mg_of K T.g (by kernel_rfl)) (by kernel_rfl) fun ζ ζ ζ=>vl1 fun ζ=>rfl,
  fnT T 7 (by decide) (G2 (rc 7)) (mg_of K T.g (by kernel_rfl)) (by kernel_rfl) fun ζ ζ ζ=>vl1 fun ζ=>rfl,
  fnT T 8 (by decide) (G2 (rc 8)) (mg_of K T.g (by kernel_rfl)) (by kernel_rfl) fun ζ ζ ζ=>vl1 fun ζ=>rfl,
  fnT T 9 (by decide) (G2 (rc 9)) (mg_of K T.g (by kernel_rfl)) (by kernel_rfl) fun ζ ζ ζ=>vl1 fun ζ=>rfl,
  fnT T 10 (by decide) (G2 (rc 10)) (mg_of K T.g (by kernel_rfl)) (by kernel_rfl) fun ζ ζ ζ=>vl1 fun ζ=>rfl,
  fnT T 11 (by decide) (G2 (rc 11)) (mg_of K T.g (by kernel_rfl)) (by kernel_rfl) fun ζ ζ ζ=>vl1 fun ζ=>rfl,
  fnT T 12 (by decide) (G2 (rc 12)) (mg_of K T.g (by kernel_rfl)) (by kernel_rfl) fun ζ ζ ζ=>vl1 fun ζ=>rfl,
  fnT T 13 (by decide) (G2 (rc 13)) (mg_of K T.g (by kernel_rfl)) (by kernel_rfl) fun ζ ζ ζ=>vl1 fun ζ=>rfl,
  fnT T 14 (by decide) (G2 (rc 14)) (mg_of K T.g (by kernel_rfl)) (by kernel_rfl) fun ζ ζ ζ=>vl2 fun ζ ζ=>rfl,
  fnT T 15 (by decide) (G2 (rc 15)) (mg_of K T.g (by kernel_rfl)) (by kernel_rfl) fun ζ ζ ζ=>vl2 fun ζ ζ=>rfl,
  fnT T 16 (by decide) (G2 (rc 16)) (mg_of K T.g (by kernel_rfl)) (by kernel_rfl) fun ζ ζ ζ=>vl2 fun ζ ζ=>rfl,
  fnT T 17 (by decide) lawVs (mg_of K T.g (by kernel_rfl)) (by kernel_rfl) fun ζ ζ ζ=>vl1 fun ζ=>rfl,trivial⟩
end G1
end
section
set_option autoImplicit false
namespace Mine
section
variable {P:List (Nat×Ahc)} {n:Nat} {σ σ₁ σ₂ σ₃:St}
theorem Af{i:Nat}{d:D}(h:σ.get i=some (.sh,d)):(Ev P (n+1)).ev (.var i) σ=some (d,σ):=congrArg (Kx σ i) h
theorem Bf{d:D}:(Ev P (n+1)).ev (.lit d) σ=some (d,σ):=rfl
theorem Cn{d:D}:(Ev P (n+1)).ev (.glob d) σ=some (d,σ):=rfl
theorem bnn{α β:Type}{x:Option α}{a:α}{f:α→Option β}{b:Option β}(h:x=some a)(k:f a=b):x.bind f=b:=h ▸ k
theorem mpn{α β:Type}{x:Option α}{a:α}{f:α→β}(h:x=some a):x.map f=some (f a):=h ▸ rfl
theorem B0{l r:E}{o:Op}{a b d:D}(h1:(Ev P n).ev l σ=some (a,σ₁))(h2:(Ev P n).ev r σ₁=some (b,σ₂))(h3:A3 o a b=some d):(Ev P (n+1)).ev (.bin o l r) σ=some (d,σ₂):=bnn h1 (bnn h2 (mpn h3))
theorem r_neg{e:E}{a d:D}(h1:(Ev P n).ev e σ=some (a,σ₁))(h3:Pm a=some d):(Ev P (n+1)).ev (.neg e) σ=some (d,σ₁):=bnn h1 (mpn h3)
theorem Mq{l r:E}{o:Cmp}{a b:D}{c:Bool}(h1:(Ev P n).ev l σ=some (a,σ₁))(h2:(Ev P n).ev r σ₁=some (b,σ₂))(h3:C3 o a b=some c)(h0:N5 o=false):(Ev P (n+1)).ev (.cmp o l r) σ=some (.bool c,σ₂):=bnn h1 (bnn (by rw [h0];exact h2) (mpn h3))
theorem H9{l r:E}{a b:D}{c:Bool}(h1:(Ev P n).ev l σ=some (a,σ₁))(h2:(Ev P n).ev r σ₁=some (b,σ₂))(h3:C3 .eq a b=some c):(Ev P (n+1)).ev (.cmp .eq l r) σ=some (.bool c,σ₂):=Mq h1 h2 h3 rfl
theorem r_ne{l r:E}{a b:D}{c:Bool}(h1:(Ev P n).ev l σ=some (a,σ₁))(h2:(Ev P n).ev r σ₁=some (b,σ₂))(h3:C3 .ne a b=some c):(Ev P (n+1)).ev (.cmp .ne l r) σ=some (.bool c,σ₂):=Mq h1 h2 h3 rfl
theorem Pc{l r:E}{a b:D}{c:Bool}(h1:(Ev P n).ev l σ=some (a,σ₁))(h2:(Ev P n).ev r σ₁=some (b,σ₂))(h3:C3 .lt a b=some c):(Ev P (n+1)).ev (.cmp .lt l r) σ=some (.bool c,σ₂):=Mq h1 h2 h3 rfl
theorem Kz{l r:E}{a b:D}{c:Bool}(h1:(Ev P n).ev l σ=some (a,σ₁))(h2:(Ev P n).ev r σ₁=some (b,σ₂))(h3:C3 .gt a b=some c):(Ev P (n+1)).ev (.cmp .gt l r) σ=some (.bool c,σ₂):=Mq h1 h2 h3 rfl
theorem r_ge{l r:E}{a b:D}{c:Bool}(h1:(Ev P n).ev l σ=some (a,σ₁))(h2:(Ev P n).ev r σ₁=some (b,σ₂))(h3:C3 .ge a b=some c):(Ev P (n+1)).ev (.cmp .ge l r) σ=some (.bool c,σ₂):=Mq h1 h2 h3 rfl
theorem Nw{l r:E}{a b:D}{c:Bool}(h1:(Ev P n).ev l σ=some (a,σ₁))(h2:(Ev P n).ev r σ₁=some (b,σ₂))(h3:C3 .isNot a b=some c):(Ev P (n+1)).ev (.cmp .isNot l r) σ=some (.bool c,σ₂):=Mq h1 h2 h3 rfl
noncomputable def nv:E→Bool
 |.var _=>false
 |_=>true
theorem Aac{e:E}{r:Option (D×St)}(h:(Ev P n).ev e σ=r)(h0:nv e=true):A8 (Ev P n) e σ=r:=by
 induction e using E.casesOn <;> first | exact h | exact absurd h0 Bool.false_ne_true
theorem Aad{e:E}{d:D}(h0:nv e=true):again e d σ=some d:=by
 induction e using E.casesOn <;> first | rfl | exact absurd h0 Bool.false_ne_true
theorem K2{e:E}{r:Option (D×St)}(h:(Ev P n).ev e σ=r):J5 (Ev P n) (some e) σ=r:=h
theorem r_p{i:Nat}{o:Own}{d:D}(h:σ.get i=some (o,d)):A8 (Ev P n) (.var i) σ=some (d,σ):=mpn h
theorem G4{i:Nat}{o:Own}{d e:D}(h:σ.get i=some (o,d)):again (.var i) e σ=some d:=mpn h
theorem C8{e:E}{a d:D}(h1:A8 (Ev P n) e σ=some (a,σ₁))(h3:biD .len [a]=some d):(Ev P (n+1)).ev (.bi .len [e]) σ=some (d,σ₁):=bnn h1 (mpn h3)
theorem K0{b:Bi}{es:List E}{as:List D}{d:D}(h1:evs (Ev P n) es σ=some (as,σ₁))(h3:biD b as=some d)(h:b≠.len)(h':b≠.list):(Ev P (n+1)).ev (.bi b es) σ=some (d,σ₁):=(L3 h h').trans (bnn h1 (mpn h3))
theorem Cm{i:E}{k:Nat}{o:Own}{L x d:D}(h:σ.get k=some (o,L))(h1:(Ev P n).ev i σ=some (x,σ))(h3:Ar L x=some d):(Ev P (n+1)).ev (.idx (.var k) i) σ=some (d,σ):=bnn (mpn h) (bnn h1 (bnn (mpn h) (mpn h3)))
theorem Wu{i e:E}{L L' x d:D}(h:A8 (Ev P n) e σ=some (L,σ₁))(h1:(Ev P n).ev i σ₁=some (x,σ₂))(h2:again e L σ₂=some L')(h3:Ar L' x=some d):(Ev P (n+1)).ev (.idx e i) σ=some (d,σ₂):=bnn h (bnn h1 (bnn h2 (mpn h3)))
theorem Hg{e:E}{l u:Option E}{rev:Bool}{L L' x y d:D}(h:A8 (Ev P n) e σ=some (L,σ₁))(h1:J5 (Ev P n) l σ₁=some (x,σ₂))(h2:J5 (Ev P n) u σ₂=some (y,σ₃))(h4:again e L σ₃=some L')(h3:Em L' x y rev=some d):(Ev P (n+1)).ev (.slc e l u rev) σ=some (d,σ₃):=bnn h (bnn h1 (bnn h2 (bnn h4 (mpn h3))))
theorem Fg{a:Nat}{args:List E}{as:List Slot}{d:D}{z:Option Slot}(h1:Fe (Ev P (n+1)) false args σ=some (as,σ₁))(h2:(Ev P (n+1)).call a as=some (d,z)):(Ev P (n+2)).ev (.call (.glob (.fn a)) args false) σ=some (d,σ₁):=by
 have e:(Ev P (n+2)).ev (.call (.glob (.fn a)) args false) σ=(Fe (Ev P (n+1)) false args σ).bind fun q=>((Ev P (n+1)).call a q.1).bind fun r=>some (r.1,q.2):=rfl
 exact e.trans (bnn h1 (bnn h2 rfl))
theorem Nx{e:E}{d:D}(h:(Ev P n).ev e σ=some (d,σ₁)):Fe (Ev P n) false [e] σ=some ([(.sh,d)],σ₁):=mpn h
theorem r_ac{e e':E}{r:List E}{d:D}{as:List Slot}(h:(Ev P n).ev e σ=some (d,σ₁))(h1:Fe (Ev P n) false (e' :: r) σ₁=some (as,σ₂)):Fe (Ev P n) false (e :: e' :: r) σ=some ((.sh,d) :: as,σ₂):=bnn h (mpn h1)
theorem Ec{e:E}{r:List E}{d:D}{as:List D}(h:(Ev P n).ev e σ=some (d,σ₁))(h1:evs (Ev P n) r σ₁=some (as,σ₂)):evs (Ev P n) (e :: r) σ=some (d :: as,σ₂):=bnn h (mpn h1)
theorem r_os{e:E}{r:List E}{o:Own}{d:D}{as:List Slot}(h:(Ev P n).evO e σ=some (o,d,σ₁))(h1:Ln (Ev P n) r σ₁=some (as,σ₂)):Ln (Ev P n) (e :: r) σ=some ((o,d) :: as,σ₂):=bnn h (mpn h1)
theorem o_v{e:E}{d:D}(h:(Ev P n).ev e σ=some (d,σ₁))(h0:isO e=false):(Ev P (n+1)).evO e σ=some (.sh,d,σ₁):=(o_sh h0).trans (congrArg shO h)
theorem Hv{m:Mt}{e:E}{es:List E}{L L' d:D}{as:List D}(h:A8 (Ev P n) e σ=some (L,σ₁))(h1:evs (Ev P n) es σ₁=some (as,σ₂))(h2:again e L σ₂=some L')(h3:Bw m L' as=some d)(h4:kd L=kd L'):(Ev P (n+1)).ev (.meth m e es) σ=some (d,σ₂):=bnn h (bnn h1 (bnn h2 ((if_pos h4).trans (mpn h3))))
theorem t_v{e:E}{d:D}{b:Bool}(h:(Ev P n).ev e σ=some (d,σ₁))(h1:G3 d=some b)(h0:Afg e=false):(Ev P (n+1)).evT e σ=some (b,σ₁):=(Acw h0).trans (bnn h (mpn h1))
theorem t_n{e:E}{b:Bool}(h:(Ev P n).evT e σ=some (b,σ₁)):(Ev P (n+1)).evT (.not e) σ=some (!b,σ₁):=mpn h
theorem Do{x:Nat}{e:E}{o:Own}{d:D}(h:(Ev P n).evO e σ=some (o,d,σ₁)):(Ev P (n+1)).ex (.asg x e) σ=some (.next,σ₁.put x (o,d)):=mpn h
theorem Aeu{xs:List Nat}{es:List E}{as:List Slot}(h:Ln (Ev P n) es σ=some (as,σ₁))(h1:By xs as σ₁=some σ₂):(Ev P (n+1)).ex (.Ahs xs es) σ=some (.next,σ₂):=bnn h (mpn h1)
theorem Ac6{e:E}{d:D}(h:(Ev P n).ev e σ=some (d,σ₁)):(Ev P (n+1)).ex (.ret e) σ=some (.ret d,σ₁):=mpn h
theorem Ac9{t x y:E}{c:Bool}{r:Option (D×St)}(h1:(Ev P n).evT t σ=some (c,σ₁))(h2:(if c=true then (Ev P n).ev x σ₁ else (Ev P n).ev y σ₁)=r):(Ev P (n+1)).ev (.ite t x y) σ=r:=bnn h1 h2
theorem o_i{t x y:E}{c:Bool}{r:Option (Own×D×St)}(h1:(Ev P n).evT t σ=some (c,σ₁))(h2:(if c=true then (Ev P n).evO x σ₁ else (Ev P n).evO y σ₁)=r):(Ev P (n+1)).evO (.ite t x y) σ=r:=bnn h1 h2
theorem H8{t:E}{x y:List S}{c:Bool}{r:Option (Fl×St)}(h1:(Ev P n).evT t σ=some (c,σ₁))(h2:(if c=true then exs (Ev P n) x σ₁ else exs (Ev P n) y σ₁)=r):(Ev P (n+1)).ex (.ite t x y) σ=r:=bnn h1 h2
theorem i_t{α:Type}{x y r:α}(h:x=r):(if true=true then x else y)=r:=h
theorem i_n{α:Type}{x y r:α}{c:Bool}(h:(if c=true then y else x)=r):(if (!c)=true then x else y)=r:=by
 induction c using Bool.rec <;> exact h
theorem i_f{α:Type}{x y r:α}(h:y=r):(if false=true then x else y)=r:=h
theorem N9{α:Type}{x y r:α}{p:Prop}{_:Decidable p}(hp:p)(h:x=r):(if decide p=true then x else y)=r:=(if_pos (decide_eq_true hp)).trans h
theorem Mc{α:Type}{x y r:α}{p:Prop}{_:Decidable p}(hp:¬p)(h:y=r):(if decide p=true then x else y)=r:=(if_neg (Bool.eq_false_iff.mp (decide_eq_false hp))).trans h
theorem L0{e:E}{r:List S}{d:D}(h:(Ev P n).ev e σ=some (d,σ₁)):exs (Ev P (n+1)) (.ret e :: r) σ=some (.ret d,σ₁):=congrArg (Bt _) (Ac6 h)
theorem Am{s:S}{r:List S}{x:Option (Fl×St)}(h:(Ev P n).ex s σ=some (.next,σ₁))(k:exs (Ev P n) r σ₁=x):exs (Ev P n) (s :: r) σ=x:=(congrArg (Bt _) h).trans k
theorem I8{x:Nat}{e:E}{o:Own}{d:D}(h:(Ev P n).evO e σ=some (o,d,σ₁))(h1:σ₁.put x (o,d)=σ₂):(Ev P (n+1)).ex (.asg x e) σ=some (.next,σ₂):=h1 ▸ mpn h
theorem a_g{e:E}{es:List E}{c:Bool}{r:Option (Bool×St)}(h:(Ev P n).evT e σ=some (c,σ₁))(k:(if c=true then G9 (Ev P n) es σ₁ else some (false,σ₁))=r):G9 (Ev P n) (e :: es) σ=r:=bnn h k
theorem y_g{e:E}{es:List E}{c:Bool}{r:Option (Bool×St)}(h:(Ev P n).evT e σ=some (c,σ₁))(k:(if c=true then some (true,σ₁) else Ly (Ev P n) es σ₁)=r):Ly (Ev P n) (e :: es) σ=r:=bnn h k
theorem Mr{es:List E}{r:Option (Bool×St)}(h:G9 (Ev P n) es σ=r):(Ev P (n+1)).evT (.and es) σ=r:=h
theorem Nv{es:List E}{r:Option (Bool×St)}(h:Ly (Ev P n) es σ=r):(Ev P (n+1)).evT (.or es) σ=r:=h
theorem o_l{es:List E}{as:List D}(h:evs (Ev P n) es σ=some (as,σ₁))(h1:as.length≤line):(Ev P (n+1)).evO (.list es) σ=some (.own,.list as,σ₁):=bnn h (if_pos h1)
theorem r_l{es:List E}{as:List D}(h:evs (Ev P n) es σ=some (as,σ₁))(h1:as.length≤line):(Ev P (n+2)).ev (.list es) σ=some (.list as,σ₁):=congrArg noO (o_l h h1)
theorem Aet{xs:List Nat}{e:E}{d:D}(h:(Ev P n).ev e σ=some (d,σ₁))(h1:Iu xs d σ₁=some σ₂):(Ev P (n+1)).ex (.Ah0 xs e) σ=some (.next,σ₂):=bnn h (mpn h1)
theorem Ada{o:Op}{x:Nat}{e:E}{old d:D}{r:Int}(h0:σ.get x=some (.sh,old))(h1:(Ev P n).ev e σ=some (d,σ₁))(h2:A3 o old d=some (.int r)):(Ev P (n+1)).ex (.aug o x e) σ=some (.next,σ₁.put x (.sh,.int r)):=bnn (congrArg V7 h0) (bnn h1 (mpn (congrArg (·.bind Rm) h2)))
theorem Ac8{l r:E}{a:D}{c:Bool}{x:Option (D×St)}(h:(Ev P n).ev l σ=some (a,σ₁))(h1:G3 a=some c)(h2:(if c=true then some (a,σ₁) else (Ev P n).ev r σ₁)=x):(Ev P (n+1)).ev (.orv l r) σ=x:=bnn h (bnn h1 h2)
theorem ll{a:Nat}(h:Nat.ble a line=true):a≤line:=Nat.le_of_ble_eq_true h
theorem st_o{e:E}{r:Option (Own×D×St)}(h:(Ev P (n+1)).evO e σ=r):Av (Ev P n) e σ=r:=h
theorem ap{x:Nat}{d:D}{o:Own}{xs:List D}(h:xs.length<line)(h0:o≠.sh)(h1:σ.put x (o,.list (xs++[d]))=σ₁):Iv σ x d (some (o,.list xs))=some (.next,σ₁):=by
 induction o using Own.casesOn with
 |sh=>exact absurd rfl h0
 |_=>rw [← h1];exact if_pos h
noncomputable def ne':E→Bool
 |.enum _=>false
 |_=>true
theorem Afe{e:E}{d:D}{l:List D}(h:(Ev P n).ev e σ=some (d,σ₁))(h1:Fn d=some l)(h0:ne' e=true):items (Ev P n) e σ=some (l,σ₁):=by
 induction e using E.casesOn <;> first | exact absurd h0 Bool.false_ne_true | exact bnn h (mpn h1)
theorem Wv{tg:Tg}{it:E}{b:List S}{l:List D}{r:Option (Fl×St)}(h:items (Ev P n) it σ=some (l,σ₁))(k:Dl (Ev P n) tg b l σ₁=r):(Ev P (n+1)).ex (.for tg it b) σ=r:=bnn h k
theorem Oa{α:Type}{x y r:α}{c:Bool}(hp:c=true)(h:x=r):(if c=true then x else y)=r:=(if_pos hp).trans h
theorem X3{α:Type}{x y r:α}{c:Bool}(hp:c=false)(h:y=r):(if c=true then x else y)=r:=(if_neg (Bool.eq_false_iff.mp hp)).trans h
theorem Ha{t:E}{b o:List S}{r:List S}{c:Bool}{x:Option (Fl×St)}(h1:(Ev P n).evT t σ=some (c,σ₁))(h2:(if c=true then Bt (exs (Ev P (n+1)) r) (exs (Ev P n) b σ₁) else Bt (exs (Ev P (n+1)) r) (exs (Ev P n) o σ₁))=x):exs (Ev P (n+1)) (.ite t b o :: r) σ=x:=by
 refine (congrArg (Bt _) (bnn h1 rfl)).trans ?_
 induction c using Bool.rec <;> exact h2
theorem T2{k:St→Option (Fl×St)}{x:Option (Fl×St)}(h:k σ=x):Bt k (exs (Ev P n) [] σ)=x:=h
theorem Zo{k:St→Option (Fl×St)}{e:E}{r:List S}{d:D}(h:(Ev P n).ev e σ=some (d,σ₁)):Bt k (exs (Ev P (n+1)) (.ret e :: r) σ)=some (.ret d,σ₁):=congrArg (Bt k) (L0 h)
theorem tx_c{k:St→Option (Fl×St)}{s:S}{r:List S}{x:Option (Fl×St)}(h:(Ev P n).ex s σ=some (.next,σ₁))(h1:Bt k (exs (Ev P n) r σ₁)=x):Bt k (exs (Ev P n) (s :: r) σ)=x:=(congrArg (Bt k) (Am h rfl)).trans h1
theorem Ac7{x:Nat}{i e:E}{d iv L L':D}{s:Slot}(h:(Ev P n).ev e σ=some (d,σ₁))(h0:σ₁.get x=some s)(h1:(Ev P n).ev i σ₁=some (iv,σ₂))(h2:σ₂.get x=some (.own,L))(h3:D0 L iv d=some L'):(Ev P (n+1)).ex (.put x i e) σ=some (.next,σ₂.put x (.own,L')):=by
 refine bnn h (mpn ?_)
 show I2 (Ev P n) x [i] [d] σ₁=_
 rw [Ad5,h0]
 exact bnn h1 (bnn (congrArg Ey h2) (bnn h3 rfl))
theorem Ww{x y:Nat}{e:E}{d:D}(h:(Ev P n).ev e σ=some (d,σ₁)):(Ev P (n+1)).ex (.asg2 x y e) σ=some (.next,(σ₁.put x (.sh,d)).put y (.sh,d)):=mpn h
theorem a_1{e:E}{c:Bool}(h:(Ev P n).evT e σ=some (c,σ₁)):G9 (Ev P n) [e] σ=some (c,σ₁):=by
 refine bnn h ?_;induction c using Bool.rec <;> rfl
theorem y_1{e:E}{c:Bool}(h:(Ev P n).evT e σ=some (c,σ₁)):Ly (Ev P n) [e] σ=some (c,σ₁):=by
 refine bnn h ?_;induction c using Bool.rec <;> rfl
theorem Ss{t:E}{b:List S}(h:(Ev P n).evT t σ=some (false,σ₁)):(Ev P (n+1)).ex (.whl t b) σ=some (.next,σ₁):=bnn h rfl
theorem Sr{t:E}{b:List S}{r:Option (Fl×St)}(h:(Ev P n).evT t σ=some (true,σ₁))(h1:exs (Ev P n) b σ₁=some (.next,σ₂))(h2:(Ev P n).ex (.whl t b) σ₂=r):(Ev P (n+1)).ex (.whl t b) σ=r:=bnn h ((congrArg (Bt _) h1).trans h2)
theorem f_c{tg:Tg}{b:List S}{d:D}{r:List D}{x:Option (Fl×St)}(h:Cy tg d σ=some σ₁)(h1:exs (Ev P n) b σ₁=some (.next,σ₂))(h2:Dl (Ev P n) tg b r σ₂=x):Dl (Ev P n) tg b (d :: r) σ=x:=bnn h ((congrArg (Bt _) h1).trans h2)
theorem tf_c{k:St→Option (Fl×St)}{tg:Tg}{b:List S}{d:D}{r:List D}{x:Option (Fl×St)}(h:Cy tg d σ=some σ₁)(h1:exs (Ev P n) b σ₁=some (.next,σ₂))(h2:Bt k (Dl (Ev P n) tg b r σ₂)=x):Bt k (Dl (Ev P n) tg b (d :: r) σ)=x:=(congrArg (Bt k) (f_c h h1 rfl)).trans h2
theorem tf_r{k:St→Option (Fl×St)}{tg:Tg}{b:List S}{d v:D}{r:List D}(h:Cy tg d σ=some σ₁)(h1:exs (Ev P n) b σ₁=some (.ret v,σ₂)):Bt k (Dl (Ev P n) tg b (d :: r) σ)=some (.ret v,σ₂):=by
 have e:Dl (Ev P n) tg b (d :: r) σ=some (.ret v,σ₂):=bnn h ((congrArg (Bt _) h1).trans rfl)
 rw [e];rfl
theorem o_bl{e:E}{a d:D}(h:(Ev P n).ev e σ=some (a,σ₁))(h1:biD .list [a]=some d):(Ev P (n+1)).evO (.bi .list [e]) σ=some (.own,d,σ₁):=bnn h (mpn h1)
theorem Ad1{tg:Tg}{it:E}{b r:List S}{l:List D}{x:Option (Fl×St)}(h:items (Ev P n) it σ=some (l,σ₁))(k:Bt (exs (Ev P (n+1)) r) (Dl (Ev P n) tg b l σ₁)=x):exs (Ev P (n+1)) (.for tg it b :: r) σ=x:=(congrArg (Bt _) (Wv h rfl)).trans k
theorem Ad2{s:S}{r:List S}{d:D}(h:(Ev P n).ex s σ=some (.ret d,σ₁)):exs (Ev P n) (s :: r) σ=some (.ret d,σ₁):=congrArg (Bt _) h
end
end Mine
end
section
set_option autoImplicit false
namespace Mine
section
variable {P:List (Nat×Ahc)} {n:Nat}
noncomputable def B6(f:Ahc)(ss:List Slot):St:=ss.map some++List.replicate (f.nv - f.np) none
theorem C4{a:Nat}{f:Ahc}{ss:List Slot}{d:D}{σ:St}(hf:P.lookup a=some f)(hl:ss.length=f.np)(h:exs (Ev P n) f.body (B6 f ss)=some (.ret d,σ))(hb:Q8 ss.getLast? (σ.get (f.np - 1))=true) :
  (Ev P (n+1)).call a ss=some (weak d,σ.get (f.np - 1)):=by
 delta B6 at h
 rw [Agd];delta Ml
 rw [hf,Option.bind_some,if_pos hl,h,Option.bind_some]
 exact if_pos hb
noncomputable def Bv(c d:Nat):Int:=if c=d then 0 else if Fy c=Fy d then 1 else 2
theorem c21(h21:P.lookup 21=some G1.Ah2){c d:Nat}(hc:c<128)(hd:d<128):(Ev P (n+6)).call 21 [(.sh,.str [c]),(.sh,.str [d])]=some (.int (Bv c d),some (.sh,.str [d])):=by
 have e:exs (Ev P (n+5)) G1.Aid (B6 G1.Ah2 [(.sh,.str [c]),(.sh,.str [d])])=some (.ret (.int (Bv c d)),[some (.sh,.str [c]),some (.sh,.str [d])]):=by
  delta G1.Aid B6 G1.Ah2
  have l1:Bw .lower (.str [c]) []=some (.str [Fy c]):=by simp [Bw,ascii,hc,line]
  have l2:Bw .lower (.str [d]) []=some (.str [Fy d]):=by simp [Bw,ascii,hd,line]
  by_cases h1:c=d
  ·subst h1
   rw [Bv,if_pos rfl]
   exact Ha (t_v (H9 (Af rfl) (Af rfl) rfl) rfl rfl) (Oa (beq_self_eq_true [c]) (Zo rfl))
  ·have n1:([c] == [d])=false:=beq_false_of_ne fun q=>h1 (List.cons.inj q).1
   rw [Bv,if_neg h1]
   by_cases h2:Fy c=Fy d
   ·rw [if_pos h2];rw [h2] at l1
    exact Ha (t_v (H9 (Af rfl) (Af rfl) rfl) rfl rfl) (X3 n1 (T2 (Ha (t_v (H9 (Hv (r_p rfl) rfl (G4 rfl) l1 rfl) (Hv (r_p rfl) rfl (G4 rfl) l2 rfl) rfl) rfl rfl) (Oa (beq_self_eq_true [Fy d]) (Zo rfl)))))
   ·have n2:([Fy c] == [Fy d])=false:=beq_false_of_ne fun q=>h2 (List.cons.inj q).1
    rw [if_neg h2]
    exact Ha (t_v (H9 (Af rfl) (Af rfl) rfl) rfl rfl) (X3 n1 (T2 (Ha (t_v (H9 (Hv (r_p rfl) rfl (G4 rfl) l1 rfl) (Hv (r_p rfl) rfl (G4 rfl) l2 rfl) rfl) rfl rfl) (X3 n2 (T2 (L0 rfl))))))
 exact C4 h21 rfl e rfl
end
end Mine
end
section
set_option autoImplicit false
namespace Mine
theorem B8{k:Nat}(h:k<2 ^ 60):sml (k:Int)=true:=by
 delta sml;rw [decide_eq_true_eq,Int.natAbs_natCast]
 exact Nat.lt_of_lt_of_le h (by decide)
theorem Dd{i:Int}(h:i.natAbs<2 ^ 60):sml i=true:=by
 delta sml;rw [decide_eq_true_eq];exact Nat.lt_of_lt_of_le h (by decide)
theorem E4{a:List Nat}{k:Nat}(h:k<2 ^ 60):Em (.str a) (.int k) .none false=some (.str (a.drop k)):=by
 simp only [Em,Aed,Xd,Uw,Option.bind_some,B8 h,if_true,cut,bnd]
 rw [if_pos (by exact Int.natCast_nonneg k),List.take_length,Int.toNat_natCast]
 congr 2
 rw [show k.min a.length=min k a.length from rfl]
 by_cases hk:k≤a.length
 ·rw [Nat.min_eq_left hk]
 ·rw [Nat.min_eq_right (by exact Nat.le_of_not_ge hk),List.drop_length,List.drop_eq_nil_of_le (by exact Nat.le_of_not_ge hk)]
theorem Ik{a:List Nat}{k:Nat}(h:k<2 ^ 60):Ar (.str a) (.int k)=(a[k]?).map fun c=>.str [c]:=by
 simp only [Ar,B8 h,if_true,nth]
 rw [if_pos (by exact Int.natCast_nonneg k),Int.toNat_natCast]
noncomputable def cpl:List Nat→List Nat→Nat
 |x :: a,y :: b=>if x=y then cpl a b+1 else 0
 |_,_=>0
theorem Yx{b:List Nat}:cpl [] b=0:=rfl
theorem Yy{x:Nat}{a:List Nat}:cpl (x :: a) []=0:=rfl
theorem P9{x y:Nat}{a b:List Nat}:cpl (x :: a) (y :: b)=if x=y then cpl a b+1 else 0:=rfl
theorem Kk:∀(a b:List Nat),cpl a b≤a.length
 |[],_=>by simp [Yx]
 |x :: a,[]=>by simp [Yy]
 |x :: a,y :: b=>by
  rw [P9];split
  ·have:=Kk a b;simp;assumption
  ·simp
theorem Ts:∀(a b:List Nat),cpl a b≤b.length
 |[],_=>by simp [Yx]
 |x :: a,[]=>by simp [Yy]
 |x :: a,y :: b=>by
  rw [P9];split
  ·have:=Ts a b;simp;assumption
  ·simp
theorem Lq:∀(a b:List Nat),a.take (cpl a b)=b.take (cpl a b)
 |[],_=>by simp [Yx]
 |x :: a,[]=>by simp [Yy]
 |x :: a,y :: b=>by
  rw [P9];split
  ·rename_i h;subst h;simp [Lq a b]
  ·simp
section
variable {P:List (Nat×Ahc)} {n:Nat}
noncomputable def t1:E:=.and [(.slc (.var 0) (some (.var 3)) none false),(.slc (.var 1) (some (.var 3)) none false),(.cmp .eq (.idx (.var 0) (.var 3)) (.idx (.var 1) (.var 3)))]
noncomputable def w1:S:=.whl t1 [.aug .add 3 (.lit (.int 1))]
noncomputable def σ1(a b:List Nat)(m:Int)(k:Int):St:=[some (.sh,.str a),some (.sh,.str b),some (.sh,.int m),some (.sh,.int k),none,none,none,none,none,none,none,none,none,none]
theorem Adv{x y:Nat}:C3 .eq (.str [x]) (.str [y])=some (decide (some x=some y)):=by
 show some ([x] == [y])=_
 by_cases h:x=y
 ·subst h;simp
 ·simp [h]
theorem Br{a:List Nat}{k:Nat}(h:(a.drop k).isEmpty=false):k<a.length:=
 Nat.lt_of_not_le fun q=>absurd (h.symm.trans (List.isEmpty_iff.mpr (List.drop_eq_nil_of_le q))) Bool.false_ne_true
theorem Hc{l:List Nat}{c:Bool}(h:l.isEmpty=c):G3 (.str l)=some (!c):=congrArg (fun b=>some (!b)) h
theorem Acy{a b:List Nat}{m:Int}{k:Nat}(hk:k<2 ^ 60):(Ev P (n+5)).evT t1 (σ1 a b m k)=some (!(a.drop k).isEmpty && (!(b.drop k).isEmpty && decide (a[k]? = b[k]?)),σ1 a b m k):=by
 delta t1
 have s0:=E4 (a:=a) hk
 have s1:=E4 (a:=b) hk
 have i0:=Ik (a:=a) hk
 have i1:=Ik (a:=b) hk
 have h0:(σ1 a b m k).get 0=some (.sh,.str a):=rfl
 have h1:(σ1 a b m k).get 1=some (.sh,.str b):=rfl
 have h3:(σ1 a b m k).get 3=some (.sh,.int k):=rfl
 generalize σ1 a b m k=σ at *
 cases da:(a.drop k).isEmpty with
 |true=>
  have u0:=Hc da
  exact Mr (a_g (t_v (Hg (r_p h0) (K2 (Af h3)) rfl (G4 h0) s0) u0 rfl) (i_n (i_t rfl)))
 |false=>
  have u0:=Hc da
  cases db:(b.drop k).isEmpty with
  |true=>
   have u1:=Hc db
   exact Mr (a_g (t_v (Hg (r_p h0) (K2 (Af h3)) rfl (G4 h0) s0) u0 rfl) (i_n (i_f (a_g (t_v (Hg (r_p h1) (K2 (Af h3)) rfl (G4 h1) s1) u1 rfl) (i_n (i_t rfl))))))
  |false=>
   have u1:=Hc db
   rw [List.getElem?_eq_getElem (Br da)] at i0 ⊢
   rw [List.getElem?_eq_getElem (Br db)] at i1 ⊢
   have cc:=Adv (x:=a[k]'(Br da)) (y:=b[k]'(Br db))
   rw [Option.map_some] at i0 i1
   exact Mr (a_g (t_v (Hg (r_p h0) (K2 (Af h3)) rfl (G4 h0) s0) u0 rfl) (i_n (i_f (a_g (t_v (Hg (r_p h1) (K2 (Af h3)) rfl (G4 h1) s1) u1 rfl) (i_n (i_f (a_1 (t_v (H9 (Cm h0 (Af h3) i0) (Cm h1 (Af h3) i1) cc) rfl rfl))))))))
theorem cpl_n{l:List Nat}:cpl l []=0:=by induction l using List.casesOn <;> rfl
theorem Adt{a b:List Nat}{k:Nat}(hc:cpl (a.drop k) (b.drop k)=0):(!(a.drop k).isEmpty && (!(b.drop k).isEmpty && decide (a[k]? = b[k]?)))=false:=by
 cases da:(a.drop k).isEmpty with
 |true=>rfl
 |false=>
  cases db:(b.drop k).isEmpty with
  |true=>rfl
  |false=>
   rw [List.drop_eq_getElem_cons (Br da),List.drop_eq_getElem_cons (Br db),P9] at hc
   rw [List.getElem?_eq_getElem (Br da),List.getElem?_eq_getElem (Br db)]
   exact decide_eq_false fun e=>Nat.succ_ne_zero _ ((if_pos (Option.some.inj e)).symm.trans hc)
theorem Ads{a b:List Nat}{k c:Nat}(hc:cpl (a.drop k) (b.drop k)=c+1):(!(a.drop k).isEmpty && (!(b.drop k).isEmpty && decide (a[k]? = b[k]?)))=true∧cpl (a.drop (k+1)) (b.drop (k+1))=c:=by
 cases da:(a.drop k).isEmpty with
 |true=>rw [List.isEmpty_iff.mp da] at hc;exact absurd hc.symm (Nat.succ_ne_zero _)
 |false=>
  cases db:(b.drop k).isEmpty with
  |true=>rw [List.isEmpty_iff.mp db,cpl_n] at hc;exact absurd hc.symm (Nat.succ_ne_zero _)
  |false=>
   rw [List.drop_eq_getElem_cons (Br da),List.drop_eq_getElem_cons (Br db),P9] at hc
   rw [List.getElem?_eq_getElem (Br da),List.getElem?_eq_getElem (Br db)]
   by_cases e:a[k]'(Br da)=b[k]'(Br db)
   ·exact ⟨decide_eq_true (congrArg some e),Nat.succ.inj ((if_pos e).symm.trans hc)⟩
   ·exact absurd ((if_neg e).symm.trans hc).symm (Nat.succ_ne_zero _)
theorem w1_ok{a b:List Nat}{m:Int}(c:Nat):∀(k:Nat),k+c<2 ^ 59→cpl (a.drop k) (b.drop k)=c→(Ev P (n+6+c)).ex w1 (σ1 a b m k)=some (.next,σ1 a b m (k+c:Nat)):=by
 induction c with
 |zero=>
  intro k hk hc
  have t:=Acy (P:=P) (n:=n) (a:=a) (b:=b) (m:=m) (k:=k) (Nat.lt_trans hk (by decide))
  rw [Adt hc] at t
  exact Ss t
 |succ c ih=>
  intro k hk hc
  obtain ⟨hf,hc'⟩:=Ads hc
  have t:=Acy (P:=P) (n:=n+c+1) (a:=a) (b:=b) (m:=m) (k:=k) (by lia)
  rw [hf] at t
  have e:=ih (k+1) (by lia) hc'
  rw [show n+6+c=n+c+1+5 by exact Nat.add_right_comm n 6 c] at e
  rw [show n+6+(c+1)=(n+c+1)+5+1 by exact Nat.add_right_comm n 6 (c+1),show k+(c+1)=k+1+c from (Nat.succ_add k c).symm]
  exact Sr t (Am (Ada rfl Bf rfl) rfl) e
end
end Mine
end
section
set_option autoImplicit false
namespace Mine
theorem V5{a:List Nat}{q:Nat}(h:q<2 ^ 60)(h0:0<q):Em (.str a) .none (.int (-(q:Int))) false=some (.str (a.take (a.length - q))):=by
 simp only [Em,Aed,Xd,Uw,Option.bind_some,Dd (show (-(q:Int)).natAbs<2 ^ 60 by rw [Int.natAbs_neg];exact h),if_true,cut,bnd]
 rw [if_neg (Int.not_le.mpr (Int.neg_neg_of_pos (Int.natCast_pos.mpr h0))),Ad6,List.drop_zero]
theorem Z3{a:List Nat}:Em (.str a) .none .none false=some (.str a):=by
 simp [Em,Aed,Xd,Option.bind_some,cut,bnd]
theorem Tb{a:List Nat}{q:Nat}(h:q<2 ^ 59)(h1:q<a.length):Ar (.str a) (.int (-(q:Int) - 1))=(a.reverse[q]?).map fun c=>.str [c]:=by
 simp only [Ar,Dd (show (-(q:Int) - 1).natAbs<2 ^ 60 from Ae3 (Nat.lt_of_le_of_lt h (by decide))),if_true,nth]
 rw [if_neg (by lia),if_pos (by lia),List.getElem?_reverse h1]
 congr 2
 exact Afj h1
section
variable {P:List (Nat×Ahc)} {n:Nat}
noncomputable def pe:E:=.orv (.var 4) (.lit .none)
noncomputable def t2:E:=.and [(.slc (.var 0) none (some pe) false),(.slc (.var 1) none (some pe) false),(.cmp .eq (.idx (.var 0) (.bin .sub (.var 4) (.lit (.int 1)))) (.idx (.var 1) (.bin .sub (.var 4) (.lit (.int 1)))))]
noncomputable def w2:S:=.whl t2 [.aug .sub 4 (.lit (.int 1))]
noncomputable def σ2(a b:List Nat)(m p q:Int):St:=[some (.sh,.str a),some (.sh,.str b),some (.sh,.int m),some (.sh,.int p),some (.sh,.int q),none,none,none,none,none,none,none,none,none]
theorem sl2{x:Nat}{a b c:List Nat}{m p:Int}{q:Nat}(hq:q<2 ^ 59)(hx:(σ2 a b m p (-(q:Int))).get x=some (.sh,.str c)) :
  (Ev P (n+3)).ev (.slc (.var x) none (some pe) false) (σ2 a b m p (-(q:Int)))=some (.str (c.take (c.length - q)),σ2 a b m p (-(q:Int))):=by
 have h4:(σ2 a b m p (-(q:Int))).get 4=some (.sh,.int (-(q:Int))):=rfl
 generalize σ2 a b m p (-(q:Int))=σ at *
 delta pe
 by_cases h0:q=0
 ·subst h0
  have e:=Z3 (a:=c)
  rw [Nat.sub_zero,List.take_length]
  exact Hg (r_p hx) rfl (K2 (Ac8 (Af h4) rfl (Mc (of_decide_eq_true (id rfl)) Bf))) (G4 hx) e
 ·have e:=V5 (a:=c) (show q<2 ^ 60 from Nat.lt_trans hq (by decide)) (Nat.pos_of_ne_zero h0)
  have hp : -(q:Int)≠0:=fun h=>h0 (Int.ofNat.inj (Int.neg_eq_zero.mp h))
  exact Hg (r_p hx) rfl (K2 (Ac8 (Af h4) rfl (N9 hp rfl))) (G4 hx) e
theorem Acx{a b:List Nat}{m p:Int}{q:Nat}(hq:q<2 ^ 59):(Ev P (n+6)).evT t2 (σ2 a b m p (-(q:Int)))=some (!(a.reverse.drop q).isEmpty && (!(b.reverse.drop q).isEmpty && decide (a.reverse[q]? = b.reverse[q]?)),σ2 a b m p (-(q:Int))):=by
 delta t2
 have hA:(Ev P (n+4)).ev (.slc (.var 0) none (some pe) false) (σ2 a b m p (-(q:Int)))=_:=sl2 (P:=P) (n:=n+1) (x:=0) (a:=a) (b:=b) (c:=a) (m:=m) (p:=p) hq rfl
 have hB:(Ev P (n+4)).ev (.slc (.var 1) none (some pe) false) (σ2 a b m p (-(q:Int)))=_:=sl2 (P:=P) (n:=n+1) (x:=1) (a:=a) (b:=b) (c:=b) (m:=m) (p:=p) hq rfl
 have er:∀l:List Nat,(l.take (l.length - q)).isEmpty=(l.reverse.drop q).isEmpty:=fun l=>by
  rw [List.drop_reverse,List.isEmpty_reverse]
 have h0:(σ2 a b m p (-(q:Int))).get 0=some (.sh,.str a):=rfl
 have h1:(σ2 a b m p (-(q:Int))).get 1=some (.sh,.str b):=rfl
 have h4:(σ2 a b m p (-(q:Int))).get 4=some (.sh,.int (-(q:Int))):=rfl
 generalize σ2 a b m p (-(q:Int))=σ at *
 have rl:∀l:List Nat,(l.reverse.drop q).isEmpty=false→q<l.length:=fun l h=>List.length_reverse ▸ Br h
 cases da:(a.reverse.drop q).isEmpty with
 |true=>
  have u0:=Hc ((er a).trans da)
  exact Mr (a_g (t_v hA u0 rfl) (i_n (i_t rfl)))
 |false=>
  have u0:=Hc ((er a).trans da)
  have i0:=Tb hq (rl a da)
  cases db:(b.reverse.drop q).isEmpty with
  |true=>
   have u1:=Hc ((er b).trans db)
   exact Mr (a_g (t_v hA u0 rfl) (i_n (i_f (a_g (t_v hB u1 rfl) (i_n (i_t rfl))))))
  |false=>
   have u1:=Hc ((er b).trans db)
   have i1:=Tb hq (rl b db)
   rw [List.getElem?_eq_getElem (Br da)] at i0 ⊢
   rw [List.getElem?_eq_getElem (Br db)] at i1 ⊢
   have cc:=Adv (x:=a.reverse[q]'(Br da)) (y:=b.reverse[q]'(Br db))
   rw [Option.map_some] at i0 i1
   exact Mr (a_g (t_v hA u0 rfl) (i_n (i_f (a_g (t_v hB u1 rfl) (i_n (i_f (a_1 (t_v (H9 (Cm h0 (B0 (Af h4) Bf rfl) i0) (Cm h1 (B0 (Af h4) Bf rfl) i1) cc) rfl rfl))))))))
theorem w2_ok{a b:List Nat}{m p:Int}(c:Nat):∀(q:Nat),q+c<2 ^ 58→cpl (a.reverse.drop q) (b.reverse.drop q)=c→(Ev P (n+7+c)).ex w2 (σ2 a b m p (-(q:Int)))=some (.next,σ2 a b m p (-((q+c:Nat):Int))):=by
 induction c with
 |zero=>
  intro q hk hc
  have t:=Acx (P:=P) (n:=n) (a:=a) (b:=b) (m:=m) (p:=p) (q:=q) (Nat.lt_trans hk (by decide))
  rw [Adt hc] at t
  exact Ss t
 |succ c ih=>
  intro q hk hc
  obtain ⟨hf,hc'⟩:=Ads hc
  have t:=Acx (P:=P) (n:=n+c+1) (a:=a) (b:=b) (m:=m) (p:=p) (q:=q) (by lia)
  rw [hf] at t
  have e:=ih (q+1) (by lia) hc'
  rw [show n+7+c=n+c+1+6 by exact Nat.add_right_comm n 7 c,show -((q+1:Nat):Int) = -(q:Int) - 1 by lia] at e
  rw [show n+7+(c+1)=(n+c+1)+6+1 by exact Nat.add_right_comm n 7 (c+1),show q+(c+1)=q+1+c from (Nat.succ_add q c).symm]
  exact Sr t (Am (Ada rfl Bf rfl) rfl) e
end
end Mine
end
section
set_option autoImplicit false
namespace Mine
noncomputable def rs(c:Nat):Int→Int→Int→List Nat→List Int→List Int×Int×Int×Int
 |d,r,mn,x :: a,w :: row=>
  let r':=mn2 (mn2 r w+2) (d+Bv c x)
  let t:=rs c w r' (if r'<mn then r' else mn) a row
  (r' :: t.1,t.2.1,t.2.2.1,t.2.2.2)
 |d,r,mn,_,_=>([],r,d,mn)
theorem rs_n{c:Nat}{d r mn:Int}{row:List Int}:rs c d r mn [] row=([],r,d,mn):=rfl
theorem Aeo{c x:Nat}{a:List Nat}{d r mn w:Int}{row:List Int}:rs c d r mn (x :: a) (w :: row)=(fun r'=>(fun t:List Int×Int×Int×Int=>(r' :: t.1,t.2.1,t.2.2.1,t.2.2.2)) (rs c w r' (if r'<mn then r' else mn) a row)) (mn2 (mn2 r w+2) (d+Bv c x)):=rfl
theorem Wo(c:Nat):∀(a:List Nat) (row:List Int) (d r mn:Int),row.length=a.length→(rs c d r mn a row).1.length=a.length
 |[],_,_,_,_,_=>rfl
 |x :: a,w :: row,d,r,mn,h=>by simp [Aeo,Wo c a row _ _ _ (by simpa using h)]
 |x :: a,[],_,_,_,h=>by cases h
theorem E9{xs:List Int}{k:Nat}(h:k<2 ^ 60):Ar (.list (xs.map .int)) (.int k)=(xs[k]?).map .int:=by
 simp only [Ar,B8 h,if_true,nth]
 rw [if_pos (by exact Int.natCast_nonneg k),Int.toNat_natCast,List.getElem?_map]
theorem V8{xs:List Int}{k:Nat}{v:Int}(h:k<2 ^ 60)(h1:k<xs.length):D0 (.list (xs.map .int)) (.int k) (.int v)=some (.list ((xs.set k v).map .int)):=by
 simp only [set_l,B8 h]
 rw [if_pos (by simp;assumption),Int.toNat_natCast,List.map_set]
section
variable {P:List (Nat×Ahc)} {n:Nat}
noncomputable def b11:List S:=[.asg 12 (.bin .add (.var 9) (.call (.glob (.fn 21)) [(.var 8),(.idx (.var 0) (.var 11))] false)),.asg 9 (.idx (.var 5) (.var 11)),.asg 13 (.bin .add (.bi .min [(.var 6),(.var 9)]) (.glob (.int 2))),.asg 6 (.bi .min [(.var 13),(.var 12)]),.put 5 (.var 11) (.var 6),.ite (.cmp .lt (.var 6) (.var 10)) [.asg 10 (.var 6)] []]
noncomputable def σ3(a b:List Nat)(m p q:Int)(xs:List Int)(r j:Int)(c:Nat)(d mn:Int)(x11 x12 x13:Option Slot):St:=
 [some (.sh,.str a),some (.sh,.str b),some (.sh,.int m),some (.sh,.int p),some (.sh,.int q),some (.own,.list (xs.map .int)),some (.sh,.int r),some (.sh,.int j),some (.sh,.str [c]),some (.sh,.int d),some (.sh,.int mn),x11,x12,x13]
theorem Agr(h21:P.lookup 21=some G1.Ah2){a b:List Nat}{m p q:Int}{xs:List Int}{r j:Int}{c:Nat}{d mn:Int}{x12 x13:Option Slot}{k x:Nat}{w:Int}(hk:k<2 ^ 60)(hc:c<128)(hx:x<128)(ha:a[k]? = some x)(hw:xs[k]? = some w) :
  exs (Ev P (n+10)) b11 (σ3 a b m p q xs r j c d mn (some (.sh,.int (k:Nat))) x12 x13) =
   some (.next,σ3 a b m p q (xs.set k (mn2 (mn2 r w+2) (d+Bv c x))) (mn2 (mn2 r w+2) (d+Bv c x)) j c w (if mn2 (mn2 r w+2) (d+Bv c x)<mn then mn2 (mn2 r w+2) (d+Bv c x) else mn) (some (.sh,.int (k:Nat))) (some (.sh,.int (d+Bv c x))) (some (.sh,.int (mn2 r w+2)))):=by
 have hl:k<xs.length:=(List.getElem?_eq_some_iff.mp hw).1
 have c1:=c21 (P:=P) (n:=n) h21 hc hx
 have i0:Ar (.str a) (.int k)=some (.str [x]):=by rw [Ik hk,ha];rfl
 have i5:Ar (.list (xs.map .int)) (.int k)=some (.int w):=by rw [E9 hk,hw];rfl
 have s5:=V8 (v:=mn2 (mn2 r w+2) (d+Bv c x)) hk hl
 have m1:biD .min [.int r,.int w]=some (.int (mn2 r w)):=rfl
 have m2:biD .min [.int (mn2 r w+2),.int (d+Bv c x)]=some (.int (mn2 (mn2 r w+2) (d+Bv c x))):=rfl
 delta b11 σ3
 by_cases e:mn2 (mn2 r w+2) (d+Bv c x)<mn
 ·rw [if_pos e]
  exact Am (Do (o_v (B0 (Af rfl) (Fg (r_ac (Af rfl) (Nx (Cm rfl (Af rfl) i0))) c1) rfl) rfl)) (Am (Do (o_v (Cm rfl (Af rfl) i5) rfl)) (Am (Do (o_v (B0 (K0 (Ec (Af rfl) (Ec (Af rfl) rfl)) m1 (fun a=>nomatch a) fun a=>nomatch a) Cn rfl) rfl)) (Am (Do (o_v (K0 (Ec (Af rfl) (Ec (Af rfl) rfl)) m2 (fun a=>nomatch a) fun a=>nomatch a) rfl)) (Am (Ac7 (Af rfl) rfl (Af rfl) rfl s5) (Ha (t_v (Pc (Af rfl) (Af rfl) rfl) rfl rfl) (N9 e (tx_c (Do (o_v (Af rfl) rfl)) (T2 rfl))))))))
 ·rw [if_neg e]
  exact Am (Do (o_v (B0 (Af rfl) (Fg (r_ac (Af rfl) (Nx (Cm rfl (Af rfl) i0))) c1) rfl) rfl)) (Am (Do (o_v (Cm rfl (Af rfl) i5) rfl)) (Am (Do (o_v (B0 (K0 (Ec (Af rfl) (Ec (Af rfl) rfl)) m1 (fun a=>nomatch a) fun a=>nomatch a) Cn rfl) rfl)) (Am (Do (o_v (K0 (Ec (Af rfl) (Ec (Af rfl) rfl)) m2 (fun a=>nomatch a) fun a=>nomatch a) rfl)) (Am (Ac7 (Af rfl) rfl (Af rfl) rfl s5) (Ha (t_v (Pc (Af rfl) (Af rfl) rfl) rfl rfl) (Mc e (T2 rfl)))))))
theorem Ob{α:Type}(l:List α)(x:α)(r:List α):(l++x :: r)[l.length]? = some x:=by simp
theorem in_ok(h21:P.lookup 21=some G1.Ah2){a b:List Nat}{m p q:Int}{j:Int}{c:Nat}(hc:c<128)(ha:∀x∈a,x<128)(hl:a.length<2 ^ 60)(rest:List Nat):∀(pre:List Nat) (done todo:List Int) (r d mn:Int) (x11 x12 x13:Option Slot),a=pre++rest→done.length=pre.length→todo.length=rest.length→
  Ex3 fun y11 y12 y13=>Dl (Ev P (n+10)) (.v 11) b11 ((List.range' pre.length rest.length).map fun k:Nat=>D.int k) (σ3 a b m p q (done++todo) r j c d mn x11 x12 x13) =
   some (.next,σ3 a b m p q (done++(rs c d r mn rest todo).1) (rs c d r mn rest todo).2.1 j c (rs c d r mn rest todo).2.2.1 (rs c d r mn rest todo).2.2.2 y11 y12 y13):=by
 induction rest with
 |nil=>
  intro pre done todo r d mn x11 x12 x13 h1 h2 h3
  obtain rfl:=List.length_eq_zero_iff.mp h3
  exact ⟨x11,x12,x13,rfl⟩
 |cons x rest ih=>
  intro pre done todo r d mn x11 x12 x13 h1 h2 h3
  induction todo using List.casesOn with
  |nil=>exact absurd h3.symm (Nat.succ_ne_zero _)
  |cons w todo=>
   have hk:pre.length<a.length:=by rw [h1,List.length_append,List.length_cons];exact Nat.lt_add_of_pos_right (Nat.succ_pos _)
   have e1:a[pre.length]? = some x:=by rw [h1];exact Ob ..
   have e2:(done++w :: todo)[pre.length]? = some w:=by rw [← h2];exact Ob ..
   have step:=Agr (n:=n) h21 (a:=a) (b:=b) (m:=m) (p:=p) (q:=q) (xs:=done++w :: todo) (r:=r) (j:=j) (c:=c) (d:=d) (mn:=mn) (x12:=x12) (x13:=x13) (Nat.lt_trans hk hl) hc (ha x (List.mem_of_getElem? e1)) e1 e2
   rw [show (done++w :: todo).set pre.length (mn2 (mn2 r w+2) (d+Bv c x))=done++mn2 (mn2 r w+2) (d+Bv c x) :: todo by rw [← h2];simp] at step
   obtain ⟨y11,y12,y13,e⟩:=ih (pre++[x]) (done++[mn2 (mn2 r w+2) (d+Bv c x)]) todo (mn2 (mn2 r w+2) (d+Bv c x)) w (if mn2 (mn2 r w+2) (d+Bv c x)<mn then mn2 (mn2 r w+2) (d+Bv c x) else mn)
    (some (.sh,.int (pre.length:Nat))) (some (.sh,.int (d+Bv c x))) (some (.sh,.int (mn2 r w+2))) (h1.trans (List.append_cons ..)) (by rw [List.length_append,List.length_append,h2];rfl) (Nat.succ.inj h3)
   rw [List.length_append,← List.append_cons,← List.append_cons] at e
   exact ⟨y11,y12,y13,f_c rfl step e⟩
end
end Mine
end
section
set_option autoImplicit false
namespace Mine
noncomputable def big:Int:=9223372036854775807
noncomputable def Pq(m:Int)(a:List Nat):List Nat→Nat→List Int→Int→Int
 |[],_,_,res=>res
 |c :: b,j,row,res=>
  let t:=rs c (j * 2) (j * 2) big a row
  if m<t.2.2.2 then m+1 else Pq m a b (j+1) t.1 t.2.1
theorem lv_c{m:Int}{a b:List Nat}{c j:Nat}{row:List Int}{res:Int}:Pq m a (c :: b) j row res=if m<(rs c (j * 2) (j * 2) big a row).2.2.2 then m+1 else Pq m a b (j+1) (rs c (j * 2) (j * 2) big a row).1 (rs c (j * 2) (j * 2) big a row).2.1:=rfl
noncomputable def Ma(k:Nat):List Int:=(List.range k).map fun i:Nat=>2+(i:Int) * 2
noncomputable def lv3(m:Int)(a b:List Nat):Int:=if m<((b.length:Int) - a.length) * 2 then m+1 else Pq m a b 0 (Ma a.length) 0
noncomputable def lv2(m:Int)(a b:List Nat):Int:=
 if a=[]∨b=[] then 2 * ((a.length:Int)+b.length) else
 if 40<a.length∨40<b.length then m+1 else
 if b.length<a.length then lv3 m b a else lv3 m a b
noncomputable def tl(l:List Nat)(q:Nat):List Nat:=l.take (l.length - q)
noncomputable def lv(a b:List Nat)(m:Int):Int:=
 if a=b then 0 else
 lv2 m (tl (a.drop (cpl a b)) (cpl (a.drop (cpl a b)).reverse (b.drop (cpl a b)).reverse)) (tl (b.drop (cpl a b)) (cpl (a.drop (cpl a b)).reverse (b.drop (cpl a b)).reverse))
theorem Ul(k:Nat):Bx 0 (k:Int) 1=(List.range k).map fun i:Nat=>(i:Int):=by
 delta Bx rsz
 rw [if_pos (by decide)]
 by_cases h:k=0
 ·subst h;rfl
 ·rw [if_pos (Int.natCast_pos.mpr (Nat.pos_of_ne_zero h)),show (((k:Int) - 0 - 1) / 1+1).toNat=k by rw [Int.ediv_one,Int.sub_zero,Int.sub_add_cancel];rfl]
  congr 1
  funext i;rw [Int.mul_one,Int.zero_add]
theorem Cs{k:Nat}(h:k<2 ^ 39):Fn (.rng 0 (k:Int) 1)=some ((List.range' 0 k).map fun i:Nat=>D.int i):=by
 simp only [Xs]
 rw [if_pos (by rw [show E3 (k:Int)=true from decide_eq_true (show k<2 ^ 40 from Nat.lt_trans h (by decide))];rfl),Ul,List.map_map,List.range_eq_range']
 rfl
theorem Qz{k:Nat}(h0:0<k):Bx 2 (2 * ((k:Int)+1)) 2=Ma k:=by
 delta Bx rsz Ma
 rw [if_pos (by decide),if_pos (by lia),row1 h0]
section
variable {P:List (Nat×Ahc)} {n:Nat}
noncomputable def bo:List S:=[.asg 8 (.idx (.var 1) (.var 7)),.asg2 9 6 (.bin .mul (.var 7) (.glob (.int 2))),.asg 10 (.lit (.int 9223372036854775807)),.for (.v 11) (.bi .range [(.bi .len [(.var 0)])]) b11,.ite (.cmp .gt (.var 10) (.var 2)) [.ret (.bin .add (.var 2) (.lit (.int 1)))] []]
noncomputable def σ4(a b:List Nat)(m p q:Int)(xs:List Int)(r:Int)(x7 x8 x9 x10 x11 x12 x13:Option Slot):St:=
 [some (.sh,.str a),some (.sh,.str b),some (.sh,.int m),some (.sh,.int p),some (.sh,.int q),some (.own,.list (xs.map .int)),some (.sh,.int r),x7,x8,x9,x10,x11,x12,x13]
theorem bo_ok(h21:P.lookup 21=some G1.Ah2){a b:List Nat}{m p q:Int}{xs:List Int}{r:Int}{j c:Nat}{x8 x9 x10 x11 x12 x13:Option Slot}(hj:j<2 ^ 39)(hb:b[j]? = some c)(hc:c<128)(ha:∀x∈a,x<128)(hl:a.length<2 ^ 39)(hx:xs.length=a.length) :
  Ex6 fun y8 y9 y10 y11 y12 y13=>exs (Ev P (n+11)) bo (σ4 a b m p q xs r (some (.sh,.int j)) x8 x9 x10 x11 x12 x13) =
   if m<(rs c (j * 2) (j * 2) big a xs).2.2.2 then some (.ret (.int (m+1)),σ4 a b m p q (rs c (j * 2) (j * 2) big a xs).1 (rs c (j * 2) (j * 2) big a xs).2.1 (some (.sh,.int j)) y8 y9 y10 y11 y12 y13)
   else some (.next,σ4 a b m p q (rs c (j * 2) (j * 2) big a xs).1 (rs c (j * 2) (j * 2) big a xs).2.1 (some (.sh,.int j)) y8 y9 y10 y11 y12 y13):=by
 obtain ⟨y11,y12,y13,e⟩:=in_ok (n:=n) h21 (a:=a) (b:=b) (m:=m) (p:=p) (q:=q) (j:=j) hc ha (Nat.lt_of_lt_of_le hl (by decide)) a [] [] xs (j * 2) (j * 2) big x11 x12 x13 rfl rfl hx
 simp only [List.length_nil,List.nil_append] at e
 generalize rs c (j * 2) (j * 2) big a xs=t at e ⊢
 obtain ⟨row,r',d',mn'⟩:=t
 dsimp only at e ⊢
 refine ⟨some (.sh,.str [c]),some (.sh,.int d'),some (.sh,.int mn'),y11,y12,y13,?_⟩
 have hj':j<2 ^ 60:=Nat.lt_of_lt_of_le hj (by decide)
 have hl':a.length<2 ^ 60:=Nat.lt_of_lt_of_le hl (by decide)
 have e':Dl (Ev P (n+10)) (.v 11) b11 ((List.range' 0 a.length).map fun i:Nat=>D.int i) [some (.sh,.str a),some (.sh,.str b),some (.sh,.int m),some (.sh,.int p),some (.sh,.int q),some (.own,.list (xs.map .int)),some (.sh,.int (j * 2)),some (.sh,.int j),some (.sh,.str [c]),some (.sh,.int (j * 2)),some (.sh,.int 9223372036854775807),x11,x12,x13]=_:=e
 have i1:Ar (.str b) (.int j)=some (.str [c]):=by rw [Ik hj',hb];rfl
 have it:=Cs hl
 delta bo σ4
 have hr:biD .range [.int (a.length:Int)]=some (.rng 0 a.length 1):=by simp [biD,B8 hl']
 have hm:A3 .mul (.int (j:Int)) (.int 2)=some (.int (j * 2)):=J2 (B8 hj') rfl
 by_cases h:m<mn'
 ·rw [if_pos h]
  exact Am (Do (o_v (Cm rfl (Af rfl) i1) rfl)) (Am (Ww (B0 (Af rfl) Cn hm)) (Am (Do (o_v Bf rfl)) (Am (Wv (Afe (K0 (Ec (C8 (r_p rfl) rfl) rfl) hr (fun a=>nomatch a) fun a=>nomatch a) it rfl) e') (Ha (t_v (Kz (Af rfl) (Af rfl) rfl) rfl rfl) (N9 h (Zo (B0 (Af rfl) rfl rfl)))))))
 ·rw [if_neg h]
  exact Am (Do (o_v (Cm rfl (Af rfl) i1) rfl)) (Am (Ww (B0 (Af rfl) Cn hm)) (Am (Do (o_v Bf rfl)) (Am (Wv (Afe (K0 (Ec (C8 (r_p rfl) rfl) rfl) hr (fun a=>nomatch a) fun a=>nomatch a) it rfl) e') (Ha (t_v (Kz (Af rfl) (Af rfl) rfl) rfl rfl) (Mc h (T2 rfl))))))
theorem Aex(h21:P.lookup 21=some G1.Ah2){a b:List Nat}{m p q:Int}(ha:∀x∈a,x<128)(hb:∀x∈b,x<128)(hl:a.length<2 ^ 39)(hlb:b.length<2 ^ 39)(rest:List Nat):∀(pre:List Nat) (xs:List Int) (r:Int) (x7 x8 x9 x10 x11 x12 x13:Option Slot),b=pre++rest→xs.length=a.length→
  ∃σ',Bt (exs (Ev P (n+12)) [.ret (.var 6)]) (Dl (Ev P (n+11)) (.v 7) bo ((List.range' pre.length rest.length).map fun k:Nat=>D.int k) (σ4 a b m p q xs r x7 x8 x9 x10 x11 x12 x13))=some (.ret (.int (Pq m a rest pre.length xs r)),σ')∧σ'.get 2=some (.sh,.int m):=by
 induction rest with
 |nil=>
  intro pre xs r x7 x8 x9 x10 x11 x12 x13 h1 h2
  exact ⟨σ4 a b m p q xs r x7 x8 x9 x10 x11 x12 x13,rfl,rfl⟩
 |cons c rest ih=>
  intro pre xs r x7 x8 x9 x10 x11 x12 x13 h1 h2
  have hk:pre.length<b.length:=by rw [h1,List.length_append,List.length_cons];exact Nat.lt_add_of_pos_right (Nat.succ_pos _)
  have e1:b[pre.length]? = some c:=by rw [h1];exact Ob ..
  obtain ⟨y8,y9,y10,y11,y12,y13,st⟩:=bo_ok (n:=n) h21 (a:=a) (b:=b) (m:=m) (p:=p) (q:=q) (xs:=xs) (r:=r) (j:=pre.length) (c:=c) (x8:=x8) (x9:=x9) (x10:=x10) (x11:=x11) (x12:=x12) (x13:=x13) (Nat.lt_trans hk hlb) e1 (hb c (List.mem_of_getElem? e1)) ha hl h2
  rw [lv_c]
  by_cases h:m<(rs c (pre.length * 2) (pre.length * 2) big a xs).2.2.2
  ·rw [if_pos h] at st ⊢
   exact ⟨_,tf_r rfl st,rfl⟩
  ·rw [if_neg h] at st ⊢
   obtain ⟨σ',e,g⟩:=ih (pre++[c]) (rs c (pre.length * 2) (pre.length * 2) big a xs).1 (rs c (pre.length * 2) (pre.length * 2) big a xs).2.1 (some (.sh,.int (pre.length:Nat))) y8 y9 y10 y11 y12 y13 (h1.trans (List.append_cons ..)) (Wo c a xs _ _ _ h2)
   rw [List.length_append] at e
   exact ⟨σ',tf_c rfl st e,g⟩
end
end Mine
end
section
set_option autoImplicit false
namespace Mine
section
variable {P:List (Nat×Ahc)} {n:Nat}
noncomputable def σ0(a b:List Nat)(m:Int)(x3 x4:Option Slot):St:=[some (.sh,.str a),some (.sh,.str b),some (.sh,.int m),x3,x4,none,none,none,none,none,none,none,none,none]
noncomputable def Sk:List S:=[.asg 5 (.bi .list [(.bi .range [(.glob (.int 2)),(.bin .mul (.glob (.int 2)) (.bin .add (.bi .len [(.var 0)]) (.lit (.int 1)))),(.glob (.int 2))])]),.asg 6 (.lit (.int 0)),.for (.v 7) (.bi .range [(.bi .len [(.var 1)])]) bo,.ret (.var 6)]
theorem Vv(h21:P.lookup 21=some G1.Ah2){a b:List Nat}{m:Int}{p q:Int}(ha:∀x∈a,x<128)(hb:∀x∈b,x<128)(hla:a.length≤40)(hlb:b.length≤40)(h0:0<a.length) :
  ∃σ',exs (Ev P (n+12)) Sk (σ2 a b m p q)=some (.ret (.int (Pq m a b 0 (Ma a.length) 0)),σ')∧σ'.get 2=some (.sh,.int m):=by
 obtain ⟨σ',e,g⟩:=Aex (n:=n) h21 (a:=a) (b:=b) (m:=m) (p:=p) (q:=q) ha hb (Nat.lt_of_le_of_lt (by assumption) (by decide)) (Nat.lt_of_le_of_lt (by assumption) (by decide)) b [] (Ma a.length) 0 none none none none none none none rfl (by simp [Ma])
 refine ⟨σ',?_,g⟩
 have hm:A3 .mul (.int 2) (.int ((a.length:Int)+1))=some (.int (2 * ((a.length:Int)+1))):=J2 rfl (Dd (show a.length+1<2 ^ 60 from Nat.lt_of_le_of_lt (Nat.succ_le_succ hla) (by decide)))
 have hr:biD .range [.int 2,.int (2 * ((a.length:Int)+1)),.int 2]=some (.rng 2 (2 * ((a.length:Int)+1)) 2):=by
  simp only [biD,Ky];rw [if_pos (by simp [Dd (show (2 * ((a.length:Int)+1)).natAbs<2 ^ 60 from (show 2 * (a.length+1)<2 ^ 60 from Nat.lt_of_le_of_lt (Nat.mul_le_mul_left 2 (Nat.succ_le_succ hla)) (by decide)))];rfl)]
 have hL:biD .list [.rng 2 (2 * ((a.length:Int)+1)) 2]=some (.list ((Ma a.length).map .int)):=by
  simp only [biD,Gk]
  rw [Qz h0,if_pos]
  refine ⟨by rw [show E3 (2 * ((a.length:Int)+1))=true from decide_eq_true (show 2 * (a.length+1)<2 ^ 40 from Nat.lt_of_le_of_lt (Nat.mul_le_mul_left 2 (Nat.succ_le_succ hla)) (by decide))];rfl,?_⟩
  simp [Ma,line];lia
 have hb1:biD .range [.int (b.length:Int)]=some (.rng 0 b.length 1):=by simp [biD,B8 (show b.length<2 ^ 60 by lia)]
 have s0:(Ev P (n+12)).ex (.asg 5 (.bi .list [(.bi .range [(.glob (.int 2)),(.bin .mul (.glob (.int 2)) (.bin .add (.bi .len [(.var 0)]) (.lit (.int 1)))),(.glob (.int 2))])])) (σ2 a b m p q) =
   some (.next,[some (.sh,.str a),some (.sh,.str b),some (.sh,.int m),some (.sh,.int p),some (.sh,.int q),some (.own,.list ((Ma a.length).map .int)),none,none,none,none,none,none,none,none]):=by
  exact I8 (o_bl (K0 (Ec Cn (Ec (B0 Cn (B0 (C8 (r_p rfl) rfl) Bf rfl) hm) (Ec Cn rfl))) hr (fun a=>nomatch a) fun a=>nomatch a) hL) rfl
 exact Am s0 (Am (Do (o_v Bf rfl)) (Ad1 (Afe (K0 (Ec (C8 (r_p rfl) rfl) rfl) hb1 nofun nofun) (Cs (show b.length<2 ^ 39 by lia)) rfl) e))
noncomputable def Vx:List S:=[.ite (.or [(.not (.var 0)),(.not (.var 1))]) [.ret (.bin .mul (.glob (.int 2)) (.bin .add (.bi .len [(.var 0)]) (.bi .len [(.var 1)])))] [],
 .ite (.or [(.cmp .gt (.bi .len [(.var 0)]) (.glob (.int 40))),(.cmp .gt (.bi .len [(.var 1)]) (.glob (.int 40)))]) [.ret (.bin .add (.var 2) (.lit (.int 1)))] [],
 .ite (.cmp .lt (.bi .len [(.var 1)]) (.bi .len [(.var 0)])) [.Ahs [0,1] [(.var 1),(.var 0)]] [],
 .ite (.cmp .gt (.bin .mul (.bin .sub (.bi .len [(.var 1)]) (.bi .len [(.var 0)])) (.glob (.int 2))) (.var 2)) [.ret (.bin .add (.var 2) (.lit (.int 1)))] []]
theorem Vw(h21:P.lookup 21=some G1.Ah2){a b:List Nat}{m:Int}{p q:Int}(ha:∀x∈a,x<128)(hb:∀x∈b,x<128)(hla:a.length≤100)(hlb:b.length≤100) :
  ∃σ',exs (Ev P (n+12)) (Vx++Sk) (σ2 a b m p q)=some (.ret (.int (lv2 m a b)),σ')∧σ'.get 2=some (.sh,.int m):=by
 have st1:(Ev P (n+12)).ex (.ite (.or [(.not (.var 0)),(.not (.var 1))]) [.ret (.bin .mul (.glob (.int 2)) (.bin .add (.bi .len [(.var 0)]) (.bi .len [(.var 1)])))] []) (σ2 a b m p q) =
   if a=[]∨b=[] then some (.ret (.int (2 * ((a.length:Int)+b.length))),σ2 a b m p q) else some (.next,σ2 a b m p q):=by
  have hm:A3 .mul (.int 2) (.int ((a.length:Int)+b.length))=some (.int (2 * ((a.length:Int)+b.length))):=J2 rfl (Dd (show a.length+b.length<2 ^ 60 from Nat.lt_of_le_of_lt (Nat.add_le_add hla hlb) (by decide)))
  by_cases h1:a=[]
  ·subst h1
   rw [if_pos (.inl rfl)]
   exact H8 (Nv (y_g (t_n (t_v (Af rfl) rfl rfl)) (i_n (i_n (Oa (of_decide_eq_true (id rfl)) rfl))))) (i_t (L0 (B0 Cn (B0 (C8 (r_p rfl) rfl) (C8 (r_p rfl) rfl) rfl) hm)))
  ·have t0:=Hc (List.isEmpty_eq_false_iff.mpr h1)
   by_cases h2:b=[]
   ·subst h2
    rw [if_pos (.inr rfl)]
    exact H8 (Nv (y_g (t_n (t_v (Af rfl) t0 rfl)) (i_n (i_n (i_f (y_1 (t_n (t_v (Af rfl) rfl rfl)))))))) (i_n (i_n (Oa (of_decide_eq_true (id rfl)) (L0 (B0 Cn (B0 (C8 (r_p rfl) rfl) (C8 (r_p rfl) rfl) rfl) hm)))))
   ·have t1:=Hc (List.isEmpty_eq_false_iff.mpr h2)
    rw [if_neg (fun q=>q.elim h1 h2)]
    exact H8 (Nv (y_g (t_n (t_v (Af rfl) t0 rfl)) (i_n (i_n (i_f (y_1 (t_n (t_v (Af rfl) t1 rfl)))))))) (i_n (i_n (i_f rfl)))
 have st2:(Ev P (n+12)).ex (.ite (.or [(.cmp .gt (.bi .len [(.var 0)]) (.glob (.int 40))),(.cmp .gt (.bi .len [(.var 1)]) (.glob (.int 40)))]) [.ret (.bin .add (.var 2) (.lit (.int 1)))] []) (σ2 a b m p q) =
   if 40<a.length∨40<b.length then some (.ret (.int (m+1)),σ2 a b m p q) else some (.next,σ2 a b m p q):=by
  by_cases h1:40<a.length
  ·have h1':(40:Int)<a.length:=by exact Int.lt_of_toNat_lt h1
   rw [if_pos (.inl h1)]
   exact H8 (Nv (y_g (t_v (Kz (C8 (r_p rfl) rfl) Cn rfl) rfl rfl) (N9 h1' rfl))) (i_t (L0 (B0 (Af rfl) Bf rfl)))
  ·have h1':¬(40:Int)<a.length:=fun q=>h1 (Int.ofNat_lt.mp q)
   by_cases h2:40<b.length
   ·have h2':(40:Int)<b.length:=by exact Int.lt_of_toNat_lt h2
    rw [if_pos (.inr h2)]
    exact H8 (Nv (y_g (t_v (Kz (C8 (r_p rfl) rfl) Cn rfl) rfl rfl) (Mc h1' (y_1 (t_v (Kz (C8 (r_p rfl) rfl) Cn rfl) rfl rfl))))) (N9 h2' (L0 (B0 (Af rfl) Bf rfl)))
   ·have h2':¬(40:Int)<b.length:=fun q=>h2 (Int.ofNat_lt.mp q)
    rw [if_neg (fun q=>q.elim h1 h2)]
    exact H8 (Nv (y_g (t_v (Kz (C8 (r_p rfl) rfl) Cn rfl) rfl rfl) (Mc h1' (y_1 (t_v (Kz (C8 (r_p rfl) rfl) Cn rfl) rfl rfl))))) (Mc h2' rfl)
 have st3:(Ev P (n+12)).ex (.ite (.cmp .lt (.bi .len [(.var 1)]) (.bi .len [(.var 0)])) [.Ahs [0,1] [(.var 1),(.var 0)]] []) (σ2 a b m p q) =
   if b.length<a.length then some (.next,σ2 b a m p q) else some (.next,σ2 a b m p q):=by
  by_cases h1:b.length<a.length
  ·have h1':(b.length:Int)<a.length:=by exact Int.ofNat_lt.mpr h1
   rw [if_pos h1]
   exact H8 (t_v (Pc (C8 (r_p rfl) rfl) (C8 (r_p rfl) rfl) rfl) rfl rfl) (N9 h1' (Am (Aeu (r_os (o_v (Af rfl) rfl) (r_os (o_v (Af rfl) rfl) rfl)) rfl) rfl))
  ·have h1':¬(b.length:Int)<a.length:=fun q=>h1 (Int.ofNat_lt.mp q)
   rw [if_neg h1]
   exact H8 (t_v (Pc (C8 (r_p rfl) rfl) (C8 (r_p rfl) rfl) rfl) rfl rfl) (Mc h1' rfl)
 have st4:∀a b:List Nat,a.length≤100→b.length≤100→(Ev P (n+12)).ex (.ite (.cmp .gt (.bin .mul (.bin .sub (.bi .len [(.var 1)]) (.bi .len [(.var 0)])) (.glob (.int 2))) (.var 2)) [.ret (.bin .add (.var 2) (.lit (.int 1)))] []) (σ2 a b m p q) =
   if m<((b.length:Int) - a.length) * 2 then some (.ret (.int (m+1)),σ2 a b m p q) else some (.next,σ2 a b m p q):=by
  intro a b hla hlb
  have hm:A3 .mul (.int ((b.length:Int) - a.length)) (.int 2)=some (.int (((b.length:Int) - a.length) * 2)):=J2 (Dd (K6 (Nat.lt_of_le_of_lt hlb (by decide)) (Nat.lt_of_le_of_lt hla (by decide)))) rfl
  by_cases h1:m<((b.length:Int) - a.length) * 2
  ·rw [if_pos h1]
   exact H8 (t_v (Kz (B0 (B0 (C8 (r_p rfl) rfl) (C8 (r_p rfl) rfl) rfl) Cn hm) (Af rfl) rfl) rfl rfl) (N9 h1 (L0 (B0 (Af rfl) Bf rfl)))
  ·rw [if_neg h1]
   exact H8 (t_v (Kz (B0 (B0 (C8 (r_p rfl) rfl) (C8 (r_p rfl) rfl) rfl) Cn hm) (Af rfl) rfl) rfl rfl) (Mc h1 rfl)
 have fin:∀a b:List Nat,(∀x∈a,x<128)→(∀x∈b,x<128)→a.length≤40→b.length≤40→a≠[]→∃σ',exs (Ev P (n+12)) ([.ite (.cmp .gt (.bin .mul (.bin .sub (.bi .len [(.var 1)]) (.bi .len [(.var 0)])) (.glob (.int 2))) (.var 2)) [.ret (.bin .add (.var 2) (.lit (.int 1)))] []]++Sk) (σ2 a b m p q)=some (.ret (.int (lv3 m a b)),σ')∧σ'.get 2=some (.sh,.int m):=by
  intro a b ha hb hla hlb h0
  rw [List.singleton_append,C0,st4 a b (Nat.le_trans (by assumption) (by decide)) (Nat.le_trans (by assumption) (by decide))]
  delta lv3
  by_cases h1:m<((b.length:Int) - a.length) * 2
  ·rw [if_pos h1,if_pos h1];exact ⟨_,rfl,rfl⟩
  ·rw [if_neg h1,if_neg h1,Ax]
   exact Vv h21 ha hb hla hlb (List.length_pos_iff.mpr h0)
 delta Vx lv2
 rw [List.cons_append,C0,st1]
 by_cases h1:a=[]∨b=[]
 ·rw [if_pos h1,if_pos h1];exact ⟨_,rfl,rfl⟩
 ·rw [if_neg h1,if_neg h1,Ax,List.cons_append,C0,st2]
  by_cases h2:40<a.length∨40<b.length
  ·rw [if_pos h2,if_pos h2];exact ⟨_,rfl,rfl⟩
  ·rw [if_neg h2,if_neg h2,Ax,List.cons_append,C0,st3]
   by_cases h3:b.length<a.length
   ·rw [if_pos h3,if_pos h3,Ax]
    exact fin b a hb ha (by lia) (by lia) (fun q=>h1 (.inr q))
   ·rw [if_neg h3,if_neg h3,Ax]
    exact fin a b ha hb (by lia) (by lia) (fun q=>h1 (.inl q))
theorem Sj(l:List Nat)(q:Nat):(tl l q).length≤l.length:=by delta tl;rw [List.length_take];exact Nat.min_le_right _ _
theorem Ki(q:Nat)(l:List Nat):(l.drop q).length≤l.length:=by rw [List.length_drop];exact Nat.sub_le _ _
theorem c28(h21:P.lookup 21=some G1.Ah2)(h28:P.lookup 28=some G1.Ah3){a b:List Nat}{m:Int}(ha:∀x∈a,x<128)(hb:∀x∈b,x<128)(hla:a.length≤50)(hlb:b.length≤50) :
  (Ev P (n+70)).call 28 [(.sh,.str a),(.sh,.str b),(.sh,.int m)]=some (.int (lv a b m),some (.sh,.int m)):=by
 suffices h:∃σ',exs (Ev P (n+69)) G1.Aie (B6 G1.Ah3 [(.sh,.str a),(.sh,.str b),(.sh,.int m)])=some (.ret (.int (lv a b m)),σ')∧σ'.get 2=some (.sh,.int m) by
  obtain ⟨σ',e,g⟩:=h
  have:=C4 h28 rfl e (by rw [show G1.Ah3.np - 1=2 from rfl,g];rfl)
  rw [show G1.Ah3.np - 1=2 from rfl,g] at this
  exact this
 rw [show G1.Aie=[.ite (.cmp .eq (.var 0) (.var 1)) [.ret (.lit (.int 0))] [],.asg 3 (.lit (.int 0)),w1,.asg 0 (.slc (.var 0) (some (.var 3)) none false),.asg 1 (.slc (.var 1) (some (.var 3)) none false),.asg 4 (.lit (.int 0)),w2,
  .asg 0 (.slc (.var 0) none (some pe) false),.asg 1 (.slc (.var 1) none (some pe) false)]++(Vx++Sk) from rfl]
 rw [show B6 G1.Ah3 [(.sh,.str a),(.sh,.str b),(.sh,.int m)]=σ0 a b m none none from rfl]
 delta lv
 by_cases h0:a=b
 ·subst h0
  rw [if_pos rfl]
  refine ⟨σ0 a a m none none,?_,rfl⟩
  exact Ha (t_v (H9 (Af rfl) (Af rfl) rfl) rfl rfl) (Oa (beq_self_eq_true a) (Zo Bf))
 ·rw [if_neg h0]
  have st0:(Ev P (n+69)).ex (.ite (.cmp .eq (.var 0) (.var 1)) [.ret (.lit (.int 0))] []) (σ0 a b m none none)=some (.next,σ0 a b m none none):=by
   have n0:(a == b)=false:=beq_false_of_ne h0
   exact H8 (t_v (H9 (Af rfl) (Af rfl) rfl) rfl rfl) (X3 n0 rfl)
  have st1:(Ev P (n+69)).ex (.asg 3 (.lit (.int 0))) (σ0 a b m none none)=some (.next,σ1 a b m 0):=by
   exact I8 (o_v Bf rfl) rfl
  have l1:=Kk a b
  obtain ⟨k1,hk1⟩ : ∃k1,n+69=k1+6+cpl a b:=⟨n+63 - cpl a b,fuel (f:=6) (Nat.le_trans l1 (Nat.le_trans hla (Nat.le_trans (by decide) (Nat.le_add_left 63 n))))⟩
  have st2:=w1_ok (P:=P) (n:=k1) (a:=a) (b:=b) (m:=m) (cpl a b) 0 (by lia) (by simp)
  rw [← hk1] at st2
  generalize hp:cpl a b=p at *
  have hp60:p<2 ^ 60:=by lia
  have st3:(Ev P (n+69)).ex (.asg 0 (.slc (.var 0) (some (.var 3)) none false)) (σ1 a b m (p:Nat))=some (.next,σ1 (a.drop p) b m (p:Nat)):=by
   have s0:=@E4 a _ hp60
   have s1:=@E4 b _ hp60
   exact I8 (o_v (Hg (r_p rfl) (K2 (Af rfl)) rfl (G4 rfl) s0) rfl) rfl
  have st4:(Ev P (n+69)).ex (.asg 1 (.slc (.var 1) (some (.var 3)) none false)) (σ1 (a.drop p) b m (p:Nat))=some (.next,σ1 (a.drop p) (b.drop p) m (p:Nat)):=by
   have s0:=@E4 a _ hp60
   have s1:=@E4 b _ hp60
   exact I8 (o_v (Hg (r_p rfl) (K2 (Af rfl)) rfl (G4 rfl) s1) rfl) rfl
  generalize ha1:a.drop p=a1 at *
  generalize hb1:b.drop p=b1 at *
  have la1:a1.length≤50:=by rw [← ha1];exact Nat.le_trans (Ki _ _) hla
  have lb1:b1.length≤50:=by rw [← hb1];exact Nat.le_trans (Ki _ _) hlb
  have ma1:∀x∈a1,x<128:=fun x hx=>ha x (List.mem_of_mem_drop (ha1 ▸ hx))
  have mb1:∀x∈b1,x<128:=fun x hx=>hb x (List.mem_of_mem_drop (hb1 ▸ hx))
  have st5:(Ev P (n+69)).ex (.asg 4 (.lit (.int 0))) (σ1 a1 b1 m (p:Nat))=some (.next,σ2 a1 b1 m (p:Nat) (-((0:Nat):Int))):=by
   exact I8 (o_v Bf rfl) rfl
  have l2:=Kk a1.reverse b1.reverse
  rw [List.length_reverse] at l2
  obtain ⟨k2,hk2⟩ : ∃k2,n+69=k2+7+cpl a1.reverse b1.reverse:=⟨n+62 - cpl a1.reverse b1.reverse,fuel (f:=7) (Nat.le_trans l2 (Nat.le_trans la1 (Nat.le_trans (by decide) (Nat.le_add_left 62 n))))⟩
  have st6:=w2_ok (P:=P) (n:=k2) (a:=a1) (b:=b1) (m:=m) (p:=(p:Nat)) (cpl a1.reverse b1.reverse) 0 (by lia) (by simp)
  rw [← hk2] at st6
  generalize hq:cpl a1.reverse b1.reverse=q at *
  simp only [Nat.zero_add] at st2 st6
  have hq59:q<2 ^ 59:=by lia
  have st7:(Ev P (n+69)).ex (.asg 0 (.slc (.var 0) none (some pe) false)) (σ2 a1 b1 m (p:Nat) (-(q:Int)))=some (.next,σ2 (tl a1 q) b1 m (p:Nat) (-(q:Int))):=by
   have h:=sl2 (P:=P) (n:=n+64) (x:=0) (a:=a1) (b:=b1) (c:=a1) (m:=m) (p:=(p:Nat)) hq59 rfl
   exact Do (o_v h rfl)
  have st8:(Ev P (n+69)).ex (.asg 1 (.slc (.var 1) none (some pe) false)) (σ2 (tl a1 q) b1 m (p:Nat) (-(q:Int)))=some (.next,σ2 (tl a1 q) (tl b1 q) m (p:Nat) (-(q:Int))):=by
   have h:=sl2 (P:=P) (n:=n+64) (x:=1) (a:=tl a1 q) (b:=b1) (c:=b1) (m:=m) (p:=(p:Nat)) hq59 rfl
   exact Do (o_v h rfl)
  have fin:=Vw (n:=n+57) h21 (a:=tl a1 q) (b:=tl b1 q) (m:=m) (p:=(p:Nat)) (q:=-(q:Int)) (fun x hx=>ma1 x (List.mem_of_mem_take hx)) (fun x hx=>mb1 x (List.mem_of_mem_take hx)) (Nat.le_trans (Sj _ _) (Nat.le_trans la1 (by decide))) (Nat.le_trans (Sj _ _) (Nat.le_trans lb1 (by decide)))
  obtain ⟨σ',e,g⟩:=fin
  refine ⟨σ',?_,g⟩
  exact Am st0 (Am st1 (Am st2 (Am st3 (Am st4 (Am st5 (Am st6 (Am st7 (Am st8 e))))))))
end
end Mine
end
section
set_option autoImplicit false
namespace Mine
theorem I3(x:Nat):Bv x x=0:=by simp [Bv]
theorem Ep(x y:Nat):0≤Bv x y:=by delta Bv;split;exact Int.le_refl _;split <;> decide
theorem Sn(x y:Nat):Bv x y≤2:=by delta Bv;split;decide;split <;> decide
theorem Mk(x y:Nat):Bv x y=Bv y x:=by
 delta Bv
 by_cases h:x=y
 ·subst h;rfl
 ·rw [if_neg h,if_neg (Ne.symm h)]
  by_cases h':Fy x=Fy y
  ·rw [if_pos h',if_pos h'.symm]
  ·rw [if_neg h',if_neg (Ne.symm h')]
theorem V2{x y:Nat}(h:x≠y):1≤Bv x y:=by delta Bv;rw [if_neg h];split <;> decide
class inductive Al:List Nat→List Nat→Int→Prop
 |nil:Al [] [] 0
 |sub {x y a b c}:Al a b c→Al (x :: a) (y :: b) (c+Bv x y)
 |del {x a b c}:Al a b c→Al (x :: a) b (c+2)
 |ins {y a b c}:Al a b c→Al a (y :: b) (c+2)
theorem Al.symm{a b:List Nat}{c:Int}(h:Al a b c):Al b a c:=by
 induction h with
 |nil=>exact .nil
 |sub _ ih=>rw [Mk];exact .sub ih
 |del _ ih=>exact .ins ih
 |ins _ ih=>exact .del ih
theorem Al.snoc_sub{a b:List Nat}{c:Int}(h:Al a b c)(x y:Nat):Al (a++[x]) (b++[y]) (c+Bv x y):=by
 induction h with
 |nil=>exact .sub .nil
 |@sub x' y' a b c _ ih=>rw [Int.add_right_comm];exact .sub ih
 |@del x' a b c _ ih=>rw [Int.add_right_comm];exact .del ih
 |@ins y' a b c _ ih=>rw [Int.add_right_comm];exact .ins ih
theorem Al.snoc_del{a b:List Nat}{c:Int}(h:Al a b c)(x:Nat):Al (a++[x]) b (c+2):=by
 induction h with
 |nil=>exact .del .nil
 |@sub x' y' a b c _ ih=>rw [Int.add_right_comm];exact .sub ih
 |@del x' a b c _ ih=>exact .del ih
 |@ins y' a b c _ ih=>exact .ins ih
theorem Al.rev{a b:List Nat}{c:Int}(h:Al a b c):Al a.reverse b.reverse c:=by
 induction h with
 |nil=>exact .nil
 |sub _ ih=>rw [List.reverse_cons,List.reverse_cons];exact ih.snoc_sub _ _
 |del _ ih=>rw [List.reverse_cons];exact ih.snoc_del _
 |ins _ ih=>rw [List.reverse_cons];exact (ih.symm.snoc_del _).symm
noncomputable def dmR(x n:Nat)(f:List Nat→Int):List Nat→Int
 |[]=>2 * (n:Int)
 |y :: b=>min (min (f (y :: b)+2) (dmR x n f b+2)) (f b+Bv x y)
noncomputable def dm:List Nat→List Nat→Int
 |[]=>fun b=>2 * (b.length:Int)
 |x :: a=>dmR x (a.length+1) (dm a)
theorem Bb(b:List Nat):dm [] b=2 * (b.length:Int):=rfl
theorem C2(a:List Nat):dm a []=2 * (a.length:Int):=by induction a using List.casesOn <;> rfl
theorem Dy(x y:Nat)(a b:List Nat):dm (x :: a) (y :: b)=min (min (dm a (y :: b)+2) (dm (x :: a) b+2)) (dm a b+Bv x y):=rfl
theorem Al.nilb:∀(b:List Nat),Al [] b (2 * (b.length:Int))
 |[]=>.nil
 |y :: b=>by
  have:=(Al.nilb b).ins (y:=y)
  rw [show (2 * (((y :: b).length:Nat):Int))=2 * (b.length:Int)+2 by simp;exact Int.neg_inj.mp rfl]
  exact this
theorem Tw:∀(n:Nat) (a b:List Nat),a.length+b.length≤n→Al a b (dm a b)
 |_,[],b,_=>by rw [Bb];exact Al.nilb b
 |_,x :: a,[],_=>by rw [C2];exact (Al.nilb (x :: a)).symm
 |n+1,x :: a,y :: b,h=>by
  simp only [List.length_cons] at h
  rw [Dy]
  have h1:=Tw n a (y :: b) (by simp;lia)
  have h2:=Tw n (x :: a) b (by simp;exact Nat.le_of_lt_succ h)
  have h3:=Tw n a b (by lia)
  rcases Int.le_total (min (dm a (y :: b)+2) (dm (x :: a) b+2)) (dm a b+Bv x y) with q | q
  ·rw [Int.min_eq_left q]
   rcases Int.le_total (dm a (y :: b)+2) (dm (x :: a) b+2) with q' | q'
   ·rw [Int.min_eq_left q'];exact .del h1
   ·rw [Int.min_eq_right q'];exact .ins h2
  ·rw [Int.min_eq_right q];exact .sub h3
 |0,x :: a,y :: b,h=>by simp at h
theorem Jz(a b:List Nat):Al a b (dm a b):=Tw _ a b (Nat.le_refl _)
theorem min1{a b c k:Int}(h:a≤k):min (min a b) c≤k:=Int.le_trans (Int.min_le_left _ _) (Int.le_trans (Int.min_le_left _ _) h)
theorem min2{a b c k:Int}(h:b≤k):min (min a b) c≤k:=Int.le_trans (Int.min_le_left _ _) (Int.le_trans (Int.min_le_right _ _) h)
theorem min3{a b c k:Int}(h:c≤k):min (min a b) c≤k:=Int.le_trans (Int.min_le_right _ _) h
theorem lmin3{a b c k:Int}(h1:k<a)(h2:k<b)(h3:k<c):k<min (min a b) c:=Int.lt_min.mpr ⟨Int.lt_min.mpr ⟨h1,h2⟩,h3⟩
theorem Aaz(l:Nat):2 * ((l+1:Nat):Int)=2 * (l:Int)+2:=Int.mul_add 2 l 1
theorem M8{a b:List Nat}{c:Int}(h:Al a b c):dm a b≤c:=by
 induction h with
 |nil=>rw [Bb];decide
 |@sub x y a b c _ ih=>rw [Dy];exact min3 (Int.add_le_add_right ih _)
 |@del x a b c _ ih=>
  induction b using List.casesOn with
  |nil=>rw [C2] at ih ⊢;rw [List.length_cons,Aaz];exact Int.add_le_add_right ih 2
  |cons y b=>rw [Dy];exact min1 (Int.add_le_add_right ih 2)
 |@ins y a b c _ ih=>
  induction a using List.casesOn with
  |nil=>rw [Bb] at ih ⊢;rw [List.length_cons,Aaz];exact Int.add_le_add_right ih 2
  |cons x a=>rw [Dy];exact min2 (Int.add_le_add_right ih 2)
theorem Kj(a b:List Nat):dm a b=dm b a:=Int.le_antisymm (M8 (Jz b a).symm) (M8 (Jz a b).symm)
theorem Rx(a b:List Nat):dm a.reverse b.reverse=dm a b:=by
 refine Int.le_antisymm (M8 (Jz a b).rev) ?_
 have:=M8 (Jz a.reverse b.reverse).rev
 simpa using this
theorem Acm{x:Nat}{a' b:List Nat}{c:Int}(h:Al a' b c):∀a,a'=x :: a→∃c',c'≤c+2∧Al a b c':=by
 induction h with
 |nil=>intro a e;cases e
 |@sub x' y a0 b c h ih=>intro a e;cases e;exact ⟨c+2,by have:=Ep x y;lia,.ins h⟩
 |@del x' a0 b c h ih=>intro a e;cases e;exact ⟨c,by lia,h⟩
 |@ins y a0 b c h ih=>
  intro a e
  obtain ⟨c',h1,h2⟩:=ih a e
  exact ⟨c'+2,by exact (Int.add_le_add_iff_right 2).mpr h1,.ins h2⟩
theorem Yu(x:Nat)(a b:List Nat):dm a b≤dm (x :: a) b+2:=by
 obtain ⟨c',h1,h2⟩:=Acm (Jz (x :: a) b) a rfl
 exact Int.le_trans (M8 h2) h1
theorem Aby(x:Nat)(a b:List Nat):dm (x :: a) (x :: b)=dm a b:=by
 rw [Dy,I3]
 have h1:=Yu x a b
 have h2:=Yu x b a
 rw [Kj b a,Kj (x :: b) a] at h2
 rw [Int.add_zero];exact Int.min_eq_right (Int.le_min.mpr ⟨h2,h1⟩)
theorem Ry(u a b:List Nat):dm (u++a) (u++b)=dm a b:=by
 induction u with
 |nil=>rfl
 |cons x u ih=>rw [List.cons_append,List.cons_append,Aby,ih]
theorem Abz(a b v:List Nat):dm (a++v) (b++v)=dm a b:=by
 rw [← Rx,List.reverse_append,List.reverse_append,Ry,Rx]
noncomputable def D1:List Nat→List Nat→List Nat→List Int
 |_,_,[]=>[]
 |A,B,x :: a=>dm (x :: A) B :: D1 (x :: A) B a
theorem rO_n{A B:List Nat}:D1 A B []=[]:=rfl
theorem Aev{A B a:List Nat}{x:Nat}:D1 A B (x :: a)=dm (x :: A) B :: D1 (x :: A) B a:=rfl
theorem Jb(a b:Int):mn2 a b=min a b:=by delta mn2;split <;> lia
theorem Ac5(c:Nat):∀(a A B:List Nat) (mn:Int),(rs c (dm A B) (dm A (c :: B)) mn a (D1 A B a)).1=D1 A (c :: B) a∧(rs c (dm A B) (dm A (c :: B)) mn a (D1 A B a)).2.1=dm (a.reverse++A) (c :: B)∧
  ((rs c (dm A B) (dm A (c :: B)) mn a (D1 A B a)).2.2.2≤mn∧(∀w∈D1 A (c :: B) a,(rs c (dm A B) (dm A (c :: B)) mn a (D1 A B a)).2.2.2≤w))
 |[],A,B,mn=>by simp [rs_n,rO_n]
 |x :: a,A,B,mn=>by
  have e:mn2 (mn2 (dm A (c :: B)) (dm (x :: A) B)+2) (dm A B+Bv c x)=dm (x :: A) (c :: B):=by
   rw [Dy,Jb,Jb,Mk c x];lia
  have ih:=Ac5 c a (x :: A) B (if dm (x :: A) (c :: B)<mn then dm (x :: A) (c :: B) else mn)
  obtain ⟨h1,h2,h3,h4⟩:=ih
  simp only [Aeo,Aev,e]
  refine ⟨by rw [h1],by rw [h2];simp,?_,?_⟩
  ·refine Int.le_trans h3 ?_
   split <;> lia
  ·intro w hw
   rcases List.mem_cons.mp hw with q | q
   ·rw [q];refine Int.le_trans h3 ?_;split <;> lia
   ·exact h4 w q
theorem Xh{x y z:Int}(h:z≤x+2):mn2 (mn2 x y+2) z=mn2 (y+2) z:=by
 rw [Jb,Jb,Jb]
 rcases Int.le_total x y with q | q
 ·rw [Int.min_eq_left q,Int.min_eq_right h,Int.min_eq_right (Int.le_trans h (Int.add_le_add_right q 2))]
 ·rw [Int.min_eq_right q]
theorem Wp(c:Nat)(a B:List Nat)(mn:Int)(h:a≠[]):rs c ((B.length:Int) * 2) ((B.length:Int) * 2) mn a (D1 [] B a)=rs c (dm [] B) (dm [] (c :: B)) mn a (D1 [] B a):=by
 induction a using List.casesOn with
 |nil=>exact absurd rfl h
 |cons x a=>
  have e:mn2 (mn2 ((B.length:Int) * 2) (dm [x] B)+2) ((B.length:Int) * 2+Bv c x)=mn2 (mn2 (dm [] (c :: B)) (dm [x] B)+2) (dm [] B+Bv c x):=by
   have h2:=Int.add_le_add_left (Sn c x)
   rw [Xh (h2 _),Xh (by rw [Bb,Bb,List.length_cons,Aaz];exact Int.le_trans (h2 _) (Int.le_add_of_nonneg_right (by decide))),Bb,Int.mul_comm]
  simp only [Aeo,Aev,e]
theorem above{m:Int}{B:List Nat}:∀(A:List Nat),(∀A',A' <:+ A→m<dm A' B)→∀y,∀A',A' <:+ A→m<dm A' (y :: B)
 |A,h,y,[],hs=>by
  have:=h [] (List.nil_suffix)
  rw [Bb] at this ⊢;rw [List.length_cons,Aaz];exact Int.lt_of_lt_of_le this (Int.le_add_of_nonneg_right (by decide))
 |A,h,y,x :: A',hs=>by
  have h1:=h (x :: A') hs
  have hs':A' <:+ A:=(List.suffix_cons x A').trans hs
  have h2:=h A' hs'
  have h3:=above A h y A' hs'
  rw [Dy]
  exact lmin3 (Int.lt_of_lt_of_le h3 (Int.le_add_of_nonneg_right (by decide))) (Int.lt_of_lt_of_le h1 (Int.le_add_of_nonneg_right (by decide))) (Int.lt_of_lt_of_le h2 (Int.le_add_of_nonneg_right (Ep x y)))
theorem Nf{m:Int}{A B:List Nat}(h:∀A',A' <:+ A→m<dm A' B):∀(R:List Nat),∀A',A' <:+ A→m<dm A' (R++B)
 |[]=>h
 |y :: R=>above A (Nf h R) y
theorem Kq{B:List Nat}:∀(a A A':List Nat),A' <:+ (a.reverse++A)→A' <:+ A∨dm A' B∈D1 A B a
 |[],A,A',h=>.inl (by simpa using h)
 |x :: a,A,A',h=>by
  rw [List.reverse_cons,List.append_assoc] at h
  rcases Kq (B:=B) a (x :: A) A' h with q | q
  ·rcases List.suffix_cons_iff.mp q with q | q
   ·subst q;exact .inr List.mem_cons_self
   ·exact .inl q
  ·exact .inr (List.mem_cons_of_mem _ q)
theorem My{m:Int}{a:List Nat}(ha:a≠[]):∀(rest B:List Nat) (res:Int),(rest=[]→res=dm a.reverse B)→
  Pq m a rest B.length (D1 [] B a) res=dm a.reverse (rest.reverse++B)∨(Pq m a rest B.length (D1 [] B a) res=m+1∧m<dm a.reverse (rest.reverse++B))
 |[],B,res,h=>.inl (h rfl)
 |c :: rest,B,res,h=>by
  rw [lv_c,Wp c a B big ha]
  obtain ⟨h1,h2,h3,h4⟩:=Ac5 c a [] B big
  rw [h1,h2]
  split
  ·rename_i hm
   right
   refine ⟨rfl,?_⟩
   rw [List.reverse_cons,List.append_assoc]
   have Aim:∀w∈D1 [] (c :: B) a,m<w:=fun w hw=>Int.lt_of_lt_of_le hm (h4 w hw)
   refine Nf (A:=a.reverse) (B:=c :: B) (fun A' hA=>?_) rest.reverse a.reverse (List.suffix_refl _)
   rcases Kq (B:=c :: B) a [] A' (by simpa using hA) with q | q
   ·have:A'=[]:=List.suffix_nil.mp q
    subst this
    induction a using List.casesOn with
    |nil=>exact absurd rfl ha
    |cons x a=>
     have h5:=Aim (dm [x] (c :: B)) List.mem_cons_self
     have h6:dm [x] (c :: B)≤dm [] B+Bv x c:=by rw [Dy];exact Int.min_le_right (min (dm [] (c :: B)+2) (dm [x] B+2)) (dm [] B+Bv x c)
     rw [Bb] at h6 ⊢
     have:=Sn x c
     simp;lia
   ·exact Aim _ q
  ·have ih:=My (m:=m) ha rest (c :: B) (dm (a.reverse++[]) (c :: B)) (fun ζ=>by simp)
   rw [List.length_cons] at ih
   rw [List.reverse_cons,List.append_assoc]
   exact ih
theorem Sq:∀(a A:List Nat),D1 A [] a=(List.range' A.length a.length).map fun i:Nat=>2+(i:Int) * 2
 |[],A=>rfl
 |x :: a,A=>by
  rw [Aev,Sq a (x :: A),List.length_cons,List.length_cons,List.range'_succ,List.map_cons,C2]
  congr 1
  simp;lia
theorem Pr{m:Int}{a b:List Nat}(ha:a≠[])(hb:b≠[]):lv3 m a b=dm a b∨(lv3 m a b=m+1∧m<dm a b):=by
 delta lv3
 split
 ·rename_i h
  refine .inr ⟨rfl,?_⟩
  have:((b.length:Int) - a.length) * 2≤dm a b:=by
   have key:∀ {a b:List Nat} {c:Int},Al a b c→((b.length:Int) - a.length) * 2≤c:=by
    intro a b c h
    induction h with
    |nil=>decide
    |@sub x y a b c _ ih=>have:=Ep x y;simp;lia
    |del _ ih=>simp;lia
    |ins _ ih=>simp;lia
   exact key (Jz a b)
  exact Int.lt_of_lt_of_le h this
 ·have:=My (m:=m) ha b [] 0 (fun q=>absurd q hb)
  rw [List.append_nil,Rx,Sq] at this
  simp only [List.length_nil] at this
  delta Ma
  rw [List.range_eq_range']
  exact this
theorem Xj{m:Int}{a b:List Nat}(h1:a.length≤40)(h2:b.length≤40):lv2 m a b=dm a b∨(lv2 m a b=m+1∧m<dm a b):=by
 delta lv2
 split
 ·rename_i h
  left
  rcases h with rfl | rfl
  ·rw [Bb];simp
  ·rw [C2];simp
 ·rename_i h
  rw [not_or] at h
  rw [if_neg (by lia)]
  split
  ·have:=Pr (m:=m) h.2 h.1
   rw [Kj b a] at this
   exact this
  ·exact Pr h.1 h.2
theorem T3(a b:List Nat):dm (tl a (cpl a.reverse b.reverse)) (tl b (cpl a.reverse b.reverse))=dm a b:=by
 have h:=Lq a.reverse b.reverse
 have l1:=Kk a.reverse b.reverse
 have l2:=Ts a.reverse b.reverse
 rw [List.length_reverse] at l1 l2
 generalize cpl a.reverse b.reverse=q at *
 have e:a.drop (a.length - q)=b.drop (b.length - q):=by
  have h':=congrArg List.reverse h
  rw [List.reverse_take,List.reverse_take,List.reverse_reverse,List.reverse_reverse,List.length_reverse,List.length_reverse] at h'
  exact h'
 have:=Abz (tl a q) (tl b q) (a.drop (a.length - q))
 unfold tl at *
 rw [List.take_append_drop,e,List.take_append_drop] at this
 exact this.symm
theorem Vt(a b:List Nat):dm (a.drop (cpl a b)) (b.drop (cpl a b))=dm a b:=by
 have h:=Lq a b
 have:=Ry (a.take (cpl a b)) (a.drop (cpl a b)) (b.drop (cpl a b))
 rw [List.take_append_drop,h,List.take_append_drop] at this
 exact this.symm
theorem Abx(a:List Nat):dm a a=0:=by
 have:=Ry a [] []
 rw [List.append_nil,Bb] at this
 simpa using this
theorem Ke{m:Int}{a b:List Nat}(h1:a.length≤40)(h2:b.length≤40):lv a b m=dm a b∨(lv a b m=m+1∧m<dm a b):=by
 delta lv
 split
 ·rename_i h;subst h;exact .inl (Abx a).symm
 ·have:=Xj (m:=m) (a:=tl (a.drop (cpl a b)) (cpl (a.drop (cpl a b)).reverse (b.drop (cpl a b)).reverse)) (b:=tl (b.drop (cpl a b)) (cpl (a.drop (cpl a b)).reverse (b.drop (cpl a b)).reverse))
   (Nat.le_trans (Sj _ _) (Nat.le_trans (Ki _ _) h1)) (Nat.le_trans (Sj _ _) (Nat.le_trans (Ki _ _) h2))
  rw [T3,Vt] at this
  exact this
theorem Zg{a b:List Nat}{c:Int}(h:Al a b c):2 * ((b.length:Int) - a.length)≤c:=by
 induction h with
 |nil=>decide
 |@sub x y a b c _ ih=>have:=Ep x y;simp;lia
 |del _ ih=>simp;lia
 |ins _ ih=>simp;lia
theorem Agu{a b:List Nat}{c:Int}(h:Al a b c):c≤2 * ((b.length:Int) - a.length)→a.Sublist b:=by
 induction h with
 |nil=>intro _;exact List.Sublist.slnil
 |@sub x y a b c h ih=>
  intro hc
  have h1:=Zg h
  simp only [List.length_cons] at hc
  by_cases e:x=y
  ·subst e;rw [I3] at hc;exact (ih (by lia)).cons_cons x
  ·have:=V2 e;lia
 |@del x a b c h ih=>
  intro hc
  have h1:=Zg h
  simp only [List.length_cons] at hc
  lia
 |@ins y a b c h ih=>
  intro hc
  simp only [List.length_cons] at hc
  exact (ih (by lia)).cons y
theorem Aeb{a b:List Nat}(h:a.Sublist b):Al a b (2 * ((b.length:Int) - a.length)):=by
 induction h with
 |slnil=>exact .nil
 |@cons a b y _ ih=>
  have:=ih.ins (y:=y)
  rw [show (2 * ((((y :: b).length:Nat):Int) - a.length))=2 * ((b.length:Int) - a.length)+2 by simp;lia]
  exact this
 |@cons_cons a b x _ ih=>
  have:=ih.sub (x:=x) (y:=x)
  rw [I3] at this
  rw [show (2 * ((((x :: b).length:Nat):Int) - ((x :: a).length:Nat)))=2 * ((b.length:Int) - a.length)+0 by simp;lia]
  exact this
theorem Adq(a b:List Nat):2 * ((b.length:Int) - a.length)≤dm a b:=Zg (Jz a b)
theorem dm_eq{a b:List Nat}:dm a b=2 * ((b.length:Int) - a.length)↔a.Sublist b:=
 ⟨fun h=>Agu (Jz a b) (by exact Int.le_of_eq h),fun h=>Int.le_antisymm (M8 (Aeb h)) (Adq a b)⟩
theorem Mj{a b:List Nat}{e:Int}(he:0≤e)(h1:a.length≤40)(h2:b.length≤40)(t:Int)(ht:t=lv a b (2 * ((b.length:Int) - a.length)+e)∨t=lv b a (2 * ((b.length:Int) - a.length)+e)) :
  2 * ((b.length:Int) - a.length)≤t∧(t=2 * ((b.length:Int) - a.length)↔a.Sublist b):=by
 have key:t=dm a b∨(t=2 * ((b.length:Int) - a.length)+e+1∧2 * ((b.length:Int) - a.length)+e<dm a b):=by
  rcases ht with rfl | rfl
  ·exact Ke h1 h2
  ·rw [Kj];exact Ke h2 h1
 have g:=Adq a b
 rw [← dm_eq]
 rcases key with rfl | ⟨rfl,h⟩
 ·exact ⟨g,Iff.rfl⟩
 ·exact ⟨by lia,by constructor <;> intro q <;> lia⟩
end Mine
end
section
set_option autoImplicit false
namespace Mine
structure Ahg(T:List Nat)(σ τ:St):Prop where
 len:τ.length=σ.length
 get:∀j,j∉T→τ.get j=σ.get j
theorem Ahg.refl(T:List Nat)(σ:St):Ahg T σ σ:=⟨rfl,fun ζ ζ=>rfl⟩
theorem Ahg.trans{T:List Nat}{σ τ υ:St}(h:Ahg T σ τ)(h':Ahg T τ υ):Ahg T σ υ:=⟨h'.len.trans h.len,fun j hj=>(h'.get j hj).trans (h.get j hj)⟩
theorem Ahg.mono{T T':List Nat}{σ τ:St}(h:Ahg T σ τ)(hs:∀j∈T,j∈T'):Ahg T' σ τ:=⟨h.len,fun j hj=>h.get j fun q=>hj (hs j q)⟩
theorem Ahg.put{T:List Nat}{σ τ:St}(h:Ahg T σ τ){i:Nat}(hi:i∈T)(s:Slot):Ahg T σ (τ.put i s):=by
 refine ⟨(Ag7 ..).trans h.len,fun j hj=>?_⟩
 have ne:j≠i:=fun q=>hj (q ▸ hi)
 delta St.get St.put
 rw [List.getElem?_set_ne (Ne.symm ne)]
 exact h.get j hj
theorem get_del(σ:St)(i j:Nat):(σ.del i).get j=if j=i then none else σ.get j:=by
 delta St.get St.del
 by_cases e:j=i
 ·subst e;rw [if_pos rfl,List.getElem?_set];simp;split <;> rfl
 ·rw [if_neg e,List.getElem?_set_ne (Ne.symm e)]
theorem len_del(σ:St)(i:Nat):(σ.del i).length=σ.length:=List.length_set
theorem Ahg.del{T:List Nat}{σ τ:St}(h:Ahg T σ τ){i:Nat}(hi:σ.get i=none):Ahg (T.filter (·≠i)) σ (τ.del i):=by
 refine ⟨(len_del ..).trans h.len,fun j hj=>?_⟩
 rw [get_del]
 split
 ·rename_i e;rw [e,hi]
 ·rename_i e
  exact h.get j fun q=>hj (List.mem_filter.mpr ⟨q,by simpa using e⟩)
theorem Ahg.eq{σ τ:St}(h:Ahg [] σ τ):τ=σ:=by
 apply List.ext_getElem?
 intro j
 have hg:=h.get j (by simp)
 unfold St.get at hg
 by_cases hj:j<σ.length
 ·have hj':j<τ.length:=by rw [h.len];exact hj
  rw [List.getElem?_eq_getElem hj,List.getElem?_eq_getElem hj'] at hg ⊢
  simpa using hg
 ·have hl:=h.len
  rw [List.getElem?_eq_none (Nat.not_lt.mp hj),List.getElem?_eq_none (by rw [hl];exact Nat.not_lt.mp hj)]
theorem Ahg.del1{σ τ:St}{i:Nat}(h:Ahg [i] σ τ)(hi:σ.get i=none):τ.del i=σ:=by
 have:=h.del hi
 rw [show [i].filter (·≠i)=[] by simp] at this
 exact this.eq
section
variable {F:Ahl} {σ σ₁ τ:St}
theorem N2{tg:Tg}{cs:List E}{body:St→List D→Option (List D×St)}{d:D}{r:List D}{τ τ₁ τ₂ τ₃:St}{acc acc':List D}(e1:Cy tg d τ=some τ₁)(e2:G9 F cs τ₁=some (true,τ₂))(e3:body τ₂ acc=some (acc',τ₃)) :
  E7 F tg cs body (d :: r) τ acc=E7 F tg cs body r τ₃ acc':=by
 show (Cy tg d τ).bind _=_
 rw [e1,Option.bind_some,e2]
 show (body τ₂ acc).bind _=_
 rw [e3];rfl
theorem Xo{tg:Tg}{cs:List E}{body:St→List D→Option (List D×St)}{d:D}{r:List D}{τ τ₁ τ₂:St}{acc:List D}(e1:Cy tg d τ=some τ₁)(e2:G9 F cs τ₁=some (false,τ₂)) :
  E7 F tg cs body (d :: r) τ acc=E7 F tg cs body r τ₂ acc:=by
 show (Cy tg d τ).bind _=_
 rw [e1,Option.bind_some,e2];rfl
theorem Dr{T:List Nat}{tg:Tg}{conds:List E}{body:St→List D→Option (List D×St)}{Bd:D→St→Prop}{p:D→Bool}{g:D→List D}:∀ {ds:List D},
  (∀d∈ds,∀τ,Ahg T σ τ→∃τ',Cy tg d τ=some τ'∧Ahg T σ τ'∧Bd d τ')→(∀d∈ds,∀τ,Ahg T σ τ→Bd d τ→G9 F conds τ=some (p d,τ))→
  (∀d∈ds,p d=true→∀τ acc,Ahg T σ τ→Bd d τ→acc.length+(g d).length≤line→∃τ',body τ acc=some (acc++g d,τ')∧Ahg T σ τ')→
  ∀τ acc,Ahg T σ τ→acc.length+((ds.filter p).flatMap g).length≤line→∃τ',E7 F tg conds body ds τ acc=some (acc++(ds.filter p).flatMap g,τ')∧Ahg T σ τ'
 |[],_,_,_,τ,acc,hn,_=>⟨τ,by simp [lC_n],hn⟩
 |d :: ds,h1,h2,h3,τ,acc,hn,hl=>by
  obtain ⟨τ₁,e1,n1,b1⟩:=h1 d List.mem_cons_self τ hn
  have e2:=h2 d List.mem_cons_self τ₁ n1 b1
  have ih:=fun (τ:St) (acc:List D)=>Dr (ds:=ds) (fun d hd=>h1 d (List.mem_cons_of_mem _ hd)) (fun d hd=>h2 d (List.mem_cons_of_mem _ hd)) (fun d hd=>h3 d (List.mem_cons_of_mem _ hd)) τ acc
  cases hp:p d with
  |true=>
   rw [hp] at e2
   rw [List.filter_cons_of_pos hp,List.flatMap_cons,List.length_append] at hl
   obtain ⟨τ₂,e3,n3⟩:=h3 d List.mem_cons_self hp τ₁ acc n1 b1 (by lia)
   obtain ⟨τ',e4,n4⟩:=ih τ₂ (acc++g d) n3 (by rw [List.length_append];lia)
   refine ⟨τ',?_,n4⟩
   rw [List.filter_cons_of_pos hp,List.flatMap_cons,← List.append_assoc]
   exact (N2 e1 e2 e3).trans e4
  |false=>
   rw [hp] at e2
   rw [List.filter_cons_of_neg (by simp [hp])] at hl ⊢
   obtain ⟨τ',e4,n4⟩:=ih τ₁ acc n1 hl
   refine ⟨τ',?_,n4⟩
   exact (Xo e1 e2).trans e4
theorem Gw{elt:E}{d:D}{acc:List D}(h:F.ev elt τ=some (d,τ))(hl:acc.length<line):Eb F elt [] τ acc=some (acc++[d],τ):=by
 show (F.ev elt τ).bind _=_
 rw [h];exact if_pos hl
theorem Ch{elt:E}{tg:Tg}{it:E}{cs:List E}{gs:List (Tg×E×List E)}{ds:List D}{acc:List D}(h:items F it σ=some (ds,σ₁)):Eb F elt ((tg,it,cs) :: gs) σ acc=E7 F tg cs (Eb F elt gs) ds σ₁ acc:=by
 show (items F it σ).bind _=_
 rw [h];rfl
theorem Jl{T:List Nat}{i:Nat}(hi:i∈T)(hl:i<σ.length)(d:D)(τ:St)(h:Ahg T σ τ):∃τ',Cy (.v i) d τ=some τ'∧Ahg T σ τ'∧τ'.get i=some (.sh,d):=
 ⟨τ.put i (.sh,d),rfl,h.put hi _,by rw [Ag6 _ _ _ _ (by rw [h.len];exact hl),if_pos rfl]⟩
theorem Bk{α β:Type}(f:α→β)(l:List α):(l.flatMap fun a=>[f a])=l.map f:=by
 induction l with
 |nil=>rfl
 |cons a l ih=>simp [List.flatMap_cons,ih]
theorem Gv{elt it:E}{i:Nat}{cs:List E}{ds:List D}{p:D→Bool}{g:D→D}(hi:σ.get i=none)(hl:i<σ.length)(hit:items F it σ₁=some (ds,σ))
  (hc:∀d∈ds,∀τ,Ahg [i] σ τ→τ.get i=some (.sh,d)→G9 F cs τ=some (p d,τ))
  (he:∀d∈ds,p d=true→∀τ,Ahg [i] σ τ→τ.get i=some (.sh,d)→F.ev elt τ=some (g d,τ)) (hz:ds.length≤line) :
  Av F (.comp elt [(.v i,it,cs)]) σ₁=some (.own,.list ((ds.filter p).map g),σ):=by
 have hlen:(ds.filter p).length≤line:=Nat.le_trans (List.length_filter_le ..) hz
 have:=Dr (F:=F) (σ:=σ) (T:=[i]) (tg:=.v i) (conds:=cs) (body:=Eb F elt []) (Bd:=fun d τ=>τ.get i=some (.sh,d)) (p:=p) (g:=fun d=>[g d]) (ds:=ds)
  (fun d ζ τ h=>Jl (by simp) hl d τ h) hc (fun d hd hp τ acc hn hb hz=>⟨τ,Gw (he d hd hp τ hn hb) (by simp at hz;assumption),hn⟩) σ [] (.refl ..) (by rw [Bk];simpa using hlen)
 obtain ⟨τ,e,hn⟩:=this
 rw [Bk,List.nil_append] at e
 rw [I9,Ch hit,e]
 simp only [Option.map_some,Ab2,Ab3,Ab1]
 rw [hn.del1 hi]
theorem C9{elt it:E}{i:Nat}{ds:List D}{g:D→D}(hi:σ.get i=none)(hl:i<σ.length)(hit:items F it σ₁=some (ds,σ))
  (he:∀d∈ds,∀τ,Ahg [i] σ τ→τ.get i=some (.sh,d)→F.ev elt τ=some (g d,τ)) (hz:ds.length≤line) :
  Av F (.comp elt [(.v i,it,[])]) σ₁=some (.own,.list (ds.map g),σ):=by
 have:=Gv (F:=F) (σ:=σ) (σ₁:=σ₁) (elt:=elt) (it:=it) (i:=i) (cs:=[]) (ds:=ds) (p:=fun ζ=>true) (g:=g) hi hl hit (fun d ζ τ ζ ζ=>rfl) (fun d hd ζ=>he d hd) hz
 rw [show ds.filter (fun ζ=>true)=ds from List.filter_eq_self.mpr fun ζ ζ=>rfl] at this
 exact this
end
end Mine
end
section
set_option autoImplicit false
namespace Mine
section
variable {F:Ahl} {σ τ:St}
theorem Ap{i:Nat}{s:Slot}(h:i<σ.length):(σ.put i s).get i=some s:=(Ag6 σ i i s h).trans (if_pos rfl)
theorem Ay{i j:Nat}{s:Slot}(h:j≠i):(σ.put i s).get j=σ.get j:=congrArg Option.join (List.getElem?_set_ne (Ne.symm h))
theorem Di{i j:Nat}{s:Slot}(e:σ.put i s=τ)(h:j≠i):τ.get j=σ.get j:=e ▸ Ay h
theorem Bg{i:Nat}{s:Slot}(e:σ.put i s=τ):τ.length=σ.length:=e ▸ Ag7 ..
theorem lp0{n i:Nat}(h:σ.length=n)(k:i<n):i<σ.length:=h.symm ▸ k
theorem lp1{n i j:Nat}{s:Slot}(h:σ.length=n)(k:i<n):i<(σ.put j s).length:=lp0 ((Ag7 ..).trans h) k
theorem lp2{n i j m:Nat}{s t:Slot}(h:σ.length=n)(k:i<n):i<((σ.put j s).put m t).length:=lp1 ((Ag7 ..).trans h) k
theorem nin{j k:Nat}{l:List Nat}(h:k≤j)(hl:(l.all fun x=>decide (x<k))=true):j∉l:=fun m=>Nat.lt_irrefl _ (Nat.lt_of_lt_of_le (of_decide_eq_true (List.all_eq_true.mp hl j m)) h)
theorem kd_l{l:List D}:kd (.list l)=2:=rfl
theorem kd_s{l:List Nat}:kd (.str l)=1:=rfl
theorem Gg{s:S}{r:List S}{σ₁:St}(h:F.ex s σ=some (.next,σ₁)):exs F (s :: r) σ=exs F r σ₁:=by rw [C0,h];rfl
end
end Mine
end
section
set_option autoImplicit false
namespace Mine
section
variable {P:List (Nat×Ahc)} {n:Nat} {F:Ahl} {σ:St}
theorem c38(h:P.lookup 38=some G1.Ah4){x:Int}:(Ev P (n+5)).call 38 [(.sh,.int x)]=some (.bool (decide (x<256)),some (.sh,.int x)):=by
 refine C4 (ss:=[(.sh,.int x)]) (d:=.bool (decide (x<256))) (σ:=[some (.sh,.int x)]) h rfl ?_ rfl
 delta G1.Ah4 G1.Aif B6
 exact L0 (Pc (Af rfl) rfl rfl)
theorem c45(h:P.lookup 45=some G1.Ah5){x:Int}:(Ev P (n+5)).call 45 [(.sh,.int x)]=some (.bool (decide (256≤x)),some (.sh,.int x)):=by
 refine C4 (ss:=[(.sh,.int x)]) (d:=.bool (decide (256≤x))) (σ:=[some (.sh,.int x)]) h rfl ?_ rfl
 delta G1.Ah5 G1.Aig B6
 exact L0 (r_ge (Af rfl) rfl rfl)
theorem c52(h:P.lookup 52=some G1.Ah6){x:Int}:(Ev P (n+5)).call 52 [(.sh,.int x)]=some (.bool (decide (x=0)),some (.sh,.int x)):=by
 refine C4 (ss:=[(.sh,.int x)]) (d:=.bool (decide (x=0))) (σ:=[some (.sh,.int x)]) h rfl ?_ rfl
 delta G1.Ah6 G1.Aih B6
 exact L0 (H9 (Af rfl) rfl rfl)
noncomputable def P3(p:Nat×List Nat):S:=.ite (.cmp .isIn (.lit (.str [p.1])) (.var 0)) [.asg 0 (.repl (.var 0) (.Ahi [p.1]) p.2)] []
noncomputable def Fc(l:List (Nat×List Nat))(t:List Nat):List Nat:=l.foldl (fun t p=>A6 p.1 p.2 t) t
theorem Ht{c x:Nat}{w t:List Nat}:A6 c w (x :: t)=(if x=c then w else [x])++A6 c w t:=by simp [A6]
theorem Pa{c:Nat}{w:List Nat}:∀ {t:List Nat},t.contains c=false→A6 c w t=t
 |[],_=>rfl
 |x :: t,h=>by
  simp only [List.contains_cons,Bool.or_eq_false_iff] at h
  rw [Ht,Pa h.2,if_neg (fun q=>by subst q;simp at h)];rfl
theorem Kv{c:Nat}{w:List Nat}(hw:0<w.length):∀(t:List Nat),t.length≤(A6 c w t).length
 |[]=>Nat.le_refl _
 |x :: t=>by
  have:=Kv (c:=c) hw t
  rw [Ht,List.length_append,List.length_cons]
  split
  ·lia
  ·simp;exact Nat.sub_le_iff_le_add'.mp this
theorem Nb:∀(l:List (Nat×List Nat)),(∀p∈l,0<p.2.length)→∀t,t.length≤(Fc l t).length
 |[],_,t=>Nat.le_refl _
 |p :: l,h,t=>Nat.le_trans (Kv (h p List.mem_cons_self) t) (Nb l (fun q hq=>h q (List.mem_cons_of_mem _ hq)) _)
theorem Kw{c:Nat}{w:List Nat}{f:Nat→List Nat}:∀(t:List Nat),A6 c w (t.flatMap f)=t.flatMap fun x=>A6 c w (f x)
 |[]=>rfl
 |x :: t=>by
  rw [List.flatMap_cons,List.flatMap_cons,← Kw t]
  simp [A6]
theorem Lw:∀(l:List (Nat×List Nat)) (t:List Nat) (f:Nat→List Nat),Fc l (t.flatMap f)=t.flatMap fun x=>Fc l (f x)
 |[],_,_=>rfl
 |p :: l,t,f=>by
  show Fc l (A6 p.1 p.2 (t.flatMap f))=_
  rw [Kw,Lw l];rfl
noncomputable def code(l:List (Nat×List Nat))(x:Nat):List Nat:=Fc l [x]
theorem Y2(l:List (Nat×List Nat))(t:List Nat):Fc l t=t.flatMap (code l):=by
 have:=Lw l t (fun x=>[x])
 rw [show t.flatMap (fun x=>[x])=t by induction t <;> simp_all] at this
 exact this
noncomputable def okE(l:List (Nat×List Nat)):Bool:=l.all fun p=>decide (0<p.2.length) && decide (p.2.length≤64) && decide (p.2≠[p.1]) && decide (p.1<256)
theorem Tm:∀(l:List (Nat×List Nat)) (t:List Nat),okE l=true→(Fc l t).length≤4096→exs (Ev P (n+6)) (l.map P3++[.ret (.var 0)]) [some (.sh,.str t)]=some (.ret (.str (Fc l t)),[some (.sh,.str (Fc l t))])
 |[],t,_,_=>by simp [Fc]
 |p :: l,t,h,hz=>by
  obtain ⟨c,w⟩:=p
  have h':okE l=true∧0<w.length∧w.length≤64∧w≠[c]∧c<256:=by
   simp only [okE,List.all_cons,Bool.and_eq_true,decide_eq_true_eq] at h ⊢
   obtain ⟨⟨⟨⟨a,b⟩,c'⟩,d⟩,e⟩:=h
   exact ⟨e,a,b,c',d⟩
  obtain ⟨hl,h1,h2,h3,h4⟩:=h'
  have hpos:∀p∈l,0<p.2.length:=fun p hp=>by
   have:=List.all_eq_true.mp hl p hp
   simp only [Bool.and_eq_true,decide_eq_true_eq] at this
   exact this.1.1.1
  have hz':(Fc l (A6 c w t)).length≤4096:=hz
  have ht:t.length≤4096:=Nat.le_trans (Nat.le_trans (Kv h1 t) (Nb l hpos _)) hz'
  have st:(Ev P (n+6)).ex (P3 (c,w)) [some (.sh,.str t)]=some (.next,[some (.sh,.str (A6 c w t))]):=by
   delta P3
   by_cases hc:t.contains c=true
   ·have hc':c∈t:=by simpa using hc
    simp [iE7,C3,hc',ht,h2,h3,h4]
   ·have hc2:t.contains c=false:=by simpa using hc
    have hc':c∉t:=by simpa using hc
    simp [iE7,C3,hc',Pa hc2]
  rw [List.map_cons,List.cons_append,C0,st,Ax]
  exact Tm l (A6 c w t) hl hz'
theorem Yk{a:Nat}{f:Ahc}{l:List (Nat×List Nat)}(hf:P.lookup a=some f)(he:f=⟨1,1,[.Aht (l.map P3++[.ret (.var 0)])]⟩)(ho:okE l=true){t:List Nat}(hz:(t.flatMap (code l)).length≤4096) :
  (Ev P (n+8)).call a [(.sh,.str t)]=some (.str (t.flatMap (code l)),some (.sh,.str (t.flatMap (code l)))):=by
 subst he
 rw [← Y2] at hz ⊢
 refine C4 (σ:=[some (.sh,.str (Fc l t))]) (d:=.str (Fc l t)) hf rfl ?_ rfl
 have e:=Tm (P:=P) (n:=n) l t ho hz
 delta B6
 simp only [C0,De,Aeg]
 show Bt _ (exs _ _ [some (.sh,.str t)])=_
 rw [e]
 rfl
noncomputable def Af7:List (Nat×List Nat):=[(38,[38,97,109,112,59]),(60,[38,108,116,59]),(62,[38,103,116,59])]
noncomputable def esc1:List (Nat×List Nat):=Af7++[(34,[38,113,117,111,116,59]),(13,[38,35,49,51,59]),(10,[38,35,49,48,59]),(9,[38,35,48,57,59])]
noncomputable def esc2:List (Nat×List Nat):=[(38,[38,97,109,112,59]),(62,[38,103,116,59]),(34,[38,113,117,111,116,59])]
noncomputable def esc3:List (Nat×List Nat):=Af7++[(13,[38,35,120,68,59])]
noncomputable def esc4:List (Nat×List Nat):=[(38,[38,97,109,112,59]),(60,[38,108,116,59]),(34,[38,113,117,111,116,59]),(9,[38,35,120,57,59]),(10,[38,35,120,65,59]),(13,[38,35,120,68,59])]
noncomputable def Ai:Nat→List (Nat×List Nat)
 |0=>Af7 | 1=>esc1 | 2=>esc2 | 3=>esc3 | _=>esc4
noncomputable def Ft(o:List Int)(g:Nat):List Int:=match o,g with
 |[a,b,c,d],0=>if a<b then [b,a,c,d] else [a,b,c,d]
 |[a,b,c,d],1=>if b<c then [a,c,b,d] else [a,b,c,d]
 |[a,b,c,d],2=>if c<d then [a,b,d,c] else [a,b,c,d]
 |o,_=>o
theorem len4{α:Type}{P:List α→Prop}(h:∀a b c d,P [a,b,c,d]){o:List α}(e:o.length=4):P o:=by
 obtain ⟨a,o,rfl⟩:=List.exists_cons_of_length_eq_add_one e
 obtain ⟨b,o,rfl⟩:=List.exists_cons_of_length_eq_add_one (Nat.succ.inj e)
 obtain ⟨c,o,rfl⟩:=List.exists_cons_of_length_eq_add_one (Nat.succ.inj (Nat.succ.inj e))
 obtain ⟨d,rfl⟩:=List.length_eq_one_iff.mp (Nat.succ.inj (Nat.succ.inj (Nat.succ.inj e)))
 exact h a b c d
theorem Rr{p:Prop}[Decidable p]{a b:List Int}{n:Nat}(ha:a.length=n)(hb:b.length=n):(if p then a else b).length=n:=by
 by_cases h:p
 ·rw [if_pos h];exact ha
 ·rw [if_neg h];exact hb
theorem T8{o:List Int}(h:o.length=4)(g:Nat):(Ft o g).length=4:=
 len4 (P:=fun o=>(Ft o g).length=4) (fun a b c d=>by
  induction g using Nat.casesAuxOn with
  |zero=>exact Rr rfl rfl
  |succ g=>induction g using Nat.casesAuxOn with
   |zero=>exact Rr rfl rfl
   |succ g=>induction g using Nat.casesAuxOn with
    |zero=>exact Rr rfl rfl
    |succ g=>rfl) h
theorem sM0{a b c d:Int}:Ft [a,b,c,d] 0=if a<b then [b,a,c,d] else [a,b,c,d]:=rfl
theorem sM1{a b c d:Int}:Ft [a,b,c,d] 1=if b<c then [a,c,b,d] else [a,b,c,d]:=rfl
theorem sM2{a b c d:Int}:Ft [a,b,c,d] 2=if c<d then [a,b,d,c] else [a,b,c,d]:=rfl
noncomputable def Es(gs:List Nat):List Int:=gs.foldl Ft [0,1,2,3]
noncomputable def bM:List S:=[.ite (.call (.glob (.fn 38)) [(.bin .sub (.bin .add (.lit (.int 256)) (.idx (.var 1) (.var 2))) (.idx (.var 1) (.bin .add (.var 2) (.lit (.int 1)))))] false) [.swp 1 [(.var 2),(.bin .add (.var 2) (.lit (.int 1)))] [(.idx (.var 1) (.bin .add (.var 2) (.lit (.int 1)))),(.idx (.var 1) (.var 2))]] []]
noncomputable def σM(gs:List Nat)(o:List Int)(x:Option Slot):St:=[some (.sh,.list (gs.map fun g:Nat=>D.int g)),some (.own,.list (o.map .int)),x]
theorem Ql(l:List Int):(l.map D.int).map Ai5=l.map D.int:=by
 rw [List.map_map];rfl
theorem bM_ok(h38:P.lookup 38=some G1.Ah4){gs:List Nat}{o:List Int}{g:Nat}(ho:o.length=4)(hg:g<3):exs (Ev P (n+10)) bM (σM gs o (some (.sh,.int g)))=some (.next,σM gs (Ft o g) (some (.sh,.int g))):=by
 refine len4 (P:=fun o=>exs (Ev P (n+10)) bM (σM gs o (some (.sh,.int g)))=some (.next,σM gs (Ft o g) (some (.sh,.int g)))) (fun a b c d=>?_) ho
 have k:∀x,(Ev P (n+5+2)).call 38 [(.sh,.int x)]=some (.bool (decide (x<256)),some (.sh,.int x)):=fun x=>c38 (n:=n+2) h38
 delta bM σM
 have hg3:g=0∨g=1∨g=2:=lt3 (P:=fun r=>r=0∨r=1∨r=2) (.inl rfl) (.inr (.inl rfl)) (.inr (.inr rfl)) hg
 rcases hg3 with rfl | rfl | rfl
 ·skip
  have e0:Ar (.list [.int a,.int b,.int c,.int d]) (.int 0)=some (.int a):=rfl
  have e1:Ar (.list [.int a,.int b,.int c,.int d]) (.int 1)=some (.int b):=rfl
  have s0:D0 (.list [.int a,.int b,.int c,.int d]) (.int 0) (.int b)=some (.list [.int b,.int b,.int c,.int d]):=rfl
  have s1:D0 (.list [.int b,.int b,.int c,.int d]) (.int 1) (.int a)=some (.list [.int b,.int a,.int c,.int d]):=rfl
  by_cases q:a<b
  ·have q':256+a - b<256:=by lia
   simp [e0,e1,s0,s1,k,sM0,q,q']
  ·have q':¬256+a - b<256:=by lia
   simp [e0,e1,k,sM0,q,q']
 ·skip
  have e0:Ar (.list [.int a,.int b,.int c,.int d]) (.int 1)=some (.int b):=rfl
  have e1:Ar (.list [.int a,.int b,.int c,.int d]) (.int 2)=some (.int c):=rfl
  have s0:D0 (.list [.int a,.int b,.int c,.int d]) (.int 1) (.int c)=some (.list [.int a,.int c,.int c,.int d]):=rfl
  have s1:D0 (.list [.int a,.int c,.int c,.int d]) (.int 2) (.int b)=some (.list [.int a,.int c,.int b,.int d]):=rfl
  by_cases q:b<c
  ·have q':256+b - c<256:=by lia
   simp [e0,e1,s0,s1,k,sM1,q,q']
  ·have q':¬256+b - c<256:=by lia
   simp [e0,e1,k,sM1,q,q']
 ·skip
  have e0:Ar (.list [.int a,.int b,.int c,.int d]) (.int 2)=some (.int c):=rfl
  have e1:Ar (.list [.int a,.int b,.int c,.int d]) (.int 3)=some (.int d):=rfl
  have s0:D0 (.list [.int a,.int b,.int c,.int d]) (.int 2) (.int d)=some (.list [.int a,.int b,.int d,.int d]):=rfl
  have s1:D0 (.list [.int a,.int b,.int d,.int d]) (.int 3) (.int c)=some (.list [.int a,.int b,.int d,.int c]):=rfl
  by_cases q:c<d
  ·have q':256+c - d<256:=by lia
   simp [e0,e1,s0,s1,k,sM2,q,q']
  ·have q':¬256+c - d<256:=by lia
   simp [e0,e1,k,sM2,q,q']
theorem Tj(h38:P.lookup 38=some G1.Ah4){gs:List Nat}:∀(r:List Nat) (o:List Int) (x:Option Slot),(∀g∈r,g<3)→o.length=4→
  ∃y,Dl (Ev P (n+10)) (.v 2) bM (r.map fun g:Nat=>D.int g) (σM gs o x)=some (.next,σM gs (r.foldl Ft o) y)
 |[],o,x,_,_=>⟨x,rfl⟩
 |g :: r,o,x,h,ho=>by
  obtain ⟨y,e⟩:=Tj h38 (gs:=gs) r (Ft o g) (some (.sh,.int g)) (fun g hg=>h g (List.mem_cons_of_mem _ hg)) (T8 ho g)
  refine ⟨y,?_⟩
  rw [List.map_cons,Fp]
  simp only [Vf,Option.bind_some]
  rw [show St.put (σM gs o x) 2 (.sh,.int (g:Nat))=σM gs o (some (.sh,.int g)) from rfl,bM_ok h38 ho (h g List.mem_cons_self),Ax]
  exact e
theorem c113(h38:P.lookup 38=some G1.Ah4)(h:P.lookup 113=some G1.Aia){gs:List Nat}(hg:∀g∈gs,g<3) :
  (Ev P (n+12)).call 113 [(.sh,.list (gs.map fun g:Nat=>D.int g))]=some (.list ((Es gs).map .int),some (.sh,.list (gs.map fun g:Nat=>D.int g))):=by
 obtain ⟨y,e⟩:=Tj (n:=n) h38 (gs:=gs) gs [0,1,2,3] none hg rfl
 have:=C4 (P:=P) (n:=n+11) (a:=113) (f:=G1.Aia) (ss:=[(.sh,.list (gs.map fun g:Nat=>D.int g))]) (d:=.list ((Es gs).map .int)) (σ:=(σM gs (Es gs) y).put 1 (.sh,.list ((Es gs).map .int))) h rfl ?_ rfl
 ·rw [this]
  simp only [wk_l,Ql];rfl
 ·rw [show G1.Aia.body=[.asg 1 (.list [(.lit (.int 0)),(.lit (.int 1)),(.lit (.int 2)),(.lit (.int 3))]),.for (.v 2) (.var 0) bM,.ret (.var 1)] from rfl,
   show B6 G1.Aia [(.sh,.list (gs.map fun g:Nat=>D.int g))]=[some (.sh,.list (gs.map fun g:Nat=>D.int g)),none,none] from rfl]
  have e':Dl (Ev P (n+10)) (.v 2) bM (gs.map fun g:Nat=>D.int g) [some (.sh,.list (gs.map fun g:Nat=>D.int g)),some (.own,.list [.int 0,.int 1,.int 2,.int 3]),none]=some (.next,σM gs (Es gs) y):=e
  simp [line,Ea,e']
  rfl
end
end Mine
end
section
set_option autoImplicit false
namespace Mine
abbrev Au:=List (List (Nat×Nat))
noncomputable def Mo(φ:Nat→Option (List (List Nat))):List (Nat×Nat)→Option (List (List Nat))
 |[]=>some []
 |p :: ws=>(φ p.2).bind fun rs=>(Mo φ ws).map fun R=>rs.map (·++[p.1])++R
noncomputable def rowsW(φ:Nat→Option (List (List Nat)))(ws:List (Nat×Nat)):Option (List (List Nat)):=List.casesOn ws (some [[]]) fun w ws=>Mo φ (w :: ws)
noncomputable def He(st:Au):Nat→Nat→Option (List (List Nat))
 |0,_=>none
 |f+1,k=>(st[k]?).bind (rowsW (He st f))
set_option tactic.hygienic true in
theorem H6{φ:Nat→Option (List (List Nat))}:∀ {ws:List (Nat×Nat)} {R:List (List Nat)},Mo φ ws=some R→(∀p∈ws,∃rs,φ p.2=some rs)∧R=ws.flatMap fun p=>((φ p.2).getD []).map (·++[p.1])
 |[],R,h=>by obtain rfl:=Ag h;exact ⟨by simp,rfl⟩
 |p :: ws,R,h=>by
  obtain ⟨rs,h1,h⟩:=bs h
  obtain ⟨R',h2,rfl⟩:=ms h
  obtain ⟨a,b⟩:=H6 h2
  refine ⟨fun q hq=>?_,by rw [List.flatMap_cons,h1,← b];rfl⟩
  rcases List.mem_cons.mp hq with e | e
  ·exact ⟨rs,by rw [e];exact h1⟩
  ·exact a q e
theorem I6{st:Au}:∀ {f k:Nat} {R:List (List Nat)},He st f k=some R→∀r∈R,r.length<f
 |0,_,_,h,_,_=>by exact nos h
 |f+1,k,R,h,r,hr=>by
  obtain ⟨ws,_,h⟩:=bs h
  induction ws using List.casesOn with
  |nil=>
   obtain rfl:=Ag h
   have:r=[]:=by simpa using hr
   subst this;simp
  |cons w ws=>
   obtain ⟨h1,h2⟩:=H6 h
   rw [h2] at hr
   obtain ⟨p,hp,hr⟩:=List.mem_flatMap.mp hr
   obtain ⟨rs,e⟩:=h1 p hp
   rw [e] at hr
   obtain ⟨r',hr',rfl⟩:=List.mem_map.mp hr
   have:=I6 e r' hr'
   rw [List.length_append,List.length_singleton];exact Nat.add_lt_add_right this 1
noncomputable def Dj(num:Nat→Int)(g:Nat):D:=.int (num g)
noncomputable def Cb(num:Nat→Int)(ws:List (Nat×Nat)):List D:=ws.flatMap fun p=>[.int (256+(p.2:Nat)),Dj num p.1]
noncomputable def Ca(num:Nat→Int):Nat→Au→List (Int×D)
 |_,[]=>[]
 |k,w :: st=>(256+(k:Nat),.list (Cb num w)) :: Ca num (k+1) st
theorem sF_n{num:Nat→Int}{k:Nat}:Ca num k []=[]:=rfl
theorem Aeh{num:Nat→Int}{k:Nat}{w:List (Nat×Nat)}{st:Au}:Ca num k (w :: st)=((256+(k:Nat):Int),D.list (Cb num w)) :: Ca num (k+1) st:=rfl
noncomputable def Bp(num:Nat→Int)(st:Au):D:=.Ahe (Ca num 0 st)
theorem Mm{num:Nat→Int}:∀(st:Au) (j k:Nat),Be (Ca num j st) (256+((j+k:Nat):Int))=(st[k]?).map fun w=>.list (Cb num w)
 |[],j,k=>by simp [sF_n,Be]
 |w :: st,j,0=>by simp [Aeh,Be]
 |w :: st,j,k+1=>by
  have ih:=Mm (num:=num) st (j+1) k
  rw [show j+1+k=j+(k+1) by exact Nat.succ_add_eq_add_succ j k] at ih
  rw [List.getElem?_cons_succ,← ih]
  simp only [Aeh,Be]
  rw [List.find?_cons_of_neg (by simp;lia)]
theorem O5{num:Nat→Int}:∀(ws:List (Nat×Nat)),(Cb num ws).length=2 * ws.length
 |[]=>rfl
 |p :: ws=>by
  have:=O5 (num:=num) ws
  unfold Cb at this ⊢
  rw [List.flatMap_cons,List.length_append,this];simp;lia
theorem O6{num:Nat→Int}:∀(ws:List (Nat×Nat)) (j:Nat) (p:Nat×Nat),ws[j]? = some p→((Cb num ws).take (2 * j+2)).drop (2 * j)=[.int (256+(p.2:Nat)),Dj num p.1]
 |[],j,p,h=>by simp at h
 |w :: ws,0,p,h=>by
  simp at h;subst h
  simp [Cb]
 |w :: ws,j+1,p,h=>by
  have ih:=O6 (num:=num) ws j p (by simpa using h)
  rw [← ih]
  delta Cb
  rw [List.flatMap_cons,show 2 * (j+1)+2=2 * j+2+2 by exact Nat.add_left_inj.mpr rfl,show 2 * (j+1)=2 * j+2 by exact Nat.mul_succ 2 j]
  simp
theorem Aes(k:Nat):Bx 0 (2 * (k:Int)) 2=(List.range k).map fun i:Nat=>2 * (i:Int):=by
 delta Bx rsz
 rw [if_pos (by decide)]
 by_cases h:k=0
 ·subst h;rfl
 ·rw [if_pos (Int.mul_pos (by decide) (Int.natCast_pos.mpr (Nat.pos_of_ne_zero h))),show ((2 * (k:Int) - 0 - 1) / 2+1).toNat=k from row2 h]
  congr 1
  funext i;rw [Int.zero_add,Int.mul_comm]
noncomputable def Ku(num:Nat→Int)(r:List Nat):D:=.list (r.map (Dj num))
noncomputable def Bm(num:Nat→Int)(rs:List (List Nat)):List D:=rs.map (Ku num)
noncomputable def E2(num:Nat→Int)(p:Nat×Nat):D:=.list [.int (256+(p.2:Nat)),Dj num p.1]
section
variable {P:List (Nat×Ahc)} {n:Nat} {F:Ahl} {σ:St}
theorem T1(num:Nat→Int)(rs:List (List Nat)):weak (.list (Bm num rs))=.list (Bm num rs):=by
 show D.list ((rs.map (Ku num)).map Ai5)=.list (rs.map (Ku num))
 rw [List.map_map];rfl
theorem V6{xs:List D}{a b:Nat}(ha:a<2 ^ 60)(hb:b<2 ^ 60)(h:a≤b):Em (.list xs) (.int a) (.int b) false=some (.list ((xs.take b).drop a)):=by
 simp only [Em,Aee,Uw,Option.bind_some,B8 ha,B8 hb,if_true,cut,bnd]
 rw [if_pos (by exact Int.natCast_nonneg a),if_pos (by exact Int.natCast_nonneg b),Int.toNat_natCast,Int.toNat_natCast]
 rw [show a.min xs.length=min a xs.length from rfl,show b.min xs.length=min b xs.length from rfl]
 congr 2
 by_cases h1:b≤xs.length
 ·rw [Nat.min_eq_left h1,Nat.min_eq_left (by exact Nat.le_trans h h1)]
 ·rw [Nat.min_eq_right (by exact Nat.le_of_not_ge h1:xs.length≤b),List.take_length,List.take_of_length_le (by exact Nat.le_of_not_ge h1)]
  by_cases h2:a≤xs.length
  ·rw [Nat.min_eq_left h2]
  ·rw [Nat.min_eq_right (by exact Nat.le_of_not_ge h2),List.drop_length,List.drop_eq_nil_of_le (by exact Nat.le_of_not_ge h2)]
noncomputable def P5:E:=.comp (.slc (.idx (.var 0) (.var 1)) (some (.var 4)) (some (.bin .add (.var 4) (.lit (.int 2)))) false) [(.v 4,(.bi .range [(.lit (.int 0)),(.bi .len [(.idx (.var 0) (.var 1))]),(.lit (.int 2))]),[])]
noncomputable def P6:E:=.comp (.bin .add (.var 6) (.var 7)) [(.v 5,(.var 2),[]),(.v 6,(.call (.glob (.fn 125)) [(.var 0),(.idx (.var 5) (.lit (.int 0)))] false),[]),(.v 7,(.call (.glob (.fn 125)) [(.var 0),(.idx (.var 5) (.lit (.int 1)))] false),[])]
noncomputable def σR(S:D)(k:Int)(x2 x3:Option Slot):St:=[some (.sh,S),some (.sh,.int k),x2,x3,none,none,none,none]
theorem Sg{num:Nat→Int}{es:List (Int×D)}{k:Int}{ws:List (Nat×Nat)}(hg:Be es k=some (.list (Cb num ws)))(hw:ws.length<2 ^ 18) :
  Av (Ev P (n+5)) P5 (σR (.Ahe es) k none none)=some (.own,.list (ws.map (E2 num)),σR (.Ahe es) k none none):=by
 have hi:Ar (.Ahe es) (.int k)=some (.list (Cb num ws)):=by simp only [Ar];exact hg
 have hr:biD .range [.int 0,.int (2 * (ws.length:Int)),.int 2]=some (.rng 0 (2 * (ws.length:Int)) 2):=by
  simp only [biD,Ky];rw [if_pos (by simp [Dd (show (2 * (ws.length:Int)).natAbs<2 ^ 60 from (show 2 * ws.length<2 ^ 60 from Nat.lt_of_le_of_lt (Nat.mul_le_mul_left 2 (Nat.le_of_lt (by assumption))) (by decide)))];exact ⟨rfl,rfl⟩)]
 have hit:Fn (.rng 0 (2 * (ws.length:Int)) 2)=some ((List.range ws.length).map fun i:Nat=>D.int (2 * (i:Int))):=by
  simp only [Xs]
  rw [if_pos (by rw [show E3 (2 * (ws.length:Int))=true from decide_eq_true (show 2 * ws.length<2 ^ 40 from Nat.lt_of_le_of_lt (Nat.mul_le_mul_left 2 (Nat.le_of_lt (by assumption))) (by decide))];rfl),Aes,List.map_map];rfl
 have it:items (Ev P (n+5)) (.bi .range [(.lit (.int 0)),(.bi .len [(.idx (.var 0) (.var 1))]),(.lit (.int 2))]) (σR (.Ahe es) k none none)=some ((List.range ws.length).map fun i:Nat=>D.int (2 * (i:Int)),σR (.Ahe es) k none none):=by
  rw [Ao rfl]
  delta σR
  simp [hi,O5,hr,hit,A8]
 have key:=C9 (F:=Ev P (n+5)) (i:=4) (elt:=.slc (.idx (.var 0) (.var 1)) (some (.var 4)) (some (.bin .add (.var 4) (.lit (.int 2)))) false) (g:=fun d=>match d with
   |.int j=>(match ws[(j / 2).toNat]? with | some p=>E2 num p | none=>.none)
   |_=>.none) (σ:=σR (.Ahe es) k none none) rfl (by show 4<8;decide) it (fun d hd τ hn hb=>?_) (by rw [List.length_map,List.length_range];delta line;lia)
 ·delta P5
  rw [key,List.map_map]
  congr 4
  apply List.ext_getElem?
  intro j
  rw [List.getElem?_map,List.getElem?_map]
  by_cases hj:j<ws.length
  ·rw [List.getElem?_range hj]
   simp only [Option.map_some,Function.comp]
   rw [show ((2 * (j:Int)) / 2).toNat=j by lia,List.getElem?_eq_getElem hj]
   rfl
  ·rw [List.getElem?_eq_none (by simpa using hj),List.getElem?_eq_none (by simpa using hj)];rfl
 ·obtain ⟨j,hj,rfl⟩:=List.mem_map.mp hd
  have hj':j<ws.length:=List.mem_range.mp hj
  dsimp only
  rw [show ((2 * (j:Int)) / 2).toNat=j by lia,List.getElem?_eq_getElem hj']
  have g0:τ.get 0=some (.sh,.Ahe es):=hn.get 0 (by decide)
  have g1:τ.get 1=some (.sh,.int k):=hn.get 1 (by decide)
  have sc:=V6 (xs:=Cb num ws) (a:=2 * j) (b:=2 * j+2) (by lia) (by lia) (by exact Nat.le_add_right (2 * j) 2)
  rw [O6 ws j ws[j] (List.getElem?_eq_getElem hj')] at sc
  have sc':Em (.list (Cb num ws)) (.int (2 * (j:Int))) (.int (2 * (j:Int)+2)) false=some (E2 num ws[j]):=by
   rw [show (2 * (j:Int))=((2 * j:Nat):Int) by exact Eq.symm (Nat.ToInt.mul_congr rfl rfl),show (((2 * j:Nat):Int)+2)=((2 * j+2:Nat):Int) by lia]
   exact sc
  exact Hg (Aac (Cm g0 (Af g1) hi) rfl) (K2 (Af hb)) (K2 (B0 (Af hb) Bf rfl)) (Aad rfl) sc'
theorem Zw(h38:P.lookup 38=some G1.Ah4)(h125:P.lookup 125=some G1.Ah7){S:D}{x:Int}(hx:x<256):(Ev P (n+11)).call 125 [(.sh,S),(.sh,.int x)]=some (.list [.list [.int x]],some (.sh,.int x)):=by
 have k:=c38 (P:=P) (n:=n+2) h38 (x:=x)
 have hx':decide (x<256)=true:=decide_eq_true hx
 rw [hx'] at k
 have e:exs (Ev P (n+10)) G1.Ah7.body (B6 G1.Ah7 [(.sh,S),(.sh,.int x)])=some (.ret (.list [.list [.int x]]),σR S x none none):=by
  rw [show B6 G1.Ah7 [(.sh,S),(.sh,.int x)]=σR S x none none from rfl]
  delta G1.Ah7 G1.Aii σR
  simp [k,line]
 exact C4 (P:=P) (n:=n+10) (a:=125) (f:=G1.Ah7) (d:=.list [.list [.int x]]) (σ:=σR S x none none) h125 rfl e rfl
theorem Tc{num:Nat→Int}{p:Nat×Nat}:Ar (E2 num p) (.int 0)=some (.int (256+(p.2:Nat)))∧Ar (E2 num p) (.int 1)=some (Dj num p.1):=⟨rfl,rfl⟩
theorem Wq{num:Nat→Int}{S:D}{k:Int}{ws:List (Nat×Nat)}{φ:Nat→Option (List (List Nat))}{R:List (List Nat)}{x3:Option Slot}
  (hR:Mo φ ws=some R) (hz:R.length≤line) (hlen:∀p∈ws,∀rs,φ p.2=some rs→∀r∈rs,r.length<1000)
  (hc:∀p∈ws,∀rs,φ p.2=some rs→(Ev P (n+2)).call 125 [(.sh,S),(.sh,.int (256+(p.2:Nat)))]=some (.list (Bm num rs),some (.sh,.int (256+(p.2:Nat)))))
  (ht:∀p∈ws,(Ev P (n+2)).call 125 [(.sh,S),(.sh,Dj num p.1)]=some (.list [.list [Dj num p.1]],some (.sh,Dj num p.1))) :
  Av (Ev P (n+3)) P6 (σR S k (some (.own,.list (ws.map (E2 num)))) x3)=some (.own,.list (Bm num R),σR S k (some (.sh,.list (ws.map (E2 num)))) x3):=by
 obtain ⟨h1,h2⟩:=H6 hR
 generalize hσ:σR S k (some (.sh,.list (ws.map (E2 num)))) x3=σ at *
 have l0:σ.length=8:=by rw [← hσ];rfl
 have g0:σ.get 0=some (.sh,S):=by rw [← hσ];rfl
 have it1:items (Ev P (n+3)) (.var 2) (σR S k (some (.own,.list (ws.map (E2 num)))) x3)=some (ws.map (E2 num),σ):=by
  rw [← hσ,Ao rfl];delta σR;simp [Ea]
 let g:D→List D:=fun d=>(ws.filter fun p=>decide (256+(p.2:Int)=(match d with | .list (.int a :: _)=>a | _=>0))).flatMap fun ζ=>[]
 have main:∀(us:List (Nat×Nat)),(∀p∈us,p∈ws)→∀(acc:List D) (τ:St),Ahg [5,6,7] σ τ→acc.length+(us.flatMap fun p=>((φ p.2).getD []).map (·++[p.1])).length≤line→
   ∃τ',E7 (Ev P (n+3)) (.v 5) [] (Eb (Ev P (n+3)) (.bin .add (.var 6) (.var 7)) [(.v 6,(.call (.glob (.fn 125)) [(.var 0),(.idx (.var 5) (.lit (.int 0)))] false),[]),(.v 7,(.call (.glob (.fn 125)) [(.var 0),(.idx (.var 5) (.lit (.int 1)))] false),[])])
    (us.map (E2 num)) τ acc=some (acc++Bm num (us.flatMap fun p=>((φ p.2).getD []).map (·++[p.1])),τ')∧Ahg [5,6,7] σ τ':=by
  intro us
  induction us with
  |nil=>intro _ acc τ hn _;exact ⟨τ,by simp [lC_n,Bm],hn⟩
  |cons p us ih=>
   intro hus acc τ hn hl
   have hp:=hus p List.mem_cons_self
   obtain ⟨rs,er⟩:=h1 p hp
   obtain ⟨τ₁,e1,n1,b1⟩:=Jl (σ:=σ) (T:=[5,6,7]) (i:=5) (by simp) (by rw [l0];decide) (E2 num p) τ hn
   rw [List.flatMap_cons,List.length_append,er] at hl
   simp only [Option.getD_some,List.length_map] at hl
   have g0':τ₁.get 0=some (.sh,S):=(n1.get 0 (by decide)).trans g0
   have it2:items (Ev P (n+3)) (.call (.glob (.fn 125)) [(.var 0),(.idx (.var 5) (.lit (.int 0)))] false) τ₁=some (Bm num rs,τ₁):=by
    rw [Ao rfl]
    have hc':=hc p hp rs er
    simp [g0',b1,Tc.1,hc',Ea,A8,again]
   have lp:=Dr (F:=Ev P (n+3)) (σ:=τ₁) (T:=[6,7]) (tg:=.v 6) (conds:=[]) (body:=Eb (Ev P (n+3)) (.bin .add (.var 6) (.var 7)) [(.v 7,(.call (.glob (.fn 125)) [(.var 0),(.idx (.var 5) (.lit (.int 1)))] false),[])])
    (Bd:=fun d τ=>τ.get 6=some (.sh,d)) (p:=fun ζ=>true) (g:=fun d=>mL d [] fun l=>[.list (l++[Dj num p.1])]) (ds:=Bm num rs)
    (fun d ζ τ h=>Jl (by simp) (by rw [n1.len,l0];decide) d τ h) (fun ζ ζ ζ ζ ζ=>rfl) (fun d hd ζ τ acc hn' hb hz'=>?_) τ₁ acc (.refl ..) ?_
   ·obtain ⟨τ₂,e2,n2⟩:=lp
    have n2':Ahg [5,6,7] σ τ₂:=n1.trans (n2.mono (by simp))
    rw [show (Bm num rs).filter (fun ζ=>true)=Bm num rs from List.filter_eq_self.mpr fun ζ ζ=>rfl] at e2
    have ef:((Bm num rs).flatMap fun d=>mL d [] fun l=>[.list (l++[Dj num p.1])])=Bm num (rs.map (·++[p.1])):=by
     delta Bm
     rw [List.flatMap_map]
     show (rs.flatMap fun r=>[D.list (r.map (Dj num)++[Dj num p.1])])=_
     rw [Bk,List.map_map]
     congr 1
     funext r
     simp [Ku]
    rw [ef] at e2
    obtain ⟨τ',e3,n3⟩:=ih (fun q hq=>hus q (List.mem_cons_of_mem _ hq)) (acc++Bm num (rs.map (·++[p.1]))) τ₂ n2' (by rw [List.length_append];delta Bm;rw [List.length_map,List.length_map];lia)
    refine ⟨τ',?_,n3⟩
    rw [List.map_cons,List.flatMap_cons,er]
    rw [N2 e1 G0 ((Ch it2).trans e2),e3]
    simp [Bm]
   ·obtain ⟨r,hr,rfl⟩:=List.mem_map.mp hd
    have n0:Ahg [5,6,7] σ τ:=n1.trans (hn'.mono (by simp))
    have g0'':τ.get 0=some (.sh,S):=(n0.get 0 (by decide)).trans g0
    have b1':τ.get 5=some (.sh,E2 num p):=(hn'.get 5 (by decide)).trans b1
    have it3:items (Ev P (n+3)) (.call (.glob (.fn 125)) [(.var 0),(.idx (.var 5) (.lit (.int 1)))] false) τ=some ([.list [Dj num p.1]],τ):=by
     rw [Ao rfl]
     have ht':=ht p hp
     simp [g0'',b1',Tc.2,ht',Ea,A8,again]
    rw [Ch it3]
    obtain ⟨τ₃,e4,n4,b4⟩:=Jl (σ:=τ₁) (T:=[6,7]) (i:=7) (by simp) (by rw [n1.len,l0];decide) (.list [Dj num p.1]) τ hn'
    have b6:τ₃.get 6=some (.sh,Ku num r):=by
     have e5:τ₃=τ.put 7 (.sh,.list [Dj num p.1]):=by simpa [Cy] using e4.symm
     rw [e5,Ag6 _ _ _ _ (by rw [n0.len,l0];decide),if_neg (by decide)];exact hb
    have hrl:=hlen p hp rs er r hr
    refine ⟨τ₃,?_,n4⟩
    have ev:(Ev P (n+3)).ev (.bin .add (.var 6) (.var 7)) τ₃=some (.list (r.map (Dj num)++[Dj num p.1]),τ₃):=by
     have bd:A3 .add (Ku num r) (.list [Dj num p.1])=some (.list (r.map (Dj num)++[Dj num p.1])):=by
      simp only [A3,Jn,Ku]
      rw [if_pos (by simp [line];lia)]
     simp [b6,b4,bd]
    exact N2 e4 G0 (Gw ev (by have:acc.length+1≤line:=hz';assumption))
   ·rw [show (Bm num rs).filter (fun ζ=>true)=Bm num rs from List.filter_eq_self.mpr fun ζ ζ=>rfl]
    have:((Bm num rs).flatMap fun d=>mL d [] fun l=>[D.list (l++[Dj num p.1])]).length=rs.length:=by
     delta Bm
     rw [List.flatMap_map]
     show (rs.flatMap fun r=>[D.list (r.map (Dj num)++[Dj num p.1])]).length=_
     rw [Bk,List.length_map]
    lia
 obtain ⟨τ,e,hn⟩:=main ws (fun p hp=>hp) [] σ (.refl ..) (by rw [List.length_nil,← h2];lia)
 delta P6
 rw [I9,Ch it1,e,← h2]
 simp only [Option.map_some,List.nil_append,Ab2,Ab3,Ab1]
 have n5:=hn.del (i:=5) (by rw [← hσ];rfl)
 have n6:=n5.del (i:=6) (by rw [← hσ];rfl)
 have n7:=n6.del (i:=7) (by rw [← hσ];rfl)
 rw [show List.filter (fun x=>decide (x≠7)) (List.filter (fun x=>decide (x≠6)) (List.filter (fun x=>decide (x≠5)) [5,6,7]))=[] from rfl] at n7
 rw [n7.eq]
set_option tactic.hygienic true in
theorem Age(h38:P.lookup 38=some G1.Ah4)(h125:P.lookup 125=some G1.Ah7){num:Nat→Int}{st:Au}(hnum:∀g,num g<256)(hst:∀ws∈st,ws.length<1000):∀(f k:Nat) (R:List (List Nat)) (n:Nat),f<1000→He st f k=some R→R.length≤line→
  (Ev P (n+4 * f+12)).call 125 [(.sh,Bp num st),(.sh,.int (256+(k:Nat)))]=some (.list (Bm num R),some (.sh,.int (256+(k:Nat))))
 |0,k,R,n,_,h,_=>by exact nos h
 |f+1,k,R,n,hf,h,hz=>by
  have hk:∃ws,st[k]? = some ws∧((ws=[]∧R=[[]])∨(ws≠[]∧Mo (He st f) ws=some R)):=by
   obtain ⟨ws,e,h⟩:=bs h
   induction ws using List.casesOn with
   |nil=>obtain rfl:=Ag h;exact ⟨[],e,.inl ⟨rfl,rfl⟩⟩
   |cons w ws=>exact ⟨_,e,.inr ⟨nofun,h⟩⟩
  obtain ⟨ws,ek,hcase⟩:=hk
  have hw:=hst ws (List.mem_of_getElem? ek)
  have gk:Be (Ca num 0 st) (256+((k:Nat):Int))=some (.list (Cb num ws)):=by
   have:=Mm (num:=num) st 0 k
   rw [Nat.zero_add,ek] at this
   exact this
  have kt:=c38 (P:=P) (n:=n+4 * f+7) h38 (x:=256+((k:Nat):Int))
  rw [decide_eq_false (by lia:¬(256+((k:Nat):Int)<256))] at kt
  have st1:(Ev P (n+4 * f+15)).ex (.ite (.call (.glob (.fn 38)) [(.var 1)] false) [.ret (.list [(.list [(.var 1)])])] []) (σR (Bp num st) (256+(k:Nat)) none none)=some (.next,σR (Bp num st) (256+(k:Nat)) none none):=by
   delta σR;simp [kt]
  have st2:=Sg (P:=P) (n:=n+4 * f+8) (num:=num) gk (Nat.le_trans (by assumption) (by decide))
  have st2':(Ev P (n+4 * f+15)).ex (.asg 2 P5) (σR (Bp num st) (256+(k:Nat)) none none)=some (.next,σR (Bp num st) (256+(k:Nat)) (some (.own,.list (ws.map (E2 num)))) none):=by
   rw [show n+4 * f+15=n+4 * f+14+1 from rfl,De,Hd,Dp]
   have e:=Sg (P:=P) (n:=n+4 * f+8) (num:=num) gk (Nat.le_trans (by assumption) (by decide))
   rw [show n+4 * f+8+5=n+4 * f+13 from rfl] at e
   show Option.map _ (Av (Ev P (n+4 * f+13)) P5 (σR (.Ahe (Ca num 0 st)) (256+(k:Nat)) none none))=_
   rw [e];rfl
  have hRL:∃R',Mo (He st f) ws=some R'∧(ws=[]→R'=[])∧(ws≠[]→R'=R):=by
   rcases hcase with ⟨rfl,_⟩ | ⟨hne,e⟩
   ·exact ⟨[],rfl,fun ζ=>rfl,fun q=>absurd rfl q⟩
   ·exact ⟨R,e,fun q=>absurd q hne,fun ζ=>rfl⟩
  obtain ⟨R',eR',hR0,hR1⟩:=hRL
  have hz':R'.length≤line:=by
   by_cases q:ws=[]
   ·rw [hR0 q];simp
   ·rw [hR1 q];exact hz
  have sub:∀p∈ws,∀rs,He st f p.2=some rs→rs.length≤R'.length:=fun p hp rs e=>by
   obtain ⟨_,h2⟩:=H6 eR'
   rw [h2]
   obtain ⟨l1,l2,rfl⟩:=List.append_of_mem hp
   rw [List.flatMap_append,List.flatMap_cons,List.length_append,List.length_append,e]
   simp;lia
  have st3:=Wq (P:=P) (n:=n+4 * f+10) (num:=num) (S:=Bp num st) (k:=256+((k:Nat):Int)) (ws:=ws) (φ:=He st f) (R:=R') (x3:=none) eR' hz' (fun p hp rs e r hr=>by have:=I6 e r hr;lia)
   (fun p hp rs e=>Age h38 h125 hnum hst f p.2 rs n (by exact Nat.lt_of_succ_lt hf) e (Nat.le_trans (sub p hp rs e) hz'))
   (fun p hp=>by
    have:=Zw (P:=P) (n:=n+4 * f+1) h38 h125 (S:=Bp num st) (x:=num p.1) (hnum p.1)
    exact this)
  have st3':(Ev P (n+4 * f+15)).ex (.asg 3 P6) (σR (Bp num st) (256+(k:Nat)) (some (.own,.list (ws.map (E2 num)))) none)=some (.next,σR (Bp num st) (256+(k:Nat)) (some (.sh,.list (ws.map (E2 num)))) (some (.own,.list (Bm num R')))):=by
   rw [show n+4 * f+15=n+4 * f+14+1 from rfl,De,Hd,Dp]
   show Option.map _ (Av (Ev P (n+4 * f+13)) P6 (σR (Bp num st) (256+(k:Nat)) (some (.own,.list (ws.map (E2 num)))) none))=_
   rw [st3];rfl
  have st4:∃σ',(Ev P (n+4 * f+15)).ex (.ret (.ite (.cmp .ne (.var 2) (.list [])) (.var 3) (.list [(.list [])]))) (σR (Bp num st) (256+(k:Nat)) (some (.sh,.list (ws.map (E2 num)))) (some (.own,.list (Bm num R'))))=some (.ret (.list (Bm num R)),σ')∧σ'.get 1=some (.sh,.int (256+(k:Nat))):=by
   delta σR
   rcases hcase with ⟨rfl,rfl⟩ | ⟨hne,e⟩
   ·refine ⟨σR (Bp num st) (256+(k:Nat)) (some (.sh,.list [])) (some (.own,.list (Bm num R'))),?_,rfl⟩
    simp [iE2,C3,line,Bm,Ku,σR]
   ·have hne':(ws.map (E2 num)).isEmpty=false:=by induction ws using List.casesOn with | nil=>exact absurd rfl hne | cons _ _=>rfl
    have hnil:ws≠[]:=hne
    refine ⟨σR (Bp num st) (256+(k:Nat)) (some (.sh,.list (ws.map (E2 num)))) (some (.sh,.list (Bm num R))),?_,rfl⟩
    rw [hR1 hne]
    simp [iE2,C3,line,σR,hnil]
  obtain ⟨σ',e4,g4⟩:=st4
  have e:exs (Ev P (n+4 * f+15)) G1.Ah7.body (B6 G1.Ah7 [(.sh,Bp num st),(.sh,.int (256+(k:Nat)))])=some (.ret (.list (Bm num R)),σ'):=by
   rw [show B6 G1.Ah7 [(.sh,Bp num st),(.sh,.int (256+(k:Nat)))]=σR (Bp num st) (256+(k:Nat)) none none from rfl]
   rw [show G1.Ah7.body=[.ite (.call (.glob (.fn 38)) [(.var 1)] false) [.ret (.list [(.list [(.var 1)])])] [],.asg 2 P5,.asg 3 P6,.ret (.ite (.cmp .ne (.var 2) (.list [])) (.var 3) (.list [(.list [])]))] from rfl]
   exact Am st1 (Am st2' (Am st3' (Ad2 e4)))
  have:=C4 (P:=P) (n:=n+4 * f+15) (a:=125) (f:=G1.Ah7) (ss:=[(.sh,Bp num st),(.sh,.int (256+(k:Nat)))]) (d:=.list (Bm num R)) (σ:=σ') h125 rfl e (by rw [show G1.Ah7.np - 1=1 from rfl,g4];rfl)
  rw [show G1.Ah7.np - 1=1 from rfl,g4,T1] at this
  exact this
end
end Mine
end
section
set_option autoImplicit false
namespace Mine
section
variable {P:List (Nat×Ahc)} {n:Nat} {F:Ahl} {σ:St}
@[simp] theorem s_augput{o:Op}{x:Nat}{i e:E}:Bz F (.Ahq o x i e) σ=if (σ.get x).isSome=true then (F.ev i σ).bind fun p=>(Ey (p.2.get x)).bind fun xs=>(Ar xs p.1).bind fun old=>(F.ev e p.2).bind fun q=>
  ((A3 o old q.1).bind Rm).bind fun r=>(Ey (q.2.get x)).bind fun xs=>(D0 xs p.1 (.int r)).map fun xs=>(.next,q.2.put x (.own,xs)) else none:=rfl
@[simp] theorem U1{l:List D}:Re (.list l)=some l:=rfl
theorem Aa1{e:E}:items F (.enum e) σ=(F.ev e σ).bind fun p=>(Re p.1).map fun l=>(Iq 0 l,p.2):=rfl
theorem Aec{xs:List D}:Em (.Ahm xs) .none (.int 60) false=some (.list (xs.take 60)):=by
 simp only [Em,sl_w,Xd,Uw,Option.bind_some,show sml 60=true from rfl,if_true,cut,bnd]
 rw [if_pos (by decide),show (60:Int).toNat=60 from rfl,List.drop_zero,show Nat.min 60 xs.length=min 60 xs.length from rfl]
 congr 2
 by_cases h:60≤xs.length
 ·rw [Nat.min_eq_left h]
 ·rw [Nat.min_eq_right (by exact Nat.le_of_not_ge h),List.take_length,List.take_of_length_le (by exact Nat.le_of_not_ge h)]
noncomputable def bC:List S:=[.Ahq .add 1 (.bin .mod (.var 2) (.lit (.int 4))) (.bin .mod (.var 3) (.bin .pow (.lit (.int 10)) (.lit (.int 6))))]
structure Ai2(σ:St)(a b c d:Int)(k:Nat)(x y z u:Int):Prop where
 get:σ.get 1=some (.own,.list [.int x,.int y,.int z,.int u])
 x0:a≤x
 x1:x≤a+k * 1000000
 y0:b≤y
 y1:y≤b+k * 1000000
 z0:c≤z
 z1:z≤c+k * 1000000
 u0:d≤u
 u1:u≤d+k * 1000000
theorem Lj(k m:Nat):Int.fmod (k:Int) (m:Int)=((k % m:Nat):Int):=by
 rw [Int.fmod_eq_emod_of_nonneg _ (Int.natCast_nonneg m)];rfl
theorem bC_ok{a b c d:Int}{k:Nat}{i:Nat}{v:Int}(hl:4≤σ.length)(h:Ex4 fun x y z u=>Ai2 σ a b c d k x y z u)(g2:σ.get 2=some (.sh,.int (i:Nat)))(g3:σ.get 3=some (.sh,.int v)) :
  ∃σ',exs (Ev P (n+6)) bC σ=some (.next,σ')∧Ahg [1] σ σ'∧Ex4 fun x y z u=>Ai2 σ' a b c d (k+1) x y z u:=by
 obtain ⟨x,y,z,u,h⟩:=h
 have hm:A3 .mod (.int (i:Nat)) (.int 4)=some (.int ((i % 4:Nat):Int)):=by
  rw [J3 (by decide),show ((4:Int))=((4:Nat):Int) from rfl,Lj]
 have hp:A3 .pow (.int 10) (.int 6)=some (.int 1000000):=rfl
 have hv:A3 .mod (.int v) (.int 1000000)=some (.int (v.fmod 1000000)):=J3 (by decide)
 have v0:0≤v.fmod 1000000:=Int.fmod_nonneg_of_pos v (by decide)
 have v1:v.fmod 1000000<1000000:=Int.fmod_lt_of_pos v (by decide)
 generalize v.fmod 1000000=w at *
 have g1:=h.get
 have h4:i % 4<4:=Nat.mod_lt _ (by decide)
 have l1:1<σ.length:=by exact Nat.lt_of_add_left_lt hl
 unfold bC
 have hk:((k+1:Nat):Int) * 1000000=(k:Int) * 1000000+1000000:=by lia
 have hi4:i % 4=0∨i % 4=1∨i % 4=2∨i % 4=3:=by lia
 rcases hi4 with hi | hi | hi | hi
 ·skip
  have e:Ar (.list [.int x,.int y,.int z,.int u]) (.int 0)=some (.int x):=rfl
  have f:D0 (.list [.int x,.int y,.int z,.int u]) (.int 0) (.int (x+w))=some (.list [.int (x+w),.int y,.int z,.int u]):=rfl
  rw [hi] at hm
  refine ⟨σ.put 1 (.own,.list [.int (x+w),.int y,.int z,.int u]),by simp [g1,g2,g3,hm,hp,hv,e,f],(Ahg.refl _ _).put (by simp) _,x+w,y,z,u,?_⟩
  exact ⟨by rw [Ag6 _ _ _ _ l1,if_pos rfl],by have:=h.x0;lia,by have:=h.x1;rw [hk];lia,h.y0,by have:=h.y1;rw [hk];lia,h.z0,by have:=h.z1;rw [hk];lia,h.u0,by have:=h.u1;rw [hk];lia⟩
 ·skip
  have e:Ar (.list [.int x,.int y,.int z,.int u]) (.int 1)=some (.int y):=rfl
  have f:D0 (.list [.int x,.int y,.int z,.int u]) (.int 1) (.int (y+w))=some (.list [.int x,.int (y+w),.int z,.int u]):=rfl
  rw [hi] at hm
  refine ⟨σ.put 1 (.own,.list [.int x,.int (y+w),.int z,.int u]),by simp [g1,g2,g3,hm,hp,hv,e,f],(Ahg.refl _ _).put (by simp) _,x,y+w,z,u,?_⟩
  exact ⟨by rw [Ag6 _ _ _ _ l1,if_pos rfl],h.x0,by have:=h.x1;rw [hk];lia,by have:=h.y0;lia,by have:=h.y1;rw [hk];lia,h.z0,by have:=h.z1;rw [hk];lia,h.u0,by have:=h.u1;rw [hk];lia⟩
 ·skip
  have e:Ar (.list [.int x,.int y,.int z,.int u]) (.int 2)=some (.int z):=rfl
  have f:D0 (.list [.int x,.int y,.int z,.int u]) (.int 2) (.int (z+w))=some (.list [.int x,.int y,.int (z+w),.int u]):=rfl
  rw [hi] at hm
  refine ⟨σ.put 1 (.own,.list [.int x,.int y,.int (z+w),.int u]),by simp [g1,g2,g3,hm,hp,hv,e,f],(Ahg.refl _ _).put (by simp) _,x,y,z+w,u,?_⟩
  exact ⟨by rw [Ag6 _ _ _ _ l1,if_pos rfl],h.x0,by have:=h.x1;rw [hk];lia,h.y0,by have:=h.y1;rw [hk];lia,by have:=h.z0;lia,by have:=h.z1;rw [hk];lia,h.u0,by have:=h.u1;rw [hk];lia⟩
 ·skip
  have e:Ar (.list [.int x,.int y,.int z,.int u]) (.int 3)=some (.int u):=rfl
  have f:D0 (.list [.int x,.int y,.int z,.int u]) (.int 3) (.int (u+w))=some (.list [.int x,.int y,.int z,.int (u+w)]):=rfl
  rw [hi] at hm
  refine ⟨σ.put 1 (.own,.list [.int x,.int y,.int z,.int (u+w)]),by simp [g1,g2,g3,hm,hp,hv,e,f],(Ahg.refl _ _).put (by simp) _,x,y,z,u+w,?_⟩
  exact ⟨by rw [Ag6 _ _ _ _ l1,if_pos rfl],h.x0,by have:=h.x1;rw [hk];lia,h.y0,by have:=h.y1;rw [hk];lia,h.z0,by have:=h.z1;rw [hk];lia,by have:=h.u0;lia,by have:=h.u1;rw [hk];lia⟩
theorem Tl{a b c d:Int}{σ₀:St}(hl:4≤σ₀.length):∀(vs:List Int) (i k:Nat) (σ:St),Ahg [1,2,3] σ₀ σ→(Ex4 fun x y z u=>Ai2 σ a b c d k x y z u)→
  ∃σ',Dl (Ev P (n+6)) (.t [2,3]) bC (Iq i (vs.map D.int)) σ=some (.next,σ')∧Ahg [1,2,3] σ₀ σ'∧Ex4 fun x y z u=>Ai2 σ' a b c d (k+vs.length) x y z u
 |[],i,k,σ,hn,h=>⟨σ,rfl,hn,h⟩
 |v :: vs,i,k,σ,hn,h=>by
  have l:=hn.len
  have n2:Ahg [1,2,3] σ₀ ((σ.put 2 (.sh,.int (i:Nat))).put 3 (.sh,.int v)):=(hn.put (by simp) _).put (by simp) _
  have h':Ex4 fun x y z u=>Ai2 ((σ.put 2 (.sh,.int (i:Nat))).put 3 (.sh,.int v)) a b c d k x y z u:=by
   obtain ⟨x,y,z,u,h⟩:=h
   refine ⟨x,y,z,u,{ h with get:=?_ }⟩
   rw [Ag6 _ _ _ _ (by rw [Ag7,l];assumption),if_neg (by decide),Ag6 _ _ _ _ (by rw [l];exact Nat.lt_of_add_left_lt hl),if_neg (by decide)]
   exact h.get
  obtain ⟨σ₁,e1,n1,h1⟩:=bC_ok (P:=P) (n:=n) (i:=i) (v:=v) (by rw [n2.len];exact hl) h' (by rw [Ag6 _ _ _ _ (by rw [Ag7,l];assumption),if_neg (by decide),Ag6 _ _ _ _ (by rw [l];exact Nat.lt_of_add_left_lt hl),if_pos rfl]) (by rw [Ag6 _ _ _ _ (by rw [Ag7,l];assumption),if_pos rfl])
  obtain ⟨σ₂,e2,n3,h2⟩:=Tl hl vs (i+1) (k+1) σ₁ (n2.trans (n1.mono (by simp))) h1
  refine ⟨σ₂,?_,n3,by rw [List.length_cons,show k+(vs.length+1)=k+1+vs.length by exact Eq.symm (Nat.succ_add_eq_add_succ k vs.length)];exact h2⟩
  rw [List.map_cons,en_c,Fp]
  have hb:Cy (.t [2,3]) (.tup [.int (i:Nat),.int v]) σ=some ((σ.put 2 (.sh,.int (i:Nat))).put 3 (.sh,.int v)):=by simp [Zc,Ut,Uu]
  rw [hb]
  simp only [Option.bind_some,e1,Ax]
  exact e2
theorem Y3{a b c d:Int}{ns:List Int}{rest:List S}(hl:4≤σ.length)(g0:σ.get 0=some (.sh,.Ahm (ns.map .int))) :
  ∃σ',exs (Ev P (n+8)) (.asg 1 (.list [(.lit (.int a)),(.lit (.int b)),(.lit (.int c)),(.lit (.int d))]) :: .for (.t [2,3]) (.enum (.slc (.var 0) none (some (.lit (.int 60))) false)) bC :: rest) σ=exs (Ev P (n+8)) rest σ'∧
   Ahg [1,2,3] σ σ'∧Ex4 fun x y z u=>Ai2 σ' a b c d 60 x y z u:=by
 have l1:1<σ.length:=by exact Nat.lt_of_add_left_lt hl
 have s0:(Ev P (n+8)).ex (.asg 1 (.list [(.lit (.int a)),(.lit (.int b)),(.lit (.int c)),(.lit (.int d))])) σ=some (.next,σ.put 1 (.own,.list [.int a,.int b,.int c,.int d])):=by simp [line]
 have g0':(σ.put 1 (.own,.list [.int a,.int b,.int c,.int d])).get 0=some (.sh,.Ahm (ns.map .int)):=by rw [Ag6 _ _ _ _ l1,if_neg (by decide)];exact g0
 have it:items (Ev P (n+7)) (.enum (.slc (.var 0) none (some (.lit (.int 60))) false)) (σ.put 1 (.own,.list [.int a,.int b,.int c,.int d]))=some (Iq 0 ((ns.take 60).map D.int),σ.put 1 (.own,.list [.int a,.int b,.int c,.int d])):=by
  rw [Aa1]
  simp [g0',Aec]
 have hN:Ahg [1,2,3] σ (σ.put 1 (.own,.list [.int a,.int b,.int c,.int d])):=(Ahg.refl _ _).put (by simp) _
 obtain ⟨σ',e,hn,x,y,z,u,hc⟩:=Tl (P:=P) (n:=n+1) (a:=a) (b:=b) (c:=c) (d:=d) (σ₀:=σ) hl (ns.take 60) 0 0 _ hN ⟨a,b,c,d,⟨by rw [Ag6 _ _ _ _ l1,if_pos rfl],by exact Int.le_refl a,by exact Int.le.intro (0 * 1000000) rfl,by exact Int.le_refl b,by exact Int.le.intro (0 * 1000000) rfl,by exact Int.le_refl c,by exact Int.le.intro (0 * 1000000) rfl,by exact Int.le_refl d,by exact Int.le.intro (0 * 1000000) rfl⟩⟩
 have hlen:(ns.take 60).length≤60:=List.length_take_le ..
 refine ⟨σ',?_,hn,x,y,z,u,{ hc with x1:=by have:=hc.x1;lia,y1:=by have:=hc.y1;lia,z1:=by have:=hc.z1;lia,u1:=by have:=hc.u1;lia }⟩
 rw [C0,s0,Ax,C0]
 simp only [De,Jq]
 rw [it]
 simp only [Option.bind_some]
 rw [e,Ax]
end
end Mine
end
section
set_option autoImplicit false
namespace Mine
noncomputable def A5:List Nat:=[40,41,91,93,58,44,43,45,42,47,124,38,60,62,61,46,37,123,125]
noncomputable def Sb:List Nat:=[38,60,62]
theorem C1{c:Nat}:∀(l:List Nat),A6 c [] l=l.filter (·≠c)
 |[]=>rfl
 |x :: l=>by
  rw [Ht,C1 l]
  by_cases h:x=c
  ·subst h;simp
  ·simp [h]
theorem Hj{c:Nat}:∀ {l:List Nat},l.Nodup→(l.filter (·≠c)).length+(if c∈l then 1 else 0)=l.length
 |[],_=>rfl
 |x :: l,h=>by
  rw [List.nodup_cons] at h
  have ih:=Hj (c:=c) h.2
  by_cases e:x=c
  ·subst e
   rw [if_neg h.1] at ih
   rw [if_pos List.mem_cons_self,List.filter_cons_of_neg (by simp)]
   simp at ih ⊢;assumption
  ·rw [List.filter_cons_of_pos (by simpa using e),List.length_cons,List.length_cons]
   by_cases q:c∈l
   ·rw [if_pos q] at ih;rw [if_pos (List.mem_cons_of_mem _ q)];exact Nat.add_left_inj.mpr ih
   ·rw [if_neg q] at ih;rw [if_neg (by simp [Ne.symm e,q])];exact Nat.add_left_inj.mpr (congrFun (congrArg HAdd.hAdd ih) 1)
theorem Od(x:Int){m:Nat}(hm:0<m):∃i:Nat,i<m∧x.fmod (m:Int)=(i:Int):=by
 have h0:0≤x.fmod (m:Int):=Int.fmod_nonneg_of_pos x (by exact Int.natCast_pos.mpr hm)
 have h1:x.fmod (m:Int)<m:=Int.fmod_lt_of_pos x (by exact Int.natCast_pos.mpr hm)
 exact ⟨(x.fmod (m:Int)).toNat,by exact (Int.toNat_lt h0).mpr h1,by exact Int.eq_natCast_toNat.mpr h0⟩
theorem Lo{c:Int}{m k:Nat}(h0:0≤c)(h1:c<2 ^ 40)(hm:0<m)(hm':m<2 ^ 40)(hk:0<k):∃i:Nat,i<k∧(c.fdiv (m:Int)).fmod (k:Int)=(i:Int)∧A3 .fdiv (.int c) (.int (m:Int))=some (.int (c.fdiv (m:Int)))∧A3 .mod (.int (c.fdiv (m:Int))) (.int (k:Int))=some (.int (i:Int)):=by
 obtain ⟨i,h2,h3⟩:=Od (c.fdiv (m:Int)) hk
 exact ⟨i,h2,h3,R4 (Dd (by lia)) (B8 (Nat.lt_of_lt_of_le (by assumption) (by decide))) (by exact Int.natCast_ne_zero_iff_pos.mpr hm),by rw [J3 (by exact Int.natCast_ne_zero_iff_pos.mpr hk),h3]⟩
theorem m_ex{c:Int}{k:Nat}(hk:0<k):∃i:Nat,i<k∧c.fmod (k:Int)=(i:Int)∧A3 .mod (.int c) (.int (k:Int))=some (.int (i:Int)):=by
 obtain ⟨i,h2,h3⟩:=Od c hk
 exact ⟨i,h2,h3,by rw [J3 (by exact Int.natCast_ne_zero_iff_pos.mpr hk),h3]⟩
section
variable {P:List (Nat×Ahc)} {n:Nat} {F:Ahl} {σ:St}
theorem Rt{l:List Nat}{k:Nat}(h:k<l.length)(hk:k<2 ^ 60):Ar (.str l) (.int (k:Int))=some (.str [l[k]]):=by
 rw [Ik hk,List.getElem?_eq_getElem h];rfl
noncomputable def B9(l:List Nat):List D:=l.map fun x=>.str [x]
noncomputable def Qn(l:List Nat):List D:=l.map fun x=>.Ahj [x]
theorem Os(l:List Nat):weak (.list (Qn l))=.list (B9 l):=by
 show D.list ((l.map fun x=>D.Ahj [x]).map Ai5)=.list (l.map fun x=>.str [x])
 rw [List.map_map];rfl
theorem Ua(h:P.lookup 101=some G1.Ah9){c:Int}(h0:0≤c)(h1:c<2 ^ 40):Ex3 fun x y z=>And3 ((∀w∈[x,y,z],w∈A5)) ([x,y,z].Nodup) ((Ev P (n+12)).call 101 [(.sh,.int c)]=some (.list (B9 [x,y,z]),some (.sh,.int c))):=by
 obtain ⟨i,hi,_,ei⟩:=m_ex (c:=c) (k:=3) (by decide)
 obtain ⟨j,hj,_,ej1,ej2⟩:=Lo (m:=3) (k:=18) h0 h1 (by decide) (by decide) (by decide)
 obtain ⟨k,hk,_,ek1,ek2⟩:=Lo (m:=54) (k:=17) h0 h1 (by decide) (by decide) (by decide)
 obtain ⟨r,hr,_,er1,er2⟩:=Lo (m:=918) (k:=3) h0 h1 (by decide) (by decide) (by decide)
 generalize c.fdiv ((3:Nat):Int)=c3 at *
 generalize c.fdiv ((54:Nat):Int)=c54 at *
 generalize c.fdiv ((918:Nat):Int)=c918 at *
 have hx:Sb[i]∈A5:=(by decide:∀w∈Sb,w∈A5) _ (List.getElem_mem _)
 have hl1:(A6 Sb[i] [] A5).length=18:=(by decide:∀w∈Sb,(A6 w [] A5).length=18) _ (List.getElem_mem _)
 have hn1:(A6 Sb[i] [] A5).Nodup:=by rw [C1];exact (by decide:A5.Nodup).filter _
 generalize hA:Sb[i]=a at *
 have hj':j<(A6 a [] A5).length:=by exact Nat.lt_of_lt_of_eq hj (id (Eq.symm hl1))
 have hy:=List.getElem_mem hj'
 generalize hB:(A6 a [] A5)[j]=b at *
 have hl2:(A6 b [] (A6 a [] A5)).length=17:=by
  have:=Hj (c:=b) hn1
  rw [if_pos hy] at this
  rw [C1 (c:=b) (A6 a [] A5)];lia
 have hk':k<(A6 b [] (A6 a [] A5)).length:=by exact Nat.lt_of_lt_of_eq hk (id (Eq.symm hl2))
 have hz:=List.getElem_mem hk'
 generalize hC:(A6 b [] (A6 a [] A5))[k]=d at *
 have yb:b∈A5∧b≠a:=by
  rw [C1] at hy
  have:=List.mem_filter.mp hy
  exact ⟨this.1,by simpa using this.2⟩
 have zd:d∈A5∧d≠a∧d≠b:=by
  rw [C1 (c:=b),C1] at hz
  have h2:=List.mem_filter.mp hz
  have h3:=List.mem_filter.mp h2.1
  exact ⟨h3.1,by simpa using h3.2,by simpa using h2.2⟩
 have e0:Ar (.str [38,60,62]) (.int (i:Int))=some (.str [a]):=by
  have:=Rt (l:=Sb) (k:=i) hi (Nat.le_trans (by assumption) (by decide))
  rw [hA] at this;exact this
 have e1:Ar (.str (A6 a [] A5)) (.int (j:Int))=some (.str [b]):=by
  rw [Rt hj' (by lia),hB]
 have e2:Ar (.str (A6 b [] (A6 a [] A5))) (.int (k:Int))=some (.str [d]):=by
  rw [Rt hk' (by lia),hC]
 have a256:a<256:=(by decide:∀w∈A5,w<256) _ hx
 have b256:b<256:=(by decide:∀w∈A5,w<256) _ yb.1
 have e0':Ar (.str [38,60,62]) (.int i)=some (.str [a]):=e0
 have ei':A3 .mod (.int c) (.int 3)=some (.int i):=ei
 have ej1':A3 .fdiv (.int c) (.int 3)=some (.int c3):=ej1
 have ej2':A3 .mod (.int c3) (.int 18)=some (.int j):=ej2
 have ek1':A3 .fdiv (.int c) (.int 54)=some (.int c54):=ek1
 have ek2':A3 .mod (.int c54) (.int 17)=some (.int k):=ek2
 have er1':A3 .fdiv (.int c) (.int 918)=some (.int c918):=er1
 have er2':A3 .mod (.int c918) (.int 3)=some (.int r):=er2
 have i0:Ar (.list [.Ahj [a]]) (.int 0)=some (.Ahj [a]):=rfl
 have i1:Ar (.list [.Ahj [a],.Ahj [b]]) (.int 1)=some (.Ahj [b]):=rfl
 have bm:A3 .mul (.list [.Ahj [a],.Ahj [b],.Ahj [d]]) (.int 2)=some (.list [.Ahj [a],.Ahj [b],.Ahj [d],.Ahj [a],.Ahj [b],.Ahj [d]]):=rfl
 have al:A5=[40,41,91,93,58,44,43,45,42,47,124,38,60,62,61,46,37,123,125]:=rfl
 rw [al] at e1 e2 hl1 hl2
 have fin:∀(l:List Nat) (s1:List D),Em (.list [.Ahj [a],.Ahj [b],.Ahj [d],.Ahj [a],.Ahj [b],.Ahj [d]]) (.int r) .none false=some (.list s1)→Em (.list s1) .none (.int 3) false=some (.list (Qn l))→
   (Ev P (n+12)).call 101 [(.sh,.int c)]=some (.list (B9 l),some (.sh,.int c)):=by
  intro l s1 q1 q2
  have e:exs (Ev P (n+11)) G1.Ah9.body (B6 G1.Ah9 [(.sh,.int c)])=some (.ret (.list (Qn l)),[some (.sh,.int c),some (.sh,.list [.Ahj [a],.Ahj [b],.Ahj [d]]),some (.sh,.str (A6 a [] [40,41,91,93,58,44,43,45,42,47,124,38,60,62,61,46,37,123,125]))]):=by
   delta G1.Ah9 G1.Aik B6
   simp [ei',ej1',ej2',ek1',ek2',er1',er2',e0',e1,e2,i0,i1,a256,b256,line,Ij,Mg,hl1,bm,q1,q2,A8,again]
  have:=C4 (P:=P) (n:=n+11) (a:=101) (f:=G1.Ah9) (ss:=[(.sh,.int c)]) h rfl e rfl
  rw [Os] at this
  exact this
 match r,hr with
 |0,_=>exact ⟨a,b,d,by simp [hx,yb.1,zd.1],by simp [Ne.symm yb.2,Ne.symm zd.2.1,Ne.symm zd.2.2],fin [a,b,d] _ rfl rfl⟩
 |1,_=>exact ⟨b,d,a,by simp [hx,yb.1,zd.1],by simp [yb.2,zd.2.1,Ne.symm zd.2.2],fin [b,d,a] _ rfl rfl⟩
 |2,_=>exact ⟨d,a,b,by simp [hx,yb.1,zd.1],by simp [Ne.symm yb.2,zd.2.1,zd.2.2],fin [d,a,b] _ rfl rfl⟩
end
end Mine
end
section
set_option autoImplicit false
namespace Mine
noncomputable def STR:List Nat:=[40,41,91,93,58,44,59,43,45,42,47,124,38,60,62,61,46,37,123,125]
noncomputable def Aj(x:Nat):Int:=7+((Df x STR).getD 0:Nat)
noncomputable def isInt(d:Option D)(i:Int):Bool:=match d with
 |some (.int j)=>decide (j=i)
 |_=>false
theorem Xv{d:Option D}{i:Int}(h:isInt d i=true):d=some (.int i):=by
 induction d using Option.casesOn with
 |none=>exact absurd h Bool.false_ne_true
 |some d=>
  induction d using D.casesOn with
  |int j=>rw [of_decide_eq_true (show decide (j=i)=true from h)]
  |_=>exact absurd h Bool.false_ne_true
theorem Zv:∀x∈A5,isInt (Ar G1.tokD (.str [x])) (Aj x)=true:=by decide +kernel
theorem Mv:∀x∈A5,7≤Aj x∧Aj x≤26:=by decide +kernel
theorem Gq:∀x∈A5,∀y∈A5,Aj x=Aj y→x=y:=by decide +kernel
theorem Aaq:∀x∈A5,(Df x STR).isSome=true:=by decide +kernel
noncomputable def Ad(st:Au):List D:=st.map fun ws=>.list (ws.map fun p=>.tup [.int p.1,.int p.2])
noncomputable def Fu(num:Nat→Int)(ws:List (Nat×Nat)):List Int:=ws.flatMap fun p=>[256+(p.2:Nat),num p.1]
theorem Ks(num:Nat→Int):∀(ws:List (Nat×Nat)),(Fu num ws).map D.int=Cb num ws
 |[]=>rfl
 |p :: ws=>by
  have:=Ks num ws
  unfold Fu Cb at *
  rw [List.flatMap_cons,List.flatMap_cons,List.map_append,this];rfl
noncomputable def C6(num:Nat→Int):Nat→Au→List Int
 |_,[]=>[]
 |k,ws :: st=>(256+(k:Nat)) :: (Fu num ws++0 :: C6 num (k+1) st)
noncomputable def E6(num:Nat→Int):Nat→Au→List D
 |_,[]=>[]
 |k,ws :: st=>.int (256+(k:Nat)) :: (Cb num ws++.int 0 :: E6 num (k+1) st)
theorem rI_n{num:Nat→Int}{k:Nat}:C6 num k []=[]:=rfl
theorem Aew{num:Nat→Int}{k:Nat}{ws:List (Nat×Nat)}{st:Au}:C6 num k (ws :: st)=(256+(k:Nat):Int) :: (Fu num ws++0 :: C6 num (k+1) st):=rfl
theorem rF_c{num:Nat→Int}{k:Nat}{ws:List (Nat×Nat)}{st:Au}:E6 num k (ws :: st)=D.int (256+(k:Nat)) :: (Cb num ws++.int 0 :: E6 num (k+1) st):=rfl
theorem Mn(num:Nat→Int):∀(st:Au) (k:Nat),(C6 num k st).map D.int=E6 num k st
 |[],_=>rfl
 |ws :: st,k=>by simp [Aew,rF_c,Mn num st,Ks]
section
variable {P:List (Nat×Ahc)} {n:Nat} {F:Ahl} {σ:St}
theorem Q9{sg v:Nat}{l:List Nat}(h:σ.get sg=some (.sh,.list (B9 l)))(hv:σ.get v=none)(hl:v<σ.length)(hA:∀w∈l,w∈A5)(hz:l.length≤10) :
  Av (Ev P (n+4)) (.comp (.idx (.glob G1.tokD) (.var v)) [(.v v,(.var sg),[])]) σ=some (.own,.list (l.map fun w=>D.int (Aj w)),σ):=by
 have it:items (Ev P (n+4)) (.var sg) σ=some (B9 l,σ):=by
  rw [Ao rfl];simp [h,Ea]
 have:=C9 (F:=Ev P (n+4)) (σ:=σ) (σ₁:=σ) (i:=v) (elt:=.idx (.glob G1.tokD) (.var v)) (g:=fun d=>mS d .none fun x=>.int (Aj x)) hv hl it (fun d hd τ hn hb=>?_) (by delta B9 line;rw [List.length_map];lia)
 ·rw [this]
  delta B9
  rw [List.map_map];rfl
 ·obtain ⟨x,hx,rfl⟩:=List.mem_map.mp hd
  have e:=Xv (Zv x (hA x hx))
  exact Wu (Aac Cn rfl) (Af hb) (Aad rfl) e
noncomputable def bS(s p y:Nat):List S:=[.ite (.or [(.cmp .isNot (.call (.glob (.fn 38)) [(.var y)] false) (.cmp .lt (.var y) (.lit (.int 256)))),(.cmp .isNot (.call (.glob (.fn 45)) [(.var y)] false) (.cmp .gt (.var y) (.lit (.int 255)))),(.cmp .isNot (.call (.glob (.fn 52)) [(.var y)] false) (.cmp .eq (.var y) (.lit (.int 0))))]) [.ret (.lit (.bool false))] [],.app p (.var y),
 .ite (.call (.glob (.fn 52)) [(.var y)] false) [.put s (.idx (.var p) (.lit (.int 0))) (.slc (.var p) (some (.lit (.int 1))) (some (.neg (.lit (.int 1)))) false),.asg p (.list [])] []]
structure Ai1(s p:Nat)(σ:St)(es:List (Int×D))(part:List Int):Prop where
 sides:σ.get s=some (.own,.Ahe es)
 part:σ.get p=some (.own,.list (part.map .int))
theorem Ad8(h38:P.lookup 38=some G1.Ah4)(h45:P.lookup 45=some G1.Ah5)(h52:P.lookup 52=some G1.Ah6){s p y:Nat}(hs:s<σ.length)(hp:p<σ.length)(hy:y<σ.length)(h1:s≠p)(h2:s≠y)(h3:p≠y)
  {es:List (Int×D)} {part:List Int} (I:Ai1 s p σ es part) {v:Int} (gy:σ.get y=some (.sh,.int v)) (hlen:part.length<1000) (hes:es.length≤1000) :
  ∃σ',exs (Ev P (n+12)) (bS s p y) σ=some (.next,σ')∧Ahg [s,p,y] σ σ'∧
   (if v=0 then Ai1 s p σ' (Cg es ((part++[0]).headD 0) (.list (((part++[0]).dropLast.drop 1).map .int))) [] else Ai1 s p σ' es (part++[v])):=by
 have k38:∀m,(Ev P (m+5)).call 38 [(.sh,.int v)]=some (.bool (decide (v<256)),some (.sh,.int v)):=fun m=>c38 h38
 have k45:∀m,(Ev P (m+5)).call 45 [(.sh,.int v)]=some (.bool (decide (256≤v)),some (.sh,.int v)):=fun m=>c45 h45
 have k52:∀m,(Ev P (m+5)).call 52 [(.sh,.int v)]=some (.bool (decide (v=0)),some (.sh,.int v)):=fun m=>c52 h52
 have e45:decide (256≤v)=decide (255<v):=by rw [decide_eq_decide];exact Eq.to_iff rfl
 have e3:decide (v=0)=decide (v=(0:Int)):=rfl
 have gs:=I.sides
 have gp:=I.part
 have st1:(Ev P (n+12)).ex (.ite (.or [(.cmp .isNot (.call (.glob (.fn 38)) [(.var y)] false) (.cmp .lt (.var y) (.lit (.int 256)))),(.cmp .isNot (.call (.glob (.fn 45)) [(.var y)] false) (.cmp .gt (.var y) (.lit (.int 255)))),(.cmp .isNot (.call (.glob (.fn 52)) [(.var y)] false) (.cmp .eq (.var y) (.lit (.int 0))))]) [.ret (.lit (.bool false))] []) σ=some (.next,σ):=by
  have a:=k38 (n+2);have b:=k45 (n+2);have c:=k52 (n+2)
  rw [e45] at b
  exact H8 (Nv (y_g (t_v (Nw (Fg (Nx (Af gy)) a) (Pc (Af gy) Bf rfl) rfl) rfl rfl) (i_n (Oa (beq_self_eq_true (decide (v<256))) (y_g (t_v (Nw (Fg (Nx (Af gy)) b) (Kz (Af gy) Bf rfl) rfl) rfl rfl) (i_n (Oa (beq_self_eq_true (decide (255<v))) (y_g (t_v (Nw (Fg (Nx (Af gy)) c) (H9 (Af gy) Bf rfl) rfl) rfl rfl) (i_n (Oa (beq_self_eq_true (decide (v=0))) rfl)))))))))) (i_f rfl)
 have hz:(part.map D.int).length<line:=by rw [List.length_map];exact Nat.le_trans (by assumption) (by decide)
 have st2:(Ev P (n+12)).ex (.app p (.var y)) σ=some (.next,σ.put p (.own,.list ((part++[v]).map .int))):=by
  simp [gp,gy,Ij,Mg]
  exact Nat.le_trans (by assumption) (by decide)
 have g1y:(σ.put p (.own,.list ((part++[v]).map .int))).get y=some (.sh,.int v):=by rw [Ag6 _ _ _ _ hp,if_neg (Ne.symm h3)];exact gy
 have g1s:(σ.put p (.own,.list ((part++[v]).map .int))).get s=some (.own,.Ahe es):=by rw [Ag6 _ _ _ _ hp,if_neg h1];exact gs
 have g1p:(σ.put p (.own,.list ((part++[v]).map .int))).get p=some (.own,.list ((part++[v]).map .int)):=by rw [Ag6 _ _ _ _ hp,if_pos rfl]
 have n1:Ahg [s,p,y] σ (σ.put p (.own,.list ((part++[v]).map .int))):=(Ahg.refl _ _).put (by simp) _
 generalize hτ:σ.put p (.own,.list ((part++[v]).map .int))=τ at *
 have c:=k52 (n+4)
 by_cases hv:v=0
 ·subst hv
  rw [decide_eq_true rfl] at c
  obtain ⟨q0,q,hq⟩ : Ex2 fun q0 q=>part++[(0:Int)]=q0 :: q:=by induction part using List.casesOn with | nil=>exact ⟨0,[],rfl⟩ | cons a r=>exact ⟨a,r++[0],rfl⟩
  have hql:q.length<1001:=by have:=congrArg List.length hq;simp at this;lia
  have i0:Ar (.list ((q0 :: q).map .int)) (.int 0)=some (.int q0):=rfl
  have sl:Em (.list ((q0 :: q).map .int)) (.int 1) (.int (-1)) false=some (.list (((q0 :: q).dropLast.drop 1).map .int)):=by
   simp only [Em,Aee,Uw,Option.bind_some,show sml 1=true from rfl,show sml (-1)=true from rfl,if_true,cut,bnd]
   rw [if_pos (by decide:(0:Int)≤1),if_neg (by decide:¬(0:Int)≤-1),List.map_drop,List.map_dropLast,List.dropLast_eq_take]
   congr 2
   have hlen':((q0 :: q).map D.int).length=q.length+1:=by simp
   rw [hlen',show (-1+((q.length+1:Nat):Int)).toNat=q.length+1 - 1 by lia]
   by_cases hq0:q=[]
   ·subst hq0;rfl
   ·rw [show Nat.min (1:Int).toNat (q.length+1)=1 from by show min 1 (q.length+1)=1;exact Nat.min_add_left_self]
  have sd:D0 (.Ahe es) (.int q0) (.list (((q0 :: q).dropLast.drop 1).map .int))=some (.Ahe (Cg es q0 (.list (((q0 :: q).dropLast.drop 1).map .int)))):=by
   simp only [Ac1];rw [if_pos (Nat.le_trans (by assumption) (by decide))]
  rw [hq] at g1p
  have st3:(Ev P (n+12)).ex (.ite (.call (.glob (.fn 52)) [(.var y)] false) [.put s (.idx (.var p) (.lit (.int 0))) (.slc (.var p) (some (.lit (.int 1))) (some (.neg (.lit (.int 1)))) false),.asg p (.list [])] []) τ =
    some (.next,(τ.put s (.own,.Ahe (Cg es q0 (.list (((q0 :: q).dropLast.drop 1).map .int))))).put p (.own,.list [])):=by
   rw [show n+12=n+4+5+3 by lia]
   generalize List.map D.int (List.drop 1 (q0 :: q).dropLast)=bd at sl sd ⊢
   generalize List.map D.int (q0 :: q)=L at g1p i0 sl
   simp [g1y,c,g1s,g1p,i0,sl,sd,A8,again,Pm,line]
  refine ⟨_,by delta bS;exact Am st1 (Am st2 (Am st3 rfl)),(n1.put (by simp) _).put (by simp) _,?_⟩
  rw [if_pos rfl,hq]
  have lt:τ.length=σ.length:=n1.len
  refine ⟨?_,?_⟩
  ·rw [Ag6 _ _ _ _ (by rw [Ag7,lt];exact hp),if_neg h1,Ag6 _ _ _ _ (by rw [lt];exact hs),if_pos rfl];rfl
  ·rw [Ag6 _ _ _ _ (by rw [Ag7,lt];exact hp),if_pos rfl];rfl
 ·rw [decide_eq_false hv] at c
  have st3:(Ev P (n+12)).ex (.ite (.call (.glob (.fn 52)) [(.var y)] false) [.put s (.idx (.var p) (.lit (.int 0))) (.slc (.var p) (some (.lit (.int 1))) (some (.neg (.lit (.int 1)))) false),.asg p (.list [])] []) τ=some (.next,τ):=by
   rw [show n+12=n+4+5+3 by lia]
   simp [g1y,c]
  refine ⟨τ,by delta bS;exact Am st1 (Am st2 (Am st3 rfl)),n1,?_⟩
  rw [if_neg hv]
  exact ⟨g1s,g1p⟩
noncomputable def I0:List Int→List (Int×D)→List Int→List (Int×D)×List Int
 |[],es,part=>(es,part)
 |v :: vs,es,part=>if v=0 then I0 vs (Cg es ((part++[0]).headD 0) (.list (((part++[0]).dropLast.drop 1).map .int))) [] else I0 vs es (part++[v])
theorem sy_n{es:List (Int×D)}{part:List Int}:I0 [] es part=(es,part):=rfl
theorem Ad9{v:Int}{vs:List Int}{es:List (Int×D)}{part:List Int}:I0 (v :: vs) es part=if v=0 then I0 vs (Cg es ((part++[0]).headD 0) (.list (((part++[0]).dropLast.drop 1).map .int))) [] else I0 vs es (part++[v]):=rfl
theorem Qx{es:List (Int×D)}{k:Int}{v:D}:(Cg es k v).length≤es.length+1:=by
 delta Cg;split <;> simp
theorem Oc(h38:P.lookup 38=some G1.Ah4)(h45:P.lookup 45=some G1.Ah5)(h52:P.lookup 52=some G1.Ah6){s p y:Nat}{σ₀:St}(hs:s<σ₀.length)(hp:p<σ₀.length)(hy:y<σ₀.length)(h1:s≠p)(h2:s≠y)(h3:p≠y) :
  ∀(vs:List Int) (σ:St) (es:List (Int×D)) (part:List Int),Ahg [s,p,y] σ₀ σ→Ai1 s p σ es part→vs.length+part.length<1000→vs.length+es.length≤1000→
   ∃σ',Dl (Ev P (n+12)) (.v y) (bS s p y) (vs.map D.int) σ=some (.next,σ')∧Ahg [s,p,y] σ₀ σ'∧Ai1 s p σ' (I0 vs es part).1 (I0 vs es part).2
 |[],σ,es,part,hn,I,_,_=>⟨σ,rfl,hn,I⟩
 |v :: vs,σ,es,part,hn,I,hl,hl'=>by
  have l:=hn.len
  rw [List.length_cons] at hl hl'
  have I':Ai1 s p (σ.put y (.sh,.int v)) es part:=⟨by rw [Ag6 _ _ _ _ (by rw [l];exact hy),if_neg h2];exact I.sides,by rw [Ag6 _ _ _ _ (by rw [l];exact hy),if_neg h3];exact I.part⟩
  have n1:Ahg [s,p,y] σ₀ (σ.put y (.sh,.int v)):=hn.put (by simp) _
  obtain ⟨σ₁,e1,n2,I1⟩:=Ad8 (P:=P) (n:=n) h38 h45 h52 (by rw [n1.len];exact hs) (by rw [n1.len];exact hp) (by rw [n1.len];exact hy) h1 h2 h3 I' (by rw [Ag6 _ _ _ _ (by rw [l];exact hy),if_pos rfl]) (by exact Nat.lt_of_add_left_lt hl) (by exact Nat.le_of_add_left_le hl')
  rw [List.map_cons,Fp]
  simp only [Vf,Option.bind_some,e1,Ax,Ad9]
  by_cases hv:v=0
  ·rw [if_pos hv] at I1 ⊢
   exact Oc h38 h45 h52 hs hp hy h1 h2 h3 vs σ₁ _ [] (n1.trans n2) I1 (by simp;lia) (by have:=Qx (es:=es) (k:=(part++[0]).headD 0) (v:=.list (((part++[0]).dropLast.drop 1).map .int));lia)
  ·rw [if_neg hv] at I1 ⊢
   exact Oc h38 h45 h52 hs hp hy h1 h2 h3 vs σ₁ es (part++[v]) (n1.trans n2) I1 (by simp;lia) (by lia)
theorem Nm:∀(vs:List Int) (rest:List Int) (es:List (Int×D)) (part:List Int),(∀v∈vs,v≠0)→I0 (vs++rest) es part=I0 rest es (part++vs)
 |[],rest,es,part,_=>by simp
 |v :: vs,rest,es,part,h=>by
  rw [List.cons_append,Ad9,if_neg (h v List.mem_cons_self),Nm vs rest es (part++[v]) fun w hw=>h w (List.mem_cons_of_mem _ hw)]
  simp
theorem Kp{num:Nat→Int}(hnum:∀g,num g≠0):∀(st:Au) (k:Nat) (es:List (Int×D)) (rest:List Int),(∀e∈es,e.1<256+(k:Int))→I0 (C6 num k st++rest) es []=I0 rest (es++Ca num k st) []
 |[],k,es,rest,_=>by simp [rI_n,sF_n]
 |ws :: st,k,es,rest,h=>by
  have hz:∀v∈(256+((k:Nat):Int)) :: Fu num ws,v≠0:=fun v hv=>by
   rcases List.mem_cons.mp hv with q | q
   ·rw [q];lia
   ·delta Fu at q
    obtain ⟨p,_,hp⟩:=List.mem_flatMap.mp q
    simp only [List.mem_cons,List.mem_nil_iff,or_false] at hp
    rcases hp with q | q
    ·rw [q];lia
    ·rw [q];exact hnum _
  have e0:C6 num k (ws :: st)++rest=((256+((k:Nat):Int)) :: Fu num ws)++(0 :: (C6 num (k+1) st++rest)):=by simp [Aew]
  rw [e0,Nm _ _ _ _ hz,List.nil_append,Ad9,if_pos rfl]
  have e1:(((256+((k:Nat):Int)) :: Fu num ws)++[0]).headD 0=256+((k:Nat):Int):=rfl
  have e2:((((256+((k:Nat):Int)) :: Fu num ws)++[0]).dropLast.drop 1).map D.int=Cb num ws:=by
   rw [List.dropLast_concat,← Ks];rfl
  rw [e1,e2]
  have e3:Cg es (256+((k:Nat):Int)) (.list (Cb num ws))=es++[(256+((k:Nat):Int),D.list (Cb num ws))]:=by
   delta Cg
   rw [if_neg]
   simp only [List.any_eq_true,decide_eq_true_eq,not_exists,not_and]
   intro e he q
   have:=h e he
   lia
  rw [e3,Kp hnum st (k+1) _ rest]
  ·simp [Aeh]
  ·intro e he
   rcases List.mem_append.mp he with q | q
   ·have:=h e q;lia
   ·simp at q;rw [q];simp;exact Int.lt_succ ↑k
end
end Mine
end
section
set_option autoImplicit false
namespace Mine
noncomputable def swapA(o:List Int)(g:Nat):List Int:=match o,g with
 |[a,b,c,d],0=>[b,a,c,d]
 |[a,b,c,d],1=>[a,c,b,d]
 |[a,b,c,d],_=>[a,b,d,c]
 |o,_=>o
noncomputable def lessA(o:List Int)(g:Nat):Bool:=match o,g with
 |[a,b,c,d],0=>decide (b<a)
 |[a,b,c,d],1=>decide (c<b)
 |[a,b,c,d],_=>decide (d<c)
 |_,_=>false
noncomputable def idxL(o:List Int):List (List Int)→Nat
 |[]=>0
 |x :: r=>if x == o then 0 else idxL o r+1
noncomputable def Le(o:List Int):List Nat→List (List Int)×List (Nat×Nat)→List (List Int)×List (Nat×Nat)
 |[],x=>x
 |g :: gs,(os,ws)=>if lessA o g then
   let l:=swapA o g
   let os':=if os.contains l then os else os++[l]
   Le o gs (os',ws++[(g,idxL l os')])
  else Le o gs (os,ws)
noncomputable def Adm:Nat→List (List Int)→Au→Au
 |0,_,st=>st
 |f+1,os,st=>match os[st.length]? with
  |none=>st
  |some o=>let (os',ws):=Le o [0,1,2] (os,[]);Adm f os' (st++[ws])
noncomputable def Hi(goal:List Int):Au:=Adm 30 [goal] []
noncomputable def num3(a b c:Int):Nat→Int
 |0=>a | 1=>b | _=>c
noncomputable def Hh:List (List Int):=[[0,1,2,3],[0,1,3,2],[0,2,1,3],[0,2,3,1],[0,3,1,2],[0,3,2,1],[1,0,2,3],[1,0,3,2],[1,2,0,3],[1,2,3,0],[1,3,0,2],[1,3,2,0],[2,0,1,3],[2,0,3,1],[2,1,0,3],[2,1,3,0],[2,3,0,1],[2,3,1,0],[3,0,1,2],[3,0,2,1],[3,1,0,2],[3,1,2,0],[3,2,0,1],[3,2,1,0]]
theorem gram1(n:Nat)(a b c:Int){goal:List Int}(hg:goal∈Hh):(Ev G1.P (n+60)).call 120 [(.sh,.list (goal.map .int)),(.sh,.list [.int a,.int b,.int c])] =
  some (.tup [.list (Ad (Hi goal)),.list (E6 (num3 a b c) 0 (Hi goal))],some (.sh,.list [.int a,.int b,.int c])):=by
 simp only [Hh,List.mem_cons,List.mem_nil_iff,or_false] at hg
 rcases hg with rfl | rfl | rfl | rfl | rfl | rfl | rfl | rfl | rfl | rfl | rfl | rfl | rfl | rfl | rfl | rfl | rfl | rfl | rfl | rfl | rfl | rfl | rfl | rfl <;> kernel_rfl
end Mine
end
section
set_option autoImplicit false
namespace Mine
noncomputable def S3(x y z:Nat):Nat→Nat
 |0=>x | 1=>y | _=>z
theorem Ag0{x y z:Nat}:S3 x y z 0=x:=rfl
theorem S3_1{x y z:Nat}:S3 x y z 1=y:=rfl
theorem S3_2{x y z:Nat}:S3 x y z 2=z:=rfl
noncomputable def N3(x y z:Nat)(g:Nat):Int:=Aj (S3 x y z g)
theorem Kn:∀(l:List (List Nat)),F1 (l.map D.str)=some l
 |[]=>rfl
 |a :: l=>by simp [tS_c,Kn l]
theorem Jd:∀(l:List Nat),A4 [] (l.map fun x=>[x])=l
 |[]=>rfl
 |[a]=>rfl
 |a :: b :: r=>by
  have:=Jd (b :: r)
  simp only [List.map_cons,Pu] at this ⊢
  rw [this];simp
theorem K8(sep:List Nat):∀(l:List (List Nat)),(A4 sep l).length≤(l.map fun a=>a.length+sep.length).sum
 |[]=>by simp [Afd]
 |[a]=>by simp [Rh]
 |a :: b :: r=>by
  have:=K8 sep (b :: r)
  simp only [Pu,List.length_append,List.map_cons,List.sum_cons] at this ⊢
  exact Nat.add_le_add_iff_left.mpr this
theorem Bs:∀(l:List Int),A1 (l.map D.int)=some l
 |[]=>rfl
 |a :: l=>by simp [Vz,Bs l]
section
variable {P:List (Nat×Ahc)} {n:Nat} {F:Ahl} {σ:St}
theorem N4{l:List (List Nat)}{sep:List Nat}(h:(A4 sep l).length≤line):Bw .join (.str sep) [.list (l.map D.str)]=some (.str (A4 sep l)):=by
 simp only [Bw,Gn,Ej,Gk,Option.bind_some,Kn,if_pos h]
theorem K7{l:List Nat}(h:l.length≤line):Bw .join (.str []) [.list (l.map fun x=>D.str [x])]=some (.str l):=by
 have:=N4 (l:=l.map fun x=>[x]) (sep:=[]) (by rw [Jd];exact h)
 rw [Jd,List.map_map] at this
 exact this
theorem Qk{s:List Nat}{e:E}:Ab F (.meth .join (.lit (.str s)) [e]) σ=(F.ev (.lit (.str s)) σ).bind fun p=>(F.ev e p.2).bind fun q=>if kd p.1=kd p.1 then (Bw .join p.1 [q.1]).map fun d=>(d,q.2) else none:=by
 rw [Ad3]
 simp only [A8,Dm,Et,Option.map_some,again]
 cases F.ev (.lit (.str s)) σ with
 |none=>rfl
 |some p=>
  simp only [Option.bind_some]
  cases F.ev e p.2 with
  |none=>rfl
  |some q=>simp
theorem idx3{x y z g:Nat}(hg:g<3):Ar (.list (B9 [x,y,z])) (.int (g:Int))=some (.str [S3 x y z g]):=by
 match g,hg with
 |0,_=>rfl
 |1,_=>rfl
 |2,_=>rfl
theorem Afi{x y z g:Nat}(hg:g<3)(hA:∀w∈[x,y,z],w∈A5)(hn:[x,y,z].Nodup):Bw .index (.list ([x,y,z].map fun w=>D.int (Aj w))) [.int (N3 x y z g)]=some (.int (g:Int)):=by
 simp only [List.nodup_cons,List.mem_cons,List.mem_nil_iff,or_false,not_or] at hn
 have hx:=hA x (by simp);have hy:=hA y (by simp);have hz:=hA z (by simp)
 have xy:Aj x≠Aj y:=fun q=>hn.1.1 (Gq x hx y hy q)
 have xz:Aj x≠Aj z:=fun q=>hn.1.2 (Gq x hx z hz q)
 have yz:Aj y≠Aj z:=fun q=>hn.2.1 (Gq y hy z hz q)
 match g,hg with
 |0,_=>simp [Bw,Ad7,Vz,Rk,N3,S3]
 |1,_=>simp [Bw,Ad7,Vz,Rk,N3,S3,xy]
 |2,_=>simp [Bw,Ad7,Vz,Rk,N3,S3,xz,yz]
theorem Ta{x y z g:Nat}(hg:g<3)(hA:∀w∈[x,y,z],w∈A5)(hn:[x,y,z].Nodup):Df (N3 x y z g) ([x,y,z].map Aj)=some g:=by
 simp only [List.nodup_cons,List.mem_cons,List.mem_nil_iff,or_false,not_or] at hn
 have hx:=hA x (by simp);have hy:=hA y (by simp);have hz:=hA z (by simp)
 have xy:Aj x≠Aj y:=fun q=>hn.1.1 (Gq x hx y hy q)
 have xz:Aj x≠Aj z:=fun q=>hn.1.2 (Gq x hx z hz q)
 have yz:Aj y≠Aj z:=fun q=>hn.2.1 (Gq y hy z hz q)
 match g,hg with
 |0,_=>simp [Rk,N3,Ag0]
 |1,_=>simp [Rk,N3,Ag0,S3_1,xy]
 |2,_=>simp [Rk,N3,Ag0,S3_1,S3_2,xz,yz]
noncomputable def Yn(a b s o i:Nat):E:=.comp (.meth .join (.lit (.str [])) [(.comp (.idx (.var a) (.meth .index (.var b) [(.var i)])) [(.v i,(.var o),[])])]) [(.v o,(.call (.glob (.fn 125)) [(.var s),(.lit (.int 256))] false),[])]
theorem Vp(h38:P.lookup 38=some G1.Ah4)(h125:P.lookup 125=some G1.Ah7){a b s o i:Nat}{ob:Own}{x y z:Nat}{st:Au}{R:List (List Nat)}
  (hA:∀w∈[x,y,z],w∈A5) (hn:[x,y,z].Nodup) (hst:∀ws∈st,ws.length<1000) (hR:He st 8 0=some R) (hz:R.length≤100) (hg:∀r∈R,∀g∈r,g<3)
  (ga:σ.get a=some (.sh,.list (B9 [x,y,z]))) (gb:σ.get b=some (ob,.list ([x,y,z].map fun w=>D.int (Aj w)))) (gs:σ.get s=some (.own,Bp (N3 x y z) st)) (go:σ.get o=none) (gi:σ.get i=none)
  (ls:s<σ.length) (lo:o<σ.length) (li:i<σ.length) (nd:[a,b,s,o,i].Nodup) :
  Av (Ev P (n+50)) (Yn a b s o i) σ=some (.own,.list (R.map fun r=>D.str (r.map (S3 x y z))),σ.put s (.sh,Bp (N3 x y z) st)):=by
 simp only [List.nodup_cons,List.mem_cons,or_false,not_or,List.not_mem_nil,not_false_eq_true,List.nodup_nil,and_true] at nd
 obtain ⟨⟨ab,as,ao,ai⟩,⟨bs,bo,bi⟩,⟨so,si⟩,oi⟩:=nd
 have hnum:∀g,N3 x y z g<256:=fun g=>by
  have hm:S3 x y z g∈[x,y,z]:=by match g with | 0=>exact List.mem_cons_self | 1=>exact List.mem_cons_of_mem _ List.mem_cons_self | _+2=>exact List.mem_cons_of_mem _ (List.mem_cons_of_mem _ List.mem_cons_self)
  have:=(Mv _ (hA _ hm)).2
  delta N3;lia
 have c:=Age (P:=P) h38 h125 (num:=N3 x y z) hnum hst 8 0 R (n+4) (by decide) hR (by delta line;lia)
 have c':(Ev P (n+48)).call 125 [(.sh,Bp (N3 x y z) st),(.sh,.int 256)]=some (.list (Bm (N3 x y z) R),some (.sh,.int 256)):=c
 generalize hσ:σ.put s (.sh,Bp (N3 x y z) st)=σ' at *
 have l':σ'.length=σ.length:=by rw [← hσ];exact Ag7 ..
 have g':∀j,j≠s→σ'.get j=σ.get j:=fun j hj=>by rw [← hσ,Ag6 _ _ _ _ ls,if_neg hj]
 have it:items (Ev P (n+50)) (.call (.glob (.fn 125)) [(.var s),(.lit (.int 256))] false) σ=some (Bm (N3 x y z) R,σ'):=by
  rw [Ao rfl,show n+50=n+48+2 from rfl]
  simp only [Cu,Nh,Ng,Option.bind_some,Aa7,R9,Tx,C5,gs,Q2,Dg,Option.map_some,hσ]
  rw [show n+48+1=n+49 from rfl] at *
  have c2:(Ev P (n+49)).call 125 [(.sh,Bp (N3 x y z) st),(.sh,.int 256)]=some (.list (Bm (N3 x y z) R),some (.sh,.int 256)):=by
   have:=Age (P:=P) h38 h125 (num:=N3 x y z) hnum hst 8 0 R (n+5) (by decide) hR (by delta line;lia)
   exact this
  rw [c2];rfl
 have key:=C9 (F:=Ev P (n+50)) (σ:=σ') (σ₁:=σ) (i:=o) (elt:=.meth .join (.lit (.str [])) [(.comp (.idx (.var a) (.meth .index (.var b) [(.var i)])) [(.v i,(.var o),[])])])
  (g:=fun d=>mL d .none fun l=>.str (l.map fun d=>mI d 0 fun v=>S3 x y z ((Df v ([x,y,z].map Aj)).getD 0))) (by rw [g' o (Ne.symm so)];exact go) (by rw [l'];exact lo) it (fun d hd τ hn' hb=>?_) (by delta Bm line;rw [List.length_map];lia)
 ·delta Yn
  rw [key]
  delta Bm
  rw [List.map_map]
  congr 4
  apply List.map_congr_left
  intro r hr
  simp only [Function.comp,Ku,mL_l,List.map_map]
  congr 1
  apply List.map_congr_left
  intro g hg'
  simp only [Function.comp,Dj,U0,Ta (hg r hr g hg') hA hn,Option.getD_some]
 ·obtain ⟨r,hr,rfl⟩:=List.mem_map.mp hd
  have ta:τ.get a=some (.sh,.list (B9 [x,y,z])):=(hn'.get a (by simp [ao])).trans ((g' a as).trans ga)
  have tb:τ.get b=some (ob,.list ([x,y,z].map fun w=>D.int (Aj w))):=(hn'.get b (by simp [bo])).trans ((g' b bs).trans gb)
  have ti:τ.get i=none:=(hn'.get i (by simp [Ne.symm oi])).trans ((g' i (Ne.symm si)).trans gi)
  have lt:i<τ.length:=by rw [hn'.len,l'];exact li
  have it2:items (Ev P (n+47)) (.var o) τ=some (r.map (Dj (N3 x y z)),τ):=by
   rw [Ao rfl];simp [hb,Ku,Ea]
  have hrl:=I6 hR r hr
  have inner:=C9 (F:=Ev P (n+47)) (σ:=τ) (σ₁:=τ) (i:=i) (elt:=.idx (.var a) (.meth .index (.var b) [(.var i)])) (ds:=r.map (Dj (N3 x y z)))
   (g:=fun d=>mI d .none fun v=>.str [S3 x y z ((Df v ([x,y,z].map Aj)).getD 0)]) ti lt it2 (fun d hd υ hn2 hb2=>?_) (by rw [List.length_map];delta line;lia)
  ·rw [List.map_map] at inner
   have hj:(r.map ((fun d=>mI d .none fun v=>.str [S3 x y z ((Df v ([x,y,z].map Aj)).getD 0)]) ∘ Dj (N3 x y z)))=(r.map fun g=>S3 x y z ((Df (N3 x y z g) ([x,y,z].map Aj)).getD 0)).map fun w=>D.str [w]:=by
    rw [List.map_map];rfl
   rw [hj] at inner
   have jc:=K7 (l:=r.map fun g=>S3 x y z ((Df (N3 x y z g) ([x,y,z].map Aj)).getD 0)) (by rw [List.length_map];delta line;lia)
   rw [show n+50=n+47+1+1+1 from rfl]
   simp only [Cu,Qk,Dg,Option.bind_some,Ff,Dp,inner,Cp,jc,if_true,Option.map_some]
   simp only [Ku,mL_l,List.map_map]
   rfl
  ·obtain ⟨g,hg',rfl⟩:=List.mem_map.mp hd
   have ua:υ.get a=some (.sh,.list (B9 [x,y,z])):=(hn2.get a (by simp [ai])).trans ta
   have ub:υ.get b=some (ob,.list ([x,y,z].map fun w=>D.int (Aj w))):=(hn2.get b (by simp [bi])).trans tb
   have e:=Afi (hg r hr g hg') hA hn
   have e3:=idx3 (x:=x) (y:=y) (z:=z) (hg r hr g hg')
   have hq:=Ta (hg r hr g hg') hA hn
   simp only [Dj,U0,hq,Option.getD_some]
   generalize List.map (fun w=>D.int (Aj w)) [x,y,z]=L at *
   simp [ua,ub,hb2,Dj,e,e3,A8,again]
end
end Mine
end
section
set_option autoImplicit false
namespace Mine
theorem Zi{x y z:Nat}(hn:[x,y,z].Nodup){g h:Nat}(hg:g<3)(hh:h<3)(e:S3 x y z g=S3 x y z h):g=h:=by
 simp only [List.nodup_cons,List.mem_cons,List.mem_nil_iff,or_false,not_or] at hn
 exact lt3 (P:=fun g=>∀h,h<3→S3 x y z g=S3 x y z h→g=h)
  (fun h hh=>lt3 (P:=fun h=>S3 x y z 0=S3 x y z h→0=h) (fun ζ=>rfl) (fun e=>absurd e hn.1.1) (fun e=>absurd e hn.1.2) hh)
  (fun h hh=>lt3 (P:=fun h=>S3 x y z 1=S3 x y z h→1=h) (fun e=>absurd e.symm hn.1.1) (fun ζ=>rfl) (fun e=>absurd e hn.2.1) hh)
  (fun h hh=>lt3 (P:=fun h=>S3 x y z 2=S3 x y z h→2=h) (fun e=>absurd e.symm hn.1.2) (fun e=>absurd e.symm hn.2.1) (fun ζ=>rfl) hh) hg h hh e
theorem Sm{x y z:Nat}(hn:[x,y,z].Nodup):∀ {a b:List Nat},(∀g∈a,g<3)→(∀g∈b,g<3)→((a.map (S3 x y z)).Sublist (b.map (S3 x y z))↔a.Sublist b):=by
 intro a b ha hb
 refine ⟨fun h=>?_,fun h=>h.map _⟩
 rw [List.sublist_map_iff] at h
 obtain ⟨c,hc,e⟩:=h
 have:a=c:=by
  have hc':∀g∈c,g<3:=fun g hg=>hb g (hc.subset hg)
  clear hc hb
  induction a generalizing c with
  |nil=>induction c using List.casesOn with
   |nil=>rfl
   |cons _ _=>cases e
  |cons g a ih=>induction c using List.casesOn with
   |nil=>cases e
   |cons h c=>
    rw [List.map_cons,List.map_cons] at e
    injection e with e1 e2
    rw [Zi hn (ha g List.mem_cons_self) (hc' h List.mem_cons_self) e1,ih (fun g hg=>ha g (List.mem_cons_of_mem _ hg)) c e2 fun g hg=>hc' g (List.mem_cons_of_mem _ hg)]
 rw [this];exact hc
theorem Lz(x y z g:Nat):S3 x y z g∈[x,y,z]:=by match g with | 0=>exact List.mem_cons_self | 1=>exact List.mem_cons_of_mem _ List.mem_cons_self | _+2=>exact List.mem_cons_of_mem _ (List.mem_cons_of_mem _ List.mem_cons_self)
theorem Ack:∀x∈A5,x<128:=by decide
theorem N0{x y z:Nat}(hA:∀w∈[x,y,z],w∈A5)(r:List Nat):∀w∈r.map (S3 x y z),w<128:=fun w hw=>by
 obtain ⟨g,_,rfl⟩:=List.mem_map.mp hw
 exact Ack _ (hA _ (Lz ..))
noncomputable def Qe(m k:Nat):Bool:=decide (m / 2 ^ k % 2=1)
noncomputable def Bu(row:List Nat)(m:Nat):List Nat:=((List.range 4).filter (Qe m)).map fun k=>row.getD k 0
noncomputable def Jf(R:List (List Nat))(c:List Nat):Bool:=R.any fun r=>r.isSublist c
noncomputable def Pl(k:Nat):Int:=1 - ((k:Int) % 2) * 2
noncomputable def Eg(R:List (List Nat))(row:List Nat)(m:Nat):Int:=if Jf R (Bu row m) then Pl (Bu row m).length else 0
noncomputable def Ek(R:List (List Nat))(row:List Nat)(m:Nat):Int:=(((List.range (m+1)).filter fun l=>l &&& m == l).map (Eg R row)).sum
section
variable {P:List (Nat×Ahc)} {n:Nat} {F:Ahl} {σ:St}
theorem Dt{x:Nat}{e:E}{o:Own}{d:D}{τ:St}(h:Av (Ev P n) e σ=some (o,d,τ)):(Ev P (n+2)).ex (.asg x e) σ=some (.next,τ.put x (o,d)):=by
 rw [De,Hd,Dp,h];rfl
theorem Lf{row:List Nat}{k:Nat}(h:k<row.length):row.getD k 0=row[k]:=by simp [List.getD,List.getElem?_eq_getElem h]
noncomputable def Kh(r m k:Nat):E:=.comp (.idx (.var r) (.var k)) [(.v k,(.bi .range [(.lit (.int 4))]),[(.cmp .eq (.bin .mod (.bin .fdiv (.var m) (.bin .pow (.lit (.int 2)) (.var k))) (.lit (.int 2))) (.lit (.int 1)))])]
theorem Vc{r m k:Nat}{orow:Own}{row:List Nat}{mask:Nat}(hr:row.length=4)(hm:mask<16)(gr:σ.get r=some (orow,.list (row.map fun g:Nat=>D.int g)))(gm:σ.get m=some (.sh,.int (mask:Nat)))(gk:σ.get k=none)(lk:k<σ.length)(rk:r≠k)(mk:m≠k) :
  Av (Ev P (n+6)) (Kh r m k) σ=some (.own,.list ((Bu row mask).map fun g:Nat=>D.int g),σ):=by
 have it:items (Ev P (n+6)) (.bi .range [(.lit (.int 4))]) σ=some ((List.range' 0 4).map fun i:Nat=>D.int i,σ):=by
  rw [Ao rfl]
  have:=Cs (k:=4) (by decide)
  have hb:biD .range [.int 4]=some (.rng 0 4 1):=rfl
  simp [hb];exact this
 have key:=Gv (F:=Ev P (n+6)) (σ:=σ) (σ₁:=σ) (i:=k) (elt:=.idx (.var r) (.var k)) (cs:=[(.cmp .eq (.bin .mod (.bin .fdiv (.var m) (.bin .pow (.lit (.int 2)) (.var k))) (.lit (.int 2))) (.lit (.int 1)))]) (ds:=(List.range' 0 4).map fun i:Nat=>D.int i)
  (p:=fun d=>mI d false fun j=>Qe mask j.toNat) (g:=fun d=>mI d .none fun j=>.int ((row.getD j.toNat 0:Nat):Int)) gk lk it (fun d hd τ hn hb=>?_) (fun d hd ζ τ hn hb=>?_) (by simp [line])
 ·unfold Kh
  rw [key]
  congr 4
  unfold Bu
  rw [List.filter_map,List.map_map,List.map_map,List.range_eq_range']
  rfl
 ·obtain ⟨j,hj,rfl⟩:=List.mem_map.mp hd
  have hj4:j<4:=by simpa using hj
  have tm:τ.get m=some (.sh,.int (mask:Nat)):=(hn.get m (by simpa using mk)).trans gm
  have hp:A3 .pow (.int 2) (.int (j:Int))=some (.int ((2 ^ j:Nat):Int)):=by
   match j,hj4 with
   |0,_=>rfl
   |1,_=>rfl
   |2,_=>rfl
   |3,_=>rfl
  have hf:A3 .fdiv (.int (mask:Int)) (.int ((2 ^ j:Nat):Int))=some (.int ((mask / 2 ^ j:Nat):Int)):=by
   rw [R4 (B8 (Nat.le_trans (by assumption) (by decide))) (B8 (by have:2 ^ j≤2 ^ 3:=Nat.pow_le_pow_right (by decide) (by exact Nat.le_of_lt_succ hj4);lia)) (by intro q;have h5:=Nat.two_pow_pos j;rw [Int.natCast_eq_zero] at q;lia),Int.fdiv_eq_ediv_of_nonneg _ (Int.natCast_nonneg _)];rfl
  have hmo:A3 .mod (.int ((mask / 2 ^ j:Nat):Int)) (.int 2)=some (.int ((mask / 2 ^ j % 2:Nat):Int)):=by
   rw [J3 (by decide),show (2:Int)=((2:Nat):Int) from rfl,Lj]
  have hd1:decide (((mask / 2 ^ j % 2:Nat):Int)=1)=Qe mask j:=by unfold Qe;rw [decide_eq_decide];exact ⟨fun q=>Int.ofNat.inj q,fun q=>congrArg Int.ofNat q⟩
  rw [show n+6=n+5+1 from rfl]
  simp only [U0,all_cons,G0,D5,Ei,Cu,D9,E0,C5,tm,D2,hb,Dg,Option.bind_some,hp,Option.map_some,hf,hmo,Ir,C7,iE1,Bool.false_eq_true,if_false,hd1,Int.toNat_natCast]
  cases Qe mask j <;> rfl
 ·obtain ⟨j,hj,rfl⟩:=List.mem_map.mp hd
  have hj4:j<4:=by simpa using hj
  have tr:τ.get r=some (orow,.list (row.map fun g:Nat=>D.int g)):=(hn.get r (by simpa using rk)).trans gr
  have hi:Ar (.list (row.map fun g:Nat=>D.int g)) (.int (j:Int))=some (.int ((row.getD j 0:Nat):Int)):=by
   have:=E9 (xs:=row.map fun g:Nat=>(g:Int)) (k:=j) (Nat.le_trans (by assumption) (by decide))
   rw [List.map_map,List.getElem?_map,List.getElem?_eq_getElem (by exact Nat.lt_of_lt_of_eq hj4 (id (Eq.symm hr)))] at this
   rw [Lf (by exact Nat.lt_of_lt_of_eq hj4 (id (Eq.symm hr)))]
   exact this
  simp [tr,hb,hi,A8,again]
theorem Aai{a c k:Nat}{oc:Own}{x y z:Nat}{ch:List Nat}(hc:oc≠.bor)(hg:∀g∈ch,g<3)(hz:ch.length≤1000)(ga:σ.get a=some (.sh,.list (B9 [x,y,z])))(gc:σ.get c=some (oc,.list (ch.map fun g:Nat=>D.int g)))(gk:σ.get k=none)(lk:k<σ.length)(lc:c<σ.length)(ak:a≠k)(ac:a≠c)(ck:c≠k) :
  Av (Ev P (n+8)) (.meth .join (.lit (.str [])) [(.comp (.idx (.var a) (.var k)) [(.v k,(.var c),[])])]) σ=some (.sh,.str (ch.map (S3 x y z)),σ.put c (.sh,.list (ch.map fun g:Nat=>D.int g))):=by
 generalize hσ:σ.put c (.sh,.list (ch.map fun g:Nat=>D.int g))=σ' at *
 have l':σ'.length=σ.length:=by rw [← hσ];exact Ag7 ..
 have g':∀j,j≠c→σ'.get j=σ.get j:=fun j hj=>by rw [← hσ,Ag6 _ _ _ _ lc,if_neg hj]
 have it:items (Ev P (n+5)) (.var c) σ=some (ch.map fun g:Nat=>D.int g,σ'):=by
  rw [Ao rfl]
  induction oc using Own.casesOn with
  |bor=>exact absurd rfl hc
  |sh=>
   have:σ.put c (.sh,.list (ch.map fun g:Nat=>D.int g))=σ:=by
    refine Ahg.eq ⟨Ag7 ..,fun j ζ=>?_⟩
    rw [Ag6 _ _ _ _ lc]
    split
    ·rename_i e;rw [e,gc]
    ·rfl
   rw [this] at hσ;subst hσ
   simp [gc,Ea]
  |own=>simp [gc,Ea,hσ]
 have key:=C9 (F:=Ev P (n+5)) (σ:=σ') (σ₁:=σ) (i:=k) (elt:=.idx (.var a) (.var k)) (g:=fun d=>mI d .none fun j=>.str [S3 x y z j.toNat]) (by rw [g' k (Ne.symm ck)];exact gk) (by rw [l'];exact lk) it (fun d hd τ hn hb=>?_) (by rw [List.length_map];exact Nat.le_trans (by assumption) (by decide))
 ·rw [List.map_map] at key
  have hj:(ch.map ((fun d=>mI d .none fun j=>.str [S3 x y z j.toNat]) ∘ fun g:Nat=>D.int g))=(ch.map (S3 x y z)).map fun w=>D.str [w]:=by rw [List.map_map];rfl
  rw [hj] at key
  have jc:=K7 (l:=ch.map (S3 x y z)) (by rw [List.length_map];exact Nat.le_trans (by assumption) (by decide))
  rw [show n+8=n+5+1+1+1 from rfl]
  simp only [Aey,Cu,Qk,Dg,Option.bind_some,Ff,Dp,key,Cp,jc,if_true,Option.map_some,E5]
 ·obtain ⟨g,hg',rfl⟩:=List.mem_map.mp hd
  have ta:τ.get a=some (.sh,.list (B9 [x,y,z])):=(hn.get a (by simpa using ak)).trans ((g' a ac).trans ga)
  have e3:=idx3 (x:=x) (y:=y) (z:=z) (hg g hg')
  simp [ta,hb,e3,A8,again]
noncomputable def Of(m w p k:Nat):E:=.comp (.ite (.bin .mod (.var m) (.lit (.int 3))) (.tup [(.var k),(.var p)]) (.tup [(.var p),(.var k)])) [(.v k,(.var w),[])]
theorem W9{m w p k:Nat}{ow:Own}{mask:Nat}{W:List (List Nat)}{q:List Nat}(hw:ow≠.bor)(hz:W.length≤1000)(gm:σ.get m=some (.sh,.int (mask:Nat)))(gw:σ.get w=some (ow,.list (W.map D.str)))(gp:σ.get p=some (.sh,.str q))(gk:σ.get k=none)(lk:k<σ.length)(lw:w<σ.length)
  (mk:m≠k) (mw:m≠w) (pk:p≠k) (pw:p≠w) (wk:w≠k) :
  Av (Ev P (n+6)) (Of m w p k) σ=some (.own,.list (W.map fun u=>if mask % 3≠0 then .tup [.str u,.str q] else .tup [.str q,.str u]),σ.put w (.sh,.list (W.map D.str))):=by
 generalize hσ:σ.put w (.sh,.list (W.map D.str))=σ' at *
 have l':σ'.length=σ.length:=by rw [← hσ];exact Ag7 ..
 have g':∀j,j≠w→σ'.get j=σ.get j:=fun j hj=>by rw [← hσ,Ag6 _ _ _ _ lw,if_neg hj]
 have it:items (Ev P (n+6)) (.var w) σ=some (W.map D.str,σ'):=by
  rw [Ao rfl]
  induction ow using Own.casesOn with
  |bor=>exact absurd rfl hw
  |sh=>
   have:σ.put w (.sh,.list (W.map D.str))=σ:=by
    refine Ahg.eq ⟨Ag7 ..,fun j ζ=>?_⟩
    rw [Ag6 _ _ _ _ lw]
    split
    ·rename_i e;rw [e,gw]
    ·rfl
   rw [this] at hσ;subst hσ
   simp [gw,Ea]
  |own=>simp [gw,Ea,hσ]
 have key:=C9 (F:=Ev P (n+6)) (σ:=σ') (σ₁:=σ) (i:=k) (elt:=.ite (.bin .mod (.var m) (.lit (.int 3))) (.tup [(.var k),(.var p)]) (.tup [(.var p),(.var k)])) (g:=fun d=>if mask % 3≠0 then .tup [d,.str q] else .tup [.str q,d]) (by rw [g' k (Ne.symm wk)];exact gk) (by rw [l'];exact lk) it (fun d hd τ hn hb=>?_) (by rw [List.length_map];exact Nat.le_trans (by assumption) (by decide))
 ·unfold Of
  rw [key,List.map_map];rfl
 ·have tm:τ.get m=some (.sh,.int (mask:Nat)):=(hn.get m (by simpa using mk)).trans ((g' m mw).trans gm)
  have tp:τ.get p=some (.sh,.str q):=(hn.get p (by simpa using pk)).trans ((g' p pw).trans gp)
  have hmo:A3 .mod (.int (mask:Int)) (.int 3)=some (.int ((mask % 3:Nat):Int)):=by
   rw [J3 (by decide),show (3:Int)=((3:Nat):Int) from rfl,Lj]
  by_cases h:mask % 3=0
  ·have h':((mask % 3:Nat):Int)=0:=by exact Int.ofNat_eq_zero.mpr h
   rw [h'] at hmo
   simp [tm,tp,hb,hmo,h,line]
  ·have h':((mask % 3:Nat):Int)≠0:=by exact Int.ofNat_ne_zero.mpr h
   simp only [Cu,Se,D5,t_bin,E0,C5,tm,D2,Option.bind_some,Dg,hmo,Option.map_some,r_int,decide_eq_true h',if_true,x_tup,Dm,hb,tp,Et]
   simp [h,line]
noncomputable def Tp(ps d c a b:Nat):E:=.comp (.call (.glob (.fn 28)) [(.var a),(.var b),(.bin .add (.var d) (.bin .mod (.bin .fdiv (.idx (.var c) (.lit (.int 3))) (.lit (.int 125))) (.lit (.int 4))))] false) [(.t [a,b],(.var ps),[])]
end
end Mine
end
section
set_option autoImplicit false
namespace Mine
section
variable {P:List (Nat×Ahc)} {n:Nat} {F:Ahl} {σ σ₁:St}
theorem Agg{T:List Nat}{a b:Nat}(ha:a∈T)(hb:b∈T)(ab:a≠b)(la:a<σ.length)(lb:b<σ.length)(d e:D)(τ:St)(h:Ahg T σ τ):∃τ',Cy (.t [a,b]) (.tup [d,e]) τ=some τ'∧Ahg T σ τ'∧τ'.get a=some (.sh,d)∧τ'.get b=some (.sh,e):=
 ⟨(τ.put a (.sh,d)).put b (.sh,e),by simp [Zc,Ut,Uu],(h.put ha _).put hb _,by rw [Ag6 _ _ _ _ (by rw [Ag7,h.len];exact lb),if_neg ab,Ag6 _ _ _ _ (by rw [h.len];exact la),if_pos rfl],by rw [Ag6 _ _ _ _ (by rw [Ag7,h.len];exact lb),if_pos rfl]⟩
theorem Ab4{elt it:E}{a b:Nat}{ps:List (D×D)}{g:D→D→D}(ab:a≠b)(ha:σ.get a=none)(hb:σ.get b=none)(la:a<σ.length)(lb:b<σ.length)(hit:items F it σ₁=some (ps.map fun p=>D.tup [p.1,p.2],σ))
  (he:∀p∈ps,∀τ,Ahg [a,b] σ τ→τ.get a=some (.sh,p.1)→τ.get b=some (.sh,p.2)→F.ev elt τ=some (g p.1 p.2,τ)) (hz:ps.length≤line) :
  Av F (.comp elt [(.t [a,b],it,[])]) σ₁=some (.own,.list (ps.map fun p=>g p.1 p.2),σ):=by
 have:=Dr (F:=F) (σ:=σ) (T:=[a,b]) (tg:=.t [a,b]) (conds:=[]) (body:=Eb F elt []) (Bd:=fun d τ=>∃p∈ps,d=.tup [p.1,p.2]∧τ.get a=some (.sh,p.1)∧τ.get b=some (.sh,p.2)) (p:=fun ζ=>true)
  (g:=fun d=>match d with | .tup [x,y]=>[g x y] | _=>[]) (ds:=ps.map fun p=>D.tup [p.1,p.2])
  (fun d hd τ h=>by
   obtain ⟨p,hp,rfl⟩:=List.mem_map.mp hd
   obtain ⟨τ',e,hn,h1,h2⟩:=Agg (T:=[a,b]) (by simp) (by simp) ab la lb p.1 p.2 τ h
   exact ⟨τ',e,hn,p,hp,rfl,h1,h2⟩)
  (fun d hd τ ζ ζ=>rfl)
  (fun d hd ζ τ acc hn hbd hz=>by
   obtain ⟨p,hp,rfl,h1,h2⟩:=hbd
   exact ⟨τ,Gw (he p hp τ hn h1 h2) (by have:acc.length+1≤line:=hz;assumption),hn⟩) σ [] (.refl ..) ?_
 ·obtain ⟨τ,e,hn⟩:=this
  rw [show (ps.map fun p=>D.tup [p.1,p.2]).filter (fun ζ=>true)=ps.map fun p=>D.tup [p.1,p.2] from List.filter_eq_self.mpr fun ζ ζ=>rfl,List.flatMap_map] at e
  have ef:(ps.flatMap fun p=>[g p.1 p.2])=ps.map fun p=>g p.1 p.2:=Bk _ _
  rw [I9,Ch hit,e]
  simp only [Option.map_some,Ab2,Ab3,dT_t,List.foldl_cons,List.foldl_nil,List.nil_append]
  have n1:=hn.del (i:=a) ha
  have n2:=n1.del (i:=b) hb
  rw [show List.filter (fun x=>decide (x≠b)) (List.filter (fun x=>decide (x≠a)) [a,b])=[] by simp] at n2
  rw [n2.eq]
  congr 3
  exact congrArg D.list ef
 ·rw [show (ps.map fun p=>D.tup [p.1,p.2]).filter (fun ζ=>true)=ps.map fun p=>D.tup [p.1,p.2] from List.filter_eq_self.mpr fun ζ ζ=>rfl,List.flatMap_map]
  show [].length+(ps.flatMap fun p=>[g p.1 p.2]).length≤line
  rw [Bk,List.length_map];simpa using hz
theorem K1{i:Nat}{s:Slot}(h:σ.get i=some s)(hl:i<σ.length):σ.put i s=σ:=by
 refine Ahg.eq ⟨Ag7 ..,fun j ζ=>?_⟩
 rw [Ag6 _ _ _ _ hl]
 split
 ·rename_i e;rw [e,h]
 ·rfl
theorem I7{i:Nat}{o:Own}{d:D}(h:σ.get i=some (o,d))(ho:o≠.bor)(hl:i<σ.length):Kx σ i (some (o,d))=some (d,σ.put i (.sh,d)):=by
 induction o using Own.casesOn with
 |bor=>exact absurd rfl ho
 |own=>rfl
 |sh=>rw [K1 h hl];rfl
theorem Zt(h21:P.lookup 21=some G1.Ah2)(h28:P.lookup 28=some G1.Ah3){ps d c a b:Nat}{op oc:Own}{L:List (List Nat×List Nat)}{due c0 c1 c2 c3:Int}{e:Nat}(ho:op≠.bor)
  (hL:∀p∈L,(∀x∈p.1,x<128)∧(∀x∈p.2,x<128)∧p.1.length≤50∧p.2.length≤50) (hz:L.length≤1000) (h0:0≤c3) (h1:c3<2 ^ 40) (he:(c3.fdiv 125).fmod 4=(e:Int))
  (gp:σ.get ps=some (op,.list (L.map fun p=>D.tup [.str p.1,.str p.2]))) (gd:σ.get d=some (.sh,.int due)) (gc:σ.get c=some (oc,.list [.int c0,.int c1,.int c2,.int c3])) (ga:σ.get a=none) (gb:σ.get b=none)
  (lp:ps<σ.length) (la:a<σ.length) (lb:b<σ.length) (nd:[ps,d,c,a,b].Nodup) :
  Av (Ev P (n+80)) (Tp ps d c a b) σ=some (.own,.list (L.map fun p=>D.int (lv p.1 p.2 (due+e))),σ.put ps (.sh,.list (L.map fun p=>D.tup [.str p.1,.str p.2]))):=by
 simp only [List.nodup_cons,List.mem_cons,or_false,not_or,List.not_mem_nil,not_false_eq_true,List.nodup_nil,and_true] at nd
 obtain ⟨⟨pd,pc,pa,pb⟩,⟨dc,da,db⟩,⟨ca,cb⟩,ab⟩:=nd
 have it:items (Ev P (n+80)) (.var ps) σ=some (L.map fun p=>D.tup [.str p.1,.str p.2],σ.put ps (.sh,.list (L.map fun p=>D.tup [.str p.1,.str p.2]))):=by
  rw [Ao rfl,show n+80=n+79+1 from rfl]
  simp only [Cu,C5,gp,I7 gp ho lp,Option.bind_some];rfl
 generalize hσ:σ.put ps (.sh,.list (L.map fun p=>D.tup [.str p.1,.str p.2]))=σ' at *
 have l':σ'.length=σ.length:=by rw [← hσ];exact Ag7 ..
 have g':∀j,j≠ps→σ'.get j=σ.get j:=fun j hj=>by rw [← hσ,Ag6 _ _ _ _ lp,if_neg hj]
 have hf:A3 .fdiv (.int c3) (.int 125)=some (.int (c3.fdiv 125)):=R4 (Dd (by lia)) rfl (by decide)
 have hm:A3 .mod (.int (c3.fdiv 125)) (.int 4)=some (.int (e:Int)):=by rw [J3 (by decide),he]
 have i3:Ar (.list [.int c0,.int c1,.int c2,.int c3]) (.int 3)=some (.int c3):=rfl
 have key:=Ab4 (F:=Ev P (n+80)) (σ:=σ') (σ₁:=σ) (a:=a) (b:=b) (elt:=.call (.glob (.fn 28)) [(.var a),(.var b),(.bin .add (.var d) (.bin .mod (.bin .fdiv (.idx (.var c) (.lit (.int 3))) (.lit (.int 125))) (.lit (.int 4))))] false)
  (ps:=L.map fun p=>(D.str p.1,D.str p.2)) (g:=fun x y=>match x,y with | .str u,.str q=>.int (lv u q (due+e)) | _,_=>.none) ab (by rw [g' a (Ne.symm pa)];exact ga) (by rw [g' b (Ne.symm pb)];exact gb) (by rw [l'];exact la) (by rw [l'];exact lb)
  (by rw [it,List.map_map];rfl) (fun p hp τ hn ha hb=>?_) (by rw [List.length_map];exact Nat.le_trans (by assumption) (by decide))
 ·unfold Tp
  rw [key,List.map_map];rfl
 ·obtain ⟨⟨u,q⟩,hp',rfl⟩:=List.mem_map.mp hp
  obtain ⟨h3,h4,h5,h6⟩:=hL (u,q) hp'
  have td:τ.get d=some (.sh,.int due):=(hn.get d (by simp [da,db])).trans ((g' d (Ne.symm pd)).trans gd)
  have tc:τ.get c=some (oc,.list [.int c0,.int c1,.int c2,.int c3]):=(hn.get c (by simp [ca,cb])).trans ((g' c (Ne.symm pc)).trans gc)
  have cl:=c28 (P:=P) (n:=n+9) h21 h28 (a:=u) (b:=q) (m:=due+e) h3 h4 h5 h6
  dsimp only at ha hb ⊢
  simp [ha,hb,td,tc,i3,hf,hm,cl,A8,again]
noncomputable def Og(wo m k:Nat):E:=.bi .sum [(.comp (.idx (.var wo) (.var k)) [(.v k,(.bi .range [(.bin .add (.var m) (.lit (.int 1)))]),[(.cmp .eq (.bin .band (.var k) (.var m)) (.var k))])])]
theorem Yz{wo m k:Nat}{o:Own}{w:Nat→Int}{mask:Nat}(hm:mask<1000)(gw:σ.get wo=some (o,.list (((List.range (mask+1)).map w).map D.int)))(gm:σ.get m=some (.sh,.int (mask:Nat)))(gk:σ.get k=none)(lk:k<σ.length)(wk:wo≠k)(mk:m≠k) :
  Av (Ev P (n+8)) (Og wo m k) σ=some (.sh,.int (((List.range (mask+1)).filter fun l=>l &&& mask == l).map w).sum,σ):=by
 have it:items (Ev P (n+5)) (.bi .range [(.bin .add (.var m) (.lit (.int 1)))]) σ=some ((List.range' 0 (mask+1)).map fun i:Nat=>D.int i,σ):=by
  rw [Ao rfl]
  have h1:=Cs (k:=mask+1) (Nat.lt_of_le_of_lt (by assumption) (by decide))
  have hb:biD .range [.int ((mask:Int)+1)]=some (.rng 0 ((mask+1:Nat):Int) 1):=by
   simp only [biD,Pb];rw [if_pos (Dd (by lia))];rfl
  simp only [Cu]
  rw [L3 (show Bi.range≠.len from nofun) (show Bi.range≠.list from nofun)]
  simp only [Dm,Et,Cu,E0,C5,gm,D2,Dg,Option.bind_some,Qh,Option.map_some,hb,h1]
 have key:=Gv (F:=Ev P (n+5)) (σ:=σ) (σ₁:=σ) (i:=k) (elt:=.idx (.var wo) (.var k)) (cs:=[(.cmp .eq (.bin .band (.var k) (.var m)) (.var k))]) (ds:=(List.range' 0 (mask+1)).map fun i:Nat=>D.int i)
  (p:=fun d=>mI d false fun j=>j.toNat &&& mask == j.toNat) (g:=fun d=>mI d .none fun j=>.int (w j.toNat)) gk lk it (fun d hd τ hn hb=>?_) (fun d hd ζ τ hn hb=>?_) (by simp [line];lia)
 ·have hl:(((List.range' 0 (mask+1)).map fun i:Nat=>D.int i).filter fun d=>mI d false fun j=>j.toNat &&& mask == j.toNat).map (fun d=>mI d .none fun j=>D.int (w j.toNat))=(((List.range (mask+1)).filter fun l=>l &&& mask == l).map w).map D.int:=by
   rw [List.filter_map,List.map_map,List.map_map,List.range_eq_range'];rfl
  rw [hl] at key
  have bs:biD .sum [.list ((((List.range (mask+1)).filter fun l=>l &&& mask == l).map w).map D.int)]=some (.int (((List.range (mask+1)).filter fun l=>l &&& mask == l).map w).sum):=by
   simp only [biD,Gk,Ej,Option.map_some,Bs];rfl
  unfold Og
  rw [Aan,show n+8=n+5+1+1+1 from rfl]
  simp only [Cu]
  rw [L3 (show Bi.sum≠.len from nofun) (show Bi.sum≠.list from nofun)]
  simp only [Dm,Et,Cu,Ff,Dp,key,Cp,Option.bind_some,Option.map_some,bs,E5]
 ·obtain ⟨j,hj,rfl⟩:=List.mem_map.mp hd
  have tm:τ.get m=some (.sh,.int (mask:Nat)):=(hn.get m (by simpa using mk)).trans gm
  have hb2:A3 .band (.int (j:Int)) (.int (mask:Int))=some (.int ((j &&& mask:Nat):Int)):=by
   simp only [A3,Xz];rw [if_pos (by simp)];rfl
  have hd1:decide (((j &&& mask:Nat):Int)=(j:Int))=(j &&& mask == j):=by
   rw [show (j &&& mask == j)=decide (j &&& mask=j) from rfl,decide_eq_decide];exact Int.ofNat_inj
  rw [show n+5=n+4+1 from rfl]
  simp only [U0,all_cons,G0,D5,Ei,Cu,D9,E0,C5,tm,D2,hb,Option.bind_some,Option.map_some,hb2,Ir,C7,iE1,Bool.false_eq_true,if_false,hd1,Int.toNat_natCast]
  cases (j &&& mask == j) <;> rfl
 ·obtain ⟨j,hj,rfl⟩:=List.mem_map.mp hd
  have hj':j<mask+1:=by simpa using hj
  have tw:τ.get wo=some (o,.list (((List.range (mask+1)).map w).map D.int)):=(hn.get wo (by simpa using wk)).trans gw
  have hi:Ar (.list (((List.range (mask+1)).map w).map D.int)) (.int (j:Int))=some (.int (w j)):=by
   rw [E9 (by lia),List.getElem?_map,List.getElem?_range hj'];rfl
  generalize ((List.range (mask+1)).map w).map D.int=L at *
  simp [tw,hb,hi,A8,again]
theorem S1{b:Int}:∀(l:List Int) (a:Int),b≤a→(∀x∈l,b≤x)→b≤Hy a l
 |[],a,h,_=>h
 |x :: l,a,h,h2=>by
  rw [Ae7]
  exact S1 l _ (by split;exact h2 x List.mem_cons_self;exact h) fun y hy=>h2 y (List.mem_cons_of_mem _ hy)
end
end Mine
end
section
set_option autoImplicit false
namespace Mine
section
variable {P:List (Nat×Ahc)} {n:Nat} {F:Ahl} {σ:St}
theorem Ac2{x:Nat}{e:E}:Bz F (.ext x e) σ=if Ii (σ.get x)=true then (F.ev e σ).bind fun p=>(Re p.1).bind fun ys=>Kg p.2 x ys (p.2.get x) else none:=rfl
noncomputable def Ds(sz:Nat)(ch:List Nat):Int:=2 * ((ch.length:Int) - sz)
def Agz(R:List (List Nat))(ch:List Nat)(due:Int)(T:List Int):Prop:=T.length=R.length∧∀(j:Nat) (r:List Nat) (t:Int),R[j]? = some r→T[j]? = some t→due≤t∧(t=due↔r.Sublist ch)
structure Aix(σ:St)(c0 c1 c2 c3:Int)(x y z:Nat)(row:List Nat)(goal:List Int)(st:Au)(R:List (List Nat))(sz:Nat):Prop where
 len:σ.length=56
 g1:σ.get 1=some (.sh,.list [.int c0,.int c1,.int c2,.int c3])
 g4:σ.get 4=some (.sh,.list (B9 [x,y,z]))
 g5:σ.get 5=some (.sh,.list ([x,y,z].map fun w=>D.int (Aj w)))
 g6:∃o,o≠Own.bor∧σ.get 6=some (o,.list (row.map fun g:Nat=>D.int g))
 g8:σ.get 8=some (.sh,.list (goal.map .int))
 g9:σ.get 9=some (.sh,.list (Ad st))
 g14:∃o,o≠Own.bor∧σ.get 14=some (o,.list ((R.map fun r=>r.map (S3 x y z)).map D.str))
 g15:σ.get 15=some (.sh,.int (sz:Nat))
 free:∀j,37≤j→σ.get j=none
theorem Aix.near{σ τ:St}{c0 c1 c2 c3:Int}{x y z:Nat}{row:List Nat}{goal:List Int}{st:Au}{R:List (List Nat)}{sz:Nat}{T:List Nat}(B:Aix σ c0 c1 c2 c3 x y z row goal st R sz)(h:Ahg T σ τ)
  (hT:∀j∈T,j<37∧j∉[1,4,5,6,8,9,14,15]):Aix τ c0 c1 c2 c3 x y z row goal st R sz:=by
 have g:∀j,j∈[1,4,5,6,8,9,14,15]→τ.get j=σ.get j:=fun j hj=>h.get j fun q=>(hT j q).2 hj
 obtain ⟨o6,h6,e6⟩:=B.g6
 obtain ⟨o14,h14,e14⟩:=B.g14
 exact ⟨h.len.trans B.len,(g 1 (by simp)).trans B.g1,(g 4 (by simp)).trans B.g4,(g 5 (by simp)).trans B.g5,⟨o6,h6,(g 6 (by simp)).trans e6⟩,(g 8 (by simp)).trans B.g8,(g 9 (by simp)).trans B.g9,⟨o14,h14,(g 14 (by simp)).trans e14⟩,(g 15 (by simp)).trans B.g15,
  fun j hj=>(h.get j fun q=>absurd (hT j q).1 (by exact Nat.not_lt.mpr hj)).trans (B.free j hj)⟩
structure Aiw(σ:St)(x y z:Nat)(row:List Nat)(R:List (List Nat))(sz:Nat)(m:Nat):Prop where
 g16:σ.get 16=some (.own,.list (((List.range m).map (Eg R row)).map D.int))
 g17:∃A:List Int,A.length≤20 * m∧σ.get 17=some (.own,.list (A.map D.int))
 last:0<m→σ.get 12=some (.sh,.str ((Bu row (m - 1)).map (S3 x y z)))∧σ.get 20=some (.sh,.int (Ds sz (Bu row (m - 1))))∧∃T,Agz R (Bu row (m - 1)) (Ds sz (Bu row (m - 1))) T∧σ.get 22=some (.sh,.list (T.map D.int))
noncomputable def Zd:List S:=[.asg 19 (Kh 6 18 43),.asg 12 (.meth .join (.lit (.str [])) [(.comp (.idx (.var 4) (.var 44)) [(.v 44,(.var 19),[])])]),.asg 20 (.bin .mul (.lit (.int 2)) (.bin .sub (.bi .len [(.var 12)]) (.var 15))),.asg 21 (Of 18 14 12 45),.asg 22 (Tp 21 20 1 46 47),.ext 17 (.var 22),
 .app 16 (.ite (.cmp .isIn (.var 20) (.var 22)) (.bin .sub (.lit (.int 1)) (.bin .mul (.bin .mod (.bi .len [(.var 12)]) (.lit (.int 2))) (.lit (.int 2)))) (.lit (.int 0))),.asg 23 (Og 16 18 48),
 .ite (.or [(.cmp .lt (.bi .min [(.var 22)]) (.var 20)),(.cmp .ne (.var 23) (.ite (.cmp .eq (.call (.glob (.fn 113)) [(.var 19)] false) (.var 8)) (.bin .sub (.lit (.int 1)) (.bin .mul (.bin .mod (.var 15) (.lit (.int 2))) (.lit (.int 2)))) (.lit (.int 0))))]) [.ret (.lit (.bool false))] []]
theorem Lv{row:List Nat}(hr:∀g∈row,g<3)(m:Nat):∀g∈Bu row m,g<3:=fun g hg=>by
 unfold Bu at hg
 obtain ⟨k,_,rfl⟩:=List.mem_map.mp hg
 by_cases h:k<row.length
 ·rw [Lf h];exact hr _ (List.getElem_mem h)
 ·have:row.getD k 0=0:=by simp [List.getD,List.getElem?_eq_none (by exact Nat.le_of_not_lt h:row.length≤k)]
  rw [this];decide
theorem J0(row:List Nat)(m:Nat):(Bu row m).length≤4:=by
 unfold Bu
 rw [List.length_map]
 exact Nat.le_trans (List.length_filter_le ..) (by simp)
theorem Pk{k:Nat}:A3 .mod (.int (k:Int)) (.int 2)=some (.int ((k:Int) % 2))∧A3 .mul (.int ((k:Int) % 2)) (.int 2)=some (.int (((k:Int) % 2) * 2)):=
 ⟨by rw [J3 (by decide),Int.fmod_eq_emod_of_nonneg _ (by decide)],J2 (B8 (by lia)) rfl⟩
theorem Abr{a:List Int}{b:List Int}(hb:b≠[]):C3 .eq (.list (a.map .int)) (.list (b.map .int))=some (decide (a=b)):=by
 match b,hb with
 |c :: r,_=>
  show ((A1 (a.map D.int)).bind fun u=>(A1 ((c :: r).map D.int)).map fun v=>u == v)=_
  rw [Bs,Bs]
  show some (a == c :: r)=some (decide (a=c :: r))
  congr 1
  rw [Bool.eq_iff_iff,beq_iff_eq,decide_eq_true_eq]
theorem Aav(h21:P.lookup 21=some G1.Ah2)(h28:P.lookup 28=some G1.Ah3)(h38:P.lookup 38=some G1.Ah4)(h113:P.lookup 113=some G1.Aia)
  {c0 c1 c2 c3:Int} {x y z:Nat} {row:List Nat} {goal:List Int} {st:Au} {R:List (List Nat)} {sz m:Nat} (B:Aix σ c0 c1 c2 c3 x y z row goal st R sz) (Mi:Aiw σ x y z row R sz m) (hm:m<16) (g18:σ.get 18=some (.sh,.int (m:Nat)))
  (hA:∀w∈[x,y,z],w∈A5) (hn:[x,y,z].Nodup) (h0:0≤c3) (h1:c3<2 ^ 40) (Aim:row.length=4) (hrg:∀g∈row,g<3) (hR0:R≠[]) (hRl:R.length≤20) (hRr:∀r∈R,r.length=sz∧∀g∈r,g<3) (hsz:sz≤6) (hgl:goal.length=4)
  (chk:Ek R row m=if Es (Bu row m)=goal then Pl sz else 0) :
  ∃σ',exs (Ev P (n+90)) Zd σ=some (.next,σ')∧Aix σ' c0 c1 c2 c3 x y z row goal st R sz∧Aiw σ' x y z row R sz (m+1):=by
 obtain ⟨o6,ho6,g6⟩:=B.g6
 obtain ⟨o14,ho14,g14⟩:=B.g14
 obtain ⟨A,hAl,g17⟩:=Mi.g17
 have hl:=B.len
 have g1:=B.g1;have g4:=B.g4;have g8:=B.g8;have g15:=B.g15;have g16:=Mi.g16
 have fr:=B.free
 generalize hch:Bu row m=ch at *
 have hcg:∀g∈ch,g<3:=by rw [← hch];exact Lv hrg m
 have hcl:ch.length≤4:=by rw [← hch];exact J0 row m
 generalize hW:(R.map fun r=>r.map (S3 x y z))=W at *
 generalize hcD:(ch.map fun g:Nat=>D.int g)=cD at *
 generalize hp:ch.map (S3 x y z)=part at *
 have hpl:part.length=ch.length:=by rw [← hp,List.length_map]
 have s1:(Ev P (n+90)).ex (.asg 19 (Kh 6 18 43)) σ=some (.next,σ.put 19 (.own,.list cD)):=by
  have e:=Vc (P:=P) (n:=n+82) (r:=6) (m:=18) (k:=43) Aim hm g6 g18 (fr 43 (by decide)) (lp0 hl (by decide)) (by decide) (by decide)
  rw [hch,hcD] at e
  exact Dt e
 have s2:(Ev P (n+90)).ex (.asg 12 (.meth .join (.lit (.str [])) [(.comp (.idx (.var 4) (.var 44)) [(.v 44,(.var 19),[])])])) (σ.put 19 (.own,.list cD))=some (.next,(σ.put 19 (.sh,.list cD)).put 12 (.sh,.str part)):=by
  have e:=Aai (P:=P) (n:=n+80) (σ:=σ.put 19 (.own,.list cD)) (a:=4) (c:=19) (k:=44) (oc:=.own) (x:=x) (y:=y) (z:=z) (ch:=ch) (by decide) hcg (Nat.le_trans (by assumption) (by decide)) (Eq.trans (Ay (by decide)) g4) (by simp [Ag6,hl,hcD]) (Eq.trans (Ay (by decide)) (fr 44 (by decide))) (lp1 hl (by decide)) (lp1 hl (by decide)) (by decide) (by decide) (by decide)
  rw [hcD,hp,Kb] at e
  exact Dt e
 generalize hσ2:(σ.put 19 (.sh,.list cD)).put 12 (.sh,.str part)=σ2 at *
 have hl2:σ2.length=56:=by first | exact (Bg hσ2).trans hl | (rw [← hσ2];exact (Ag7 ..).trans ((Ag7 ..).trans hl)) | (rw [← hσ2];simp [hl])
 have k2:∀j,j≠19→j≠12→σ2.get j=σ.get j:=fun j a b=>by rw [← hσ2];exact (Ay b).trans (Ay a)
 have k2c:σ2.get 19=some (.sh,.list cD):=by rw [← hσ2];exact Eq.trans (Ay (by decide)) (Ap (lp0 hl (by decide)))
 have k2p:σ2.get 12=some (.sh,.str part):=by rw [← hσ2];exact Ap (lp1 hl (by decide))
 have hdue:2 * ((part.length:Int) - sz)=Ds sz ch:=by rw [hpl];rfl
 have s3:(Ev P (n+90)).ex (.asg 20 (.bin .mul (.lit (.int 2)) (.bin .sub (.bi .len [(.var 12)]) (.var 15)))) σ2=some (.next,σ2.put 20 (.sh,.int (Ds sz ch))):=by
  have hmul:A3 .mul (.int 2) (.int ((part.length:Int) - sz))=some (.int (Ds sz ch)):=by rw [← hdue];exact J2 rfl (Dd (K6 (Nat.lt_of_le_of_lt (Nat.le_trans (Nat.le_of_eq hpl) hcl) (by decide)) (Nat.lt_of_le_of_lt hsz (by decide))))
  have k15:σ2.get 15=some (.sh,.int (sz:Nat)):=(k2 15 (by decide) (by decide)).trans g15
  simp [k2p,k15,hmul]
 have s4:(Ev P (n+90)).ex (.asg 21 (Of 18 14 12 45)) (σ2.put 20 (.sh,.int (Ds sz ch)))=some (.next,((σ2.put 20 (.sh,.int (Ds sz ch))).put 14 (.sh,.list (W.map D.str))).put 21 (.own,.list (W.map fun u=>if m % 3≠0 then .tup [.str u,.str part] else .tup [.str part,.str u]))):=by
  have e:=W9 (P:=P) (n:=n+82) (σ:=σ2.put 20 (.sh,.int (Ds sz ch))) (m:=18) (w:=14) (p:=12) (k:=45) (ow:=o14) (mask:=m) (W:=W) (q:=part) ho14 (by rw [← hW,List.length_map];lia) (Eq.trans (Ay (by decide)) (Eq.trans (k2 18 (by decide) (by decide)) g18)) (Eq.trans (Ay (by decide)) (Eq.trans (k2 14 (by decide) (by decide)) g14)) (Eq.trans (Ay (by decide)) k2p) (Eq.trans (Ay (by decide)) (Eq.trans (k2 45 (by decide) (by decide)) (fr 45 (by decide)))) (lp1 hl2 (by decide)) (lp1 hl2 (by decide)) (by decide) (by decide) (by decide) (by decide) (by decide)
  exact Dt e
 generalize hσ4:((σ2.put 20 (.sh,.int (Ds sz ch))).put 14 (.sh,.list (W.map D.str)))=σ4 at *
 have hl4:σ4.length=56:=by first | exact (Bg hσ4).trans hl2 | (rw [← hσ4];exact (Ag7 ..).trans ((Ag7 ..).trans hl2)) | (rw [← hσ4];simp [hl2])
 have k4:∀j,j≠20→j≠14→σ4.get j=σ2.get j:=fun j a b=>by rw [← hσ4];exact (Ay b).trans (Ay a)
 have k4d:σ4.get 20=some (.sh,.int (Ds sz ch)):=by rw [← hσ4];exact Eq.trans (Ay (by decide)) (Ap (lp0 hl2 (by decide)))
 have k4w:σ4.get 14=some (.sh,.list (W.map D.str)):=by rw [← hσ4];exact Ap (lp1 hl2 (by decide))
 let L:List (List Nat×List Nat):=W.map fun u=>if m % 3≠0 then (u,part) else (part,u)
 have hLp:(W.map fun u=>if m % 3≠0 then D.tup [.str u,.str part] else .tup [.str part,.str u])=L.map fun p=>D.tup [.str p.1,.str p.2]:=by
  show _=(W.map _).map _
  rw [List.map_map]
  apply List.map_congr_left
  intro u _
  simp only [Function.comp]
  split <;> rfl
 rw [hLp] at s4
 obtain ⟨e,he4,hfm⟩:=Od (c3.fdiv 125) (m:=4) (by decide)
 have hWu:∀u∈W,(∀w∈u,w<128)∧u.length=sz:=fun u hu=>by
  rw [← hW] at hu
  obtain ⟨r,hr,rfl⟩:=List.mem_map.mp hu
  exact ⟨N0 hA r,by rw [List.length_map];exact (hRr r hr).1⟩
 have hpw:∀w∈part,w<128:=by rw [← hp];exact N0 hA ch
 let T:List Int:=L.map fun p=>lv p.1 p.2 (Ds sz ch+e)
 have s5:(Ev P (n+90)).ex (.asg 22 (Tp 21 20 1 46 47)) (σ4.put 21 (.own,.list (L.map fun p=>D.tup [.str p.1,.str p.2])))=some (.next,(σ4.put 21 (.sh,.list (L.map fun p=>D.tup [.str p.1,.str p.2]))).put 22 (.own,.list (T.map D.int))):=by
  have e5:=Zt (P:=P) (n:=n+8) (σ:=σ4.put 21 (.own,.list (L.map fun p=>D.tup [.str p.1,.str p.2]))) h21 h28 (ps:=21) (d:=20) (c:=1) (a:=46) (b:=47) (op:=.own) (oc:=.sh) (L:=L) (due:=Ds sz ch) (c0:=c0) (c1:=c1) (c2:=c2) (c3:=c3) (e:=e) (by decide)
   (fun p hp'=>by
    obtain ⟨u,hu,rfl⟩:=List.mem_map.mp hp'
    have h5:=hWu u hu
    split
    ·exact ⟨h5.1,hpw,by dsimp only;lia,by dsimp only;lia⟩
    ·exact ⟨hpw,h5.1,by dsimp only;lia,by dsimp only;lia⟩)
   (by show (W.map _).length≤1000;rw [List.length_map,← hW,List.length_map];lia) h0 h1 hfm (Ap (lp0 hl4 (by decide))) (Eq.trans (Ay (by decide)) k4d) (Eq.trans (Ay (by decide)) (Eq.trans (k4 1 (by decide) (by decide)) (Eq.trans (k2 1 (by decide) (by decide)) g1))) (Eq.trans (Ay (by decide)) (Eq.trans (k4 46 (by decide) (by decide)) (Eq.trans (k2 46 (by decide) (by decide)) (fr 46 (by decide))))) (Eq.trans (Ay (by decide)) (Eq.trans (k4 47 (by decide) (by decide)) (Eq.trans (k2 47 (by decide) (by decide)) (fr 47 (by decide))))) (lp1 hl4 (by decide)) (lp1 hl4 (by decide)) (lp1 hl4 (by decide)) (by decide)
  rw [Kb] at e5
  have e6:=Dt (x:=22) e5
  rw [show (L.map fun p=>D.int (lv p.1 p.2 (Ds sz ch+e)))=T.map D.int from (List.map_map (l:=L) (f:=fun p:List Nat×List Nat=>lv p.1 p.2 (Ds sz ch+e)) (g:=D.int)).symm] at e6
  exact e6
 have hTl:T.length=R.length:=by show (L.map _).length=_;rw [List.length_map];show (W.map _).length=_;rw [List.length_map,← hW,List.length_map]
 have hT:Agz R ch (Ds sz ch) T:=by
  refine ⟨hTl,fun j r t hj ht=>?_⟩
  have ht':t=lv (if m % 3≠0 then (r.map (S3 x y z),part) else (part,r.map (S3 x y z))).1 (if m % 3≠0 then (r.map (S3 x y z),part) else (part,r.map (S3 x y z))).2 (Ds sz ch+e):=by
   have:T[j]? = some (lv (if m % 3≠0 then (r.map (S3 x y z),part) else (part,r.map (S3 x y z))).1 (if m % 3≠0 then (r.map (S3 x y z),part) else (part,r.map (S3 x y z))).2 (Ds sz ch+e)):=by
    show (L.map _)[j]? = _
    rw [List.getElem?_map]
    show ((W.map _)[j]?).map _=_
    rw [List.getElem?_map,← hW,List.getElem?_map,hj];rfl
   rw [ht] at this;exact Option.some.inj this
  have hr:=hRr r (List.mem_of_getElem? hj)
  have dd:Ds sz ch=2 * ((part.length:Int) - (r.map (S3 x y z)).length):=by rw [← hdue,List.length_map,hr.1]
  have ts:=Mj (a:=r.map (S3 x y z)) (b:=part) (e:=(e:Int)) (by lia) (by rw [List.length_map];lia) (by lia) t (by
   rw [← dd,ht']
   by_cases q:m % 3≠0
   ·left;simp only [if_pos q]
   ·right;simp only [if_neg q])
  rw [← dd] at ts
  refine ⟨ts.1,ts.2.trans ?_⟩
  rw [← hp]
  exact Sm hn hr.2 hcg
 generalize hσ5:(σ4.put 21 (.sh,.list (L.map fun p=>D.tup [.str p.1,.str p.2])))=σ5 at *
 have hl5:σ5.length=56:=by first | exact (Bg hσ5).trans hl4 | (rw [← hσ5];exact (Ag7 ..).trans ((Ag7 ..).trans hl4)) | (rw [← hσ5];simp [hl4])
 have k5:∀j,j≠21→σ5.get j=σ4.get j:=fun j a=>Di hσ5 a
 have k17:σ5.get 17=some (.own,.list (A.map D.int)):=by rw [k5 17 (by decide),k4 17 (by decide) (by decide),k2 17 (by decide) (by decide)];exact g17
 have s6:(Ev P (n+90)).ex (.ext 17 (.var 22)) (σ5.put 22 (.own,.list (T.map D.int)))=some (.next,(σ5.put 22 (.sh,.list (T.map D.int))).put 17 (.own,.list ((A++T).map D.int))):=by
  have q17:((σ5.put 22 (.own,.list (T.map D.int))).get 17)=some (.own,.list (A.map D.int)):=Eq.trans (Ay (by decide)) k17
  have q22:((σ5.put 22 (.own,.list (T.map D.int))).get 22)=some (.own,.list (T.map D.int)):=Ap (lp0 hl5 (by decide))
  have q17':((σ5.put 22 (.sh,.list (T.map D.int))).get 17)=some (.own,.list (A.map D.int)):=Eq.trans (Ay (by decide)) k17
  rw [show n+90=n+88+2 from rfl,De,Ac2,q17,if_pos (show Ii (some (Own.own,D.list (A.map D.int)))=true from rfl),Cu,C5,q22,Q2,Kb]
  simp only [Option.bind_some,U1,q17',xs_o,List.length_map]
  rw [if_pos (by unfold line;lia),List.map_append]
 generalize hσ6:((σ5.put 22 (.sh,.list (T.map D.int))).put 17 (.own,.list ((A++T).map D.int)))=σ6 at *
 have hl6:σ6.length=56:=by first | exact (Bg hσ6).trans hl5 | (rw [← hσ6];exact (Ag7 ..).trans ((Ag7 ..).trans hl5)) | (rw [← hσ6];simp [hl5])
 have k6:∀j,j≠22→j≠17→σ6.get j=σ5.get j:=fun j a b=>by rw [← hσ6];exact (Ay b).trans (Ay a)
 have k6t:σ6.get 22=some (.sh,.list (T.map D.int)):=by rw [← hσ6];exact Eq.trans (Ay (by decide)) (Ap (lp0 hl5 (by decide)))
 have k6a:σ6.get 17=some (.own,.list ((A++T).map D.int)):=by rw [← hσ6];exact Ap (lp1 hl5 (by decide))
 have k6d:σ6.get 20=some (.sh,.int (Ds sz ch)):=by rw [k6 20 (by decide) (by decide),k5 20 (by decide)];exact k4d
 have k6p:σ6.get 12=some (.sh,.str part):=by rw [k6 12 (by decide) (by decide),k5 12 (by decide),k4 12 (by decide) (by decide)];exact k2p
 have k6c:σ6.get 19=some (.sh,.list cD):=by rw [k6 19 (by decide) (by decide),k5 19 (by decide),k4 19 (by decide) (by decide)];exact k2c
 have k6o:∀j,j∉[22,17,21,20,14,19,12]→σ6.get j=σ.get j:=fun j h=>by
  simp only [List.mem_cons,List.mem_nil_iff,or_false,not_or] at h
  rw [k6 j h.1 h.2.1,k5 j h.2.2.1,k4 j h.2.2.2.1 h.2.2.2.2.1,k2 j h.2.2.2.2.2.1 h.2.2.2.2.2.2]
 have hin:C3 .isIn (.int (Ds sz ch)) (.list (T.map D.int))=some (Jf R ch):=by
  simp only [C3,Aa3,Option.map_some,Bs]
  congr 1
  rw [Bool.eq_iff_iff]
  unfold Jf
  rw [List.any_eq_true,List.contains_iff_mem]
  constructor
  ·intro h
   obtain ⟨j,hj⟩:=List.mem_iff_getElem?.mp h
   have hjl:j<R.length:=by rw [← hTl];exact (List.getElem?_eq_some_iff.mp hj).1
   refine ⟨R[j],List.getElem_mem hjl,?_⟩
   rw [List.isSublist_iff_sublist]
   exact (hT.2 j R[j] _ (List.getElem?_eq_getElem hjl) hj).2.mp rfl
  ·rintro ⟨r,hr,hs⟩
   obtain ⟨j,hj⟩:=List.mem_iff_getElem?.mp hr
   have hjl:j<T.length:=by rw [hTl];exact (List.getElem?_eq_some_iff.mp hj).1
   have:=(hT.2 j r T[j] hj (List.getElem?_eq_getElem hjl)).2.mpr (List.isSublist_iff_sublist.mp hs)
   rw [← this];exact List.getElem_mem hjl
 have hwm:Eg R row m=if Jf R ch then Pl ch.length else 0:=by unfold Eg;rw [hch]
 have s7:(Ev P (n+90)).ex (.app 16 (.ite (.cmp .isIn (.var 20) (.var 22)) (.bin .sub (.lit (.int 1)) (.bin .mul (.bin .mod (.bi .len [(.var 12)]) (.lit (.int 2))) (.lit (.int 2)))) (.lit (.int 0)))) σ6=some (.next,σ6.put 16 (.own,.list (((List.range (m+1)).map (Eg R row)).map D.int))):=by
  have k16:σ6.get 16=some (.own,.list (((List.range m).map (Eg R row)).map D.int)):=(k6o 16 (by decide)).trans g16
  have pb:=Pk (k:=part.length)
  have hev:Ab (Ev P (n+88)) (.ite (.cmp .isIn (.var 20) (.var 22)) (.bin .sub (.lit (.int 1)) (.bin .mul (.bin .mod (.bi .len [(.var 12)]) (.lit (.int 2))) (.lit (.int 2)))) (.lit (.int 0))) σ6=some (.int (Eg R row m),σ6):=by
   rw [hwm]
   cases hh:Jf R ch with
   |true=>
    rw [hh] at hin
    simp [k6d,k6t,iE7,hin,k6p,hpl,Pl]
    rw [hpl] at pb
    simp [pb.1,pb.2]
   |false=>
    rw [hh] at hin
    simp [k6d,k6t,iE7,hin]
  rw [show n+90=n+89+1 from rfl,De,O9,k16,if_pos (show Ii (some (Own.own,D.list (((List.range m).map (Eg R row)).map D.int)))=true from rfl),show n+89=n+88+1 from rfl,Cu,hev]
  simp only [Option.bind_some,k16,Mg,List.length_map,List.length_range]
  rw [if_pos (by exact Nat.le_trans (by assumption) (by decide)),List.range_succ,List.map_append,List.map_append];rfl
 generalize hσ7:σ6.put 16 (.own,.list (((List.range (m+1)).map (Eg R row)).map D.int))=σ7 at *
 have hl7:σ7.length=56:=by first | exact (Bg hσ7).trans hl6 | (rw [← hσ7];exact (Ag7 ..).trans ((Ag7 ..).trans hl6)) | (rw [← hσ7];simp [hl6])
 have k7:∀j,j≠16→σ7.get j=σ6.get j:=fun j a=>Di hσ7 a
 have k7w:σ7.get 16=some (.own,.list (((List.range (m+1)).map (Eg R row)).map D.int)):=by rw [← hσ7];exact Ap (lp0 hl6 (by decide))
 have s8:(Ev P (n+90)).ex (.asg 23 (Og 16 18 48)) σ7=some (.next,σ7.put 23 (.sh,.int (Ek R row m))):=by
  have e8:=Yz (P:=P) (n:=n+80) (σ:=σ7) (wo:=16) (m:=18) (k:=48) (o:=.own) (w:=Eg R row) (mask:=m) (Nat.le_trans (by assumption) (by decide)) k7w (by rw [k7 18 (by decide),k6o 18 (by decide)];exact g18) (by rw [k7 48 (by decide),k6o 48 (by decide)];exact fr 48 (by lia)) (lp0 hl7 (by decide)) (by decide) (by decide)
  exact Dt e8
 have hl8:(σ7.put 23 (.sh,.int (Ek R row m))).length=56:=by simp [hl7]
 have q23:(σ7.put 23 (.sh,.int (Ek R row m))).get 23=some (.sh,.int (Ek R row m)):=Ap (lp0 hl7 (by decide))
 have k8:∀j,j≠23→(σ7.put 23 (.sh,.int (Ek R row m))).get j=σ7.get j:=fun j a=>by simp [Ag6,hl7,a]
 generalize hσ8:σ7.put 23 (.sh,.int (Ek R row m))=σ8 at *
 have q22:σ8.get 22=some (.sh,.list (T.map D.int)):=by rw [k8 22 (by decide),k7 22 (by decide)];exact k6t
 have q20:σ8.get 20=some (.sh,.int (Ds sz ch)):=by rw [k8 20 (by decide),k7 20 (by decide)];exact k6d
 have q19:σ8.get 19=some (.sh,.list cD):=by rw [k8 19 (by decide),k7 19 (by decide)];exact k6c
 have q8:σ8.get 8=some (.sh,.list (goal.map .int)):=by rw [k8 8 (by decide),k7 8 (by decide),k6o 8 (by decide)];exact g8
 have q15:σ8.get 15=some (.sh,.int (sz:Nat)):=by rw [k8 15 (by decide),k7 15 (by decide),k6o 15 (by decide)];exact g15
 have hmin:∃v,biD .min [.list (T.map D.int)]=some (.int v)∧¬v<Ds sz ch:=by
  have hne:T≠[]:=fun q=>hR0 (by rw [q] at hTl;exact List.length_eq_zero_iff.mp hTl.symm)
  obtain ⟨t0,ts,hts⟩ : ∃t0 ts,T=t0 :: ts:=List.exists_cons_of_ne_nil hne
  have all:∀t∈T,Ds sz ch≤t:=fun t ht=>by
   obtain ⟨j,hj⟩:=List.mem_iff_getElem?.mp ht
   have hjl:j<R.length:=by rw [← hTl];exact (List.getElem?_eq_some_iff.mp hj).1
   exact (hT.2 j R[j] t (List.getElem?_eq_getElem hjl) hj).1
  refine ⟨Hy t0 ts,?_,?_⟩
  ·simp only [biD,Ej,Ae6,Option.bind_some,Bs,hts]
  ·have:=S1 ts t0 (all t0 (by rw [hts];simp)) fun t ht=>all t (by rw [hts];simp [ht])
   lia
 obtain ⟨v,hv1,hv2⟩:=hmin
 have hmade:(Ev P (n+82)).call 113 [(.sh,.list (ch.map fun g:Nat=>D.int g))]=_:=c113 (P:=P) (n:=n+70) h38 h113 (gs:=ch) hcg
 rw [hcD] at hmade
 have heq:C3 .eq (.list ((Es ch).map .int)) (.list (goal.map .int))=some (decide (Es ch=goal)):=Abr (fun q=>by rw [q] at hgl;cases hgl)
 have pb:=Pk (k:=sz)
 have s9:(Ev P (n+90)).ex (.ite (.or [(.cmp .lt (.bi .min [(.var 22)]) (.var 20)),(.cmp .ne (.var 23) (.ite (.cmp .eq (.call (.glob (.fn 113)) [(.var 19)] false) (.var 8)) (.bin .sub (.lit (.int 1)) (.bin .mul (.bin .mod (.var 15) (.lit (.int 2))) (.lit (.int 2)))) (.lit (.int 0))))]) [.ret (.lit (.bool false))] []) σ8=some (.next,σ8):=by
  by_cases q:Es ch=goal
  ·rw [decide_eq_true q] at heq
   rw [if_pos q] at chk
   have c':Ek R row m=1 - ((sz:Int) % 2) * 2:=chk
   exact have this:=pb.left;have this_1:=pb.right;H8 (Nv (y_g (t_v (Pc (K0 (Ec (Af q22) rfl) hv1 (fun a=>nomatch a) fun a=>nomatch a) (Af q20) rfl) rfl rfl) (Mc hv2 (y_g (t_v (r_ne (Af q23) (Ac9 (t_v (H9 (Fg (Nx (Af q19)) hmade) (Af q8) heq) rfl rfl) (i_t (B0 Bf (B0 (B0 (Af q15) Bf this) Bf this_1) rfl))) rfl) rfl rfl) (i_n (N9 c' rfl)))))) (i_f rfl)
  ·rw [decide_eq_false q] at heq
   rw [if_neg q] at chk
   exact H8 (Nv (y_g (t_v (Pc (K0 (Ec (Af q22) rfl) hv1 (fun a=>nomatch a) fun a=>nomatch a) (Af q20) rfl) rfl rfl) (Mc hv2 (y_g (t_v (r_ne (Af q23) (Ac9 (t_v (H9 (Fg (Nx (Af q19)) hmade) (Af q8) heq) rfl rfl) (i_f Bf)) rfl) rfl rfl) (i_n (N9 chk rfl)))))) (i_f rfl)
 have hall:∀j,j∉[22,17,21,20,14,19,12,16,23]→σ8.get j=σ.get j:=fun j h=>by
  simp only [List.mem_cons,List.mem_nil_iff,or_false,not_or] at h
  rw [k8 j h.2.2.2.2.2.2.2.2,k7 j h.2.2.2.2.2.2.2.1,k6o j (by simp [h])]
 refine ⟨σ8,?_,?_,?_⟩
 ·unfold Zd
  exact Am s1 (Am s2 (Am s3 (Am s4 (Am s5 (Am s6 (Am s7 (Am s8 (Am s9 rfl))))))))
 ·refine ⟨hl8,(hall 1 (by decide)).trans g1,(hall 4 (by decide)).trans g4,(hall 5 (by decide)).trans B.g5,⟨o6,ho6,(hall 6 (by decide)).trans g6⟩,q8,(hall 9 (by decide)).trans B.g9,⟨.sh,by decide,?_⟩,q15,fun j hj=>?_⟩
  ·rw [k8 14 (by decide),k7 14 (by decide),k6 14 (by decide) (by decide),k5 14 (by decide),hW];exact k4w
  ·rw [hall j (nin (by assumption) (by decide))];exact fr j hj
 ·refine ⟨by rw [k8 16 (by decide)];exact k7w,⟨A++T,by rw [List.length_append,hTl];lia,by rw [k8 17 (by decide),k7 17 (by decide)];exact k6a⟩,fun ζ=>?_⟩
  rw [show m+1 - 1=m from rfl,hch]
  refine ⟨by rw [k8 12 (by decide),k7 12 (by decide),hp];exact k6p,q20,T,hT,q22⟩
end
end Mine
end
section
set_option autoImplicit false
namespace Mine
noncomputable def dec(c:Nat):Option Nat:=
 if c=109 then some 38 else if c=108 then some 60 else if c=103 then some 62 else if c=38∨c=97∨c=112∨c=59∨c=116 then none else some c
theorem Yv:∀k∈[0,1,2,3,4],∀c∈A5,(code (Ai k) c).filterMap dec=[c]:=by decide +kernel
theorem P2{f:Nat→List Nat}{a b:List Nat}(h:a.Sublist b):(a.flatMap f).Sublist (b.flatMap f):=by
 induction h with
 |slnil=>exact List.Sublist.slnil
 |@cons a b y _ ih=>rw [List.flatMap_cons];exact ih.trans (List.sublist_append_right _ _)
 |@cons_cons a b x _ ih=>rw [List.flatMap_cons,List.flatMap_cons];exact (List.Sublist.refl _).append ih
theorem Lp{k:Nat}(hk:k∈[0,1,2,3,4]):∀ {a:List Nat},(∀c∈a,c∈A5)→(a.flatMap (code (Ai k))).filterMap dec=a
 |[],_=>rfl
 |x :: a,h=>by
  rw [List.flatMap_cons,List.filterMap_append,Yv k hk x (h x List.mem_cons_self),Lp hk fun c hc=>h c (List.mem_cons_of_mem _ hc)];rfl
theorem Abq{k:Nat}(hk:k∈[0,1,2,3,4]){a b:List Nat}(ha:∀c∈a,c∈A5)(hb:∀c∈b,c∈A5):(a.flatMap (code (Ai k))).Sublist (b.flatMap (code (Ai k)))↔a.Sublist b:=by
 refine ⟨fun h=>?_,P2⟩
 have:=h.filterMap dec
 rw [Lp hk ha,Lp hk hb] at this
 exact this
theorem Ho{sep:List Nat}:∀(a t acc:List Nat),(∀(u v:List Nat),a=u++v→v≠[]→sep.isPrefixOf (v++t)=false)→A2 sep (a++t) acc 0=A2 sep t (a.reverse++acc) 0
 |[],t,acc,_=>rfl
 |x :: a,t,acc,h=>by
  have h0:=h [] (x :: a) rfl nofun
  rw [List.cons_append] at h0 ⊢
  rw [Dq,h0]
  simp only [Bool.false_eq_true,if_false]
  rw [Ho a t (x :: acc) fun u v e hv=>h (x :: u) v (by rw [e];rfl) hv]
  simp
theorem Kr{sep:List Nat}:∀(u t acc:List Nat),A2 sep (u++t) acc u.length=A2 sep t acc 0
 |[],t,acc=>rfl
 |x :: u,t,acc=>by rw [List.cons_append,List.length_cons,I4];exact Kr u t acc
theorem Ph(sep t:List Nat):sep.isPrefixOf (sep++t)=true:=by
 rw [List.isPrefixOf_iff_prefix];exact List.prefix_append _ _
theorem Hp{sep:List Nat}(hs:sep≠[]):∀(l:List (List Nat)),l≠[]→(∀a∈l,∀(t:List Nat),(t=[]∨∃r,t=sep++r)→∀(u v:List Nat),a=u++v→v≠[]→sep.isPrefixOf (v++t)=false)→A2 sep (A4 sep l) [] 0=l
 |[],h,_=>absurd rfl h
 |[a],_,h=>by
  have:=Ho (sep:=sep) a [] [] (h a (by simp) [] (.inl rfl))
  rw [List.append_nil,List.append_nil] at this
  rw [Rh,this,Gi,List.reverse_reverse]
 |a :: b :: r,_,h=>by
  have ih:=Hp hs (b :: r) nofun fun c hc=>h c (List.mem_cons_of_mem _ hc)
  rw [Pu,List.append_assoc,Ho a _ [] (h a (by simp) _ (.inr ⟨_,rfl⟩)),List.append_nil]
  obtain ⟨c,s,rfl⟩ : ∃c s,sep=c :: s:=List.exists_cons_of_ne_nil hs
  rw [List.cons_append,Dq]
  have:=Ph (c :: s) (A4 (c :: s) (b :: r))
  rw [List.cons_append] at this
  rw [this]
  simp only [if_true,List.reverse_reverse,List.length_cons,Nat.add_sub_cancel]
  rw [Kr s,ih]
theorem Agb{c:Nat}{a:List Nat}(h:c∉a):∀(t:List Nat) (u v:List Nat),a=u++v→v≠[]→[c].isPrefixOf (v++t)=false:=by
 intro t u v e hv
 obtain ⟨x,w,rfl⟩:=List.exists_cons_of_ne_nil hv
 have:x≠c:=fun q=>h (by rw [e,q];simp)
 simp [List.isPrefixOf,Ne.symm this]
theorem Aga{c q:Nat}{s a:List Nat}(h:q∉a)(hq:c≠q):∀(t:List Nat),(t=[]∨∃r,t=(c :: q :: s)++r)→∀(u v:List Nat),a=u++v→v≠[]→(c :: q :: s).isPrefixOf (v++t)=false:=by
 intro t ht u v e hv
 obtain ⟨x,w,rfl⟩:=List.exists_cons_of_ne_nil hv
 induction w using List.casesOn with
 |nil=>
  rcases ht with rfl | ⟨r,rfl⟩
  ·simp [List.isPrefixOf]
  ·simp [List.isPrefixOf,Ne.symm hq]
 |cons y w=>
  have:y≠q:=fun k=>h (by rw [e,k];simp)
  simp [List.isPrefixOf,Ne.symm this]
theorem Jv{f:Nat→List Nat}{m:Nat}:∀(l:List (List Nat)),(A4 [m] l).flatMap f=A4 (f m) (l.map fun a=>a.flatMap f)
 |[]=>rfl
 |[a]=>rfl
 |a :: b :: r=>by
  have ih:=Jv (f:=f) (m:=m) (b :: r)
  simp only [Pu,List.map_cons] at ih ⊢
  rw [List.flatMap_append,List.flatMap_append,ih]
  simp
noncomputable def D7:List Nat:=[34,13,10,9,32]
theorem Uz:∀k∈[0,1,2,3,4],∀m∈D7,(match code (Ai k) m with
  |[c]=>A5.all fun x=>!(code (Ai k) x).contains c
  |c :: q :: _=>decide (c≠q) && A5.all fun x=>!(code (Ai k) x).contains q
  |[]=>false)=true:=by decide +kernel
set_option tactic.hygienic true in
theorem Up{k m:Nat}(hk:k∈[0,1,2,3,4])(hm:m∈D7){l:List (List Nat)}(hl:l≠[])(hA:∀a∈l,∀c∈a,c∈A5) :
  A2 (code (Ai k) m) ((A4 [m] l).flatMap (code (Ai k))) [] 0=l.map fun a=>a.flatMap (code (Ai k)):=by
 rw [Jv]
 have h:=Uz k hk m hm
 have notin:∀(c:Nat),(A5.all fun x=>!(code (Ai k) x).contains c)=true→∀b∈l.map (fun a=>a.flatMap (code (Ai k))),c∉b:=fun c hc b hb=>by
  obtain ⟨a,ha,rfl⟩:=List.mem_map.mp hb
  intro q
  obtain ⟨x,hx,hxc⟩:=List.mem_flatMap.mp q
  have:=List.all_eq_true.mp hc x (hA a ha x hx)
  simp at this
  exact this hxc
 split at h
 ·rename_i c e
  rw [e]
  exact Hp (by simp) _ (by simpa using hl) fun b hb t ζ=>Agb (notin c h b hb) t
 ·rename_i c q s e
  rw [e]
  rw [Bool.and_eq_true,decide_eq_true_eq] at h
  exact Hp (by simp) _ (by simpa using hl) fun b hb=>Aga (notin q h.2 b hb) h.1
 ·cases h
noncomputable def Ct:Nat→Nat
 |0=>66 | 1=>73 | 2=>80 | 3=>87 | _=>94
noncomputable def Z1:Nat→List Nat
 |0=>[38,60,62] | 1=>[38,60,62,34,13,10,9] | 2=>[38,62,34] | 3=>[38,60,62,13] | _=>[38,60,34,13,10,9]
noncomputable def Hn(k:Nat):List (List Nat×D):=(Z1 k).map fun c=>([c],.str (code (Ai k) c))
noncomputable def Adj(d:Option D)(s:Option (List Nat)):Bool:=match s with
 |some b=>match d with
  |some d=>match d with
   |.str a=>decide (a=b)
   |_=>false
  |none=>false
 |none=>d.isNone
theorem Oy:∀k∈[0,1,2,3,4],∀c∈A5++D7,Adj (some ((Be (Hn k) [c]).getD (.str [c]))) (some (code (Ai k) c))=true:=by decide +kernel
theorem Pw{d:D}{s:List Nat}(h:Adj (some d) (some s)=true):d=.str s:=by
 induction d using D.casesOn with | str a=>rw [of_decide_eq_true h] | _=>exact absurd h Bool.false_ne_true
theorem Gc:∀k∈[0,1,2,3,4],∀c∈A5++D7,0<(code (Ai k) c).length∧(code (Ai k) c).length≤6∧∀x∈code (Ai k) c,x<128:=by decide +kernel
theorem Aal:∀k∈[0,1,2,3,4],okE (Ai k)=true:=by decide +kernel
end Mine
end
section
set_option autoImplicit false
set_option maxRecDepth 100000
namespace Mine
noncomputable def KS:List Nat:=[0,1,2,3,4]
section
variable {P:List (Nat×Ahc)} {n:Nat} {F:Ahl} {σ:St}
noncomputable def Adl(k:Nat):D:=.tup [.fn (Ct k),.Ahf (Hn k)]
theorem X5(k:Nat)(hk:k∈KS):(exs (Ev P (n+20)) G1.Aij (B6 G1.Ah8 [(.sh,.int (k:Nat))])).map (fun p=>(match p.1 with | .ret d=>some d | _=>none,p.2.get 0))=some (some (Adl k),some (.sh,.int (k:Nat))):=by
 simp only [KS,List.mem_cons,List.mem_nil_iff,or_false] at hk
 rcases hk with rfl | rfl | rfl | rfl | rfl <;> rfl
theorem c106(h:P.lookup 106=some G1.Ah8){k:Nat}(hk:k∈KS):(Ev P (n+21)).call 106 [(.sh,.int (k:Nat))]=some (Adl k,some (.sh,.int (k:Nat))):=by
 have r:=X5 (P:=P) (n:=n) k hk
 cases e:exs (Ev P (n+20)) G1.Aij (B6 G1.Ah8 [(.sh,.int (k:Nat))]) with
 |none=>rw [e] at r;exact nos r
 |some p=>
  obtain ⟨fl,τ⟩:=p
  rw [e] at r
  induction fl using Fl.casesOn with
  |next=>simp at r
  |ret d=>
   simp only [Option.map_some,Option.some.injEq,Prod.mk.injEq] at r
   obtain ⟨rfl,g0⟩:=r
   have:=C4 (P:=P) (n:=n+20) (a:=106) (f:=G1.Ah8) (ss:=[(.sh,.int (k:Nat))]) h rfl e (by rw [show G1.Ah8.np - 1=0 from rfl,g0];rfl)
   rw [show G1.Ah8.np - 1=0 from rfl,g0] at this
   exact this
theorem Adh{k:Nat}(h:k<5):k∈KS:=(by decide:∀k<5,k∈KS) k h
theorem Aa5(h:P.lookup 106=some G1.Ah8){c wr tb:Nat}{i:Int}{oc:Own}{cs:D}{v:Int}{k:Nat}(gc:σ.get c=some (oc,cs))(hi:Ar cs (.int i)=some (.int v))(hk:k<5)(hv:A3 .mod (.int v) (.int 5)=some (.int (k:Nat))) :
  (Ev P (n+30)).ex (.Ah0 [wr,tb] (.call (.glob (.fn 106)) [(.bin .mod (.idx (.var c) (.lit (.int i))) (.lit (.int 5)))] false)) σ=some (.next,(σ.put wr (.sh,.fn (Ct k))).put tb (.sh,.Ahf (Hn k))):=by
 have cl:=c106 (P:=P) (n:=n+7) h (Adh hk)
 exact Aet (Fg (Nx (B0 (Cm gc Bf hi) Bf hv)) cl) rfl
theorem Aaw{c:Nat}{i:Int}{oc:Own}{cs:D}{v w:Int}{k:Nat}(gc:σ.get c=some (oc,cs))(hi:Ar cs (.int i)=some (.int v))(hk:k<5)(hf:A3 .fdiv (.int v) (.int 5)=some (.int w))(hv:A3 .mod (.int w) (.int 5)=some (.int (k:Nat))) :
  Av (Ev P (n+6)) (.idx (.lit (.str [34,13,10,9,32])) (.bin .mod (.bin .fdiv (.idx (.var c) (.lit (.int i))) (.lit (.int 5))) (.lit (.int 5)))) σ=some (.sh,.str [D7.getD k 0],σ):=by
 have e:Ar (.str [34,13,10,9,32]) (.int (k:Nat))=some (.str [D7.getD k 0]):=by
  exact lt5 (P:=fun k:Nat=>Ar (.str [34,13,10,9,32]) (.int k)=some (.str [D7.getD k 0])) rfl rfl rfl rfl rfl hk
 exact st_o (o_v (Wu (Aac Bf rfl) (B0 (B0 (Cm gc Bf hi) Bf hf) Bf hv) (Aad rfl) e) rfl)
theorem Uy{k:Nat}(h:k<5):D7.getD k 0∈D7:=(by decide:∀k<5,D7.getD k 0∈D7) k h
theorem Aax{mk p w:Nat}{ow:Own}{m:Nat}{part:List Nat}{W:List (List Nat)}(ho:ow≠.bor)(gm:σ.get mk=some (.sh,.str [m]))(gp:σ.get p=some (.sh,.str part))(gw:σ.get w=some (ow,.list (W.map D.str)))(lw:w<σ.length)(mw:mk≠w)
  (hW:W.length≤1000) (hz:(A4 [m] (part :: W)).length≤line) :
  Av (Ev P (n+7)) (.meth .join (.var mk) [(.bin .add (.list [(.var p)]) (.var w))]) σ=some (.sh,.str (A4 [m] (part :: W)),σ.put w (.sh,.list (W.map D.str))):=by
 have ad:A3 .add (.list [.str part]) (.list (W.map D.str))=some (.list ((part :: W).map D.str)):=by
  simp only [A3,Jn];rw [if_pos (by simp [line];lia)];rfl
 have jn:=N4 hz
 have gm':(σ.put w (.sh,.list (W.map D.str))).get mk=some (.sh,.str [m]):=by rw [Ag6 _ _ _ _ lw,if_neg mw];exact gm
 simp only [List.map_cons] at ad jn
 simp [gm,gp,gw,I7 gw ho lw,ad,jn,line,A8,again,gm']
theorem Yj{k:Nat}(hk:k∈KS)(hP:∀j∈KS,P.lookup (Ct j)=some ⟨1,1,[.Aht ((Ai j).map P3++[.ret (.var 0)])]⟩){t:List Nat}(hz:(t.flatMap (code (Ai k))).length≤4096) :
  (Ev P (n+8)).call (Ct k) [(.sh,.str t)]=some (.str (t.flatMap (code (Ai k))),some (.sh,.str (t.flatMap (code (Ai k))))):=
 Yk (hP k hk) rfl (Aal k hk) hz
theorem Lk{f:Nat→List Nat}{b:Nat}:∀ {t:List Nat},(∀c∈t,(f c).length≤b)→(t.flatMap f).length≤b * t.length
 |[],_=>by simp
 |c :: t,h=>by
  have h1:=h c List.mem_cons_self
  have h2:=Lk (t:=t) fun c hc=>h c (List.mem_cons_of_mem _ hc)
  rw [List.flatMap_cons,List.length_append,List.length_cons,Nat.mul_add];lia
theorem Aaj{wr ln:Nat}{k:Nat}{t:List Nat}(hk:k∈KS)(hP:∀j∈KS,P.lookup (Ct j)=some ⟨1,1,[.Aht ((Ai j).map P3++[.ret (.var 0)])]⟩)(gw:σ.get wr=some (.sh,.fn (Ct k)))(gl:σ.get ln=some (.sh,.str t))(hz:(t.flatMap (code (Ai k))).length≤4096) :
  Av (Ev P (n+12)) (.call (.var wr) [(.var ln)] false) σ=some (.sh,.str (t.flatMap (code (Ai k))),σ):=by
 have e:=Yj (P:=P) (n:=n+3) hk hP hz
 simp [gw,gl,e]
theorem Zx{pg tb ln s:Nat}{k:Nat}{t:List Nat}(hk:k∈KS)(hA:∀c∈t,c∈A5++D7)(hz:t.length≤4096)(hz2:(t.flatMap (code (Ai k))).length≤4096)(gp:σ.get pg=some (.sh,.str (t.flatMap (code (Ai k)))))(gt:σ.get tb=some (.sh,.Ahf (Hn k)))(gl:σ.get ln=some (.sh,.str t))(gs:σ.get s=none)(ls:s<σ.length)(ts:tb≠s)(rt:List S) :
  (Ev P (n+14)).ex (.ite (.cmp .ne (.var pg) (.meth .join (.lit (.str [])) [(.comp (.meth .get (.var tb) [(.var s),(.var s)]) [(.v s,(.var ln),[])])])) rt []) σ=some (.next,σ):=by
 have asc:ascii t=true:=by
  unfold ascii;rw [List.all_eq_true];intro c hc
  exact decide_eq_true ((by decide +kernel:∀c∈A5++D7,c<128) c (hA c hc))
 have it:items (Ev P (n+8)) (.var ln) σ=some (t.map fun c=>D.str [c],σ):=by
  rw [Ao rfl];simp [gl,Adi,asc]
 have key:=C9 (F:=Ev P (n+8)) (σ:=σ) (σ₁:=σ) (i:=s) (elt:=.meth .get (.var tb) [(.var s),(.var s)]) (g:=fun d=>mS d .none fun c=>.str (code (Ai k) c)) gs ls it (fun d hd τ hn hb=>?_) (by rw [List.length_map];exact Nat.le_trans (by assumption) (by decide))
 ·rw [List.map_map] at key
  have hj:(t.map ((fun d=>mS d .none fun c=>D.str (code (Ai k) c)) ∘ fun c=>D.str [c]))=(t.map (code (Ai k))).map D.str:=by rw [List.map_map];rfl
  rw [hj] at key
  have jf:∀l:List Nat,A4 [] (l.map (code (Ai k)))=l.flatMap (code (Ai k)):=by
   intro l
   induction l with
   |nil=>rfl
   |cons a l ih=>induction l using List.casesOn with
    |nil=>simp [Rh]
    |cons b l=>simp only [List.map_cons,Pu] at ih ⊢;rw [ih];simp
  have jn:=N4 (l:=t.map (code (Ai k))) (sep:=[]) (by rw [jf];exact Nat.le_trans (by assumption) (by decide))
  rw [jf] at jn
  rw [show n+14=n+8+1+1+1+1+1+1 from rfl]
  simp only [De,Wb,D5,Ei,Cu,D9,C5,gp,D2,Option.bind_some,iE2,Bool.false_eq_true,if_false,Qk,Dg,Ff,Dp,key,Cp,jn,if_true,Option.map_some,Adw,beq_self_eq_true,Bool.not_true,C7,Kl]
 ·obtain ⟨c,hc,rfl⟩:=List.mem_map.mp hd
  have tt:τ.get tb=some (.sh,.Ahf (Hn k)):=(hn.get tb (by simpa using ts)).trans gt
  have e:=Pw (Oy k hk c (hA c hc))
  have md:Bw .get (.Ahf (Hn k)) [.str [c],.str [c]]=some (.str (code (Ai k) c)):=by simp only [Bw,Sh,Te];rw [e]
  exact Hv (r_p tt) (Ec (Af hb) (Ec (Af hb) rfl)) (G4 tt) md rfl
theorem Uo{pg tb mk:Nat}{k m:Nat}{l:List (List Nat)}(hk:k∈KS)(hm:m∈D7)(hl:l≠[])(hA:∀a∈l,∀c∈a,c∈A5)(gp:σ.get pg=some (.sh,.str ((A4 [m] l).flatMap (code (Ai k)))))(hz:((A4 [m] l).flatMap (code (Ai k))).length≤4096)(gt:σ.get tb=some (.sh,.Ahf (Hn k)))(gm:σ.get mk=some (.sh,.str [m])) :
  Av (Ev P (n+7)) (.meth .split (.var pg) [(.meth .get (.var tb) [(.var mk),(.var mk)])]) σ=some (.sh,.list ((l.map fun a=>a.flatMap (code (Ai k))).map D.str),σ):=by
 have e:=Pw (Oy k hk m (List.mem_append_right _ hm))
 have md:Bw .get (.Ahf (Hn k)) [.str [m],.str [m]]=some (.str (code (Ai k) m)):=by simp only [Bw,Sh,Te];rw [e]
 obtain ⟨q1,q2,q3⟩:=Gc k hk m (List.mem_append_right _ hm)
 obtain ⟨c,r,hcr⟩ : ∃c r,code (Ai k) m=c :: r:=List.exists_cons_of_ne_nil (fun q=>by rw [q] at q1;simp at q1)
 have sp:=Up hk hm hl hA
 have ms:Bw .split (.str ((A4 [m] l).flatMap (code (Ai k)))) [.str (code (Ai k) m)]=some (.list ((l.map fun a=>a.flatMap (code (Ai k))).map D.str)):=by
  have hall:((code (Ai k) m).all fun x=>decide (x<256))=true:=by
   rw [List.all_eq_true]
   intro x hx
   exact decide_eq_true (Nat.lt_trans (q3 x hx) (by decide))
  rw [← sp]
  rw [hcr] at hall ⊢
  simp only [Bw,Gn,Gk,O2]
  rw [if_pos ⟨hz,hall⟩]
 exact st_o (o_v (Hv (r_p gp) (Ec (Hv (r_p gt) (Ec (Af gm) (Ec (Af gm) rfl)) (G4 gt) md rfl) rfl) (G4 gp) ms rfl) rfl)
end
end Mine
end
section
set_option autoImplicit false
namespace Mine
section
variable {P:List (Nat×Ahc)} {n:Nat} {F:Ahl} {σ:St}
theorem Aiw.put18{x y z:Nat}{row:List Nat}{R:List (List Nat)}{sz m:Nat}{s:Slot}(h:Aiw σ x y z row R sz m)(hl:σ.length=56):Aiw (σ.put 18 s) x y z row R sz m:=by
 have g:∀j,j≠18→(σ.put 18 s).get j=σ.get j:=fun j hj=>by rw [Ag6 _ _ _ _ (by rw [hl];decide),if_neg hj]
 obtain ⟨A,h1,h2⟩:=h.g17
 refine ⟨(g 16 (by decide)).trans h.g16,⟨A,h1,(g 17 (by decide)).trans h2⟩,fun hm=>?_⟩
 obtain ⟨a,b,T,c,d⟩:=h.last hm
 exact ⟨(g 12 (by decide)).trans a,(g 20 (by decide)).trans b,T,c,(g 22 (by decide)).trans d⟩
theorem Lg(h21:P.lookup 21=some G1.Ah2)(h28:P.lookup 28=some G1.Ah3)(h38:P.lookup 38=some G1.Ah4)(h113:P.lookup 113=some G1.Aia)
  {c0 c1 c2 c3:Int} {x y z:Nat} {row:List Nat} {goal:List Int} {st:Au} {R:List (List Nat)} {sz:Nat}
  (hA:∀w∈[x,y,z],w∈A5) (hn:[x,y,z].Nodup) (h0:0≤c3) (h1:c3<2 ^ 40) (Aim:row.length=4) (hrg:∀g∈row,g<3) (hR0:R≠[]) (hRl:R.length≤20) (hRr:∀r∈R,r.length=sz∧∀g∈r,g<3) (hsz:sz≤6) (hgl:goal.length=4)
  (chk:∀m<16,Ek R row m=if Es (Bu row m)=goal then Pl sz else 0):∀(k m:Nat) (σ:St),m+k=16→Aix σ c0 c1 c2 c3 x y z row goal st R sz→Aiw σ x y z row R sz m→
  ∃σ',Dl (Ev P (n+90)) (.v 18) Zd ((List.range' m k).map fun i:Nat=>D.int i) σ=some (.next,σ')∧Aix σ' c0 c1 c2 c3 x y z row goal st R sz∧Aiw σ' x y z row R sz 16
 |0,m,σ,hm,B,Mi=>⟨σ,rfl,B,by rw [show m=16 by assumption] at Mi;exact Mi⟩
 |k+1,m,σ,hm,B,Mi=>by
  have B':=B.near ((Ahg.refl [18] σ).put (i:=18) (by simp) (.sh,.int (m:Nat))) (by simp)
  obtain ⟨σ₁,e1,B1,M1⟩:=Aav (P:=P) (n:=n) h21 h28 h38 h113 B' (Mi.put18 B.len) (by lia) (by rw [Ag6 _ _ _ _ (by rw [B.len];decide),if_pos rfl]) hA hn h0 h1 Aim hrg hR0 hRl hRr hsz hgl (chk m (by lia))
  obtain ⟨σ₂,e2,B2,M2⟩:=Lg h21 h28 h38 h113 hA hn h0 h1 Aim hrg hR0 hRl hRr hsz hgl chk k (m+1) σ₁ (by lia) B1 M1
  refine ⟨σ₂,?_,B2,M2⟩
  rw [List.range'_succ,List.map_cons,Fp]
  simp only [Vf,Option.bind_some,e1,Ax]
  exact e2
noncomputable def J1(p:List Nat):List (List Nat)→Int→List Int→Int×List Int
 |[],b,A=>(b,A)
 |w :: W,b,A=>J1 p W (mn2 b (lv p w (b - 1))) (A++[lv p w (b - 1)])
theorem beS{p w:List Nat}{W:List (List Nat)}{b:Int}{A:List Int}:J1 p (w :: W) b A=J1 p W (mn2 b (lv p w (b - 1))) (A++[lv p w (b - 1)]):=rfl
theorem Nd(p:List Nat):∀(W:List (List Nat)) (b:Int) (A:List Int),(J1 p W b A).2.length=A.length+W.length
 |[],b,A=>rfl
 |w :: W,b,A=>by rw [beS,Nd p W];simp;exact Nat.succ_add_eq_add_succ A.length W.length
theorem Qf{p:List Nat}(hp:p.length≤40):∀(W:List (List Nat)) (b:Int) (A:List Int),(∀w∈W,w.length≤40)→(J1 p W b A).1=W.foldl (fun b w=>min b (dm p w)) b
 |[],b,A,_=>rfl
 |w :: W,b,A,h=>by
  have e:mn2 b (lv p w (b - 1))=min b (dm p w):=by
   rw [Jb]
   rcases Ke (m:=b - 1) hp (h w List.mem_cons_self) with q | ⟨q,q'⟩
   ·rw [q]
   ·rw [q];lia
  rw [beS,e,Qf hp W _ _ fun v hv=>h v (List.mem_cons_of_mem _ hv)];rfl
noncomputable def Adz(a p y b:Nat):List S:=[.app a (.call (.glob (.fn 28)) [(.var p),(.var y),(.bin .sub (.var b) (.lit (.int 1)))] false),.asg b (.bi .min [(.var b),(.idx (.var a) (.neg (.lit (.int 1))))])]
theorem P1{A:List Int}{t:Int}:Ar (.list ((A++[t]).map D.int)) (.int (-1))=some (.int t):=by
 simp only [Ar,show sml (-1)=true from rfl,if_true,nth]
 rw [if_neg (by decide),if_pos (by simp;exact (PySem.W.Z.leB_iff 1 (↑A.length+1)).mp rfl),List.getElem?_map]
 have:((-1:Int)+(((A++[t]).map D.int).length:Nat)).toNat=A.length:=by simp;lia
 rw [this];simp
theorem Lh(h21:P.lookup 21=some G1.Ah2)(h28:P.lookup 28=some G1.Ah3){a p y b:Nat}{q:List Nat}(hq:∀c∈q,c<128)(hql:q.length≤50){σ₀:St}(la:a<σ₀.length)(ly:y<σ₀.length)(lb:b<σ₀.length)(nd:[a,p,y,b].Nodup) :
  ∀(W:List (List Nat)) (b0:Int) (A:List Int) (σ:St),Ahg [a,y,b] σ₀ σ→(∀w∈W,(∀c∈w,c<128)∧w.length≤50)→A.length+W.length≤10000→σ₀.get p=some (.sh,.str q)→σ.get a=some (.own,.list (A.map D.int))→σ.get b=some (.sh,.int b0)→
   ∃σ',Dl (Ev P (n+80)) (.v y) (Adz a p y b) (W.map D.str) σ=some (.next,σ')∧Ahg [a,y,b] σ₀ σ'∧σ'.get a=some (.own,.list ((J1 q W b0 A).2.map D.int))∧σ'.get b=some (.sh,.int (J1 q W b0 A).1)
 |[],b0,A,σ,hn,_,_,_,ga,gb=>⟨σ,rfl,hn,ga,gb⟩
 |w :: W,b0,A,σ,hn,hW,hl,gp,ga,gb=>by
  have nd':=nd
  simp only [List.nodup_cons,List.mem_cons,or_false,not_or,List.not_mem_nil,not_false_eq_true,List.nodup_nil,and_true] at nd'
  obtain ⟨⟨ap,ay,ab⟩,⟨py,pb⟩,yb⟩:=nd'
  have l:=hn.len
  obtain ⟨hw1,hw2⟩:=hW w List.mem_cons_self
  have lya:y<σ.length:=by rw [l];exact ly
  generalize hτ:σ.put y (.sh,.str w)=τ
  have lτ:τ.length=σ₀.length:=by rw [← hτ,Ag7,l]
  have nτ:Ahg [a,y,b] σ₀ τ:=by rw [← hτ];exact hn.put (by simp) _
  have ty:τ.get y=some (.sh,.str w):=by rw [← hτ,Ag6 _ _ _ _ lya,if_pos rfl]
  have ta:τ.get a=some (.own,.list (A.map D.int)):=by rw [← hτ,Ag6 _ _ _ _ lya,if_neg ay];exact ga
  have tb:τ.get b=some (.sh,.int b0):=by rw [← hτ,Ag6 _ _ _ _ lya,if_neg (Ne.symm yb)];exact gb
  have tp:τ.get p=some (.sh,.str q):=(nτ.get p (by simp [Ne.symm ap,py,pb])).trans gp
  have cl:=c28 (P:=P) (n:=n+8) h21 h28 (a:=q) (b:=w) (m:=b0 - 1) hq hw1 hql hw2
  have s1:(Ev P (n+80)).ex (.app a (.call (.glob (.fn 28)) [(.var p),(.var y),(.bin .sub (.var b) (.lit (.int 1)))] false)) τ=some (.next,τ.put a (.own,.list ((A++[lv q w (b0 - 1)]).map D.int))):=by
   have cl':(Ev P (n+78)).call 28 [(.sh,.str q),(.sh,.str w),(.sh,.int (b0 - 1))]=_:=cl
   simp [tp,ty,tb,ta,cl',Ij,Mg]
   rw [List.length_cons] at hl
   unfold line;lia
  generalize hυ:τ.put a (.own,.list ((A++[lv q w (b0 - 1)]).map D.int))=υ at s1
  have laτ:a<τ.length:=by rw [lτ];exact la
  have lυ:υ.length=σ₀.length:=by rw [← hυ,Ag7,lτ]
  have nυ:Ahg [a,y,b] σ₀ υ:=by rw [← hυ];exact nτ.put (by simp) _
  have ua:υ.get a=some (.own,.list ((A++[lv q w (b0 - 1)]).map D.int)):=by rw [← hυ,Ag6 _ _ _ _ laτ,if_pos rfl]
  have ub:υ.get b=some (.sh,.int b0):=by rw [← hυ,Ag6 _ _ _ _ laτ,if_neg (Ne.symm ab)];exact tb
  have s2:(Ev P (n+80)).ex (.asg b (.bi .min [(.var b),(.idx (.var a) (.neg (.lit (.int 1))))])) υ=some (.next,υ.put b (.sh,.int (mn2 b0 (lv q w (b0 - 1))))):=by
   have il:=P1 (A:=A) (t:=lv q w (b0 - 1))
   generalize (A++[lv q w (b0 - 1)]).map D.int=L at *
   exact Do (o_v (K0 (Ec (Af ub) (Ec (Cm ua (r_neg Bf rfl) il) rfl)) rfl (fun a=>nomatch a) fun a=>nomatch a) rfl)
  have lbυ:b<υ.length:=by rw [lυ];exact lb
  obtain ⟨σ',e,n',h1,h2⟩:=Lh h21 h28 hq hql la ly lb nd W (mn2 b0 (lv q w (b0 - 1))) (A++[lv q w (b0 - 1)]) (υ.put b (.sh,.int (mn2 b0 (lv q w (b0 - 1))))) (nυ.put (by simp) _) (fun v hv=>hW v (List.mem_cons_of_mem _ hv)) (by rw [List.length_cons] at hl;simp;lia) gp
   (by rw [Ag6 _ _ _ _ lbυ,if_neg ab];exact ua) (by rw [Ag6 _ _ _ _ lbυ,if_pos rfl])
  refine ⟨σ',?_,n',h1,h2⟩
  rw [List.map_cons,Fp]
  simp only [Vf,Option.bind_some,hτ]
  unfold Adz at e ⊢
  rw [C0,s1,Ax,C0,s2,Ax,Kl,Ax]
  exact e
theorem Mz:∀x∈A5,Fy x=x:=by decide
theorem Z0{x y z:Nat}(hA:∀w∈[x,y,z],w∈A5)(hn:[x,y,z].Nodup){g h:Nat}(hg:g<3)(hh:h<3):Bv (S3 x y z g) (S3 x y z h)=Bv g h:=by
 unfold Bv
 rw [Mz _ (hA _ (Lz ..)),Mz _ (hA _ (Lz ..))]
 have e1:Fy g=g:=by unfold Fy;rw [if_neg (by lia)]
 have e2:Fy h=h:=by unfold Fy;rw [if_neg (by lia)]
 rw [e1,e2]
 by_cases e:g=h
 ·subst e;simp
 ·have e':S3 x y z g≠S3 x y z h:=fun q=>e (Zi hn hg hh q)
  simp [e,e']
theorem Oj{x y z:Nat}(hA:∀w∈[x,y,z],w∈A5)(hn:[x,y,z].Nodup):∀(k:Nat) (a b:List Nat),a.length+b.length≤k→(∀g∈a,g<3)→(∀g∈b,g<3)→dm (a.map (S3 x y z)) (b.map (S3 x y z))=dm a b
 |_,[],b,_,_,_=>by rw [List.map_nil,Bb,Bb,List.length_map]
 |_,g :: a,[],_,_,_=>by rw [List.map_nil,C2,C2,List.length_map]
 |k+1,g :: a,h :: b,hk,ha,hb=>by
  simp only [List.length_cons] at hk
  have ha':∀g∈a,g<3:=fun g hg=>ha g (List.mem_cons_of_mem _ hg)
  have hb':∀g∈b,g<3:=fun g hg=>hb g (List.mem_cons_of_mem _ hg)
  rw [List.map_cons,List.map_cons,Dy,Dy,Z0 hA hn (ha g List.mem_cons_self) (hb h List.mem_cons_self),← List.map_cons,← List.map_cons,
   Oj hA hn k a (h :: b) (by simp;lia) ha' hb,Oj hA hn k (g :: a) b (by simp;exact Nat.le_of_lt_succ hk) ha hb',Oj hA hn k a b (by lia) ha' hb']
 |0,g :: a,h :: b,hk,_,_=>by simp at hk
end
end Mine
end
section
set_option autoImplicit false
namespace Mine
noncomputable def Eh(row:List Nat)(pr:Nat→List Int)(k:Nat)(ws:List (Nat×Nat)):List Int:=
 ws.flatMap fun p=>[(pr p.2).getD k 0+2,if 0<k then (pr p.2).getD (k - 1) 0+(if row.getD (k - 1) 0=p.1 then 0 else 2) else (pr p.2).getD k 0+2]
noncomputable def Dn(ln:List Int)(k:Nat)(ws:List (Nat×Nat)):List Int:=if 0<k then [ln.getD (k - 1) 0+2] else if ws=[] then [0] else []
noncomputable def Sz:List Int→Int
 |a :: r=>Hy a r
 |[]=>0
noncomputable def Ak(row:List Nat)(pr:Nat→List Int)(ws:List (Nat×Nat)):Nat→List Int
 |0=>[]
 |k+1=>Ak row pr ws k++[Sz (Dn (Ak row pr ws k) k ws++Eh row pr k ws)]
theorem liF{row:List Nat}{pr:Nat→List Int}{ws:List (Nat×Nat)}{k:Nat}:Ak row pr ws (k+1)=Ak row pr ws k++[Sz (Dn (Ak row pr ws k) k ws++Eh row pr k ws)]:=rfl
theorem Gs(row:List Nat)(pr:Nat→List Int)(ws:List (Nat×Nat)):∀k,(Ak row pr ws k).length=k
 |0=>rfl
 |k+1=>by rw [liF,List.length_append,Gs row pr ws k];rfl
noncomputable def Aq(row:List Nat):Au→Nat→List (List Int)
 |[],_=>[]
 |ws :: st,p=>Ak row (fun l=>(Aq row st (p+1)).getD (l - (p+1)) []) ws 5 :: Aq row st (p+1)
theorem prT{row:List Nat}{ws:List (Nat×Nat)}{st:Au}{p:Nat}:Aq row (ws :: st) p=Ak row (fun l=>(Aq row st (p+1)).getD (l - (p+1)) []) ws 5 :: Aq row st (p+1):=rfl
noncomputable def Fj(row:List Nat)(st:Au):Int:=((Aq row st 0).headD []).getD 4 0
theorem Fi(row:List Nat):∀(st:Au) (p:Nat),(Aq row st p).length=st.length
 |[],_=>rfl
 |ws :: st,p=>by rw [prT,List.length_cons,Fi row st,List.length_cons]
theorem Fh(row:List Nat):∀(st:Au) (p:Nat),∀l∈Aq row st p,l.length=5
 |[],_,l,h=>by cases h
 |ws :: st,p,l,h=>by
  rw [prT] at h
  rcases List.mem_cons.mp h with q | q
  ·rw [q];exact Gs ..
  ·exact Fh row st (p+1) l q
noncomputable def Bo:Nat→List (List Int)→List (Int×D)
 |_,[]=>[]
 |p,l :: T=>Bo (p+1) T++[(((p:Nat):Int),D.list (l.map .int))]
theorem enF{p:Nat}{l:List Int}{T:List (List Int)}:Bo p (l :: T)=Bo (p+1) T++[(((p:Nat):Int),D.list (l.map .int))]:=rfl
theorem Jg:∀(T:List (List Int)) (p:Nat),∀e∈Bo p T,(p:Int)≤e.1
 |[],_,e,h=>by cases h
 |l :: T,p,e,h=>by
  rw [enF] at h
  rcases List.mem_append.mp h with q | q
  ·have:=Jg T (p+1) e q;exact Int.le_of_lt this
  ·simp at q;rw [q];exact Int.le_refl _
theorem Jy{α:Type}{f:α→Bool}{l r:List α}:(l++r).find? f=(l.find? f).or (r.find? f):=List.find?_append
theorem Jh:∀(T:List (List Int)) (p j:Nat),Be (Bo p T) (((p+j:Nat)):Int)=(T[j]?).map fun l=>.list (l.map .int)
 |[],p,j=>rfl
 |l :: T,p,0=>by
  rw [enF,Be,Jy]
  have:(Bo (p+1) T).find? (fun e=>decide (e.1=((p+0:Nat):Int)))=none:=by
   rw [List.find?_eq_none]
   intro e he
   have:=Jg T (p+1) e he
   simp;exact Int.ne_of_gt this
  rw [this];simp
 |l :: T,p,j+1=>by
  have ih:=Jh T (p+1) j
  rw [show p+1+j=p+(j+1) by exact Nat.succ_add_eq_add_succ p j] at ih
  rw [List.getElem?_cons_succ,← ih,Bo,Be,Be,Jy]
  have:([(((p:Nat):Int),D.list (l.map .int))]:List (Int×D)).find? (fun e=>decide (e.1=((p+(j+1):Nat):Int)))=none:=by
   rw [List.find?_eq_none]
   intro e he
   simp at he
   rw [he];simp;lia
  rw [this,Option.or_none]
theorem M7:∀(T:List (List Int)) (p:Nat),(Bo p T).length=T.length
 |[],_=>rfl
 |l :: T,p=>by rw [enF,List.length_append,M7 T];rfl
theorem U8(T:List (List Int))(p:Nat)(l:List Int):Cg (Bo (p+1) T) ((p:Nat):Int) (D.list (l.map .int))=Bo p (l :: T):=by
 unfold Cg
 rw [if_neg]
 ·rfl
 ·simp only [List.any_eq_true,decide_eq_true_eq,not_exists,not_and]
  intro e he q
  have:=Jg T (p+1) e he
  lia
section
variable {P:List (Nat×Ahc)} {n:Nat} {F:Ahl} {σ:St}
noncomputable def σP(S R:D)(es:List (Int×D))(x3 x4 x5 x6 x7 x8:Option Slot):St:=[some (.sh,S),some (.sh,R),some (.own,.Ahe es),x3,x4,x5,x6,x7,x8]
noncomputable def bW:List S:=[.app 6 (.bin .add (.idx (.idx (.var 2) (.var 8)) (.var 5)) (.lit (.int 2))),.app 6 (.ite (.cmp .gt (.var 5) (.lit (.int 0))) (.bin .add (.idx (.idx (.var 2) (.var 8)) (.bin .sub (.var 5) (.lit (.int 1)))) (.ite (.cmp .eq (.idx (.var 1) (.bin .sub (.var 5) (.lit (.int 1)))) (.var 7)) (.lit (.int 0)) (.lit (.int 2)))) (.bin .add (.idx (.idx (.var 2) (.var 8)) (.var 5)) (.lit (.int 2))))]
theorem Io{l:List Int}{k:Nat}(h:k<l.length):Ar (.list (l.map .int)) (.int (k:Nat))=some (.int (l.getD k 0))∨2 ^ 60≤k:=by
 by_cases hk:k<2 ^ 60
 ·left;rw [E9 hk,List.getElem?_eq_getElem h];simp [List.getD,List.getElem?_eq_getElem h]
 ·right;exact Nat.le_of_not_lt hk
theorem Th{S:D}{row:List Nat}{es:List (Int×D)}{x3 x4:Option Slot}{k:Nat}{pr:Nat→List Int}(hk:k<5)(Aim:row.length=4):∀(ws:List (Nat×Nat)) (acc:List Int) (x7 x8:Option Slot),(∀p∈ws,Be es ((p.2:Nat):Int)=some (.list ((pr p.2).map .int))∧(pr p.2).length=5)→acc.length+2 * ws.length≤1000→
  Ex2 fun y7 y8=>Dl (Ev P (n+12)) (.t [7,8]) bW (ws.map fun p=>D.tup [.int p.1,.int p.2]) (σP S (.list (row.map fun g:Nat=>D.int g)) es x3 x4 (some (.sh,.int (k:Nat))) (some (.own,.list (acc.map .int))) x7 x8) =
   some (.next,σP S (.list (row.map fun g:Nat=>D.int g)) es x3 x4 (some (.sh,.int (k:Nat))) (some (.own,.list ((acc++Eh row pr k ws).map .int))) y7 y8)
 |[],acc,x7,x8,_,_=>⟨x7,x8,by simp [Eh]⟩
 |(g,l) :: ws,acc,x7,x8,h,hl=>by
  obtain ⟨h1,h2⟩:=h (g,l) List.mem_cons_self
  dsimp only at h1 h2
  have hi:Ar (.Ahe es) (.int (l:Nat))=some (.list ((pr l).map .int)):=by simp only [Ar];exact h1
  have e1:Ar (.list ((pr l).map .int)) (.int (k:Nat))=some (.int ((pr l).getD k 0)):=(Io (by exact Nat.lt_of_lt_of_eq hk (id (Eq.symm h2)))).resolve_right (by lia)
  let v2:Int:=if 0<k then (pr l).getD (k - 1) 0+(if row.getD (k - 1) 0=g then 0 else 2) else (pr l).getD k 0+2
  obtain ⟨y7,y8,ih⟩:=Th (x3:=x3) (x4:=x4) hk Aim (S:=S) (es:=es) (pr:=pr) ws (acc++[(pr l).getD k 0+2,v2]) (some (.sh,.int (g:Nat))) (some (.sh,.int (l:Nat))) (fun p hp=>h p (List.mem_cons_of_mem _ hp)) (by rw [List.length_cons] at hl;simp;lia)
  refine ⟨y7,y8,?_⟩
  rw [List.map_cons,Fp]
  have hb:Cy (.t [7,8]) (.tup [.int (g:Nat),.int (l:Nat)]) (σP S (.list (row.map fun g:Nat=>D.int g)) es x3 x4 (some (.sh,.int (k:Nat))) (some (.own,.list (acc.map .int))) x7 x8) =
   some (σP S (.list (row.map fun g:Nat=>D.int g)) es x3 x4 (some (.sh,.int (k:Nat))) (some (.own,.list (acc.map .int))) (some (.sh,.int (g:Nat))) (some (.sh,.int (l:Nat)))):=rfl
  dsimp only
  rw [hb]
  simp only [Option.bind_some]
  have hz:(acc.map D.int).length<line:=by rw [List.length_map];unfold line;lia
  have hz2:((acc++[(pr l).getD k 0+2]).map D.int).length<line:=by rw [List.length_map,List.length_append];unfold line;simp;lia
  have st1:(Ev P (n+12)).ex (.app 6 (.bin .add (.idx (.idx (.var 2) (.var 8)) (.var 5)) (.lit (.int 2)))) (σP S (.list (row.map fun g:Nat=>D.int g)) es x3 x4 (some (.sh,.int (k:Nat))) (some (.own,.list (acc.map .int))) (some (.sh,.int (g:Nat))) (some (.sh,.int (l:Nat)))) =
    some (.next,σP S (.list (row.map fun g:Nat=>D.int g)) es x3 x4 (some (.sh,.int (k:Nat))) (some (.own,.list ((acc++[(pr l).getD k 0+2]).map .int))) (some (.sh,.int (g:Nat))) (some (.sh,.int (l:Nat)))):=by
   unfold σP
   simp only [De,O9,Im,Il,Ij,if_true,Cu,E0,Hb,A8,C5,Option.map_some,Option.bind_some,hi,D2,again,e1,Dg,Qh,Mg,if_pos hz,Ib,Ia,List.map_append,List.map_cons,List.map_nil]
  have st2:(Ev P (n+12)).ex (.app 6 (.ite (.cmp .gt (.var 5) (.lit (.int 0))) (.bin .add (.idx (.idx (.var 2) (.var 8)) (.bin .sub (.var 5) (.lit (.int 1)))) (.ite (.cmp .eq (.idx (.var 1) (.bin .sub (.var 5) (.lit (.int 1)))) (.var 7)) (.lit (.int 0)) (.lit (.int 2)))) (.bin .add (.idx (.idx (.var 2) (.var 8)) (.var 5)) (.lit (.int 2))))) (σP S (.list (row.map fun g:Nat=>D.int g)) es x3 x4 (some (.sh,.int (k:Nat))) (some (.own,.list ((acc++[(pr l).getD k 0+2]).map .int))) (some (.sh,.int (g:Nat))) (some (.sh,.int (l:Nat)))) =
    some (.next,σP S (.list (row.map fun g:Nat=>D.int g)) es x3 x4 (some (.sh,.int (k:Nat))) (some (.own,.list ((acc++[(pr l).getD k 0+2,v2]).map .int))) (some (.sh,.int (g:Nat))) (some (.sh,.int (l:Nat)))):=by
   have fin:((acc++[(pr l).getD k 0+2]).map D.int)++[D.int v2]=(acc++[(pr l).getD k 0+2,v2]).map D.int:=by simp
   rw [← fin]
   by_cases h0:0<k
   ·have e0:((k:Int) - 1)=((k - 1:Nat):Int):=(Int.natCast_sub (by assumption)).symm
    have e2:Ar (.list ((pr l).map .int)) (.int ((k - 1:Nat):Int))=some (.int ((pr l).getD (k - 1) 0)):=(Io (by lia)).resolve_right (by lia)
    have e3:Ar (.list (row.map fun g:Nat=>D.int g)) (.int ((k - 1:Nat):Int))=some (.int ((row.getD (k - 1) 0:Nat):Int)):=by
     have:=E9 (xs:=row.map fun g:Nat=>(g:Int)) (k:=k - 1) (by lia)
     rw [List.map_map,List.getElem?_map,List.getElem?_eq_getElem (by lia)] at this
     rw [Lf (by lia)]
     exact this
    have hd:decide ((0:Int)<(k:Int))=true:=decide_eq_true (by exact Int.natCast_pos.mpr h0)
    have hq:decide (((row.getD (k - 1) 0:Nat):Int)=(g:Int))=decide (row.getD (k - 1) 0=g):=by rw [decide_eq_decide];exact Int.ofNat_inj
    have hv:v2=(pr l).getD (k - 1) 0+(if row.getD (k - 1) 0=g then 0 else 2):=if_pos h0
    unfold σP
    generalize (acc++[(pr l).getD k 0+2]).map D.int=L at hz2 ⊢
    by_cases hg:row.getD (k - 1) 0=g
    ·rw [if_pos hg] at hv
     simp only [De,O9,Im,Il,Ij,if_true,Cu,Se,D5,Ei,D9,E0,Hb,A8,C5,Option.map_some,Option.bind_some,hi,D2,again,Dg,Ady,e0,e2,e3,iE1,iE5,Bool.false_eq_true,if_false,Y5,hd,C7,Ir,hq,decide_eq_true hg,Qh,Mg,if_pos hz2,Ib,Ia,hv]
    ·rw [if_neg hg] at hv
     simp only [De,O9,Im,Il,Ij,if_true,Cu,Se,D5,Ei,D9,E0,Hb,A8,C5,Option.map_some,Option.bind_some,hi,D2,again,Dg,Ady,e0,e2,e3,iE1,iE5,Bool.false_eq_true,if_false,Y5,hd,C7,Ir,hq,decide_eq_false hg,Qh,Mg,if_pos hz2,Ib,Ia,hv]
   ·have hd:decide ((0:Int)<(k:Int))=false:=decide_eq_false (by lia)
    have hv:v2=(pr l).getD k 0+2:=if_neg h0
    unfold σP
    generalize (acc++[(pr l).getD k 0+2]).map D.int=L at hz2 ⊢
    simp only [De,O9,Im,Il,Ij,if_true,Cu,Se,D5,Ei,D9,E0,Hb,A8,C5,Option.map_some,Option.bind_some,hi,D2,again,Dg,e1,iE1,iE5,Bool.false_eq_true,if_false,Y5,hd,C7,Qh,Mg,if_pos hz2,Ib,Ia,hv]
  unfold bW at ih ⊢
  rw [C0,st1,Ax,C0,st2,Ax,Kl,Ax,ih]
  have ew:acc++Eh row pr k ((g,l) :: ws)=acc++[(pr l).getD k 0+2,v2]++Eh row pr k ws:=by
   simp only [Eh,List.flatMap_cons,List.append_assoc];rfl
  rw [ew]
end
end Mine
end
section
set_option autoImplicit false
namespace Mine
section
variable {P:List (Nat×Ahc)} {n:Nat} {F:Ahl} {σ:St}
noncomputable def bK:List S:=[.asg 6 (.ite (.cmp .gt (.var 5) (.lit (.int 0))) (.list [(.bin .add (.idx (.var 4) (.bin .sub (.var 5) (.lit (.int 1)))) (.lit (.int 2)))]) (.ite (.cmp .eq (.idx (.var 0) (.var 3)) (.list [])) (.list [(.lit (.int 0))]) (.list []))),.for (.t [7,8]) (.idx (.var 0) (.var 3)) bW,.app 4 (.bi .min [(.var 6)])]
noncomputable def B7(row:List Nat):D:=.list (row.map fun g:Nat=>D.int g)
theorem Ab9{a:List D}:C3 .eq (.list a) (.list [])=some a.isEmpty:=by cases a <;> rfl
theorem bK_ok{st:Au}{row:List Nat}{es:List (Int×D)}{p k:Nat}{ws:List (Nat×Nat)}{pr:Nat→List Int}{x6 x7 x8:Option Slot}(hk:k<5)(Aim:row.length=4)(hp:st[p]? = some ws)(hp1:p<2 ^ 60)(hw:ws.length≤10)
  (h:∀q∈ws,Be es ((q.2:Nat):Int)=some (.list ((pr q.2).map .int))∧(pr q.2).length=5) :
  Ex3 fun y6 y7 y8=>exs (Ev P (n+14)) bK (σP (.list (Ad st)) (B7 row) es (some (.sh,.int (p:Nat))) (some (.own,.list ((Ak row pr ws k).map .int))) (some (.sh,.int (k:Nat))) x6 x7 x8) =
   some (.next,σP (.list (Ad st)) (B7 row) es (some (.sh,.int (p:Nat))) (some (.own,.list ((Ak row pr ws (k+1)).map .int))) (some (.sh,.int (k:Nat))) y6 y7 y8):=by
 have hi:Ar (.list (Ad st)) (.int (p:Nat))=some (.list (ws.map fun q=>D.tup [.int q.1,.int q.2])):=by
  simp only [Ar,B8 hp1,if_true,nth]
  rw [if_pos (by exact Int.natCast_nonneg p),Int.toNat_natCast]
  delta Ad
  rw [List.getElem?_map,hp];rfl
 have st1:(Ev P (n+14)).ex (.asg 6 (.ite (.cmp .gt (.var 5) (.lit (.int 0))) (.list [(.bin .add (.idx (.var 4) (.bin .sub (.var 5) (.lit (.int 1)))) (.lit (.int 2)))]) (.ite (.cmp .eq (.idx (.var 0) (.var 3)) (.list [])) (.list [(.lit (.int 0))]) (.list [])))) (σP (.list (Ad st)) (B7 row) es (some (.sh,.int (p:Nat))) (some (.own,.list ((Ak row pr ws k).map .int))) (some (.sh,.int (k:Nat))) x6 x7 x8) =
   some (.next,σP (.list (Ad st)) (B7 row) es (some (.sh,.int (p:Nat))) (some (.own,.list ((Ak row pr ws k).map .int))) (some (.sh,.int (k:Nat))) (some (.own,.list ((Dn (Ak row pr ws k) k ws).map .int))) x7 x8):=by
  by_cases h0:0<k
  ·have e0:((k:Int) - 1)=((k - 1:Nat):Int):=(Int.natCast_sub (by assumption)).symm
   have hd:decide ((0:Int)<(k:Int))=true:=decide_eq_true (by exact Int.natCast_pos.mpr h0)
   have e2:Ar (.list ((Ak row pr ws k).map .int)) (.int ((k - 1:Nat):Int))=some (.int ((Ak row pr ws k).getD (k - 1) 0)):=(Io (by rw [Gs];exact Nat.sub_one_lt_of_lt h0)).resolve_right (by lia)
   have hb:Dn (Ak row pr ws k) k ws=[(Ak row pr ws k).getD (k - 1) 0+2]:=if_pos h0
   rw [hb]
   delta σP
   generalize (Ak row pr ws k).map D.int=L at *
   simp [iE1,iE5,e0,e2,line,A8,again,h0]
  ·have hd:decide ((0:Int)<(k:Int))=false:=decide_eq_false (by lia)
   have hb:Dn (Ak row pr ws k) k ws=if ws=[] then [0] else []:=if_neg h0
   rw [hb]
   delta σP
   generalize (Ak row pr ws k).map D.int=L at *
   by_cases hws:ws=[]
   ·subst hws
    simp only [List.map_nil] at hi
    exact I8 (o_i (t_v (Kz (Af rfl) Bf rfl) rfl rfl) (X3 hd (o_i (t_v (H9 (Cm rfl (Af rfl) hi) (r_l rfl (ll rfl)) rfl) rfl rfl) (Oa (of_decide_eq_true (id rfl)) (o_l (Ec Bf rfl) (ll rfl)))))) rfl
   ·have hne:(ws.map fun q=>D.tup [.int q.1,.int q.2]).isEmpty=false:=by induction ws using List.casesOn with | nil=>exact absurd rfl hws | cons _ _=>rfl
    simp [iE1,iE5,hi,line,A8,again,h0,Ab9,hws]
 have hbl:(Dn (Ak row pr ws k) k ws).length≤1:=by delta Dn;split;simp;split <;> simp
 obtain ⟨y7,y8,ef⟩:=Th (P:=P) (n:=n+1) (S:=.list (Ad st)) (row:=row) (es:=es) (x3:=some (.sh,.int (p:Nat))) (x4:=some (.own,.list ((Ak row pr ws k).map .int))) (k:=k) (pr:=pr) hk Aim ws (Dn (Ak row pr ws k) k ws) x7 x8 h (by lia)
 have st2:(Ev P (n+14)).ex (.for (.t [7,8]) (.idx (.var 0) (.var 3)) bW) (σP (.list (Ad st)) (B7 row) es (some (.sh,.int (p:Nat))) (some (.own,.list ((Ak row pr ws k).map .int))) (some (.sh,.int (k:Nat))) (some (.own,.list ((Dn (Ak row pr ws k) k ws).map .int))) x7 x8) =
   some (.next,σP (.list (Ad st)) (B7 row) es (some (.sh,.int (p:Nat))) (some (.own,.list ((Ak row pr ws k).map .int))) (some (.sh,.int (k:Nat))) (some (.own,.list ((Dn (Ak row pr ws k) k ws++Eh row pr k ws).map .int))) y7 y8):=by
  have it:items (Ev P (n+13)) (.idx (.var 0) (.var 3)) (σP (.list (Ad st)) (B7 row) es (some (.sh,.int (p:Nat))) (some (.own,.list ((Ak row pr ws k).map .int))) (some (.sh,.int (k:Nat))) (some (.own,.list ((Dn (Ak row pr ws k) k ws).map .int))) x7 x8)=some (ws.map fun q=>D.tup [.int q.1,.int q.2],σP (.list (Ad st)) (B7 row) es (some (.sh,.int (p:Nat))) (some (.own,.list ((Ak row pr ws k).map .int))) (some (.sh,.int (k:Nat))) (some (.own,.list ((Dn (Ak row pr ws k) k ws).map .int))) x7 x8):=by
   rw [Ao rfl];delta σP
   simp [hi,Ea,A8,again]
  rw [show n+14=n+13+1 from rfl,De,Jq,it]
  exact ef
 obtain ⟨v,vs,hv⟩ : ∃v vs,Dn (Ak row pr ws k) k ws++Eh row pr k ws=v :: vs:=by
  refine List.exists_cons_of_ne_nil fun q=>?_
  rw [List.append_eq_nil_iff] at q
  obtain ⟨q1,q2⟩:=q
  delta Dn at q1
  split at q1
  ·cases q1
  ·split at q1
   ·cases q1
   ·rename_i hne
    obtain ⟨a,b,rfl⟩:=List.exists_cons_of_ne_nil hne
    simp [Eh] at q2
 have hm:biD .min [.list ((v :: vs).map .int)]=some (.int (Hy v vs)):=by simp only [biD,Ej,Ae6,Option.bind_some,Bs]
 have hz:((Ak row pr ws k).map D.int).length<line:=by rw [List.length_map,Gs];exact Nat.le_trans (by assumption) (by decide)
 have st3:(Ev P (n+14)).ex (.app 4 (.bi .min [(.var 6)])) (σP (.list (Ad st)) (B7 row) es (some (.sh,.int (p:Nat))) (some (.own,.list ((Ak row pr ws k).map .int))) (some (.sh,.int (k:Nat))) (some (.own,.list ((Dn (Ak row pr ws k) k ws++Eh row pr k ws).map .int))) y7 y8) =
   some (.next,σP (.list (Ad st)) (B7 row) es (some (.sh,.int (p:Nat))) (some (.own,.list ((Ak row pr ws (k+1)).map .int))) (some (.sh,.int (k:Nat))) (some (.sh,.list ((Dn (Ak row pr ws k) k ws++Eh row pr k ws).map .int))) y7 y8):=by
  have el:(Ak row pr ws (k+1)).map D.int=(Ak row pr ws k).map D.int++[.int (Hy v vs)]:=by
   rw [liF,hv,List.map_append];rfl
  rw [el,hv]
  delta σP
  generalize (v :: vs).map D.int=L at *
  generalize (Ak row pr ws k).map D.int=L2 at *
  simp [Ij,hm,Mg,hz]
 refine ⟨some (.sh,.list ((Dn (Ak row pr ws k) k ws++Eh row pr k ws).map .int)),y7,y8,?_⟩
 delta bK
 exact Am st1 (Am st2 (Am st3 rfl))
theorem Tk{st:Au}{row:List Nat}{es:List (Int×D)}{p:Nat}{ws:List (Nat×Nat)}{pr:Nat→List Int}(Aim:row.length=4)(hp:st[p]? = some ws)(hp1:p<2 ^ 60)(hw:ws.length≤10)
  (h:∀q∈ws,Be es ((q.2:Nat):Int)=some (.list ((pr q.2).map .int))∧(pr q.2).length=5):∀(r k:Nat) (x5 x6 x7 x8:Option Slot),k+r=5→
  Ex4 fun y5 y6 y7 y8=>Dl (Ev P (n+14)) (.v 5) bK ((List.range' k r).map fun i:Nat=>D.int i) (σP (.list (Ad st)) (B7 row) es (some (.sh,.int (p:Nat))) (some (.own,.list ((Ak row pr ws k).map .int))) x5 x6 x7 x8) =
   some (.next,σP (.list (Ad st)) (B7 row) es (some (.sh,.int (p:Nat))) (some (.own,.list ((Ak row pr ws 5).map .int))) y5 y6 y7 y8)
 |0,k,x5,x6,x7,x8,hk=>⟨x5,x6,x7,x8,by rw [show k=5 by assumption];rfl⟩
 |r+1,k,x5,x6,x7,x8,hk=>by
  obtain ⟨y6,y7,y8,e⟩:=bK_ok (P:=P) (n:=n) (st:=st) (row:=row) (es:=es) (p:=p) (k:=k) (ws:=ws) (pr:=pr) (x6:=x6) (x7:=x7) (x8:=x8) (by lia) Aim hp hp1 hw h
  obtain ⟨z5,z6,z7,z8,ih⟩:=Tk Aim hp hp1 hw h r (k+1) (some (.sh,.int (k:Nat))) y6 y7 y8 (by lia)
  refine ⟨z5,z6,z7,z8,?_⟩
  rw [List.range'_succ,List.map_cons,Fp]
  simp only [Vf,Option.bind_some]
  rw [show St.put (σP (.list (Ad st)) (B7 row) es (some (.sh,.int (p:Nat))) (some (.own,.list ((Ak row pr ws k).map .int))) x5 x6 x7 x8) 5 (.sh,.int (k:Nat))=σP (.list (Ad st)) (B7 row) es (some (.sh,.int (p:Nat))) (some (.own,.list ((Ak row pr ws k).map .int))) (some (.sh,.int (k:Nat))) x6 x7 x8 from rfl,e,Ax]
  exact ih
def Xb(st:Au):Prop:=∀(p:Nat) (ws:List (Nat×Nat)),st[p]? = some ws→ws.length≤10∧∀q∈ws,p<q.2∧q.2<st.length
noncomputable def bP:List S:=[.asg 4 (.list []),.for (.v 5) (.bi .range [(.lit (.int 5))]) bK,.put 2 (.var 3) (.var 4)]
theorem Yt{α:Type}{l:List α}{p:Nat}{x:α}(h:l[p]? = some x):l.drop p=x :: l.drop (p+1):=by
 have hp:p<l.length:=(List.getElem?_eq_some_iff.mp h).1
 rw [List.drop_eq_getElem_cons hp]
 rw [List.getElem?_eq_getElem hp] at h
 rw [Option.some.inj h]
theorem bP_ok{st:Au}{row:List Nat}{p:Nat}{x4 x5 x6 x7 x8:Option Slot}(hok:Xb st)(hl:st.length≤1000)(Aim:row.length=4)(hp:p<st.length) :
  Ex5 fun y4 y5 y6 y7 y8=>exs (Ev P (n+16)) bP (σP (.list (Ad st)) (B7 row) (Bo (p+1) (Aq row (st.drop (p+1)) (p+1))) (some (.sh,.int (p:Nat))) x4 x5 x6 x7 x8) =
   some (.next,σP (.list (Ad st)) (B7 row) (Bo p (Aq row (st.drop p) p)) (some (.sh,.int (p:Nat))) y4 y5 y6 y7 y8):=by
 have hps:st[p]? = some st[p]:=List.getElem?_eq_getElem hp
 obtain ⟨hw,hq⟩:=hok p _ hps
 generalize hT:Aq row (st.drop (p+1)) (p+1)=T
 have hTl:T.length=st.length - (p+1):=by rw [← hT,Fi,List.length_drop]
 let pr:Nat→List Int:=fun l=>T.getD (l - (p+1)) []
 have hpr:∀q∈st[p],Be (Bo (p+1) T) ((q.2:Nat):Int)=some (.list ((pr q.2).map .int))∧(pr q.2).length=5:=fun q hq'=>by
  obtain ⟨h1,h2⟩:=hq q hq'
  have h3:q.2 - (p+1)<T.length:=Nat.lt_of_lt_of_eq (Nat.sub_lt_sub_right h1 h2) hTl.symm
  have e:=Jh T (p+1) (q.2 - (p+1))
  rw [show p+1+(q.2 - (p+1))=q.2 by exact Nat.add_sub_of_le h1,List.getElem?_eq_getElem h3] at e
  have e2:pr q.2=T[q.2 - (p+1)]:=by show T.getD _ _=_;simp [List.getD,List.getElem?_eq_getElem h3]
  rw [e2]
  exact ⟨e,Fh row _ _ _ (by rw [hT];exact List.getElem_mem h3)⟩
 obtain ⟨y5,y6,y7,y8,ef⟩:=Tk (P:=P) (n:=n+1) (st:=st) (row:=row) (es:=Bo (p+1) T) (p:=p) (ws:=st[p]) (pr:=pr) Aim hps (by lia) hw hpr 5 0 x5 x6 x7 x8 rfl
 have it:items (Ev P (n+15)) (.bi .range [(.lit (.int 5))]) (σP (.list (Ad st)) (B7 row) (Bo (p+1) T) (some (.sh,.int (p:Nat))) (some (.own,.list [])) x5 x6 x7 x8)=some ((List.range' 0 5).map fun i:Nat=>D.int i,σP (.list (Ad st)) (B7 row) (Bo (p+1) T) (some (.sh,.int (p:Nat))) (some (.own,.list [])) x5 x6 x7 x8):=by
  rw [Ao rfl]
  have h1:=Cs (k:=5) (by decide)
  have hb:biD .range [.int 5]=some (.rng 0 5 1):=rfl
  simp [hb];exact h1
 have st1:(Ev P (n+16)).ex (.asg 4 (.list [])) (σP (.list (Ad st)) (B7 row) (Bo (p+1) T) (some (.sh,.int (p:Nat))) x4 x5 x6 x7 x8)=some (.next,σP (.list (Ad st)) (B7 row) (Bo (p+1) T) (some (.sh,.int (p:Nat))) (some (.own,.list [])) x5 x6 x7 x8):=by
  delta σP;simp [line]
 have st2:(Ev P (n+16)).ex (.for (.v 5) (.bi .range [(.lit (.int 5))]) bK) (σP (.list (Ad st)) (B7 row) (Bo (p+1) T) (some (.sh,.int (p:Nat))) (some (.own,.list [])) x5 x6 x7 x8) =
   some (.next,σP (.list (Ad st)) (B7 row) (Bo (p+1) T) (some (.sh,.int (p:Nat))) (some (.own,.list ((Ak row pr st[p] 5).map .int))) y5 y6 y7 y8):=by
  rw [show n+16=n+15+1 from rfl,De,Jq,it]
  exact ef
 have el:=M7 T (p+1)
 have st3:(Ev P (n+16)).ex (.put 2 (.var 3) (.var 4)) (σP (.list (Ad st)) (B7 row) (Bo (p+1) T) (some (.sh,.int (p:Nat))) (some (.own,.list ((Ak row pr st[p] 5).map .int))) y5 y6 y7 y8) =
   some (.next,σP (.list (Ad st)) (B7 row) (Bo p (Ak row pr st[p] 5 :: T)) (some (.sh,.int (p:Nat))) (some (.sh,.list ((Ak row pr st[p] 5).map .int))) y5 y6 y7 y8):=by
  have sd:D0 (.Ahe (Bo (p+1) T)) (.int (p:Nat)) (.list ((Ak row pr st[p] 5).map .int))=some (.Ahe (Bo p (Ak row pr st[p] 5 :: T))):=by
   simp only [Ac1];rw [if_pos (Nat.le_trans (Nat.le_of_eq el) (Nat.le_trans (Nat.le_of_eq hTl) (Nat.le_trans (Nat.sub_le _ _) (Nat.le_trans (by assumption) (by decide))))),U8]
  delta σP
  generalize (Ak row pr st[p] 5).map D.int=L at *
  simp [sd]
 have eT:Aq row (st.drop p) p=Ak row pr st[p] 5 :: T:=by
  rw [Yt hps,prT,hT]
 rw [eT]
 refine ⟨some (.sh,.list ((Ak row pr st[p] 5).map .int)),y5,y6,y7,y8,?_⟩
 delta bP
 exact Am st1 (Am st2 (Am st3 rfl))
theorem Ti{st:Au}{row:List Nat}(hok:Xb st)(hl:st.length≤1000)(Aim:row.length=4):∀(p:Nat) (x3 x4 x5 x6 x7 x8:Option Slot),p≤st.length→
  Ex6 fun y3 y4 y5 y6 y7 y8=>Dl (Ev P (n+16)) (.v 3) bP ((List.range p).reverse.map fun i:Nat=>D.int i) (σP (.list (Ad st)) (B7 row) (Bo p (Aq row (st.drop p) p)) x3 x4 x5 x6 x7 x8) =
   some (.next,σP (.list (Ad st)) (B7 row) (Bo 0 (Aq row st 0)) y3 y4 y5 y6 y7 y8)
 |0,x3,x4,x5,x6,x7,x8,_=>⟨x3,x4,x5,x6,x7,x8,rfl⟩
 |p+1,x3,x4,x5,x6,x7,x8,h=>by
  obtain ⟨y4,y5,y6,y7,y8,e⟩:=bP_ok (P:=P) (n:=n) (row:=row) (p:=p) (x4:=x4) (x5:=x5) (x6:=x6) (x7:=x7) (x8:=x8) hok hl Aim (by assumption)
  obtain ⟨z3,z4,z5,z6,z7,z8,ih⟩:=Ti hok hl Aim p (some (.sh,.int (p:Nat))) y4 y5 y6 y7 y8 (by exact Nat.le_of_succ_le h)
  refine ⟨z3,z4,z5,z6,z7,z8,?_⟩
  rw [List.range_succ,List.reverse_append,List.reverse_singleton,List.singleton_append,List.map_cons,Fp]
  simp only [Vf,Option.bind_some]
  rw [show St.put (σP (.list (Ad st)) (B7 row) (Bo (p+1) (Aq row (st.drop (p+1)) (p+1))) x3 x4 x5 x6 x7 x8) 3 (.sh,.int (p:Nat))=σP (.list (Ad st)) (B7 row) (Bo (p+1) (Aq row (st.drop (p+1)) (p+1))) (some (.sh,.int (p:Nat))) x4 x5 x6 x7 x8 from rfl,e,Ax]
  exact ih
theorem Q4{m:Nat}(hm:0<m)(hl:m<2 ^ 39):Fn (.rng ((m:Int) - 1) (-1) (-1))=some ((List.range m).reverse.map fun i:Nat=>D.int i):=by
 have e:Bx ((m:Int) - 1) (-1) (-1)=(List.range m).reverse.map fun i:Nat=>(i:Int):=by
  delta Bx rsz
  rw [if_neg (by decide),if_pos (by lia),show (((m:Int) - 1 - -1 - 1) / (- -1)+1).toNat=m by rw [show (- -1:Int)=1 from rfl,Int.ediv_one,Int.sub_add_cancel,Int.sub_neg,Int.sub_add_cancel];rfl]
  apply List.ext_getElem (by simp)
  intro i h1 h2
  simp at h1 h2 ⊢
  lia
 simp only [Xs]
 rw [if_pos (by rw [show E3 ((m:Int) - 1)=true from decide_eq_true (K6 (b:=1) (Nat.lt_trans hl (by decide)) (by decide))];rfl),e,List.map_map];rfl
theorem c132(h:P.lookup 132=some G1.Aib){st:Au}{row:List Nat}(hok:Xb st)(h0:0<st.length)(hl:st.length≤1000)(Aim:row.length=4) :
  (Ev P (n+18)).call 132 [(.sh,.list (Ad st)),(.sh,B7 row)]=some (.int (Fj row st),some (.sh,B7 row)):=by
 obtain ⟨y3,y4,y5,y6,y7,y8,ef⟩:=Ti (P:=P) (n:=n) (st:=st) (row:=row) hok hl Aim st.length none none none none none none (Nat.le_refl _)
 rw [List.drop_length,show Aq row [] st.length=[] from rfl,show Bo st.length []=[] from rfl] at ef
 have hlen:(Ad st).length=st.length:=by delta Ad;rw [List.length_map]
 have hr:biD .range [.int ((st.length:Int) - 1),.int (-1),.int (-1)]=some (.rng ((st.length:Int) - 1) (-1) (-1)):=by
  simp only [biD,Ky];rw [if_pos (by simp [Dd (show ((st.length:Int) - 1).natAbs<2 ^ 60 from K6 (b:=1) (Nat.lt_of_le_of_lt hl (by decide)) (by decide))];rfl)]
 have e0:B6 G1.Aib [(.sh,.list (Ad st)),(.sh,B7 row)]=[some (.sh,.list (Ad st)),some (.sh,B7 row),none,none,none,none,none,none,none]:=rfl
 have it:items (Ev P (n+16)) (.bi .range [(.bin .sub (.bi .len [(.var 0)]) (.lit (.int 1))),(.neg (.lit (.int 1))),(.neg (.lit (.int 1)))]) (σP (.list (Ad st)) (B7 row) [] none none none none none none)=some ((List.range st.length).reverse.map fun i:Nat=>D.int i,σP (.list (Ad st)) (B7 row) [] none none none none none none):=by
  rw [Ao rfl];delta σP
  have rd:=Q4 h0 (Nat.lt_of_le_of_lt (by assumption) (by decide))
  simp [hlen,Pm,hr,rd,A8]
 have st2:(Ev P (n+17)).ex (.for (.v 3) (.bi .range [(.bin .sub (.bi .len [(.var 0)]) (.lit (.int 1))),(.neg (.lit (.int 1))),(.neg (.lit (.int 1)))]) bP) (σP (.list (Ad st)) (B7 row) [] none none none none none none)=some (.next,σP (.list (Ad st)) (B7 row) (Bo 0 (Aq row st 0)) y3 y4 y5 y6 y7 y8):=by
  rw [show n+17=n+16+1 from rfl,De,Jq,it]
  exact ef
 have hT:(Aq row st 0).length=st.length:=Fi ..
 obtain ⟨l0,ls,hls⟩ : ∃l0 ls,Aq row st 0=l0 :: ls:=List.exists_cons_of_ne_nil (fun q=>by rw [q] at hT;simp at hT;lia)
 have hl5:l0.length=5:=Fh row st 0 l0 (by rw [hls];simp)
 have hg:=Jh (Aq row st 0) 0 0
 rw [hls,List.getElem?_cons_zero] at hg
 have i1:Ar (.Ahe (Bo 0 (Aq row st 0))) (.int 0)=some (.list (l0.map .int)):=by simp only [Ar];rw [hls];exact hg
 have i2:Ar (.list (l0.map .int)) (.int 4)=some (.int (l0.getD 4 0)):=(Io (l:=l0) (k:=4) (by lia)).resolve_right (by decide)
 have hp:Fj row st=l0.getD 4 0:=by delta Fj;rw [hls];rfl
 have st3:(Ev P (n+17)).ex (.ret (.idx (.idx (.var 2) (.lit (.int 0))) (.lit (.int 4)))) (σP (.list (Ad st)) (B7 row) (Bo 0 (Aq row st 0)) y3 y4 y5 y6 y7 y8)=some (.ret (.int (Fj row st)),σP (.list (Ad st)) (B7 row) (Bo 0 (Aq row st 0)) y3 y4 y5 y6 y7 y8):=by
  rw [hp];delta σP
  exact Ac6 (Wu (Aac (Cm rfl Bf i1) rfl) Bf (Aad rfl) i2)
 have e:exs (Ev P (n+17)) G1.Aib.body (B6 G1.Aib [(.sh,.list (Ad st)),(.sh,B7 row)])=some (.ret (.int (Fj row st)),σP (.list (Ad st)) (B7 row) (Bo 0 (Aq row st 0)) y3 y4 y5 y6 y7 y8):=by
  rw [e0,show G1.Aib.body=[.asg 2 .Ahr,.for (.v 3) (.bi .range [(.bin .sub (.bi .len [(.var 0)]) (.lit (.int 1))),(.neg (.lit (.int 1))),(.neg (.lit (.int 1)))]) bP,.ret (.idx (.idx (.var 2) (.lit (.int 0))) (.lit (.int 4)))] from rfl]
  have st1:(Ev P (n+17)).ex (.asg 2 .Ahr) [some (.sh,.list (Ad st)),some (.sh,B7 row),none,none,none,none,none,none,none]=some (.next,σP (.list (Ad st)) (B7 row) [] none none none none none none):=by
   delta σP;simp
  exact Am st1 (Am st2 (Ad2 st3))
 exact C4 (P:=P) (n:=n+17) (a:=132) (f:=G1.Aib) h rfl e rfl
end
end Mine
end
section
set_option autoImplicit false
namespace Mine
open G1 (tokD)
noncomputable def Aem:S:=.asg 4 (.call (.glob (.fn 101)) [(.idx (.var 1) (.lit (.int 2)))] false)
noncomputable def s1_3:S:=.asg 5 (.comp (.idx (.glob tokD) (.var 37)) [(.v 37,(.var 4),[])])
noncomputable def s1_4:S:=.asg 6 (.comp (.bin .mod (.bin .fdiv (.idx (.var 1) (.lit (.int 0))) (.bin .pow (.lit (.int 3)) (.var 38))) (.lit (.int 3))) [(.v 38,(.bi .range [(.lit (.int 4))]),[])])
noncomputable def Z9:S:=.asg 7 (.ite (.cmp .eq (.bin .mod (.bin .fdiv (.idx (.var 1) (.lit (.int 1))) (.lit (.int 1024))) (.lit (.int 2))) (.lit (.int 0))) (.comp (.bin .mod (.bin .fdiv (.idx (.var 1) (.lit (.int 1))) (.bin .pow (.lit (.int 4)) (.var 39))) (.lit (.int 4))) [(.v 39,(.bi .range [(.lit (.int 5))]),[])]) (.var 6))
noncomputable def Ael:S:=.asg 8 (.call (.glob (.fn 113)) [(.comp (.var 40) [(.v 40,(.var 7),[(.cmp .lt (.var 40) (.lit (.int 3)))])])] false)
noncomputable def Aek:S:=.Ah0 [9,10] (.call (.glob (.fn 120)) [(.var 8),(.var 5)] false)
noncomputable def Aej:S:=.Ahs [11,12] [.Ahr,(.list [])]
noncomputable def Aei:S:=.for (.v 13) (.bin .add (.bin .add (.var 10) (.bi .list [(.bi .range [(.lit (.int 252)),(.lit (.int 260))])])) (.list [(.neg (.lit (.int 1))),(.bi .sum [(.var 1)]),(.neg (.bi .sum [(.var 1)]))])) [.ite (.or [(.cmp .isNot (.call (.glob (.fn 38)) [(.var 13)] false) (.cmp .lt (.var 13) (.lit (.int 256)))),(.cmp .isNot (.call (.glob (.fn 45)) [(.var 13)] false) (.cmp .gt (.var 13) (.lit (.int 255)))),(.cmp .isNot (.call (.glob (.fn 52)) [(.var 13)] false) (.cmp .eq (.var 13) (.lit (.int 0))))]) [.ret (.lit (.bool false))] [],.app 12 (.var 13),.ite (.call (.glob (.fn 52)) [(.var 13)] false) [.put 11 (.idx (.var 12) (.lit (.int 0))) (.slc (.var 12) (some (.lit (.int 1))) (some (.neg (.lit (.int 1)))) false),.asg 12 (.list [])] []]
noncomputable def Ac4:S:=.asg 14 (.comp (.meth .join (.lit (.str [])) [(.comp (.idx (.var 4) (.meth .index (.var 5) [(.var 42)])) [(.v 42,(.var 41),[])])]) [(.v 41,(.call (.glob (.fn 125)) [(.var 11),(.lit (.int 256))] false),[])])
noncomputable def Wm:S:=.Ahs [15,16,17] [(.bi .len [(.idx (.var 14) (.lit (.int 0)))]),(.list []),(.list [])]
noncomputable def Wl:S:=.for (.v 18) (.bi .range [(.lit (.int 16))]) [.asg 19 (.comp (.idx (.var 6) (.var 43)) [(.v 43,(.bi .range [(.lit (.int 4))]),[(.cmp .eq (.bin .mod (.bin .fdiv (.var 18) (.bin .pow (.lit (.int 2)) (.var 43))) (.lit (.int 2))) (.lit (.int 1)))])]),.asg 12 (.meth .join (.lit (.str [])) [(.comp (.idx (.var 4) (.var 44)) [(.v 44,(.var 19),[])])]),.asg 20 (.bin .mul (.lit (.int 2)) (.bin .sub (.bi .len [(.var 12)]) (.var 15))),.asg 21 (.comp (.ite (.bin .mod (.var 18) (.lit (.int 3))) (.tup [(.var 45),(.var 12)]) (.tup [(.var 12),(.var 45)])) [(.v 45,(.var 14),[])]),.asg 22 (.comp (.call (.glob (.fn 28)) [(.var 46),(.var 47),(.bin .add (.var 20) (.bin .mod (.bin .fdiv (.idx (.var 1) (.lit (.int 3))) (.lit (.int 125))) (.lit (.int 4))))] false) [(.t [46,47],(.var 21),[])]),.ext 17 (.var 22),.app 16 (.ite (.cmp .isIn (.var 20) (.var 22)) (.bin .sub (.lit (.int 1)) (.bin .mul (.bin .mod (.bi .len [(.var 12)]) (.lit (.int 2))) (.lit (.int 2)))) (.lit (.int 0))),.asg 23 (.bi .sum [(.comp (.idx (.var 16) (.var 48)) [(.v 48,(.bi .range [(.bin .add (.var 18) (.lit (.int 1)))]),[(.cmp .eq (.bin .band (.var 48) (.var 18)) (.var 48))])])]),.ite (.or [(.cmp .lt (.bi .min [(.var 22)]) (.var 20)),(.cmp .ne (.var 23) (.ite (.cmp .eq (.call (.glob (.fn 113)) [(.var 19)] false) (.var 8)) (.bin .sub (.lit (.int 1)) (.bin .mul (.bin .mod (.var 15) (.lit (.int 2))) (.lit (.int 2)))) (.lit (.int 0))))]) [.ret (.lit (.bool false))] []]
noncomputable def Wk:S:=.asg 24 (.lit (.int 13))
noncomputable def Wj:S:=.for (.v 25) (.var 14) [.app 17 (.call (.glob (.fn 28)) [(.var 12),(.var 25),(.bin .sub (.var 24) (.lit (.int 1)))] false),.asg 24 (.bi .min [(.var 24),(.idx (.var 17) (.neg (.lit (.int 1))))])]
noncomputable def Wi:S:=.ite (.or [(.cmp .ne (.var 24) (.call (.glob (.fn 132)) [(.var 9),(.var 6)] false)),(.cmp .ne (.var 5) (.comp (.bin .add (.lit (.int 7)) (.meth .index (.lit (.str [40,41,91,93,58,44,59,43,45,42,47,124,38,60,62,61,46,37,123,125])) [(.var 49)])) [(.v 49,(.var 4),[])]))]) [.ret (.lit (.bool false))] []
noncomputable def Wh:S:=.asg 32 (.bin .mod (.bin .fdiv (.idx (.var 1) (.lit (.int 3))) (.lit (.int 25))) (.bi .len [(.var 14)]))
noncomputable def Wg:S:=.asg 33 (.bin .mul (.lit (.int 2)) (.bin .sub (.bi .len [(.idx (.var 31) (.lit (.int 0)))]) (.bi .len [(.idx (.var 31) (.bin .add (.lit (.int 1)) (.var 32)))])))
noncomputable def Wf:S:=.app 17 (.call (.glob (.fn 28)) [(.idx (.var 31) (.bin .add (.lit (.int 1)) (.var 32))),(.idx (.var 31) (.lit (.int 0))),(.var 33)] false)
noncomputable def We:S:=.ite (.cmp .ne (.cmp .eq (.idx (.var 17) (.neg (.lit (.int 1)))) (.var 33)) (.cmp .eq (.idx (.var 22) (.var 32)) (.var 20))) [.ret (.lit (.bool false))] []
noncomputable def Ac3:S:=.asg 34 (.comp (.call (.var 26) [(.var 51)] false) [(.v 51,(.var 4),[])])
noncomputable def Wd:S:=.for (.t [35,36]) (.comp (.tup [(.var 52),(.var 53)]) [(.v 52,(.var 34),[]),(.v 53,(.var 34),[])]) [.asg 20 (.ite (.cmp .ne (.idx (.var 35) (.lit (.int 0))) (.idx (.var 36) (.lit (.int 0)))) (.bin .mul (.lit (.int 2)) (.bi .max [(.bi .len [(.var 35)]),(.bi .len [(.var 36)])])) (.ite (.cmp .eq (.bi .len [(.var 35)]) (.bi .len [(.var 36)])) (.lit (.int 3)) (.lit (.int 6)))),.asg 20 (.ite (.cmp .eq (.var 35) (.var 36)) (.bi .len [(.comp (.var 54) [(.v 54,(.var 35),[(.cmp .isIn (.var 54) (.lit (.str [97,109,112,108,116,103])))])])]) (.var 20)),.ext 17 (.list [(.call (.glob (.fn 28)) [(.var 35),(.meth .upper (.var 36) []),(.var 20)] false),(.call (.glob (.fn 28)) [(.meth .upper (.var 35) []),(.var 36),(.var 20)] false)]),.ite (.cmp .ne (.slc (.var 17) (some (.neg (.lit (.int 2)))) none false) (.list [(.var 20),(.var 20)])) [.ret (.lit (.bool false))] []]
noncomputable def Wc:S:=.ret (.cmp .eq (.comp (.var 55) [(.v 55,(.bin .add (.var 17) (.var 5)),[(.or [(.bi .isBool [(.var 55)]),(.not (.bi .isInt [(.var 55)]))])])]) (.list []))
end Mine
end
section
set_option autoImplicit false
set_option maxRecDepth 100000
namespace Mine
noncomputable def TAB:List (List Int×Au×List (List Nat)):=[
 ⟨[0,1,2,3],[[]],[[]]⟩,
 ⟨[0,1,3,2],[[(2,1)],[]],[[2]]⟩,
 ⟨[0,2,1,3],[[(1,1)],[]],[[1]]⟩,
 ⟨[0,2,3,1],[[(2,1)],[(1,2)],[]],[[1,2]]⟩,
 ⟨[0,3,1,2],[[(1,1)],[(2,2)],[]],[[2,1]]⟩,
 ⟨[0,3,2,1],[[(1,1),(2,2)],[(2,3)],[(1,4)],[(1,5)],[(2,5)],[]],[[1,2,1],[2,1,2]]⟩,
 ⟨[1,0,2,3],[[(0,1)],[]],[[0]]⟩,
 ⟨[1,0,3,2],[[(0,1),(2,2)],[(2,3)],[(0,3)],[]],[[2,0],[0,2]]⟩,
 ⟨[1,2,0,3],[[(1,1)],[(0,2)],[]],[[0,1]]⟩,
 ⟨[1,2,3,0],[[(2,1)],[(1,2)],[(0,3)],[]],[[0,1,2]]⟩,
 ⟨[1,3,0,2],[[(1,1)],[(0,2),(2,3)],[(2,4)],[(0,4)],[]],[[2,0,1],[0,2,1]]⟩,
 ⟨[1,3,2,0],[[(1,1),(2,2)],[(2,3)],[(1,4)],[(1,5)],[(0,6),(2,5)],[(0,7)],[(2,7)],[]],[[0,1,2,1],[2,0,1,2],[0,2,1,2]]⟩,
 ⟨[2,0,1,3],[[(0,1)],[(1,2)],[]],[[1,0]]⟩,
 ⟨[2,0,3,1],[[(0,1),(2,2)],[(2,3)],[(0,3)],[(1,4)],[]],[[1,2,0],[1,0,2]]⟩,
 ⟨[2,1,0,3],[[(0,1),(1,2)],[(1,3)],[(0,4)],[(0,5)],[(1,5)],[]],[[0,1,0],[1,0,1]]⟩,
 ⟨[2,1,3,0],[[(0,1),(2,2)],[(2,3)],[(0,3),(1,4)],[(1,5)],[(0,6)],[(0,7)],[(1,7)],[]],[[0,1,2,0],[0,1,0,2],[1,0,1,2]]⟩,
 ⟨[2,3,0,1],[[(1,1)],[(0,2),(2,3)],[(2,4)],[(0,4)],[(1,5)],[]],[[1,2,0,1],[1,0,2,1]]⟩,
 ⟨[2,3,1,0],[[(1,1),(2,2)],[(0,3),(2,4)],[(1,5)],[(2,6)],[(0,6),(1,7)],[(0,8),(2,7)],[(1,9)],[(0,10)],[(2,10)],[(0,11)],[(1,11)],[]],[[0,1,2,0,1],[0,1,0,2,1],[1,0,1,2,1],[1,2,0,1,2],[1,0,2,1,2]]⟩,
 ⟨[3,0,1,2],[[(0,1)],[(1,2)],[(2,3)],[]],[[2,1,0]]⟩,
 ⟨[3,0,2,1],[[(0,1),(2,2)],[(1,3),(2,4)],[(0,4)],[(2,5)],[(1,6)],[(1,7)],[(2,7)],[]],[[1,2,1,0],[2,1,2,0],[2,1,0,2]]⟩,
 ⟨[3,1,0,2],[[(0,1),(1,2)],[(1,3)],[(0,4)],[(0,5),(2,6)],[(1,5)],[(2,7)],[(0,7)],[]],[[2,0,1,0],[0,2,1,0],[2,1,0,1]]⟩,
 ⟨[3,1,2,0],[[(0,1),(2,2)],[(1,3),(2,4)],[(0,4),(1,5)],[(2,6)],[(1,7)],[(0,8)],[(1,9)],[(0,10),(2,9)],[(1,10)],[(0,11)],[(2,11)],[]],[[0,1,2,1,0],[2,0,1,2,0],[0,2,1,2,0],[2,0,1,0,2],[0,2,1,0,2],[2,1,0,1,2]]⟩,
 ⟨[3,2,0,1],[[(0,1),(1,2)],[(1,3)],[(0,4),(2,5)],[(0,6),(2,7)],[(1,6),(2,8)],[(0,8)],[(2,9)],[(0,9)],[(1,10)],[(1,11)],[(2,11)],[]],[[1,2,0,1,0],[1,0,2,1,0],[1,2,1,0,1],[2,1,2,0,1],[2,1,0,2,1]]⟩,
 ⟨[3,2,1,0],[[(0,1),(1,2),(2,3)],[(1,4),(2,5)],[(0,6),(2,7)],[(0,5),(1,8)],[(0,9),(2,10)],[(1,11)],[(1,9),(2,12)],[(0,12),(1,13)],[(0,14),(2,13)],[(2,15)],[(0,15),(1,16)],[(0,17),(2,16)],[(1,18)],[(0,19)],[(1,17),(2,19)],[(1,20)],[(0,21)],[(2,21)],[(0,22),(2,20)],[(1,22)],[(0,23)],[(1,23)],[(2,23)],[]],[[0,1,2,0,1,0],[0,1,0,2,1,0],[1,0,1,2,1,0],[1,2,0,1,2,0],[1,0,2,1,2,0],[0,1,2,1,0,1],[2,0,1,2,0,1],[0,2,1,2,0,1],[2,0,1,0,2,1],[0,2,1,0,2,1],[2,1,0,1,2,1],[1,2,0,1,0,2],[1,0,2,1,0,2],[1,2,1,0,1,2],[2,1,2,0,1,2],[2,1,0,2,1,2]]⟩]
noncomputable def szF(R:List (List Nat)):Nat:=(R.headD []).length
noncomputable def O0(st:Au):Nat:=(st.map fun ws=>2 * ws.length+2).sum
noncomputable def Adc(st:Au):Bool:=(List.range st.length).all fun p=>decide ((st.getD p []).length≤10) && (st.getD p []).all fun q=>decide (p<q.2) && decide (q.2<st.length)
theorem Xa{st:Au}(h:Adc st=true):Xb st:=by
 intro p ws hp
 have hl:p<st.length:=(List.getElem?_eq_some_iff.mp hp).1
 have h1:=List.all_eq_true.mp h p (List.mem_range.mpr hl)
 rw [show st.getD p []=ws by simp [List.getD,hp]] at h1
 simp only [Bool.and_eq_true,decide_eq_true_eq,List.all_eq_true] at h1
 exact ⟨h1.1,fun q hq=>h1.2 q hq⟩
noncomputable def tabB(e:List Int×Au×List (List Nat)):Bool:=
 decide (Hi e.1=e.2.1) && decide (He e.2.1 8 0=some e.2.2) && decide (e.2.2≠[]) && decide (e.2.2.length≤16) && (e.2.2.all fun r=>decide (r.length=szF e.2.2) && r.all fun g=>decide (g<3)) && decide (szF e.2.2≤6) && Adc e.2.1 && decide (O0 e.2.1≤400) && decide (e.2.1.length≤24) && decide (e.2.1≠[]) && decide (e.1.length=4)
theorem Zy:TAB.all tabB=true:=by decide +kernel
theorem T6:∀g∈Hh,∃e∈TAB,e.1=g:=by decide +kernel
structure Ai0(goal:List Int)(st:Au)(R:List (List Nat)):Prop where
 gram:Hi goal=st
 rows:He st 8 0=some R
 ne:R≠[]
 len:R.length≤16
 row:∀r∈R,r.length=szF R∧∀g∈r,g<3
 sz:szF R≤6
 ok:Xb st
 stl:O0 st≤400
 st24:st.length≤24
 st0:st≠[]
 goal4:goal.length=4
theorem Nl{e:List Int×Au×List (List Nat)}(h:e∈TAB):Ai0 e.1 e.2.1 e.2.2:=by
 have h1:=List.all_eq_true.mp Zy e h
 simp only [tabB,Bool.and_eq_true,decide_eq_true_eq,List.all_eq_true] at h1
 obtain ⟨⟨⟨⟨⟨⟨⟨⟨⟨⟨a,b⟩,c⟩,d⟩,f⟩,g⟩,i⟩,j⟩,k⟩,l⟩,m⟩:=h1
 exact ⟨a,b,c,d,f,g,Xa i,j,k,l,m⟩
theorem Oz:∀o∈Hh,∀g∈[0,1,2],Ft o g∈Hh:=by decide +kernel
theorem Ie:∀(gs:List Nat) (o:List Int),o∈Hh→(∀g∈gs,g<3)→gs.foldl Ft o∈Hh
 |[],o,h,_=>h
 |g :: gs,o,h,hg=>Ie gs _ (Oz o h g (by have:=hg g List.mem_cons_self;simp;lia)) fun x hx=>hg x (List.mem_cons_of_mem _ hx)
theorem Pp{gs:List Nat}(hg:∀g∈gs,g<3):Es gs∈Hh:=Ie gs _ (by decide) hg
theorem Hr(num:Nat→Int):∀(st:Au) (k:Nat),(C6 num k st).length=O0 st
 |[],_=>rfl
 |ws :: st,k=>by
  have h2:∀ws:List (Nat×Nat),(Fu num ws).length=2 * ws.length:=fun ws=>by
   induction ws with
   |nil=>rfl
   |cons a ws ih=>rw [Fu,List.flatMap_cons,List.length_append,← Fu,ih];simp;lia
  rw [Aew,List.length_cons,List.length_append,List.length_cons,Hr num st (k+1),h2]
  unfold O0
  rw [List.map_cons,List.sum_cons];exact Eq.symm (Nat.add_right_comm (2 * ws.length) 2 (List.map (fun ws=>2 * ws.length+2) st).sum)
noncomputable def Acz:List Nat→List (List Nat)
 |[]=>[[]]
 |c :: r=>(Acz r).flatMap fun s=>[s,c :: s]
noncomputable def cntF(R:List (List Nat))(c:List Nat):Int:=((Acz c).map fun s=>if Jf R s then Pl s.length else 0).sum
theorem Vb(R:List (List Nat))(a b c d:Nat){m:Nat}(hm:m<16):Ek R [a,b,c,d] m=cntF R (Bu [a,b,c,d] m):=by
 match m,hm with
 |0,_=>rfl
 |1,_=>rfl
 |2,_=>rfl
 |3,_=>rfl
 |4,_=>rfl
 |5,_=>rfl
 |6,_=>rfl
 |7,_=>rfl
 |8,_=>rfl
 |9,_=>rfl
 |10,_=>rfl
 |11,_=>rfl
 |12,_=>rfl
 |13,_=>rfl
 |14,_=>rfl
 |15,_=>rfl
 |_+16,h=>exact absurd h (by exact of_decide_eq_false rfl)
noncomputable def lists:Nat→List (List Nat)
 |0=>[[]]
 |n+1=>(lists n).flatMap fun s=>[0 :: s,1 :: s,2 :: s]
noncomputable def ch4:List (List Nat):=lists 0++lists 1++lists 2++lists 3++lists 4
theorem Jc:∀(l:List Nat),(∀g∈l,g<3)→l∈lists l.length
 |[],_=>by simp [lists]
 |g :: l,h=>by
  rw [List.length_cons,lists]
  refine List.mem_flatMap.mpr ⟨l,Jc l fun x hx=>h x (List.mem_cons_of_mem _ hx),?_⟩
  match g,h g List.mem_cons_self with
  |0,_=>simp
  |1,_=>simp
  |2,_=>simp
theorem Ab8{l:List Nat}(h:∀g∈l,g<3)(hl:l.length≤4):l∈ch4:=by
 have:=Jc l h
 unfold ch4
 simp only [List.mem_append]
 rcases (show l.length=0∨l.length=1∨l.length=2∨l.length=3∨l.length=4 by lia) with q | q | q | q | q <;> rw [q] at this <;> simp [this]
noncomputable def cntB(e:List Int×Au×List (List Nat)):Bool:=ch4.all fun c=>decide (cntF e.2.2 c=if Es c=e.1 then Pl (szF e.2.2) else 0)
theorem Ab5:TAB.all cntB=true:=by decide +kernel
theorem Agc{e:List Int×Au×List (List Nat)}(h:e∈TAB){row:List Nat}(hr:row.length=4)(hg:∀g∈row,g<3):∀m<16,Ek e.2.2 row m=if Es (Bu row m)=e.1 then Pl (szF e.2.2) else 0:=by
 intro m hm
 have h1:=List.all_eq_true.mp (List.all_eq_true.mp Ab5 e h) _ (Ab8 (Lv hg m) (J0 row m))
 rw [decide_eq_true_eq] at h1
 rw [← h1]
 match row,hr with
 |[a,b,c,d],_=>exact Vb _ a b c d hm
noncomputable def Tf{α:Type}(i:Int)(f:Int→α):α:=match i with
 |.ofNat 0=>f 0
 |.ofNat (n+1)=>f (Int.ofNat (n+1))
 |.negSucc n=>f (.negSucc n)
theorem X9{α:Type}(i:Int)(f:Int→α):Tf i f=f i:=by
 unfold Tf;split <;> rfl
noncomputable def M0{α:Type}(row:List Nat)(pr:Nat→List Int)(ws:List (Nat×Nat)):Nat→Nat→List Int→(List Int→α)→α
 |0,_,acc,K=>K acc
 |f+1,k,acc,K=>Tf (Sz (Dn acc k ws++Eh row pr k ws)) fun v=>M0 row pr ws f (k+1) (acc++[v]) K
theorem liV{α:Type}{row:List Nat}{pr:Nat→List Int}{ws:List (Nat×Nat)}{f k:Nat}{acc:List Int}{K:List Int→α}:M0 row pr ws (f+1) k acc K=Tf (Sz (Dn acc k ws++Eh row pr k ws)) fun v=>M0 row pr ws f (k+1) (acc++[v]) K:=rfl
theorem Pt{α:Type}(row:List Nat)(pr:Nat→List Int)(ws:List (Nat×Nat))(K:List Int→α):∀(f k:Nat),M0 row pr ws f k (Ak row pr ws k) K=K (Ak row pr ws (k+f))
 |0,k=>rfl
 |f+1,k=>by
  rw [liV,X9]
  have:=Pt row pr ws K f (k+1)
  rw [liF] at this
  rw [this,show k+1+f=k+(f+1) by exact Nat.succ_add_eq_add_succ k f]
noncomputable def Vy{α:Type}(row:List Nat):Au→Nat→(List (List Int)→α)→α
 |[],_,K=>K []
 |ws :: st,p,K=>Vy row st (p+1) fun T=>M0 row (fun l=>T.getD (l - (p+1)) []) ws 5 0 [] fun l=>K (l :: T)
theorem taV{α:Type}{row:List Nat}{ws:List (Nat×Nat)}{st:Au}{p:Nat}{K:List (List Int)→α}:Vy row (ws :: st) p K=Vy row st (p+1) fun T=>M0 row (fun l=>T.getD (l - (p+1)) []) ws 5 0 [] fun l=>K (l :: T):=rfl
theorem Sl{α:Type}(row:List Nat):∀(st:Au) (p:Nat) (K:List (List Int)→α),Vy row st p K=K (Aq row st p)
 |[],_,_=>rfl
 |ws :: st,p,K=>by
  rw [taV,Sl row st]
  exact Pt row _ ws _ 5 0
noncomputable def W7(row:List Nat)(st:Au):Int:=Vy row st 0 fun T=>(T.headD []).getD 4 0
theorem Un(row:List Nat)(st:Au):W7 row st=Fj row st:=Sl row st 0 _
noncomputable def Ex(a b:Nat)(e:List Int×Au×List (List Nat)):Bool:=(lists 2).all fun r=>(e.2.2.all fun w=>decide (lv (a :: b :: r) w 100≤100)) && decide (e.2.2.foldl (fun b' w=>min b' (lv (a :: b :: r) w 100)) 13=W7 (a :: b :: r) e.2.1)
theorem W6:TAB.all (Ex 0 0)=true:=by decide +kernel
theorem W5:TAB.all (Ex 0 1)=true:=by decide +kernel
theorem W4:TAB.all (Ex 0 2)=true:=by decide +kernel
theorem W3:TAB.all (Ex 1 0)=true:=by decide +kernel
theorem W2:TAB.all (Ex 1 1)=true:=by decide +kernel
theorem W1:TAB.all (Ex 1 2)=true:=by decide +kernel
theorem W0:TAB.all (Ex 2 0)=true:=by decide +kernel
theorem Wz:TAB.all (Ex 2 1)=true:=by decide +kernel
theorem Wy:TAB.all (Ex 2 2)=true:=by decide +kernel
theorem Um{a b:Nat}(ha:a<3)(hb:b<3):TAB.all (Ex a b)=true:=by
 match a,ha,b,hb with
 |0,_,0,_=>exact W6
 |0,_,1,_=>exact W5
 |0,_,2,_=>exact W4
 |1,_,0,_=>exact W3
 |1,_,1,_=>exact W2
 |1,_,2,_=>exact W1
 |2,_,0,_=>exact W0
 |2,_,1,_=>exact Wz
 |2,_,2,_=>exact Wy
theorem Li{f g:List Nat→Int}:∀ {R:List (List Nat)} {b:Int},(∀r∈R,f r=g r)→R.foldl (fun b w=>min b (f w)) b=R.foldl (fun b w=>min b (g w)) b
 |[],b,_=>rfl
 |r :: R,b,h=>by
  rw [List.foldl_cons,List.foldl_cons,h r List.mem_cons_self]
  exact Li fun x hx=>h x (List.mem_cons_of_mem _ hx)
theorem Wx{e:List Int×Au×List (List Nat)}(h:e∈TAB){row:List Nat}(hr:row.length=4)(hg:∀g∈row,g<3):e.2.2.foldl (fun b w=>min b (dm row w)) 13=Fj row e.2.1:=by
 match row,hr with
 |[a,b,c,d],_=>
 have hm:=Jc [c,d] fun x hx=>hg x (by simp at hx ⊢;rcases hx with q | q <;> simp [q])
 have h1:=List.all_eq_true.mp (List.all_eq_true.mp (Um (hg a (by simp)) (hg b (by simp))) e h) _ hm
 simp only [Bool.and_eq_true,decide_eq_true_eq,List.all_eq_true] at h1
 have T:=Nl h
 rw [← Un,← h1.2]
 refine Li fun r hr'=>?_
 have h2:=(T.row r hr').1
 have h3:=T.sz
 rcases Ke (a:=[a,b,c,d]) (b:=r) (m:=100) (by simp) (by lia) with q | ⟨q,_⟩
 ·exact q.symm
 ·have:=h1.1 r hr';lia
end Mine
end
section
set_option autoImplicit false
namespace Mine
section
variable {P:List (Nat×Ahc)} {n:Nat} {F:Ahl} {σ:St}
noncomputable def Cr(l:List Nat):List D:=l.map fun g:Nat=>D.int g
noncomputable def Tq(c i b k m:Nat):E:=.comp (.bin .mod (.bin .fdiv (.idx (.var c) (.lit (.int (i:Nat)))) (.bin .pow (.lit (.int (b:Nat))) (.var k))) (.lit (.int (b:Nat)))) [(.v k,(.bi .range [(.lit (.int (m:Nat)))]),[])]
theorem M9{c i b k m:Nat}{oc:Own}{cs:D}{v:Int}(gc:σ.get c=some (oc,cs))(hi:Ar cs (.int (i:Nat))=some (.int v))(h0:0≤v)(h1:v<2 ^ 40)(hb:0<b)(hpow:∀j<m,A3 .pow (.int (b:Nat)) (.int (j:Nat))=some (.int ((b ^ j:Nat):Int))∧0<b ^ j∧b ^ j<2 ^ 40)
  (hm:m<100) (gk:σ.get k=none) (lk:k<σ.length) (ck:c≠k) :
  ∃row:List Nat,row.length=m∧(∀g∈row,g<b)∧Av (Ev P (n+8)) (Tq c i b k m) σ=some (.own,.list (Cr row),σ):=by
 have it:items (Ev P (n+8)) (.bi .range [(.lit (.int (m:Nat)))]) σ=some ((List.range' 0 m).map fun i:Nat=>D.int i,σ):=by
  rw [Ao rfl]
  have h1:=Cs (k:=m) (Nat.le_trans (by assumption) (by decide))
  have hb:biD .range [.int (m:Nat)]=some (.rng 0 (m:Nat) 1):=by
   simp only [biD,Pb];rw [if_pos (B8 (Nat.lt_of_lt_of_le (by assumption) (by decide)))]
  simp [hb];exact h1
 have key:=C9 (F:=Ev P (n+8)) (σ:=σ) (σ₁:=σ) (i:=k) (elt:=.bin .mod (.bin .fdiv (.idx (.var c) (.lit (.int (i:Nat)))) (.bin .pow (.lit (.int (b:Nat))) (.var k))) (.lit (.int (b:Nat))))
  (g:=fun d=>mI d .none fun j=>.int (((v.fdiv ((b ^ j.toNat:Nat):Int)).fmod (b:Nat)).toNat:Nat)) gk lk it (fun d hd τ hn hbd=>?_) (by rw [List.length_map,List.length_range'];delta line;lia)
 ·refine ⟨(List.range' 0 m).map fun j=>((v.fdiv ((b ^ j:Nat):Int)).fmod (b:Nat)).toNat,by simp,fun g hg=>?_,?_⟩
  ·obtain ⟨j,_,rfl⟩:=List.mem_map.mp hg
   have a:=Int.fmod_nonneg_of_pos (v.fdiv ((b ^ j:Nat):Int)) (show (0:Int)<(b:Nat) by exact Int.natCast_pos.mpr hb)
   have b:=Int.fmod_lt_of_pos (v.fdiv ((b ^ j:Nat):Int)) (show (0:Int)<(b:Nat) by exact Int.natCast_pos.mpr hb)
   exact (Int.toNat_lt a).mpr b
  ·delta Tq Cr
   rw [key,List.map_map,List.map_map];rfl
 ·obtain ⟨j,hj,rfl⟩:=List.mem_map.mp hd
  have hj4:j<m:=by simpa using hj
  obtain ⟨hp,p0,p1⟩:=hpow j hj4
  obtain ⟨r,hr,e1,e2,e3⟩:=Lo (c:=v) (m:=b ^ j) (k:=b) h0 h1 p0 p1 hb
  have tc:τ.get c=some (oc,cs):=(hn.get c (by simpa using ck)).trans gc
  rw [U0,Int.toNat_natCast,e1]
  generalize b ^ j=q at *
  simp [tc,hbd,hi,hp,e2,e3,A8,again]
theorem Aar(x y z:Nat):num3 (Aj x) (Aj y) (Aj z)=N3 x y z:=by
 funext g;match g with | 0=>rfl | 1=>rfl | _+2=>rfl
theorem Aag:∀j<4,A3 .pow (.int ((3:Nat):Int)) (.int (j:Nat))=some (.int ((3 ^ j:Nat):Int))∧0<3 ^ j∧3 ^ j<2 ^ 40:=by
 intro j hj
 match j,hj with
 |0,_=>exact ⟨rfl,by decide,by decide⟩
 |1,_=>exact ⟨rfl,by decide,by decide⟩
 |2,_=>exact ⟨rfl,by decide,by decide⟩
 |3,_=>exact ⟨rfl,by decide,by decide⟩
theorem Aaf:∀j<5,A3 .pow (.int ((4:Nat):Int)) (.int (j:Nat))=some (.int ((4 ^ j:Nat):Int))∧0<4 ^ j∧4 ^ j<2 ^ 40:=by
 intro j hj
 match j,hj with
 |0,_=>exact ⟨rfl,by decide,by decide⟩
 |1,_=>exact ⟨rfl,by decide,by decide⟩
 |2,_=>exact ⟨rfl,by decide,by decide⟩
 |3,_=>exact ⟨rfl,by decide,by decide⟩
 |4,_=>exact ⟨rfl,by decide,by decide⟩
theorem Aba{k w:Nat}{ow:Own}{l:List Nat}{e:E}{τ:St}(hz:l.length≤1000)(it:items (Ev P (n+6)) e σ=some (Cr l,τ))(gk:τ.get k=none)(lk:k<τ.length) :
  Av (Ev P (n+6)) (.comp (.var k) [(.v k,e,[(.cmp .lt (.var k) (.lit (.int 3)))])]) σ=some (.own,.list (Cr (l.filter fun g=>decide (g<3))),τ):=by
 have key:=Gv (F:=Ev P (n+6)) (σ:=τ) (σ₁:=σ) (i:=k) (elt:=.var k) (cs:=[(.cmp .lt (.var k) (.lit (.int 3)))]) (p:=fun d=>mI d false fun j=>decide (j<3)) (g:=fun d=>d) gk lk it (fun d hd υ hn hb=>?_) (fun d hd ζ υ hn hb=>?_) (by delta Cr;rw [List.length_map];exact Nat.le_trans (by assumption) (by decide))
 ·rw [key]
  delta Cr
  rw [List.filter_map,List.map_id']
  congr 5
  apply List.filter_congr
  intro g _
  simp only [Function.comp,U0,decide_eq_decide]
  lia
 ·obtain ⟨j,hj,rfl⟩:=List.mem_map.mp hd
  rw [show n+6=n+5+1 from rfl]
  by_cases q:((j:Nat):Int)<3
  ·simp [hb,iE3,q]
  ·simp [hb,iE3,q]
 ·simp [hb]
theorem Kf{k:Nat}{o:Own}{l:List D}(ho:o≠.bor)(h:σ.get k=some (o,.list l))(lk:k<σ.length):items (Ev P (n+1)) (.var k) σ=some (l,σ.put k (.sh,.list l)):=by
 rw [Ao rfl,Cu,C5,h,I7 h ho lk];rfl
end
section
variable {n:Nat} {σ:St}
theorem head2{c0 c1 c2 c3:Int}(hl:σ.length=56)(g1:σ.get 1=some (.own,.list [.int c0,.int c1,.int c2,.int c3]))(h:0<c2∧c2<2 ^ 40) :
  Ex3 fun x y z=>And3 ((∀w∈[x,y,z],w∈A5)) ([x,y,z].Nodup) ((Ev G1.P (n+100)).ex Aem σ=some (.next,σ.put 4 (.sh,.list (B9 [x,y,z])))):=by
 obtain ⟨x,y,z,hA,hn,e⟩:=Ua (P:=G1.P) (n:=n+85) rfl (c:=c2) (by lia) h.2
 refine ⟨x,y,z,hA,hn,?_⟩
 have i2:Ar (.list [.int c0,.int c1,.int c2,.int c3]) (.int 2)=some (.int c2):=rfl
 delta Aem
 exact Do (o_v (Fg (Nx (Cm g1 Bf i2)) e) rfl)
theorem head5{c0 c1 c2 c3:Int}{row:List Nat}(hl:σ.length=56)(g1:σ.get 1=some (.own,.list [.int c0,.int c1,.int c2,.int c3]))(h:0<c1∧c1<2 ^ 40)(g6:σ.get 6=some (.own,.list (Cr row)))(hr:∀g∈row,g<3)(hr4:row.length=4)(g39:σ.get 39=none) :
  Ex3 fun lead o o6=>And5 (o≠Own.bor) (o6≠Own.bor) ((∀g∈lead,g<4)) (lead.length≤5) ((Ev G1.P (n+100)).ex Z9 σ=some (.next,(σ.put 6 (o6,.list (Cr row))).put 7 (o,.list (Cr lead)))):=by
 have i1:Ar (.list [.int c0,.int c1,.int c2,.int c3]) (.int 1)=some (.int c1):=rfl
 obtain ⟨i,hi,e1,e2,e3⟩:=Lo (c:=c1) (m:=1024) (k:=2) (by lia) h.2 (by decide) (by decide) (by decide)
 have e2':A3 .fdiv (.int c1) (.int 1024)=some (.int (c1.fdiv 1024)):=e2
 have e3':A3 .mod (.int (c1.fdiv 1024)) (.int 2)=some (.int i):=e3
 obtain ⟨lead,hll,hlg,hd⟩:=M9 (P:=G1.P) (n:=n+89) (σ:=σ) (c:=1) (i:=1) (b:=4) (k:=39) (m:=5) g1 i1 (by lia) h.2 (by decide) Aaf (by decide) g39 (by rw [hl];decide) (by decide)
 have hd':Av (Ev G1.P (n+97)) (.comp (.bin .mod (.bin .fdiv (.idx (.var 1) (.lit (.int 1))) (.bin .pow (.lit (.int 4)) (.var 39))) (.lit (.int 4))) [(.v 39,(.bi .range [(.lit (.int 5))]),[])]) σ=some (.own,.list (Cr lead),σ):=hd
 match i,hi with
 |0,_=>
  refine ⟨lead,.own,.own,by decide,by decide,hlg,by exact Nat.le_of_eq hll,?_⟩
  have:σ.put 6 (.own,.list (Cr row))=σ:=K1 g6 (by rw [hl];decide)
  rw [this]
  delta Z9
  simp only [De,Hd,Dp,Mu,D5,Ei,Cu,D9,E0,Hb,A8,g1,Option.map_some,Option.bind_some,Dg,again,i1,e2',e3',iE1,Bool.false_eq_true,if_false,Ir,C7]
  rw [if_pos (by decide),hd'];rfl
 |1,_=>
  refine ⟨row,.sh,.sh,by decide,by decide,fun g hg=>by have:=hr g hg;exact Nat.lt_succ_of_lt (hr g hg),by lia,?_⟩
  delta Z9
  simp only [De,Hd,Dp,Mu,D5,Ei,Cu,D9,E0,Hb,A8,g1,Option.map_some,Option.bind_some,Dg,again,i1,e2',e3',iE1,Bool.false_eq_true,if_false,Ir,C7]
  rw [if_neg (by decide)]
  simp [g6]
theorem head6{lead:List Nat}{o:Own}(ho:o≠.bor)(hl:σ.length=56)(g7:σ.get 7=some (o,.list (Cr lead)))(hll:lead.length≤5)(g40:σ.get 40=none) :
  ∃goal∈Hh,(Ev G1.P (n+100)).ex Ael σ=some (.next,(σ.put 7 (.sh,.list (Cr lead))).put 8 (.sh,.list (goal.map .int))):=by
 have hg:∀g∈lead.filter (fun g=>decide (g<3)),g<3:=fun g hg=>by simpa using (List.mem_filter.mp hg).2
 refine ⟨Es (lead.filter fun g=>decide (g<3)),Pp hg,?_⟩
 have it:=Kf (P:=G1.P) (n:=n+94) (σ:=σ) ho g7 (by rw [hl];decide)
 have f:=Aba (P:=G1.P) (n:=n+89) (σ:=σ) (k:=40) (w:=0) (ow:=.own) (l:=lead) (e:=.var 7) (Nat.le_trans (by assumption) (by decide)) it (by rw [Ag6 _ _ _ _ (by rw [hl];decide),if_neg (by decide)];exact g40) (by rw [Ag7,hl];decide)
 have c:=c113 (P:=G1.P) (n:=n+85) rfl rfl hg
 delta Ael
 simp only [De,Hd,Dp,Aez,Cu,Nh,Ng,Option.bind_some,Aa7,Tx,Ff]
 rw [f]
 simp only [Cp,Option.map_some,Option.bind_some]
 rw [show n+97=n+85+12 from rfl]
 unfold Cr at c ⊢
 rw [c]
 rfl
theorem head7{x y z:Nat}{goal:List Int}{o:Own}(ho:o≠.bor)(hl:σ.length=56)(hg:goal∈Hh)(g5:σ.get 5=some (o,.list ([x,y,z].map fun w=>D.int (Aj w))))(g8:σ.get 8=some (.sh,.list (goal.map .int))) :
  (Ev G1.P (n+100)).ex Aek σ=some (.next,((σ.put 5 (.sh,.list ([x,y,z].map fun w=>D.int (Aj w)))).put 9 (.sh,.list (Ad (Hi goal)))).put 10 (.sh,.list ((C6 (N3 x y z) 0 (Hi goal)).map .int))):=by
 have g:=gram1 (n+38) (Aj x) (Aj y) (Aj z) hg
 rw [Aar,← Mn] at g
 have ra:=I7 g5 ho (show 5<σ.length by rw [hl];decide)
 delta Aek
 simp only [De,Aef,Cu,Nh,Ng,Option.bind_some,Aa7,R9,Tx,C5,g8,D2,g5,ra,Option.map_some]
 rw [show n+98=n+38+60 from rfl]
 simp only [List.map_cons,List.map_nil]
 rw [g]
 simp [Iu,Zc,Ut,Uu]
end
end Mine
end
section
set_option autoImplicit false
namespace Mine
section
variable {n:Nat} {σ:St} {P:List (Nat×Ahc)}
theorem Jm{A B:List D}(h:A.length+B.length≤line):A3 .add (.list A) (.list B)=some (.list (A++B)):=by
 simp only [A3,Jn];rw [if_pos h]
noncomputable def Eo(s:Int):List Int:=[252,253,254,255,256,257,258,259,-1,s,-s]
theorem Zz{X:E}{σ':St}{R:List Int}{c0 c1 c2 c3:Int}{oc:Own}(ho:oc≠.bor)(hX:Ab (Ev P (n+17)) X σ=some (.list (R.map .int),σ'))(hl:1<σ'.length)(g1:σ'.get 1=some (oc,.list [.int c0,.int c1,.int c2,.int c3]))(hR:R.length≤1000) :
  items (Ev P (n+20)) (.bin .add (.bin .add X (.bi .list [(.bi .range [(.lit (.int 252)),(.lit (.int 260))])])) (.list [(.neg (.lit (.int 1))),(.bi .sum [(.var 1)]),(.neg (.bi .sum [(.var 1)]))])) σ =
   some ((R++Eo (c0+(c1+(c2+c3)))).map .int,σ'.put 1 (.sh,.list [.int c0,.int c1,.int c2,.int c3])):=by
 have r1:biD .range [.int 252,.int 260]=some (.rng 252 260 1):=rfl
 have r2:biD .list [.rng 252 260 1]=some (.list ([252,253,254,255,256,257,258,259].map .int)):=rfl
 have r3:biD .sum [.list [.int c0,.int c1,.int c2,.int c3]]=some (.int (c0+(c1+(c2+c3)))):=by
  have:=Bs [c0,c1,c2,c3]
  simp only [List.map_cons,List.map_nil] at this
  simp only [biD,Gk,Ej,Option.map_some,this]
  simp [sumL]
 have a1:A3 .add (.list (R.map .int)) (.list ([252,253,254,255,256,257,258,259].map .int))=some (.list (R.map .int++[252,253,254,255,256,257,258,259].map .int)):=Jm (by simp [line];lia)
 have a2:∀s:Int,A3 .add (.list (R.map .int++[252,253,254,255,256,257,258,259].map .int)) (.list [.int (-1),.int s,.int (-s)])=some (.list ((R++Eo s).map .int)):=fun s=>by
  rw [Jm (by simp [line];lia)]
  simp [Eo]
 have q1:=I7 g1 ho hl
 have q2:(σ'.put 1 (.sh,.list [.int c0,.int c1,.int c2,.int c3])).get 1=some (.sh,.list [.int c0,.int c1,.int c2,.int c3]):=by rw [Ag6 _ _ _ _ hl,if_pos rfl]
 rw [Ao rfl]
 simp only [Cu,E0,hX,Option.bind_some,Zm,Dp,Aam,L3 (show Bi.range≠.len from nofun) (show Bi.range≠.list from nofun),Dm,Et,Dg,Option.map_some,r1,r2,Cp,a1,Vn,Xe,Act,Pm,L3 (show Bi.sum≠.len from nofun) (show Bi.sum≠.list from nofun),C5,g1,q1,r3,q2,D2]
 rw [if_pos (show [D.int (-1),D.int (c0+(c1+(c2+c3))),D.int (-(c0+(c1+(c2+c3))))].length≤line from (by decide:3≤line))]
 simp only [Cp,Option.bind_some,a2,Option.map_some,Ea]
theorem Xk(h38:P.lookup 38=some G1.Ah4)(h45:P.lookup 45=some G1.Ah5)(h52:P.lookup 52=some G1.Ah6){s p y:Nat}{x w z:Nat}{st:Au}{v:Int}(hv:0<v)(hs:s<σ.length)(hp:p<σ.length)(hy:y<σ.length)(h1:s≠p)(h2:s≠y)(h3:p≠y)
  (hA:∀u∈[x,w,z],u∈A5) (hst:O0 st≤400) (gs:σ.get s=some (.own,.Ahe [])) (gp:σ.get p=some (.own,.list [])) :
  ∃σ',Dl (Ev P (n+12)) (.v y) (bS s p y) ((C6 (N3 x w z) 0 st++Eo v).map D.int) σ=some (.next,σ')∧Ahg [s,p,y] σ σ'∧σ'.get s=some (.own,Bp (N3 x w z) st)∧∃l:List Int,l.length=11∧σ'.get p=some (.own,.list (l.map .int)):=by
 have hl:=Hr (N3 x w z) st 0
 have hnum:∀g,N3 x w z g≠0:=fun g=>by
  have:=(Mv _ (hA _ (Lz x w z g))).1
  unfold N3;lia
 have hz:∀u∈Eo v,u≠0:=by unfold Eo;simp;exact Int.ne_of_gt hv
 obtain ⟨σ',e,hn,I⟩:=Oc (P:=P) (n:=n) h38 h45 h52 (σ₀:=σ) hs hp hy h1 h2 h3 (C6 (N3 x w z) 0 st++Eo v) σ [] [] (.refl _ _) ⟨gs,gp⟩ (by rw [List.length_append,hl];simp [Eo];lia) (by rw [List.length_append,hl];simp [Eo];lia)
 have e2:I0 (C6 (N3 x w z) 0 st++Eo v) [] []=(Ca (N3 x w z) 0 st,Eo v):=by
  rw [Kp hnum st 0 [] (Eo v) (by simp)]
  have:=Nm (Eo v) [] ([]++Ca (N3 x w z) 0 st) [] hz
  rw [List.append_nil] at this
  rw [this];simp [sy_n]
 rw [e2] at I
 exact ⟨σ',e,hn,I.sides,Eo v,rfl,I.part⟩
end
end Mine
end
section
set_option autoImplicit false
namespace Mine
section
variable {n:Nat}
theorem Qv{f:Ahc}{s:Slot}{k:Nat}(h:f.nv - f.np=k):∀j,1≤j→(B6 f [s]).get j=none:=by
 intro j hj
 obtain ⟨i,rfl⟩ : ∃i,j=i+1:=⟨j - 1,by exact (Nat.sub_eq_iff_eq_add hj).mp rfl⟩
 delta B6 St.get
 rw [List.map_cons,List.map_nil,List.singleton_append,List.getElem?_cons_succ,List.getElem?_replicate]
 split <;> rfl
theorem Aae(ns:List Int):Ex10 fun σ c0 c1 c2 c3 x y z row e=>exs (Ev G1.P (n+100)) G1.Ail (B6 G1.Aic [(.sh,.Ahm (ns.map D.int))])=exs (Ev G1.P (n+100)) (G1.Ail.drop 12) σ∧
  Aix σ c0 c1 c2 c3 x y z row e.1 e.2.1 e.2.2 (szF e.2.2)∧Aiw σ x y z row e.2.2 (szF e.2.2) 0∧e∈TAB∧(∀w∈[x,y,z],w∈A5)∧[x,y,z].Nodup∧row.length=4∧(∀g∈row,g<3)∧0≤c3∧c3<2 ^ 40:=by
 have hs0:=Qv (f:=G1.Aic) (s:=(.sh,.Ahm (ns.map D.int))) (k:=55) rfl
 have hl0:(B6 G1.Aic [(.sh,.Ahm (ns.map D.int))]).length=56:=rfl
 have hg0:(B6 G1.Aic [(.sh,.Ahm (ns.map D.int))]).get 0=some (.sh,.Ahm (ns.map D.int)):=rfl
 generalize B6 G1.Aic [(.sh,.Ahm (ns.map D.int))]=σ0 at *
 obtain ⟨σ1,e1,n1,c0,c1,c2,c3,C⟩:=Y3 (P:=G1.P) (n:=n+92) (σ:=σ0) (a:=46) (b:=1016) (c:=1591) (d:=36) (ns:=ns) (rest:=G1.Ail.drop 2) (by lia) hg0
 have e1':exs (Ev G1.P (n+100)) G1.Ail σ0=exs (Ev G1.P (n+100)) (G1.Ail.drop 2) σ1:=e1
 have b0:0<c0∧c0<2 ^ 40:=by have:=C.x0;have:=C.x1;lia
 have b1:0<c1∧c1<2 ^ 40:=by have:=C.y0;have:=C.y1;lia
 have b2:0<c2∧c2<2 ^ 40:=by have:=C.z0;have:=C.z1;lia
 have b3:0<c3∧c3<2 ^ 40:=by have:=C.u0;have:=C.u1;lia
 have g1:=C.get
 have hl1:σ1.length=56:=n1.len.trans hl0
 have fr1:∀j,4≤j→σ1.get j=none:=fun j hj=>(n1.get j (nin (by assumption) (by decide))).trans (hs0 j (by exact Nat.one_le_of_lt hj))
 clear C n1 e1
 obtain ⟨x,y,z,hA,hn,e2⟩:=head2 (n:=n) hl1 g1 b2
 generalize hσ2:σ1.put 4 (.sh,.list (B9 [x,y,z]))=σ2 at e2
 have hl2:σ2.length=56:=(Bg hσ2).trans hl1
 have k2:∀j,j≠4→σ2.get j=σ1.get j:=fun j h=>by rw [← hσ2,Ag6 _ _ _ _ (lp0 hl1 (by decide)),if_neg h]
 have g4:σ2.get 4=some (.sh,.list (B9 [x,y,z])):=by rw [← hσ2,Ag6 _ _ _ _ (lp0 hl1 (by decide)),if_pos rfl]
 have e3:(Ev G1.P (n+100)).ex s1_3 σ2=some (.next,σ2.put 5 (.own,.list ([x,y,z].map fun w=>D.int (Aj w)))):=
  Dt (Q9 (P:=G1.P) (n:=n+94) (sg:=4) (v:=37) g4 ((k2 37 (by decide)).trans (fr1 37 (by decide))) (lp0 hl2 (by decide)) hA (by simp))
 generalize hσ3:σ2.put 5 (.own,.list ([x,y,z].map fun w=>D.int (Aj w)))=σ3 at e3
 have hl3:σ3.length=56:=(Bg hσ3).trans hl2
 have k3:∀j,j≠5→σ3.get j=σ2.get j:=fun j h=>by rw [← hσ3,Ag6 _ _ _ _ (lp0 hl2 (by decide)),if_neg h]
 have g5:σ3.get 5=some (.own,.list ([x,y,z].map fun w=>D.int (Aj w))):=by rw [← hσ3,Ag6 _ _ _ _ (lp0 hl2 (by decide)),if_pos rfl]
 have g1':σ3.get 1=some (.own,.list [.int c0,.int c1,.int c2,.int c3]):=(k3 1 (by decide)).trans ((k2 1 (by decide)).trans g1)
 obtain ⟨row,hr4,hr3,d4⟩:=M9 (P:=G1.P) (n:=n+90) (σ:=σ3) (c:=1) (i:=0) (b:=3) (k:=38) (m:=4) g1' (v:=c0) rfl (by lia) b0.2 (by decide) Aag (by decide) ((k3 38 (by decide)).trans ((k2 38 (by decide)).trans (fr1 38 (by decide)))) (lp0 hl3 (by decide)) (by decide)
 have e4:(Ev G1.P (n+100)).ex s1_4 σ3=some (.next,σ3.put 6 (.own,.list (Cr row))):=Dt d4
 generalize hσ4:σ3.put 6 (.own,.list (Cr row))=σ4 at e4
 have hl4:σ4.length=56:=(Bg hσ4).trans hl3
 have k4:∀j,j≠6→σ4.get j=σ3.get j:=fun j h=>by rw [← hσ4,Ag6 _ _ _ _ (lp0 hl3 (by decide)),if_neg h]
 have g6:σ4.get 6=some (.own,.list (Cr row)):=by rw [← hσ4,Ag6 _ _ _ _ (lp0 hl3 (by decide)),if_pos rfl]
 obtain ⟨lead,o7,o6,ho7,ho6,hlg,hll,e5⟩:=head5 (n:=n) hl4 ((k4 1 (by decide)).trans g1') b1 g6 hr3 hr4 ((k4 39 (by decide)).trans ((k3 39 (by decide)).trans ((k2 39 (by decide)).trans (fr1 39 (by decide)))))
 generalize hσ5:(σ4.put 6 (o6,.list (Cr row))).put 7 (o7,.list (Cr lead))=σ5 at e5
 have hl5:σ5.length=56:=by rw [← hσ5,Ag7,Ag7,hl4]
 have k5:∀j,j≠6→j≠7→σ5.get j=σ4.get j:=fun j h h'=>by rw [← hσ5];simp [Ag6,hl4,h,h']
 have g6':σ5.get 6=some (o6,.list (Cr row)):=by rw [← hσ5];exact Eq.trans (Ay (by decide)) (Ap (lp0 hl4 (by decide)))
 have g7:σ5.get 7=some (o7,.list (Cr lead)):=by rw [← hσ5];exact Ap (lp1 hl4 (by decide))
 have fr5:∀j,37≤j→σ5.get j=none:=fun j hj=>by rw [k5 j (by lia) (by lia),k4 j (by lia),k3 j (by lia),k2 j (by lia)];exact fr1 j (by lia)
 obtain ⟨goal,hgp,e6⟩:=head6 (n:=n) ho7 hl5 g7 hll (fr5 40 (by decide))
 generalize hσ6:(σ5.put 7 (.sh,.list (Cr lead))).put 8 (.sh,.list (goal.map .int))=σ6 at e6
 have hl6:σ6.length=56:=by rw [← hσ6,Ag7,Ag7,hl5]
 have k6:∀j,j≠7→j≠8→σ6.get j=σ5.get j:=fun j h h'=>by rw [← hσ6];simp [Ag6,hl5,h,h']
 have g8:σ6.get 8=some (.sh,.list (goal.map .int)):=by rw [← hσ6];exact Ap (lp1 hl5 (by decide))
 have g5':σ6.get 5=some (.own,.list ([x,y,z].map fun w=>D.int (Aj w))):=by rw [k6 5 (by decide) (by decide),k5 5 (by decide) (by decide),k4 5 (by decide)];exact g5
 have e7:=head7 (n:=n) (x:=x) (y:=y) (z:=z) (o:=.own) (by decide) hl6 hgp g5' g8
 generalize hσ7:((σ6.put 5 (.sh,.list ([x,y,z].map fun w=>D.int (Aj w)))).put 9 (.sh,.list (Ad (Hi goal)))).put 10 (.sh,.list ((C6 (N3 x y z) 0 (Hi goal)).map .int))=σ7 at e7
 have hl7:σ7.length=56:=by rw [← hσ7,Ag7,Ag7,Ag7,hl6]
 have k7:∀j,j≠5→j≠9→j≠10→σ7.get j=σ6.get j:=fun j h h' h''=>by rw [← hσ7];simp [Ag6,hl6,h,h',h'']
 have q5:σ7.get 5=some (.sh,.list ([x,y,z].map fun w=>D.int (Aj w))):=by rw [← hσ7];exact Eq.trans (Ay (by decide)) (Eq.trans (Ay (by decide)) (Ap (lp0 hl6 (by decide))))
 have q9:σ7.get 9=some (.sh,.list (Ad (Hi goal))):=by rw [← hσ7];exact Eq.trans (Ay (by decide)) (Ap (lp1 hl6 (by decide)))
 have q10:σ7.get 10=some (.sh,.list ((C6 (N3 x y z) 0 (Hi goal)).map .int)):=by rw [← hσ7];exact Ap (lp2 hl6 (by decide))
 obtain ⟨e,he,rfl⟩:=T6 goal hgp
 have T:=Nl he
 rw [T.gram] at q9 q10
 have e8:(Ev G1.P (n+100)).ex Aej σ7=some (.next,(σ7.put 11 (.own,.Ahe [])).put 12 (.own,.list [])):=by
  delta Aej;simp [Ut,Uu,line]
 generalize hσ8:(σ7.put 11 (.own,.Ahe [])).put 12 (.own,.list [])=σ8 at e8
 have hl8:σ8.length=56:=by rw [← hσ8,Ag7,Ag7,hl7]
 have k8:∀j,j≠11→j≠12→σ8.get j=σ7.get j:=fun j h h'=>by rw [← hσ8];simp [Ag6,hl7,h,h']
 have q11:σ8.get 11=some (.own,.Ahe []):=by rw [← hσ8];exact Eq.trans (Ay (by decide)) (Ap (lp0 hl7 (by decide)))
 have q12:σ8.get 12=some (.own,.list []):=by rw [← hσ8];exact Ap (lp1 hl7 (by decide))
 have q1:σ8.get 1=some (.own,.list [.int c0,.int c1,.int c2,.int c3]):=by rw [k8 1 (by decide) (by decide),k7 1 (by decide) (by decide) (by decide),k6 1 (by decide) (by decide),k5 1 (by decide) (by decide),k4 1 (by decide)];exact g1'
 have hX:Ab (Ev G1.P (n+79+17)) (.var 10) σ8=some (.list ((C6 (N3 x y z) 0 e.2.1).map .int),σ8):=by
  rw [C5,k8 10 (by decide) (by decide),q10];rfl
 have it9:=Zz (P:=G1.P) (n:=n+79) (σ:=σ8) (oc:=.own) (by decide) hX (lp0 hl8 (by decide)) q1 (by rw [Hr];have:=T.stl;lia)
 obtain ⟨σ9,e9,n9,s11,l9,hl9',s12⟩:=Xk (P:=G1.P) (n:=n+87) (σ:=σ8.put 1 (.sh,.list [.int c0,.int c1,.int c2,.int c3])) (s:=11) (p:=12) (y:=13) (x:=x) (w:=y) (z:=z) (st:=e.2.1) (v:=c0+(c1+(c2+c3))) rfl rfl rfl (by lia) (by rw [Ag7,hl8];decide) (by rw [Ag7,hl8];decide) (by rw [Ag7,hl8];decide) (by decide) (by decide) (by decide) hA T.stl
  (Eq.trans (Ay (by decide)) q11) (Eq.trans (Ay (by decide)) q12)
 have e9':(Ev G1.P (n+100)).ex Aei σ8=some (.next,σ9):=by
  delta Aei
  rw [show n+100=n+99+1 from rfl,De,Jq]
  have it9':items (Ev G1.P (n+99)) _ σ8=_:=it9
  rw [it9']
  exact e9
 have hl9:σ9.length=56:=by rw [n9.len,Ag7,hl8]
 have k9:∀j,j≠1→j≠11→j≠12→j≠13→σ9.get j=σ8.get j:=fun j a b c d=>by rw [n9.get j (by simp [b,c,d]),Ag6 _ _ _ _ (lp0 hl8 (by decide)),if_neg a]
 have r1:σ9.get 1=some (.sh,.list [.int c0,.int c1,.int c2,.int c3]):=by rw [n9.get 1 (by decide),Ag6 _ _ _ _ (lp0 hl8 (by decide)),if_pos rfl]
 have kk:∀j,j∉[1,5,7,8,9,10,11,12,13]→σ9.get j=σ5.get j:=fun j h=>by
  simp only [List.mem_cons,List.mem_nil_iff,or_false,not_or] at h
  rw [k9 j h.1 (by simp [h]) (by simp [h]) (by simp [h]),k8 j (by simp [h]) (by simp [h]),k7 j (by simp [h]) (by simp [h]) (by simp [h]),k6 j (by simp [h]) (by simp [h])]
 have r5:σ9.get 5=some (.sh,.list ([x,y,z].map fun w=>D.int (Aj w))):=by rw [k9 5 (by decide) (by decide) (by decide) (by decide),k8 5 (by decide) (by decide)];exact q5
 have r4:σ9.get 4=some (.sh,.list (B9 [x,y,z])):=by rw [kk 4 (by decide),k5 4 (by decide) (by decide),k4 4 (by decide),k3 4 (by decide)];exact g4
 have fr9:∀j,37≤j→σ9.get j=none:=fun j hj=>by rw [kk j (nin (by assumption) (by decide))];exact fr5 j hj
 have w10:=Vp (P:=G1.P) (n:=n+48) (σ:=σ9) rfl rfl (a:=4) (b:=5) (s:=11) (o:=41) (i:=42) (ob:=.sh) (x:=x) (y:=y) (z:=z) (st:=e.2.1) (R:=e.2.2) hA hn (fun ws hws=>by
   obtain ⟨p,hp⟩:=List.mem_iff_getElem?.mp hws
   have:=(T.ok p ws hp).1;lia) T.rows (by have:=T.len;lia) (fun r hr=>(T.row r hr).2) r4 r5 s11 (fr9 41 (by decide)) (fr9 42 (by decide)) (lp0 hl9 (by decide)) (lp0 hl9 (by decide)) (lp0 hl9 (by decide)) (by decide)
 have e10:(Ev G1.P (n+100)).ex Ac4 σ9=some (.next,(σ9.put 11 (.sh,Bp (N3 x y z) e.2.1)).put 14 (.own,.list (e.2.2.map fun r=>D.str (r.map (S3 x y z))))):=Dt w10
 generalize hσ10:(σ9.put 11 (.sh,Bp (N3 x y z) e.2.1)).put 14 (.own,.list (e.2.2.map fun r=>D.str (r.map (S3 x y z))))=σ10 at e10
 have hl10:σ10.length=56:=by rw [← hσ10,Ag7,Ag7,hl9]
 have k10:∀j,j≠11→j≠14→σ10.get j=σ9.get j:=fun j h h'=>by rw [← hσ10];simp [Ag6,hl9,h,h']
 have r14:σ10.get 14=some (.own,.list (e.2.2.map fun r=>D.str (r.map (S3 x y z)))):=by rw [← hσ10];exact Ap (lp1 hl9 (by decide))
 obtain ⟨w0,ws,hw⟩:=List.exists_cons_of_ne_nil T.ne
 have hsz:szF e.2.2=w0.length:=by rw [hw];rfl
 have i0:Ar (.list (e.2.2.map fun r=>D.str (r.map (S3 x y z)))) (.int 0)=some (.str (w0.map (S3 x y z))):=by rw [hw];rfl
 have e11:(Ev G1.P (n+100)).ex Wm σ10=some (.next,((σ10.put 15 (.sh,.int (szF e.2.2:Nat))).put 16 (.own,.list [])).put 17 (.own,.list [])):=by
  rw [hsz]
  delta Wm
  generalize (e.2.2.map fun r=>D.str (r.map (S3 x y z)))=L at *
  simp [r14,i0,Ut,Uu,line,A8,again]
 refine ⟨((σ10.put 15 (.sh,.int (szF e.2.2:Nat))).put 16 (.own,.list [])).put 17 (.own,.list []),c0,c1,c2,c3,x,y,z,row,e,?_,?_,?_,he,hA,hn,hr4,hr3,by lia,b3.2⟩
 ·rw [e1',show G1.Ail.drop 2=Aem :: s1_3 :: s1_4 :: Z9 :: Ael :: Aek :: Aej :: Aei :: Ac4 :: Wm :: G1.Ail.drop 12 from rfl]
  exact Am e2 (Am e3 (Am e4 (Am e5 (Am e6 (Am e7 (Am e8 (Am e9' (Am e10 (Am e11 rfl)))))))))
 ·refine ⟨by simp [hl10],?_,?_,?_,⟨o6,ho6,?_⟩,?_,?_,⟨.own,by decide,?_⟩,?_,fun j hj=>?_⟩
  ·simp [Ag6,hl10,k10,r1]
  ·simp [Ag6,hl10,k10,r4]
  ·rw [Ag6 _ _ _ _ (lp2 hl10 (by decide)),if_neg (by decide),Ag6 _ _ _ _ (lp1 hl10 (by decide)),if_neg (by decide),Ag6 _ _ _ _ (lp0 hl10 (by decide)),if_neg (by decide),k10 5 (by decide) (by decide)];exact r5
  ·have:σ9.get 6=some (o6,.list (Cr row)):=(kk 6 (by decide)).trans g6'
   simp [Ag6,hl10,k10,this];rfl
  ·have:σ9.get 8=some (.sh,.list (e.1.map .int)):=by rw [k9 8 (by decide) (by decide) (by decide) (by decide),k8 8 (by decide) (by decide),k7 8 (by decide) (by decide) (by decide)];exact g8
   simp [Ag6,hl10,k10,this]
  ·have:σ9.get 9=some (.sh,.list (Ad e.2.1)):=by rw [k9 9 (by decide) (by decide) (by decide) (by decide),k8 9 (by decide) (by decide)];exact q9
   simp [Ag6,hl10,k10,this]
  ·simp [Ag6,hl10,r14]
  ·simp [Ag6,hl10]
  ·have a1:j≠15:=by lia
   have a2:j≠16:=by lia
   have a3:j≠17:=by lia
   simp [Ag6,hl10,a1,a2,a3,k10 j (by lia) (by lia),fr9 j hj]
 ·exact ⟨Eq.trans (Ay (by decide)) (Ap (lp1 hl10 (by decide))),⟨[],by simp,Ap (lp2 hl10 (by decide))⟩,fun h=>absurd h (by decide)⟩
end
end Mine
end
section
set_option autoImplicit false
namespace Mine
section
variable {n:Nat} {σ:St} {P:List (Nat×Ahc)}
theorem Sy{a b:List Int}(hb:b≠[]):C3 .ne (.list (a.map .int)) (.list (b.map .int))=some (decide (a≠b)):=by
 match b,hb with
 |c :: r,_=>
  show (((A1 (a.map D.int)).bind fun u=>(A1 ((c :: r).map D.int)).map fun v=>u == v).map (!·))=_
  rw [Bs,Bs]
  show some (!(a == c :: r))=some (decide (a≠c :: r))
  congr 1
  rw [Bool.eq_iff_iff,Bool.not_eq_true',beq_eq_false_iff_ne,decide_eq_true_eq]
noncomputable def Adp(k sg:Nat):E:=.comp (.bin .add (.lit (.int 7)) (.meth .index (.lit (.str [40,41,91,93,58,44,59,43,45,42,47,124,38,60,62,61,46,37,123,125])) [(.var k)])) [(.v k,(.var sg),[])]
theorem Aap{k sg:Nat}{l:List Nat}(h:σ.get sg=some (.sh,.list (B9 l)))(gk:σ.get k=none)(lk:k<σ.length)(hA:∀w∈l,w∈A5)(hz:l.length≤10) :
  Av (Ev P (n+6)) (Adp k sg) σ=some (.own,.list ((l.map Aj).map .int),σ):=by
 have it:items (Ev P (n+6)) (.var sg) σ=some (B9 l,σ):=by
  rw [Ao rfl];simp [h,Ea]
 have key:=C9 (F:=Ev P (n+6)) (σ:=σ) (σ₁:=σ) (i:=k) (elt:=.bin .add (.lit (.int 7)) (.meth .index (.lit (.str [40,41,91,93,58,44,59,43,45,42,47,124,38,60,62,61,46,37,123,125])) [(.var k)])) (g:=fun d=>mS d .none fun x=>.int (Aj x)) gk lk it (fun d hd τ hn hb=>?_) (by delta B9 line;rw [List.length_map];lia)
 ·delta Adp
  rw [key]
  delta B9
  rw [List.map_map,List.map_map];rfl
 ·obtain ⟨x,hx,rfl⟩:=List.mem_map.mp hd
  have hs:=Aaq x (hA x hx)
  obtain ⟨j,hj⟩:=Option.isSome_iff_exists.mp hs
  have m:Bw .index (.str [40,41,91,93,58,44,59,43,45,42,47,124,38,60,62,61,46,37,123,125]) [.str [x]]=some (.int (j:Nat)):=by
   have hj':Df x [40,41,91,93,58,44,59,43,45,42,47,124,38,60,62,61,46,37,123,125]=some j:=hj
   simp only [Bw,Gn,Gk,Rp,Rn,Option.map_some,hj']
  have nm:Aj x=7+(j:Int):=by delta Aj;rw [hj];rfl
  rw [mS_s,nm]
  simp [hb,m,A8,again]
structure Aiy(σ:St)(c0 c1 c2 c3:Int)(x y z:Nat)(R:List (List Nat))(sz:Nat)(ch:List Nat)(T:List Int):Prop where
 len:σ.length=56
 g1:σ.get 1=some (.sh,.list [.int c0,.int c1,.int c2,.int c3])
 g4:σ.get 4=some (.sh,.list (B9 [x,y,z]))
 g5:σ.get 5=some (.sh,.list (([x,y,z].map Aj).map .int))
 g12:σ.get 12=some (.sh,.str (ch.map (S3 x y z)))
 g14:∃o,o≠Own.bor∧σ.get 14=some (o,.list ((R.map fun r=>r.map (S3 x y z)).map D.str))
 g17:∃A:List Int,A.length≤400∧σ.get 17=some (.own,.list (A.map D.int))
 g20:σ.get 20=some (.sh,.int (Ds sz ch))
 g22:σ.get 22=some (.sh,.list (T.map D.int))
 told:Agz R ch (Ds sz ch) T
 free:∀j,50≤j→σ.get j=none
theorem Y1{row:List Nat}(h:row.length=4):Bu row 15=row:=by
 match row,h with
 |[a,b,c,d],_=>rfl
theorem Aau{c0 c1 c2 c3:Int}{x y z:Nat}{row:List Nat}{e:List Int×Au×List (List Nat)}(B:Aix σ c0 c1 c2 c3 x y z row e.1 e.2.1 e.2.2 (szF e.2.2))(Mi:Aiw σ x y z row e.2.2 (szF e.2.2) 0)(he:e∈TAB)(hA:∀w∈[x,y,z],w∈A5)(hn:[x,y,z].Nodup)(hr4:row.length=4)(hr3:∀g∈row,g<3)(h0:0≤c3)(h1:c3<2 ^ 40) :
  Ex2 fun σ' T=>exs (Ev G1.P (n+100)) (G1.Ail.drop 12) σ=exs (Ev G1.P (n+100)) (G1.Ail.drop 16) σ'∧Aiy σ' c0 c1 c2 c3 x y z e.2.2 (szF e.2.2) row T:=by
 have T:=Nl he
 have hsz:=T.sz
 have hRl:=T.len
 have it12:items (Ev G1.P (n+99)) (.bi .range [(.lit (.int 16))]) σ=some ((List.range' 0 16).map fun i:Nat=>D.int i,σ):=by
  rw [Ao rfl]
  have:=Cs (k:=16) (by decide)
  have hb:biD .range [.int 16]=some (.rng 0 16 1):=rfl
  simp [hb];exact this
 obtain ⟨σ1,e12,B1,M1⟩:=Lg (P:=G1.P) (n:=n+9) rfl rfl rfl rfl hA hn h0 h1 hr4 hr3 T.ne (Nat.le_trans (by assumption) (by decide)) T.row hsz T.goal4 (Agc he hr4 hr3) 16 0 σ rfl B Mi
 have e12':(Ev G1.P (n+100)).ex Wl σ=some (.next,σ1):=by
  delta Wl
  rw [show n+100=n+99+1 from rfl,De,Jq,it12]
  exact e12
 have hl1:=B1.len
 obtain ⟨p12,p20,T',hT,p22⟩:=M1.last (by decide)
 rw [show 16 - 1=15 from rfl,Y1 hr4] at p12 p20 hT
 obtain ⟨A,hAl,p17⟩:=M1.g17
 obtain ⟨o14,ho14,p14⟩:=B1.g14
 obtain ⟨o6,ho6,p6⟩:=B1.g6
 have e13:(Ev G1.P (n+100)).ex Wk σ1=some (.next,σ1.put 24 (.sh,.int 13)):=by delta Wk;simp
 have it14:=Kf (P:=G1.P) (n:=n+98) (σ:=σ1.put 24 (.sh,.int 13)) (k:=14) ho14 (by rw [Ag6 _ _ _ _ (lp0 hl1 (by decide)),if_neg (by decide)];exact p14) (by rw [Ag7,hl1];decide)
 generalize hσ2:(σ1.put 24 (.sh,.int 13)).put 14 (.sh,.list ((e.2.2.map fun r=>r.map (S3 x y z)).map D.str))=σ2 at it14
 have hl2:σ2.length=56:=by rw [← hσ2,Ag7,Ag7,hl1]
 have k2:∀j,j≠24→j≠14→σ2.get j=σ1.get j:=fun j h h'=>by rw [← hσ2];simp [Ag6,hl1,h,h']
 have q24:σ2.get 24=some (.sh,.int 13):=by rw [← hσ2];exact Eq.trans (Ay (by decide)) (Ap (lp0 hl1 (by decide)))
 have q14:σ2.get 14=some (.sh,.list ((e.2.2.map fun r=>r.map (S3 x y z)).map D.str)):=by rw [← hσ2];exact Ap (lp1 hl1 (by decide))
 have hW:∀w∈e.2.2.map (fun r=>r.map (S3 x y z)),(∀c∈w,c<128)∧w.length≤6:=fun w hw=>by
  obtain ⟨r,hr,rfl⟩:=List.mem_map.mp hw
  exact ⟨N0 hA r,by rw [List.length_map,(T.row r hr).1];exact hsz⟩
 obtain ⟨σ3,e14,n3,s17,s24⟩:=Lh (P:=G1.P) (n:=n+19) rfl rfl (a:=17) (p:=12) (y:=25) (b:=24) (q:=row.map (S3 x y z)) (N0 hA row) (by rw [List.length_map];lia) (σ₀:=σ2) (lp0 hl2 (by decide)) (lp0 hl2 (by decide)) (lp0 hl2 (by decide)) (by decide) (e.2.2.map fun r=>r.map (S3 x y z)) 13 A σ2 (.refl _ _) (fun w hw=>⟨(hW w hw).1,by have:=(hW w hw).2;lia⟩) (by rw [List.length_map];lia) ((k2 12 (by decide) (by decide)).trans p12) ((k2 17 (by decide) (by decide)).trans p17) q24
 have e14':(Ev G1.P (n+100)).ex Wj (σ1.put 24 (.sh,.int 13))=some (.next,σ3):=by
  delta Wj
  rw [show n+100=n+98+1+1 from rfl,De,Jq,it14]
  exact e14
 have hl3:σ3.length=56:=n3.len.trans hl2
 have hbest:(J1 (row.map (S3 x y z)) (e.2.2.map fun r=>r.map (S3 x y z)) 13 A).1=Fj row e.2.1:=by
  rw [Qf (by rw [List.length_map];lia) _ _ _ (fun w hw=>by have:=(hW w hw).2;lia),List.foldl_map,← Wx he hr4 hr3]
  exact Li fun r hr=>Oj hA hn _ row r (Nat.le_refl _) hr3 (T.row r hr).2
 rw [hbest] at s24
 have k3:∀j,j∉[17,25,24,14]→σ3.get j=σ1.get j:=fun j h=>by
  simp only [List.mem_cons,List.mem_nil_iff,or_false,not_or] at h
  rw [n3.get j (by simp [h]),k2 j (by simp [h]) (by simp [h])]
 have alen:=Nd (row.map (S3 x y z)) (e.2.2.map fun r=>r.map (S3 x y z)) 13 A
 have u6:σ3.get 6=some (o6,.list (row.map fun g:Nat=>D.int g)):=(k3 6 (by decide)).trans p6
 have u9:σ3.get 9=some (.sh,.list (Ad e.2.1)):=(k3 9 (by decide)).trans B1.g9
 have u5:σ3.get 5=some (.sh,.list ([x,y,z].map fun w=>D.int (Aj w))):=(k3 5 (by decide)).trans B1.g5
 have u4:σ3.get 4=some (.sh,.list (B9 [x,y,z])):=(k3 4 (by decide)).trans B1.g4
 have ra:=I7 u6 ho6 (show 6<σ3.length by rw [hl3];decide)
 have c:=c132 (P:=G1.P) (n:=n+77) rfl (st:=e.2.1) (row:=row) T.ok (List.length_pos_iff.mpr T.st0) (by have:=T.st24;lia) hr4
 have c':(Ev G1.P (n+95)).call 132 [(.sh,.list (Ad e.2.1)),(.sh,.list (row.map fun g:Nat=>D.int g))]=some (.int (Fj row e.2.1),some (.sh,.list (row.map fun g:Nat=>D.int g))):=c
 generalize hσ4:σ3.put 6 (.sh,.list (row.map fun g:Nat=>D.int g))=σ4 at ra
 have hl4:σ4.length=56:=(Bg hσ4).trans hl3
 have k4:∀j,j≠6→σ4.get j=σ3.get j:=fun j h=>Di hσ4 h
 have w5:σ4.get 5=some (.sh,.list (([x,y,z].map Aj).map .int)):=(k4 5 (by decide)).trans u5
 have nm:=Aap (P:=G1.P) (n:=n+88) (σ:=σ4) (k:=49) (sg:=4) ((k4 4 (by decide)).trans u4) (by rw [k4 49 (by decide),k3 49 (by decide)];exact B1.free 49 (by decide)) (lp0 hl4 (by decide)) hA (by simp)
 have nm':Av (Ev G1.P (n+94)) (.comp (.bin .add (.lit (.int 7)) (.meth .index (.lit (.str [40,41,91,93,58,44,59,43,45,42,47,124,38,60,62,61,46,37,123,125])) [(.var 49)])) [(.v 49,(.var 4),[])]) σ4=some (.own,.list (([x,y,z].map Aj).map .int),σ4):=nm
 have cn:=Sy (a:=[x,y,z].map Aj) (b:=[x,y,z].map Aj) (by simp)
 have e15:(Ev G1.P (n+100)).ex Wi σ3=some (.next,σ4):=by
  delta Wi
  simp only [De,Wb,D5,t_or,any_cons,Tv,Ei,Cu,D9,C5,s24,D2,Option.bind_some,iE2,Bool.false_eq_true,if_false,Nh,Ng,Aa7,R9,Tx,u9,u6,ra,Option.map_some,c',c_nei,C7,ne_eq,not_true_eq_false,decide_false,w5,Ff,Dp,nm',Cp,cn,Kl]
 refine ⟨σ4,T',?_,⟨hl4,?_,?_,w5,?_,⟨.sh,by decide,?_⟩,⟨_,?_,(k4 17 (by decide)).trans s17⟩,?_,?_,hT,fun j hj=>?_⟩⟩
 ·rw [show G1.Ail.drop 12=Wl :: Wk :: Wj :: Wi :: G1.Ail.drop 16 from rfl]
  exact Am e12' (Am e13 (Am e14' (Am e15 rfl)))
 ·rw [k4 1 (by decide),k3 1 (by decide)];exact B1.g1
 ·rw [k4 4 (by decide)];exact u4
 ·rw [k4 12 (by decide),k3 12 (by decide)];exact p12
 ·rw [k4 14 (by decide),n3.get 14 (by decide)];exact q14
 ·rw [alen,List.length_map];lia
 ·rw [k4 20 (by decide),k3 20 (by decide)];exact p20
 ·rw [k4 22 (by decide),k3 22 (by decide)];exact p22
 ·rw [k4 j (by lia),k3 j (nin (by assumption) (by decide))];exact B1.free j (by lia)
end
end Mine
end
section
set_option autoImplicit false
namespace Mine
theorem M4{sep:List Nat}{c:Nat}:∀ {l:List (List Nat)},c∈A4 sep l→c∈sep∨∃a∈l,c∈a
 |[],h=>by simp [Afd] at h
 |[a],h=>.inr ⟨a,by simp,by simpa [Rh] using h⟩
 |a :: b :: r,h=>by
  rw [Pu] at h
  rcases List.mem_append.mp h with q | q
  ·rcases List.mem_append.mp q with q | q
   ·exact .inr ⟨a,by simp,q⟩
   ·exact .inl q
  ·rcases M4 q with q | ⟨a',h1,h2⟩
   ·exact .inl q
   ·exact .inr ⟨a',List.mem_cons_of_mem _ h1,h2⟩
theorem V1{b:Nat}:∀ {l:List (List Nat)},(∀a∈l,a.length≤b)→((l.map fun a=>a.length+1).sum)≤(b+1) * l.length
 |[],_=>by simp
 |a :: l,h=>by
  have h1:=h a List.mem_cons_self
  have h2:=V1 (l:=l) fun c hc=>h c (List.mem_cons_of_mem _ hc)
  rw [List.map_cons,List.sum_cons,List.length_cons,Nat.mul_add];lia
section
variable {P:List (Nat×Ahc)} {n:Nat} {F:Ahl} {σ:St}
noncomputable def Fq(k:Nat)(a:List Nat):List Nat:=a.flatMap (code (Ai k))
structure Page(σ:St)(k m:Nat)(wr tb mk pc w:Nat)(part:List Nat)(W:List (List Nat)):Prop where
 gw:σ.get wr=some (.sh,.fn (Ct k))
 gt:σ.get tb=some (.sh,.Ahf (Hn k))
 gm:σ.get mk=some (.sh,.str [m])
 gp:σ.get pc=some (.sh,.list (((part :: W).map (Fq k)).map D.str))
 gW:σ.get w=some (.sh,.list (W.map D.str))
noncomputable def pageS(c i p w wr tb mk ln pg s pc:Nat):List S:=[.Ah0 [wr,tb] (.call (.glob (.fn 106)) [(.bin .mod (.idx (.var c) (.lit (.int (i:Nat)))) (.lit (.int 5)))] false),
 .asg mk (.idx (.lit (.str [34,13,10,9,32])) (.bin .mod (.bin .fdiv (.idx (.var c) (.lit (.int (i:Nat)))) (.lit (.int 5))) (.lit (.int 5)))),
 .asg ln (.meth .join (.var mk) [(.bin .add (.list [(.var p)]) (.var w))]),.asg pg (.call (.var wr) [(.var ln)] false),
 .ite (.cmp .ne (.var pg) (.meth .join (.lit (.str [])) [(.comp (.meth .get (.var tb) [(.var s),(.var s)]) [(.v s,(.var ln),[])])])) [.ret (.lit (.bool false))] [],
 .asg pc (.meth .split (.var pg) [(.meth .get (.var tb) [(.var mk),(.var mk)])])]
theorem P0{L:List (List Nat)}{k:Nat}(h:k<L.length)(hk:k<1000):Ar (.list (L.map D.str)) (.int (k:Nat))=some (.str L[k]):=by
 simp only [Ar,B8 (show k<2 ^ 60 by lia),if_true,nth]
 rw [if_pos (by exact Int.natCast_nonneg k),Int.toNat_natCast,List.getElem?_map,List.getElem?_eq_getElem h];rfl
theorem P4{k:Nat}(hk:k∈KS){a:List Nat}(h:∀x∈a,x∈A5):(Fq k a).length≤6 * a.length∧∀x∈Fq k a,x<128:=by
 refine ⟨Lk fun c hc=>(Gc k hk c (List.mem_append_left _ (h c hc))).2.1,fun x hx=>?_⟩
 obtain ⟨c,hc,hx⟩:=List.mem_flatMap.mp hx
 exact (Gc k hk c (List.mem_append_left _ (h c hc))).2.2 x hx
end
end Mine
end
section
set_option autoImplicit false
namespace Mine
section
variable {P:List (Nat×Ahc)} {n:Nat} {F:Ahl} {σ:St}
theorem Us(h106:P.lookup 106=some G1.Ah8)(hP:∀j∈KS,P.lookup (Ct j)=some ⟨1,1,[.Aht ((Ai j).map P3++[.ret (.var 0)])]⟩){oc ow:Own}{cs:D}{v:Int}{part:List Nat}{W:List (List Nat)}{rest:List S}
  (gc:σ.get 1=some (oc,cs)) (hi:Ar cs (.int 3)=some (.int v)) (h0:0≤v) (h1:v<2 ^ 40) (ho:ow≠.bor) (gp:σ.get 12=some (.sh,.str part)) (gw:σ.get 14=some (ow,.list (W.map D.str))) (gs:σ.get 50=none)
  (hA:∀a∈part :: W,(∀x∈a,x∈A5)∧a.length≤10) (hW:W.length≤16) (hl:σ.length=56) :
  ∃σ' k m,exs (Ev P (n+60)) (pageS 1 3 12 14 26 27 28 29 30 50 31++rest) σ=exs (Ev P (n+60)) rest σ'∧Ahg [26,27,28,29,14,30,31] σ σ'∧k∈KS∧m∈D7∧Page σ' k m 26 27 28 31 14 part W:=by
 obtain ⟨k,hk,_,ek⟩:=m_ex (c:=v) (k:=5) (by decide)
 obtain ⟨q,hq,_,eq1,eq2⟩:=Lo (c:=v) (m:=5) (k:=5) h0 h1 (by decide) (by decide) (by decide)
 have hks:=Adh hk
 have hm:=Uy hq
 have e1:=Aa5 (P:=P) (n:=n+30) (σ:=σ) h106 (wr:=26) (tb:=27) gc hi hk ek
 have l1:(σ.put 26 (.sh,.fn (Ct k))).length=56:=(Ag7 ..).trans hl
 have n1:Ahg [26,27] σ ((σ.put 26 (.sh,.fn (Ct k))).put 27 (.sh,.Ahf (Hn k))):=((Ahg.refl _ _).put (by decide) _).put (by decide) _
 have a1:((σ.put 26 (.sh,.fn (Ct k))).put 27 (.sh,.Ahf (Hn k))).get 26=some (.sh,.fn (Ct k)):=(Ay (by decide)).trans (Ap (lp0 hl (by decide)))
 have a2:((σ.put 26 (.sh,.fn (Ct k))).put 27 (.sh,.Ahf (Hn k))).get 27=some (.sh,.Ahf (Hn k)):=Ap (lp0 l1 (by decide))
 generalize (σ.put 26 (.sh,.fn (Ct k))).put 27 (.sh,.Ahf (Hn k))=σ1 at e1 n1 a1 a2
 clear l1
 have l1:=n1.len.trans hl
 have e2:=Dt (x:=28) (Aaw (P:=P) (n:=n+52) (σ:=σ1) ((n1.get 1 (by decide)).trans gc) hi hq eq1 eq2)
 generalize D7.getD q 0=m at hm e2
 have n2:Ahg [28] σ1 (σ1.put 28 (.sh,.str [m])):=(Ahg.refl _ _).put (by decide) _
 have b1:(σ1.put 28 (.sh,.str [m])).get 28=some (.sh,.str [m]):=Ap (lp0 l1 (by decide))
 generalize σ1.put 28 (.sh,.str [m])=σ2 at e2 n2 b1
 have l2:=n2.len.trans l1
 have jl:(A4 [m] (part :: W)).length≤187:=by
  refine Nat.le_trans (K8 _ _) ?_
  have:=V1 (b:=10) (l:=part :: W) fun a ha=>(hA a ha).2
  rw [List.length_cons] at this
  show ((part :: W).map fun a=>a.length+1).sum≤187
  lia
 have jm:∀c∈A4 [m] (part :: W),c∈A5++D7:=fun c hc=>by
  rcases M4 hc with q | ⟨a,h2,h3⟩
  ·rw [List.mem_singleton] at q;rw [q];exact List.mem_append_right _ hm
  ·exact List.mem_append_left _ ((hA a h2).1 c h3)
 have fl:((A4 [m] (part :: W)).flatMap (code (Ai k))).length≤4096:=by
  have:=Lk (f:=code (Ai k)) (b:=6) (t:=A4 [m] (part :: W)) fun c hc=>(Gc k hks c (jm c hc)).2.1
  lia
 have e3:=Dt (x:=29) (Aax (P:=P) (n:=n+51) (σ:=σ2) (mk:=28) (p:=12) (w:=14) (ow:=ow) ho b1 ((n2.get 12 (by decide)).trans ((n1.get 12 (by decide)).trans gp)) ((n2.get 14 (by decide)).trans ((n1.get 14 (by decide)).trans gw)) (lp0 l2 (by decide)) (by decide) (by lia) (Nat.le_trans jl (by decide)))
 have hA':∀a∈part :: W,∀c∈a,c∈A5:=fun a ha=>(hA a ha).1
 have n3:Ahg [14,29] σ2 ((σ2.put 14 (.sh,.list (W.map D.str))).put 29 (.sh,.str (A4 [m] (part :: W)))):=((Ahg.refl _ _).put (by decide) _).put (by decide) _
 have c1:((σ2.put 14 (.sh,.list (W.map D.str))).put 29 (.sh,.str (A4 [m] (part :: W)))).get 29=some (.sh,.str (A4 [m] (part :: W))):=Ap (by rw [Ag7,l2];decide)
 have c2:((σ2.put 14 (.sh,.list (W.map D.str))).put 29 (.sh,.str (A4 [m] (part :: W)))).get 14=some (.sh,.list (W.map D.str)):=(Ay (by decide)).trans (Ap (lp0 l2 (by decide)))
 generalize (σ2.put 14 (.sh,.list (W.map D.str))).put 29 (.sh,.str (A4 [m] (part :: W)))=σ3 at e3 n3 c1 c2
 have l3:=n3.len.trans l2
 have e4:=Dt (x:=30) (Aaj (P:=P) (n:=n+46) (σ:=σ3) hks hP ((n3.get 26 (by decide)).trans ((n2.get 26 (by decide)).trans a1)) c1 fl)
 have n4:Ahg [30] σ3 (σ3.put 30 (.sh,.str ((A4 [m] (part :: W)).flatMap (code (Ai k))))):=(Ahg.refl _ _).put (by decide) _
 have d1:(σ3.put 30 (.sh,.str ((A4 [m] (part :: W)).flatMap (code (Ai k))))).get 30=some (.sh,.str ((A4 [m] (part :: W)).flatMap (code (Ai k)))):=Ap (lp0 l3 (by decide))
 generalize σ3.put 30 (.sh,.str ((A4 [m] (part :: W)).flatMap (code (Ai k))))=σ4 at e4 n4 d1
 have l4:=n4.len.trans l3
 have n14:Ahg [26,27,28,29,14,30,31] σ σ4:=(((n1.mono (by decide)).trans (n2.mono (by decide))).trans (n3.mono (by decide))).trans (n4.mono (by decide))
 have d2:σ4.get 27=some (.sh,.Ahf (Hn k)):=(n4.get 27 (by decide)).trans ((n3.get 27 (by decide)).trans ((n2.get 27 (by decide)).trans a2))
 have d5:σ4.get 28=some (.sh,.str [m]):=(n4.get 28 (by decide)).trans ((n3.get 28 (by decide)).trans b1)
 have e5:=Zx (P:=P) (n:=n+46) (σ:=σ4) (pg:=30) (tb:=27) (ln:=29) (s:=50) hks jm (by lia) fl d1 d2 ((n4.get 29 (by decide)).trans c1) ((n14.get 50 (by decide)).trans gs) (lp0 l4 (by decide)) (by decide) [.ret (.lit (.bool false))]
 have e6:=Dt (x:=31) (Uo (P:=P) (n:=n+51) (σ:=σ4) (l:=part :: W) (pg:=30) (tb:=27) (mk:=28) hks hm (List.cons_ne_nil _ _) hA' d1 fl d2 d5)
 have n5:Ahg [31] σ4 (σ4.put 31 (.sh,.list (((part :: W).map (Fq k)).map D.str))):=(Ahg.refl _ _).put (by decide) _
 refine ⟨σ4.put 31 (.sh,.list (((part :: W).map (Fq k)).map D.str)),k,m,?_,n14.trans (n5.mono (by decide)),hks,hm,⟨?_,(n5.get 27 (by decide)).trans d2,(n5.get 28 (by decide)).trans d5,Ap (lp0 l4 (by decide)),?_⟩⟩
 ·exact (Gg e1).trans ((Gg e2).trans ((Gg e3).trans ((Gg e4).trans ((Gg e5).trans (Gg e6)))))
 ·exact (n5.get 26 (by decide)).trans ((n4.get 26 (by decide)).trans ((n3.get 26 (by decide)).trans ((n2.get 26 (by decide)).trans a1)))
 ·exact (n5.get 14 (by decide)).trans ((n4.get 14 (by decide)).trans c2)
end
end Mine
end
section
set_option autoImplicit false
namespace Mine
section
variable {n:Nat} {σ:St} {P:List (Nat×Ahc)}
structure Aiz(σ:St)(k:Nat)(x y z:Nat):Prop where
 len:σ.length=56
 g4:σ.get 4=some (.sh,.list (B9 [x,y,z]))
 g5:σ.get 5=some (.sh,.list (([x,y,z].map Aj).map .int))
 g17:∃A:List Int,A.length≤401∧σ.get 17=some (.own,.list (A.map D.int))
 g26:σ.get 26=some (.sh,.fn (Ct k))
 free:∀j,50≤j→σ.get j=none
theorem X4:∀j∈KS,G1.P.lookup (Ct j)=some ⟨1,1,[.Aht ((Ai j).map P3++[.ret (.var 0)])]⟩:=by
 intro j hj
 simp only [KS,List.mem_cons,List.mem_nil_iff,or_false] at hj
 rcases hj with rfl | rfl | rfl | rfl | rfl <;> rfl
theorem Abt{c0 c1 c2 c3:Int}{x y z:Nat}{R:List (List Nat)}{row:List Nat}{T:List Int}(B:Aiy σ c0 c1 c2 c3 x y z R (szF R) row T)(hA:∀w∈[x,y,z],w∈A5)(hn:[x,y,z].Nodup)(hr4:row.length=4)(hr3:∀g∈row,g<3)(h0:0≤c3)(h1:c3<2 ^ 40)
  (hR0:R≠[]) (hRl:R.length≤16) (hRr:∀r∈R,r.length=szF R∧∀g∈r,g<3) (hsz:szF R≤6) :
  Ex2 fun σ' k=>And3 (exs (Ev G1.P (n+100)) (G1.Ail.drop 16) σ=exs (Ev G1.P (n+100)) (G1.Ail.drop 26) σ') (k∈KS) (Aiz σ' k x y z):=by
 obtain ⟨o14,ho14,g14⟩:=B.g14
 have hl:=B.len
 have rA:∀r:List Nat,∀w∈r.map (S3 x y z),w∈A5:=fun r w hw=>by
  obtain ⟨g,_,rfl⟩:=List.mem_map.mp hw
  exact hA _ (Lz ..)
 have hW:∀a∈row.map (S3 x y z) :: (R.map fun r=>r.map (S3 x y z)),(∀u∈a,u∈A5)∧a.length≤6:=fun a ha=>by
  rcases List.mem_cons.mp ha with rfl | q
  ·exact ⟨rA row,by rw [List.length_map];lia⟩
  ·obtain ⟨r,hr,rfl⟩:=List.mem_map.mp q
   exact ⟨rA r,by rw [List.length_map,(hRr r hr).1];exact hsz⟩
 obtain ⟨σ1,k,m,e1,n1,hk,hm,Pg⟩:=Us (P:=G1.P) (n:=n+40) (σ:=σ) rfl X4 (rest:=G1.Ail.drop 22) B.g1 (v:=c3) rfl h0 h1 ho14 B.g12 g14 (B.free 50 (by decide)) (fun a ha=>⟨(hW a ha).1,by have:=(hW a ha).2;lia⟩) (by rw [List.length_map];exact hRl) hl
 have e1':exs (Ev G1.P (n+100)) (G1.Ail.drop 16) σ=exs (Ev G1.P (n+100)) (G1.Ail.drop 22) σ1:=e1
 have hl1:σ1.length=56:=n1.len.trans hl
 have kp:∀j,j∉[26,27,28,29,14,30,31]→σ1.get j=σ.get j:=fun j h=>n1.get j h
 have q1:σ1.get 1=some (.sh,.list [.int c0,.int c1,.int c2,.int c3]):=(kp 1 (by decide)).trans B.g1
 obtain ⟨p,hp,_,f1,f2⟩:=Lo (c:=c3) (m:=25) (k:=R.length) h0 h1 (by decide) (by decide) (List.length_pos_iff.mpr hR0)
 have i3:Ar (.list [.int c0,.int c1,.int c2,.int c3]) (.int 3)=some (.int c3):=rfl
 have gW:=Pg.gW
 have gP:=Pg.gp
 have e22:(Ev G1.P (n+100)).ex Wh σ1=some (.next,σ1.put 32 (.sh,.int (p:Nat))):=by
  have f1':A3 .fdiv (.int c3) (.int 25)=some (.int (c3.fdiv 25)):=f1
  have f2':A3 .mod (.int (c3.fdiv 25)) (.int (R.length:Nat))=some (.int p):=f2
  have hlen:((R.map fun r=>r.map (S3 x y z)).map D.str).length=R.length:=by rw [List.length_map,List.length_map]
  unfold Wh
  generalize (R.map fun r=>r.map (S3 x y z)).map D.str=L at *
  simp [q1,i3,f1',gW,hlen,f2',A8,again]
 generalize hσ2:σ1.put 32 (.sh,.int (p:Nat))=σ2 at e22
 have hl2:σ2.length=56:=(Bg hσ2).trans hl1
 have k2:∀j,j≠32→σ2.get j=σ1.get j:=fun j h=>Di hσ2 h
 have u32:σ2.get 32=some (.sh,.int (p:Nat)):=by rw [← hσ2];exact Ap (lp0 hl1 (by decide))
 have u31:=(k2 31 (by decide)).trans gP
 have hLl:((row.map (S3 x y z) :: (R.map fun r=>r.map (S3 x y z))).map (Fq k)).length=R.length+1:=by rw [List.length_map,List.length_cons,List.length_map]
 have p0:((row.map (S3 x y z) :: (R.map fun r=>r.map (S3 x y z))).map (Fq k))[0]'(by exact Nat.zero_lt_succ (List.map (Fq k) (List.map (fun r=>List.map (S3 x y z) r) R)).length)=Fq k (row.map (S3 x y z)):=rfl
 have p1:((row.map (S3 x y z) :: (R.map fun r=>r.map (S3 x y z))).map (Fq k))[1+p]'(by lia)=Fq k (R[p].map (S3 x y z)):=by
  rw [List.getElem_map]
  congr 1
  simp [Nat.add_comm 1 p]
 have x0:=P0 (L:=(row.map (S3 x y z) :: (R.map fun r=>r.map (S3 x y z))).map (Fq k)) (k:=0) (by exact Nat.zero_lt_succ (List.map (Fq k) (List.map (fun r=>List.map (S3 x y z) r) R)).length) (by decide)
 have x1:=P0 (L:=(row.map (S3 x y z) :: (R.map fun r=>r.map (S3 x y z))).map (Fq k)) (k:=1+p) (by lia) (by lia)
 rw [p0] at x0
 rw [p1] at x1
 have hr:=hRr R[p] (List.getElem_mem hp)
 obtain ⟨a1,a2⟩:=P4 hk (rA row)
 obtain ⟨b1,b2⟩:=P4 hk (rA R[p])
 rw [List.length_map] at a1 b1
 have hsub:(Fq k (R[p].map (S3 x y z))).Sublist (Fq k (row.map (S3 x y z)))↔R[p].Sublist row:=(Abq hk (rA R[p]) (rA row)).trans (Sm hn hr.2 hr3)
 generalize Fq k (row.map (S3 x y z))=A at *
 generalize Fq k (R[p].map (S3 x y z))=Bq at *
 generalize hPL:((row.map (S3 x y z) :: (R.map fun r=>r.map (S3 x y z))).map (Fq k)).map D.str=PL at *
 have x1':Ar (.list PL) (.int (1+(p:Int)))=some (.str Bq):=by rw [← x1];congr 2
 have x0':Ar (.list PL) (.int 0)=some (.str A):=x0
 have lA:A.length≤40:=by lia
 have lB:Bq.length≤40:=by have:=hr.1;lia
 let lg:Int:=2 * ((A.length:Int) - Bq.length)
 have mu:A3 .mul (.int 2) (.int ((A.length:Int) - Bq.length))=some (.int lg):=J2 rfl (Dd (K6 (Nat.lt_of_le_of_lt (by assumption) (by decide)) (Nat.lt_of_le_of_lt (by assumption) (by decide))))
 have e23:(Ev G1.P (n+100)).ex Wg σ2=some (.next,σ2.put 33 (.sh,.int lg)):=by
  unfold Wg
  simp [u31,u32,x0',x1',mu,A8,again]
 generalize hσ3:σ2.put 33 (.sh,.int lg)=σ3 at e23
 have hl3:σ3.length=56:=(Bg hσ3).trans hl2
 have k3:∀j,j≠33→σ3.get j=σ2.get j:=fun j h=>Di hσ3 h
 have v33:σ3.get 33=some (.sh,.int lg):=by rw [← hσ3];exact Ap (lp0 hl2 (by decide))
 have v31:=(k3 31 (by decide)).trans u31
 have v32:=(k3 32 (by decide)).trans u32
 obtain ⟨An,hAn,g17⟩:=B.g17
 have v17:σ3.get 17=some (.own,.list (An.map D.int)):=by rw [k3 17 (by decide),k2 17 (by decide),kp 17 (by decide)];exact g17
 have cl:=c28 (P:=G1.P) (n:=n+28) rfl rfl (a:=Bq) (b:=A) (m:=lg) b2 a2 (Nat.le_trans (by assumption) (by decide)) (Nat.le_trans (by assumption) (by decide))
 let t:Int:=lv Bq A lg
 have e24:(Ev G1.P (n+100)).ex Wf σ3=some (.next,σ3.put 17 (.own,.list ((An++[t]).map D.int))):=by
  have cl':(Ev G1.P (n+98)).call 28 [(.sh,.str Bq),(.sh,.str A),(.sh,.int lg)]=some (.int t,some (.sh,.str A))∨True:=.inr trivial
  have hz:(An.map D.int).length<line:=by rw [List.length_map];exact Nat.lt_of_le_of_lt (by assumption) (by decide)
  have fin:(An.map D.int)++[D.int t]=(An++[t]).map D.int:=by simp
  rw [← fin]
  generalize An.map D.int=AL at *
  unfold Wf
  simp [v17,v31,v32,v33,x0',x1',cl,Ij,Mg,hz,A8,again]
  rfl
 generalize hσ4:σ3.put 17 (.own,.list ((An++[t]).map D.int))=σ4 at e24
 have hl4:σ4.length=56:=(Bg hσ4).trans hl3
 have k4:∀j,j≠17→σ4.get j=σ3.get j:=fun j h=>Di hσ4 h
 have w17:σ4.get 17=some (.own,.list ((An++[t]).map D.int)):=by rw [← hσ4];exact Ap (lp0 hl3 (by decide))
 have w33:=(k4 33 (by decide)).trans v33
 have w32:=(k4 32 (by decide)).trans v32
 have w20:σ4.get 20=some (.sh,.int (Ds (szF R) row)):=by rw [k4 20 (by decide),k3 20 (by decide),k2 20 (by decide),kp 20 (by decide)];exact B.g20
 have w22:σ4.get 22=some (.sh,.list (T.map D.int)):=by rw [k4 22 (by decide),k3 22 (by decide),k2 22 (by decide),kp 22 (by decide)];exact B.g22
 have hTl:p<T.length:=by rw [B.told.1];exact hp
 have told:=(B.told.2 p R[p] T[p] (List.getElem?_eq_getElem hp) (List.getElem?_eq_getElem hTl)).2
 have ts:=(Mj (a:=Bq) (b:=A) (e:=0) (Int.le_refl 0) lB lA t (by left;show lv Bq A lg=_;congr 1;show lg=_;lia)).2
 have heq:decide (t=lg)=decide (T[p]=Ds (szF R) row):=by
  rw [decide_eq_decide,told]
  exact (show t=lg↔_ from ts).trans hsub
 have il:=P1 (A:=An) (t:=t)
 have it':Ar (.list (T.map D.int)) (.int (p:Nat))=some (.int T[p]):=by
  rw [E9 (by lia),List.getElem?_eq_getElem hTl];rfl
 have e25:(Ev G1.P (n+100)).ex We σ4=some (.next,σ4):=by
  have cc:∀b:Bool,C3 .ne (.bool b) (.bool b)=some false:=by decide
  unfold We
  generalize (An++[t]).map D.int=L1 at *
  generalize T.map D.int=L2 at *
  simp only [De,Wb,D5,Ei,Cu,D9,Hb,A8,w17,w33,w32,w20,w22,Option.map_some,Option.bind_some,Act,Dg,Pm,again,il,it',iE1,iE2,Bool.false_eq_true,if_false,C5,D2,Ir,heq,cc,C7,Kl]
 refine ⟨σ4,k,?_,hk,⟨hl4,?_,?_,⟨An++[t],by simp;lia,w17⟩,?_,fun j hj=>?_⟩⟩
 ·rw [e1',show G1.Ail.drop 22=Wh :: Wg :: Wf :: We :: G1.Ail.drop 26 from rfl]
  exact Am e22 (Am e23 (Am e24 (Am e25 rfl)))
 ·rw [k4 4 (by decide),k3 4 (by decide),k2 4 (by decide),kp 4 (by decide)];exact B.g4
 ·rw [k4 5 (by decide),k3 5 (by decide),k2 5 (by decide),kp 5 (by decide)];exact B.g5
 ·rw [k4 26 (by decide),k3 26 (by decide),k2 26 (by decide)];exact Pg.gw
 ·rw [k4 j (by lia),k3 j (by lia),k2 j (by lia),kp j (nin (by assumption) (by decide))];exact B.free j hj
end
end Mine
end
section
set_option autoImplicit false
set_option maxRecDepth 100000
namespace Mine
noncomputable def Qj:List Nat:=[97,109,112,108,116,103]
noncomputable def mx2(a b:Int):Int:=if a<b then b else a
noncomputable def J8(a b:List Nat):Int:=if a=b then ((a.filter fun c=>Qj.contains c).length:Nat) else if a.headD 0≠b.headD 0 then 2 * mx2 a.length b.length else if a.length=b.length then 3 else 6
noncomputable def Ix:List (List Nat):=[38,97,109,112,59] :: [38,108,116,59] :: [38,103,116,59] :: (A5.filter (·≠38)).map fun c=>[c]
theorem Hx:∀k∈KS,∀c∈A5,code (Ai k) c∈Ix:=by decide +kernel
noncomputable def Adf(a b:List Nat):Bool:=decide (lv a (b.map Ot) (J8 a b)=J8 a b) && decide (lv (a.map Ot) b (J8 a b)=J8 a b)
theorem Ux:(Ix.all fun a=>Ix.all fun b=>Adf a b)=true:=by decide +kernel
theorem K5:∀a∈Ix,a≠[]∧a.length≤5∧(∀c∈a,c<128)∧(∀c∈a.map Ot,c<128):=by decide +kernel
section
variable {n:Nat} {σ:St} {P:List (Nat×Ahc)} {F:Ahl}
theorem Afa{L M:List D}{k:Nat}(hM:M.length=k)(hk:0<k)(hk2:k<100):Em (.list (L++M)) (.int (-(k:Int))) .none false=some (.list M):=by
 have hs:sml (-(k:Int))=true:=Dd (by lia)
 simp only [Em,Aee,Xd,Uw,Option.bind_some,hs,if_true,cut,bnd]
 rw [if_neg (by lia),List.take_length,show (-(k:Int)+((L++M).length:Nat)).toNat=L.length by rw [List.length_append];lia,List.drop_left]
theorem Ae4{a b:Int}:biD .max [.int a,.int b]=some (.int (mx2 a b)):=rfl
theorem Ur{w i j:Nat}{ds:List D}(gw:σ.get w=some (.sh,.list ds))(gi:σ.get i=none)(gj:σ.get j=none)(li:i<σ.length)(lj:j<σ.length)(wi:w≠i)(wj:w≠j)(ij:i≠j)(hz:ds.length≤10) :
  Av (Ev P (n+4)) (.comp (.tup [(.var i),(.var j)]) [(.v i,(.var w),[]),(.v j,(.var w),[])]) σ=some (.own,.list (ds.flatMap fun a=>ds.map fun b=>D.tup [a,b]),σ):=by
 have it:∀τ,Ahg [i,j] σ τ→items (Ev P (n+4)) (.var w) τ=some (ds,τ):=fun τ hn=>by
  rw [Ao rfl]
  have:τ.get w=some (.sh,.list ds):=(hn.get w (by simp [wi,wj])).trans gw
  simp [this,Ea]
 have hlen:∀l:List D,(l.flatMap fun a=>ds.map fun b=>D.tup [a,b]).length=l.length * ds.length:=fun l=>by
  induction l with
  |nil=>simp
  |cons a l ih=>rw [List.flatMap_cons,List.length_append,ih,List.length_map,List.length_cons,Nat.succ_mul];exact Nat.add_comm ds.length (l.length * ds.length)
 have hl:(ds.flatMap fun a=>ds.map fun b=>D.tup [a,b]).length≤100:=by
  rw [hlen];exact Nat.le_trans (Nat.mul_le_mul hz hz) (by decide)
 have out:=Dr (F:=Ev P (n+4)) (σ:=σ) (T:=[i,j]) (tg:=.v i) (conds:=[]) (body:=Eb (Ev P (n+4)) (.tup [(.var i),(.var j)]) [(.v j,(.var w),[])]) (Bd:=fun d τ=>τ.get i=some (.sh,d)) (p:=fun ζ=>true)
  (g:=fun d=>ds.map fun b=>D.tup [d,b]) (ds:=ds) (fun d ζ τ h=>Jl (by simp) li d τ h) (fun ζ ζ ζ ζ ζ=>rfl) (fun d hd ζ τ acc hn hb hz2=>?_) σ [] (.refl ..) (by rw [List.filter_eq_self.mpr (fun ζ ζ=>rfl)];simp only [List.length_nil,Nat.zero_add];exact Nat.le_trans (by assumption) (by decide))
 ·obtain ⟨τ,e,hn⟩:=out
  rw [List.filter_eq_self.mpr (fun ζ ζ=>rfl),List.nil_append] at e
  rw [I9,Ch (it σ (.refl ..)),e]
  simp only [Option.map_some,Ab2,Ab3,Ab1]
  have n1:=hn.del (i:=i) gi
  have n2:=n1.del (i:=j) gj
  rw [show List.filter (fun x=>decide (x≠j)) (List.filter (fun x=>decide (x≠i)) [i,j])=[] by simp] at n2
  rw [n2.eq]
 ·have inn:=Dr (F:=Ev P (n+4)) (σ:=τ) (T:=[j]) (tg:=.v j) (conds:=[]) (body:=Eb (Ev P (n+4)) (.tup [(.var i),(.var j)]) []) (Bd:=fun b υ=>υ.get j=some (.sh,b)) (p:=fun ζ=>true)
   (g:=fun b=>[D.tup [d,b]]) (ds:=ds) (fun b ζ υ h=>Jl (by simp) (by rw [hn.len];exact lj) b υ h) (fun ζ ζ ζ ζ ζ=>rfl) (fun b ζ ζ υ acc' hn' hb' hz'=>⟨υ,Gw (by
    have:υ.get i=some (.sh,d):=(hn'.get i (by simp [ij])).trans hb
    simp [this,hb',line]) (by have:acc'.length+1≤line:=hz';assumption),hn'⟩) τ acc (.refl ..) (by rw [List.filter_eq_self.mpr (fun ζ ζ=>rfl),Bk];exact hz2)
  obtain ⟨υ,e,hn'⟩:=inn
  rw [List.filter_eq_self.mpr (fun ζ ζ=>rfl),Bk] at e
  exact ⟨υ,by rw [Ch (it τ hn),e],hn.trans (hn'.mono (by simp))⟩
noncomputable def R5:List S:=[.asg 20 (.ite (.cmp .ne (.idx (.var 35) (.lit (.int 0))) (.idx (.var 36) (.lit (.int 0)))) (.bin .mul (.lit (.int 2)) (.bi .max [(.bi .len [(.var 35)]),(.bi .len [(.var 36)])])) (.ite (.cmp .eq (.bi .len [(.var 35)]) (.bi .len [(.var 36)])) (.lit (.int 3)) (.lit (.int 6)))),.asg 20 (.ite (.cmp .eq (.var 35) (.var 36)) (.bi .len [(.comp (.var 54) [(.v 54,(.var 35),[(.cmp .isIn (.var 54) (.lit (.str [97,109,112,108,116,103])))])])]) (.var 20)),.ext 17 (.list [(.call (.glob (.fn 28)) [(.var 35),(.meth .upper (.var 36) []),(.var 20)] false),(.call (.glob (.fn 28)) [(.meth .upper (.var 35) []),(.var 36),(.var 20)] false)]),.ite (.cmp .ne (.slc (.var 17) (some (.neg (.lit (.int 2)))) none false) (.list [(.var 20),(.var 20)])) [.ret (.lit (.bool false))] []]
noncomputable def Ys(a b:List Nat):Int:=if a.headD 0≠b.headD 0 then 2 * mx2 a.length b.length else if a.length=b.length then 3 else 6
theorem Acv{a:List Nat}(h:∀c∈a,c<128)(hl:a.length≤5):Bw .upper (.str a) []=some (.str (a.map Ot)):=by
 have asc:ascii a=true:=by unfold ascii;rw [List.all_eq_true];exact fun c hc=>decide_eq_true (h c hc)
 simp only [Bw,Gn,Vd,asc,Bool.true_and]
 rw [if_pos (decide_eq_true (by exact Nat.le_trans (by assumption) (by decide)))]
theorem Vj(h21:P.lookup 21=some G1.Ah2)(h28:P.lookup 28=some G1.Ah3){a b:List Nat}(ha:a∈Ix)(hb:b∈Ix){A:List Int}(hl:σ.length=56)(hA:A.length≤5000)(g35:σ.get 35=some (.sh,.str a))(g36:σ.get 36=some (.sh,.str b))(g17:σ.get 17=some (.own,.list (A.map .int)))(g54:σ.get 54=none) :
  ∃σ',exs (Ev P (n+90)) R5 σ=some (.next,σ')∧Ahg [17,20] σ σ'∧σ'.get 17=some (.own,.list ((A++[J8 a b,J8 a b]).map .int)):=by
 obtain ⟨a0,a5,a1,au⟩:=K5 a ha
 obtain ⟨b0,b5,b1,bu⟩:=K5 b hb
 have nb:=List.all_eq_true.mp (List.all_eq_true.mp Ux a ha) b hb
 simp only [Adf,Bool.and_eq_true,decide_eq_true_eq] at nb
 have ia:Ar (.str a) (.int 0)=some (.str [a.headD 0]):=by
  match a,a0 with
  |c :: r,_=>rfl
 have ib:Ar (.str b) (.int 0)=some (.str [b.headD 0]):=by
  match b,b0 with
  |c :: r,_=>rfl
 have sn:∀c d:Nat,C3 .ne (.str [c]) (.str [d])=some (decide (c≠d)):=fun c d=>by
  rw [Adw];congr 1
  rw [Bool.eq_iff_iff,Bool.not_eq_true',beq_eq_false_iff_ne,decide_eq_true_eq]
  simp
 have mu:A3 .mul (.int 2) (.int (mx2 a.length b.length))=some (.int (2 * mx2 a.length b.length)):=J2 rfl (Dd (by unfold mx2;split <;> lia))
 have hle:decide ((a.length:Int)=b.length)=decide (a.length=b.length):=by rw [decide_eq_decide];exact Int.ofNat_inj
 have s1:(Ev P (n+90)).ex (.asg 20 (.ite (.cmp .ne (.idx (.var 35) (.lit (.int 0))) (.idx (.var 36) (.lit (.int 0)))) (.bin .mul (.lit (.int 2)) (.bi .max [(.bi .len [(.var 35)]),(.bi .len [(.var 36)])])) (.ite (.cmp .eq (.bi .len [(.var 35)]) (.bi .len [(.var 36)])) (.lit (.int 3)) (.lit (.int 6))))) σ=some (.next,σ.put 20 (.sh,.int (Ys a b))):=by
  unfold Ys
  by_cases q:a.headD 0=b.headD 0
  ·rw [if_neg (by simpa using q)]
   by_cases r:a.length=b.length
   ·rw [if_pos r]
    rw [decide_eq_true r] at hle
    simp only [De,Hd,Dp,Mu,D5,Ei,Cu,D9,Hb,A8,g35,g36,Option.map_some,Option.bind_some,Dg,again,ia,ib,iE1,iE2,Bool.false_eq_true,if_false,sn,ne_eq,q,not_true_eq_false,decide_false,C7,Sd,Xp,Ir,hle,if_true,Ade,E5]
   ·rw [if_neg r]
    rw [decide_eq_false r] at hle
    simp only [De,Hd,Dp,Mu,D5,Ei,Cu,D9,Hb,A8,g35,g36,Option.map_some,Option.bind_some,Dg,again,ia,ib,iE1,iE2,Bool.false_eq_true,if_false,sn,ne_eq,q,not_true_eq_false,decide_false,C7,Sd,Xp,Ir,hle,Ade,E5]
  ·rw [if_pos q]
   have q':decide (¬a.headD 0=b.headD 0)=true:=decide_eq_true q
   simp only [De,Hd,Dp,Mu,D5,Ei,Cu,D9,Hb,A8,g35,g36,Option.map_some,Option.bind_some,Dg,again,ia,ib,iE1,iE2,Bool.false_eq_true,if_false,sn,ne_eq,q',C7,Sd,Xp,if_true,o_bin,E0,L3 (show Bi.max≠.len from nofun) (show Bi.max≠.list from nofun),Dm,Et,Ae4,mu,E5]
 generalize hσ1:σ.put 20 (.sh,.int (Ys a b))=σ1 at s1
 have hl1:σ1.length=56:=(Bg hσ1).trans hl
 have k1:∀j,j≠20→σ1.get j=σ.get j:=fun j h=>Di hσ1 h
 have c20:σ1.get 20=some (.sh,.int (Ys a b)):=by rw [← hσ1];exact Ap (lp0 hl (by decide))
 have c35:=(k1 35 (by decide)).trans g35
 have c36:=(k1 36 (by decide)).trans g36
 have s2:(Ev P (n+90)).ex (.asg 20 (.ite (.cmp .eq (.var 35) (.var 36)) (.bi .len [(.comp (.var 54) [(.v 54,(.var 35),[(.cmp .isIn (.var 54) (.lit (.str [97,109,112,108,116,103])))])])]) (.var 20))) σ1=some (.next,σ1.put 20 (.sh,.int (J8 a b))):=by
  by_cases q:a=b
  ·have asc:ascii a=true:=by unfold ascii;rw [List.all_eq_true];exact fun c hc=>decide_eq_true (a1 c hc)
   have it:items (Ev P (n+84)) (.var 35) σ1=some (a.map fun c=>D.str [c],σ1):=by
    rw [Ao rfl];simp [c35,Adi,asc]
   have key:=Gv (F:=Ev P (n+84)) (σ:=σ1) (σ₁:=σ1) (i:=54) (elt:=.var 54) (cs:=[(.cmp .isIn (.var 54) (.lit (.str [97,109,112,108,116,103])))]) (p:=fun d=>mS d false fun c=>Qj.contains c) (g:=fun d=>d) ((k1 54 (by decide)).trans g54) (lp0 hl1 (by decide)) it (fun d hd υ hn hbd=>?_) (fun d hd ζ υ hn hbd=>?_) (by rw [List.length_map];exact Nat.le_trans (by assumption) (by decide))
   ·have hlen:((List.filter (fun d=>mS d false fun c=>Qj.contains c) (a.map fun c=>D.str [c])).map fun d=>d).length=(a.filter fun c=>Qj.contains c).length:=by
     rw [List.length_map,List.filter_map,List.length_map];rfl
    generalize (List.filter (fun d=>mS d false fun c=>Qj.contains c) (a.map fun c=>D.str [c])).map (fun d=>d)=L at *
    have e0:J8 a b=((a.filter fun c=>Qj.contains c).length:Nat):=if_pos q
    rw [e0]
    have beq:(a == b)=true:=by rw [q];simp
    rw [show n+90=n+84+1+1+1+1+1+1 from rfl]
    simp only [De,Hd,Dp,Mu,D5,Ei,Cu,D9,C5,c35,c36,D2,Option.bind_some,iE1,Bool.false_eq_true,if_false,c_eqs,beq,Option.map_some,C7,if_true,Aao,Sd,A8,Ff,key,Cp,Afb,hlen,E5]
   ·obtain ⟨c,hc,rfl⟩:=List.mem_map.mp hd
    have cc:C3 .isIn (.str [c]) (.str [97,109,112,108,116,103])=some (Qj.contains c):=rfl
    rw [show n+84=n+83+1 from rfl]
    simp only [mS_s,all_cons,G0,D5,Ei,Cu,D9,C5,hbd,D2,Option.bind_some,iE7,if_true,A8,Dg,cc,Option.map_some,C7]
    cases Qj.contains c <;> rfl
   ·simp [hbd]
  ·have e0:J8 a b=Ys a b:=if_neg q
   have beq:(a == b)=false:=beq_eq_false_iff_ne.mpr q
   rw [e0]
   simp [c35,c36,c20,iE1,beq]
 rw [← hσ1,Kb] at s2
 generalize J8 a b=d at *
 rw [hσ1] at s2
 generalize hσ2:σ.put 20 (.sh,.int d)=σ2 at s2
 have hl2:σ2.length=56:=(Bg hσ2).trans hl
 have k2:∀j,j≠20→σ2.get j=σ.get j:=fun j h=>Di hσ2 h
 have d20:σ2.get 20=some (.sh,.int d):=by rw [← hσ2];exact Ap (lp0 hl (by decide))
 have d35:=(k2 35 (by decide)).trans g35
 have d36:=(k2 36 (by decide)).trans g36
 have d17:=(k2 17 (by decide)).trans g17
 have ua:=Acv a1 a5
 have ub:=Acv b1 b5
 have cl1:=c28 (P:=P) (n:=n+16) h21 h28 (a:=a) (b:=b.map Ot) (m:=d) a1 bu (Nat.le_trans (by assumption) (by decide)) (by rw [List.length_map];lia)
 have cl2:=c28 (P:=P) (n:=n+16) h21 h28 (a:=a.map Ot) (b:=b) (m:=d) au b1 (by rw [List.length_map];lia) (Nat.le_trans (by assumption) (by decide))
 rw [nb.1] at cl1
 rw [nb.2] at cl2
 have s3:(Ev P (n+90)).ex (.ext 17 (.list [(.call (.glob (.fn 28)) [(.var 35),(.meth .upper (.var 36) []),(.var 20)] false),(.call (.glob (.fn 28)) [(.meth .upper (.var 35) []),(.var 36),(.var 20)] false)])) σ2=some (.next,σ2.put 17 (.own,.list (A.map .int++[.int d,.int d]))):=by
  have hz:(A.map D.int).length+2≤line:=by rw [List.length_map];unfold line;lia
  generalize A.map D.int=L at *
  rw [De,Ac2,d17,if_pos (show Ii (some (Own.own,D.list L))=true from rfl)]
  simp [d35,d36,d20,ua,ub,cl1,cl2,line,kd_l,kd_s,d17,xs_o,A8,again]
  unfold line at hz
  lia
 generalize hσ3:σ2.put 17 (.own,.list (A.map .int++[.int d,.int d]))=σ3 at s3
 have hl3:σ3.length=56:=(Bg hσ3).trans hl2
 have k3:∀j,j≠17→σ3.get j=σ2.get j:=fun j h=>Di hσ3 h
 have e17:σ3.get 17=some (.own,.list (A.map .int++[.int d,.int d])):=by rw [← hσ3];exact Ap (lp0 hl2 (by decide))
 have e20:=(k3 20 (by decide)).trans d20
 have sl:=Afa (L:=A.map D.int) (M:=[.int d,.int d]) (k:=2) rfl (by decide) (by decide)
 have sl':Em (.list (A.map .int++[.int d,.int d])) (.int (-2)) .none false=some (.list [.int d,.int d]):=sl
 have nn:C3 .ne (.list [.int d,.int d]) (.list [.int d,.int d])=some false:=by
  have:=Sy (a:=[d,d]) (b:=[d,d]) (by simp)
  simp only [ne_eq,not_true_eq_false,decide_false] at this
  exact this
 have s4:(Ev P (n+90)).ex (.ite (.cmp .ne (.slc (.var 17) (some (.neg (.lit (.int 2)))) none false) (.list [(.var 20),(.var 20)])) [.ret (.lit (.bool false))] []) σ3=some (.next,σ3):=by
  generalize A.map .int++[D.int d,.int d]=L at *
  simp [e17,e20,sl',nn,Pm,iE2,line,A8,again]
 refine ⟨σ3,?_,?_,?_⟩
 ·unfold R5
  exact Am s1 (Am s2 (Am s3 (Am s4 rfl)))
 ·rw [← hσ3,← hσ2];exact ((Ahg.refl _ _).put (by simp) _).put (by simp) _
 ·rw [e17];simp
end
end Mine
end
section
set_option autoImplicit false
namespace Mine
section
variable {n:Nat} {σ:St} {P:List (Nat×Ahc)} {F:Ahl}
theorem Jx(h21:P.lookup 21=some G1.Ah2)(h28:P.lookup 28=some G1.Ah3){σ₀:St}(hl:σ₀.length=56)(g54:σ₀.get 54=none):∀(L:List (List Nat×List Nat)) (A:List Int) (σ:St),Ahg [17,20,35,36] σ₀ σ→(∀p∈L,p.1∈Ix∧p.2∈Ix)→A.length+2 * L.length≤5000→σ.get 17=some (.own,.list (A.map .int))→
  Ex2 fun (σ':St) (A':List Int)=>And4 (Dl (Ev P (n+90)) (.t [35,36]) R5 (L.map fun p=>D.tup [.str p.1,.str p.2]) σ=some (.next,σ')) (Ahg [17,20,35,36] σ₀ σ') (A'.length=A.length+2 * L.length) (σ'.get 17=some (.own,.list (A'.map .int)))
 |[],A,σ,hn,_,_,g=>⟨σ,A,rfl,hn,by simp,g⟩
 |p :: L,A,σ,hn,hp,hz,g=>by
  rw [List.length_cons] at hz
  have l:σ.length=56:=hn.len.trans hl
  have hb:Cy (.t [35,36]) (.tup [.str p.1,.str p.2]) σ=some ((σ.put 35 (.sh,.str p.1)).put 36 (.sh,.str p.2)):=by simp [Zc,Ut,Uu]
  obtain ⟨h1,h2⟩:=hp p List.mem_cons_self
  have n1:Ahg [17,20,35,36] σ₀ ((σ.put 35 (.sh,.str p.1)).put 36 (.sh,.str p.2)):=(hn.put (by simp) _).put (by simp) _
  obtain ⟨σ₁,e1,n2,g1⟩:=Vj (P:=P) (n:=n) h21 h28 h1 h2 (σ:=(σ.put 35 (.sh,.str p.1)).put 36 (.sh,.str p.2)) (A:=A) (by simp [l]) (by exact Nat.le_of_add_right_le hz) (Eq.trans (Ay (by decide)) (Ap (lp0 l (by decide)))) (Ap (lp1 l (by decide))) (Eq.trans (Ay (by decide)) (Eq.trans (Ay (by decide)) g)) ((n1.get 54 (by decide)).trans g54)
  obtain ⟨σ₂,A',e2,n3,h3,g2⟩:=Jx h21 h28 hl g54 L (A++[J8 p.1 p.2,J8 p.1 p.2]) σ₁ (n1.trans (n2.mono (by simp))) (fun q hq=>hp q (List.mem_cons_of_mem _ hq)) (by simp;lia) g1
  refine ⟨σ₂,A',?_,n3,by rw [h3];simp;lia,g2⟩
  rw [List.map_cons,Fp,hb]
  simp only [Option.bind_some,e1,Ax]
  exact e2
theorem Zf{k:Nat}{e:E}{L:List Int}{τ:St}(it:items (Ev P (n+8)) e σ=some (L.map .int,τ))(gk:τ.get k=none)(lk:k<τ.length)(hz:L.length≤10000) :
  Av (Ev P (n+8)) (.comp (.var k) [(.v k,e,[(.or [(.bi .isBool [(.var k)]),(.not (.bi .isInt [(.var k)]))])])]) σ=some (.own,.list [],τ):=by
 have key:=Gv (F:=Ev P (n+8)) (σ:=τ) (σ₁:=σ) (i:=k) (elt:=.var k) (cs:=[(.or [(.bi .isBool [(.var k)]),(.not (.bi .isInt [(.var k)]))])]) (p:=fun ζ=>false) (g:=fun d=>d) gk lk it (fun d hd υ hn hb=>?_) (fun d hd ζ υ hn hb=>?_) (by rw [List.length_map];exact Nat.le_trans (by assumption) (by decide))
 ·rw [key];simp
 ·obtain ⟨j,hj,rfl⟩:=List.mem_map.mp hd
  have b1:biD .isBool [.int j]=some (.bool false):=rfl
  have b2:biD .isInt [.int j]=some (.bool true):=rfl
  rw [show n+8=n+5+1+1+1 from rfl]
  simp only [all_cons,G0,D5,t_or,any_cons,Tv,Qt,T7,t_not,Cu,L3 (show Bi.isBool≠.len from nofun) (show Bi.isBool≠.list from nofun),L3 (show Bi.isInt≠.len from nofun) (show Bi.isInt≠.list from nofun),Dm,Et,C5,hb,D2,Option.bind_some,Option.map_some,b1,b2,C7,Bool.false_eq_true,if_false,Bool.not_true]
 ·simp [hb]
theorem Aa9{k x y z:Nat}(E1:Aiz σ k x y z)(hk:k∈KS)(hA:∀w∈[x,y,z],w∈A5):∃σ',exs (Ev G1.P (n+100)) (G1.Ail.drop 26) σ=some (.ret (.bool true),σ')∧σ'.get 0=σ.get 0:=by
 have hl:=E1.len
 have fr:=E1.free
 have it26:items (Ev G1.P (n+98)) (.var 4) σ=some (B9 [x,y,z],σ):=by rw [Ao rfl];simp [E1.g4,Ea]
 have key:=C9 (F:=Ev G1.P (n+98)) (σ:=σ) (σ₁:=σ) (i:=51) (elt:=.call (.var 26) [(.var 51)] false) (g:=fun d=>mS d .none fun c=>.str (code (Ai k) c)) (fr 51 (by decide)) (lp0 hl (by decide)) it26 (fun d hd τ hn hb=>?_) (by simp [B9,line])
 case refine_1=>
  obtain ⟨c,hc,rfl⟩:=List.mem_map.mp hd
  have t26:τ.get 26=some (.sh,.fn (Ct k)):=(hn.get 26 (by decide)).trans E1.g26
  have cl:=Yj (P:=G1.P) (n:=n+89) hk X4 (t:=[c]) (by have:=(Gc k hk c (List.mem_append_left _ (hA c hc))).2.1;simp;lia)
  have fm:[c].flatMap (code (Ai k))=code (Ai k) c:=by simp
  rw [fm] at cl
  simp [t26,hb,cl]
 have e26:(Ev G1.P (n+100)).ex Ac3 σ=some (.next,σ.put 34 (.own,.list ([code (Ai k) x,code (Ai k) y,code (Ai k) z].map D.str))):=Dt key
 have hN:∀a∈[code (Ai k) x,code (Ai k) y,code (Ai k) z],a∈Ix:=fun a ha=>by
  simp only [List.mem_cons,List.mem_nil_iff,or_false] at ha
  rcases ha with rfl | rfl | rfl
  ·exact Hx k hk x (hA x (by simp))
  ·exact Hx k hk y (hA y (by simp))
  ·exact Hx k hk z (hA z (by simp))
 generalize hNL:[code (Ai k) x,code (Ai k) y,code (Ai k) z]=NL at *
 have hNl:NL.length=3:=by rw [← hNL];rfl
 have g34:(σ.put 34 (.own,.list (NL.map D.str))).get 34=some (.own,.list (NL.map D.str)):=Ap (lp0 hl (by decide))
 generalize hσ1:σ.put 34 (.own,.list (NL.map D.str))=σ1 at e26 g34
 have hl1:σ1.length=56:=(Bg hσ1).trans hl
 have k1:∀j,j≠34→σ1.get j=σ.get j:=fun j h=>Di hσ1 h
 generalize hσ2:σ1.put 34 (.sh,.list (NL.map D.str))=σ2
 have hl2:σ2.length=56:=(Bg hσ2).trans hl1
 have k2:∀j,j≠34→σ2.get j=σ1.get j:=fun j h=>Di hσ2 h
 have p34:σ2.get 34=some (.sh,.list (NL.map D.str)):=by rw [← hσ2];exact Ap (lp0 hl1 (by decide))
 let prs:List (List Nat×List Nat):=NL.flatMap fun a=>NL.map fun b=>(a,b)
 have hprs:((NL.map D.str).flatMap fun a=>(NL.map D.str).map fun b=>D.tup [a,b])=prs.map fun p=>D.tup [.str p.1,.str p.2]:=by
  show _=(NL.flatMap fun a=>NL.map fun b=>(a,b)).map _
  rw [List.flatMap_map,List.map_flatMap]
  congr 1
  funext a
  rw [List.map_map,List.map_map];rfl
 have hpl:prs.length=9:=by show (NL.flatMap fun a=>NL.map fun b=>(a,b)).length=9;rw [← hNL];rfl
 have it27:items (Ev G1.P (n+99)) (.comp (.tup [(.var 52),(.var 53)]) [(.v 52,(.var 34),[]),(.v 53,(.var 34),[])]) σ1=some (prs.map fun p=>D.tup [.str p.1,.str p.2],σ2):=by
  have o:=Ur (P:=G1.P) (n:=n+93) (σ:=σ2) (w:=34) (i:=52) (j:=53) (ds:=NL.map D.str) p34 (by rw [k2 52 (by decide),k1 52 (by decide)];exact fr 52 (by decide)) (by rw [k2 53 (by decide),k1 53 (by decide)];exact fr 53 (by decide)) (lp0 hl2 (by decide)) (lp0 hl2 (by decide)) (by decide) (by decide) (by decide) (by rw [List.length_map,hNl];decide)
  have i1:=Kf (P:=G1.P) (n:=n+96) (σ:=σ1) (o:=.own) (by decide) g34 (lp0 hl1 (by decide))
  have i2:items (Ev G1.P (n+97)) (.var 34) σ2=some (NL.map D.str,σ2):=by
   have:=Kf (P:=G1.P) (n:=n+96) (σ:=σ2) (o:=.sh) (by decide) p34 (lp0 hl2 (by decide))
   rw [K1 p34 (lp0 hl2 (by decide))] at this;exact this
  rw [hσ2] at i1
  have o':Av (Ev G1.P (n+97)) (.comp (.tup [(.var 52),(.var 53)]) [(.v 52,(.var 34),[]),(.v 53,(.var 34),[])]) σ1=some (.own,.list (prs.map fun p=>D.tup [.str p.1,.str p.2]),σ2):=by
   have o2:Av (Ev G1.P (n+97)) (.comp (.tup [(.var 52),(.var 53)]) [(.v 52,(.var 34),[]),(.v 53,(.var 34),[])]) σ2=some (.own,.list (prs.map fun p=>D.tup [.str p.1,.str p.2]),σ2):=by rw [← hprs];exact o
   rw [I9,Ch i2] at o2
   rw [I9,Ch i1]
   exact o2
  rw [Ao rfl]
  rw [show n+99=n+97+1+1 from rfl]
  simp only [Cu,Ff,Dp,o',Cp,Option.bind_some];rfl
 obtain ⟨A,hAl,g17⟩:=E1.g17
 obtain ⟨σ3,A',e27,n3,hA',g17'⟩:=Jx (P:=G1.P) (n:=n+9) rfl rfl (σ₀:=σ2) hl2 (by rw [k2 54 (by decide),k1 54 (by decide)];exact fr 54 (by decide)) prs A σ2 (.refl _ _) (fun p hp=>by
   obtain ⟨a,ha,hb⟩:=List.mem_flatMap.mp hp
   obtain ⟨b,hb',rfl⟩:=List.mem_map.mp hb
   exact ⟨hN a ha,hN b hb'⟩) (by rw [hpl];lia) (by rw [k2 17 (by decide),k1 17 (by decide)];exact g17)
 have e27':(Ev G1.P (n+100)).ex Wd σ1=some (.next,σ3):=by
  unfold Wd
  rw [show n+100=n+99+1 from rfl,De,Jq,it27]
  exact e27
 have hl3:σ3.length=56:=n3.len.trans hl2
 have q5:σ3.get 5=some (.sh,.list (([x,y,z].map Aj).map .int)):=by rw [n3.get 5 (by decide),k2 5 (by decide),k1 5 (by decide)];exact E1.g5
 rw [hpl] at hA'
 have ad:A3 .add (.list (A'.map .int)) (.list (([x,y,z].map Aj).map .int))=some (.list ((A'++[x,y,z].map Aj).map .int)):=by
  rw [Jm (by rw [List.length_map,List.length_map];simp [line];lia)];simp
 have it28:items (Ev G1.P (n+96)) (.bin .add (.var 17) (.var 5)) σ3=some ((A'++[x,y,z].map Aj).map .int,σ3.put 17 (.sh,.list (A'.map .int))):=by
  have q5':(σ3.put 17 (.sh,.list (A'.map .int))).get 5=some (.sh,.list (([x,y,z].map Aj).map .int)):=by rw [Ag6 _ _ _ _ (lp0 hl3 (by decide)),if_neg (by decide)];exact q5
  rw [Ao rfl]
  simp only [Cu,E0,C5,g17',Q2,Option.bind_some,q5',D2,ad,Option.map_some,Ea]
 have ai:=Zf (P:=G1.P) (n:=n+88) (σ:=σ3) (k:=55) it28 (by rw [Ag6 _ _ _ _ (lp0 hl3 (by decide)),if_neg (by decide),n3.get 55 (by decide),k2 55 (by decide),k1 55 (by decide)];exact fr 55 (by decide)) (by rw [Ag7,hl3];decide) (by rw [List.length_append,hA'];simp;lia)
 have ai':Av (Ev G1.P (n+96)) (.comp (.var 55) [(.v 55,(.bin .add (.var 17) (.var 5)),[(.or [(.bi .isBool [(.var 55)]),(.not (.bi .isInt [(.var 55)]))])])]) σ3=some (.own,.list [],σ3.put 17 (.sh,.list (A'.map .int))):=ai
 have e28:(Ev G1.P (n+100)).ex Wc σ3=some (.ret (.bool true),σ3.put 17 (.sh,.list (A'.map .int))):=by
  unfold Wc
  rw [show n+100=n+96+1+1+1+1 from rfl]
  simp only [De,s_ret,Cu,D9,Ff,Dp,ai',Cp,Option.bind_some,iE1,Bool.false_eq_true,if_false,Vn,Xe,Et]
  rfl
 refine ⟨σ3.put 17 (.sh,.list (A'.map .int)),?_,?_⟩
 ·rw [show G1.Ail.drop 26=[Ac3,Wd,Wc] from rfl]
  exact Am e26 (Am e27' (Ad2 e28))
 ·rw [Ag6 _ _ _ _ (lp0 hl3 (by decide)),if_neg (by decide),n3.get 0 (by decide),k2 0 (by decide),k1 0 (by decide)]
end
end Mine
end
section
set_option autoImplicit false
open Mine
namespace G1
theorem law_true(ns:List Int)(h:ns.length≤63):∃back,(Ev P 120).call 137 [(.sh,.Ahm (ns.map D.int))]=some (.bool true,back):=by
 obtain ⟨σ,c0,c1,c2,c3,x,y,z,row,e,e1,B,Mi,he,hA,hn,hr4,hr3,h0,h1⟩:=Aae (n:=19) ns
 obtain ⟨σ1,T,e2,Md⟩:=Aau (n:=19) B Mi he hA hn hr4 hr3 h0 h1
 have K:=Nl he
 obtain ⟨σ2,k,e3,hk,E1⟩:=Abt (n:=19) Md hA hn hr4 hr3 h0 h1 K.ne K.len K.row K.sz
 obtain ⟨σ3,e4,_⟩:=Aa9 (n:=19) E1 hk hA
 have e:exs (Ev P 119) G1.Aic.body (B6 G1.Aic [(.sh,.Ahm (ns.map D.int))])=some (.ret (.bool true),σ3):=by
  have:=e1.trans (e2.trans (e3.trans e4))
  exact this
 refine ⟨σ3.get 0,?_⟩
 refine C4 (P:=P) (n:=119) (a:=137) (f:=G1.Aic) (ss:=[(.sh,.Ahm (ns.map D.int))]) (d:=.bool true) (σ:=σ3) rfl rfl e ?_
 show Q8 (some (.sh,.Ahm (ns.map D.int))) (σ3.get 0)=true
 cases σ3.get 0 with
 |none=>rfl
 |some s=>obtain ⟨o,d⟩:=s;cases o <;> rfl
end G1
end
set_option tactic.hygienic true
open PySem PySem.W PyProof.Rows Mine
set_option tactic.hygienic true
set_option maxRecDepth 100000
set_option maxHeartbeats 8000000
namespace G1
theorem Ado:Vm P:=by
 intro hT H a f h
 obtain ⟨p,loose,mean,mg,mb,K,T⟩:=H
 obtain ⟨S,ps,o,fd,body,t⟩:=Qi (trs T K) _ (Hz h)
 exact ⟨o,fd,S,body,ps,t⟩
theorem biTop:biL.map (fun q=>bootBuiltins q.1)=biL.map (fun q=>some q.2):=by kernel_rfl
theorem biNe:∀q∈biL,q.1 ≠ "__name__" := by decide +kernel
theorem Agq(p:Params):biL.map (fun q=>nsIn (KF1 p) mainGlobals q.1)=biL.map (fun ζ=>some none):=by kernel_rfl
theorem Agj{mb:Str→Option Value}(hb:∀x:Str,x ≠ "__name__" → mb x=bootBuiltins x)(x:Str)(v:Value)(h:biL.lookup x=some v):mb x=some v:=
 (hb x (biNe (x,v) (Hz h))).trans (List.map_inj_left.mp biTop (x,v) (Hz h))
theorem Acd{p:Params}{mg:Str→Option Value}{h:Heap}(K:(KF1 p).In h)(g:h.Ns mainGlobals mg)(x:Str)(v:Value)(hx:biL.lookup x=some v):mg x=none:=
 mg_none_of K g (List.map_inj_left.mp (Agq p) (x,v) (Hz hx))
theorem fnsEq(p:Params):Aa6.map (fun q=>nsIn (KF1 p) mainGlobals q.1)=Aa6.map (fun q=>some (some (.ref q.2))):=by kernel_rfl
theorem N6(p:Params):Xy.map (fun q=>nsIn (KF1 p) mainGlobals q.1)=Xy.map (fun q=>some (some (.int q.2.1 q.2.2))):=by kernel_rfl
theorem fnsP:∀q∈Aa6,(P.lookup q.2).isSome=true∨q=(Str.ofString "_raise_serialization_error",59):=by decide +kernel
theorem Zu{h:Heap}(K:(KF1 w.params).In h):Ahb h 0 (fun ζ=>False) (.ref 29) tokD:=by
 exact Vu (by decide +kernel) (K 29 _ rfl) (by kernel_rfl) (by kernel_rfl) (by kernel_rfl)
theorem Afl{loose:List Str}{mean:ExcName→Option Value}{mg mb:Str→Option Value}{h:Heap}(K:(KF1 w.params).In h)(T:Top vw1 loose mean mg mb h):Gl h:=by
 refine ⟨T.nolimit,⟨_,_,_,_,_,K,T⟩,mg,mb,T.g,T.b,fun x d hx=>?_,fun x v hx=>⟨Acd K T.g x v hx,Agj T.builtins x v hx⟩⟩
 rcases List.mem_append.mp (Hz hx) with m | m
 ·obtain ⟨q,hq,e⟩:=List.mem_map.mp m
  obtain ⟨rfl,rfl⟩:=Prod.mk.inj e
  have m1:=mg_of K T.g (List.map_inj_left.mp (fnsEq _) q hq)
  have ex:∃o,h.get? q.2=some o:=by
   rcases fnsP q hq with e | rfl
   ·obtain ⟨f,hf⟩:=Option.isSome_iff_exists.mp e
    obtain ⟨_,_,o,_,_,t,_⟩:=Qi (trs T K) _ (Hz hf)
    exact ⟨o,t⟩
   ·obtain ⟨a',o,pm,code,doc,h1,h2,_⟩:=T.fn _ (Q3 (i:=5) (by decide))
    obtain rfl:=Value.ref.inj (Ag (h1.symm.trans m1))
    exact ⟨o,h2⟩
  obtain ⟨o,e⟩:=ex
  exact ⟨_,m1,.fn (fun f=>f) e⟩
 ·rcases List.mem_append.mp m with m | m
  ·obtain ⟨q,hq,e⟩:=List.mem_map.mp m
   obtain ⟨rfl,rfl⟩:=Prod.mk.inj e
   exact ⟨_,mg_of K T.g (List.map_inj_left.mp (N6 _) q hq),.int _ _⟩
  ·obtain ⟨rfl,rfl⟩:=Prod.mk.inj (List.mem_singleton.mp m)
   exact ⟨.ref 29,mg_of K T.g (by kernel_rfl),Zu K⟩
end G1
open G1
theorem Mine.said1:PySem.Challenge.rw_tc0041_01.wellSaid=true:=by decide +kernel
theorem Mine.ok1:(chainsOk vw1 && opensWell rr1.prog && (frees rr1.toRowW && rr1.within.isEmpty))=true:=by decide +kernel
theorem PySem.Challenge.cw_tc0041_01_holds : PySem.Challenge.rw_tc0041_01.Holds := by
 refine holds_law said1 fun said=>?_
 refine holds_open (d:=rc 17) (kwd:=[]) (q:=vw1) (loose:=[Str.ofString "EXACT_TOKEN_TYPES"]) (Xt:=fun s=>xlAt vw1 [] s && recOk rr1.records s) (XP:=XL vw1 []) (Yf:=H1.obs) (Ya:=H1.val) (YP:=H1.says) (N:=4202) left1 H1.of H1.keeps (fun s e=>xl_of s (Bool.and_eq_true_iff.mp e).1) XL.keeps (by kernel_rfl) (by kernel_rfl) (by kernel_rfl) (fun s e=>recFacts_of (Bool.and_eq_true_iff.mp e).2) (by rfl) said ok1 ⟨rfl,rfl,rfl,rfl,rfl,by decide +kernel⟩ ?hw ?hc
 case hw=>w_witness2
 refine w_all (fun d₀ kwd₀ hd₀=>?_) (by kernel_rfl)
 intro w' s₀ s₁ mg mb G Y fa o pm cd doc dV kV ho hd hcd hD hmg hg args vals as hpre hlay hrd hwl hlo
 obtain ⟨Y,hw⟩:=Y
 subst hw
 have KX:=kIn_of Y
 refine Ground.open G ?_
 intro T B D TE TW
 wrow_args hpre hlay hrd hwl hlo
 rename_i ns _ _ _ _ _ _ _ l vs _ hL _ _ _ hI _ hlen _
 have hfa:mg "law" = some (.ref fa):=(congrArg mg (show d₀.name = "law" from defOf_name hd₀)).symm.trans hmg
 rw [mg_of KX T.g (show nsIn (KF1 w.params) mainGlobals "law" = some (some (.ref 137)) by kernel_rfl)] at hfa
 obtain rfl:=Value.ref.inj (Ag hfa)
 have GX:=Afl KX T
 obtain ⟨back,hev⟩:=law_true ns (by lia)
 obtain ⟨oL,eL,cL,nL,dL⟩:=hL
 have good:=X6 Ado 119
 refine Nc (P:=P) (F:=Ev P 119) (F':=Ev P 120) rfl good.ex Ado (M:=fun ζ=>False) (X:=fun ζ=>False) GX ⟨rfl,by decide,by decide⟩ (.inr ?_) (fun b o e=>e) (fun b m=>m.elim) (fun b m=>m.elim) (fun b m=>m.elim) (fun b m=>m.elim)
  (.cons (.Ahm (fun f=>f) ⟨oL,eL,cL,nL,dL⟩ (IntsAre.real hI) ?_) .nil) hev fun v s' M' st tk gn os Ain S' up rv hb=>?_
 ·intro f fd S body ps o' hf ho' hd' tf
  have hf':P.lookup 137=some Aic:=by rfl
  obtain rfl:=Ag (hf'.symm.trans hf)
  obtain ⟨a',o2,pm2,code2,doc2,h1,h2,h3,h4⟩:=T.fn _ (Q3 (i:=17) (by decide))
  have h6:=h1.symm.trans (show mg "law" = some (.ref 137) from mg_of KX T.g (by kernel_rfl))
  obtain rfl:=Value.ref.inj (Ag h6)
  obtain rfl:=Ag (h2.symm.trans ho')
  obtain rfl:=Data.func.inj (h3.symm.trans hd')
  exact Uv tf rfl (x:= "script") rfl (by kernel_rfl)
 ·rw [List.length_map,Aw];lia
 ·obtain rfl:=(show Ahb _ _ _ v (.bool true) from rv).inv
  refine PySem.W.GoodW.toG ⟨.inl ⟨.bool true,.bool true,[],rfl,fun cls=>rfl,.bool true,?_,fun ζ=>⟨List.nodup_nil,fun a h=>nomatch h⟩⟩,fun b o e=>st.keep b o (fun f=>f) e,os,gn.trans hg⟩
  first | rfl | (with_unfolding_all rfl)
