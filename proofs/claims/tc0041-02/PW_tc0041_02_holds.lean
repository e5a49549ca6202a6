import PyProof.Rows.All
import PyProof.AttrMiss
import PyProof.EnumMake
import PyProof.ZipIter
import KE.KDictOf
import Wide.FinOn
import OpenK.AllK
import Wide.All
import PySem.Challenge.RW_tc0041_02
set_option Elab.async false
set_option linter.all false
set_option tactic.hygienic false
set_option backward.eqns.nonrecursive false
set_option backward.match.sparseCases false
section
open PySem PySem.W PyProof.Rows
set_option maxRecDepth 100000
set_option maxHeartbeats 8000000
noncomputable section
namespace Mine
noncomputable def enD (P:Params) (x:Str) (t:Tok) (v:Value):DictEntry:=⟨PyData.keyHash P x,.str x t,v⟩
noncomputable def KF2 (P:Params):Frag:=[(3,⟨.type "dict",none,.dict #[enD P "__name__" 165 (.str ("law_tc0041_02") 487),enD P "__doc__" 166 (.none),enD P "__package__" 167 (.none),enD P "__loader__" 168 (.builtin "__main__.__loader__#opaque"),enD P "__spec__" 169 (.none),enD P "__annotations__" 170 (.ref 6),enD P "__builtins__" 171 (.ref 4),enD P "__file__" 173 (.str ("/claim/cut.py") 172),enD P "__cached__" 174 (.none),enD P "_MAX_STRING_SIZE" 190 (.int 40 189),enD P "_MOVE_COST" 192 (.int 2 191),enD P "_CASE_COST" 194 (.int 1 193),enD P "_substitution_cost" 202 (.ref 21),enD P "_levenshtein_distance" 222 (.ref 28),enD P "ENDMARKER" 226 (.int 0 225),enD P "LPAR" 228 (.int 7 227),enD P "RPAR" 230 (.int 8 229),enD P "LSQB" 232 (.int 9 231),enD P "RSQB" 234 (.int 10 233),enD P "COLON" 236 (.int 11 235),enD P "COMMA" 238 (.int 12 237),enD P "SEMI" 240 (.int 13 239),enD P "PLUS" 242 (.int 14 241),enD P "MINUS" 244 (.int 15 243),enD P "STAR" 246 (.int 16 245),enD P "SLASH" 248 (.int 17 247),enD P "VBAR" 250 (.int 18 249),enD P "AMPER" 252 (.int 19 251),enD P "LESS" 254 (.int 20 253),enD P "GREATER" 256 (.int 21 255),enD P "EQUAL" 258 (.int 22 257),enD P "DOT" 260 (.int 23 259),enD P "PERCENT" 262 (.int 24 261),enD P "LBRACE" 264 (.int 25 263),enD P "RBRACE" 266 (.int 26 265),enD P "EQEQUAL" 268 (.int 27 267),enD P "NOTEQUAL" 270 (.int 28 269),enD P "LESSEQUAL" 272 (.int 29 271),enD P "GREATEREQUAL" 274 (.int 30 273),enD P "TILDE" 276 (.int 31 275),enD P "CIRCUMFLEX" 278 (.int 32 277),enD P "LEFTSHIFT" 280 (.int 33 279),enD P "RIGHTSHIFT" 282 (.int 34 281),enD P "DOUBLESTAR" 284 (.int 35 283),enD P "PLUSEQUAL" 286 (.int 36 285),enD P "MINEQUAL" 288 (.int 37 287),enD P "STAREQUAL" 290 (.int 38 289),enD P "SLASHEQUAL" 292 (.int 39 291),enD P "PERCENTEQUAL" 294 (.int 40 293),enD P "AMPEREQUAL" 296 (.int 41 295),enD P "VBAREQUAL" 298 (.int 42 297),enD P "CIRCUMFLEXEQUAL" 300 (.int 43 299),enD P "LEFTSHIFTEQUAL" 302 (.int 44 301),enD P "RIGHTSHIFTEQUAL" 304 (.int 45 303),enD P "DOUBLESTAREQUAL" 306 (.int 46 305),enD P "DOUBLESLASH" 308 (.int 47 307),enD P "DOUBLESLASHEQUAL" 310 (.int 48 309),enD P "AT" 312 (.int 49 311),enD P "ATEQUAL" 314 (.int 50 313),enD P "RARROW" 316 (.int 51 315),enD P "ELLIPSIS" 318 (.int 52 317),enD P "COLONEQUAL" 320 (.int 53 319),enD P "EXCLAMATION" 322 (.int 54 321),enD P "NT_OFFSET" 324 (.int 256 323),enD P "EXACT_TOKEN_TYPES" 421 (.ref 29),enD P "ISTERMINAL" 428 (.ref 38),enD P "ISNONTERMINAL" 435 (.ref 45),enD P "ISEOF" 442 (.ref 52),enD P "_raise_serialization_error" 451 (.ref 59),enD P "_escape_cdata" 458 (.ref 66),enD P "_escape_attrib" 465 (.ref 73),enD P "_escape_attrib_html" 472 (.ref 80),enD P "_escape_cdata_c14n" 479 (.ref 87),enD P "_escape_attrib_c14n" 486 (.ref 94),enD P "_law_signs" 498 (.ref 101),enD P "_law_hand" 504 (.ref 106),enD P "_law_made" 513 (.ref 113),enD P "_law_grammar" 527 (.ref 120),enD P "_law_rows" 533 (.ref 125),enD P "_law_first" 547 (.ref 132),enD P "_law_picked" 558 (.ref 139),enD P "_law_tableaux" 564 (.ref 144),enD P "law" 570 (.ref 149)] 83,#[]⟩),
  (29,⟨.type "dict",none,.dict #[enD P "!" 325 (.int 54 321),enD P "!=" 327 (.int 28 269),enD P "%" 329 (.int 24 261),enD P "%=" 331 (.int 40 293),enD P "&" 333 (.int 19 251),enD P "&=" 335 (.int 41 295),enD P "(" 337 (.int 7 227),enD P ")" 339 (.int 8 229),enD P "*" 341 (.int 16 245),enD P "**" 343 (.int 35 283),enD P "**=" 345 (.int 46 305),enD P "*=" 347 (.int 38 289),enD P "+" 349 (.int 14 241),enD P "+=" 351 (.int 36 285),enD P "," 353 (.int 12 237),enD P "-" 355 (.int 15 243),enD P "-=" 357 (.int 37 287),enD P "->" 359 (.int 51 315),enD P "." 361 (.int 23 259),enD P "..." 363 (.int 52 317),enD P "/" 365 (.int 17 247),enD P "//" 367 (.int 47 307),enD P "//=" 369 (.int 48 309),enD P "/=" 371 (.int 39 291),enD P ":" 373 (.int 11 235),enD P ":=" 375 (.int 53 319),enD P ";" 377 (.int 13 239),enD P "<" 379 (.int 20 253),enD P "<<" 381 (.int 33 279),enD P "<<=" 383 (.int 44 301),enD P "<=" 385 (.int 29 271),enD P "=" 387 (.int 22 257),enD P "==" 389 (.int 27 267),enD P ">" 391 (.int 21 255),enD P ">=" 393 (.int 30 273),enD P ">>" 394 (.int 34 281),enD P ">>=" 395 (.int 45 303),enD P "@" 396 (.int 49 311),enD P "@=" 397 (.int 50 313),enD P "[" 398 (.int 9 231),enD P "]" 399 (.int 10 233),enD P "^" 400 (.int 32 277),enD P "^=" 401 (.int 43 299),enD P "{" 402 (.int 25 263),enD P "|" 403 (.int 18 249),enD P "|=" 404 (.int 42 297),enD P "}" 405 (.int 26 265),enD P "~" 406 (.int 31 275)] 48,#[]⟩)]
abbrev rr2:OpenRow:=PySem.Challenge.rw_tc0041_02.row
noncomputable def isNmS:Stmt→Bool
  | .Assign [.Name x _] _ _=>x == "__name__"
  | _=>false
noncomputable def vw2:Program:=view rr2.prog ((List.range 78).filter fun i=>(rr2.prog.main.body[i]?).all fun s=>!isNmS s)
abbrev H2:Hook:=kHook KF2 [3,29] (fun _=>by kernel_rfl)
noncomputable def EqL2 (w:World):Prop:=(openEnds treeTable rr2.prog w 4318).map (fun s=>(openSeen vw2 [Str.ofString "EXACT_TOKEN_TYPES"] (importedModules rr2.prog.main.body) (fun s=>xlAt vw2 [] s && recOk rr2.records s) true s,H2.obs s))=some (openGood vw2 [Str.ofString "EXACT_TOKEN_TYPES"],H2.val w)
theorem leftF2 (w:World):EqL2 (w.withFollow "special-get-raises" false):=by
  unfold EqL2 openEnds fencedOpening topFrom
  rw [PySem.W.Fast.te4187177175401517315,PySem.W.Fast.te5923862056798008813,PySem.W.Fast.te14364793385576792824,PySem.W.Fast.te10274390034422433532,PySem.W.Fast.te1435165496053646825,PySem.W.Fast.te14289696077712309145,PySem.W.Fast.te14082659384304107361,PySem.W.Fast.te8920871248978507458]
  kernel_rfl
theorem leftT2 (w:World):EqL2 (w.withFollow "special-get-raises" true):=by
  unfold EqL2 openEnds fencedOpening topFrom
  rw [PySem.W.Fast.te4187177175401517315,PySem.W.Fast.te5923862056798008813,PySem.W.Fast.te14364793385576792824,PySem.W.Fast.te10274390034422433532,PySem.W.Fast.te1435165496053646825,PySem.W.Fast.te14289696077712309145,PySem.W.Fast.te14082659384304107361,PySem.W.Fast.te8920871248978507458]
  kernel_rfl
theorem left2:LeftO rr2.prog vw2 [Str.ofString "EXACT_TOKEN_TYPES"] (fun s=>xlAt vw2 [] s && recOk rr2.records s) H2.obs H2.val 4318:=
  fun w=>byRow2 (P:=EqL2) "special-get-raises" leftF2 leftT2 w
end Mine
end
section
set_option genSizeOf false
namespace Mine
inductive D where
  | none | bool (b:Bool) | int (i:Int) | str (s:List Nat) | tstr (s:List Nat) | fn (a:Nat)
  | list (xs:List D) | wlist (xs:List D) | tup (xs:List D) | rng (a b c:Int)
  | idict (es:List (Int × D)) | sdict (es:List (List Nat × D))
  deriving Inhabited
inductive Own where | sh | own | bor
  deriving DecidableEq
abbrev Slot:=Own × D
abbrev St:=List (Option Slot)
noncomputable def St.get (σ:St) (i:Nat):Option Slot:=(σ[i]?).join
noncomputable def St.put (σ:St) (i:Nat) (s:Slot):St:=List.set σ i (some s)
noncomputable def St.del (σ:St) (i:Nat):St:=List.set σ i Option.none
inductive Op where | add | sub | mul | fdiv | mod | pow | band
inductive Cmp where | eq | ne | lt | le | gt | ge | isIn | notIn | isNot
inductive Bi where | len | range | list | min | max | sum | sorted | dictzip | isBool | isInt
inductive Mt where | lower | upper | split | join | index | get
inductive Tg where
  | v (i:Nat) | t (xs:List Nat)
set_option genInjectivity false in
inductive E where
  | lit (d:D) | tlit (s:List Nat) | var (i:Nat) | glob (d:D)
  | bin (o:Op) (l r:E) | neg (e:E) | not (e:E) | and (es:List E) | or (es:List E) | orv (l r:E)
  | ite (t b o:E) | cmp (o:Cmp) (l r:E)
  | list (es:List E) | tup (es:List E) | edict
  | call (f:E) (args:List E) (io:Bool)
  | bi (b:Bi) (args:List E) | meth (m:Mt) (o:E) (args:List E)
  | repl (o old:E) (w:List Nat)
  | idx (o i:E) | idxT (o i:E) | slc (o:E) (l u:Option E) (rev:Bool)
  | comp (elt:E) (gs:List (Tg × E × List E)) | dcomp (k v:E) (g:Tg × E)
  | enum (e:E)
set_option genInjectivity false in
inductive S where
  | app (x:Nat) (e:E) | ext (x:Nat) (e:E)
  | asg (x:Nat) (e:E) | asg2 (x y:Nat) (e:E) | unpk (xs:List Nat) (e:E)
  | tupl (xs:List Nat) (es:List E)
  | swp (x:Nat) (is:List E) (es:List E)
  | put (x:Nat) (i e:E) | aug (o:Op) (x:Nat) (e:E) | augput (o:Op) (x:Nat) (i e:E)
  | ite (t:E) (b o:List S) | whl (t:E) (b:List S) | for (tg:Tg) (it:E) (b:List S)
  | ret (e:E) | tryb (b:List S)
inductive Fl where
  | next | ret (d:D)
noncomputable def line:Nat:=2 ^ 20
noncomputable def sml (i:Int):Bool:=decide (i.natAbs < 2 ^ 63)
noncomputable def tiny (i:Int):Bool:=decide (i.natAbs < 2 ^ 40)
noncomputable def strD:D→Option (List Nat)
  | .str s=>some s
  | _=>Option.none
noncomputable def lstD:D→Option (List D)
  | .list l=>some l
  | _=>Option.none
noncomputable def intD:D→Option Int
  | .int i=>some i
  | _=>Option.none
noncomputable def toInts:List D→Option (List Int)
  | []=>some []
  | d :: r=>(intD d).bind fun i=>(toInts r).map (i :: ·)
noncomputable def toStrs:List D→Option (List (List Nat))
  | []=>some []
  | d :: r=>(strD d).bind fun i=>(toStrs r).map (i :: ·)
noncomputable def toRows:List D→Option (List (List Int))
  | []=>some []
  | d :: r=>(lstD d).bind fun l=>(toInts l).bind fun i=>(toRows r).map (i :: ·)
noncomputable def reps {α:Type} (n:Nat) (l:List α):List α:=(List.replicate n l).flatten
noncomputable def int2 {α:Type} (a b:D) (f:Int→Int→Option α):Option α:=match a with
  | .int x=>(match b with
    | .int y=>f x y
    | _=>Option.none)
  | _=>Option.none
@[simp] theorem int2_int {α:Type} {x y:Int} {f:Int→Int→Option α}:int2 (.int x) (.int y) f=f x y:=rfl
noncomputable def addD (a b:D):Option D:=match a with
  | .int x=>(match b with
    | .int y=>some (.int (x+y))
    | _=>Option.none)
  | .str x=>(match b with
    | .str y=>if x.length+y.length≤line then some (.str (x++y)) else Option.none
    | _=>Option.none)
  | .list x=>(match b with
    | .list y=>if x.length+y.length≤line then some (.list (x++y)) else Option.none
    | _=>Option.none)
  | .tup x=>(match b with
    | .tup y=>if x.length+y.length≤line∧0 < x.length∧0 < y.length then some (.tup (x++y)) else Option.none
    | _=>Option.none)
  | _=>Option.none
@[simp] theorem addD_int {x y:Int}:addD (.int x) (.int y)=some (.int (x+y)):=rfl
@[simp] theorem addD_str {x y:List Nat}:addD (.str x) (.str y)=if x.length+y.length≤line then some (.str (x++y)) else Option.none:=rfl
@[simp] theorem addD_list {x y:List D}:addD (.list x) (.list y)=if x.length+y.length≤line then some (.list (x++y)) else Option.none:=rfl
@[simp] theorem addD_tup {x y:List D}:addD (.tup x) (.tup y)=if x.length+y.length≤line∧0 < x.length∧0 < y.length then some (.tup (x++y)) else Option.none:=rfl
noncomputable def mulD (a b:D):Option D:=match b with
  | .int n=>(match a with
    | .int x=>if sml x && sml n then some (.int (x * n)) else Option.none
    | .str x=>if sml n && decide (x.length * n.toNat≤line) then some (.str (reps n.toNat x)) else Option.none
    | .list x=>if sml n && decide (x.length * n.toNat≤line) then some (.list (reps n.toNat x)) else Option.none
    | _=>Option.none)
  | _=>Option.none
@[simp] theorem mulD_int {x y:Int}:mulD (.int x) (.int y)=if sml x && sml y then some (.int (x * y)) else Option.none:=rfl
@[simp] theorem mulD_str {x:List Nat} {n:Int}:mulD (.str x) (.int n)=if sml n && decide (x.length * n.toNat≤line) then some (.str (reps n.toNat x)) else Option.none:=rfl
@[simp] theorem mulD_list {x:List D} {n:Int}:mulD (.list x) (.int n)=if sml n && decide (x.length * n.toNat≤line) then some (.list (reps n.toNat x)) else Option.none:=rfl
noncomputable def binD (o:Op) (a b:D):Option D:=match o with
  | .add=>addD a b
  | .sub=>int2 a b fun a b=>some (.int (a - b))
  | .mul=>mulD a b
  | .fdiv=>int2 a b fun a b=>if sml a && sml b && decide (b≠0) then some (.int (a.fdiv b)) else Option.none
  | .mod=>int2 a b fun a b=>if decide (b≠0) then some (.int (a.fmod b)) else Option.none
  | .pow=>int2 a b fun a b=>if sml a && decide (0≤b) && decide (b≤1000) then some (.int (a ^ b.toNat)) else Option.none
  | .band=>int2 a b fun a b=>if decide (0≤a) && decide (0≤b) then some (.int ((a.toNat &&& b.toNat:Nat):Int)) else Option.none
noncomputable def eqD (a b:D):Option Bool:=match a with
  | .int x=>(match b with
    | .int y=>some (decide (x=y))
    | _=>Option.none)
  | .str x=>(match b with
    | .str y=>some (x == y)
    | _=>Option.none)
  | .bool x=>(match b with
    | .bool y=>some (x == y)
    | _=>Option.none)
  | .list x=>(match b with
    | .list y=>(match y with
      | []=>some x.isEmpty
      | _ :: _=>(toInts x).bind fun u=>(toInts y).map fun v=>u == v)
    | _=>Option.none)
  | _=>Option.none
@[simp] theorem eqD_int {x y:Int}:eqD (.int x) (.int y)=some (decide (x=y)):=rfl
@[simp] theorem eqD_str {x y:List Nat}:eqD (.str x) (.str y)=some (x == y):=rfl
@[simp] theorem eqD_bool {x y:Bool}:eqD (.bool x) (.bool y)=some (x == y):=rfl
@[simp] theorem eqD_nil {x:List D}:eqD (.list x) (.list [])=some x.isEmpty:=rfl
noncomputable def inD (a b:D):Option Bool:=match a with
  | .str x=>(match x with
    | [c]=>(match b with
      | .str y=>some (y.contains c)
      | _=>Option.none)
    | _=>Option.none)
  | .int x=>(match b with
    | .list y=>(toInts y).map fun l=>l.contains x
    | _=>Option.none)
  | _=>Option.none
@[simp] theorem inD_str {c:Nat} {y:List Nat}:inD (.str [c]) (.str y)=some (y.contains c):=rfl
@[simp] theorem inD_int {x:Int} {y:List D}:inD (.int x) (.list y)=(toInts y).map fun l=>l.contains x:=rfl
noncomputable def notInD (a b:D):Option Bool:=match a with
  | .list x=>(match b with
    | .list y=>(toInts x).bind fun u=>(toRows y).map fun v=>!v.contains u
    | _=>Option.none)
  | _=>Option.none
noncomputable def cmpD (o:Cmp) (a b:D):Option Bool:=match o with
  | .eq=>eqD a b
  | .ne=>(eqD a b).map (!·)
  | .lt=>int2 a b fun a b=>some (decide (a < b))
  | .le=>int2 a b fun a b=>some (decide (a≤b))
  | .gt=>int2 a b fun a b=>some (decide (b < a))
  | .ge=>int2 a b fun a b=>some (decide (b≤a))
  | .isIn=>inD a b
  | .notIn=>notInD a b
  | .isNot=>(match a with
    | .bool x=>(match b with
      | .bool y=>some (!(x == y))
      | _=>Option.none)
    | _=>Option.none)
noncomputable def truD:D→Option Bool
  | .bool b=>some b
  | .int i=>some (decide (i≠0))
  | .str s=>some (!s.isEmpty)
  | .none=>some false
  | _=>Option.none
noncomputable def setKey {α β:Type} [DecidableEq α] (es:List (α × β)) (k:α) (v:β):List (α × β):=
  if es.any (fun e=>e.1=k) then es.map (fun e=>if e.1=k then (e.1,v) else e) else es++[(k,v)]
noncomputable def getKey {α β:Type} [DecidableEq α] (es:List (α × β)) (k:α):Option β:=(es.find? fun e=>e.1=k).map (·.2)
noncomputable def nth {α:Type} (xs:List α) (i:Int):Option α:=
  if 0≤i then xs[i.toNat]? else if -(xs.length:Int)≤i then xs[(i+xs.length).toNat]? else Option.none
noncomputable def idxD (o i:D):Option D:=match o with
  | .list xs=>(match i with
    | .int i=>if sml i then nth xs i else Option.none
    | _=>Option.none)
  | .tup xs=>(match i with
    | .int i=>if sml i then nth xs i else Option.none
    | _=>Option.none)
  | .str xs=>(match i with
    | .int i=>if sml i then (nth xs i).map fun c=>.str [c] else Option.none
    | _=>Option.none)
  | .idict es=>(match i with
    | .int k=>getKey es k
    | _=>Option.none)
  | .sdict es=>(match i with
    | .str k=>getKey es k
    | _=>Option.none)
  | _=>Option.none
noncomputable def bnd (n:Nat) (dflt:Nat):Option Int→Nat
  | Option.none=>dflt
  | some i=>if 0≤i then Nat.min i.toNat n else (i+n).toNat
noncomputable def cut {α:Type} (xs:List α) (l u:Option Int):List α:=
  (xs.take (bnd xs.length xs.length u)).drop (bnd xs.length 0 l)
noncomputable def oint:D→Option (Option Int)
  | .none=>some Option.none
  | .int i=>if sml i then some (some i) else Option.none
  | _=>Option.none
noncomputable def slcF (d:D) (l u:Option Int):Option D:=match d with
  | .list xs=>some (.list (cut xs l u))
  | .wlist xs=>some (.list (cut xs l u))
  | .str xs=>some (.str (cut xs l u))
  | _=>Option.none
noncomputable def revD (d:D):Option D:=match d with
  | .list xs=>some (.list xs.reverse)
  | _=>Option.none
noncomputable def slcD (d l u:D) (rev:Bool):Option D:=(oint l).bind fun l=>(oint u).bind fun u=>match rev with
  | false=>slcF d l u
  | true=>if l.isNone && u.isNone then revD d else Option.none
noncomputable def rsz (a b c:Int):Int:=
  if c > 0 then (if a < b then (b - a - 1) / c+1 else 0) else (if a > b then (a - b - 1) / (-c)+1 else 0)
noncomputable def rangeL (a b c:Int):List Int:=(List.range (rsz a b c).toNat).map fun k:Nat=>a+(k:Int) * c
noncomputable def minL:Int→List Int→Int
  | a,[]=>a
  | a,b :: r=>minL (if b < a then b else a) r
noncomputable def sumL (l:List Int):Int:=l.sum
noncomputable def insL (a:Int):List Int→List Int
  | []=>[a]
  | b :: r=>if a < b then a :: b :: r else b :: insL a r
noncomputable def sortL (l:List Int):List Int:=l.foldl (fun r a=>insL a r) []
noncomputable def lowC (c:Nat):Nat:=if 65≤c∧c≤90 then c+32 else c
noncomputable def uppC (c:Nat):Nat:=if 97≤c∧c≤122 then c - 32 else c
noncomputable def ascii (s:List Nat):Bool:=s.all (· < 128)
noncomputable def one {α:Type} (ds:List D) (f:D→Option α):Option α:=match ds with
  | []=>Option.none
  | a :: r=>(match r with
    | []=>f a
    | _ :: _=>Option.none)
@[simp] theorem one_one {α:Type} {a:D} {f:D→Option α}:one [a] f=f a:=rfl
noncomputable def two {α:Type} (ds:List D) (f:D→D→Option α):Option α:=match ds with
  | []=>Option.none
  | a :: r=>one r (f a)
@[simp] theorem two_two {α:Type} {a b:D} {f:D→D→Option α}:two [a,b] f=f a b:=rfl
noncomputable def lenD (a:D):Option D:=match a with
  | .str s=>some (.int s.length)
  | .list s=>some (.int s.length)
  | _=>Option.none
@[simp] theorem lenD_str {s:List Nat}:lenD (.str s)=some (.int s.length):=rfl
@[simp] theorem lenD_list {s:List D}:lenD (.list s)=some (.int s.length):=rfl
noncomputable def onLst {α:Type} (a:D) (f:List D→Option α):Option α:=match a with
  | .list xs=>f xs
  | _=>Option.none
@[simp] theorem onLst_list {α:Type} {xs:List D} {f:List D→Option α}:onLst (.list xs) f=f xs:=rfl
noncomputable def rangeD (ds:List D):Option D:=match ds with
  | []=>Option.none
  | a :: r=>(match r with
    | []=>(match a with
      | .int b=>if sml b then some (.rng 0 b 1) else Option.none
      | _=>Option.none)
    | b :: r=>(match r with
      | []=>int2 a b fun a b=>if sml a && sml b then some (.rng a b 1) else Option.none
      | c :: r=>(match r with
        | []=>int2 a b fun a b=>(match c with
          | .int c=>if sml a && sml b && sml c && decide (c≠0) then some (.rng a b c) else Option.none
          | _=>Option.none)
        | _ :: _=>Option.none)))
@[simp] theorem rangeD_1 {b:Int}:rangeD [.int b]=if sml b then some (.rng 0 b 1) else Option.none:=rfl
@[simp] theorem rangeD_2 {a b:Int}:rangeD [.int a,.int b]=if sml a && sml b then some (.rng a b 1) else Option.none:=rfl
@[simp] theorem rangeD_3 {a b c:Int}:rangeD [.int a,.int b,.int c]=if sml a && sml b && sml c && decide (c≠0) then some (.rng a b c) else Option.none:=rfl
noncomputable def minD (xs:List D):Option D:=(toInts xs).bind fun l=>match l with
  | a :: r=>some (.int (minL a r))
  | []=>Option.none
noncomputable def isBoolD (a:D):Option D:=match a with
  | .bool _=>some (.bool true)
  | .int _=>some (.bool false)
  | _=>Option.none
noncomputable def isIntD (a:D):Option D:=match a with
  | .bool _=>some (.bool true)
  | .int _=>some (.bool true)
  | _=>Option.none
noncomputable def biD (b:Bi) (ds:List D):Option D:=match b with
  | .len=>one ds lenD
  | .range=>rangeD ds
  | .list=>one ds fun a=>match a with
    | .rng a b c=>if (tiny a && tiny b && tiny c && decide (c≠0))=true∧(rangeL a b c).length≤line then some (.list ((rangeL a b c).map .int)) else Option.none
    | _=>Option.none
  | .min=>(match ds with
    | []=>Option.none
    | a :: r=>(match r with
      | []=>onLst a minD
      | _ :: _=>one r fun b=>int2 a b fun a b=>some (.int (if b < a then b else a))))
  | .max=>two ds fun a b=>int2 a b fun a b=>some (.int (if a < b then b else a))
  | .sum=>one ds fun a=>onLst a fun xs=>(toInts xs).map fun l=>.int (sumL l)
  | .sorted=>one ds fun a=>onLst a fun xs=>(toInts xs).bind fun l=>if l.length≤8 then some (.list ((sortL l).map .int)) else Option.none
  | .dictzip=>two ds fun a b=>match a with
    | .str s=>(match b with
      | .tup xs=>if s.length=xs.length∧s.length≤16∧s.eraseDups.length=s.length then
          some (.sdict ((s.map fun c=>[c]).zip xs)) else Option.none
      | _=>Option.none)
    | _=>Option.none
  | .isBool=>one ds isBoolD
  | .isInt=>one ds isIntD
noncomputable def replC (c:Nat) (w:List Nat) (s:List Nat):List Nat:=s.flatMap fun x=>if x=c then w else [x]
noncomputable def splitGo (sep:List Nat):List Nat→List Nat→Nat→List (List Nat)
  | [],acc,_=>[acc.reverse]
  | _ :: r,acc,k+1=>splitGo sep r acc k
  | c :: r,acc,0=>if sep.isPrefixOf (c :: r) then acc.reverse :: splitGo sep r [] (sep.length - 1) else splitGo sep r (c :: acc) 0
theorem splitGo_c {sep r acc:List Nat} {c:Nat}:splitGo sep (c :: r) acc 0=if sep.isPrefixOf (c :: r) then acc.reverse :: splitGo sep r [] (sep.length - 1) else splitGo sep r (c :: acc) 0:=rfl
theorem splitGo_s {sep r acc:List Nat} {c k:Nat}:splitGo sep (c :: r) acc (k+1)=splitGo sep r acc k:=rfl
theorem splitGo_n {sep acc:List Nat} {k:Nat}:splitGo sep [] acc k=[acc.reverse]:=rfl
noncomputable def joinL (sep:List Nat):List (List Nat)→List Nat
  | []=>[]
  | [a]=>a
  | a :: b :: r=>a++sep++joinL sep (b :: r)
noncomputable def idxOf {α:Type} [BEq α] (a:α):List α→Option Nat
  | []=>Option.none
  | b :: r=>if b == a then some 0 else (idxOf a r).map (·+1)
noncomputable def onStr {α:Type} (a:D) (f:List Nat→Option α):Option α:=match a with
  | .str s=>f s
  | _=>Option.none
@[simp] theorem onStr_str {α:Type} {s:List Nat} {f:List Nat→Option α}:onStr (.str s) f=f s:=rfl
noncomputable def caseD (ds:List D) (f:Nat→Nat) (s:List Nat):Option D:=match ds with
  | []=>if ascii s && decide (s.length≤line) then some (.str (s.map f)) else Option.none
  | _ :: _=>Option.none
@[simp] theorem caseD_nil {f:Nat→Nat} {s:List Nat}:caseD [] f s=if ascii s && decide (s.length≤line) then some (.str (s.map f)) else Option.none:=rfl
noncomputable def splitD (s p:List Nat):Option D:=match p with
  | []=>Option.none
  | c :: r=>if s.length≤4096∧(c :: r).all (· < 256)=true then some (.list ((splitGo (c :: r) s [] 0).map .str)) else Option.none
@[simp] theorem splitD_cons {s r:List Nat} {c:Nat}:splitD s (c :: r)=if s.length≤4096∧(c :: r).all (· < 256)=true then some (.list ((splitGo (c :: r) s [] 0).map .str)) else Option.none:=rfl
noncomputable def indexS (s p:List Nat):Option D:=match p with
  | []=>Option.none
  | c :: r=>(match r with
    | []=>(idxOf c s).map fun k:Nat=>D.int k
    | _ :: _=>Option.none)
@[simp] theorem indexS_one {s:List Nat} {c:Nat}:indexS s [c]=(idxOf c s).map fun k:Nat=>D.int k:=rfl
noncomputable def indexL (xs:List D) (a:D):Option D:=match a with
  | .int a=>(toInts xs).bind fun l=>(idxOf a l).map fun k:Nat=>D.int k
  | .list a=>(toRows xs).bind fun l=>(toInts a).bind fun x=>(idxOf x l).map fun k:Nat=>D.int k
  | _=>Option.none
@[simp] theorem indexL_int {xs:List D} {a:Int}:indexL xs (.int a)=(toInts xs).bind fun l=>(idxOf a l).map fun k:Nat=>D.int k:=rfl
@[simp] theorem indexL_list {xs a:List D}:indexL xs (.list a)=(toRows xs).bind fun l=>(toInts a).bind fun x=>(idxOf x l).map fun k:Nat=>D.int k:=rfl
noncomputable def indexD (o a:D):Option D:=match o with
  | .str s=>onStr a (indexS s)
  | .list xs=>indexL xs a
  | _=>Option.none
@[simp] theorem indexD_str {s:List Nat} {a:D}:indexD (.str s) a=onStr a (indexS s):=rfl
@[simp] theorem indexD_list {xs:List D} {a:D}:indexD (.list xs) a=indexL xs a:=rfl
noncomputable def getDD (o k d:D):Option D:=match o with
  | .sdict es=>onStr k fun k=>some ((getKey es k).getD d)
  | _=>Option.none
@[simp] theorem getDD_d {es:List (List Nat × D)} {k:List Nat} {d:D}:getDD (.sdict es) (.str k) d=some ((getKey es k).getD d):=rfl
noncomputable def methD (m:Mt) (o:D) (ds:List D):Option D:=match m with
  | .lower=>onStr o (caseD ds lowC)
  | .upper=>onStr o (caseD ds uppC)
  | .split=>onStr o fun s=>one ds fun a=>onStr a (splitD s)
  | .join=>onStr o fun s=>one ds fun a=>onLst a fun xs=>(toStrs xs).bind fun l=>if (joinL s l).length≤line then some (.str (joinL s l)) else Option.none
  | .index=>one ds (indexD o)
  | .get=>two ds (getDD o)
noncomputable def kd:D→Nat
  | .str _=>1
  | .list _=>2
  | .sdict _=>3
  | _=>0
noncomputable def itemsD:D→Option (List D)
  | .list xs=>some xs
  | .tup xs=>some xs
  | .str s=>if ascii s then some (s.map fun c=>.str [c]) else Option.none
  | .rng a b c=>if tiny a && tiny b && tiny c && decide (c≠0) then some ((rangeL a b c).map .int) else Option.none
  | _=>Option.none
noncomputable def enumL:Nat→List D→List D
  | _,[]=>[]
  | k,d :: r=>.tup [.int k,d] :: enumL (k+1) r
noncomputable def setD (o k v:D):Option D:=match o with
  | .list xs=>match k with
    | .int i=>if sml i && decide (0≤i) && decide (i < xs.length) then some (.list (xs.set i.toNat v)) else Option.none
    | _=>Option.none
  | .idict es=>match k with
    | .int k=>if es.length≤4096 then some (.idict (setKey es k v)) else Option.none
    | _=>Option.none
  | _=>Option.none
noncomputable def negD:D→Option D
  | .int i=>some (.int (-i))
  | _=>Option.none
noncomputable def fnA:D→Option Nat
  | .fn a=>some a
  | _=>Option.none
noncomputable def tstr1:D→Option Nat
  | .tstr [c]=>some c
  | _=>Option.none
noncomputable def rdVar (σ:St) (i:Nat):Option Slot→Option (D × St)
  | some (.sh,d)=>some (d,σ)
  | some (.own,d)=>some (d,σ.put i (.sh,d))
  | _=>Option.none
noncomputable def noO:Option (Own × D × St)→Option (D × St)
  | some (_,d,σ)=>some (d,σ)
  | Option.none=>Option.none
noncomputable def shO:Option (D × St)→Option (Own × D × St)
  | some (d,σ)=>some (.sh,d,σ)
  | Option.none=>Option.none
noncomputable def shGet:Option Slot→Option D
  | some (.sh,d)=>some d
  | _=>Option.none
noncomputable def ownGet:Option Slot→Option D
  | some (.own,d)=>some d
  | _=>Option.none
noncomputable def isLst:Option Slot→Bool
  | some (_,.list _)=>true
  | _=>false
noncomputable def appSlot (σ:St) (x:Nat) (d:D):Option Slot→Option (Fl × St)
  | some (.sh,_)=>Option.none
  | some (o,.list xs)=>if xs.length < line then some (.next,σ.put x (o,.list (xs++[d]))) else Option.none
  | _=>Option.none
noncomputable def extSlot (σ:St) (x:Nat) (ys:List D):Option Slot→Option (Fl × St)
  | some (.sh,_)=>Option.none
  | some (o,.list xs)=>if xs.length+ys.length≤line then some (.next,σ.put x (o,.list (xs++ys))) else Option.none
  | _=>Option.none
noncomputable def lend (e:E) (σ:St):Option (List Slot × St):=match e with
  | .var i=>(ownGet (σ.get i)).map fun d=>([(.bor,d)],σ)
  | _=>Option.none
structure FnDef where
  np:Nat
  nv:Nat
  body:List S
structure Funs where
  ev:E→St→Option (D × St)
  evO:E→St→Option (Own × D × St)
  evT:E→St→Option (Bool × St)
  call:Nat→List Slot→Option (D × Option Slot)
  ex:S→St→Option (Fl × St)
noncomputable def nil:Funs:=⟨fun _ _=>Option.none,fun _ _=>Option.none,fun _ _=>Option.none,fun _ _=>Option.none,fun _ _=>Option.none⟩
section
variable (F:Funs)
noncomputable def evs:List E→St→Option (List D × St)
  | [],σ=>some ([],σ)
  | e :: r,σ=>(F.ev e σ).bind fun p=>(evs r p.2).map fun q=>(p.1 :: q.1,q.2)
noncomputable def evOs:List E→St→Option (List Slot × St)
  | [],σ=>some ([],σ)
  | e :: r,σ=>(F.evO e σ).bind fun p=>(evOs r p.2.2).map fun q=>((p.1,p.2.1) :: q.1,q.2)
noncomputable def allT:List E→St→Option (Bool × St)
  | [],σ=>some (true,σ)
  | e :: r,σ=>(F.evT e σ).bind fun p=>if p.1=true then allT r p.2 else some (false,p.2)
noncomputable def anyT:List E→St→Option (Bool × St)
  | [],σ=>some (false,σ)
  | e :: r,σ=>(F.evT e σ).bind fun p=>if p.1=true then some (true,p.2) else anyT r p.2
noncomputable def peek (e:E) (σ:St):Option (D × St):=match e with
  | .var i=>(σ.get i).map fun s=>(s.2,σ)
  | e=>F.ev e σ
noncomputable def again (e:E) (d:D) (σ:St):Option D:=match e with
  | .var i=>(σ.get i).map (·.2)
  | _=>some d
noncomputable def optE:Option E→St→Option (D × St)
  | Option.none,σ=>some (.none,σ)
  | some e,σ=>F.ev e σ
noncomputable def putAll:List Nat→List Slot→St→Option St
  | [],[],σ=>some σ
  | i :: is,s :: ss,σ=>putAll is ss (σ.put i s)
  | _,_,_=>Option.none
noncomputable def bindT:Tg→D→St→Option St
  | .v i,d,σ=>some (σ.put i (.sh,d))
  | .t is,.tup ds,σ=>if is.length=ds.length then putAll is (ds.map fun d=>(Own.sh,d)) σ else Option.none
  | _,_,_=>Option.none
noncomputable def bindTup (xs:List Nat) (d:D) (σ:St):Option St:=match d with
  | .tup ds=>bindT (.t xs) (.tup ds) σ
  | _=>Option.none
noncomputable def delT:Tg→St→St
  | .v i,σ=>σ.del i
  | .t is,σ=>is.foldl (fun σ i=>St.del σ i) σ
noncomputable def items (e:E) (σ:St):Option (List D × St):=match e with
  | .enum e=>(F.ev e σ).bind fun p=>(lstD p.1).map fun l=>(enumL 0 l,p.2)
  | e=>(F.ev e σ).bind fun p=>(itemsD p.1).map fun l=>(l,p.2)
noncomputable def loopC (tg:Tg) (conds:List E) (body:St→List D→Option (List D × St)):List D→St→List D→Option (List D × St)
  | [],σ,acc=>some (acc,σ)
  | d :: r,σ,acc=>(bindT tg d σ).bind fun σ=>(allT F conds σ).bind fun p=>if p.1=true then (body p.2 acc).bind fun q=>loopC tg conds body r q.2 q.1 else loopC tg conds body r p.2 acc
noncomputable def compG (elt:E):List (Tg × E × List E)→St→List D→Option (List D × St)
  | [],σ,acc=>(F.ev elt σ).bind fun p=>if acc.length < line then some (acc++[p.1],p.2) else Option.none
  | g :: gs,σ,acc=>(items F g.2.1 σ).bind fun p=>loopC F g.1 g.2.2 (compG elt gs) p.1 p.2 acc
noncomputable def delG:List (Tg × E × List E)→St→St
  | [],σ=>σ
  | g :: gs,σ=>delG gs (delT g.1 σ)
noncomputable def loopD (tg:Tg) (k v:E):List D→St→List (List Nat × D)→Option (List (List Nat × D) × St)
  | [],σ,acc=>some (acc,σ)
  | d :: r,σ,acc=>(bindT tg d σ).bind fun σ=>(F.ev k σ).bind fun p=>(strD p.1).bind fun kd=>(F.ev v p.2).bind fun q=>if acc.length < 16 then loopD tg k v r q.2 (setKey acc kd q.1) else Option.none
noncomputable def thenX (k:St→Option (Fl × St)):Option (Fl × St)→Option (Fl × St)
  | some (.next,σ)=>k σ
  | some (.ret d,σ)=>some (.ret d,σ)
  | Option.none=>Option.none
noncomputable def exs:List S→St→Option (Fl × St)
  | [],σ=>some (.next,σ)
  | s :: r,σ=>thenX (exs r) (F.ex s σ)
noncomputable def forL (tg:Tg) (b:List S):List D→St→Option (Fl × St)
  | [],σ=>some (.next,σ)
  | d :: r,σ=>(bindT tg d σ).bind fun σ=>thenX (forL tg b r) (exs F b σ)
noncomputable def swpL (x:Nat):List E→List D→St→Option St
  | [],[],σ=>some σ
  | i :: is,d :: ds,σ=>if (σ.get x).isSome=true then (F.ev i σ).bind fun q=>(ownGet (q.2.get x)).bind fun xs=>(setD xs q.1 d).bind fun xs=>swpL x is ds (q.2.put x (.own,xs)) else Option.none
  | _,_,_=>Option.none
noncomputable def argsE (io:Bool):List E→St→Option (List Slot × St)
  | [],σ=>some ([],σ)
  | e :: r,σ=>match r with
    | []=>match io with
      | true=>lend e σ
      | false=>(F.ev e σ).map fun p=>([(.sh,p.1)],p.2)
    | _ :: _=>(F.ev e σ).bind fun p=>(argsE io r p.2).map fun q=>((.sh,p.1) :: q.1,q.2)
noncomputable def back1 (e:E) (s:Option Slot) (σ:St):Option St:=match e with
  | .var i=>s.map fun s=>σ.put i (.own,s.2)
  | _=>Option.none
noncomputable def backE:List E→Option Slot→St→Option St
  | [],_,_=>Option.none
  | e :: r,s,σ=>match r with
    | []=>back1 e s σ
    | _ :: _=>backE r s σ
noncomputable def isEq:Cmp→Bool
  | .isIn | .notIn=>true
  | _=>false
noncomputable def stepEv (e:E) (σ:St):Option (D × St):=match e with
  | .lit d=>some (d,σ)
  | .tlit s=>some (.tstr s,σ)
  | .glob d=>some (d,σ)
  | .var i=>rdVar σ i (σ.get i)
  | .bin o l r=>(F.ev l σ).bind fun p=>(F.ev r p.2).bind fun q=>(binD o p.1 q.1).map fun d=>(d,q.2)
  | .neg e=>(F.ev e σ).bind fun p=>(negD p.1).map fun d=>(d,p.2)
  | .orv l r=>(F.ev l σ).bind fun p=>(truD p.1).bind fun t=>if t=true then some p else F.ev r p.2
  | .ite t b o=>(F.evT t σ).bind fun p=>if p.1=true then F.ev b p.2 else F.ev o p.2
  | .cmp o l r=>(F.ev l σ).bind fun p=>(if isEq o=true then peek F r p.2 else F.ev r p.2).bind fun q=>(cmpD o p.1 q.1).map fun c=>(.bool c,q.2)
  | .tup es=>(evs F es σ).bind fun p=>if p.1.length≤line then some (.tup p.1,p.2) else Option.none
  | .list es=>noO (F.evO (.list es) σ)
  | .edict=>noO (F.evO .edict σ)
  | .comp e gs=>noO (F.evO (.comp e gs) σ)
  | .call f args io=>(F.ev f σ).bind fun p=>(fnA p.1).bind fun a=>(argsE F io args p.2).bind fun q=>(F.call a q.1).bind fun r=>
    if io=true then (backE args r.2 q.2).map fun σ=>(r.1,σ) else some (r.1,q.2)
  | .bi b es=>match b with
    | .list=>noO (F.evO (.bi .list es) σ)
    | .len=>match es with
      | [e]=>(peek F e σ).bind fun p=>(biD .len [p.1]).map fun d=>(d,p.2)
      | _=>Option.none
    | b=>(evs F es σ).bind fun p=>(biD b p.1).map fun d=>(d,p.2)
  | .meth m o es=>(peek F o σ).bind fun p=>(evs F es p.2).bind fun q=>(again o p.1 q.2).bind fun d=>if kd p.1=kd d then (methD m d q.1).map fun d=>(d,q.2) else Option.none
  | .repl o old w=>(F.ev o σ).bind fun p=>(strD p.1).bind fun s=>(F.ev old p.2).bind fun q=>(tstr1 q.1).bind fun c=>
    if s.length≤4096∧w.length≤64∧w≠[c]∧c < 256 then some (.str (replC c w s),q.2) else Option.none
  | .idxT o i=>(F.ev o σ).bind fun p=>(strD p.1).bind fun s=>(F.ev i p.2).bind fun q=>((idxD (.str s) q.1).bind strD).map fun c=>(.tstr c,q.2)
  | .idx o i=>(peek F o σ).bind fun p=>(F.ev i p.2).bind fun q=>(again o p.1 q.2).bind fun d=>(idxD d q.1).map fun d=>(d,q.2)
  | .slc o l u rev=>(peek F o σ).bind fun p=>(optE F l p.2).bind fun q=>(optE F u q.2).bind fun r=>(again o p.1 r.2).bind fun d=>(slcD d q.1 r.1 rev).map fun d=>(d,r.2)
  | .dcomp k v g=>(items F g.2 σ).bind fun p=>(loopD F g.1 k v p.1 p.2 []).map fun q=>(.sdict q.1,delT g.1 q.2)
  | _=>Option.none
noncomputable def stepO (e:E) (σ:St):Option (Own × D × St):=match e with
  | .list es=>(evs F es σ).bind fun p=>if p.1.length≤line then some (.own,.list p.1,p.2) else Option.none
  | .edict=>some (.own,.idict [],σ)
  | .comp e gs=>(compG F e gs σ []).map fun p=>(.own,.list p.1,delG gs p.2)
  | .bi .list [e]=>(F.ev e σ).bind fun p=>(biD .list [p.1]).map fun d=>(.own,d,p.2)
  | .ite t b o=>(F.evT t σ).bind fun p=>if p.1=true then F.evO b p.2 else F.evO o p.2
  | e=>shO (F.ev e σ)
noncomputable def stepT (e:E) (σ:St):Option (Bool × St):=match e with
  | .not e=>(F.evT e σ).map fun p=>(!p.1,p.2)
  | .and es=>allT F es σ
  | .or es=>anyT F es σ
  | e=>(F.ev e σ).bind fun p=>(truD p.1).map fun b=>(b,p.2)
noncomputable def stepX (s:S) (σ:St):Option (Fl × St):=match s with
  | .app x e=>if isLst (σ.get x)=true then (F.ev e σ).bind fun p=>appSlot p.2 x p.1 (p.2.get x) else Option.none
  | .ext x e=>if isLst (σ.get x)=true then (F.ev e σ).bind fun p=>(lstD p.1).bind fun ys=>extSlot p.2 x ys (p.2.get x) else Option.none
  | .asg x e=>(F.evO e σ).map fun p=>(.next,p.2.2.put x (p.1,p.2.1))
  | .asg2 x y e=>(F.ev e σ).map fun p=>(.next,(p.2.put x (.sh,p.1)).put y (.sh,p.1))
  | .unpk xs e=>(F.ev e σ).bind fun p=>(bindTup xs p.1 p.2).map fun σ=>(.next,σ)
  | .tupl xs es=>(evOs F es σ).bind fun p=>(putAll xs p.1 p.2).map fun σ=>(.next,σ)
  | .swp x is es=>(evs F es σ).bind fun p=>(swpL F x is p.1 p.2).map fun σ=>(.next,σ)
  | .put x i e=>(F.ev e σ).bind fun p=>(swpL F x [i] [p.1] p.2).map fun σ=>(.next,σ)
  | .aug o x e=>(shGet (σ.get x)).bind fun old=>(F.ev e σ).bind fun p=>((binD o old p.1).bind intD).map fun r=>(.next,p.2.put x (.sh,.int r))
  | .augput o x i e=>if (σ.get x).isSome=true then (F.ev i σ).bind fun q=>(ownGet (q.2.get x)).bind fun xs=>(idxD xs q.1).bind fun old=>(F.ev e q.2).bind fun p=>((binD o old p.1).bind intD).bind fun r=>(ownGet (p.2.get x)).bind fun xs=>(setD xs q.1 (.int r)).map fun xs=>(.next,p.2.put x (.own,xs)) else Option.none
  | .ite t b o=>(F.evT t σ).bind fun p=>if p.1=true then exs F b p.2 else exs F o p.2
  | .whl t b=>(F.evT t σ).bind fun p=>if p.1=true then thenX (F.ex (.whl t b)) (exs F b p.2) else some (.next,p.2)
  | .for tg it b=>(items F it σ).bind fun p=>forL F tg b p.1 p.2
  | .ret e=>(F.ev e σ).map fun p=>(.ret p.1,p.2)
  | .tryb b=>exs F b σ
noncomputable def weak1:D→D
  | .tstr s=>.str s
  | d=>d
noncomputable def weak:D→D
  | .list ds=>.list (ds.map weak1)
  | .tstr s=>.str s
  | d=>d
noncomputable def okBack:Option Slot→Option Slot→Bool
  | some (.bor,_),some (.bor,_)=>true
  | some (.bor,_),_=>false
  | _,_=>true
noncomputable def retD:Fl→Option D
  | .ret d=>some d
  | .next=>Option.none
noncomputable def stepC (P:List (Nat × FnDef)) (a:Nat) (ss:List Slot):Option (D × Option Slot):=(P.lookup a).bind fun f=>
  if ss.length=f.np then (exs F f.body (ss.map some++List.replicate (f.nv - f.np) Option.none)).bind fun p=>(retD p.1).bind fun d=>
    if okBack ss.getLast? (p.2.get (f.np - 1))=true then some (weak d,p.2.get (f.np - 1)) else Option.none
  else Option.none
end
noncomputable def Ev (P:List (Nat × FnDef)):Nat→Funs
  | 0=>nil
  | n+1=>⟨stepEv (Ev P n),stepO (Ev P n),stepT (Ev P n),stepC (Ev P n) P,stepX (Ev P n)⟩
theorem two_ind {α β:Type} {P:List α→List β→Prop} (nn:P [] []) (cc:∀ a as b bs,P as bs→P (a :: as) (b :: bs)) (nc:∀ b bs,P [] (b :: bs)) (cn:∀ a as,P (a :: as) []) (as:List α):∀ bs,P as bs:=
  List.rec (motive:=fun as=>∀ bs,P as bs) (fun bs=>List.casesOn bs nn nc) (fun a as ih bs=>List.casesOn bs (cn a as) fun b bs=>cc a as b bs (ih bs)) as
theorem lt3 {P:Nat→Prop} (h0:P 0) (h1:P 1) (h2:P 2) {k:Nat} (h:k < 3):P k:=by
  rcases Nat.lt_succ_iff_lt_or_eq.mp h with h | rfl
  · rcases Nat.lt_succ_iff_lt_or_eq.mp h with h | rfl
    · rw [Nat.lt_one_iff.mp h]; exact h0
    · exact h1
  · exact h2
theorem lt5 {P:Nat→Prop} (h0:P 0) (h1:P 1) (h2:P 2) (h3:P 3) (h4:P 4) {k:Nat} (h:k < 5):P k:=by
  rcases Nat.lt_succ_iff_lt_or_eq.mp h with h | rfl
  · rcases Nat.lt_succ_iff_lt_or_eq.mp h with h | rfl
    · exact lt3 h0 h1 h2 h
    · exact h3
  · exact h4
theorem bs {α β:Type} {x:Option α} {f:α→Option β} {b:β} (h:x.bind f=some b):∃ a,x=some a∧f a=some b:=Option.bind_eq_some_iff.mp h
theorem ms {α β:Type} {x:Option α} {f:α→β} {b:β} (h:x.map f=some b):∃ a,x=some a∧f a=b:=Option.map_eq_some_iff.mp h
theorem nos {α:Type} {x:α} {P:Prop} (e:Option.none=some x):P:=by cases e
theorem some1 {α:Type} {a b:α} (h:some a=some b):a=b:=Option.some.inj h
theorem some2 {α β:Type} {a c:α} {b d:β} (h:some (a,b)=some (c,d)):a=c∧b=d:=Prod.mk.inj (Option.some.inj h)
theorem pm3 {α β γ:Type} {a c:α} {b d:β} {x y:γ} (h:(a,b,x)=(c,d,y)):a=c∧b=d∧x=y:=⟨(Prod.mk.inj h).1,Prod.mk.inj (Prod.mk.inj h).2⟩
theorem some3 {α β γ:Type} {a c:α} {b d:β} {x y:γ} (h:some (a,b,x)=some (c,d,y)):a=c∧b=d∧x=y:=⟨(some2 h).1,some2 (congrArg some (some2 h).2)⟩
theorem int_is {d:D} {i:Int} (h:intD d=some i):d=.int i:=by
  induction d using D.casesOn with | int _=>rw [some1 h] | _=>exact nos h
theorem lst_is {d:D} {l:List D} (h:lstD d=some l):d=.list l:=by
  induction d using D.casesOn with | list _=>rw [some1 h] | _=>exact nos h
theorem strD_is {d:D} {s:List Nat} (h:strD d=some s):d=.str s:=by
  induction d using D.casesOn with | str _=>rw [some1 h] | _=>exact nos h
theorem ap_o {σ:St} {x:Nat} {d:D} {xs:List D}:appSlot σ x d (some (.own,.list xs))=if xs.length < line then some (.next,σ.put x (.own,.list (xs++[d]))) else Option.none:=rfl
theorem ap_b {σ:St} {x:Nat} {d:D} {xs:List D}:appSlot σ x d (some (.bor,.list xs))=if xs.length < line then some (.next,σ.put x (.bor,.list (xs++[d]))) else Option.none:=rfl
theorem xs_o {σ:St} {x:Nat} {ys xs:List D}:extSlot σ x ys (some (.own,.list xs))=if xs.length+ys.length≤line then some (.next,σ.put x (.own,.list (xs++ys))) else Option.none:=rfl
theorem isL_o {o:Own} {xs:List D}:isLst (some (o,.list xs))=true:=rfl
theorem its_l {xs:List D}:itemsD (.list xs)=some xs:=rfl
theorem its_t {xs:List D}:itemsD (.tup xs)=some xs:=rfl
theorem its_s {s:List Nat}:itemsD (.str s)=if ascii s then some (s.map fun c=>.str [c]) else Option.none:=rfl
theorem its_r {a b c:Int}:itemsD (.rng a b c)=if tiny a && tiny b && tiny c && decide (c≠0) then some ((rangeL a b c).map .int) else Option.none:=rfl
theorem set_l {xs:List D} {i:Int} {v:D}:setD (.list xs) (.int i) v=if sml i && decide (0≤i) && decide (i < xs.length) then some (.list (xs.set i.toNat v)) else Option.none:=rfl
theorem set_i {es:List (Int × D)} {k:Int} {v:D}:setD (.idict es) (.int k) v=if es.length≤4096 then some (.idict (setKey es k v)) else Option.none:=rfl
theorem oi_n:oint .none=some Option.none:=rfl
theorem oi_i {i:Int}:oint (.int i)=if sml i then some (some i) else Option.none:=rfl
theorem sl_l {xs:List D} {l u:Option Int}:slcF (.list xs) l u=some (.list (cut xs l u)):=rfl
theorem sl_w {xs:List D} {l u:Option Int}:slcF (.wlist xs) l u=some (.list (cut xs l u)):=rfl
theorem sl_s {xs:List Nat} {l u:Option Int}:slcF (.str xs) l u=some (.str (cut xs l u)):=rfl
theorem bT_v {i:Nat} {d:D} {σ:St}:bindT (.v i) d σ=some (σ.put i (.sh,d)):=rfl
theorem bT_t {is:List Nat} {ds:List D} {σ:St}:bindT (.t is) (.tup ds) σ=if is.length=ds.length then putAll is (ds.map fun d=>(Own.sh,d)) σ else Option.none:=rfl
theorem pA_n {σ:St}:putAll [] [] σ=some σ:=rfl
theorem pA_c {i:Nat} {is:List Nat} {s:Slot} {ss:List Slot} {σ:St}:putAll (i :: is) (s :: ss) σ=putAll is ss (σ.put i s):=rfl
theorem wk_l {ds:List D}:weak (.list ds)=.list (ds.map weak1):=rfl
theorem io_n {α:Type} [BEq α] {a:α}:idxOf a []=Option.none:=rfl
theorem io_c {α:Type} [BEq α] {a b:α} {r:List α}:idxOf a (b :: r)=if b == a then some 0 else (idxOf a r).map (·+1):=rfl
theorem mi_n {a:Int}:minL a []=a:=rfl
theorem mi_c {a b:Int} {r:List Int}:minL a (b :: r)=minL (if b < a then b else a) r:=rfl
theorem in_n {a:Int}:insL a []=[a]:=rfl
theorem in_c {a b:Int} {r:List Int}:insL a (b :: r)=if a < b then a :: b :: r else b :: insL a r:=rfl
theorem bE_1 {e:E} {s:Option Slot} {σ:St}:backE [e] s σ=back1 e s σ:=rfl
theorem bE_c {e e':E} {r:List E} {s:Option Slot} {σ:St}:backE (e :: e' :: r) s σ=backE (e' :: r) s σ:=rfl
theorem lC_n {F:Funs} {tg:Tg} {cs:List E} {body:St→List D→Option (List D × St)} {σ:St} {acc:List D}:loopC F tg cs body [] σ acc=some (acc,σ):=rfl
theorem b1_v {i:Nat} {s:Option Slot} {σ:St}:back1 (.var i) s σ=s.map fun s=>σ.put i (.own,s.2):=rfl
theorem en_c {k:Nat} {d:D} {r:List D}:enumL k (d :: r)=.tup [.int k,d] :: enumL (k+1) r:=rfl
theorem dG_n {σ:St}:delG [] σ=σ:=rfl
theorem dG_c {g:Tg × E × List E} {gs:List (Tg × E × List E)} {σ:St}:delG (g :: gs) σ=delG gs (delT g.1 σ):=rfl
theorem dT_v {i:Nat} {σ:St}:delT (.v i) σ=σ.del i:=rfl
theorem dT_t {is:List Nat} {σ:St}:delT (.t is) σ=is.foldl (fun σ i=>St.del σ i) σ:=rfl
theorem jL_n {s:List Nat}:joinL s []=[]:=rfl
theorem jL_1 {s a:List Nat}:joinL s [a]=a:=rfl
theorem jL_c {s a b:List Nat} {r:List (List Nat)}:joinL s (a :: b :: r)=a++s++joinL s (b :: r):=rfl
theorem iE1:isEq .eq=false:=rfl
theorem iE2:isEq .ne=false:=rfl
theorem iE3:isEq .lt=false:=rfl
theorem iE4:isEq .le=false:=rfl
theorem iE5:isEq .gt=false:=rfl
theorem iE6:isEq .ge=false:=rfl
theorem iE7:isEq .isIn=true:=rfl
theorem iE8:isEq .notIn=true:=rfl
theorem iE9:isEq .isNot=false:=rfl
theorem tI_n:toInts []=some []:=rfl
theorem tI_c {i:Int} {r:List D}:toInts (.int i :: r)=(toInts r).map (i :: ·):=rfl
theorem tS_n:toStrs []=some []:=rfl
theorem tS_c {i:List Nat} {r:List D}:toStrs (.str i :: r)=(toStrs r).map (i :: ·):=rfl
theorem nab {n:Nat} {i:Int}:i.natAbs < n ↔ -(n:Int) < i∧i < n:=by
  induction i using Int.casesOn with
  | ofNat k=>exact ⟨fun h=>⟨Int.lt_of_lt_of_le (Int.neg_neg_of_pos (Int.natCast_pos.mpr (Nat.zero_lt_of_lt h))) (Int.natCast_nonneg k),Int.ofNat_lt.mpr h⟩,fun h=>Int.ofNat_lt.mp h.2⟩
  | negSucc k=>exact ⟨fun h=>⟨Int.neg_lt_neg (Int.ofNat_lt.mpr h),Int.lt_of_lt_of_le (Int.negSucc_lt_zero k) (Int.natCast_nonneg n)⟩,fun h=>Int.ofNat_lt.mp (Int.lt_of_neg_lt_neg h.1)⟩
theorem na_sub {a b k:Nat} (ha:a < k) (hb:b < k):((a:Int) - b).natAbs < k:=nab.mpr ⟨Int.lt_of_lt_of_le (Int.neg_lt_neg (Int.ofNat_lt.mpr hb)) (Int.le_trans (Int.le_of_eq (Int.zero_sub _).symm) (Int.sub_le_sub_right (Int.natCast_nonneg a) _)),Int.lt_of_le_of_lt (Int.sub_le_self _ (Int.natCast_nonneg b)) (Int.ofNat_lt.mpr ha)⟩
theorem na_neg {q k:Nat} (h:q+1 < k):(-(q:Int) - 1).natAbs < k:=by
  rw [show -(q:Int) - 1 = -((q+1:Nat):Int) from Int.neg_add.symm,Int.natAbs_neg]; exact h
theorem clip1 (n:Nat) (i:Int) (h:0≤i):((min i.toNat n:Nat):Int)=max 0 (min i n):=by
  obtain ⟨k,rfl⟩:=Int.eq_ofNat_of_zero_le h
  rw [Int.toNat_natCast,Int.max_eq_right (Int.le_min.mpr ⟨h,Int.natCast_nonneg n⟩)]
  rcases Nat.le_total k n with q | q
  · rw [Nat.min_eq_left q,Int.min_eq_left (Int.ofNat_le.mpr q)]
  · rw [Nat.min_eq_right q,Int.min_eq_right (Int.ofNat_le.mpr q)]
theorem clip2 (n:Nat) (i:Int) (h:i < 0):((i+n).toNat:Int)=max 0 (min (i+n) n):=by
  rw [Int.min_eq_left (Int.le_trans (Int.add_le_add_right (Int.le_of_lt h) n) (Int.le_of_eq (Int.zero_add _))),Int.max_comm]; exact Int.toNat_eq_max _
theorem idxneg {a q:Nat} (h:q < a):(-(q:Int) - 1+a).toNat=a - 1 - q:=by
  obtain ⟨k,rfl⟩:=Nat.exists_eq_add_of_lt h
  rw [show -(q:Int) - 1+((q+k+1:Nat):Int)=(k:Nat) by rw [Int.natCast_add,Int.natCast_add]; lia]
  rw [Int.toNat_natCast,Nat.add_sub_cancel,Nat.add_sub_cancel_left]
theorem tn_sub {a q:Nat}:(-(q:Int)+a).toNat=a - q:=by rw [Int.add_comm]; exact Int.toNat_sub a q
theorem tn1 {l:Int} {k:Nat} (h:l.toNat=k+1):(l - 1).toNat=k:=by
  induction l using Int.casesOn with
  | ofNat n=>
    obtain rfl:=(h:n=k+1)
    show ((k:Int)+1 - 1).toNat=k
    rw [Int.add_sub_cancel]; rfl
  | negSucc n=>exact absurd h.symm (Nat.succ_ne_zero _)
theorem sp6 {s c:Nat} (h:0 < s):c+1+(s - 1)=c+s:=by rw [Nat.add_assoc,Nat.add_sub_cancel' h]
theorem sb1 {x c n s:Nat} (h:x - c=n) (hc:c < x) (hs:0 < s):x - (c+s) < n:=h ▸ Nat.sub_lt_sub_left hc (Nat.lt_add_of_pos_right hs)
theorem pick1 {lo hi:Nat}:(((hi:Int) - lo+1 - 1) / 1).toNat=hi - lo:=by rw [Int.add_sub_cancel,Int.ediv_one]; exact Int.toNat_sub hi lo
theorem row1 {k:Nat} (h:0 < k):((2 * ((k:Int)+1) - 2 - 1) / 2+1).toNat=k:=by
  obtain ⟨j,rfl⟩:=Nat.exists_eq_succ_of_ne_zero (Nat.ne_of_gt h)
  rw [show 2 * (((j+1:Nat):Int)+1) - 2 - 1=1+2 * (j:Int) by lia,Int.add_mul_ediv_left _ _ (by decide),show (1:Int) / 2=0 from rfl,Int.zero_add]
  rfl
theorem wide {b:Int} (h1 : -(2 ^ 42)≤b) (h2:b≤2 ^ 42) : -(2 ^ 63)≤b∧b < 2 ^ 63:=⟨Int.le_trans (by decide) h1,Int.lt_of_le_of_lt h2 (by decide)⟩
theorem fuel {n k f:Nat} (h:k≤n):n+f=n - k+f+k:=by rw [Nat.add_right_comm,Nat.sub_add_cancel h]
end Mine
end
section
open PySem PySem.W PyProof.Rows
set_option autoImplicit false
namespace Mine
set_option tactic.hygienic true in
theorem runs_toks {M:Model} {Γ:Ctx} {p:Pos} {t:Sem Fin} {fs:List Frame} {s:Shared} {e:End} {s':Shared} (h:Runs M Γ p t fs s e s'):s.toks≤s'.toks:=by
  induction h <;> first
    | exact Nat.le_refl _
    | assumption
    | (rename_i ih; exact Nat.le_of_succ_le ih)
    | (rename_i a b; exact Nat.le_trans a b)
    | (rename_i a b c; exact Nat.le_trans a b)
    | (rename_i a b c d; exact Nat.le_trans a b)
theorem returns_toks {M:Model} {Γ:Ctx} {p:Pos} {s:Shared} {r:Result} {s':Shared} (h:Returns M Γ p s r s'):s.toks≤s'.toks:=runs_toks h
theorem wakes_toks {M:Model} {Γ:Ctx} {p:Pos} {g:Nat} {r:Resume} {s:Shared} {res:GenResult} {s':Shared} (h:Wakes M Γ p g r s res s'):s.toks≤s'.toks:=by
  unfold Wakes at h
  split at h
  · exact h.elim
  · split at h
    · obtain ⟨e₁,s₁,h1,_,_,rfl⟩:=h; have q:=runs_toks h1; exact q
    · rw [h.2]; exact Nat.le_refl _
    · rw [h.2]; exact Nat.le_refl _
  · obtain ⟨e₁,s₁,h1,_,_,rfl⟩:=h; have q:=runs_toks h1; exact q
  · rw [h.2]; exact Nat.le_refl _
  · rw [h.2]; exact Nat.le_refl _
theorem wp_toks {α:Type} {M:Model} {Γ:Ctx} (t:Sem α):∀ {Q:α→Pos→Shared→Prop} {E:Value→Pos→Shared→Prop} {p:Pos} {s:Shared} {n:Nat},n≤s.toks→
    Sem.wp M Γ t (fun a p' s'=>n≤s'.toks→Q a p' s') (fun e p' s'=>n≤s'.toks→E e p' s') p s→Sem.wp M Γ t Q E p s:=by
  induction t with
  | pure a=>intro Q E p s n h w; exact w h
  | raise e=>intro Q E p s n h w; exact w h
  | unsupported _=>intro Q E p s n h w; exact w
  | finish _=>intro Q E p s n h w; exact w
  | rule _ k ih=>intro Q E p s n h w; exact ih _ h w
  | «at» _ k ih=>intro Q E p s n h w; exact ih _ h w
  | load a _ k ih=>intro Q E p s n h w; obtain ⟨o,e,w⟩:=w; exact ⟨o,e,ih _ h w⟩
  | update a _ f k ih=>intro Q E p s n h w; exact ⟨w.1,ih _ h w.2⟩
  | loadIfAlive a k ih=>intro Q E p s n h w; exact ih _ h w
  | point _ k ih=>intro Q E p s n h w; exact ih _ h w
  | register _ _=>intro Q E p s n h w; exact w
  | alloc o k ih=>intro Q E p s n h w; exact ih _ h w
  | fresh k ih=>intro Q E p s n h w; exact ih _ (Nat.le_succ_of_le h) w
  | ask k ih=>intro Q E p s n h w; exact ih _ h w
  | choose src m k ih=>intro Q E p s n h w; exact ⟨w.1,ih _ h w.2⟩
  | os q _ k ih=>intro Q E p s n h w; exact ih _ h w
  | call c hd _ _ k ih=>intro Q E p s n h w; obtain ⟨r,s',hr,w⟩:=w; exact ⟨r,s',hr,ih _ (Nat.le_trans h (returns_toks hr)) w⟩
  | handled own k ih=>intro Q E p s n h w; exact ih _ h w
  | genState g k ih=>intro Q E p s n h w; obtain ⟨st,e,w⟩:=w; exact ⟨st,e,ih _ h w⟩
  | newGen c k ih=>intro Q E p s n h w; exact ih _ h w
  | resume g r _ k ih=>intro Q E p s n h w; obtain ⟨res,s',hr,w⟩:=w; exact ⟨res,s',hr,ih _ (Nat.le_trans h (wakes_toks hr)) w⟩
  | yield _ _ _ _=>intro Q E p s n h w; exact w
  | stack k ih=>intro Q E p s n h w; exact ih _ h w
  | fork _ _=>intro Q E p s n h w; exact w
  | thread k ih=>intro Q E p s n h w; exact ih _ h w
  | await _ _ _ _ _=>intro Q E p s n h w; exact w
theorem wpAny_grow {α:Type} {M:Model} {A:Around} {t:Sem α} {Q:α→Shared→Prop} {E:Value→Shared→Prop} {s:Shared}
    (h:wpAny M A t (fun a s'=>s.toks≤s'.toks→Q a s') E s):wpAny M A t Q E s:=fun Γ p hΓ=>
  wp_toks (Q:=fun a _ s'=>Q a s') (E:=fun e _ s'=>E e s') t (Nat.le_refl _) (Sem.wp_mono M Γ t (fun _ _ _ h'=>h') (fun e _ s' (h':E e s') (_:s.toks≤s'.toks)=>h') p s (h Γ p hΓ))
end Mine
end
section
namespace G2
open Mine
noncomputable def tokD:D:=.sdict [([33],.int 54),([33,61],.int 28),([37],.int 24),([37,61],.int 40),([38],.int 19),([38,61],.int 41),([40],.int 7),([41],.int 8),([42],.int 16),([42,42],.int 35),([42,42,61],.int 46),([42,61],.int 38),([43],.int 14),([43,61],.int 36),([44],.int 12),([45],.int 15),([45,61],.int 37),([45,62],.int 51),([46],.int 23),([46,46,46],.int 52),([47],.int 17),([47,47],.int 47),([47,47,61],.int 48),([47,61],.int 39),([58],.int 11),([58,61],.int 53),([59],.int 13),([60],.int 20),([60,60],.int 33),([60,60,61],.int 44),([60,61],.int 29),([61],.int 22),([61,61],.int 27),([62],.int 21),([62,61],.int 30),([62,62],.int 34),([62,62,61],.int 45),([64],.int 49),([64,61],.int 50),([91],.int 9),([93],.int 10),([94],.int 32),([94,61],.int 43),([123],.int 25),([124],.int 18),([124,61],.int 42),([125],.int 26),([126],.int 31)]
noncomputable def b_substitution_cost:List S:=[
  .ite (.cmp .eq (.var 0) (.var 1)) [.ret (.lit (.int 0))] [],
  .ite (.cmp .eq (.meth .lower (.var 0) []) (.meth .lower (.var 1) [])) [.ret (.glob (.int 1))] [],
  .ret (.glob (.int 2))]
noncomputable def f_substitution_cost:FnDef:=⟨2,2,b_substitution_cost⟩
noncomputable def b_levenshtein_distance:List S:=[
  .ite (.cmp .eq (.var 0) (.var 1)) [.ret (.lit (.int 0))] [],
  .asg 3 (.lit (.int 0)),
  .whl (.and [(.slc (.var 0) (some (.var 3)) none false),(.slc (.var 1) (some (.var 3)) none false),(.cmp .eq (.idx (.var 0) (.var 3)) (.idx (.var 1) (.var 3)))]) [.aug .add 3 (.lit (.int 1))],
  .asg 0 (.slc (.var 0) (some (.var 3)) none false),
  .asg 1 (.slc (.var 1) (some (.var 3)) none false),
  .asg 4 (.lit (.int 0)),
  .whl (.and [(.slc (.var 0) none (some (.orv (.var 4) (.lit .none))) false),(.slc (.var 1) none (some (.orv (.var 4) (.lit .none))) false),(.cmp .eq (.idx (.var 0) (.bin .sub (.var 4) (.lit (.int 1)))) (.idx (.var 1) (.bin .sub (.var 4) (.lit (.int 1)))))]) [.aug .sub 4 (.lit (.int 1))],
  .asg 0 (.slc (.var 0) none (some (.orv (.var 4) (.lit .none))) false),
  .asg 1 (.slc (.var 1) none (some (.orv (.var 4) (.lit .none))) false),
  .ite (.or [(.not (.var 0)),(.not (.var 1))]) [.ret (.bin .mul (.glob (.int 2)) (.bin .add (.bi .len [(.var 0)]) (.bi .len [(.var 1)])))] [],
  .ite (.or [(.cmp .gt (.bi .len [(.var 0)]) (.glob (.int 40))),(.cmp .gt (.bi .len [(.var 1)]) (.glob (.int 40)))]) [.ret (.bin .add (.var 2) (.lit (.int 1)))] [],
  .ite (.cmp .lt (.bi .len [(.var 1)]) (.bi .len [(.var 0)])) [.tupl [0,1] [(.var 1),(.var 0)]] [],
  .ite (.cmp .gt (.bin .mul (.bin .sub (.bi .len [(.var 1)]) (.bi .len [(.var 0)])) (.glob (.int 2))) (.var 2)) [.ret (.bin .add (.var 2) (.lit (.int 1)))] [],
  .asg 5 (.bi .list [(.bi .range [(.glob (.int 2)),(.bin .mul (.glob (.int 2)) (.bin .add (.bi .len [(.var 0)]) (.lit (.int 1)))),(.glob (.int 2))])]),
  .asg 6 (.lit (.int 0)),
  .for (.v 7) (.bi .range [(.bi .len [(.var 1)])]) [.asg 8 (.idx (.var 1) (.var 7)),.asg2 9 6 (.bin .mul (.var 7) (.glob (.int 2))),.asg 10 (.lit (.int 9223372036854775807)),.for (.v 11) (.bi .range [(.bi .len [(.var 0)])]) [.asg 12 (.bin .add (.var 9) (.call (.glob (.fn 21)) [(.var 8),(.idx (.var 0) (.var 11))] false)),.asg 9 (.idx (.var 5) (.var 11)),.asg 13 (.bin .add (.bi .min [(.var 6),(.var 9)]) (.glob (.int 2))),.asg 6 (.bi .min [(.var 13),(.var 12)]),.put 5 (.var 11) (.var 6),.ite (.cmp .lt (.var 6) (.var 10)) [.asg 10 (.var 6)] []],.ite (.cmp .gt (.var 10) (.var 2)) [.ret (.bin .add (.var 2) (.lit (.int 1)))] []],
  .ret (.var 6)]
noncomputable def f_levenshtein_distance:FnDef:=⟨3,14,b_levenshtein_distance⟩
noncomputable def b_ISTERMINAL:List S:=[
  .ret (.cmp .lt (.var 0) (.glob (.int 256)))]
noncomputable def f_ISTERMINAL:FnDef:=⟨1,1,b_ISTERMINAL⟩
noncomputable def b_ISNONTERMINAL:List S:=[
  .ret (.cmp .ge (.var 0) (.glob (.int 256)))]
noncomputable def f_ISNONTERMINAL:FnDef:=⟨1,1,b_ISNONTERMINAL⟩
noncomputable def b_ISEOF:List S:=[
  .ret (.cmp .eq (.var 0) (.glob (.int 0)))]
noncomputable def f_ISEOF:FnDef:=⟨1,1,b_ISEOF⟩
noncomputable def b_escape_cdata:List S:=[
  .tryb [.ite (.cmp .isIn (.lit (.str [38])) (.var 0)) [.asg 0 (.repl (.var 0) (.tlit [38]) [38,97,109,112,59])] [],.ite (.cmp .isIn (.lit (.str [60])) (.var 0)) [.asg 0 (.repl (.var 0) (.tlit [60]) [38,108,116,59])] [],.ite (.cmp .isIn (.lit (.str [62])) (.var 0)) [.asg 0 (.repl (.var 0) (.tlit [62]) [38,103,116,59])] [],.ret (.var 0)]]
noncomputable def f_escape_cdata:FnDef:=⟨1,1,b_escape_cdata⟩
noncomputable def b_escape_attrib:List S:=[
  .tryb [.ite (.cmp .isIn (.lit (.str [38])) (.var 0)) [.asg 0 (.repl (.var 0) (.tlit [38]) [38,97,109,112,59])] [],.ite (.cmp .isIn (.lit (.str [60])) (.var 0)) [.asg 0 (.repl (.var 0) (.tlit [60]) [38,108,116,59])] [],.ite (.cmp .isIn (.lit (.str [62])) (.var 0)) [.asg 0 (.repl (.var 0) (.tlit [62]) [38,103,116,59])] [],.ite (.cmp .isIn (.lit (.str [34])) (.var 0)) [.asg 0 (.repl (.var 0) (.tlit [34]) [38,113,117,111,116,59])] [],.ite (.cmp .isIn (.lit (.str [13])) (.var 0)) [.asg 0 (.repl (.var 0) (.tlit [13]) [38,35,49,51,59])] [],.ite (.cmp .isIn (.lit (.str [10])) (.var 0)) [.asg 0 (.repl (.var 0) (.tlit [10]) [38,35,49,48,59])] [],.ite (.cmp .isIn (.lit (.str [9])) (.var 0)) [.asg 0 (.repl (.var 0) (.tlit [9]) [38,35,48,57,59])] [],.ret (.var 0)]]
noncomputable def f_escape_attrib:FnDef:=⟨1,1,b_escape_attrib⟩
noncomputable def b_escape_attrib_html:List S:=[
  .tryb [.ite (.cmp .isIn (.lit (.str [38])) (.var 0)) [.asg 0 (.repl (.var 0) (.tlit [38]) [38,97,109,112,59])] [],.ite (.cmp .isIn (.lit (.str [62])) (.var 0)) [.asg 0 (.repl (.var 0) (.tlit [62]) [38,103,116,59])] [],.ite (.cmp .isIn (.lit (.str [34])) (.var 0)) [.asg 0 (.repl (.var 0) (.tlit [34]) [38,113,117,111,116,59])] [],.ret (.var 0)]]
noncomputable def f_escape_attrib_html:FnDef:=⟨1,1,b_escape_attrib_html⟩
noncomputable def b_escape_cdata_c14n:List S:=[
  .tryb [.ite (.cmp .isIn (.lit (.str [38])) (.var 0)) [.asg 0 (.repl (.var 0) (.tlit [38]) [38,97,109,112,59])] [],.ite (.cmp .isIn (.lit (.str [60])) (.var 0)) [.asg 0 (.repl (.var 0) (.tlit [60]) [38,108,116,59])] [],.ite (.cmp .isIn (.lit (.str [62])) (.var 0)) [.asg 0 (.repl (.var 0) (.tlit [62]) [38,103,116,59])] [],.ite (.cmp .isIn (.lit (.str [13])) (.var 0)) [.asg 0 (.repl (.var 0) (.tlit [13]) [38,35,120,68,59])] [],.ret (.var 0)]]
noncomputable def f_escape_cdata_c14n:FnDef:=⟨1,1,b_escape_cdata_c14n⟩
noncomputable def b_escape_attrib_c14n:List S:=[
  .tryb [.ite (.cmp .isIn (.lit (.str [38])) (.var 0)) [.asg 0 (.repl (.var 0) (.tlit [38]) [38,97,109,112,59])] [],.ite (.cmp .isIn (.lit (.str [60])) (.var 0)) [.asg 0 (.repl (.var 0) (.tlit [60]) [38,108,116,59])] [],.ite (.cmp .isIn (.lit (.str [34])) (.var 0)) [.asg 0 (.repl (.var 0) (.tlit [34]) [38,113,117,111,116,59])] [],.ite (.cmp .isIn (.lit (.str [9])) (.var 0)) [.asg 0 (.repl (.var 0) (.tlit [9]) [38,35,120,57,59])] [],.ite (.cmp .isIn (.lit (.str [10])) (.var 0)) [.asg 0 (.repl (.var 0) (.tlit [10]) [38,35,120,65,59])] [],.ite (.cmp .isIn (.lit (.str [13])) (.var 0)) [.asg 0 (.repl (.var 0) (.tlit [13]) [38,35,120,68,59])] [],.ret (.var 0)]]
noncomputable def f_escape_attrib_c14n:FnDef:=⟨1,1,b_escape_attrib_c14n⟩
noncomputable def b_law_signs:List S:=[
  .asg 1 (.list [(.idxT (.lit (.str [38,60,62])) (.bin .mod (.var 0) (.lit (.int 3))))]),
  .app 1 (.idxT (.repl (.lit (.str [40,41,91,93,58,44,43,45,42,47,124,38,60,62,61,46,37,123,125])) (.idx (.var 1) (.lit (.int 0))) []) (.bin .mod (.bin .fdiv (.var 0) (.lit (.int 3))) (.lit (.int 18)))),
  .asg 2 (.repl (.lit (.str [40,41,91,93,58,44,43,45,42,47,124,61,46,37,123,125])) (.idx (.var 1) (.lit (.int 1))) []),
  .app 1 (.idxT (.var 2) (.bin .mod (.bin .fdiv (.var 0) (.lit (.int 54))) (.bi .len [(.var 2)]))),
  .asg 3 (.bin .mod (.bin .fdiv (.var 0) (.lit (.int 918))) (.lit (.int 3))),
  .ret (.bin .add (.slc (.var 1) (some (.var 3)) none false) (.slc (.var 1) none (some (.var 3)) false))]
noncomputable def f_law_signs:FnDef:=⟨1,4,b_law_signs⟩
noncomputable def b_law_hand:List S:=[
  .asg 1 (.tup [(.glob (.fn 66)),(.glob (.fn 73)),(.glob (.fn 80)),(.glob (.fn 87)),(.glob (.fn 94))]),
  .asg 2 (.ite (.cmp .eq (.var 0) (.lit (.int 1))) (.tup [(.lit (.str [38,35,49,51,59])),(.lit (.str [38,35,49,48,59])),(.lit (.str [38,35,48,57,59]))]) (.tup [(.lit (.str [38,35,120,68,59])),(.lit (.str [38,35,120,65,59])),(.lit (.str [38,35,120,57,59]))])),
  .asg 3 (.bi .dictzip [(.lit (.str [38,60,62,34,13,10,9])),(.bin .add (.tup [(.lit (.str [38,97,109,112,59])),(.lit (.str [38,108,116,59])),(.lit (.str [38,103,116,59])),(.lit (.str [38,113,117,111,116,59]))]) (.var 2))]),
  .asg 4 (.idx (.tup [(.lit (.str [38,60,62])),(.lit (.str [38,60,62,34,13,10,9])),(.lit (.str [38,62,34])),(.lit (.str [38,60,62,13])),(.lit (.str [38,60,34,13,10,9]))]) (.var 0)),
  .ret (.tup [(.idx (.var 1) (.var 0)),(.dcomp (.var 5) (.idx (.var 3) (.var 5)) (.v 5,(.var 4)))])]
noncomputable def f_law_hand:FnDef:=⟨1,6,b_law_hand⟩
noncomputable def b_law_made:List S:=[
  .asg 1 (.list [(.lit (.int 0)),(.lit (.int 1)),(.lit (.int 2)),(.lit (.int 3))]),
  .for (.v 2) (.var 0) [.ite (.call (.glob (.fn 38)) [(.bin .sub (.bin .add (.lit (.int 256)) (.idx (.var 1) (.var 2))) (.idx (.var 1) (.bin .add (.var 2) (.lit (.int 1)))))] false) [.swp 1 [(.var 2),(.bin .add (.var 2) (.lit (.int 1)))] [(.idx (.var 1) (.bin .add (.var 2) (.lit (.int 1)))),(.idx (.var 1) (.var 2))]] []],
  .ret (.var 1)]
noncomputable def f_law_made:FnDef:=⟨1,3,b_law_made⟩
noncomputable def b_law_grammar:List S:=[
  .tupl [2,3,4] [(.list [(.var 0)]),(.list []),(.lit (.int 0))],
  .whl (.cmp .lt (.var 4) (.bi .len [(.var 2)])) [.asg 5 (.idx (.var 2) (.var 4)),.app 3 (.bin .add (.lit (.int 256)) (.var 4)),.for (.v 6) (.bi .range [(.lit (.int 3))]) [.ite (.call (.glob (.fn 45)) [(.bin .sub (.bin .add (.lit (.int 255)) (.idx (.var 5) (.var 6))) (.idx (.var 5) (.bin .add (.var 6) (.lit (.int 1)))))] false) [.asg 7 (.bin .add (.bin .add (.slc (.var 5) none (some (.var 6)) false) (.list [(.idx (.var 5) (.bin .add (.var 6) (.lit (.int 1)))),(.idx (.var 5) (.var 6))])) (.slc (.var 5) (some (.bin .add (.var 6) (.lit (.int 2)))) none false)),.ite (.cmp .notIn (.var 7) (.var 2)) [.app 2 (.var 7)] [],.ext 3 (.list [(.bin .add (.lit (.int 256)) (.meth .index (.var 2) [(.var 7)])),(.idx (.var 1) (.var 6))])] []],.app 3 (.lit (.int 0)),.aug .add 4 (.lit (.int 1))],
  .ret (.var 3)]
noncomputable def f_law_grammar:FnDef:=⟨2,8,b_law_grammar⟩
noncomputable def b_law_rows:List S:=[
  .ite (.call (.glob (.fn 38)) [(.var 1)] false) [.ret (.list [(.list [(.var 1)])])] [],
  .asg 2 (.comp (.slc (.idx (.var 0) (.var 1)) (some (.var 4)) (some (.bin .add (.var 4) (.lit (.int 2)))) false) [(.v 4,(.bi .range [(.lit (.int 0)),(.bi .len [(.idx (.var 0) (.var 1))]),(.lit (.int 2))]),[])]),
  .asg 3 (.comp (.bin .add (.var 6) (.var 7)) [(.v 5,(.var 2),[]),(.v 6,(.call (.glob (.fn 125)) [(.var 0),(.idx (.var 5) (.lit (.int 0)))] false),[]),(.v 7,(.call (.glob (.fn 125)) [(.var 0),(.idx (.var 5) (.lit (.int 1)))] false),[])]),
  .ret (.ite (.cmp .ne (.var 2) (.list [])) (.var 3) (.list [(.list [])]))]
noncomputable def f_law_rows:FnDef:=⟨2,8,b_law_rows⟩
noncomputable def b_law_first:List S:=[
  .for (.v 4) (.bi .range [(.bin .add (.bi .len [(.var 0)]) (.lit (.int 1)))]) [.asg 5 (.bin .mul (.lit (.int 2)) (.bin .sub (.bin .mul (.bi .len [(.var 1)]) (.var 4)) (.bi .len [(.var 0)]))),.unpk [6,7] (.ite (.cmp .eq (.bin .mod (.var 4) (.lit (.int 2))) (.lit (.int 1))) (.tup [(.var 0),(.bin .mul (.var 1) (.var 4))]) (.tup [(.bin .mul (.var 1) (.var 4)),(.var 0)])),.app 3 (.call (.glob (.fn 28)) [(.var 6),(.var 7),(.bin .add (.var 5) (.var 2))] false),.ite (.cmp .le (.idx (.var 3) (.neg (.lit (.int 1)))) (.var 5)) [.ret (.var 4)] []],
  .ret (.neg (.lit (.int 1)))]
noncomputable def f_law_first:FnDef:=⟨4,8,b_law_first⟩
noncomputable def b_law_picked:List S:=[
  .tupl [2,3] [(.lit (.int 1)),(.lit (.int 1))],
  .for (.v 4) (.bi .range [(.var 1)]) [.aug .mul 2 (.bin .sub (.var 0) (.var 4)),.aug .mul 3 (.bin .add (.var 4) (.lit (.int 1)))],
  .ret (.bin .fdiv (.var 2) (.var 3))]
noncomputable def f_law_picked:FnDef:=⟨2,5,b_law_picked⟩
noncomputable def b_law_tableaux:List S:=[
  .tupl [2,3] [(.lit (.int 1)),(.lit (.int 1))],
  .for (.t [4,5]) (.enum (.var 0)) [.for (.v 6) (.bi .range [(.var 5)]) [.aug .mul 2 (.bin .sub (.bin .add (.var 1) (.var 6)) (.var 4)),.aug .mul 3 (.bin .add (.bin .sub (.var 5) (.var 6)) (.bi .len [(.comp (.var 7) [(.v 7,(.slc (.var 0) (some (.bin .add (.var 4) (.lit (.int 1)))) none false),[(.cmp .gt (.var 7) (.var 6))])])]))]],
  .ret (.bin .fdiv (.var 2) (.var 3))]
noncomputable def f_law_tableaux:FnDef:=⟨2,8,b_law_tableaux⟩
noncomputable def b_law:List S:=[
  .asg 1 (.list [(.lit (.int 97)),(.lit (.int 1591)),(.lit (.int 33)),(.lit (.int 22))]),
  .for (.t [2,3]) (.enum (.slc (.var 0) none (some (.lit (.int 60))) false)) [.augput .add 1 (.bin .mod (.var 2) (.lit (.int 4))) (.bin .mod (.var 3) (.bin .pow (.lit (.int 10)) (.lit (.int 6))))],
  .asg 4 (.call (.glob (.fn 101)) [(.idx (.var 1) (.lit (.int 1)))] false),
  .asg 5 (.comp (.idx (.glob tokD) (.var 27)) [(.v 27,(.var 4),[])]),
  .asg 6 (.call (.glob (.fn 113)) [(.comp (.var 29) [(.v 29,(.comp (.bin .mod (.bin .fdiv (.idx (.var 1) (.lit (.int 0))) (.bin .pow (.lit (.int 4)) (.var 28))) (.lit (.int 4))) [(.v 28,(.bi .range [(.lit (.int 4))]),[])]),[(.cmp .lt (.var 29) (.lit (.int 3)))])])] false),
  .tupl [7,8] [.edict,(.list [])],
  .for (.v 9) (.bin .add (.bin .add (.call (.glob (.fn 120)) [(.var 6),(.var 5)] false) (.bi .list [(.bi .range [(.lit (.int 252)),(.lit (.int 260))])])) (.list [(.neg (.lit (.int 1))),(.bi .sum [(.var 1)]),(.neg (.bi .sum [(.var 1)]))])) [.ite (.or [(.cmp .isNot (.call (.glob (.fn 38)) [(.var 9)] false) (.cmp .lt (.var 9) (.lit (.int 256)))),(.cmp .isNot (.call (.glob (.fn 45)) [(.var 9)] false) (.cmp .gt (.var 9) (.lit (.int 255)))),(.cmp .isNot (.call (.glob (.fn 52)) [(.var 9)] false) (.cmp .eq (.var 9) (.lit (.int 0))))]) [.ret (.lit (.bool false))] [],.app 8 (.var 9),.ite (.call (.glob (.fn 52)) [(.var 9)] false) [.put 7 (.idx (.var 8) (.lit (.int 0))) (.slc (.var 8) (some (.lit (.int 1))) (some (.neg (.lit (.int 1)))) false),.asg 8 (.list [])] []],
  .asg 10 (.comp (.meth .join (.lit (.str [])) [(.comp (.idx (.var 4) (.meth .index (.var 5) [(.var 31)])) [(.v 31,(.var 30),[])])]) [(.v 30,(.call (.glob (.fn 125)) [(.var 7),(.lit (.int 256))] false),[])]),
  .tupl [11,12] [(.bi .len [(.idx (.var 10) (.lit (.int 0)))]),(.list [])],
  .asg 13 (.bin .add (.bin .add (.idx (.var 4) (.lit (.int 2))) (.idx (.var 4) (.lit (.int 1)))) (.idx (.var 4) (.lit (.int 0)))),
  .asg 14 (.comp (.call (.glob (.fn 132)) [(.var 32),(.var 13),(.bin .mod (.bin .fdiv (.idx (.var 1) (.lit (.int 2))) (.lit (.int 125))) (.lit (.int 3))),(.var 12)] true) [(.v 32,(.var 10),[])]),
  .asg 15 (.slc (.bi .sorted [(.comp (.bi .len [(.comp (.var 34) [(.v 34,(.slc (.var 6) (some (.bin .add (.var 33) (.lit (.int 1)))) none false),[(.cmp .lt (.var 34) (.idx (.var 6) (.var 33)))])])]) [(.v 33,(.bi .range [(.lit (.int 4))]),[])])]) none none true),
  .for (.v 16) (.bi .range [(.bin .add (.var 11) (.lit (.int 1)))]) [.asg 17 (.bi .sum [(.comp (.call (.glob (.fn 139)) [(.bin .sub (.bin .add (.var 16) (.var 11)) (.var 35)),(.var 11)] false) [(.v 35,(.var 14),[])])]),.ite (.cmp .ne (.var 17) (.ite (.cmp .eq (.var 6) (.list [(.lit (.int 1)),(.lit (.int 0)),(.lit (.int 3)),(.lit (.int 2))])) (.bin .mul (.var 16) (.var 16)) (.call (.glob (.fn 144)) [(.var 15),(.var 16)] false))) [.ret (.lit (.bool false))] []],
  .unpk [18,19] (.call (.glob (.fn 106)) [(.bin .mod (.idx (.var 1) (.lit (.int 2))) (.lit (.int 5)))] false),
  .asg 20 (.idx (.lit (.str [34,13,10,9,32])) (.bin .mod (.bin .fdiv (.idx (.var 1) (.lit (.int 2))) (.lit (.int 5))) (.lit (.int 5)))),
  .asg 21 (.meth .join (.var 20) [(.bin .add (.list [(.var 13)]) (.var 10))]),
  .asg 22 (.call (.var 18) [(.var 21)] false),
  .ite (.cmp .ne (.var 22) (.meth .join (.lit (.str [])) [(.comp (.meth .get (.var 19) [(.var 36),(.var 36)]) [(.v 36,(.var 21),[])])])) [.ret (.lit (.bool false))] [],
  .asg 23 (.meth .split (.var 22) [(.meth .get (.var 19) [(.var 20),(.var 20)])]),
  .tupl [24,16,25] [(.bin .mod (.bin .fdiv (.idx (.var 1) (.lit (.int 2))) (.lit (.int 25))) (.bi .len [(.var 10)])),(.bin .mod (.idx (.var 1) (.lit (.int 3))) (.lit (.int 4))),(.bin .mul (.var 20) (.bin .mod (.bin .fdiv (.idx (.var 1) (.lit (.int 3))) (.lit (.int 4))) (.lit (.int 8))))],
  .asg 26 (.bin .mul (.lit (.int 2)) (.bin .sub (.bin .mul (.bi .len [(.idx (.var 23) (.lit (.int 0)))]) (.var 16)) (.bi .len [(.idx (.var 23) (.bin .add (.lit (.int 1)) (.var 24)))]))),
  .app 12 (.call (.glob (.fn 28)) [(.idx (.var 23) (.bin .add (.lit (.int 1)) (.var 24))),(.bin .mul (.idx (.var 23) (.lit (.int 0))) (.var 16)),(.var 26)] false),
  .ite (.cmp .ne (.cmp .eq (.idx (.var 12) (.neg (.lit (.int 1)))) (.var 26)) (.cmp .le (.idx (.var 14) (.var 24)) (.var 16))) [.ret (.lit (.bool false))] [],
  .asg 26 (.bin .mul (.lit (.int 2)) (.bi .max [(.var 11),(.bi .len [(.var 25)])])),
  .ext 12 (.list [(.call (.glob (.fn 28)) [(.idx (.var 10) (.var 24)),(.var 25),(.var 26)] false),(.call (.glob (.fn 28)) [(.var 25),(.idx (.var 10) (.var 24)),(.bin .sub (.var 26) (.lit (.int 1)))] false)]),
  .ext 12 (.list [(.call (.glob (.fn 28)) [(.idx (.var 4) (.lit (.int 0))),(.bin .mul (.var 20) (.lit (.int 40))),(.lit (.int 80))] false),(.call (.glob (.fn 28)) [(.bin .mul (.var 20) (.lit (.int 41))),(.idx (.var 4) (.lit (.int 0))),(.lit (.int 82))] false)]),
  .ite (.or [(.cmp .ne (.slc (.var 12) (some (.neg (.lit (.int 4)))) none false) (.list [(.var 26),(.var 26),(.lit (.int 80)),(.lit (.int 83))])),(.cmp .ne (.var 5) (.comp (.bin .add (.lit (.int 7)) (.meth .index (.lit (.str [40,41,91,93,58,44,59,43,45,42,47,124,38,60,62,61,46,37,123,125])) [(.var 37)])) [(.v 37,(.var 4),[])]))]) [.ret (.lit (.bool false))] [],
  .ret (.cmp .eq (.comp (.var 38) [(.v 38,(.bin .add (.var 12) (.var 5)),[(.or [(.bi .isBool [(.var 38)]),(.not (.bi .isInt [(.var 38)]))])])]) (.list []))]
noncomputable def f_law:FnDef:=⟨1,39,b_law⟩
noncomputable def P:List (Nat × FnDef):=[(21,f_substitution_cost),(28,f_levenshtein_distance),(38,f_ISTERMINAL),(45,f_ISNONTERMINAL),(52,f_ISEOF),(66,f_escape_cdata),(73,f_escape_attrib),(80,f_escape_attrib_html),(87,f_escape_cdata_c14n),(94,f_escape_attrib_c14n),(101,f_law_signs),(106,f_law_hand),(113,f_law_made),(120,f_law_grammar),(125,f_law_rows),(132,f_law_first),(139,f_law_picked),(144,f_law_tableaux),(149,f_law)]
end G2
end
section
open PySem PySem.W PyProof.Rows Mine
namespace G2
noncomputable def nd (s:String) (d:D):Str × D:=(Str.ofString s,d)
noncomputable def fnsG:List (Str × Nat):=[(Str.ofString "_substitution_cost",21),(Str.ofString "_levenshtein_distance",28),(Str.ofString "ISTERMINAL",38),(Str.ofString "ISNONTERMINAL",45),(Str.ofString "ISEOF",52),(Str.ofString "_raise_serialization_error",59),(Str.ofString "_escape_cdata",66),(Str.ofString "_escape_attrib",73),(Str.ofString "_escape_attrib_html",80),(Str.ofString "_escape_cdata_c14n",87),(Str.ofString "_escape_attrib_c14n",94),(Str.ofString "_law_signs",101),(Str.ofString "_law_hand",106),(Str.ofString "_law_made",113),(Str.ofString "_law_grammar",120),(Str.ofString "_law_rows",125),(Str.ofString "_law_first",132),(Str.ofString "_law_picked",139),(Str.ofString "_law_tableaux",144),(Str.ofString "law",149)]
noncomputable def intsG:List (Str × Int × Tok):=[(Str.ofString "_MAX_STRING_SIZE",40,189),(Str.ofString "_MOVE_COST",2,191),(Str.ofString "_CASE_COST",1,193),(Str.ofString "ENDMARKER",0,225),(Str.ofString "NT_OFFSET",256,323)]
noncomputable def globs:List (Str × D):=fnsG.map (fun q=>(q.1,.fn q.2))++(intsG.map (fun q=>(q.1,.int q.2.1))++[nd "EXACT_TOKEN_TYPES" tokD])
noncomputable def Gm (x:Str):Option D:=globs.lookup x
noncomputable def KH (h:Heap):Prop:=∃ p loose mean mg mb,(KF2 p).In h∧Top vw2 loose mean mg mb h
end G2
namespace Mine
noncomputable def prog:Program:=rr2.prog
noncomputable def WalkW (w:World) (d:DefRec) (kwd:List (Str × Expr)):Prop:=WalkO vw2 [Str.ofString "EXACT_TOKEN_TYPES"] (XL vw2 []) (fun w' h=>H2.says w' h∧w'=w) rr2.toRowW d kwd fun f vs=>PySem.call f vs
noncomputable def BadW (w:World):Prop:=¬ ∀ d kwd,defOf vw2 rr2.name=some (d,kwd)→WalkW w d kwd
noncomputable def w:World:=@Classical.epsilon World ⟨⟨fun _ _=>0,{ strHash:=fun _=>0,shareClass:=fun _=>0,mergeTok:=id,idOf:=fun _=>0,idOfShared:=fun _ _=>0,followText:=fun _=>false,idOfImm:=fun _=>0 }⟩⟩ BadW
theorem w_all (h:∀ d kwd,defOf vw2 rr2.name=some (d,kwd)→WalkW w d kwd) {d:DefRec} {kwd:List (Str × Expr)} (hd:defOf vw2 rr2.name=some (d,kwd)) :
    WalkO vw2 [Str.ofString "EXACT_TOKEN_TYPES"] (XL vw2 []) H2.says rr2.toRowW d kwd fun f vs=>PySem.call f vs:=by
  intro w' s₀ s₁ mg mb g y
  by_cases b:BadW w'
  · exact absurd h (@Classical.epsilon_spec World BadW ⟨w',b⟩)
  · exact Classical.not_not.mp b d kwd hd w' s₀ s₁ mg mb g ⟨y,rfl⟩
noncomputable def G:Str→Option D:=G2.Gm
noncomputable def K:Heap→Prop:=G2.KH
end Mine
end
section
open PySem PySem.W PyProof.Rows
namespace Mine
noncomputable def mkS (s:List Nat):Str:=⟨s.toArray⟩
mutual
inductive Real (h:Heap) (k:Tok) (M:Addr→Prop):Value→D→Prop
  | none:Real h k M .none .none
  | bool (b:Bool):Real h k M (.bool b) (.bool b)
  | int (i:Int) (t:Tok):Real h k M (.int i t) (.int i)
  | str {s:List Nat} (t:Tok):s.length≤line→Real h k M (.str (mkS s) t) (.str s)
  | tstr {s:List Nat} {t:Tok}:s.length≤line→t≠0→t < k→Real h k M (.str (mkS s) t) (.tstr s)
  | fn {a:Addr} {o:Obj}:¬ M a→h.get? a=some o→Real h k M (.ref a) (.fn a)
  | list {a:Addr} {vs:List Value} {ds:List D} {n:Nat}:¬ M a→IsL h a vs.toArray n→RealL h k M vs ds→ds.length≤line→Real h k M (.ref a) (.list ds)
  | wlist {a:Addr} {vs:List Value} {ds:List D}:¬ M a→h.IsList a vs.toArray→RealL h k M vs ds→ds.length≤line→Real h k M (.ref a) (.wlist ds)
  | tup {a:Addr} {vs:List Value} {ds:List D} {n:Nat}:¬ M a→IsT h a vs.toArray n→RealL h k M vs ds→Real h k M (.ref a) (.tup ds)
  | rng {r:Addr} {a b c:Int} {t u v:Tok}:¬ M r→IsRange h r a b c t u v→Real h k M (.ref r) (.rng a b c)
  | idict {a:Addr} {kvs:List (Int × Value)} {es:List (Int × D)}:¬ M a→(a == sysModules)=false→h.DictOf (intKind prog w) a kvs→RealI h k M kvs es→Real h k M (.ref a) (.idict es)
  | sdict {a:Addr} {kvs:List (Str × Value)} {es:List (List Nat × D)}:¬ M a→(a == sysModules)=false→h.DictOf (strKind prog w) a kvs→RealS h k M kvs es→Real h k M (.ref a) (.sdict es)
inductive RealL (h:Heap) (k:Tok) (M:Addr→Prop):List Value→List D→Prop
  | nil:RealL h k M [] []
  | cons {v:Value} {d:D} {vs:List Value} {ds:List D}:Real h k M v d→RealL h k M vs ds→RealL h k M (v :: vs) (d :: ds)
inductive RealI (h:Heap) (k:Tok) (M:Addr→Prop):List (Int × Value)→List (Int × D)→Prop
  | nil:RealI h k M [] []
  | cons {j:Int} {v:Value} {d:D} {vs:List (Int × Value)} {ds:List (Int × D)}:Real h k M v d→RealI h k M vs ds→RealI h k M ((j,v) :: vs) ((j,d) :: ds)
inductive RealS (h:Heap) (k:Tok) (M:Addr→Prop):List (Str × Value)→List (List Nat × D)→Prop
  | nil:RealS h k M [] []
  | cons {j:List Nat} {v:Value} {d:D} {vs:List (Str × Value)} {ds:List (List Nat × D)}:Real h k M v d→RealS h k M vs ds→RealS h k M ((mkS j,v) :: vs) ((j,d) :: ds)
end
section
variable (h:Heap) (k:Tok) (M:Addr→Prop)
noncomputable def RealInv (v:Value):D→Prop
  | .none=>v=.none
  | .bool b=>v=.bool b
  | .int i=>∃ t,v=.int i t
  | .str s=>∃ t,v=.str (mkS s) t∧s.length≤line
  | .tstr s=>∃ t,v=.str (mkS s) t∧s.length≤line∧t≠0∧t < k
  | .fn a=>∃ o,v=.ref a∧¬ M a∧h.get? a=some o
  | .list ds=>∃ a vs n,v=.ref a∧¬ M a∧IsL h a vs.toArray n∧RealL h k M vs ds∧ds.length≤line
  | .wlist ds=>∃ a vs,v=.ref a∧¬ M a∧h.IsList a vs.toArray∧RealL h k M vs ds∧ds.length≤line
  | .tup ds=>∃ a vs n,v=.ref a∧¬ M a∧IsT h a vs.toArray n∧RealL h k M vs ds
  | .rng a b c=>∃ r t u v',v=.ref r∧¬ M r∧IsRange h r a b c t u v'
  | .idict es=>∃ a kvs,v=.ref a∧¬ M a∧(a == sysModules)=false∧h.DictOf (intKind prog w) a kvs∧RealI h k M kvs es
  | .sdict es=>∃ a kvs,v=.ref a∧¬ M a∧(a == sysModules)=false∧h.DictOf (strKind prog w) a kvs∧RealS h k M kvs es
noncomputable def RealLInv (vs:List Value):List D→Prop
  | []=>vs=[]
  | d :: ds=>∃ v r,vs=v :: r∧Real h k M v d∧RealL h k M r ds
end
theorem Real.inv {h:Heap} {k:Tok} {M:Addr→Prop} {v:Value} {d:D} (r:Real h k M v d):RealInv h k M v d:=by
  induction r using Real.casesOn with
  | none=>exact rfl
  | bool=>exact rfl
  | int _ t=>exact ⟨t,rfl⟩
  | str t z=>exact ⟨t,rfl,z⟩
  | tstr z a b=>exact ⟨_,rfl,z,a,b⟩
  | fn m e=>exact ⟨_,rfl,m,e⟩
  | list m l r z=>exact ⟨_,_,_,rfl,m,l,r,z⟩
  | wlist m l r z=>exact ⟨_,_,rfl,m,l,r,z⟩
  | tup m l r=>exact ⟨_,_,_,rfl,m,l,r⟩
  | rng m l=>exact ⟨_,_,_,_,rfl,m,l⟩
  | idict m n l r=>exact ⟨_,_,rfl,m,n,l,r⟩
  | sdict m n l r=>exact ⟨_,_,rfl,m,n,l,r⟩
theorem RealL.inv {h:Heap} {k:Tok} {M:Addr→Prop} {v:List Value} {d:List D} (r:RealL h k M v d):RealLInv h k M v d:=
  by induction r using RealL.casesOn with | nil=>exact rfl | cons a b=>exact ⟨_,_,rfl,a,b⟩
section
variable {h:Heap} {k:Tok} {M:Addr→Prop}
theorem RealL.ind {P:(vs:List Value)→(ds:List D)→RealL h k M vs ds→Prop} (nil:P [] [] .nil) (cons:∀ (v:Value) (d:D) (vs:List Value) (ds:List D) (a:Real h k M v d) (r:RealL h k M vs ds),P vs ds r→P (v :: vs) (d :: ds) (.cons a r)) {vs:List Value} {ds:List D} (r:RealL h k M vs ds):P vs ds r:=by
  exact RealL.rec (motive_1:=fun _ _ _=>True) (motive_2:=P) (motive_3:=fun _ _ _=>True) (motive_4:=fun _ _ _=>True) (by intros; trivial) (by intros; trivial) (by intros; trivial) (by intros; trivial) (by intros; trivial) (by intros; trivial) (by intros; trivial) (by intros; trivial) (by intros; trivial) (by intros; trivial) (by intros; trivial) (by intros; trivial) nil (fun a r _ ih=>cons _ _ _ _ a r ih) (by intros; trivial) (by intros; trivial) (by intros; trivial) (by intros; trivial) r
theorem RealI.ind {P:(vs:List (Int × Value))→(ds:List (Int × D))→RealI h k M vs ds→Prop} (nil:P [] [] .nil) (cons:∀ (j:Int) (v:Value) (d:D) (vs:List (Int × Value)) (ds:List (Int × D)) (a:Real h k M v d) (r:RealI h k M vs ds),P vs ds r→P ((j,v) :: vs) ((j,d) :: ds) (.cons a r)) {vs:List (Int × Value)} {ds:List (Int × D)} (r:RealI h k M vs ds):P vs ds r:=by
  exact RealI.rec (motive_1:=fun _ _ _=>True) (motive_2:=fun _ _ _=>True) (motive_3:=P) (motive_4:=fun _ _ _=>True) (by intros; trivial) (by intros; trivial) (by intros; trivial) (by intros; trivial) (by intros; trivial) (by intros; trivial) (by intros; trivial) (by intros; trivial) (by intros; trivial) (by intros; trivial) (by intros; trivial) (by intros; trivial) (by intros; trivial) (by intros; trivial) nil (fun a r _ ih=>cons _ _ _ _ _ a r ih) (by intros; trivial) (by intros; trivial) r
theorem RealS.ind {P:(vs:List (Str × Value))→(ds:List (List Nat × D))→RealS h k M vs ds→Prop} (nil:P [] [] .nil) (cons:∀ (j:List Nat) (v:Value) (d:D) (vs:List (Str × Value)) (ds:List (List Nat × D)) (a:Real h k M v d) (r:RealS h k M vs ds),P vs ds r→P ((mkS j,v) :: vs) ((j,d) :: ds) (.cons a r)) {vs:List (Str × Value)} {ds:List (List Nat × D)} (r:RealS h k M vs ds):P vs ds r:=by
  exact RealS.rec (motive_1:=fun _ _ _=>True) (motive_2:=fun _ _ _=>True) (motive_3:=fun _ _ _=>True) (motive_4:=P) (by intros; trivial) (by intros; trivial) (by intros; trivial) (by intros; trivial) (by intros; trivial) (by intros; trivial) (by intros; trivial) (by intros; trivial) (by intros; trivial) (by intros; trivial) (by intros; trivial) (by intros; trivial) (by intros; trivial) (by intros; trivial) (by intros; trivial) (by intros; trivial) nil (fun a r _ ih=>cons _ _ _ _ _ a r ih) r
end
structure Step (h:Heap) (M T:Addr→Prop) (h':Heap) (M' T':Addr→Prop):Prop where
  keep:∀ b o,¬ M b→h.get? b=some o→h'.get? b=some o
  pend:∀ b o,M b→¬ T b→h.get? b=some o→h'.get? b=some o∧M' b
  old:∀ b,M' b→M b∨h.get? b=none
  touch:∀ b,T' b→T b∨h.get? b=none
theorem Step.refl (h:Heap) (M T:Addr→Prop):Step h M T h M T:=⟨fun _ _ _ e=>e,fun _ _ m _ e=>⟨e,m⟩,fun _ m=>.inl m,fun _ m=>.inl m⟩
theorem Step.trans {h₁ h₂ h₃:Heap} {M₁ M₂ M₃ T₁ T₂ T₃:Addr→Prop} (x:Step h₁ M₁ T₁ h₂ M₂ T₂) (y:Step h₂ M₂ T₂ h₃ M₃ T₃):Step h₁ M₁ T₁ h₃ M₃ T₃:=by
  have nk:∀ b o,¬ M₁ b→h₁.get? b=some o→¬ M₂ b:=fun b o m e m₂=>by
    rcases x.old b m₂ with q | q
    · exact m q
    · rw [q] at e; exact nos e
  refine ⟨fun b o m e=>y.keep b o (nk b o m e) (x.keep b o m e),fun b o m t e=>?_,fun b m=>?_,fun b t=>?_⟩
  · obtain ⟨e₂,m₂⟩:=x.pend b o m t e
    refine y.pend b o m₂ (fun t₂=>?_) e₂
    rcases x.touch b t₂ with q | q
    · exact t q
    · rw [q] at e; exact nos e
  · rcases y.old b m with m₂ | n
    · exact x.old b m₂
    · cases q:h₁.get? b with
      | none=>exact .inr rfl
      | some o=>
        by_cases m₁:M₁ b
        · exact .inl m₁
        · rw [x.keep b o m₁ q] at n; exact nos n.symm
  · rcases y.touch b t with t₂ | n
    · exact x.touch b t₂
    · cases q:h₁.get? b with
      | none=>exact .inr rfl
      | some o=>
        by_cases m₁:M₁ b
        · by_cases t₁:T₁ b
          · exact .inl t₁
          · rw [(x.pend b o m₁ t₁ q).1] at n; exact nos n.symm
        · rw [x.keep b o m₁ q] at n; exact nos n.symm
theorem Step.out {h h':Heap} {M M' T T':Addr→Prop} (x:Step h M T h' M' T') {a:Addr} {o:Obj} (m:¬ M a) (e:h.get? a=some o):¬ M' a:=fun m'=>by
  rcases x.old a m' with q | q
  · exact m q
  · rw [e] at q; exact nos q.symm
theorem IsList.at {h h':Heap} {a:Addr} {items:Array Value} (x:h.IsList a items) (k:∀ o,h.get? a=some o→h'.get? a=some o):h'.IsList a items:=let ⟨o,e,r⟩:=x; ⟨o,k o e,r⟩
theorem IsList.some {h:Heap} {a:Addr} {items:Array Value} (x:h.IsList a items):∃ o,h.get? a=some o:=let ⟨o,e,_⟩:=x; ⟨o,e⟩
theorem DictOf.some {K:Type} [DecidableEq K] {knd:KeyKind prog w K} {h:Heap} {a:Addr} {kvs:List (K × Value)} (x:h.DictOf knd a kvs):∃ o,h.get? a=some o:=let ⟨o,_,_,e,_⟩:=x; ⟨o,e⟩
noncomputable def Stand (h:Heap) (M:Addr→Prop):Prop:=∀ b,M b→∃ o,h.get? b=some o
section
variable {h h':Heap} {k k':Tok} {M M' T T':Addr→Prop}
theorem Real.mono (x:Step h M T h' M' T') (lk:k≤k') {v:Value} {d:D} (r:Real h k M v d):Real h' k' M' v d:=
  Real.rec (motive_1:=fun v d _=>Real h' k' M' v d) (motive_2:=fun v d _=>RealL h' k' M' v d) (motive_3:=fun v d _=>RealI h' k' M' v d) (motive_4:=fun v d _=>RealS h' k' M' v d)
    .none .bool .int (fun t l=>.str t l) (fun l t q=>.tstr l t (Nat.lt_of_lt_of_le q lk)) (fun m e=>.fn (x.out m e) (x.keep _ _ m e))
    (fun m l _ z r=>.list (x.out m l) (x.keep _ _ m l) r z) (fun m l _ z r=>.wlist (x.out m (IsList.some l).choose_spec) (IsList.at l fun _ e=>x.keep _ _ m e) r z)
    (fun m l _ r=>.tup (x.out m l) (x.keep _ _ m l) r) (fun m l=>.rng (x.out m l) (x.keep _ _ m l))
    (fun m n l _ r=>.idict (x.out m (DictOf.some l).choose_spec) n (l.at fun _ e=>x.keep _ _ m e) r) (fun m n l _ r=>.sdict (x.out m (DictOf.some l).choose_spec) n (l.at fun _ e=>x.keep _ _ m e) r)
    .nil (fun _ _ a b=>.cons a b) .nil (fun _ _ a b=>.cons a b) .nil (fun _ _ a b=>.cons a b) r
theorem RealL.mono (x:Step h M T h' M' T') (lk:k≤k') {v:List Value} {d:List D} (r:RealL h k M v d):RealL h' k' M' v d:=by
  induction r using RealL.ind with | nil=>exact .nil | cons _ _ _ _ a _ ih=>exact .cons (a.mono x lk) ih
theorem RealI.mono (x:Step h M T h' M' T') (lk:k≤k') {v:List (Int × Value)} {d:List (Int × D)} (r:RealI h k M v d):RealI h' k' M' v d:=by
  induction r using RealI.ind with | nil=>exact .nil | cons _ _ _ _ _ a _ ih=>exact .cons (a.mono x lk) ih
theorem RealS.mono (x:Step h M T h' M' T') (lk:k≤k') {v:List (Str × Value)} {d:List (List Nat × D)} (r:RealS h k M v d):RealS h' k' M' v d:=by
  induction r using RealS.ind with | nil=>exact .nil | cons _ _ _ _ _ a _ ih=>exact .cons (a.mono x lk) ih
end
structure Ext (s s':Shared):Prop where
  keep:∀ b o,s.heap.get? b=some o→s'.heap.get? b=some o
  gens:s'.gens=s.gens
  os:s'.os=s.os
  toks:s.toks≤s'.toks
theorem Ext.refl (s:Shared):Ext s s:=⟨fun _ _ e=>e,rfl,rfl,Nat.le_refl _⟩
theorem Ext.trans {s₁ s₂ s₃:Shared} (x:Ext s₁ s₂) (y:Ext s₂ s₃):Ext s₁ s₃:=⟨fun b o e=>y.keep b o (x.keep b o e),y.gens.trans x.gens,y.os.trans x.os,Nat.le_trans x.toks y.toks⟩
theorem Ext.tk (s:Shared) {n:Nat} (h:s.toks≤n):Ext s { s with toks:=n }:=⟨fun _ _ e=>e,rfl,rfl,h⟩
theorem Ext.tk1 (s:Shared):Ext s { s with toks:=s.toks+1 }:=Ext.tk s (Nat.le_succ _)
theorem Ext.tk2 (s:Shared):Ext s { s with toks:=s.toks+1+1 }:=Ext.tk s (Nat.le_succ_of_le (Nat.le_succ _))
theorem Ext.push (s:Shared) (o:Obj):Ext s { s with heap:=s.heap.push o }:=⟨fun _ _ e=>Heap.get?_push_of_some o e,rfl,rfl,Nat.le_refl _⟩
theorem Ext.pushTk (s:Shared) (o:Obj) {n:Nat} (h:s.toks≤n):Ext s { s with heap:=s.heap.push o,toks:=n }:=⟨fun _ _ e=>Heap.get?_push_of_some o e,rfl,rfl,h⟩
theorem Ext.step {s s':Shared} (x:Ext s s') (M T:Addr→Prop):Step s.heap M T s'.heap M T:=⟨fun b o _ e=>x.keep b o e,fun b o m _ e=>⟨x.keep b o e,m⟩,fun _ m=>.inl m,fun _ m=>.inl m⟩
theorem Ext.stand {s s':Shared} (x:Ext s s') {M:Addr→Prop} (S:Stand s.heap M):Stand s'.heap M:=fun b m=>let ⟨o,e⟩:=S b m; ⟨o,x.keep b o e⟩
theorem fresh_none (h:Heap):h.get? h.objs.size=none:=by
  cases e:h.get? h.objs.size with
  | none=>rfl
  | some o=>exact absurd (Heap.lt_size e) (Nat.lt_irrefl _)
theorem Stand.fresh {h:Heap} {M:Addr→Prop} (S:Stand h M):¬ M h.objs.size:=fun m=>by
  obtain ⟨o,e⟩:=S _ m
  rw [fresh_none] at e; exact nos e
theorem Real.ext {s s':Shared} {M:Addr→Prop} (x:Ext s s') {v:Value} {d:D} (r:Real s.heap s.toks M v d):Real s'.heap s'.toks M v d:=r.mono (x.step M M) x.toks
theorem RealL.ext {s s':Shared} {M:Addr→Prop} (x:Ext s s') {v:List Value} {d:List D} (r:RealL s.heap s.toks M v d):RealL s'.heap s'.toks M v d:=r.mono (x.step M M) x.toks
section
variable {h:Heap} {k:Tok} {M:Addr→Prop} {vs vs':List Value} {ds ds':List D}
theorem RealL.len (r:RealL h k M vs ds):vs.length=ds.length:=by
  induction r using RealL.ind with | nil=>rfl | cons _ _ _ _ _ _ ih=>exact congrArg Nat.succ ih
theorem RealL.append (x:RealL h k M vs ds) (y:RealL h k M vs' ds'):RealL h k M (vs++vs') (ds++ds'):=by
  induction x using RealL.ind with | nil=>exact y | cons _ _ _ _ a _ ih=>exact .cons a ih
theorem RealL.get (r:RealL h k M vs ds) {i:Nat} {d:D} (e:ds[i]? = some d):∃ v,vs[i]? = some v∧Real h k M v d:=by
  induction r using RealL.ind generalizing i with
  | nil=>exact nos e
  | cons v d' _ _ a _ ih=>
    induction i using Nat.casesAuxOn with
    | zero=>obtain rfl:=some1 (show some d'=some d from e); exact ⟨v,rfl,a⟩
    | succ i=>exact ih e
theorem RealL.drop (r:RealL h k M vs ds) (n:Nat):RealL h k M (vs.drop n) (ds.drop n):=by
  induction r using RealL.ind generalizing n with
  | nil=>induction n using Nat.casesAuxOn with | zero=>exact .nil | succ _=>exact .nil
  | cons _ _ _ _ a r ih=>induction n using Nat.casesAuxOn with | zero=>exact .cons a r | succ n=>exact ih n
theorem RealL.take (r:RealL h k M vs ds) (n:Nat):RealL h k M (vs.take n) (ds.take n):=by
  induction r using RealL.ind generalizing n with
  | nil=>induction n using Nat.casesAuxOn with | zero=>exact .nil | succ _=>exact .nil
  | cons _ _ _ _ a r ih=>induction n using Nat.casesAuxOn with | zero=>exact .nil | succ n=>exact .cons a (ih n)
theorem RealL.set (r:RealL h k M vs ds) (i:Nat) {v:Value} {d:D} (x:Real h k M v d):RealL h k M (vs.set i v) (ds.set i d):=by
  induction r using RealL.ind generalizing i with
  | nil=>exact .nil
  | cons _ _ _ _ a r ih=>induction i using Nat.casesAuxOn with | zero=>exact .cons x r | succ i=>exact .cons a (ih i)
end
end Mine
end
section
open PySem PySem.W PyProof.Rows
namespace Mine
section
variable {A:Around} {E:Value→Shared→Prop} {s:Shared} {k:Tok} {M:Addr→Prop}
noncomputable def opOf:Op→Operator
  | .add=>.Add | .sub=>.Sub | .mul=>.Mult | .fdiv=>.FloorDiv | .mod=>.Mod | .pow=>.Pow | .band=>.BitAnd
theorem line_is:line=1048576:=rfl
theorem sml_iff {i:Int}:sml i=true ↔ -(2 ^ 63) < i∧i < 2 ^ 63:=by
  exact decide_eq_true_iff.trans nab
theorem len_mkS (a:List Nat):(mkS a).length=a.length:=by simp [mkS,Str.length]
theorem mkS_append (a b:List Nat):mkS a++mkS b=mkS (a++b):=by
  show Str.mk (a.toArray++b.toArray)=Str.mk _
  rw [List.append_toArray]
theorem foldl_reps (n:Nat) (a:List Nat) (b:Array Nat):(List.replicate n a.toArray).foldl (·++·) b=b++(reps n a).toArray:=by
  induction n generalizing b with
  | zero=>simp [reps]
  | succ n ih=>rw [List.replicate_succ,List.foldl_cons,ih]; simp [reps,List.replicate_succ,Array.append_assoc]
theorem reps_one {α:Type} (a:List α):reps 1 a=a:=by simp [reps]
theorem len_reps {α:Type} (n:Nat) (a:List α):(reps n a).length=n * a.length:=by
  induction n with
  | zero=>simp [reps]
  | succ n ih=>rw [reps,List.replicate_succ,List.flatten_cons,List.length_append]; show _+(reps n a).length=_; rw [ih,Nat.succ_mul,Nat.add_comm]
theorem RealL.reps {h:Heap} {vs:List Value} {ds:List D} (x:RealL h k M vs ds):∀ n:Nat,RealL h k M (reps n vs) (reps n ds)
  | 0=>.nil
  | n+1=>by
    have q:=x.append (x.reps n)
    have e:∀ {α:Type} (l:List α),Mine.reps (n+1) l=l++Mine.reps n l:=fun l=>by rw [Mine.reps,List.replicate_succ,List.flatten_cons]; rfl
    rw [e,e]; exact q
theorem newL_ok {vs:List Value} {ds:List D} (S:Stand s.heap M) (r:RealL s.heap s.toks M vs ds) (z:ds.length≤line) :
    Real { s with heap:=s.heap.push { cls:=.type "list",data:=.seq vs.toArray } }.heap s.toks M (.ref s.heap.objs.size) (.list ds):=
  .list (n:=0) S.fresh (Heap.get?_push_size _ rfl) (r.ext (Ext.push ..)) z
theorem newT_ok {vs:List Value} {ds:List D} (S:Stand s.heap M) (r:RealL s.heap s.toks M vs ds) :
    Real { s with heap:=s.heap.push { cls:=.type "tuple",data:=.seq vs.toArray } }.heap s.toks M (.ref s.heap.objs.size) (.tup ds):=
  .tup (n:=0) S.fresh (Heap.get?_push_size _ rfl) (r.ext (Ext.push ..))
theorem flat_arr (n:Nat) (vs:List Value) (b:Array Value):List.foldl (fun x1 x2=>x1++x2) b (List.replicate n vs.toArray)=b++(reps n vs).toArray:=by
  induction n generalizing b with
  | zero=>simp [reps]
  | succ n ih=>rw [List.replicate_succ,List.foldl_cons,ih]; simp [reps,List.replicate_succ,Array.append_assoc]
theorem mulL_ok {l:Addr} {vs:List Value} {ds:List D} {n₀:Nat} {x:Int} {u:Tok} (S:Stand s.heap M) (hl:IsL s.heap l vs.toArray n₀) (r:RealL s.heap s.toks M vs ds)
    (hx : -(2 ^ 63) < x∧x < 2 ^ 63) (hsz:ds.length * x.toNat≤line) {Q:Value→Shared→Prop} (hQ:∀ v s',Ext s s'→Real s'.heap s'.toks M v (.list (reps x.toNat ds))→Q v s') :
    wpAny (model prog w) A (binaryOp .Mult (.ref l) (.int x u)) Q E s:=by
  have hz:vs.toArray.size * x.toNat≤2 ^ 20:=by rw [List.size_toArray,r.len]; exact hsz
  refine wpAny_binaryOp_repeat_ref (T:= "list") (U:= "int") (by decide) ⟨_,hl,rfl⟩ (fun s'=>typeIs_int s' x u) noFill_list_mul F.fills_int_mul F.slot_int_rmul repeat_list F.slot_int_index.lookup
    (call_meets F.slot_int_rmul (typeIs_int s x u) F.entry_int_rmul (F.args_int_rmul_2 _ _) (int___rmul___int_list x u l vs.toArray n₀)
      ⟨hl,rfl,⟨_,hl,rfl⟩,call_meets F.slot_list_mul ⟨_,hl,rfl⟩ F.entry_list_mul (F.args_list_mul_2 _ _)
        (AutoListH.list___mul___list_int_3 l vs.toArray n₀ x u (by simp [Builtin.List.listFitsIndex]; lia) (by lia) (by simp only [Builtin.List.listTooLong,sizeLine]; simp; simp at hz; lia))
        ⟨hl,?_⟩⟩)
  have e:List.foldl (fun x1 x2=>x1++x2) #[] (List.replicate (if vs.toArray.isEmpty=true then 0 else x.toNat) vs.toArray)=(reps x.toNat vs).toArray:=by
    rw [flat_arr]
    induction vs using List.casesOn with
    | nil=>simp [reps]
    | cons v vs=>simp
  rw [e]
  exact hQ _ _ (Ext.push ..) (newL_ok S (r.reps _) (by rw [len_reps,Nat.mul_comm]; exact hsz))
theorem int2_inv {α:Type} {a b:D} {f:Int→Int→Option α} {c:α} (e:int2 a b f=some c):∃ x y,a=.int x∧b=.int y∧f x y=some c:=by
  induction a using D.casesOn with
  | int x=>induction b using D.casesOn with
    | int y=>exact ⟨x,y,rfl,rfl,e⟩
    | _=>exact nos e
  | _=>exact nos e
theorem iteS {α:Type} {p:Prop} [Decidable p] {x y:α} (e:(if p then some x else Option.none)=some y):p∧x=y:=by
  by_cases h:p
  · rw [if_pos h] at e; exact ⟨h,Option.some.inj e⟩
  · rw [if_neg h] at e; exact nos e
theorem iteN {α:Type} {p:Prop} [Decidable p] {x:Option α} {y:α} (e:(if p then x else Option.none)=some y):p∧x=some y:=by
  by_cases h:p
  · rw [if_pos h] at e; exact ⟨h,e⟩
  · rw [if_neg h] at e; exact nos e
theorem bin_ok {o:Op} {a b d:D} {x y:Value} (S:Stand s.heap M) (hx:Real s.heap s.toks M x a) (hy:Real s.heap s.toks M y b) (e:binD o a b=some d)
    {Q:Value→Shared→Prop} (hQ:∀ v s',Ext s s'→Real s'.heap s'.toks M v d→Q v s'):wpAny (model prog w) A (binaryOp (opOf o) x y) Q E s:=by
  induction o using Op.casesOn with
  | add=>
    induction a using D.casesOn with
    | int i=>induction b using D.casesOn with
      | int j=>
        obtain ⟨t,rfl⟩:=hx.inv; obtain ⟨u,rfl⟩:=hy.inv; obtain rfl:=some1 e; exact PyProof.Rows.add_int (hQ _ _ (Ext.tk1 s) (.int _ _))
      | _=>exact nos e
    | str i=>induction b using D.casesOn with
      | str j=>
        obtain ⟨hl,rfl⟩:=iteS e
        obtain ⟨t,rfl,z₁⟩:=hx.inv; obtain ⟨u,rfl,z₂⟩:=hy.inv
        refine wpAny_grow (PyProof.Rows.add_str (fun t' tk hk=>?_) (by rw [len_mkS,len_mkS]; rw [line_is] at hl; rw [sizeLine_eq]; lia))
        rw [mkS_append]; exact hQ _ _ (Ext.tk s hk) (.str _ (by rw [List.length_append,line_is]; exact hl))
      | _=>exact nos e
    | list i=>induction b using D.casesOn with
      | list j=>
        obtain ⟨hl,rfl⟩:=iteS e
        obtain ⟨_,_,_,rfl,m₁,l₁,r₁,z₁⟩:=hx.inv; obtain ⟨_,_,_,rfl,m₂,l₂,r₂,z₂⟩:=hy.inv
        refine P.add_list l₁ l₂ ?_ (by rw [List.size_toArray,List.size_toArray,r₁.len,r₂.len]; rw [line_is] at hl; rw [sizeLine_eq]; lia)
        rw [List.append_toArray]
        exact hQ _ _ (Ext.push ..) (newL_ok S (r₁.append r₂) (by rw [List.length_append]; exact hl))
      | _=>exact nos e
    | tup i=>induction b using D.casesOn with
      | tup j=>
        obtain ⟨hl,rfl⟩:=iteS e
        obtain ⟨hl,ha,hb⟩:=hl
        obtain ⟨_,_,_,rfl,m₁,l₁,r₁⟩:=hx.inv; obtain ⟨_,_,_,rfl,m₂,l₂,r₂⟩:=hy.inv
        have q₁:=r₁.len; have q₂:=r₂.len
        refine P.add_tuple l₁ l₂ (by rw [List.isEmpty_toArray,List.isEmpty_iff_length_eq_zero]; lia) (by rw [List.isEmpty_toArray,List.isEmpty_iff_length_eq_zero]; lia) ?_ (by rw [List.size_toArray,List.size_toArray,q₁,q₂]; rw [line_is] at hl; rw [sizeLine_eq]; lia)
        rw [List.append_toArray]
        exact hQ _ _ (Ext.push ..) (newT_ok S (r₁.append r₂))
      | _=>exact nos e
    | _=>exact nos e
  | sub=>
    obtain ⟨i,j,rfl,rfl,e⟩:=int2_inv e
    obtain ⟨t,rfl⟩:=hx.inv; obtain ⟨u,rfl⟩:=hy.inv; obtain rfl:=some1 e; exact PyProof.Rows.sub_int (hQ _ _ (Ext.tk1 s) (.int _ _))
  | mul=>
    induction b using D.casesOn with
    | int j=>induction a using D.casesOn with
      | int i=>
        obtain ⟨hl,rfl⟩:=iteS e
        rw [Bool.and_eq_true,sml_iff,sml_iff] at hl
        obtain ⟨t,rfl⟩:=hx.inv; obtain ⟨u,rfl⟩:=hy.inv; exact PyProof.Rows.mul_int (hQ _ _ (Ext.tk1 s) (.int _ _)) (IntMulOk.of_left (intBits_le_64 (by lia) (by lia)))
      | str i=>
        obtain ⟨hl,rfl⟩:=iteS e
        rw [Bool.and_eq_true,sml_iff,decide_eq_true_eq,line_is] at hl
        obtain ⟨t,rfl,z₁⟩:=hx.inv; obtain ⟨u,rfl⟩:=hy.inv
        refine P.mul_str ?_ (fun h1 h2=>?_) (fun _ _=>?_) ?_
        · rw [Bool.or_eq_false_iff]; exact ⟨decide_eq_false (by lia),decide_eq_false (by lia)⟩
        · have h3:0 < j:=by lia
          have h4:(i.length:Int) * j≤1048576:=by
            have:=hl.2
            have e:((i.length * j.toNat:Nat):Int)=i.length * j:=by rw [Int.natCast_mul,Int.toNat_of_nonneg (by exact Int.le_of_lt h3)]
            exact Nat.ToInt.of_le e rfl this
          rw [len_mkS,gt_iff_lt,Int.not_lt]
          exact Int.le_trans (Int.le_ediv_of_mul_le h3 h4) (Int.ediv_le_ediv h3 (by decide))
        · unfold Builtin.Str.tooLong; rw [len_mkS]; exact decide_eq_false (by rw [sizeLine_eq]; lia)
        · split
          · rename_i h1
            have:j.toNat=0:=by lia
            rw [this] at hQ
            exact ⟨by decide,hQ _ _ (Ext.tk1 s) (.str (s:=[]) _ (Nat.zero_le _))⟩
          · split
            · rename_i h1 h2
              have e:reps j.toNat i=i:=by
                rw [Bool.or_eq_true,len_mkS,beq_iff_eq,beq_iff_eq] at h2
                rcases h2 with h2 | h2
                · subst h2; exact reps_one i
                · have:=List.eq_nil_of_length_eq_zero h2
                  subst this
                  exact List.eq_nil_of_length_eq_zero (by rw [len_reps]; rfl)
              rw [e] at hQ
              exact hQ _ _ (Ext.refl _) (.str _ z₁)
            · have e:(⟨(List.replicate j.toNat (mkS i).cps).foldl (·++·) #[]⟩ : Str)=mkS (reps j.toNat i):=by
                show Str.mk _=Str.mk _
                rw [show (mkS i).cps=i.toArray from rfl,foldl_reps,Array.empty_append]
              rw [e]
              refine ⟨?_,hQ _ _ (Ext.tk1 s) (.str _ (by rw [len_reps,Nat.mul_comm,line_is]; exact hl.2))⟩
              rw [len_mkS,len_reps,Nat.mul_comm,sizeLine_eq]; lia
      | list i=>
        obtain ⟨hl,rfl⟩:=iteS e
        rw [Bool.and_eq_true,sml_iff,decide_eq_true_eq] at hl
        obtain ⟨_,_,_,rfl,m₁,l₁,r₁,z₁⟩:=hx.inv; obtain ⟨u,rfl⟩:=hy.inv
        exact mulL_ok S l₁ r₁ hl.1 hl.2 hQ
      | _=>exact nos e
    | _=>exact nos e
  | fdiv=>
    obtain ⟨i,j,rfl,rfl,e⟩:=int2_inv e
    obtain ⟨hl,rfl⟩:=iteS e
    rw [Bool.and_eq_true,Bool.and_eq_true,decide_eq_true_eq] at hl
    obtain ⟨t,rfl⟩:=hx.inv; obtain ⟨u,rfl⟩:=hy.inv; exact PyProof.Rows.floordiv_int hl.2 (hQ _ _ (Ext.tk1 s) (.int _ _)) (.inl (PyProof.noPylong_of_log2 (by
      by_cases h0:j.natAbs=0
      · rw [h0]; decide +kernel
      · have h63:j.natAbs.log2 < 63:=(Nat.log2_lt h0).mpr (of_decide_eq_true hl.1.2)
        lia)))
  | mod=>
    obtain ⟨i,j,rfl,rfl,e⟩:=int2_inv e
    obtain ⟨hl,rfl⟩:=iteS e
    rw [decide_eq_true_eq] at hl
    obtain ⟨t,rfl⟩:=hx.inv; obtain ⟨u,rfl⟩:=hy.inv; exact PyProof.Rows.mod_int hl (hQ _ _ (Ext.tk1 s) (.int _ _))
  | pow=>
    obtain ⟨i,j,rfl,rfl,e⟩:=int2_inv e
    obtain ⟨hl,rfl⟩:=iteS e
    rw [Bool.and_eq_true,Bool.and_eq_true,decide_eq_true_eq,decide_eq_true_eq] at hl
    obtain ⟨t,rfl⟩:=hx.inv; obtain ⟨u,rfl⟩:=hy.inv; exact PyProof.Rows.pow_int_small hl.1.2 (by have:=hl.2; lia) (Nat.lt_trans (of_decide_eq_true hl.1.1) (by decide)) (hQ _ _ (Ext.tk1 s) (.int _ _))
  | band=>
    obtain ⟨i,j,rfl,rfl,e⟩:=int2_inv e
    obtain ⟨hl,rfl⟩:=iteS e
    rw [Bool.and_eq_true,decide_eq_true_eq,decide_eq_true_eq] at hl
    obtain ⟨t,rfl⟩:=hx.inv; obtain ⟨u,rfl⟩:=hy.inv
    refine PyProof.Rows.and_int ?_
    rw [bitAnd_pp hl.1 hl.2]
    exact hQ _ _ (Ext.tk1 s) (.int _ _)
end
end Mine
end
section
open PySem PySem.W PyProof.Rows PySem.SeqAt
set_option autoImplicit false
namespace Mine
section
variable {A:Around} {E:Value→Shared→Prop} {s:Shared} {k:Tok} {M:Addr→Prop}
noncomputable def cmpOf:Cmp→CmpOp
  | .eq=>.Eq | .ne=>.NotEq | .lt=>.Lt | .le=>.LtE | .gt=>.Gt | .ge=>.GtE | .isIn=>.In | .notIn=>.NotIn | .isNot=>.IsNot
theorem RealL.isEmpty {h:Heap} {vs:List Value} {ds:List D} (r:RealL h k M vs ds):vs.isEmpty=ds.isEmpty:=by cases r <;> rfl
theorem toInts_cons {d:D} {ds:List D} {l:List Int} (e:toInts (d :: ds)=some l):∃ i r,d=.int i∧toInts ds=some r∧l=i :: r:=by
  obtain ⟨i,h1,e⟩:=bs e; obtain ⟨r,h2,rfl⟩:=ms e; exact ⟨i,r,int_is h1,h2,rfl⟩
theorem RealL.ints {h:Heap} {vs:List Value} {ds:List D} {l:List Int} (r:RealL h k M vs ds) (e:toInts ds=some l):IntsAre vs l:=by
  induction r using RealL.ind generalizing l with
  | nil=>obtain rfl:=some1 e; exact .nil
  | cons _ _ _ _ a r ih=>
    obtain ⟨i,l',rfl,e',rfl⟩:=toInts_cons e
    obtain ⟨t,rfl⟩:=a.inv; exact .cons _ _ (ih e')
theorem toInts_len {ds:List D} {l:List Int} (e:toInts ds=some l):ds.length=l.length:=by
  induction ds generalizing l with
  | nil=>obtain rfl:=some1 e; rfl
  | cons d ds ih=>
    obtain ⟨i,l',rfl,e',rfl⟩:=toInts_cons e
    exact congrArg Nat.succ (ih e')
theorem range_all_eq:∀ (x y:List Int),x.length=y.length→((List.range x.length).all fun j=>x[j]? == y[j]?)=(x == y)
  | x,y,h=>by
    rw [Bool.eq_iff_iff,List.all_eq_true,beq_iff_eq]
    constructor
    · intro q
      refine List.ext_getElem? fun j=>?_
      by_cases hj:j < x.length
      · exact eq_of_beq (q j (List.mem_range.mpr hj))
      · rw [List.getElem?_eq_none (by exact Nat.le_of_not_lt hj),List.getElem?_eq_none (by lia)]
    · rintro rfl j _
      exact beq_self_eq_true _
theorem IntsAre.len {vs:List Value} {ns:List Int} (h:IntsAre vs ns):vs.length=ns.length:=IntsAre.length h
theorem IntsAre.at {vs:List Value} {ns:List Int} (h:IntsAre vs ns):∀ (j:Nat) (hj:j < vs.length),∃ t,vs[j]=.int (ns[j]'(by rw [← IntsAre.len h]; exact hj)) t:=by
  induction h with
  | nil=>intro j hj; simp at hj
  | cons n u h ih=>
    intro j hj
    induction j using Nat.casesAuxOn with
    | zero=>exact ⟨_,rfl⟩
    | succ j=>exact ih j (by simpa using hj)
theorem intsEq {A:Around} {s:Shared} {vs ws:List Value} {x y:List Int} (hx:IntsAre vs x) (hy:IntsAre ws y) :
    ∀ j (h1:j < vs.toArray.size) (h2:j < ws.toArray.size),EqAt A s vs.toArray[j] ws.toArray[j] (x[j]? == y[j]?):=by
  intro j h1 h2
  have h1':j < vs.length:=by simpa using h1
  have h2':j < ws.length:=by simpa using h2
  obtain ⟨t,e1⟩:=IntsAre.at hx j h1'
  obtain ⟨u,e2⟩:=IntsAre.at hy j h2'
  have l1:=IntsAre.len hx
  have l2:=IntsAre.len hy
  rw [List.getElem_toArray,List.getElem_toArray,e1,e2,List.getElem?_eq_getElem (by exact Nat.lt_of_lt_of_eq h1 l1),List.getElem?_eq_getElem (by exact Nat.lt_of_lt_of_eq h2 l2)]
  exact EqAt.int_int _ _ _ _
theorem eqL_ok {a b:Addr} {vs ws:List Value} {n m:Nat} {x y:List Int} (ha:IsL s.heap a vs.toArray n) (hb:IsL s.heap b ws.toArray m) (hx:IntsAre vs x) (hy:IntsAre ws y) (hu:A.units < cLine) :
    RcAt A s (.ref a) (.ref b) (x == y):=by
  have l1:=IntsAre.len hx
  have l2:=IntsAre.len hy
  by_cases h:vs.length=ws.length
  · have q:=RcAt.lists ha.isList hb.isList (by simpa using h) hu (intsEq hx hy)
    rw [List.size_toArray,l1,range_all_eq x y (by lia)] at q
    exact q
  · have q:RcAt A s (.ref a) (.ref b) false:=RcAt.lists_lengths ha.isList hb.isList (by simpa using h) hu
    rw [show (x == y)=false from beq_false_of_ne fun e=>h (by rw [l1,l2,e])]
    exact q
theorem neL_ok {a b:Addr} {vs ws:List Value} {n m:Nat} {x y:List Int} (ha:IsL s.heap a vs.toArray n) (hb:IsL s.heap b ws.toArray m) (hx:IntsAre vs x) (hy:IntsAre ws y) (hu:A.units < cLine) :
    RcNeAt A s (.ref a) (.ref b) (!(x == y)):=by
  have l1:=IntsAre.len hx
  have l2:=IntsAre.len hy
  by_cases h:vs.length=ws.length
  · have q:=RcNeAt.lists ha.isList hb.isList (by simpa using h) hu (intsEq hx hy)
    rw [List.size_toArray,l1,range_all_eq x y (by lia)] at q
    exact q
  · have q:RcNeAt A s (.ref a) (.ref b) true:=RcNeAt.lists_lengths ha.isList hb.isList (by simpa using h) hu
    rw [show (x == y)=false from beq_false_of_ne fun e=>h (by rw [l1,l2,e])]
    exact q
theorem eqNil_ok {a b:Addr} {vs:List Value} {n m:Nat} (ha:IsL s.heap a vs.toArray n) (hb:IsL s.heap b #[] m) (hu:A.units < cLine):RcAt A s (.ref a) (.ref b) vs.isEmpty:=by
  induction vs using List.casesOn with
  | nil=>exact RcAt.lists (e:=fun _=>true) ha.isList hb.isList rfl hu (fun j h1=>by simp at h1)
  | cons v vs=>exact RcAt.lists_lengths ha.isList hb.isList (by simp) hu
theorem neNil_ok {a b:Addr} {vs:List Value} {n m:Nat} (ha:IsL s.heap a vs.toArray n) (hb:IsL s.heap b #[] m) (hu:A.units < cLine):RcNeAt A s (.ref a) (.ref b) (!vs.isEmpty):=by
  induction vs using List.casesOn with
  | nil=>exact RcNeAt.lists (e:=fun _=>true) ha.isList hb.isList rfl hu (fun j h1=>by simp at h1)
  | cons v vs=>exact RcNeAt.lists_lengths ha.isList hb.isList (by simp) hu
theorem any_isInt {k:Int} {vs:List Value} {ns:List Int} (h:IntsAre vs ns):vs.any (isInt k)=ns.contains k:=by
  induction h with
  | nil=>rfl
  | cons n u h ih=>
    rw [List.any_cons,List.contains_cons,ih]
    exact congrArg (· || _) (BEq.comm (a:=n) (b:=k))
noncomputable def rowIs (h:Heap) (x:List Int) (v:Value):Prop:=∃ a vs n,v=.ref a∧IsL h a vs.toArray n∧IntsAre vs x
class inductive RowsL (h:Heap):List (List Int)→List Value→Prop
  | nil:RowsL h [] []
  | cons {x:List Int} {v:Value} {l:List (List Int)} {vs:List Value}:rowIs h x v→RowsL h l vs→RowsL h (x :: l) (v :: vs)
noncomputable def IntsInv (vs:List Value):List Int→Prop
  | []=>vs=[]
  | i :: l=>∃ t r,vs=.int i t :: r∧IntsAre r l
theorem ints_inv {vs:List Value} {l:List Int} (h:IntsAre vs l):IntsInv vs l:=by
  induction h using IntsAre.casesOn with | nil=>exact rfl | cons _ _ h=>exact ⟨_,_,rfl,h⟩
theorem intsUniq {vs:List Value} {x y:List Int} (h:IntsAre vs x) (g:IntsAre vs y):x=y:=by
  induction h generalizing y with
  | nil=>induction y using List.casesOn with
    | nil=>rfl
    | cons _ _=>obtain ⟨_,_,e,_⟩:=ints_inv g; exact absurd e.symm (List.cons_ne_nil _ _)
  | cons i t h ih=>induction y using List.casesOn with
    | nil=>exact absurd (ints_inv g) (List.cons_ne_nil _ _)
    | cons j l=>
      obtain ⟨_,_,e,g⟩:=ints_inv g
      obtain ⟨e2,rfl⟩:=List.cons.inj e
      rw [ih g,(Value.int.inj e2).1]
theorem rowUniq {h:Heap} {x y:List Int} {v:Value} (a:rowIs h x v) (b:rowIs h y v):x=y:=by
  obtain ⟨p,vs,n,rfl,l,i⟩:=a
  obtain ⟨q,ws,m,e,l',i'⟩:=b
  obtain rfl:=Value.ref.inj e
  have q:=Option.some.inj (l.symm.trans l')
  have q2:vs.toArray=ws.toArray:=by injection q with _ _ q _; injection q
  have q3:vs=ws:=by simpa using q2
  subst q3
  exact intsUniq i i'
theorem Real.row {h:Heap} {v:Value} {ds:List D} {x:List Int} (r:Real h k M v (.list ds)) (e:toInts ds=some x):rowIs h x v:=by
  obtain ⟨_,_,_,rfl,m,l,q,_⟩:=r.inv; exact ⟨_,_,_,rfl,l,q.ints e⟩
theorem toRows_cons {d:D} {ds:List D} {l:List (List Int)} (e:toRows (d :: ds)=some l):∃ xs i r,d=.list xs∧toInts xs=some i∧toRows ds=some r∧l=i :: r:=by
  obtain ⟨xs,h1,e⟩:=bs e; obtain ⟨i,h2,e⟩:=bs e; obtain ⟨r,h3,rfl⟩:=ms e; exact ⟨xs,i,r,lst_is h1,h2,h3,rfl⟩
theorem RealL.rows {h:Heap} {vs:List Value} {ds:List D} {l:List (List Int)} (r:RealL h k M vs ds) (e:toRows ds=some l):RowsL h l vs:=by
  induction r using RealL.ind generalizing l with
  | nil=>obtain rfl:=some1 e; exact .nil
  | cons _ _ _ _ a r ih=>
    obtain ⟨xs,i,l',rfl,e1,e',rfl⟩:=toRows_cons e
    exact .cons (a.row e1) (ih e')
theorem row_eq {x y:List Int} {v u:Value} (a:rowIs s.heap x v) (b:rowIs s.heap y u) (hu:A.units < cLine):EqAt A s v u (x == y):=by
  obtain ⟨p,vs,n,rfl,l,i⟩:=a
  obtain ⟨q,ws,m,rfl,l',i'⟩:=b
  by_cases h:p=q
  · subst h
    rw [rowUniq ⟨p,vs,n,rfl,l,i⟩ ⟨p,ws,m,rfl,l',i'⟩,beq_self_eq_true]
    exact EqAt.same _
  · exact EqAt.of_refs h (eqL_ok l l' i i' hu)
noncomputable def hitRow (h:Heap) (x:List Int) (v:Value):Bool:=@decide (rowIs h x v) (Classical.propDecidable _)
theorem hitRow_eq {h:Heap} {x y:List Int} {v:Value} (a:rowIs h y v):hitRow h x v=(y == x):=by
  unfold hitRow
  rw [Bool.eq_iff_iff,@decide_eq_true_iff _ (Classical.propDecidable _),beq_iff_eq]
  exact ⟨fun b=>rowUniq a b,fun e=>e ▸ a⟩
theorem any_hitRow {h:Heap} {x:List Int} {l:List (List Int)} {vs:List Value} (r:RowsL h l vs):vs.any (hitRow h x)=l.contains x:=by
  induction r with
  | nil=>rfl
  | cons a r ih=>rw [List.any_cons,List.contains_cons,ih,hitRow_eq a,BEq.comm]
theorem mem_row {h:Heap} {l:List (List Int)} {vs:List Value} (r:RowsL h l vs):∀ v∈vs,∃ x,rowIs h x v:=by
  induction r with
  | nil=>exact fun v m=>absurd m List.not_mem_nil
  | cons a r ih=>
    intro v m
    rcases List.mem_cons.mp m with m | m
    · exact ⟨_,m ▸ a⟩
    · exact ih v m
theorem notInD_inv {x y:List D} {c:Bool} (e:notInD (.list x) (.list y)=some c):∃ u v,toInts x=some u∧toRows y=some v∧(!v.contains u)=c:=by
  obtain ⟨u,h1,e⟩:=Option.bind_eq_some_iff.mp (show (toInts x).bind _=some c from e)
  obtain ⟨v,h2,e⟩:=Option.map_eq_some_iff.mp e
  exact ⟨u,v,h1,h2,e⟩
inductive EqR:D→D→Bool→Prop
  | int (i j:Int):EqR (.int i) (.int j) (decide (i=j))
  | str (x y:List Nat):EqR (.str x) (.str y) (x == y)
  | bool (x y:Bool):EqR (.bool x) (.bool y) (x == y)
  | nil (x:List D):EqR (.list x) (.list []) x.isEmpty
  | list (x y:List D) (u v:List Int):toInts x=some u→toInts y=some v→EqR (.list x) (.list y) (u == v)
theorem eqD_inv {a b:D} {c:Bool} (e:eqD a b=some c):EqR a b c:=by
  induction a using D.casesOn with
  | int i=>induction b using D.casesOn with
    | int j=>obtain rfl:=Option.some.inj e; exact .int i j
    | _=>exact nos e
  | str x=>induction b using D.casesOn with
    | str y=>obtain rfl:=Option.some.inj e; exact .str x y
    | _=>exact nos e
  | bool x=>induction b using D.casesOn with
    | bool y=>obtain rfl:=Option.some.inj e; exact .bool x y
    | _=>exact nos e
  | list x=>induction b using D.casesOn with
    | list y=>induction y using List.casesOn with
      | nil=>obtain rfl:=Option.some.inj e; exact .nil x
      | cons y0 y=>
        obtain ⟨u,h1,e⟩:=Option.bind_eq_some_iff.mp (show (toInts x).bind _=some c from e)
        obtain ⟨v,h2,rfl⟩:=Option.map_eq_some_iff.mp e
        exact .list x _ u v h1 h2
    | _=>exact nos e
  | _=>exact nos e
set_option tactic.hygienic true in
theorem eqD_ok {a b:D} {c:Bool} {x y:Value} (hx:Real s.heap s.toks M x a) (hy:Real s.heap s.toks M y b) (hu:A.units+2 < cLine) (e:eqD a b=some c)
    {Q:Value→Shared→Prop} (hQ:∀ s',Ext s s'→Q (.bool c) s'):wpAny (model prog w) A (compareOp .Eq x y) Q E s:=by
  cases eqD_inv e with
  | int i j=>obtain ⟨t,rfl⟩:=hx.inv; obtain ⟨u,rfl⟩:=hy.inv; exact PyProof.Rows.eq_int (hQ _ (Ext.refl _))
  | str=>obtain ⟨t,rfl,z₁⟩:=hx.inv; obtain ⟨u,rfl,z₂⟩:=hy.inv; exact P.eq_str (hQ _ (Ext.refl _))
  | bool=>obtain rfl:=hx.inv; obtain rfl:=hy.inv; exact PyProof.Rows.eq_bool (hQ _ (Ext.refl _))
  | nil x=>
    obtain ⟨_,_,_,rfl,m,l,r,z⟩:=hx.inv
    obtain ⟨_,_,_,rfl,m',l',r',z'⟩:=hy.inv
    obtain rfl:=r'.inv
    have q:=eqNil_ok l l' (A:=A) (by exact Nat.lt_of_add_right_lt hu)
    rw [r.isEmpty] at q
    exact q prog w E Q (hQ _ (Ext.refl _))
  | list x y u v e1 e2=>
    obtain ⟨_,_,_,rfl,m,l,r,z⟩:=hx.inv
    obtain ⟨_,_,_,rfl,m',l',r',z'⟩:=hy.inv
    exact eqL_ok l l' (r.ints e1) (r'.ints e2) (by exact Nat.lt_of_add_right_lt hu) prog w E Q (hQ _ (Ext.refl _))
set_option tactic.hygienic true in
theorem neD_ok {a b:D} {c:Bool} {x y:Value} (hx:Real s.heap s.toks M x a) (hy:Real s.heap s.toks M y b) (hu:A.units+2 < cLine) (e:eqD a b=some c)
    {Q:Value→Shared→Prop} (hQ:∀ s',Ext s s'→Q (.bool (!c)) s'):wpAny (model prog w) A (compareOp .NotEq x y) Q E s:=by
  cases eqD_inv e with
  | int i j=>obtain ⟨t,rfl⟩:=hx.inv; obtain ⟨u,rfl⟩:=hy.inv; exact PyProof.Rows.ne_int (hQ _ (Ext.refl _))
  | str=>obtain ⟨t,rfl,z₁⟩:=hx.inv; obtain ⟨u,rfl,z₂⟩:=hy.inv; exact P.ne_str (hQ _ (Ext.refl _))
  | bool=>obtain rfl:=hx.inv; obtain rfl:=hy.inv; exact PyProof.Rows.ne_bool (hQ _ (Ext.refl _))
  | nil x=>
    obtain ⟨_,_,_,rfl,m,l,r,z⟩:=hx.inv
    obtain ⟨_,_,_,rfl,m',l',r',z'⟩:=hy.inv
    obtain rfl:=r'.inv
    have q:=neNil_ok l l' (A:=A) (by exact Nat.lt_of_add_right_lt hu)
    rw [r.isEmpty] at q
    exact q prog w E Q (hQ _ (Ext.refl _))
  | list x y u v e1 e2=>
    obtain ⟨_,_,_,rfl,m,l,r,z⟩:=hx.inv
    obtain ⟨_,_,_,rfl,m',l',r',z'⟩:=hy.inv
    exact neL_ok l l' (r.ints e1) (r'.ints e2) (by exact Nat.lt_of_add_right_lt hu) prog w E Q (hQ _ (Ext.refl _))
theorem cmp_ok {o:Cmp} {a b:D} {c:Bool} {x y:Value} (hx:Real s.heap s.toks M x a) (hy:Real s.heap s.toks M y b) (hu:A.units+2 < cLine) (e:cmpD o a b=some c)
    {Q:Value→Shared→Prop} (hQ:∀ s',Ext s s'→Q (.bool c) s'):wpAny (model prog w) A (compareOp (cmpOf o) x y) Q E s:=by
  induction o using Cmp.casesOn with
  | eq=>exact eqD_ok hx hy hu e hQ
  | ne=>
    obtain ⟨c',e',rfl⟩:=Option.map_eq_some_iff.mp e
    exact neD_ok hx hy hu e' hQ
  | lt=>obtain ⟨i,j,rfl,rfl,e⟩:=int2_inv e; obtain rfl:=Option.some.inj e; obtain ⟨t,rfl⟩:=hx.inv; obtain ⟨u,rfl⟩:=hy.inv; exact PyProof.Rows.lt_int (hQ _ (Ext.refl _))
  | le=>obtain ⟨i,j,rfl,rfl,e⟩:=int2_inv e; obtain rfl:=Option.some.inj e; obtain ⟨t,rfl⟩:=hx.inv; obtain ⟨u,rfl⟩:=hy.inv; exact PyProof.Rows.le_int (hQ _ (Ext.refl _))
  | gt=>obtain ⟨i,j,rfl,rfl,e⟩:=int2_inv e; obtain rfl:=Option.some.inj e; obtain ⟨t,rfl⟩:=hx.inv; obtain ⟨u,rfl⟩:=hy.inv; exact PyProof.Rows.gt_int (hQ _ (Ext.refl _))
  | ge=>obtain ⟨i,j,rfl,rfl,e⟩:=int2_inv e; obtain rfl:=Option.some.inj e; obtain ⟨t,rfl⟩:=hx.inv; obtain ⟨u,rfl⟩:=hy.inv; exact PyProof.Rows.ge_int (hQ _ (Ext.refl _))
  | isIn=>
    induction a using D.casesOn with
    | str x=>induction x using List.casesOn with
      | nil=>exact nos e
      | cons c' r=>induction r using List.casesOn with
        | cons _ _=>exact nos e
        | nil=>induction b using D.casesOn with
          | str s'=>
            obtain rfl:=Option.some.inj e
            obtain ⟨t,rfl,z₁⟩:=hx.inv
            obtain ⟨u,rfl,z₂⟩:=hy.inv
            refine PySem.SeqRoads2.in_meets (typeIs_str s _ _) F.slot_str_contains F.entry_str_contains (F.args_str_contains_2 _ _) (gives_str_contains (mkS s') (mkS [c']) u t).meets ?_
            refine ⟨_,rfl,?_⟩
            rw [show mkS [c']=⟨#[c']⟩ from rfl,StrLaws.found_one]
            rw [show decide (c'∈(mkS s').cps.toList)=s'.contains c' from by rw [Bool.eq_iff_iff,decide_eq_true_eq,List.contains_iff_mem]; exact Iff.rfl]
            exact hQ _ (Ext.refl _)
          | _=>exact nos e
    | int i=>induction b using D.casesOn with
      | list y=>
        obtain ⟨l',e1,rfl⟩:=Option.map_eq_some_iff.mp (show (toInts y).map _=some c from e)
        obtain ⟨t,rfl⟩:=hx.inv
        obtain ⟨_,_,_,rfl,m,l,r,z⟩:=hy.inv
        have hi:=r.ints e1
        refine in_listAt (isInt _) l.isList (fun y hy=>(eq_isInt _ t hi y (by simpa using hy)).at _ _) ?_
        rw [← Array.any_toList,any_isInt hi]
        exact hQ _ (Ext.refl _)
      | _=>exact nos e
    | _=>exact nos e
  | notIn=>
    induction a using D.casesOn with
    | list x=>induction b using D.casesOn with
      | list y=>
        obtain ⟨xr,lr,e1,e2,rfl⟩:=notInD_inv e
        have hr:=hx.row e1
        obtain ⟨_,_,_,rfl,m,l,r,z⟩:=hy.inv
        have hi:=r.rows e2
        refine notIn_listAt (hitRow s.heap xr) l.isList (fun y hy=>?_) ?_
        · obtain ⟨x',hx'⟩:=mem_row hi y (by simpa using hy)
          rw [hitRow_eq hx']
          exact row_eq hx' hr (by show A.units+1 < cLine; exact Nat.lt_of_succ_lt hu)
        · rw [← Array.any_toList,any_hitRow hi]
          exact hQ _ (Ext.refl _)
      | _=>exact nos e
    | _=>exact nos e
  | isNot=>
    induction a using D.casesOn with
    | bool p=>induction b using D.casesOn with
      | bool q=>
        obtain rfl:=Option.some.inj e
        obtain rfl:=hx.inv
        obtain rfl:=hy.inv
        exact wpAny_isNot_plain rfl (by rw [show (Value.bool p == Value.bool q)=(p == q) from by rw [Bool.eq_iff_iff,beq_iff_eq,beq_iff_eq]; exact ⟨fun e=>by injection e,fun e=>by rw [e]⟩]; exact hQ _ (Ext.refl _))
      | _=>exact nos e
    | _=>exact nos e
end
end Mine
end
section
open PySem PySem.W PyProof.Rows PySem.SeqAt
set_option autoImplicit false
namespace Mine
section
variable {A:Around} {E:Value→Shared→Prop} {s:Shared} {k:Tok} {M:Addr→Prop}
theorem tru_ok {d:D} {b:Bool} {x:Value} (hx:Real s.heap s.toks M x d) (e:truD d=some b) {Q:Bool→Shared→Prop} (hQ:∀ s',Ext s s'→Q b s'):wpAny (model prog w) A (truthy x) Q E s:=by
  induction d using D.casesOn with
  | none=>obtain rfl:=hx.inv; obtain rfl:=some1 e; exact PyProof.Rows.truthy_none (hQ _ (Ext.refl _))
  | bool b'=>obtain rfl:=hx.inv; obtain rfl:=some1 e; exact wpAny_truthy_bool (hQ _ (Ext.refl _))
  | int i=>
    obtain ⟨t,rfl⟩:=hx.inv
    obtain rfl:=some1 e
    refine PyProof.Rows.truthy_int ?_
    rw [show (i != 0)=decide (i≠0) from by rw [bne,decide_not]; rfl]; exact hQ _ (Ext.refl _)
  | str t=>
    obtain ⟨u,rfl,h⟩:=hx.inv
    obtain rfl:=some1 e
    rw [line_is] at h
    refine P.truthy_str (by rw [len_mkS]; lia) ?_
    rw [len_mkS,show ((t.length:Int) != 0) = !t.isEmpty from by induction t using List.casesOn <;> rfl]
    exact hQ _ (Ext.tk2 s)
  | _=>exact nos e
theorem inp_ok {o:Op} {a b:D} {r:Int} {x y:Value} (hx:Real s.heap s.toks M x a) (hy:Real s.heap s.toks M y b) (e:binD o a b=some (.int r)) (ho:o=.add∨o=.sub∨o=.mul)
    {Q:Value→Shared→Prop} (hQ:∀ t s',Ext s s'→Q (.int r t) s'):wpAny (model prog w) A (inplaceOp (opOf o) x y) Q E s:=by
  rcases ho with rfl | rfl | rfl
  · induction a using D.casesOn with
    | int i=>induction b using D.casesOn with
      | int j=>
        obtain rfl:i+j=r:=by injection Option.some.inj e
        obtain ⟨t,rfl⟩:=hx.inv
        obtain ⟨u,rfl⟩:=hy.inv
        exact PyProof.Rows.iadd_int (hQ _ _ (Ext.tk1 s))
      | _=>exact nos e
    | str i=>induction b using D.casesOn with
      | str j=>exact D.noConfusion (iteS e).2
      | _=>exact nos e
    | list i=>induction b using D.casesOn with
      | list j=>exact D.noConfusion (iteS e).2
      | _=>exact nos e
    | tup i=>induction b using D.casesOn with
      | tup j=>exact D.noConfusion (iteS e).2
      | _=>exact nos e
    | _=>exact nos e
  · obtain ⟨i,j,rfl,rfl,e⟩:=int2_inv e
    obtain rfl:i - j=r:=by injection Option.some.inj e
    obtain ⟨t,rfl⟩:=hx.inv
    obtain ⟨u,rfl⟩:=hy.inv
    exact PyProof.Rows.isub_int (hQ _ _ (Ext.tk1 s))
  · induction b using D.casesOn with
    | int j=>induction a using D.casesOn with
      | int i=>
        obtain ⟨hl,e⟩:=iteS e
        obtain rfl:i * j=r:=by injection e
        rw [Bool.and_eq_true,sml_iff,sml_iff] at hl
        obtain ⟨t,rfl⟩:=hx.inv
        obtain ⟨u,rfl⟩:=hy.inv
        exact PyProof.Rows.imul_int (hQ _ _ (Ext.tk1 s)) (IntMulOk.of_left (intBits_le_64 (by lia) (by lia)))
      | str i=>exact D.noConfusion (iteS e).2
      | list i=>exact D.noConfusion (iteS e).2
      | _=>exact nos e
    | _=>exact nos e
theorem nth_cases {α:Type} {xs:List α} {i:Int} {c:α} (e:nth xs i=some c) :
    (0≤i∧xs[i.toNat]? = some c)∨(i < 0∧-(xs.length:Int)≤i∧xs[(i+xs.length).toNat]? = some c):=by
  delta nth at e
  split at e
  · rename_i h; exact .inl ⟨h,e⟩
  · split at e
    · rename_i h h'; exact .inr ⟨by exact Int.lt_of_not_ge h,h',e⟩
    · exact nos e
theorem seqIdx {α:Type} {xs:List α} {i:Int} {c:α} (e:nth xs i=some c):∃ j,seqIndex? i xs.length=some j∧xs[j]? = some c:=by
  unfold seqIndex?
  rcases nth_cases e with ⟨h0,h1⟩ | ⟨h0,h1,h2⟩
  · have hl:=(List.getElem?_eq_some_iff.mp h1).1
    refine ⟨i.toNat,?_,h1⟩
    have e0:(if i < 0 then i+(xs.length:Int) else i)=i:=if_neg (by exact Int.not_lt_of_ge h0)
    simp only [e0]
    rw [if_pos (by rw [Bool.and_eq_true,decide_eq_true_eq,decide_eq_true_eq]; lia)]
  · have hl:=(List.getElem?_eq_some_iff.mp h2).1
    refine ⟨_,?_,h2⟩
    have e0:(if i < 0 then i+(xs.length:Int) else i)=i+xs.length:=if_pos h0
    simp only [e0]
    rw [if_pos (by rw [Bool.and_eq_true,decide_eq_true_eq,decide_eq_true_eq]; lia)]
theorem RealI.look {h:Heap} {j₀:Int} {kvs:List (Int × Value)} {es:List (Int × D)} (r:RealI h k M kvs es) :
    match getKey es j₀ with
    | none=>valueAt kvs j₀=none
    | some d=>∃ v,valueAt kvs j₀=some v∧Real h k M v d:=by
  induction r using RealI.ind with
  | nil=>rfl
  | cons j _ _ _ _ a r ih=>
    delta getKey valueAt
    rw [List.find?_cons,List.find?_cons]
    by_cases hj:j=j₀
    · simp only [hj,decide_true]; exact ⟨_,rfl,a⟩
    · simp only [hj,decide_false]; exact ih
theorem mkS_inj {a b:List Nat}:mkS a=mkS b ↔ a=b:=⟨fun e=>by injection e with e; simpa using e,fun e=>by rw [e]⟩
theorem RealS.look {h:Heap} {j₀:List Nat} {kvs:List (Str × Value)} {es:List (List Nat × D)} (r:RealS h k M kvs es) :
    match getKey es j₀ with
    | none=>valueAt kvs (mkS j₀)=none
    | some d=>∃ v,valueAt kvs (mkS j₀)=some v∧Real h k M v d:=by
  induction r using RealS.ind with
  | nil=>rfl
  | cons j _ _ _ _ a r ih=>
    delta getKey valueAt
    rw [List.find?_cons,List.find?_cons]
    by_cases hj:j=j₀
    · simp only [hj,decide_true]; exact ⟨_,rfl,a⟩
    · simp only [hj,decide_false,mkS_inj]; exact ih
theorem idx_ok {o i d:D} {x y:Value} (hx:Real s.heap s.toks M x o) (hy:Real s.heap s.toks M y i) (e:idxD o i=some d)
    {Q:Value→Shared→Prop} (hQ:∀ v s',Ext s s'→Real s'.heap s'.toks M v d→Q v s'):wpAny (model prog w) A (getItem x y) Q E s:=by
  induction o using D.casesOn with
  | list ds=>induction i using D.casesOn with
    | int k=>
      obtain ⟨_,vs,_,rfl,hm,hl,hr,hz⟩:=hx.inv
      obtain ⟨t,rfl⟩:=hy.inv
      obtain ⟨hs,e⟩:=iteN e
      rw [sml_iff] at hs
      rcases nth_cases e with ⟨h0,h1⟩ | ⟨h0,h1,h2⟩
      · obtain ⟨v,q,r⟩:=hr.get h1
        exact wpAny_getItem_list hl.isList h0 hs.2 (by simpa using q) (hQ _ _ (Ext.refl _) r)
      · obtain ⟨v,q,r⟩:=hr.get h2
        rw [← hr.len] at h1 q
        exact wpAny_getItem_list_neg hl.isList h0 (by simpa using h1) (by lia) (by simpa using q) (hQ _ _ (Ext.refl _) r)
    | _=>exact nos e
  | tup ds=>induction i using D.casesOn with
    | int k=>
      obtain ⟨_,vs,_,rfl,hm,hl,hr⟩:=hx.inv
      obtain ⟨t,rfl⟩:=hy.inv
      obtain ⟨hs,e⟩:=iteN e
      rw [sml_iff] at hs
      obtain ⟨j,h1,h2⟩:=seqIdx e
      obtain ⟨v,q,r⟩:=hr.get h2
      rw [← hr.len] at h1
      exact P.getItem_tuple hl (by lia) hs.2 (by simpa using h1) (by simpa using q) (hQ _ _ (Ext.refl _) r)
    | _=>exact nos e
  | str xs=>induction i using D.casesOn with
    | int k=>
      obtain ⟨t,rfl,hz⟩:=hx.inv
      obtain ⟨u,rfl⟩:=hy.inv
      obtain ⟨hs,e⟩:=iteN e
      rw [sml_iff] at hs
      obtain ⟨c,q,rfl⟩:=Option.map_eq_some_iff.mp e
      obtain ⟨j,h1,h2⟩:=seqIdx q
      refine P.getItem_str (c:=c) (by rw [Bool.or_eq_false_iff]; exact ⟨decide_eq_false (by lia),decide_eq_false (by lia)⟩) ?_ (hQ _ _ (Ext.tk1 s) (.str (s:=[c]) _ (by rw [line_is]; exact Nat.le_of_ble_eq_true rfl)))
      rw [len_mkS,h1]
      simpa [mkS] using h2
    | _=>exact nos e
  | idict es=>induction i using D.casesOn with
    | int k=>
      obtain ⟨a,kvs,rfl,hm,hn,hl,hr⟩:=hx.inv
      obtain ⟨t,rfl⟩:=hy.inv
      have q:=hr.look (j₀:=k)
      rw [show getKey es k=some d from e] at q
      obtain ⟨v,q1,q2⟩:=q
      exact wpAny_getItem_of (intKind_is prog w k t) hl.mapOf q1 (hQ _ _ (Ext.tk1 s) (q2.ext (Ext.tk1 s)))
    | _=>exact nos e
  | sdict es=>induction i using D.casesOn with
    | str k=>
      obtain ⟨a,kvs,rfl,hm,hn,hl,hr⟩:=hx.inv
      obtain ⟨t,rfl,hz⟩:=hy.inv
      have q:=hr.look (j₀:=k)
      rw [show getKey es k=some d from e] at q
      obtain ⟨v,q1,q2⟩:=q
      exact wpAny_getItem_of (strKind_is prog w (mkS k) t) hl.mapOf q1 (hQ _ _ (Ext.tk1 s) (q2.ext (Ext.tk1 s)))
    | _=>exact nos e
  | _=>exact nos e
theorem pickRange {α:Type} (xs:List α) (lo hi:Nat) (hh:hi≤xs.length) :
    (sliceRange lo hi 1).filterMap (xs[·]?)=(xs.take hi).drop lo:=by
  delta sliceRange
  simp only [show (1:Int) > 0 from by decide,if_true]
  have e:∀ (n:Nat) (l:Nat),l+n≤xs.length→((List.range n).map fun k:Nat=>(((l:Nat):Int)+1 * (k:Int)).toNat).filterMap (xs[·]?)=(xs.take (l+n)).drop l:=by
    intro n
    induction n with
    | zero=>intro l h; simp
    | succ n ih=>
      intro l h
      rw [List.range_succ,List.map_append,List.filterMap_append,ih l (by exact Nat.le_of_succ_le h)]
      have hx:l+n < xs.length:=by assumption
      have e1:((l:Int)+1 * (n:Int)).toNat=l+n:=by rw [Int.one_mul]; rfl
      simp only [List.map_cons,List.map_nil,List.filterMap_cons,List.filterMap_nil,e1,List.getElem?_eq_getElem hx]
      rw [show l+(n+1)=(l+n)+1 from rfl,List.take_add_one,List.getElem?_eq_getElem hx,List.drop_append_of_le_length (by simp; lia)]
      rfl
  by_cases h:(lo:Int) < hi
  · rw [if_pos h]
    have hq:lo+(hi - lo)=hi:=Nat.add_sub_cancel' (Nat.le_of_lt (Int.ofNat_lt.mp h))
    rw [pick1,e (hi - lo) lo (Nat.le_trans (Nat.le_of_eq hq) hh),hq]
  · rw [if_neg h]
    simp
    lia
theorem bnd_le (n d:Nat) (o:Option Int) (hd:d≤n):bnd n d o≤n:=by
  delta bnd
  induction o using Option.casesOn with
  | none=>exact hd
  | some i=>dsimp only; split; (exact Nat.min_le_right _ _); lia
theorem bnd_clip (n d:Nat) (o:Option Int):((bnd n d o:Nat):Int)=(match o with
    | none=>(d:Int)
    | some i=>max 0 (min (if i < 0 then i+n else i) (n:Int))):=by
  delta bnd
  induction o using Option.casesOn with
  | none=>rfl
  | some i=>
    dsimp only
    split
    · rename_i h; rw [if_neg (Int.not_lt.mpr h)]; exact clip1 n i h
    · rename_i h; rw [if_pos (Int.not_le.mp h)]; exact clip2 n i (Int.not_le.mp h)
theorem pickCut {α:Type} (xs:List α) (l u:Option Int) :
    (sliceRange (sliceBounds l u none xs.length).1 (sliceBounds l u none xs.length).2.1 (sliceBounds l u none xs.length).2.2).filterMap (xs[·]?)=cut xs l u:=by
  have h1:(sliceBounds l u none xs.length).1=((bnd xs.length 0 l:Nat):Int):=by rw [bnd_clip]; cases l <;> rfl
  have h2:(sliceBounds l u none xs.length).2.1=((bnd xs.length xs.length u:Nat):Int):=by rw [bnd_clip]; cases u <;> rfl
  rw [h1,h2]
  exact pickRange xs _ _ (bnd_le _ _ _ (Nat.le_refl _))
theorem cut_le {α:Type} (xs:List α) (l u:Option Int):(cut xs l u).length≤xs.length:=by
  delta Mine.cut
  rw [List.length_drop,List.length_take]
  exact Nat.le_trans (Nat.sub_le _ _) (Nat.min_le_right _ _)
theorem RealL.cut {h:Heap} {vs:List Value} {ds:List D} (r:RealL h k M vs ds) (l u:Option Int):RealL h k M (Mine.cut vs l u) (Mine.cut ds l u):=by
  delta Mine.cut
  rw [r.len]
  exact (r.take _).drop _
inductive Part:Value→D→Option Int→Prop
  | none:Part .none .none none
  | int (i:Int) (t:Tok):Part (.int i t) (.int i) (some i)
theorem Part.of {v:Value} {d:D} {o:Option Int} (r:Real s.heap s.toks M v d) (e:oint d=some o):Part v d o:=by
  induction d using D.casesOn with
  | none=>obtain rfl:=r.inv; obtain rfl:=some1 e; exact .none
  | int i=>obtain ⟨t,rfl⟩:=r.inv; obtain ⟨_,rfl⟩:=iteS e; exact .int _ _
  | _=>exact nos e
theorem Part.isPart {v:Value} {d:D} {o:Option Int} (p:Part v d o):IsPart v o:=by
  induction p using Part.casesOn with | none=>exact .none | int _ _=>exact .int _ _
theorem slcL_ok {a sl:Addr} {vs:List Value} {ds:List D} {vl vu:Value} {l u:Option Int} (S:Stand s.heap M) (hl:s.heap.IsList a vs.toArray) (r:RealL s.heap s.toks M vs ds)
    (hs:s.heap.IsSliceOf sl vl vu .none) (pl:IsPart vl l) (pu:IsPart vu u) (hsz:ds.length≤line)
    {Q:Value→Shared→Prop} (hQ:∀ v s',Ext s s'→Real s'.heap s'.toks M v (.list (cut ds l u))→Q v s'):wpAny (model prog w) A (getItem (.ref a) (.ref sl)) Q E s:=by
  refine wpAny_getItem_list_slice hl hs pl pu .none (by simp) ?_ (by rw [List.size_toArray,r.len,sizeLine_eq]; rw [line_is] at hsz; lia)
  have e:slicePick vs.toArray l u none=(cut vs l u).toArray:=by
    delta slicePick
    rw [← pickCut]
    simp only [List.size_toArray,List.getElem?_toArray]
  rw [e]
  exact hQ _ _ (Ext.push ..) (newL_ok S (r.cut l u) (Nat.le_trans (cut_le _ _ _) hsz))
theorem cut_full {α:Type} (xs:List α) (l u:Option Int) (h:(cut xs l u).length=xs.length):cut xs l u=xs:=by
  delta cut at h ⊢
  rw [List.length_drop,List.length_take] at h
  have h1:=bnd_le xs.length xs.length u (Nat.le_refl _)
  by_cases h0:xs.length=0
  · have:=List.eq_nil_of_length_eq_zero h0
    subst this; simp
  · rw [Nat.min_eq_left h1] at h
    have h2:bnd xs.length xs.length u=xs.length:=Nat.le_antisymm h1 (Nat.le_trans (Nat.le_of_eq h.symm) (Nat.sub_le _ _))
    have h3:bnd xs.length 0 l=0:=Nat.eq_zero_of_not_pos fun hb=>absurd h (Nat.ne_of_lt (Nat.lt_of_lt_of_le (Nat.sub_lt (h2.symm ▸ Nat.pos_of_ne_zero h0) hb) h1))
    rw [h2,h3,List.take_length,List.drop_zero]
theorem pickLen {α:Type} (xs:List α) (l u:Option Int) :
    (cut xs l u).length=(sliceRange (sliceBounds l u none xs.length).1 (sliceBounds l u none xs.length).2.1 (sliceBounds l u none xs.length).2.2).length:=by
  have h1:(sliceBounds l u none xs.length).1=((bnd xs.length 0 l:Nat):Int):=by rw [bnd_clip]; cases l <;> rfl
  have h2:(sliceBounds l u none xs.length).2.1=((bnd xs.length xs.length u:Nat):Int):=by rw [bnd_clip]; cases u <;> rfl
  have h3:(sliceBounds l u none xs.length).2.2=1:=rfl
  have hh:=bnd_le xs.length xs.length u (Nat.le_refl _)
  rw [h1,h2,h3]
  delta cut sliceRange
  rw [List.length_drop,List.length_take,List.length_map,List.length_range]
  simp only [show (1:Int) > 0 from by decide,if_true]
  rw [Nat.min_eq_left hh]
  split
  · exact pick1.symm
  · rename_i h; exact Nat.sub_eq_zero_of_le (Int.ofNat_le.mp (Int.not_lt.mp h))
set_option tactic.hygienic true in
theorem slcS_ok {sl:Addr} {xs:List Nat} {t:Tok} {dl du:D} {vl vu:Value} {l u:Option Int} (hs:s.heap.IsSliceOf sl vl vu .none) (pl:Part vl dl l) (pu:Part vu du u) (hsz:xs.length≤line)
    {Q:Value→Shared→Prop} (hQ:∀ v s',Ext s s'→Real s'.heap s'.toks M v (.str (cut xs l u))→Q v s'):wpAny (model prog w) A (getItem (.str (mkS xs) t) (.ref sl)) Q E s:=by
  have e1:∃ l':Option (Int × Tok),partValue l'=vl∧l'.map (·.1)=l:=by cases pl; exact ⟨none,rfl,rfl⟩; rename_i i t; exact ⟨some (i,t),rfl,rfl⟩
  have e2:∃ l':Option (Int × Tok),partValue l'=vu∧l'.map (·.1)=u:=by cases pu; exact ⟨none,rfl,rfl⟩; rename_i i t; exact ⟨some (i,t),rfl,rfl⟩
  obtain ⟨l',rfl,rfl⟩:=e1
  obtain ⟨u',rfl,rfl⟩:=e2
  have hq:slicePicked (mkS xs) l' u' none=sliceRange (sliceBounds (l'.map (·.1)) (u'.map (·.1)) none xs.length).1 (sliceBounds (l'.map (·.1)) (u'.map (·.1)) none xs.length).2.1 (sliceBounds (l'.map (·.1)) (u'.map (·.1)) none xs.length).2.2:=by
    delta slicePicked
    rw [len_mkS]
    rfl
  have hp:(slicePicked (mkS xs) l' u' none).filterMap ((mkS xs).cps[·]?)=cut xs (l'.map (·.1)) (u'.map (·.1)):=by
    rw [← pickCut,hq]
    simp only [mkS,List.getElem?_toArray]
  refine wpAny_getItem_str_slice (l:=l') (u:=u') (st:=none) hs rfl ?_
  delta sliceMade
  split
  · rename_i h
    rw [Bool.and_eq_true,beq_iff_eq,beq_iff_eq,len_mkS] at h
    have hlen:(cut xs (l'.map (·.1)) (u'.map (·.1))).length=xs.length:=by
      rw [← h.2,hq,pickLen]
    rw [cut_full _ _ _ hlen] at hQ
    exact hQ _ _ (Ext.refl _) (.str _ hsz)
  · rw [hp]
    refine ⟨?_,hQ _ _ (Ext.tk1 s) (.str _ (Nat.le_trans (cut_le _ _ _) hsz))⟩
    show (mkS _).length≤_
    rw [len_mkS,sizeLine_eq]
    have:=cut_le xs (l'.map (·.1)) (u'.map (·.1))
    rw [line_is] at hsz
    lia
theorem RealL.reverse {h:Heap} {vs:List Value} {ds:List D} (r:RealL h k M vs ds):RealL h k M vs.reverse ds.reverse:=by
  induction r using RealL.ind with
  | nil=>exact .nil
  | cons _ _ _ _ a r ih=>rw [List.reverse_cons,List.reverse_cons]; exact ih.append (.cons a .nil)
theorem slcR_ok {a sl:Addr} {vs:List Value} {ds:List D} {t:Tok} (S:Stand s.heap M) (hl:s.heap.IsList a vs.toArray) (r:RealL s.heap s.toks M vs ds)
    (hs:s.heap.IsSliceOf sl .none .none (.int (-1) t)) (hsz:ds.length≤line)
    {Q:Value→Shared→Prop} (hQ:∀ v s',Ext s s'→Real s'.heap s'.toks M v (.list ds.reverse)→Q v s'):wpAny (model prog w) A (getItem (.ref a) (.ref sl)) Q E s:=by
  refine wpAny_getItem_list_slice hl hs .none .none (.int _ _) (by simp) ?_ (by rw [List.size_toArray,r.len,sizeLine_eq]; rw [line_is] at hsz; lia)
  have e:slicePick vs.toArray none none (some (-1))=vs.reverse.toArray:=by
    rw [krv_pick]
  rw [e]
  exact hQ _ _ (Ext.push ..) (newL_ok S r.reverse (by rw [List.length_reverse]; exact hsz))
end
end Mine
end
section
open PySem PySem.W PyProof.Rows PySem.SeqAt
set_option autoImplicit false
namespace Mine
section
variable {A:Around} {E:Value→Shared→Prop} {s:Shared} {k:Tok} {M:Addr→Prop}
noncomputable def biV:Bi→Value
  | .len=>.builtin "len" | .range=>.type "range" | .list=>.type "list" | .min=>.builtin "min" | .max=>.builtin "max" | .sum=>.builtin "sum"
  | .sorted=>.builtin "sorted" | .dictzip=>.type "dict" | .isBool=>.builtin "isinstance" | .isInt=>.builtin "isinstance"
theorem Ext.of {s:Shared} {h':Heap} {tk:Nat} (k:∀ b o,s.heap.get? b=some o→h'.get? b=some o) (h:s.toks≤tk):Ext s { s with heap:=h',toks:=tk }:=⟨k,rfl,rfl,h⟩
theorem rsz_is (a b c:Int):Builtin.Range.rangeSize a b c=rsz a b c:=rfl
theorem rsz_nonneg (a b c:Int):0≤rsz a b c:=by
  unfold rsz
  split
  · split
    · have:=Int.ediv_nonneg (a:=b - a - 1) (b:=c) (by lia) (by lia); exact Int.le_add_one this
    · decide
  · split
    · have:=Int.ediv_nonneg (a:=a - b - 1) (b:=-c) (by lia) (by lia); exact Int.le_add_one this
    · decide
theorem minL_mem:∀ (r:List Int) (a:Int),minL a r∈a :: r
  | [],a=>by simp [mi_n,mi_c]
  | b :: r,a=>by
    have:=minL_mem r (if b < a then b else a)
    rw [mi_c]
    rcases List.mem_cons.mp this with e | e
    · rw [e]; split <;> simp
    · exact List.mem_cons_of_mem _ (List.mem_cons_of_mem _ e)
theorem minL_le:∀ (r:List Int) (a:Int),∀ x∈a :: r,minL a r≤x
  | [],a,x,h=>by simp [mi_n,mi_c] at *; exact Int.le_of_eq (id (Eq.symm h))
  | b :: r,a,x,h=>by
    have ih:=minL_le r (if b < a then b else a)
    rw [mi_c]
    have h0:=ih _ List.mem_cons_self
    have ih':∀ x∈r,minL (if b < a then b else a) r≤x:=fun x e=>ih x (List.mem_cons_of_mem _ e)
    clear ih
    generalize minL (if b < a then b else a) r=m at h0 ih' ⊢
    rcases List.mem_cons.mp h with e | e
    · subst e; split at h0 <;> lia
    · rcases List.mem_cons.mp e with e | e
      · subst e; split at h0 <;> lia
      · exact ih' x e
theorem insL_perm (a:Int):∀ l:List Int,(insL a l).Perm (a :: l)
  | []=>.refl _
  | b :: r=>by
    rw [in_c]
    split
    · exact .refl _
    · exact ((insL_perm a r).cons b).trans (.swap ..)
theorem insL_sorted (a:Int):∀ l:List Int,l.Pairwise (·≤·)→(insL a l).Pairwise (·≤·)
  | [],_=>by simp [in_n,in_c]
  | b :: r,h=>by
    rw [in_c]
    have hb:=List.pairwise_cons.mp h
    split
    · rename_i hab
      refine List.pairwise_cons.mpr ⟨fun x hx=>?_,h⟩
      rcases List.mem_cons.mp hx with e | e
      · lia
      · have:=hb.1 x e; lia
    · refine List.pairwise_cons.mpr ⟨fun x hx=>?_,insL_sorted a r hb.2⟩
      have:=(insL_perm a r).mem_iff.mp hx
      rcases List.mem_cons.mp this with e | e
      · lia
      · exact hb.1 x e
theorem sortL_ok (l:List Int):(sortL l).Perm l∧(sortL l).Pairwise (·≤·):=by
  have key:∀ (l r:List Int),r.Pairwise (·≤·)→(l.foldl (fun r a=>insL a r) r).Perm (l++r)∧(l.foldl (fun r a=>insL a r) r).Pairwise (·≤·):=by
    intro l
    induction l with
    | nil=>intro r h; exact ⟨.refl _,h⟩
    | cons a l ih=>
      intro r h
      obtain ⟨p,q⟩:=ih (insL a r) (insL_sorted a r h)
      refine ⟨p.trans ?_,q⟩
      exact ((insL_perm a r).append_left l).trans (by rw [List.cons_append]; exact List.perm_middle)
  have:=key l [] .nil
  rwa [List.append_nil] at this
theorem sortL_eq {l r:List Int} (p:r.Perm l) (q:r.Pairwise (·≤·)):r=sortL l:=by
  obtain ⟨p',q'⟩:=sortL_ok l
  exact (p.trans p'.symm).eq_of_pairwise (le:=(·≤·)) (fun a b _ _ h1 h2=>by exact Int.le_antisymm h1 h2) q q'
theorem IntsAre.real {h:Heap} {vs:List Value} {ns:List Int} (r:IntsAre vs ns):RealL h k M vs (ns.map .int):=by
  induction r with | nil=>exact .nil | cons n u r ih=>exact .cons (.int _ _) ih
theorem one_inv {α:Type} {ds:List D} {f:D→Option α} {c:α} (e:one ds f=some c):∃ a,ds=[a]∧f a=some c:=by
  induction ds using List.casesOn with
  | nil=>exact nos e
  | cons a r=>induction r using List.casesOn with
    | nil=>exact ⟨a,rfl,e⟩
    | cons _ _=>exact nos e
theorem two_inv {α:Type} {ds:List D} {f:D→D→Option α} {c:α} (e:two ds f=some c):∃ a b,ds=[a,b]∧f a b=some c:=by
  induction ds using List.casesOn with
  | nil=>exact nos e
  | cons a r=>
    obtain ⟨b,rfl,e⟩:=one_inv (ds:=r) e
    exact ⟨a,b,rfl,e⟩
theorem onLst_inv {α:Type} {a:D} {f:List D→Option α} {c:α} (e:onLst a f=some c):∃ xs,a=.list xs∧f xs=some c:=by
  induction a using D.casesOn with
  | list xs=>exact ⟨xs,rfl,e⟩
  | _=>exact nos e
theorem onStr_inv {α:Type} {a:D} {f:List Nat→Option α} {c:α} (e:onStr a f=some c):∃ xs,a=.str xs∧f xs=some c:=by
  induction a using D.casesOn with
  | str xs=>exact ⟨xs,rfl,e⟩
  | _=>exact nos e
theorem RealL.one {h:Heap} {k:Tok} {vs:List Value} {a:D} (r:RealL h k M vs [a]):∃ x,vs=[x]∧Real h k M x a:=by
  obtain ⟨x,q,rfl,rx,r⟩:=r.inv
  obtain rfl:=r.inv
  exact ⟨x,rfl,rx⟩
theorem RealL.two {h:Heap} {k:Tok} {vs:List Value} {a b:D} (r:RealL h k M vs [a,b]):∃ x y,vs=[x,y]∧Real h k M x a∧Real h k M y b:=by
  obtain ⟨x,q,rfl,rx,r⟩:=r.inv
  obtain ⟨y,rfl,ry⟩:=r.one
  exact ⟨x,y,rfl,rx,ry⟩
theorem rangeD_inv {ds:List D} {d:D} (e:rangeD ds=some d):(∃ b,ds=[.int b]∧d=.rng 0 b 1)∨(∃ a b,ds=[.int a,.int b]∧d=.rng a b 1)∨(∃ a b c,ds=[.int a,.int b,.int c]∧(sml a && sml b && sml c && decide (c≠0))=true∧d=.rng a b c):=by
  induction ds using List.casesOn with
  | nil=>exact nos e
  | cons a r=>induction r using List.casesOn with
    | nil=>induction a using D.casesOn with
      | int b=>obtain ⟨_,rfl⟩:=iteS e; exact .inl ⟨b,rfl,rfl⟩
      | _=>exact nos e
    | cons b r=>induction r using List.casesOn with
      | nil=>
        obtain ⟨x,y,rfl,rfl,e⟩:=int2_inv e
        obtain ⟨_,rfl⟩:=iteS e
        exact .inr (.inl ⟨x,y,rfl,rfl⟩)
      | cons c r=>induction r using List.casesOn with
        | nil=>
          obtain ⟨x,y,rfl,rfl,e⟩:=int2_inv e
          induction c using D.casesOn with
          | int z=>obtain ⟨h,rfl⟩:=iteS e; exact .inr (.inr ⟨x,y,z,rfl,h,rfl⟩)
          | _=>exact nos e
        | cons _ _=>exact nos e
theorem bi_ok {b:Bi} {vs:List Value} {ds:List D} {d:D} (S:Stand s.heap M) (hh:A.handled=none) (hx:RealL s.heap s.toks M vs ds) (e:biD b ds=some d)
    (hb:b=.len∨b=.range∨b=.min∨b=.max∨b=.sum∨b=.sorted)
    {Q:Value→Shared→Prop} (hQ:∀ v s',Ext s s'→Real s'.heap s'.toks M v d→Q v s'):wpAny (model prog w) A (call (biV b) vs) Q E s:=by
  induction b using Bi.casesOn with
  | len=>
    obtain ⟨o,rfl,e⟩:=one_inv e
    obtain ⟨x,rfl,a⟩:=hx.one
    induction o using D.casesOn with
    | str s=>
      obtain rfl:=Option.some.inj e
      obtain ⟨t,rfl,hz⟩:=a.inv
      rw [line_is] at hz
      refine P.len_str (by rw [len_mkS]; lia) ?_
      rw [len_mkS]; exact hQ _ _ (Ext.tk2 _) (.int _ _)
    | list l=>
      obtain rfl:=Option.some.inj e
      obtain ⟨_,_,_,rfl,m,l,r,hz⟩:=a.inv
      rw [line_is] at hz
      refine Calls.call_len_list l.isList (by rw [List.size_toArray,r.len]; lia) ?_
      rw [List.size_toArray,r.len]; exact hQ _ _ (Ext.tk2 _) (.int _ _)
    | _=>exact nos e
  | range=>
    rcases rangeD_inv e with ⟨b,rfl,rfl⟩ | ⟨a,b,rfl,rfl⟩ | ⟨a,b,c,rfl,hl,rfl⟩
    · obtain ⟨x,rfl,a⟩:=hx.one
      obtain ⟨t,rfl⟩:=a.inv
      exact call_range_1 (hQ _ _ (Ext.pushTk s _ (by lia)) (.rng S.fresh (Heap.get?_push_size _ rfl)))
    · obtain ⟨x,y,rfl,a,b⟩:=hx.two
      obtain ⟨t,rfl⟩:=a.inv
      obtain ⟨u,rfl⟩:=b.inv
      exact call_range_2 (hQ _ _ (Ext.pushTk s _ (by exact Nat.le_add_right s.toks 1)) (.rng S.fresh (Heap.get?_push_size _ rfl)))
    · simp only [Bool.and_eq_true,sml_iff,decide_eq_true_eq] at hl
      obtain ⟨_,_,rfl,a,r⟩:=hx.inv
      obtain ⟨x,y,rfl,b,c'⟩:=r.two
      obtain ⟨t,rfl⟩:=a.inv
      obtain ⟨u,rfl⟩:=b.inv
      obtain ⟨v,rfl⟩:=c'.inv
      refine call_range_3 hl.2 (hQ _ _ (Ext.pushTk s _ (by exact Nat.le_refl s.toks)) (.rng S.fresh (Heap.get?_push_size _ rfl))) (.inl (PyProof.noPylong_of_log2 ?_))
      by_cases h0:c.natAbs=0
      · rw [h0]; decide +kernel
      · have h63:c.natAbs.log2 < 63:=(Nat.log2_lt h0).mpr (nab.mpr hl.1.2)
        lia
  | list=>rcases hb with h | h | h | h | h | h <;> cases h
  | min=>
    induction ds using List.casesOn with
    | nil=>exact nos e
    | cons o r=>induction r using List.casesOn with
      | nil=>
        obtain ⟨xs,rfl,e⟩:=onLst_inv e
        obtain ⟨l,e1,e⟩:=Option.bind_eq_some_iff.mp e
        obtain ⟨x,rfl,a⟩:=hx.one
        induction l using List.casesOn with
        | nil=>exact nos e
        | cons a₀ r₀=>
          obtain rfl:=Option.some.inj e
          obtain ⟨_,_,_,rfl,m,l,r,hz⟩:=a.inv
          have hi:=r.ints e1
          obtain ⟨xs,ex⟩:=hi.allInts.items
          have hns:a₀ :: r₀=xs.toList.map (·.1):=by rw [← hi.numsOf,← nums_intItems,← ex]
          have hsz:0 < xs.size:=by
            have h3:0 < (a₀ :: r₀).length:=Nat.succ_pos _
            rw [hns,List.length_map,Array.length_toList] at h3; exact h3
          have hl:=l.isList
          rw [ex] at hl
          refine wpAny_grow (min_intList hh hl hsz fun v h' tk hv hk ht=>?_)
          obtain ⟨t,rfl⟩:=intItems_at hv
          obtain ⟨h1,h2⟩:=argBest_lt (numAt xs) (xs.size - 1)
          have hM:numAt xs (argBest (fun i j=>decide (numAt xs i < numAt xs j)) (xs.size - 1))=minL a₀ r₀:=by
            have m1:numAt xs (argBest (fun i j=>decide (numAt xs i < numAt xs j)) (xs.size - 1))∈a₀ :: r₀:=by
              rw [hns,numAt_eq]; exact getD_mem (by rw [List.length_map,Array.length_toList]; exact Nat.lt_of_le_pred hsz h1)
            have m2:∀ x∈a₀ :: r₀,numAt xs (argBest (fun i j=>decide (numAt xs i < numAt xs j)) (xs.size - 1))≤x:=by
              intro x hx
              rw [hns] at hx
              obtain ⟨j,hj,rfl⟩:=mem_getD hx
              rw [List.length_map,Array.length_toList] at hj
              rw [← numAt_eq]; exact h2 j (by exact (Nat.le_sub_one_iff_lt hsz).mpr hj)
            have a1:=minL_le r₀ a₀ _ m1
            have a2:=m2 _ (minL_mem r₀ a₀)
            exact Int.le_antisymm a2 a1
          rw [hM]
          exact hQ _ _ (Ext.of hk ht) (.int _ _)
      | cons o' r=>
        obtain ⟨q,e0,e⟩:=one_inv (show one (o' :: r) (fun b=>int2 o b fun a b=>some (.int (if b < a then b else a)))=some d from e)
        obtain ⟨rfl,rfl⟩:=List.cons.inj e0
        obtain ⟨i,j,rfl,rfl,e⟩:=int2_inv e
        obtain rfl:=Option.some.inj e
        obtain ⟨x,y,rfl,a,b⟩:=hx.two
        obtain ⟨t,rfl⟩:=a.inv
        obtain ⟨u,rfl⟩:=b.inv
        refine wpAny_grow (min_two_ints hh fun h' tk hk ht=>?_)
        split
        · rename_i h; rw [if_pos h] at hQ; exact hQ _ _ (Ext.of hk ht) (.int _ _)
        · rename_i h; rw [if_neg h] at hQ; exact hQ _ _ (Ext.of hk ht) (.int _ _)
  | max=>
    obtain ⟨o,o',rfl,e⟩:=two_inv e
    obtain ⟨i,j,rfl,rfl,e⟩:=int2_inv e
    obtain rfl:=Option.some.inj e
    obtain ⟨x,y,rfl,a,b⟩:=hx.two
    obtain ⟨t,rfl⟩:=a.inv
    obtain ⟨u,rfl⟩:=b.inv
    refine wpAny_grow (max_two_ints hh fun h' tk hk ht=>?_)
    split
    · rename_i h; rw [if_pos h] at hQ; exact hQ _ _ (Ext.of hk ht) (.int _ _)
    · rename_i h; rw [if_neg h] at hQ; exact hQ _ _ (Ext.of hk ht) (.int _ _)
  | sum=>
    obtain ⟨o,rfl,e⟩:=one_inv e
    obtain ⟨xs,rfl,e⟩:=onLst_inv e
    obtain ⟨ns,e1,rfl⟩:=Option.map_eq_some_iff.mp e
    obtain ⟨x,rfl,a⟩:=hx.one
    obtain ⟨_,_,_,rfl,m,l,r,hz⟩:=a.inv
    have hi:=r.ints e1
    obtain ⟨xs,ex⟩:=hi.allInts.items
    have hns:ns=xs.toList.map (·.1):=by rw [← hi.numsOf,← nums_intItems,← ex]
    have hl:=l.isList
    rw [ex] at hl
    refine wpAny_grow (sum_intListG hh hl fun h' tk t' hk ht=>?_)
    rw [preSum_eq,← hns,show xs.size=ns.length from by rw [hns,List.length_map,Array.length_toList],List.take_length]
    exact hQ _ _ (Ext.of hk ht) (.int _ _)
  | sorted=>
    obtain ⟨o,rfl,e⟩:=one_inv e
    obtain ⟨xs,rfl,e⟩:=onLst_inv e
    obtain ⟨ns,e1,e⟩:=Option.bind_eq_some_iff.mp e
    obtain ⟨h8,rfl⟩:=iteS e
    obtain ⟨x,rfl,a⟩:=hx.one
    obtain ⟨a,vs',n',rfl,m,l,r,hz⟩:=a.inv
    have hi:=r.ints e1
    refine sorted_ints l.isList hi (by rw [IntsAre.len hi]; lia) fun out ns' ho hp hs=>?_
    rw [sortL_eq hp hs] at ho
    have hl8:(sortL ns).length≤line:=by rw [(sortL_ok ns).1.length_eq,line_is]; lia
    obtain ⟨e',hat⟩:=sortedAll_at s.heap vs' out
    have x:Ext s { s with heap:=sortedAll s.heap vs' out }:=⟨fun _ _ hb=>sortedAll_old hb,rfl,rfl,Nat.le_refl _⟩
    have hr:=IntsAre.real (h:=sortedAll s.heap vs' out) (k:=s.toks) (M:=M) ho
    refine hQ _ _ x (.list (vs:=out.toList) (n:=e') (fun m'=>?_) (by simpa using hat) hr (by rw [List.length_map]; exact hl8))
    obtain ⟨o,ho'⟩:=S _ m'
    exact Nat.lt_irrefl _ (Nat.lt_of_succ_lt (Heap.lt_size ho'))
  | dictzip=>rcases hb with h | h | h | h | h | h <;> cases h
  | isBool=>rcases hb with h | h | h | h | h | h <;> cases h
  | isInt=>rcases hb with h | h | h | h | h | h <;> cases h
end
end Mine
end
section
open PySem PySem.W PyProof.Rows PySem.SeqAt
set_option autoImplicit false
namespace Mine
section
variable {A:Around} {E:Value→Shared→Prop} {s:Shared} {k:Tok} {M:Addr→Prop}
theorem toStrs_cons {d:D} {ds:List D} {l:List (List Nat)} (e:toStrs (d :: ds)=some l):∃ i r,d=.str i∧toStrs ds=some r∧l=i :: r:=by
  obtain ⟨i,h1,e⟩:=bs e; obtain ⟨r,h2,rfl⟩:=ms e; exact ⟨i,r,strD_is h1,h2,rfl⟩
theorem RealL.strs {h:Heap} {vs:List Value} {ds:List D} {l:List (List Nat)} (r:RealL h k M vs ds) (e:toStrs ds=some l):StrsAre vs (l.map mkS):=by
  induction r using RealL.ind generalizing l with
  | nil=>obtain rfl:=some1 e; exact .nil
  | cons _ _ _ _ a r ih=>
    obtain ⟨i,l',rfl,e',rfl⟩:=toStrs_cons e
    obtain ⟨t,rfl,_⟩:=a.inv; exact .cons _ _ (ih e')
theorem joinL_len (sep:List Nat):∀ l:List (List Nat),(l.map (·.length)).sum+l.length * sep.length≤(joinL sep l).length+sep.length
  | []=>by simp [jL_n,jL_1,jL_c]
  | [a]=>by simp [jL_n,jL_1,jL_c]
  | a :: b :: r=>by
    have ih:=joinL_len sep (b :: r)
    simp only [jL_n,jL_1,jL_c,List.map_cons,List.sum_cons,List.length_cons,List.length_append,Nat.succ_mul] at ih ⊢
    lia
theorem glue_fold (sep:List Nat):∀ (l:List (List Nat)) (acc:Array Nat),(l.map mkS).foldl (fun acc p=>acc++(mkS sep).cps++p.cps) acc=acc++(l.flatMap fun p=>sep++p).toArray
  | [],acc=>by simp
  | a :: l,acc=>by
    rw [List.map_cons,List.foldl_cons,glue_fold sep l]
    simp [mkS,Array.append_assoc]
theorem joinL_flat (sep:List Nat):∀ (a:List Nat) (l:List (List Nat)),joinL sep (a :: l)=a++l.flatMap fun p=>sep++p
  | a,[]=>by simp [jL_n,jL_1,jL_c]
  | a,b :: r=>by rw [jL_c,joinL_flat sep b r]; simp
theorem join_is (sep:List Nat) (l:List (List Nat)):Txt.join (mkS sep) (l.map mkS)=mkS (joinL sep l):=by
  delta Txt.join PySem.Builtin.Str.glued
  induction l using List.casesOn with
  | nil=>rfl
  | cons a r=>
    rw [joinL_flat]
    simp only [List.map_cons,List.drop_one,List.tail_cons,List.headD_cons]
    rw [glue_fold]
    simp [mkS]
theorem idxOf_spec {α:Type} [BEq α] [LawfulBEq α] {a:α}:∀ {l:List α} {j:Nat},idxOf a l=some j→∃ h:j < l.length,l[j]=a∧∀ m (hm:m < l.length),m < j→l[m]≠a
  | [],_,e=>by simp [io_n,io_c] at e
  | b :: r,j,e=>by
    rw [io_c] at e
    split at e
    · rename_i hb
      obtain rfl:=some1 e
      exact ⟨Nat.succ_pos _,eq_of_beq hb,fun m hm hj=>by lia⟩
    · rename_i hb
      cases hr:idxOf a r with
      | none=>rw [hr] at e; exact nos e
      | some j'=>
        rw [hr] at e
        have e:=Option.some.inj e
        subst e
        obtain ⟨h,h1,h2⟩:=idxOf_spec hr
        refine ⟨Nat.succ_lt_succ h,h1,fun m hm hj=>?_⟩
        induction m using Nat.casesAuxOn with
        | zero=>intro q; exact hb (by rw [show b=a from q]; exact beq_self_eq_true _)
        | succ m=>exact h2 m (by simpa using hm) (Nat.lt_of_succ_lt_succ hj)
theorem isInt_at {k₀:Int} {vs:List Value} {ns:List Int} (h:IntsAre vs ns) (j:Nat) (hj:j < vs.length):isInt k₀ vs[j]=(ns[j]'(by rw [← IntsAre.len h]; exact hj) == k₀):=by
  obtain ⟨t,e⟩:=IntsAre.at h j hj
  rw [e]
  rfl
theorem RowsL.len {h:Heap} {l:List (List Int)} {vs:List Value} (r:RowsL h l vs):vs.length=l.length:=by
  induction r with | nil=>rfl | cons _ _ ih=>exact congrArg Nat.succ ih
theorem RowsL.at {h:Heap} {l:List (List Int)} {vs:List Value} (r:RowsL h l vs) (j:Nat) (hj:j < vs.length) (hj':j < l.length):rowIs h l[j] vs[j]:=by
  induction r generalizing j with
  | nil=>exact absurd hj (Nat.not_lt_zero _)
  | cons a _ ih=>induction j using Nat.casesAuxOn with
    | zero=>exact a
    | succ j=>exact ih j (Nat.lt_of_succ_lt_succ hj) (Nat.lt_of_succ_lt_succ hj')
theorem at_iff (x sep:List Nat) (i:Nat) (hi:i≤x.length):StrLaws.At (mkS x) (mkS sep) x.length i ↔ sep.isPrefixOf (x.drop i)=true:=by
  delta StrLaws.At Builtin.Str.subAt
  rw [len_mkS,List.isPrefixOf_iff_prefix,List.prefix_iff_eq_take,beq_iff_eq]
  constructor
  · rintro ⟨h1,h2⟩
    have:=congrArg Array.toList h2
    simp only [mkS,Array.toList_extract,List.extract_eq_take_drop] at this
    rw [show i+sep.length - i=sep.length from by exact Nat.add_sub_self_left i sep.length] at this
    exact this.symm
  · intro h
    have hl:=congrArg List.length h
    rw [List.length_take,List.length_drop] at hl
    refine ⟨by lia,?_⟩
    simp only [mkS,List.extract_toArray,List.extract_eq_take_drop]
    rw [show i+sep.length - i=sep.length from by exact Nat.add_sub_self_left i sep.length,← h]
theorem partsFrom_n {s:Str} {w a:Nat}:StrLaws.partsFrom s w a []=[Builtin.Str.strSub s a s.length]:=rfl
theorem partsFrom_c {s:Str} {w a c:Nat} {r:List Nat}:StrLaws.partsFrom s w a (c :: r)=Builtin.Str.strSub s a c :: StrLaws.partsFrom s w (c+w) r:=rfl
theorem splitGo_skip (sep:List Nat):∀ (n:Nat) (l acc:List Nat),splitGo sep l acc n=splitGo sep (l.drop n) acc 0
  | 0,_,_=>rfl
  | n+1,[],acc=>rfl
  | n+1,c :: l,acc=>(splitGo_skip sep n l acc).trans rfl
theorem sub_is (x:List Nat) (a b:Nat):Builtin.Str.strSub (mkS x) a b=mkS ((x.drop a).take (b - a)):=by
  delta Builtin.Str.strSub mkS
  rw [List.extract_toArray,List.extract_eq_take_drop]
theorem splitGo_parts (x sep:List Nat) (hw:0 < sep.length):∀ (n:Nat) (cuts:List Nat) (a f p:Nat),x.length - p=n→StrLaws.ChainG (mkS x) (mkS sep) x.length a cuts f→(∀ q,f≤q→¬ StrLaws.At (mkS x) (mkS sep) x.length q)→
    a≤p→p≤x.length→(∀ c r,cuts=c :: r→p≤c)→(splitGo sep (x.drop p) ((x.drop a).take (p - a)).reverse 0).map mkS=StrLaws.partsFrom (mkS x) sep.length a cuts:=by
  intro n
  induction n using Nat.strongRecOn with
  | ind n ih=>
    intro cuts a f p hn hc hf hap hp hcut
    by_cases hpl:p=x.length
    · subst hpl
      rw [List.drop_length]
      induction cuts using List.casesOn with
      | nil=>
        show [mkS (List.reverse (List.reverse _))]=[Builtin.Str.strSub _ _ (mkS x).length]
        rw [List.reverse_reverse,len_mkS,sub_is]
      | cons c r=>
        have h1:=hcut c r rfl
        have h2:=hc.2.1.1
        rw [len_mkS] at h2
        lia
    · have hlt:p < x.length:=by exact Nat.lt_of_le_of_ne hp hpl
      rw [List.drop_eq_getElem_cons hlt]
      by_cases hA:StrLaws.At (mkS x) (mkS sep) x.length p
      · have hpre:=(at_iff x sep p hp).mp hA
        rw [List.drop_eq_getElem_cons hlt] at hpre
        induction cuts using List.casesOn with
        | nil=>exact absurd hA (hf p (by have e:f=a:=hc; exact le_of_eq_of_le hc hap))
        | cons c r=>
          have h1:=hcut c r rfl
          have h3:=hc.2.2.1
          have hcp:c=p:=by
            by_cases h:p < c
            · exact absurd hA (h3 p hap h)
            · lia
          subst hcp
          rw [splitGo_c,if_pos hpre,List.map_cons,List.reverse_reverse,splitGo_skip,List.drop_drop,partsFrom_c,sub_is]
          congr 1
          have hA1:=hA.1
          rw [len_mkS] at hA1
          have e1:c+1+(sep.length - 1)=c+sep.length:=sp6 hw
          rw [e1]
          have:=ih (x.length - (c+sep.length)) (sb1 hn hlt hw) r (c+sep.length) f (c+sep.length) rfl (by have:=hc.2.2.2; rw [len_mkS] at this; exact this) hf (Nat.le_refl _) hA1 (fun c' r' e=>by
            subst e
            have:=hc.2.2.2.1
            rw [len_mkS] at this
            exact this)
          rw [Nat.sub_self,List.take_zero,List.reverse_nil] at this
          exact this
      · have hpre:¬ sep.isPrefixOf (x[p] :: x.drop (p+1))=true:=by
          rw [← List.drop_eq_getElem_cons hlt]
          exact fun h=>hA ((at_iff x sep p hp).mpr h)
        rw [splitGo_c,if_neg hpre]
        have:=ih (x.length - (p+1)) (sb1 hn hlt Nat.one_pos) cuts a f (p+1) rfl hc hf (by exact Nat.le_add_right_of_le hap) hlt (fun c r e=>by
          have h1:=hcut c r e
          subst e
          have hA':=hc.2.1
          by_cases h:c=p
          · subst h; exact absurd hA' hA
          · lia)
        rw [← this]
        congr 2
        have e2:(x.drop a).take (p+1 - a)=(x.drop a).take (p - a)++[x[p]]:=by
          rw [show p+1 - a=(p - a)+1 from by exact Nat.sub_add_comm hap,List.take_add_one,List.getElem?_drop,show a+(p - a)=p from by exact Nat.add_sub_of_le hap,List.getElem?_eq_getElem hlt]
          rfl
        rw [e2,List.reverse_append]
        rfl
theorem split_is (x sep:List Nat) (hw:0 < sep.length) (hk:Builtin.Str.strKind (mkS sep)=1):Txt.split (mkS x) (mkS sep)=(splitGo sep x [] 0).map mkS:=by
  obtain ⟨f,hc,hf⟩:=StrLaws.occ_tight (mkS x) (mkS sep) (by rw [len_mkS]; exact hw)
  rw [len_mkS] at hc hf
  have key:=splitGo_parts x sep hw _ _ 0 f 0 rfl hc hf (Nat.le_refl _) (Nat.zero_le _) (fun _ _ _=>Nat.zero_le _)
  rw [List.drop_zero,Nat.sub_zero,List.take_zero,List.reverse_nil] at key
  rw [key]
  delta Txt.split
  rw [len_mkS,len_mkS]
  have hone:Builtin.Str.occurrences (mkS x) (mkS sep) 0 x.length (x.length+1)=[]→StrLaws.partsFrom (mkS x) sep.length 0 (Builtin.Str.occurrences (mkS x) (mkS sep) 0 x.length (x.length+1))=[mkS x]:=by
    intro h
    rw [h,partsFrom_n,len_mkS,sub_is,List.drop_zero,Nat.sub_zero,List.take_length]
  split
  · rename_i h
    rw [Bool.or_eq_true,decide_eq_true_eq,decide_eq_true_eq,hk] at h
    refine (hone ?_).symm
    rcases h with h | h
    · rcases StrLaws.occ_head_from (mkS x) (mkS sep) 0 (x.length+1) (by exact Nat.le_add_left 1 x.length) with ⟨h',_⟩ | ⟨i,r,_,_,hi,_⟩
      · rw [len_mkS] at h'; exact h'
      · have:=hi.1; rw [len_mkS,len_mkS] at this; lia
    · exfalso
      delta Builtin.Str.strKind at h
      split at h
      · lia
      · split at h <;> lia
  · split
    · rename_i h
      exact (hone (List.isEmpty_iff.mp h)).symm
    · rw [StrLaws.partsBetween_eq]
theorem RealL.ofStrs {h:Heap} {l:List (Str × Tok)} {ps:List (List Nat)} (e:l.map (·.1)=ps.map mkS) (hp:∀ p∈ps,p.length≤line):RealL h k M (strValues l) (ps.map .str):=by
  induction l,ps using two_ind with
  | nn=>exact .nil
  | nc=>exact absurd e.symm (List.cons_ne_nil _ _)
  | cn=>exact absurd e (List.cons_ne_nil _ _)
  | cc a l p ps ih=>
    obtain ⟨x,t⟩:=a
    obtain ⟨rfl,e2⟩:=List.cons.inj (show x :: l.map (·.1)=mkS p :: ps.map mkS from e)
    exact .cons (.str t (hp p List.mem_cons_self)) (ih e2 fun q hq=>hp q (List.mem_cons_of_mem _ hq))
theorem splitGo_len (sep:List Nat):∀ (l acc:List Nat) (n:Nat),(∀ p∈splitGo sep l acc n,p.length≤l.length+acc.length)∧(splitGo sep l acc n).length≤l.length+1
  | [],acc,n=>by
    refine ⟨fun p hp=>?_,by simp [splitGo_n,splitGo_c,splitGo_s]⟩
    rw [splitGo_n,List.mem_singleton] at hp
    subst hp; simp
  | c :: r,acc,0=>by
    rw [splitGo_c]
    split
    · obtain ⟨h1,h2⟩:=splitGo_len sep r [] (sep.length - 1)
      refine ⟨fun p hp=>?_,by simp; assumption⟩
      rcases List.mem_cons.mp hp with rfl | hp
      · simp
      · have:=h1 p hp; simp at this ⊢; lia
    · obtain ⟨h1,h2⟩:=splitGo_len sep r (c :: acc) 0
      refine ⟨fun p hp=>?_,by simp; exact Nat.le_add_right_of_le h2⟩
      have:=h1 p hp; simp at this ⊢; lia
  | _ :: r,acc,n+1=>by
    rw [splitGo_s]
    obtain ⟨h1,h2⟩:=splitGo_len sep r acc n
    refine ⟨fun p hp=>?_,by simp; exact Nat.le_add_right_of_le h2⟩
    have:=h1 p hp; simp at this ⊢; lia
noncomputable def mtId:D→Mt→String
  | .str _,.lower=> "str.lower" | .str _,.upper=> "str.upper" | .str _,.split=> "str.split" | .str _,.join=> "str.join" | .str _,.index=> "str.index"
  | .list _,.index=> "list.index" | .sdict _,.get=> "dict.get" | _,_=> ""
theorem meth_ok {m:Mt} {o d:D} {x:Value} {vs:List Value} {ds:List D} (S:Stand s.heap M) (hx:Real s.heap s.toks M x o) (hv:RealL s.heap s.toks M vs ds) (hu:A.units+3 < cLine) (e:methD m o ds=some d)
    {Q:Value→Shared→Prop} (hQ:∀ v s',Ext s s'→Real s'.heap s'.toks M v d→Q v s'):wpAny (model prog w) A (call (.builtin (mtId o m)) (x :: vs)) Q E s:=by
  induction m using Mt.casesOn with
  | lower=>
    obtain ⟨s₀,rfl,e⟩:=onStr_inv e
    induction ds using List.casesOn with
    | cons _ _=>exact nos e
    | nil=>
      obtain ⟨hl,rfl⟩:=iteS e
      rw [Bool.and_eq_true,decide_eq_true_eq] at hl
      obtain ⟨t,rfl,hz⟩:=hx.inv
      obtain rfl:=hv.inv
      have hA:∀ c∈(mkS s₀).cps.toList,c < 128:=fun c hc=>of_decide_eq_true (List.all_eq_true.mp hl.1 c (by simpa [mkS] using hc))
      have el:Txt.lower (mkS s₀)=mkS (s₀.map lowC):=by
        rw [lower_ascii hA]
        show Str.mk _=Str.mk _
        simp only [mkS,List.map_toArray]
        rfl
      refine SC.lower ?_ ?_
      · rw [el,len_mkS,List.length_map]; delta Builtin.Str.tooLong; exact decide_eq_false (by rw [sizeLine_eq]; rw [line_is] at hz; lia)
      · rw [el]; exact hQ _ _ (Ext.tk1 s) (.str _ (by rw [List.length_map]; exact hz))
  | upper=>
    obtain ⟨s₀,rfl,e⟩:=onStr_inv e
    induction ds using List.casesOn with
    | cons _ _=>exact nos e
    | nil=>
      obtain ⟨hl,rfl⟩:=iteS e
      rw [Bool.and_eq_true,decide_eq_true_eq] at hl
      obtain ⟨t,rfl,hz⟩:=hx.inv
      obtain rfl:=hv.inv
      have hA:∀ c∈(mkS s₀).cps.toList,c < 128:=fun c hc=>of_decide_eq_true (List.all_eq_true.mp hl.1 c (by simpa [mkS] using hc))
      have el:Txt.upper (mkS s₀)=mkS (s₀.map uppC):=by
        rw [upper_ascii hA]
        show Str.mk _=Str.mk _
        simp only [mkS,List.map_toArray]
        rfl
      refine SC.upper ?_ ?_
      · rw [el,len_mkS,List.length_map]; delta Builtin.Str.tooLong; exact decide_eq_false (by rw [sizeLine_eq]; rw [line_is] at hz; lia)
      · rw [el]; exact hQ _ _ (Ext.tk1 s) (.str _ (by rw [List.length_map]; exact hz))
  | split=>
    obtain ⟨s₀,rfl,e⟩:=onStr_inv e
    obtain ⟨o',rfl,e⟩:=one_inv e
    obtain ⟨p,rfl,e⟩:=onStr_inv e
    induction p using List.casesOn with
    | nil=>exact nos e
    | cons c r=>
      obtain ⟨hl,rfl⟩:=iteS e
      obtain ⟨t,rfl,hz⟩:=hx.inv
      obtain ⟨_,rfl,a⟩:=hv.one
      obtain ⟨u,rfl,hz'⟩:=a.inv
      have hsp:=split_is s₀ (c :: r) (Nat.succ_pos _) (by delta Builtin.Str.strKind; rw [if_pos (by simpa [mkS] using hl.2)])
      obtain ⟨hlen1,hlen2⟩:=splitGo_len (c :: r) s₀ [] 0
      have hsz:(mkS s₀).length≤sizeLine:=by rw [len_mkS,sizeLine_eq]; lia
      have done:∀ (l:List (Str × Tok)) (tk:Nat),s.toks≤tk→l.map (·.1)=Txt.split (mkS s₀) (mkS (c :: r))→
          Q (.ref s.heap.objs.size) { s with heap:=s.heap.push { cls:=.type "list",data:=.seq (strValues l).toArray },toks:=tk }:=by
        intro l tk hk hl'
        have hr:RealL s.heap s.toks M (strValues l) ((splitGo (c :: r) s₀ [] 0).map .str):=RealL.ofStrs (hl'.trans hsp) fun p hp=>by have:=hlen1 p hp; rw [line_is]; simp at this; exact Nat.le_trans (hlen1 p hp) hz
        have x:Ext s { s with heap:=s.heap.push { cls:=.type "list",data:=.seq (strValues l).toArray },toks:=tk }:=Ext.pushTk s _ hk
        exact hQ _ _ x (.list (n:=0) S.fresh (Heap.get?_push_size _ rfl) (hr.ext x) (by rw [List.length_map,line_is]; lia))
      show wpAny _ _ (call (.builtin "str.split") _) _ _ _
      cases h1:(decide ((mkS s₀).length < (mkS (c :: r)).length) || decide (Builtin.Str.strKind (mkS s₀) < Builtin.Str.strKind (mkS (c :: r))))
      · cases hf:(Builtin.Str.occurrences (mkS s₀) (mkS (c :: r)) 0 (mkS s₀).length ((mkS s₀).length+1)).isEmpty
        · have hn:(Builtin.Str.partsBetween (mkS s₀) (Builtin.Str.occurrences (mkS s₀) (mkS (c :: r)) 0 (mkS s₀).length ((mkS s₀).length+1)) (mkS (c :: r)).length).length≤sizeLine:=by
            have e1:=StrLaws.occ_length_le (mkS s₀) (mkS (c :: r)) 0 (mkS s₀).length ((mkS s₀).length+1)
            rw [length_partsBetween,sizeLine_eq]
            rw [len_mkS] at e1
            rw [len_mkS]; lia
          refine call_meets F.slot_str_split (typeIs_str _ _ _) F.entry_str_split (F.args_str_split_2 _ _) (meets_str_split_sep _ _ t u h1 (by simp [len_mkS]) hf hsz hn) ?_
          have:=done (numbered s.toks (Builtin.Str.partsBetween (mkS s₀) (Builtin.Str.occurrences (mkS s₀) (mkS (c :: r)) 0 (mkS s₀).length ((mkS s₀).length+1)) (mkS (c :: r)).length)) (s.toks+(Builtin.Str.partsBetween (mkS s₀) (Builtin.Str.occurrences (mkS s₀) (mkS (c :: r)) 0 (mkS s₀).length ((mkS s₀).length+1)) (mkS (c :: r)).length).length) (Nat.le_add_right _ _) ((numbered_texts _ _).trans ((if_neg (ne_true_of_eq_false h1)).trans (if_neg (ne_true_of_eq_false hf))).symm)
          rw [← strsFrom_eq] at this
          exact this
        · exact call_meets F.slot_str_split (typeIs_str _ _ _) F.entry_str_split (F.args_str_split_2 _ _) (meets_str_split_not_found _ _ t u h1 (by simp [len_mkS]) hf)
            (done [(mkS s₀,t)] s.toks (Nat.le_refl _) ((if_neg (ne_true_of_eq_false h1)).trans (if_pos hf)).symm)
      · exact call_meets F.slot_str_split (typeIs_str _ _ _) F.entry_str_split (F.args_str_split_2 _ _) (meets_str_split_cannot_occur _ _ t u h1)
          (done [(mkS s₀,t)] s.toks (Nat.le_refl _) (if_pos h1).symm)
  | join=>
    obtain ⟨s₀,rfl,e⟩:=onStr_inv e
    obtain ⟨o',rfl,e⟩:=one_inv e
    obtain ⟨xs,rfl,e⟩:=onLst_inv e
    obtain ⟨l,e1,e⟩:=Option.bind_eq_some_iff.mp e
    obtain ⟨hl,rfl⟩:=iteS e
    obtain ⟨t,rfl,hz⟩:=hx.inv
    obtain ⟨_,rfl,a⟩:=hv.one
    obtain ⟨a,vs',n',rfl,m,l',r',hz'⟩:=a.inv
    have hi:=r'.strs e1
    refine wpAny_grow (join_list l'.isList (items:=vs'.toArray) (ys:=l.map mkS) (by simpa using hi) ?_ fun t' k' hk=>?_)
    · have:=joinL_len s₀ l
      rw [List.map_map,List.length_map,len_mkS,show ((fun x:Str=>x.length) ∘ mkS)=fun x:List Nat=>x.length from funext fun x=>len_mkS x]
      rw [line_is] at hl hz
      lia
    · rw [join_is]; exact hQ _ _ (Ext.tk s hk) (.str _ hl)
  | index=>
    obtain ⟨o',rfl,e⟩:=one_inv e
    obtain ⟨_,rfl,b⟩:=hv.one
    induction o using D.casesOn with
    | str s₀=>
      obtain ⟨p,rfl,e⟩:=onStr_inv (show onStr o' (indexS s₀)=some d from e)
      induction p using List.casesOn with
      | nil=>exact nos e
      | cons c r=>induction r using List.casesOn with
        | cons _ _=>exact nos e
        | nil=>
          obtain ⟨j,hi,rfl⟩:=Option.map_eq_some_iff.mp e
          obtain ⟨hj,h1,h2⟩:=idxOf_spec hi
          obtain ⟨t,rfl,hz⟩:=hx.inv
          obtain ⟨u,rfl,_⟩:=b.inv
          have hAt:∀ i,StrLaws.At (mkS s₀) ⟨#[c]⟩ (mkS s₀).length i ↔ s₀[i]? = some c:=fun i=>(StrLaws.subAt_one (mkS s₀) c i).trans (by simp [mkS])
          have ho:∃ r,Builtin.Str.occurrences (mkS s₀) ⟨#[c]⟩ 0 (mkS s₀).length 1=j :: r:=by
            rcases StrLaws.occ_head_from (mkS s₀) ⟨#[c]⟩ 0 1 (Nat.le_refl _) with ⟨_,hn⟩ | ⟨i,r,ho,_,hi',hn⟩
            · exact absurd ((hAt j).mpr (by rw [List.getElem?_eq_getElem hj,h1])) (hn j (Nat.zero_le _))
            · have e1:=(hAt i).mp hi'
              obtain ⟨q1,q2⟩:=List.getElem?_eq_some_iff.mp e1
              by_cases hij:i < j
              · exact absurd q2 (h2 i q1 hij)
              · by_cases hji:j < i
                · exact absurd ((hAt j).mpr (by rw [List.getElem?_eq_getElem hj,h1])) (hn j (Nat.zero_le _) hji)
                · have:i=j:=by lia
                  subst this; exact ⟨r,ho⟩
          obtain ⟨r,ho⟩:=ho
          exact SC.index ho (hQ _ _ (Ext.tk1 s) (.int _ _))
    | list xs=>induction o' using D.casesOn with
      | int a₀=>
        obtain ⟨ns,e1,e⟩:=Option.bind_eq_some_iff.mp e
        obtain ⟨j,hi,rfl⟩:=Option.map_eq_some_iff.mp e
        obtain ⟨hj,h1,h2⟩:=idxOf_spec hi
        obtain ⟨a,vs',n',rfl,m,l,r,hz⟩:=hx.inv
        obtain ⟨t,rfl⟩:=b.inv
        have ha:=r.ints e1
        have hn:=IntsAre.len ha
        have hz':ns.length≤1048576:=by rw [← toInts_len e1]; exact hz
        show wpAny _ _ (call (.builtin "list.index") _) _ _ _
        refine call_meets F.slot_list_index ⟨_,l,rfl⟩ F.entry_list_index (F.args_list_index_2 _ _) (list_indexAt a vs'.toArray n' none #[] (.int a₀ t) (isInt a₀) j (by simpa [hn] using hj) (by lia) ?_ ?_) ⟨l,?_,?_⟩
        · rw [List.getElem_toArray,isInt_at ha j (by exact Nat.lt_of_lt_of_eq hj (id (Eq.symm hn))),h1]; exact beq_self_eq_true _
        · intro m' hm hmj
          have hm':m' < vs'.length:=by simpa using hm
          rw [List.getElem_toArray,isInt_at ha m' hm']
          exact beq_false_of_ne (h2 m' (by exact Nat.lt_trans hmj hj) hmj)
        · intro y hy
          exact (eq_isInt a₀ t ha y (by simpa using hy)).at _ _
        · exact hQ _ _ (Ext.tk1 s) (.int _ _)
      | list as=>
        obtain ⟨rows,e1,e⟩:=Option.bind_eq_some_iff.mp e
        obtain ⟨x₀,e2,e⟩:=Option.bind_eq_some_iff.mp e
        obtain ⟨j,hi,rfl⟩:=Option.map_eq_some_iff.mp e
        obtain ⟨hj,h1,h2⟩:=idxOf_spec hi
        obtain ⟨a,vs',n',rfl,m,l,r,hz⟩:=hx.inv
        have ha:=r.rows e1
        have hb:=b.row e2
        have hn:=ha.len
        have hz':vs'.length≤1048576:=by rw [r.len]; exact hz
        show wpAny _ _ (call (.builtin "list.index") _) _ _ _
        refine call_meets F.slot_list_index ⟨_,l,rfl⟩ F.entry_list_index (F.args_list_index_2 _ _) (list_indexAt a vs'.toArray n' none #[] _ (hitRow s.heap x₀) j (by simpa [hn] using hj) (by lia) ?_ ?_) ⟨l,?_,?_⟩
        · rw [List.getElem_toArray,hitRow_eq (ha.at j (by exact Nat.lt_of_lt_of_eq hj (id (Eq.symm hn))) hj),h1]; exact beq_self_eq_true _
        · intro m' hm hmj
          have hm':m' < vs'.length:=by simpa using hm
          rw [List.getElem_toArray,hitRow_eq (ha.at m' hm' (by exact Nat.lt_trans hmj hj))]
          exact beq_false_of_ne (h2 m' (by exact Nat.lt_trans hmj hj) hmj)
        · intro y hy
          obtain ⟨x',hx'⟩:=mem_row ha y (by simpa using hy)
          rw [hitRow_eq hx']
          exact row_eq hx' hb (by show A.units+1 < cLine; lia)
        · exact hQ _ _ (Ext.tk1 s) (.int _ _)
      | _=>exact nos e
    | _=>exact nos e
  | get=>
    obtain ⟨k',dflt,rfl,e⟩:=two_inv e
    induction o using D.casesOn with
    | sdict es=>
      obtain ⟨key,rfl,e⟩:=onStr_inv e
      obtain rfl:=Option.some.inj e
      obtain ⟨a,kvs,rfl,hm,hn,hl,hr⟩:=hx.inv
      obtain ⟨_,_,rfl,b,c⟩:=hv.two
      obtain ⟨t,rfl,hz⟩:=b.inv
      have q:=hr.look (j₀:=key)
      show wpAny _ _ (call (.builtin "dict.get") _) _ _ _
      refine call_meetsIn F.slot_dict_get hl.typeIs F.entry_dict_get (F.args_dict_get_3 _ _ _) (meets_dict_get_default (strKind prog w) a (strKind_is prog w (mkS key) t) hn _) ⟨valueAt kvs,hl.mapOf,?_⟩
      cases hk:getKey es key with
      | none=>
        rw [hk] at q hQ
        rw [q]
        exact hQ _ _ (Ext.tk1 s) (c.ext (Ext.tk1 s))
      | some d'=>
        rw [hk] at q hQ
        obtain ⟨v,q1,q2⟩:=q
        rw [q1]
        exact hQ _ _ (Ext.tk1 s) (q2.ext (Ext.tk1 s))
    | _=>exact nos e
end
end Mine
end
section
open PySem PySem.W PyProof.Rows PySem.SeqAt
set_option autoImplicit false
namespace Mine
section
variable {A:Around} {E:Value→Shared→Prop} {s:Shared} {k:Tok} {M:Addr→Prop}
theorem splitGo_ne (sep:List Nat):∀ (l acc:List Nat) (n:Nat),∃ p q,splitGo sep l acc n=p :: q
  | [],_,_=>⟨_,_,rfl⟩
  | c :: r,acc,0=>by
    rw [splitGo_c]
    split
    · exact ⟨_,_,rfl⟩
    · exact splitGo_ne sep r _ 0
  | _ :: r,acc,n+1=>by rw [splitGo_s]; exact splitGo_ne sep r acc n
theorem joinL_cons (w a:List Nat) {l:List (List Nat)} (h:∃ p q,l=p :: q):joinL w (a :: l)=a++w++joinL w l:=by
  obtain ⟨p,q,rfl⟩:=h
  rfl
theorem replC_join (c:Nat) (w:List Nat):∀ (s acc:List Nat),joinL w (splitGo [c] s acc 0)=acc.reverse++replC c w s
  | [],acc=>by simp [splitGo_n,splitGo_c,splitGo_s,jL_n,jL_1,jL_c,replC]
  | x :: r,acc=>by
    rw [splitGo_c]
    by_cases h:x=c
    · subst h
      rw [if_pos (by simp [List.isPrefixOf]),joinL_cons _ _ (splitGo_ne ..)]
      show _++joinL w (splitGo [x] r [] 0)=_
      rw [replC_join x w r []]
      simp [replC]
    · rw [if_neg (by simp [List.isPrefixOf]; exact fun e=>h e.symm),replC_join c w r (x :: acc)]
      simp [replC,h]
theorem joins_is (w:List Nat):∀ l:List (List Nat),Str.join (mkS w) (l.map mkS)=mkS (joinL w l):=by
  intro l
  rw [← join_is]
  unfold Txt.join
  rw [StrLaws.glued_eq_join]
theorem replC_len (c:Nat) (w:List Nat):∀ s:List Nat,(replC c w s).length≤s.length * (w.length+1)
  | []=>by simp [replC]
  | x :: r=>by
    have:=replC_len c w r
    rw [replC,List.flatMap_cons,List.length_append,List.length_cons,Nat.succ_mul]
    have h2:(List.flatMap (fun x=>if x=c then w else [x]) r).length≤r.length * (w.length+1):=this
    generalize (List.flatMap (fun x=>if x=c then w else [x]) r).length=m at h2 ⊢
    split
    · lia
    · rw [List.length_singleton]; lia
theorem repl_ok {x:List Nat} {c:Nat} {w₁:List Nat} {t u v:Tok} (hu:u≠0) (hv:u < v) (hx:x.length≤4096) (hw:w₁.length≤64) (hne:w₁≠[c]) (hc:c < 256)
    {Q:Value→Shared→Prop} (hQ:∀ v s',Ext s s'→Real s'.heap s'.toks M v (.str (replC c w₁ x))→Q v s') :
    wpAny (model prog w) A (call (.builtin "str.replace") [.str (mkS x) t,.str (mkS [c]) u,.str (mkS w₁) v]) Q E s:=by
  have h2:((mkS x).length+1) * (mkS w₁).length≤4097 * 64:=by rw [len_mkS,len_mkS]; exact Nat.mul_le_mul (by exact Nat.succ_le_succ hx) hw
  refine wpAny_grow (SC.replace hu (Nat.ne_of_gt (Nat.lt_of_le_of_lt (Nat.zero_le u) hv)) (Nat.ne_of_lt hv) (beq_false_of_ne fun e=>hne (mkS_inj.mp e).symm) (by rw [len_mkS] at h2 ⊢; lia) fun t' k' hk=>?_)
  have e:Txt.replace (mkS x) (mkS [c]) (mkS w₁)=mkS (replC c w₁ x):=by
    rw [show mkS [c]=⟨#[c]⟩ from rfl,StrLaws.replace_one]
    rw [show (⟨#[c]⟩ : Str)=mkS [c] from rfl,split_is x [c] (Nat.succ_pos _) (by unfold Builtin.Str.strKind; rw [if_pos (by simpa [mkS] using hc)]),joins_is,replC_join]
    rfl
  rw [e]
  refine hQ _ _ (Ext.tk s hk) (.str _ ?_)
  have h3:=replC_len c w₁ x
  have h4:x.length * (w₁.length+1)≤4096 * 65:=Nat.mul_le_mul hx (by exact Nat.succ_le_succ hw)
  rw [line_is]; lia
theorem isi_bool {x:Value} {d:D} {b:Bool} (hx:Real s.heap s.toks M x d) (e:biD .isBool [d]=some (.bool b))
    {Q:Value→Shared→Prop} (hQ:∀ s',Ext s s'→Q (.bool b) s'):wpAny (model prog w) A (call (.builtin "isinstance") [x,.type "bool"]) Q E s:=by
  induction d using D.casesOn with
  | bool _=>obtain rfl:=hx.inv; obtain rfl:=D.bool.inj (some1 e); exact IsiPair.bool_bool (hQ _ (Ext.refl _))
  | int _=>obtain ⟨_,rfl⟩:=hx.inv; obtain rfl:=D.bool.inj (some1 e); exact IsiPair.int_bool (hQ _ (Ext.tk1 s))
  | _=>exact nos e
theorem isi_int {x:Value} {d:D} {b:Bool} (hx:Real s.heap s.toks M x d) (e:biD .isInt [d]=some (.bool b))
    {Q:Value→Shared→Prop} (hQ:∀ s',Ext s s'→Q (.bool b) s'):wpAny (model prog w) A (call (.builtin "isinstance") [x,.type "int"]) Q E s:=by
  induction d using D.casesOn with
  | bool _=>obtain rfl:=hx.inv; obtain rfl:=D.bool.inj (some1 e); exact IsiPair.bool_int (hQ _ (Ext.refl _))
  | int _=>obtain ⟨_,rfl⟩:=hx.inv; obtain rfl:=D.bool.inj (some1 e); exact IsiPair.int_int (hQ _ (Ext.refl _))
  | _=>exact nos e
theorem RealL.of_get {h:Heap} {vs:List Value} {ds:List D} (e:vs.length=ds.length) (g:∀ (i:Nat) (d:D),ds[i]? = some d→∃ v,vs[i]? = some v∧Real h k M v d):RealL h k M vs ds:=by
  induction vs,ds using two_ind with
  | nn=>exact .nil
  | nc=>exact absurd e.symm (Nat.succ_ne_zero _)
  | cn=>exact absurd e (Nat.succ_ne_zero _)
  | cc v vs d ds ih=>
    obtain ⟨v',q,r⟩:=g 0 d rfl
    obtain rfl:=some1 (show some v=some v' from q)
    exact .cons r (ih (Nat.succ.inj e) fun i d' hd=>g (i+1) d' hd)
theorem tiny_iff {i:Int}:tiny i=true ↔ -(2 ^ 40) < i∧i < 2 ^ 40:=by
  exact decide_eq_true_iff.trans nab
theorem rsz_le (a b c:Int) (ha:tiny a=true) (hb:tiny b=true) (hc:c≠0):rsz a b c≤2 ^ 42:=by
  rw [tiny_iff] at ha hb
  unfold rsz
  split
  · split
    · rename_i h1 h2
      have:=Int.ediv_le_self (a:=b - a - 1) c (by lia)
      lia
    · decide
  · split
    · rename_i h1 h2
      have:=Int.ediv_le_self (a:=a - b - 1) (-c) (by lia)
      lia
    · decide
theorem tin {i:Int} (h:tiny i=true) : -(2 ^ 40)≤i∧i≤2 ^ 40:=⟨Int.le_of_lt (tiny_iff.mp h).1,Int.le_of_lt (tiny_iff.mp h).2⟩
theorem range_small (a b c:Int) (h:(tiny a && tiny b && tiny c && decide (c≠0))=true):Builtin.Range.small a b c=true:=by
  simp only [Bool.and_eq_true,decide_eq_true_eq] at h
  have h1:=rsz_le a b c h.1.1.1 h.1.1.2 h.2
  have h2:=rsz_nonneg a b c
  have ha:=tin h.1.1.1
  have hb:=tin h.1.1.2
  have hc:=tin h.1.2
  unfold Builtin.Range.small
  rw [rsz_is]
  unfold Builtin.Range.rangeFitsLong
  simp only [Bool.and_eq_true,Bool.or_eq_true,decide_eq_true_eq]
  refine ⟨⟨⟨⟨?_,?_⟩,?_⟩,?_⟩,.inr ?_⟩
  · exact wide (Int.le_trans (by decide) ha.1) (Int.le_trans ha.2 (by decide))
  · exact wide (Int.le_trans (by decide) hb.1) (Int.le_trans hb.2 (by decide))
  · exact wide (Int.le_trans (by decide) hc.1) (Int.le_trans hc.2 (by decide))
  · exact wide (Int.le_trans (by decide) h2) h1
  · split
    · have q:=wide (Int.le_trans (by decide) (Int.add_le_add hb.1 (Int.sub_le_sub_right hc.1 1))) (Int.le_trans (Int.add_le_add hb.2 (Int.sub_le_sub_right hc.2 1)) (by decide))
      exact Bool.and_eq_true_iff.mpr ⟨decide_eq_true q.1,decide_eq_true q.2⟩
    · have q:=wide (Int.le_trans (by decide) (Int.add_le_add hb.1 (Int.add_le_add_right hc.1 1))) (Int.le_trans (Int.add_le_add hb.2 (Int.add_le_add_right hc.2 1)) (by decide))
      exact Bool.and_eq_true_iff.mpr ⟨decide_eq_true q.1,decide_eq_true q.2⟩
theorem rangeL_len (a b c:Int):(rangeL a b c).length=(rsz a b c).toNat:=by unfold rangeL; simp
theorem rangeL_get (a b c:Int) (i:Nat) (h:i < (rsz a b c).toNat):(rangeL a b c)[i]? = some (a+(i:Int) * c):=by
  unfold rangeL
  rw [List.getElem?_map,List.getElem?_range h]
  rfl
theorem listRange_ok {x:Value} {a b c:Int} {d:D} (S:Stand s.heap M) (hh:A.handled=none) (hx:Real s.heap s.toks M x (.rng a b c)) (e:biD .list [.rng a b c]=some d)
    {Q:Value→Shared→Prop} (hQ:∀ vs n s',Ext s s'→s.heap.get? s.heap.objs.size=none→IsL s'.heap s.heap.objs.size vs n→RealL s'.heap s'.toks M vs.toList ((rangeL a b c).map .int)→d=.list ((rangeL a b c).map .int)→
      ((rangeL a b c).map D.int).length≤line→Q (.ref s.heap.objs.size) s') :
    wpAny (model prog w) A (call (.type "list") [x]) Q E s:=by
  obtain ⟨hl,rfl⟩:=iteS e
  obtain ⟨_,_,_,_,rfl,m,hr⟩:=hx.inv
  have hn:=rsz_nonneg a b c
  refine wpAny_grow (call_list_range hh hr (range_small a b c hl.1) (n:=(rsz a b c).toNat) (by rw [rsz_is]; exact Int.eq_natCast_toNat.mpr hn) (by have:=hl.2; rw [rangeL_len,line_is] at this; lia) fun h' tk acc c' hk hat hit htk=>?_)
  refine hQ acc c' _ (Ext.of hk htk) (fresh_none _) hat ?_ rfl (by rw [List.length_map]; exact hl.2)
  refine RealL.of_get (by rw [List.length_map,rangeL_len,Array.length_toList]; exact hit.1) fun i d hd=>?_
  rw [List.getElem?_map] at hd
  have hi:i < (rsz a b c).toNat:=by
    cases q:(rangeL a b c)[i]? with
    | none=>rw [q] at hd; exact nos hd
    | some z=>
      have:=(List.getElem?_eq_some_iff.mp q).1
      rwa [rangeL_len] at this
  rw [rangeL_get a b c i hi] at hd
  obtain rfl:=some1 hd
  have hsz:i < acc.size:=by rw [hit.1]; exact hi
  obtain ⟨t,et⟩:=hit.2 i acc[i] (Array.getElem?_eq_getElem hsz)
  exact ⟨acc[i],by rw [Array.getElem?_toList,Array.getElem?_eq_getElem hsz],by rw [et]; exact .int _ _⟩
end
end Mine
end
section
open PySem PySem.W PyProof.Rows
set_option autoImplicit false
namespace Mine
theorem St.get_put (σ:St) (i j:Nat) (s:Slot) (h:i < σ.length):(σ.put i s).get j=if j=i then some s else σ.get j:=by
  delta St.get St.put
  by_cases e:j=i
  · subst e; rw [if_pos rfl,List.getElem?_set_self h]; rfl
  · rw [if_neg e,List.getElem?_set_ne (Ne.symm e)]
theorem St.get_del (σ:St) (i j:Nat):(σ.del i).get j=if j=i then none else σ.get j:=by
  delta St.get St.del
  by_cases e:j=i
  · subst e; rw [if_pos rfl,List.getElem?_set]; simp; split <;> rfl
  · rw [if_neg e,List.getElem?_set_ne (Ne.symm e)]
theorem St.get_put' {σ:St} {i j:Nat} {s t:Slot} (h:(σ.put i s).get j=some t):(j=i∧t=s)∨(j≠i∧σ.get j=some t):=by
  delta St.get St.put at h
  by_cases e:j=i
  · subst e
    rw [List.getElem?_set] at h
    simp at h
    split at h
    · simp at h; exact .inl ⟨rfl,h.symm⟩
    · exact nos h
  · rw [List.getElem?_set_ne (Ne.symm e)] at h
    exact .inr ⟨e,h⟩
theorem St.len_put (σ:St) (i:Nat) (s:Slot):(σ.put i s).length=σ.length:=List.length_set
theorem St.len_del (σ:St) (i:Nat):(σ.del i).length=σ.length:=List.length_set
inductive Loc | dct (a:Addr) (x:Str) | cel (c:Addr)
noncomputable def Loc.addr:Loc→Addr | .dct a _=>a | .cel c=>c
noncomputable def Loc.ok (h:Heap):Loc→Prop | .dct a _=>∃ m,h.Ns a m | .cel c=>∃ v,h.IsCell c v
noncomputable def Loc.has (h:Heap) (v:Value):Loc→Prop | .dct a x=>∃ m,h.Ns a m∧m x=some v | .cel c=>h.IsCell c (some v)
structure Fx where
  hT:Heap
  h₀:Heap
  M₀:Addr→Prop
  X:Addr→Prop
  nv:Nat
structure Fx.Ok (φ:Fx):Prop where
  top:∀ b o,φ.hT.get? b=some o→φ.h₀.get? b=some o
  out:∀ b,φ.M₀ b→φ.hT.get? b=none
  sub:∀ b,φ.X b→φ.M₀ b
  stand:Stand φ.h₀ φ.M₀
abbrev Locs:=Nat→Option Loc
structure Cf where
  s:Shared
  M:Addr→Prop
  vs:Nat→Value
noncomputable def Root (σ:St) (vs:Nat→Value) (a:Addr):Prop:=∃ i o d,σ.get i=some (o,d)∧o≠Own.sh∧vs i=.ref a
noncomputable def Touch (loc:Locs) (σ:St) (vs:Nat→Value) (a:Addr):Prop:=(∃ i L,loc i=some L∧L.addr=a)∨Root σ vs a
inductive OwnR (h:Heap) (k:Tok) (M:Addr→Prop):Value→D→Prop
  | list {a:Addr} {vs:List Value} {ds:List D} {n:Nat}:M a→IsL h a vs.toArray n→RealL h k M vs ds→ds.length≤line→OwnR h k M (.ref a) (.list ds)
  | idict {a:Addr} {kvs:List (Int × Value)} {es:List (Int × D)}:M a→(a == sysModules)=false→h.DictOf (intKind prog w) a kvs→RealI h k M kvs es→OwnR h k M (.ref a) (.idict es)
noncomputable def SlotOK (φ:Fx) (c:Cf):Own→D→Value→Prop
  | .sh,d,v=>Real c.s.heap c.s.toks c.M v d
  | .own,d,v=>OwnR c.s.heap c.s.toks c.M v d∧∀ a,v=.ref a→φ.h₀.get? a=none
  | .bor,d,v=>OwnR c.s.heap c.s.toks c.M v d∧∀ a,v=.ref a→φ.X a
structure Rep (φ:Fx) (loc:Locs) (σ:St) (c:Cf):Prop where
  fx:φ.Ok
  len:σ.length=φ.nv
  top:∀ b o,φ.h₀.get? b=some o→¬ φ.X b→c.s.heap.get? b=some o
  sup:∀ b,φ.M₀ b→c.M b
  old:∀ b,c.M b→φ.M₀ b∨φ.h₀.get? b=none
  stand:Stand c.s.heap c.M
  pos:0 < c.s.toks
  locs:∀ i L,loc i=some L→L.ok c.s.heap∧c.M L.addr∧φ.h₀.get? L.addr=none∧i < σ.length
  vals:∀ i o d,σ.get i=some (o,d)→∃ L,loc i=some L∧L.has c.s.heap (c.vs i)∧SlotOK φ c o d (c.vs i)
  inj:∀ i j oi di oj dj,σ.get i=some (oi,di)→σ.get j=some (oj,dj)→oi≠.sh→oj≠.sh→c.vs i=c.vs j→i=j
  linj:∀ i j L,loc i=some L→loc j=some L→i=j
  apart:∀ i o d a,σ.get i=some (o,d)→o≠.sh→c.vs i=.ref a→∀ j L,loc j=some L→L.addr≠a
structure Go (φ:Fx) (loc:Locs) (σ:St) (c:Cf) (loc':Locs) (σ':St) (c':Cf):Prop where
  rep:Rep φ loc' σ' c'
  step:Step c.s.heap c.M (Touch loc σ c.vs) c'.s.heap c'.M (Touch loc' σ' c'.vs)
  toks:c.s.toks≤c'.s.toks
  gens:c'.s.gens=c.s.gens
  os:c'.s.os=c.s.os
  stay:∀ b,c'.s.heap.get? b=none→c.s.heap.get? b=none
theorem Loc.ok_of_has {h:Heap} {v:Value}:∀ {L:Loc},L.has h v→L.ok h
  | .dct _ _,⟨m,n,_⟩=>⟨m,n⟩
  | .cel _,n=>⟨_,n⟩
theorem Ns.keep {h h':Heap} {a:Addr} {m:Str→Option Value} (x:h.Ns a m) (k:∀ o,h.get? a=some o→h'.get? a=some o):h'.Ns a m:=by
  obtain ⟨o,es,ep,x,r⟩:=x; exact ⟨o,es,ep,k _ x,r⟩
theorem IsCell.keep {h h':Heap} {a:Addr} {v:Option Value} (x:h.IsCell a v) (k:∀ o,h.get? a=some o→h'.get? a=some o):h'.IsCell a v:=by
  obtain ⟨o,e,r⟩:=x; exact ⟨o,k _ e,r⟩
theorem Loc.has_keep {h h':Heap} {v:Value} {L:Loc} (x:L.has h v) (k:∀ o,h.get? L.addr=some o→h'.get? L.addr=some o):L.has h' v:=by
  induction L using Loc.casesOn with
  | dct _ _=>exact x.imp fun m x=>⟨Ns.keep x.1 k,x.2⟩
  | cel _=>exact IsCell.keep x k
theorem Loc.ok_keep {h h':Heap} {L:Loc} (x:L.ok h) (k:∀ o,h.get? L.addr=some o→h'.get? L.addr=some o):L.ok h':=by
  induction L using Loc.casesOn with
  | dct _ _=>exact x.imp fun m x=>Ns.keep x k
  | cel _=>exact x.imp fun m x=>IsCell.keep x k
theorem Ext.back {s s':Shared} (x:Ext s s') {b:Addr} (e:s'.heap.get? b=none):s.heap.get? b=none:=by
  cases q:s.heap.get? b with
  | none=>rfl
  | some o=>rw [x.keep b o q] at e; exact nos e.symm
structure Grow (s:Shared) (M:Addr→Prop) (s':Shared) (M':Addr→Prop):Prop where
  ext:Ext s s'
  up:∀ b,M b→M' b
  old:∀ b,M' b→M b∨s.heap.get? b=none
  stand:Stand s'.heap M'
theorem Grow.of {s s':Shared} {M:Addr→Prop} (S:Stand s.heap M) (x:Ext s s'):Grow s M s' M:=⟨x,fun _ m=>m,fun _ m=>.inl m,x.stand S⟩
theorem Grow.step {s s':Shared} {M M':Addr→Prop} (x:Grow s M s' M') {T T':Addr→Prop} (t:∀ b,T' b→T b∨s.heap.get? b=none):Step s.heap M T s'.heap M' T':=
  ⟨fun b o _ e=>x.ext.keep b o e,fun b o m _ e=>⟨x.ext.keep b o e,x.up b m⟩,x.old,t⟩
section
variable {φ:Fx} {loc loc' loc₁ loc₂ loc₃:Locs} {σ σ₀ σ₁ σ₂ σ₃:St} {c c₀ c₁ c₂ c₃:Cf}
theorem Go.refl (R:Rep φ loc σ c):Go φ loc σ c loc σ c:=⟨R,.refl ..,Nat.le_refl _,rfl,rfl,fun _ e=>e⟩
theorem Go.trans (x:Go φ loc₁ σ₁ c₁ loc₂ σ₂ c₂) (y:Go φ loc₂ σ₂ c₂ loc₃ σ₃ c₃):Go φ loc₁ σ₁ c₁ loc₃ σ₃ c₃:=
  ⟨y.rep,x.step.trans y.step,Nat.le_trans x.toks y.toks,y.gens.trans x.gens,y.os.trans x.os,fun b e=>x.stay b (y.stay b e)⟩
theorem Go.real (x:Go φ loc₁ σ₁ c₁ loc₂ σ₂ c₂) {v:Value} {d:D} (r:Real c₁.s.heap c₁.s.toks c₁.M v d):Real c₂.s.heap c₂.s.toks c₂.M v d:=r.mono x.step x.toks
theorem Go.realL (x:Go φ loc₁ σ₁ c₁ loc₂ σ₂ c₂) {v:List Value} {d:List D} (r:RealL c₁.s.heap c₁.s.toks c₁.M v d):RealL c₂.s.heap c₂.s.toks c₂.M v d:=r.mono x.step x.toks
noncomputable def OwnRInv (h:Heap) (k:Tok) (M:Addr→Prop) (v:Value):D→Prop
  | .list ds=>∃ a vs n,v=.ref a∧M a∧IsL h a vs.toArray n∧RealL h k M vs ds∧ds.length≤line
  | .idict es=>∃ a kvs,v=.ref a∧M a∧(a == sysModules)=false∧h.DictOf (intKind prog w) a kvs∧RealI h k M kvs es
  | _=>False
theorem OwnR.inv {h:Heap} {k:Tok} {M:Addr→Prop} {v:Value} {d:D} (r:OwnR h k M v d):OwnRInv h k M v d:=by
  induction r using OwnR.casesOn with
  | list m l r z=>exact ⟨_,_,_,rfl,m,l,r,z⟩
  | idict m n l r=>exact ⟨_,_,rfl,m,n,l,r⟩
theorem OwnR.mono' {h h':Heap} {k k':Tok} {M M' T T':Addr→Prop} {v:Value} {d:D} (x:Step h M T h' M' T') (lk:k≤k') (r:OwnR h k M v d)
    (keep:∀ a o,v=.ref a→h.get? a=some o→h'.get? a=some o) (up:∀ a,v=.ref a→M a→M' a):OwnR h' k' M' v d:=by
  induction r using OwnR.casesOn with
  | list m l r z=>exact .list (up _ rfl m) (keep _ _ rfl l) (r.mono x lk) z
  | idict m n l r=>exact .idict (up _ rfl m) n (l.at fun o e=>keep _ _ rfl e) (r.mono x lk)
theorem OwnR.ref {h:Heap} {k:Tok} {M:Addr→Prop} {v:Value} {d:D} (r:OwnR h k M v d):∃ a o,v=.ref a∧M a∧h.get? a=some o:=by
  induction r using OwnR.casesOn with
  | list m l r z=>exact ⟨_,_,rfl,m,l⟩
  | idict m n l r=>obtain ⟨o,e⟩:=DictOf.some l; exact ⟨_,o,rfl,m,e⟩
theorem OwnR.real {h:Heap} {k:Tok} {M M':Addr→Prop} {v:Value} {d:D} (r:OwnR h k M v d) (n:∀ a,v=.ref a→¬ M' a) (sub:∀ b,M' b→M b):Real h k M' v d:=by
  have st:Step h M (fun _=>True) h M' (fun _=>True):=⟨fun _ _ _ e=>e,fun _ _ _ f _=>absurd trivial f,fun b m=>.inl (sub b m),fun _ t=>.inl t⟩
  induction r using OwnR.casesOn with
  | list m l r z=>exact .list (n _ rfl) l (r.mono st (Nat.le_refl _)) z
  | idict m nn l r=>exact .idict (n _ rfl) nn l (r.mono st (Nat.le_refl _))
theorem Rep.fresh (R:Rep φ loc σ c) {a:Addr} (h:c.s.heap.get? a=none):φ.h₀.get? a=none:=by
  cases e:φ.h₀.get? a with
  | none=>rfl
  | some o=>
    by_cases x:φ.X a
    · obtain ⟨o',q⟩:=R.stand a (R.sup a (R.fx.sub a x))
      rw [h] at q; exact nos q
    · rw [R.top a o e x] at h; exact nos h.symm
theorem Rep.grow (R:Rep φ loc σ c) {s':Shared} {M':Addr→Prop} (x:Grow c.s c.M s' M'):Rep φ loc σ ⟨s',M',c.vs⟩ where
  fx:=R.fx
  len:=R.len
  top:=fun b o e n=>x.ext.keep b o (R.top b o e n)
  sup:=fun b m=>x.up b (R.sup b m)
  old:=fun b m=>by
    rcases x.old b m with q | q
    · exact R.old b q
    · exact .inr (R.fresh q)
  stand:=x.stand
  pos:=Nat.lt_of_lt_of_le R.pos x.ext.toks
  locs:=fun i L e=>let ⟨a,b,d,f⟩:=R.locs i L e; ⟨Loc.ok_keep a fun o=>x.ext.keep _ o,x.up _ b,d,f⟩
  vals:=fun i o d e=>by
    obtain ⟨L,a,b,r⟩:=R.vals i o d e
    refine ⟨L,a,Loc.has_keep b fun o=>x.ext.keep _ o,?_⟩
    have st:=x.step (T:=Touch loc σ c.vs) (T':=Touch loc σ c.vs) (fun b t=>.inl t)
    induction o using Own.casesOn with
    | sh=>exact Real.mono st x.ext.toks r
    | own=>exact ⟨OwnR.mono' st x.ext.toks r.1 (fun a o _=>x.ext.keep a o) (fun a _=>x.up a),r.2⟩
    | bor=>exact ⟨OwnR.mono' st x.ext.toks r.1 (fun a o _=>x.ext.keep a o) (fun a _=>x.up a),r.2⟩
  inj:=R.inj
  linj:=R.linj
  apart:=R.apart
theorem Rep.grows (R:Rep φ loc σ c) {s':Shared} {M':Addr→Prop} (x:Grow c.s c.M s' M'):Go φ loc σ c loc σ ⟨s',M',c.vs⟩:=
  ⟨R.grow x,x.step fun _ t=>.inl t,x.ext.toks,x.ext.gens,x.ext.os,fun b e=>x.ext.back e⟩
theorem Rep.ext (R:Rep φ loc σ c) {s':Shared} (x:Ext c.s s'):Go φ loc σ c loc σ ⟨s',c.M,c.vs⟩:=R.grows (.of R.stand x)
theorem SlotOK.root {o:Own} {d:D} {v:Value} (h:o≠.sh) (r:SlotOK φ c o d v):OwnR c.s.heap c.s.toks c.M v d:=by
  induction o using Own.casesOn with
  | sh=>exact absurd rfl h
  | own=>exact r.1
  | bor=>exact r.1
theorem Rep.freeze (R:Rep φ loc σ c) {i:Nat} {d:D} (e:σ.get i=some (.own,d)) :
    ∃ M',Go φ loc σ c loc (σ.put i (.sh,d)) ⟨c.s,M',c.vs⟩∧Real c.s.heap c.s.toks M' (c.vs i) d:=by
  obtain ⟨L,hL,hv,r,fr⟩:=R.vals i _ _ e
  obtain ⟨a,o,va,ma,ea⟩:=r.ref
  have li:=(R.locs i L hL).2.2.2
  have sub:∀ b,(c.M b∧b≠a)→c.M b:=fun b m=>m.1
  have hr:Real c.s.heap c.s.toks (fun b=>c.M b∧b≠a) (c.vs i) d:=r.real (fun b q m=>m.2 (by rw [va] at q; obtain rfl:=Value.ref.inj q; rfl)) sub
  have ta:Touch loc σ c.vs a:=.inr ⟨i,_,_,e,by decide,va⟩
  have touch:∀ b,Touch loc (σ.put i (.sh,d)) c.vs b→Touch loc σ c.vs b:=by
    rintro b (q | ⟨j,o',d',ej,oj,vj⟩)
    · exact .inl q
    · rw [St.get_put _ _ _ _ li] at ej
      split at ej
      · obtain ⟨rfl,rfl⟩:=some2 ej; exact absurd rfl oj
      · exact .inr ⟨j,o',d',ej,oj,vj⟩
  have st:Step c.s.heap c.M (Touch loc σ c.vs) c.s.heap (fun b=>c.M b∧b≠a) (Touch loc (σ.put i (.sh,d)) c.vs):=
    ⟨fun _ _ _ e=>e,fun b o m t e=>⟨e,m,fun q=>t (q ▸ ta)⟩,fun b m=>.inl m.1,fun b t=>.inl (touch b t)⟩
  refine ⟨fun b=>c.M b∧b≠a,⟨⟨R.fx,(St.len_put ..).trans R.len,R.top,fun b m=>⟨R.sup b m,fun q=>?_⟩,fun b m=>R.old b m.1,fun b m=>R.stand b m.1,R.pos,fun j L' e'=>?_,fun j o' d' e'=>?_,fun j k oj dj ok dk ej ek=>?_,R.linj,fun j o' d' b ej oj=>?_⟩,st,Nat.le_refl _,rfl,rfl,fun _ e=>e⟩,hr⟩
  · obtain ⟨o',e'⟩:=R.fx.stand b m
    rw [q,fr a va] at e'; exact nos e'
  · obtain ⟨x,y,z,u⟩:=R.locs j L' e'
    exact ⟨x,⟨y,R.apart i _ _ a e (by decide) va j L' e'⟩,z,by rw [St.len_put]; exact u⟩
  · rw [St.get_put _ _ _ _ li] at e'
    split at e'
    · rename_i q
      obtain ⟨rfl,rfl⟩:=some2 e'; subst q
      exact ⟨L,hL,hv,hr⟩
    · rename_i q
      obtain ⟨L',x,y,z⟩:=R.vals j _ _ e'
      refine ⟨L',x,y,?_⟩
      have ne:o'≠.sh→∀ b,c.vs j=.ref b→b≠a:=fun oj b vb ba=>q (R.inj j i _ _ _ _ e' e oj (by decide) (by rw [vb,va,ba]))
      induction o' using Own.casesOn with
      | sh=>exact Real.mono st (Nat.le_refl _) z
      | own=>exact ⟨OwnR.mono' st (Nat.le_refl _) z.1 (fun _ _ _ e=>e) (fun b vb m=>⟨m,ne (by decide) b vb⟩),z.2⟩
      | bor=>exact ⟨OwnR.mono' st (Nat.le_refl _) z.1 (fun _ _ _ e=>e) (fun b vb m=>⟨m,ne (by decide) b vb⟩),z.2⟩
  · intro oj' ok' vv
    rw [St.get_put _ _ _ _ li] at ej ek
    split at ej
    · obtain ⟨rfl,rfl⟩:=some2 ej; exact absurd rfl oj'
    · split at ek
      · obtain ⟨rfl,rfl⟩:=some2 ek; exact absurd rfl ok'
      · exact R.inj j k _ _ _ _ ej ek oj' ok' vv
  · intro vj
    rw [St.get_put _ _ _ _ li] at ej
    split at ej
    · obtain ⟨rfl,rfl⟩:=some2 ej; exact absurd rfl oj
    · exact R.apart j _ _ b ej oj vj
noncomputable def Pend (c₀:Cf) (loc:Locs) (σ:St) (c:Cf):Own→D→Value→Prop
  | .sh,d,v=>Real c.s.heap c.s.toks c.M v d
  | .own,d,v=>OwnR c.s.heap c.s.toks c.M v d∧∀ a,v=.ref a→c₀.s.heap.get? a=none∧¬ Touch loc σ c.vs a
  | .bor,_,_=>False
theorem OwnR.go (g:Go φ loc σ c loc' σ₁ c₁) {v:Value} {d:D} (r:OwnR c.s.heap c.s.toks c.M v d) (n:∀ a,v=.ref a→¬ Touch loc σ c.vs a) :
    OwnR c₁.s.heap c₁.s.toks c₁.M v d:=by
  obtain ⟨a,o,rfl,m,e⟩:=r.ref
  exact OwnR.mono' g.step g.toks r (fun b o q e=>by obtain rfl:=Value.ref.inj q; exact (g.step.pend a o m (n a rfl) e).1) fun b q m=>by obtain rfl:=Value.ref.inj q; exact (g.step.pend a o m (n a rfl) e).2
theorem Pend.go (g:Go φ loc σ c loc' σ₁ c₁) {o:Own} {d:D} {v:Value} (p:Pend c₀ loc σ c o d v):Pend c₀ loc' σ₁ c₁ o d v:=by
  induction o using Own.casesOn with
  | sh=>exact g.real p
  | own=>
    obtain ⟨r,n⟩:=p
    refine ⟨r.go g fun a q=>(n a q).2,fun a q=>⟨(n a q).1,fun t=>?_⟩⟩
    obtain ⟨a',o,q',m,e⟩:=r.ref
    rw [q] at q'; obtain rfl:=Value.ref.inj q'
    rcases g.step.touch a t with t | t
    · exact (n a q).2 t
    · rw [e] at t; exact nos t.symm
  | bor=>exact p
theorem Pend.back (g:Go φ loc₁ σ₁ c₁ loc₂ σ₂ c₂) {o:Own} {d:D} {v:Value} (p:Pend c₂ loc σ c o d v):Pend c₁ loc σ c o d v:=by
  induction o using Own.casesOn with
  | sh=>exact p
  | own=>exact ⟨p.1,fun a q=>⟨g.stay a (p.2 a q).1,(p.2 a q).2⟩⟩
  | bor=>exact p
theorem Pend.slot (R:Rep φ loc σ c) (g:Go φ loc₁ σ₁ c₁ loc₂ σ₂ c₂) (R₁:Rep φ loc₁ σ₁ c₁) {o:Own} {d:D} {v:Value} (p:Pend c₁ loc σ c o d v):SlotOK φ c o d v:=by
  induction o using Own.casesOn with
  | sh=>exact p
  | own=>exact ⟨p.1,fun a q=>R₁.fresh (p.2 a q).1⟩
  | bor=>exact p.elim
theorem Go.thaw (g:Go φ loc₁ σ₁ c₁ loc σ c) {o:Own} {d:D} {v:Value} (R₁:Rep φ loc₁ σ₁ c₁) (p:Pend c₁ loc σ c o d v) :
    ∃ M',Go φ loc₁ σ₁ c₁ loc σ ⟨c.s,M',c.vs⟩∧Real c.s.heap c.s.toks M' v d:=by
  induction o using Own.casesOn with
  | sh=>exact ⟨c.M,g,p⟩
  | bor=>exact p.elim
  | own=>
    obtain ⟨r,n⟩:=p
    obtain ⟨a,o,rfl,ma,ea⟩:=r.ref
    obtain ⟨fr,nt⟩:=n a rfl
    have hr:Real c.s.heap c.s.toks (fun b=>c.M b∧b≠a) (.ref a) d:=r.real (fun b q m=>m.2 (by obtain rfl:=Value.ref.inj q; rfl)) fun b m=>m.1
    refine ⟨fun b=>c.M b∧b≠a,?_,hr⟩
    have st:Step c.s.heap c.M (fun b=>b=a) c.s.heap (fun b=>c.M b∧b≠a) (fun b=>b=a):=⟨fun _ _ _ e=>e,fun b o m t e=>⟨e,m,t⟩,fun b m=>.inl m.1,fun b t=>.inl t⟩
    have R:=g.rep
    refine ⟨⟨R.fx,R.len,R.top,fun b m=>⟨R.sup b m,fun q=>?_⟩,fun b m=>R.old b m.1,fun b m=>R.stand b m.1,R.pos,fun j L' e'=>?_,fun j o' d' e'=>?_,R.inj,R.linj,R.apart⟩,
      ⟨g.step.keep,fun b o m t e=>?_,fun b m=>g.step.old b m.1,g.step.touch⟩,g.toks,g.gens,g.os,g.stay⟩
    · obtain ⟨o',e'⟩:=R.fx.stand b m
      rw [q,R₁.fresh fr] at e'; exact nos e'
    · obtain ⟨x,y,z,u⟩:=R.locs j L' e'
      exact ⟨x,⟨y,fun q=>nt (.inl ⟨j,L',e',q⟩)⟩,z,u⟩
    · obtain ⟨L',x,y,z⟩:=R.vals j _ _ e'
      refine ⟨L',x,y,?_⟩
      have ne:o'≠.sh→∀ b,c.vs j=.ref b→b≠a:=fun oj b vb ba=>nt (.inr ⟨j,o',d',e',oj,by rw [vb,ba]⟩)
      induction o' using Own.casesOn with
      | sh=>exact Real.mono st (Nat.le_refl _) z
      | own=>exact ⟨OwnR.mono' st (Nat.le_refl _) z.1 (fun _ _ _ e=>e) (fun b vb m=>⟨m,ne (by decide) b vb⟩),z.2⟩
      | bor=>exact ⟨OwnR.mono' st (Nat.le_refl _) z.1 (fun _ _ _ e=>e) (fun b vb m=>⟨m,ne (by decide) b vb⟩),z.2⟩
    · obtain ⟨e',m'⟩:=g.step.pend b o m t e
      exact ⟨e',m',fun q=>by rw [q,fr] at e; cases e⟩
structure At1 (a:Addr) (s s':Shared):Prop where
  keep:∀ b o,b≠a→s.heap.get? b=some o→s'.heap.get? b=some o
  self:∃ o,s'.heap.get? a=some o
  gens:s'.gens=s.gens
  os:s'.os=s.os
  toks:s.toks≤s'.toks
theorem At1.back {a:Addr} {s s':Shared} (x:At1 a s s') {b:Addr} (e:s'.heap.get? b=none):s.heap.get? b=none:=by
  by_cases q:b=a
  · obtain ⟨o,h⟩:=x.self; rw [q,h] at e; exact nos e.symm
  · cases h:s.heap.get? b with
    | none=>rfl
    | some o=>rw [x.keep b o q h] at e; exact nos e.symm
theorem Go.put (R₀:Rep φ loc σ₀ c₀) (g:Go φ loc σ₀ c₀ loc σ c) {j:Nat} {L:Loc} {o:Own} {d:D} {v:Value} {s':Shared} (hL:loc j=some L) (p:Pend c₀ loc σ c o d v) (x:At1 L.addr c.s s')
    (has:L.has s'.heap v) (others:∀ i L',loc i=some L'→i≠j→(∀ u,L'.has c.s.heap u→L'.has s'.heap u)∧L'.ok s'.heap) :
    Go φ loc σ₀ c₀ loc (σ.put j (o,d)) ⟨s',c.M,fun i=>if i=j then v else c.vs i⟩:=by
  have R:=g.rep
  obtain ⟨_,mL,nL,lj⟩:=R.locs j L hL
  have sl:=Pend.slot R g R₀ p
  have stT:∀ T:Addr→Prop,T L.addr→Step c.s.heap c.M T s'.heap c.M T:=fun T t=>⟨fun b o m e=>x.keep b o (fun q=>m (q ▸ mL)) e,fun b o m n e=>⟨x.keep b o (fun q=>n (q ▸ t)) e,m⟩,fun b m=>.inl m,fun b t=>.inl t⟩
  have st:=stT (Touch loc σ c.vs) (.inl ⟨j,L,hL,rfl⟩)
  have pv:o≠.sh→∃ a,v=.ref a∧c₀.s.heap.get? a=none∧¬ Touch loc σ c.vs a:=fun h=>by
    induction o using Own.casesOn with
    | sh=>exact absurd rfl h
    | bor=>exact p.elim
    | own=>obtain ⟨a,o,q,_,_⟩:=p.1.ref; exact ⟨a,q,(p.2 a q).1,(p.2 a q).2⟩
  have own:∀ {o':Own} {d':D} {u:Value},(o'≠.sh→∀ a,u=.ref a→a≠L.addr)→SlotOK φ c o' d' u→SlotOK φ ⟨s',c.M,fun i=>if i=j then v else c.vs i⟩ o' d' u:=by
    intro o' d' u h z
    induction o' using Own.casesOn with
    | sh=>exact Real.mono st x.toks z
    | own=>exact ⟨OwnR.mono' st x.toks z.1 (fun b o q e=>x.keep b o (h (by decide) b q) e) (fun _ _ m=>m),z.2⟩
    | bor=>exact ⟨OwnR.mono' st x.toks z.1 (fun b o q e=>x.keep b o (h (by decide) b q) e) (fun _ _ m=>m),z.2⟩
  refine ⟨⟨R.fx,(St.len_put ..).trans R.len,fun b o e n=>x.keep b o (fun q=>by rw [q,nL] at e; exact nos e) (R.top b o e n),R.sup,R.old,fun b m=>?_,Nat.lt_of_lt_of_le R.pos x.toks,fun i L' e=>?_,fun i o' d' e=>?_,
    fun i k oi di ok dk ei ek hi hk q=>?_,R.linj,fun i o' d' a ei oi q k L' eL=>?_⟩,?_,Nat.le_trans g.toks x.toks,x.gens.trans g.gens,x.os.trans g.os,fun b e=>g.stay b (x.back e)⟩
  · by_cases q:b=L.addr
    · rw [q]; exact x.self
    · obtain ⟨o,e⟩:=R.stand b m; exact ⟨o,x.keep b o q e⟩
  · obtain ⟨a,b,d,f⟩:=R.locs i L' e
    refine ⟨?_,b,d,by rw [St.len_put]; exact f⟩
    by_cases q:i=j
    · subst q; rw [hL] at e; obtain rfl:=some1 e; exact Loc.ok_of_has has
    · exact (others i L' e q).2
  · rw [St.get_put _ _ _ _ lj] at e
    dsimp only
    split at e
    · rename_i q
      obtain ⟨rfl,rfl⟩:=some2 e; subst q
      rw [if_pos rfl]
      refine ⟨L,hL,has,own (fun h a q q'=>?_) sl⟩
      obtain ⟨a',va,_,nt⟩:=pv h
      rw [q] at va; obtain rfl:=Value.ref.inj va
      exact nt (.inl ⟨i,L,hL,q'.symm⟩)
    · rename_i q
      rw [if_neg q]
      obtain ⟨L',x',y',z⟩:=R.vals i _ _ e
      refine ⟨L',x',(others i L' x' q).1 _ y',own (fun h a q' q''=>?_) z⟩
      exact R.apart i _ _ a e h q' j L hL q''.symm
  · rw [St.get_put _ _ _ _ lj] at ei ek
    dsimp only at q
    split at ei <;> split at ek
    · rename_i a b; rw [a,b]
    · rename_i a b
      obtain ⟨rfl,rfl⟩:=some2 ei
      rw [if_pos a,if_neg b] at q
      obtain ⟨a',va,_,nt⟩:=pv hi
      exact absurd (.inr ⟨k,_,_,ek,hk,by rw [← q,va]⟩) nt
    · rename_i a b
      obtain ⟨rfl,rfl⟩:=some2 ek
      rw [if_pos b,if_neg a] at q
      obtain ⟨a',va,_,nt⟩:=pv hk
      exact absurd (.inr ⟨i,_,_,ei,hi,by rw [q,va]⟩) nt
    · rename_i a b
      rw [if_neg a,if_neg b] at q
      exact R.inj i k _ _ _ _ ei ek hi hk q
  · rw [St.get_put _ _ _ _ lj] at ei
    dsimp only at q
    split at ei
    · rename_i h
      obtain ⟨rfl,rfl⟩:=some2 ei
      rw [if_pos h] at q
      obtain ⟨a',va,_,nt⟩:=pv oi
      rw [q] at va; obtain rfl:=Value.ref.inj va
      exact fun q'=>nt (.inl ⟨k,L',eL,q'⟩)
    · rename_i h
      rw [if_neg h] at q
      exact R.apart i _ _ a ei oi q k L' eL
  · have t1:∀ b,Touch loc (σ.put j (o,d)) (fun i=>if i=j then v else c.vs i) b→Touch loc σ c.vs b∨c₀.s.heap.get? b=none:=by
      rintro b (q | ⟨i,o',d',ei,oi,vi⟩)
      · exact .inl (.inl q)
      · rw [St.get_put _ _ _ _ lj] at ei
        dsimp only at vi
        split at ei
        · rename_i h
          obtain ⟨rfl,rfl⟩:=some2 ei
          rw [if_pos h] at vi
          obtain ⟨a',va,fr,_⟩:=pv oi
          rw [vi] at va; obtain rfl:=Value.ref.inj va
          exact .inr fr
        · rename_i h
          rw [if_neg h] at vi
          exact .inl (.inr ⟨i,o',d',ei,oi,vi⟩)
    have s2:=g.step.trans st
    exact ⟨s2.keep,s2.pend,s2.old,fun b t=>by
      rcases t1 b t with t | t
      · exact g.step.touch b t
      · exact .inr t⟩
theorem Rep.root (R:Rep φ loc σ c) {i:Nat} {o:Own} {d d':D} {a:Addr} {s':Shared} {M':Addr→Prop} (e:σ.get i=some (o,d)) (ho:o≠.sh) (va:c.vs i=.ref a) (x:At1 a c.s s')
    (up:∀ b,c.M b→M' b) (old:∀ b,M' b→c.M b∨c.s.heap.get? b=none) (S:Stand s'.heap M') (r:OwnR s'.heap s'.toks M' (.ref a) d') :
    Go φ loc σ c loc (σ.put i (o,d')) ⟨s',M',c.vs⟩:=by
  obtain ⟨L,hL,hv,z⟩:=R.vals i _ _ e
  have li:=(R.locs i L hL).2.2.2
  obtain ⟨a',o',va',ma,ea⟩:=(SlotOK.root ho z).ref
  rw [va] at va'; obtain rfl:=Value.ref.inj va'
  have tr:∀ b,Touch loc (σ.put i (o,d')) c.vs b→Touch loc σ c.vs b:=by
    rintro b (q | ⟨j,o',d',ej,oj,vj⟩)
    · exact .inl q
    · rw [St.get_put _ _ _ _ li] at ej
      split at ej
      · rename_i q; obtain ⟨rfl,rfl⟩:=some2 ej; exact .inr ⟨i,_,_,e,ho,q ▸ vj⟩
      · exact .inr ⟨j,_,_,ej,oj,vj⟩
  have st:Step c.s.heap c.M (Touch loc σ c.vs) s'.heap M' (Touch loc (σ.put i (o,d')) c.vs):=
    ⟨fun b o m e=>x.keep b o (fun q=>m (q ▸ ma)) e,fun b o' m t e'=>⟨x.keep b o' (fun q=>t (q ▸ .inr ⟨i,_,_,e,ho,va⟩)) e',up b m⟩,old,fun b t=>.inl (tr b t)⟩
  refine ⟨⟨R.fx,(St.len_put ..).trans R.len,fun b ob e' n=>?_,fun b m=>up b (R.sup b m),fun b m=>?_,S,Nat.lt_of_lt_of_le R.pos x.toks,fun j L' e'=>?_,fun j oj dj ej=>?_,fun j k oj dj ok dk ej ek hj hk q=>?_,R.linj,fun j oj dj b ej hj q k L' eL=>?_⟩,
    st,x.toks,x.gens,x.os,fun b e=>x.back e⟩
  · by_cases q:b=a
    · subst q
      induction o using Own.casesOn with
      | sh=>exact absurd rfl ho
      | own=>rw [z.2 b va] at e'; exact nos e'
      | bor=>exact absurd (z.2 b va) n
    · exact x.keep b ob q (R.top b ob e' n)
  · rcases old b m with q | q
    · exact R.old b q
    · exact .inr (R.fresh q)
  · obtain ⟨u1,u2,u3,u4⟩:=R.locs j L' e'
    exact ⟨Loc.ok_keep u1 fun o=>x.keep _ o (R.apart i _ _ a e ho va j L' e'),up _ u2,u3,by rw [St.len_put]; exact u4⟩
  · rw [St.get_put _ _ _ _ li] at ej
    split at ej
    · rename_i q
      obtain ⟨rfl,rfl⟩:=some2 ej; subst q
      refine ⟨L,hL,Loc.has_keep hv fun o=>x.keep _ o (R.apart j _ _ a e ho va j L hL),?_⟩
      induction o using Own.casesOn with
      | sh=>exact absurd rfl ho
      | own=>exact ⟨by rw [show (⟨s',M',c.vs⟩ : Cf).vs j=.ref a from va]; exact r,z.2⟩
      | bor=>exact ⟨by rw [show (⟨s',M',c.vs⟩ : Cf).vs j=.ref a from va]; exact r,z.2⟩
    · rename_i q
      obtain ⟨L',x',y',z'⟩:=R.vals j _ _ ej
      refine ⟨L',x',Loc.has_keep y' fun o=>x.keep _ o (R.apart i _ _ a e ho va j L' x'),?_⟩
      have ne:oj≠.sh→∀ b,c.vs j=.ref b→b≠a:=fun hj b vb ba=>q (R.inj j i _ _ _ _ ej e hj ho (by rw [vb,va,ba]))
      induction oj using Own.casesOn with
      | sh=>exact Real.mono st x.toks z'
      | own=>exact ⟨OwnR.mono' st x.toks z'.1 (fun b o q e=>x.keep b o (ne (by decide) b q) e) (fun b _ m=>up b m),z'.2⟩
      | bor=>exact ⟨OwnR.mono' st x.toks z'.1 (fun b o q e=>x.keep b o (ne (by decide) b q) e) (fun b _ m=>up b m),z'.2⟩
  · rw [St.get_put _ _ _ _ li] at ej ek
    split at ej <;> split at ek
    · rename_i p q; rw [p,q]
    · rename_i p h; obtain ⟨rfl,rfl⟩:=some2 ej; rw [p]; exact R.inj i k _ _ _ _ e ek hj hk (by rw [← p]; exact q)
    · rename_i p h; obtain ⟨rfl,rfl⟩:=some2 ek; rw [h]; exact R.inj j i _ _ _ _ ej e hj hk (by rw [← h]; exact q)
    · exact R.inj j k _ _ _ _ ej ek hj hk q
  · rw [St.get_put _ _ _ _ li] at ej
    split at ej
    · rename_i p; obtain ⟨rfl,rfl⟩:=some2 ej; exact R.apart i _ _ b e hj (by rw [← p]; exact q) k L' eL
    · exact R.apart j _ _ b ej hj q k L' eL
end
end Mine
end
section
open PySem PySem.W PyProof.Rows
set_option autoImplicit false
namespace Mine
structure Sx where
  vars:List (Str × Nat)
  names:List (Str × NameKind)
  top:Nat
  nv:Nat
noncomputable def isCF:Option NameKind→Bool
  | some .cell=>true
  | some .free=>true
  | _=>false
inductive Place (env:Env) (S:Sx) (x:Str):Loc→Prop
  | dct:S.names.lookup x=some .local→Place env S x (.dct env.locals x)
  | cel {c:Addr}:isCF (S.names.lookup x)=true→env.cells.lookup x=some c→Place env S x (.cel c)
structure EnvOK (φ:Fx) (S:Sx) (loc:Locs) (env:Env):Prop where
  kind:env.scope.kind=.function
  g:env.globals=mainGlobals
  b:env.builtins=builtinsNs
  names:∀ x k,S.names.lookup x=some k→env.kindOf x=some k∨(k=.free∧env.kindOf x=some .cell)
  vars:∀ x i,S.vars.lookup x=some i→∃ L,loc i=some L∧Place env S x L
  top:∀ i L,loc i=some L→i < S.top
  nv:φ.nv=S.nv
noncomputable def biL:List (Str × Value):=[("len",.builtin "len"),("range",.type "range"),("list",.type "list"),("min",.builtin "min"),("max",.builtin "max"),("sum",.builtin "sum"),
  ("sorted",.builtin "sorted"),("dict",.type "dict"),("zip",.type "zip"),("isinstance",.builtin "isinstance"),("bool",.type "bool"),("int",.type "int"),("enumerate",.type "enumerate")]
structure Gl (hT:Heap):Prop where
  nl:hT.NoLimit
  k:K hT
  glob:∃ mg mb,hT.Ns mainGlobals mg∧hT.Ns builtinsNs mb∧(∀ x d,G x=some d→∃ v,mg x=some v∧Real hT 0 (fun _=>False) v d)∧
    ∀ x v,biL.lookup x=some v→mg x=none∧mb x=some v
noncomputable def Room (n:Nat) (A:Around):Prop:=A.handled=none∧A.depth+n≤900∧A.units+12 * n≤9000
section
variable {φ:Fx} {loc:Locs} {σ σ₁:St} {c c₁ c₀:Cf} {A:Around} {E:Value→Shared→Prop} {S:Sx} {env:Env}
theorem EnvOK.local' (V:EnvOK φ S loc env) {x:Str} (h:S.names.lookup x=some .local):env.kindOf x=some .local:=by
  rcases V.names x _ h with q | ⟨q,_⟩
  · exact q
  · cases q
theorem EnvOK.global (V:EnvOK φ S loc env) {x:Str} (h:S.names.lookup x=some .globalImplicit):env.kindOf x=some .globalImplicit:=by
  rcases V.names x _ h with q | ⟨q,_⟩
  · exact q
  · cases q
theorem EnvOK.cf (V:EnvOK φ S loc env) {x:Str} (h:isCF (S.names.lookup x)=true):env.kindOf x=some .cell∨env.kindOf x=some .free:=by
  cases q:S.names.lookup x with
  | none=>rw [q] at h; exact absurd h Bool.false_ne_true
  | some k=>
    rw [q] at h
    cases k <;> try ((first | exact absurd h Bool.false_ne_true | cases h); done)
    · rcases V.names x _ q with q | ⟨q,_⟩
      · exact .inl q
      · cases q
    · rcases V.names x _ q with q | ⟨_,q⟩
      · exact .inr q
      · exact .inl q
theorem nsUniq {h:Heap} {a:Addr} {m m':Str→Option Value} (n:h.Ns a m) (n':h.Ns a m'):m=m':=by
  obtain ⟨o,es,ep,e,d,_,f⟩:=n
  obtain ⟨o',es',ep',e',d',_,f'⟩:=n'
  rw [e] at e'; obtain rfl:=some1 e'
  rw [d] at d'; cases d'
  funext x; rw [← f x,← f' x]
theorem load_ok (V:EnvOK φ S loc env) (R:Rep φ loc σ c) {x:Str} {i:Nat} {o:Own} {d:D} (hx:S.vars.lookup x=some i) (e:σ.get i=some (o,d)) (hd:(x == ("__classdict__" : Str))=false)
    {Q:Value→Shared→Prop} (hQ:Q (c.vs i) c.s):wpAny (model prog w) A (loadName env x) Q E c.s:=by
  obtain ⟨L,hL,pl⟩:=V.vars x i hx
  obtain ⟨L',hL',has,_⟩:=R.vals i _ _ e
  rw [hL] at hL'; obtain rfl:=some1 hL'
  induction pl using Place.casesOn with
  | dct h=>
    obtain ⟨m,n,e⟩:=has
    exact wpAny_loadName_local V.kind (V.local' h) n e hQ
  | cel h hc=>
    rcases V.cf h with q | q
    · exact wpAny_loadName_cell V.kind q hc has hQ
    · exact wpAny_loadName_free V.kind q hc has hQ hd
theorem store_ok (V:EnvOK φ S loc env) (R₀:Rep φ loc σ₁ c₀) (g:Go φ loc σ₁ c₀ loc σ c) {x:Str} {i:Nat} {o:Own} {d:D} {v:Value} (hx:S.vars.lookup x=some i) (hf:S.names.lookup x≠some .free) (p:Pend c₀ loc σ c o d v)
    {Q:Unit→Shared→Prop} (hQ:∀ c',Go φ loc σ₁ c₀ loc (σ.put i (o,d)) c'→c'.M=c.M→c'.vs=(fun j=>if j=i then v else c.vs j)→
      (∀ b o,¬ Touch loc σ c.vs b→c.s.heap.get? b=some o→c'.s.heap.get? b=some o)→c.s.toks≤c'.s.toks→Q () c'.s):wpAny (model prog w) A (storeName env x v) Q E c.s:=by
  obtain ⟨L,hL,pl⟩:=V.vars x i hx
  have R:=g.rep
  obtain ⟨ok,mL,nL,li⟩:=R.locs i L hL
  induction pl using Place.casesOn with
  | dct h=>
    obtain ⟨m,n⟩:=ok
    refine wpAny_storeName_local (V.local' h) n (fun h' hn hs=>?_) (by rw [V.kind]; rfl)
    have sh:∀ {b o},b≠env.locals→c.s.heap.get? b=some o→h'.get? b=some o:=fun hb e=>(hs.2 _ hb).trans e
    refine hQ ⟨{ c.s with heap:=h',toks:=c.s.toks+1 },c.M,fun j=>if j=i then v else c.vs j⟩ ?_ rfl rfl (fun b o nt e=>sh (fun q=>nt (.inl ⟨i,_,hL,q.symm⟩)) e) (Nat.le_succ _)
    refine Go.put R₀ g hL p ⟨fun b o hb e=>sh hb e,?_,rfl,rfl,Nat.le_succ _⟩ ⟨_,hn,if_pos rfl⟩ fun j L' hL' hj=>?_
    · obtain ⟨o,_,_,e,_⟩:=hn; exact ⟨o,e⟩
    · induction L' using Loc.casesOn with
      | dct a y=>
        by_cases ha:a=env.locals
        · subst ha
          have ne:y≠x:=fun q=>hj (R.linj j i _ hL' (by rw [hL,q]))
          refine ⟨fun u hu=>?_,⟨_,hn⟩⟩
          obtain ⟨m',n',e'⟩:=hu
          refine ⟨_,hn,?_⟩
          rw [if_neg ne,← e',nsUniq n n']
        · exact ⟨fun u hu=>Loc.has_keep hu fun o e=>sh ha e,Loc.ok_keep (R.locs j _ hL').1 fun o e=>sh ha e⟩
      | cel a=>
        have ha:a≠env.locals:=by
          rintro rfl
          obtain ⟨_,o,e,q⟩:=(R.locs j _ hL').1
          obtain ⟨o',_,_,e',q',_⟩:=n
          rw [e] at e'; obtain rfl:=some1 e'
          rw [q] at q'; cases q'
        exact ⟨fun u hu=>Loc.has_keep hu fun o e=>sh ha e,Loc.ok_keep (R.locs j _ hL').1 fun o e=>sh ha e⟩
  | @cel a h hc=>
    obtain ⟨v₀,n⟩:=ok
    have done:∀ h',h'.IsCell a (some v)→Heap.SameBut a c.s.heap h'→Q () { c.s with heap:=h' }:=fun h' hn hs=>by
      have sh:∀ {b o},b≠a→c.s.heap.get? b=some o→h'.get? b=some o:=fun hb e=>(hs.2 _ hb).trans e
      refine hQ ⟨{ c.s with heap:=h' },c.M,fun j=>if j=i then v else c.vs j⟩ ?_ rfl rfl (fun b o nt e=>sh (fun q=>nt (.inl ⟨i,_,hL,q.symm⟩)) e) (Nat.le_refl _)
      refine Go.put R₀ g hL p ⟨fun b o hb e=>sh hb e,?_,rfl,rfl,Nat.le_refl _⟩ hn fun j L' hL' hj=>?_
      · obtain ⟨o,e,_⟩:=hn; exact ⟨o,e⟩
      · have ha:L'.addr≠a:=by
          intro q
          induction L' using Loc.casesOn with
          | dct b y=>
            change b=a at q
            obtain ⟨_,o',_,_,e',q',_⟩:=(R.locs j _ hL').1
            obtain ⟨o,e,q2⟩:=n
            rw [q,e] at e'; obtain rfl:=some1 e'
            rw [q2] at q'; cases q'
          | cel b=>change b=a at q; exact hj (R.linj j i _ hL' (by rw [hL,q]))
        exact ⟨fun u hu=>Loc.has_keep hu fun o e=>sh ha e,Loc.ok_keep (R.locs j _ hL').1 fun o e=>sh ha e⟩
    refine wpAny_storeName_cell V.kind ?_ hc n done
    cases q:S.names.lookup x with
    | none=>rw [q] at h; exact absurd h Bool.false_ne_true
    | some k=>
      rw [q] at h hf
      cases k <;> try ((first | exact absurd h Bool.false_ne_true | cases h); done)
      · rcases V.names x _ q with q | ⟨q,_⟩
        · exact q
        · cases q
      · exact absurd rfl hf
end
end Mine
end
section
open PySem PySem.W PyProof.Rows
set_option autoImplicit false
namespace Mine
noncomputable def bn:Bi→Str
  | .len=> "len" | .range=> "range" | .list=> "list" | .min=> "min" | .max=> "max" | .sum=> "sum"
  | .sorted=> "sorted" | .dictzip=> "dict" | .isBool=> "isinstance" | .isInt=> "isinstance"
noncomputable def mn:Mt→Str
  | .lower=> "lower" | .upper=> "upper" | .split=> "split" | .join=> "join" | .index=> "index" | .get=> "get"
noncomputable def biOk:Bi→Bool
  | .range | .min | .max | .sum | .sorted=>true
  | _=>false
noncomputable def isLC:Option NameKind→Bool
  | some .cell=>true
  | some .local=>true
  | _=>false
noncomputable def nodup {α:Type} [DecidableEq α]:List α→Bool
  | []=>true
  | a :: l=>!l.contains a && nodup l
noncomputable def tgIds:List (Tg × E × List E)→List Nat
  | []=>[]
  | (.v i,_,_) :: r=>i :: tgIds r
  | (.t is,_,_) :: r=>is++tgIds r
theorem tg_n:tgIds []=[]:=rfl
theorem tg_v {i:Nat} {g:E × List E} {r:List (Tg × E × List E)}:tgIds ((.v i,g) :: r)=i :: tgIds r:=rfl
theorem tg_t {i:List Nat} {g:E × List E} {r:List (Tg × E × List E)}:tgIds ((.t i,g) :: r)=i++tgIds r:=rfl
noncomputable def isEnum:E→Bool
  | .enum _=>true
  | _=>false
noncomputable def enOk:List (Tg × E × List E)→Bool
  | []=>true
  | (.t _,_,_) :: r=>enOk r
  | (.v _,it,_) :: r=>!isEnum it && enOk r
theorem en_v {i:Nat} {it:E} {cs:List E} {r:List (Tg × E × List E)}:enOk ((.v i,it,cs) :: r)=(!isEnum it && enOk r):=rfl
noncomputable def ckComp (S S':Sx) (scope:Scope) (own:List (Str × Nat)) (del:List Nat):Bool:=
  (scope.kind == .function) && (S'.names == scope.names) && (S'.nv == S.nv) && decide (S.top≤S'.top) && decide (S'.top≤S.nv) &&
  own.all (fun p=>isLC (scope.names.lookup p.1) && decide (S.top≤p.2) && decide (p.2 < S'.top) && del.contains p.2) &&
  nodup (own.map (·.1)) && nodup (own.map (·.2)) && nodup (scope.names.map (·.1)) &&
  S'.vars.all (fun p=>own.contains p || ((scope.names.lookup p.1 == some .free) && (S.vars.lookup p.1 == some p.2) && isCF (S.names.lookup p.1))) &&
  scope.names.all (fun p=>!(p.2 == .free) || (isCF (S.names.lookup p.1) && (S.vars.lookup p.1).isSome)) &&
  scope.names.all (fun p=>!(p.2 == .local) || (p.1 == (".0" : Str)) || (own.map (·.1)).contains p.1)
noncomputable def plainIter (pe:Expr):Prop:=∀ env x,foldedSetIterable pe env x=pure x
noncomputable def bnOk (S:Sx) (x:Str):Bool:=(S.names.lookup x == some .globalImplicit) && !(x == ("__debug__" : Str))
noncomputable def nmOk (x:Str):Bool:=!(x == ("__debug__" : Str)) && !(x == ("__classdict__" : Str))
noncomputable def notComp:Expr→Bool
  | .ListComp .. | .SetComp .. | .DictComp ..=>false
  | _=>true
noncomputable def notSlice:Expr→Bool
  | .Slice ..=>false
  | _=>true
section
class inductive TrN:Sx→List Nat→List Expr→Prop
  | nil {S}:TrN S [] []
  | cons {S i x p is pes}:S.vars.lookup x=some i→isLC (S.names.lookup x)=true→TrN S is pes→TrN S (i :: is) (.Name x p :: pes)
inductive TrTg:Sx→Tg→Expr→Prop
  | v {S i x p}:S.vars.lookup x=some i→isLC (S.names.lookup x)=true→nmOk x=true→TrTg S (.v i) (.Name x p)
  | t {S is pes k p}:nodup is=true→TrN S is pes→TrTg S (.t is) (.Tuple pes k p)
section
variable (R:Sx→E→Expr→Prop)
class inductive TrL:Sx→List E→List Expr→Prop
  | nil {S}:TrL S [] []
  | cons {S e es pe pes}:R S e pe→TrL S es pes→TrL S (e :: es) (pe :: pes)
inductive TrO:Sx→Option E→Option Expr→Prop
  | none {S}:TrO S Option.none Option.none
  | some {S e pe}:R S e pe→TrO S (Option.some e) (Option.some pe)
mutual
inductive TrT:Sx→E→Expr→Prop
  | not {S e pe p}:TrT S e pe→TrT S (.not e) (.UnaryOp .Not pe p)
  | and {S es pes p}:TrTs S es pes→TrT S (.and es) (.BoolOp .And pes p)
  | or {S es pes p}:TrTs S es pes→TrT S (.or es) (.BoolOp .Or pes p)
  | cmp {S o l r po pl pr p}:po=cmpOf o→behindInMarks (cmpOf o) pr=false→R S l pl→R S r pr→TrT S (.cmp o l r) (.Compare pl [po] [pr] p)
  | val {S e pe}:(∀ env t,isTrue pe env t=(do let v ← t; standAt pe.pos; holding [v] (truthy v)))→R S e pe→TrT S e pe
inductive TrTs:Sx→List E→List Expr→Prop
  | nil {S}:TrTs S [] []
  | cons {S e es pe pes}:TrT S e pe→TrTs S es pes→TrTs S (e :: es) (pe :: pes)
end
inductive TrI:Sx→E→Expr→Prop
  | enum {S e x q pe p}:bnOk S "enumerate" = true→x=("enumerate" : Str)→R S e pe→TrI S (.enum e) (.Call (.Name x q) [pe] [] p)
  | plain {S e pe}:R S e pe→TrI S e pe
class inductive TrG:Sx→List (Tg × E × List E)→List Comprehension→Prop
  | nil {S}:TrG S [] []
  | cons {S tg it cs gs ptg pit pcs pgs}:plainIter pit→TrI R S it pit→TrTg S tg ptg→TrTs R S cs pcs→TrG S gs pgs→TrG S ((tg,it,cs) :: gs) (⟨ptg,pit,pcs,0⟩ :: pgs)
end
inductive TrE1 (R:Sx→E→Expr→Prop):Sx→E→Expr→Prop
  | none {S k p}:TrE1 R S (.lit .none) (.Constant .none k p)
  | bool {S b k p}:TrE1 R S (.lit (.bool b)) (.Constant (.bool b) k p)
  | int {S i k p}:TrE1 R S (.lit (.int i)) (.Constant (.int i) k p)
  | str {S s x k p}:x=mkS s→s.length≤line→TrE1 R S (.lit (.str s)) (.Constant (.str x) k p)
  | tlit {S s x k p}:x=mkS s→s.length≤line→TrE1 R S (.tlit s) (.Constant (.str x) k p)
  | var {S i x p}:S.vars.lookup x=some i→nmOk x=true→TrE1 R S (.var i) (.Name x p)
  | glob {S d x p}:bnOk S x=true→G x=some d→TrE1 R S (.glob d) (.Name x p)
  | bin {S o l r po pl pr p}:po=opOf o→R S l pl→R S r pr→TrE1 R S (.bin o l r) (.BinOp pl po pr p)
  | neg {S e pe p}:R S e pe→TrE1 R S (.neg e) (.UnaryOp .USub pe p)
  | orv {S l r pl pr p}:R S l pl→R S r pr→TrE1 R S (.orv l r) (.BoolOp .Or [pl,pr] p)
  | ite {S t b o pt pb po p}:TrT R S t pt→R S b pb→R S o po→TrE1 R S (.ite t b o) (.IfExp pt pb po p)
  | cmp {S o l r po pl pr p}:po=cmpOf o→behindInMarks (cmpOf o) pr=false→R S l pl→R S r pr→TrE1 R S (.cmp o l r) (.Compare pl [po] [pr] p)
  | list {S es pes p}:TrL R S es pes→TrE1 R S (.list es) (.List pes p)
  | tup {S es pes k p}:TrL R S es pes→TrE1 R S (.tup es) (.Tuple pes k p)
  | edict {S p}:TrE1 R S .edict (.Dict [] [] p)
  | call {S f a as x q pargs p} {io:Bool}:R S f (.Name x q)→TrL R S (a :: as) pargs→decide (pargs.length≤30)=true→TrE1 R S (.call f (a :: as) io) (.Call (.Name x q) pargs [] p)
  | len {S e x q pe p}:bnOk S "len" = true→x=("len" : Str)→R S e pe→TrE1 R S (.bi .len [e]) (.Call (.Name x q) [pe] [] p)
  | bi {S b a as x q pargs p}:biOk b=true→bnOk S (bn b)=true→x=bn b→TrL R S (a :: as) pargs→TrE1 R S (.bi b (a :: as)) (.Call (.Name x q) pargs [] p)
  | blist {S e x q pe p}:bnOk S "list" = true→x=("list" : Str)→R S e pe→TrE1 R S (.bi .list [e]) (.Call (.Name x q) [pe] [] p)
  | isB {S e x y q r pe p}:bnOk S "isinstance" = true→bnOk S "bool" = true→x=("isinstance" : Str)→y=("bool" : Str)→R S e pe→TrE1 R S (.bi .isBool [e]) (.Call (.Name x q) [pe,.Name y r] [] p)
  | isI {S e x y q r pe p}:bnOk S "isinstance" = true→bnOk S "int" = true→x=("isinstance" : Str)→y=("int" : Str)→R S e pe→TrE1 R S (.bi .isInt [e]) (.Call (.Name x q) [pe,.Name y r] [] p)
  | dictzip {S a b x y q r pa pb p p'}:bnOk S "dict" = true→bnOk S "zip" = true→x=("dict" : Str)→y=("zip" : Str)→R S a pa→R S b pb→
      TrE1 R S (.bi .dictzip [a,b]) (.Call (.Name x q) [.Call (.Name y r) [pa,pb] [] p'] [] p)
  | meth {S m o args n po ap pargs p}:n=mn m→(∀ env t,attributeBase po (mn m) env t=t)→(ap.endLine == p.line)=true→decide (pargs.length < 30)=true→R S o po→TrL R S args pargs→
      TrE1 R S (.meth m o args) (.Call (.Attribute po n ap) pargs [] p)
  | repl {S o old w x n po pold k q ap p}:n=("replace" : Str)→(∀ env t,attributeBase po ("replace" : Str) env t=t)→(ap.endLine == p.line)=true→x=mkS w→decide (w.length≤line)=true→R S o po→R S old pold→
      TrE1 R S (.repl o old w) (.Call (.Attribute po n ap) [pold,.Constant (.str x) k q] [] p)
  | idx {S o i po pi p}:notSlice pi=true→R S o po→R S i pi→TrE1 R S (.idx o i) (.Subscript po pi p)
  | idxT {S o i po pi p}:notSlice pi=true→R S o po→R S i pi→TrE1 R S (.idxT o i) (.Subscript po pi p)
  | slc {S o l u po pl pu q p}:R S o po→TrO R S l pl→TrO R S u pu→TrE1 R S (.slc o l u false) (.Subscript po (.Slice pl pu Option.none q) p)
  | slcR {S o po k r t q p}:R S o po→TrE1 R S (.slc o Option.none Option.none true) (.Subscript po (.Slice Option.none Option.none (some (.UnaryOp .USub (.Constant (.int 1) k r) t)) q) p)
  | comp {S S' own elt tg it cs gs pelt ptg pit pcs pgs scope p}:ckComp S S' scope own (tgIds ((tg,it,cs) :: gs))=true→enOk ((tg,it,cs) :: gs)=true→plainIter pit→TrI R S it pit→TrTg S' tg ptg→TrTs R S' cs pcs→TrG R S' gs pgs→R S' elt pelt→
      TrE1 R S (.comp elt ((tg,it,cs) :: gs)) (.ListComp pelt (⟨ptg,pit,pcs,0⟩ :: pgs) scope p)
  | dcomp {S S' own k v tg it pk pv ptg pit scope p}:ckComp S S' scope own (tgIds [(tg,it,[])])=true→enOk [(tg,it,[])]=true→plainIter pit→TrI R S it pit→TrTg S' tg ptg→R S' k pk→R S' v pv→
      TrE1 R S (.dcomp k v (tg,it)) (.DictComp pk pv [⟨ptg,pit,[],0⟩] scope p)
noncomputable def TrE:Nat→Sx→E→Expr→Prop
  | 0=>fun _ _ _=>False
  | n+1=>TrE1 (TrE n)
end
section
variable (R:Sx→E→Expr→Prop)
noncomputable def TrLInv (S:Sx) (pes:List Expr):List E→Prop
  | []=>pes=[]
  | e :: es=>∃ pe r,pes=pe :: r∧R S e pe∧TrL R S es r
noncomputable def TrTsInv (S:Sx) (pes:List Expr):List E→Prop
  | []=>pes=[]
  | e :: es=>∃ pe r,pes=pe :: r∧TrT R S e pe∧TrTs R S es r
noncomputable def TrGInv (S:Sx) (pgs:List Comprehension):List (Tg × E × List E)→Prop
  | []=>pgs=[]
  | g :: gs=>∃ ptg pit pcs r,pgs=⟨ptg,pit,pcs,0⟩ :: r∧plainIter pit∧TrI R S g.2.1 pit∧TrTg S g.1 ptg∧TrTs R S g.2.2 pcs∧TrG R S gs r
class inductive TrW:Sx→Nat→List E→List Expr→Prop
  | nil {S i}:TrW S i [] []
  | cons {S i e x q pe p es pes}:S.vars.lookup x=some i→nmOk x=true→notSlice pe=true→R S e pe→TrW S i es pes→TrW S i (e :: es) (.Subscript (.Name x q) pe p :: pes)
class inductive TrSs (RS:Sx→S→Stmt→Prop):Sx→List S→List Stmt→Prop
  | nil {S}:TrSs RS S [] []
  | cons {S s ss ps pss}:RS S s ps→TrSs RS S ss pss→TrSs RS S (s :: ss) (ps :: pss)
inductive TrS1 (R:Sx→E→Expr→Prop) (RS:Sx→S→Stmt→Prop):Sx→S→Stmt→Prop
  | app {S i e x q n ap pe cp p}:S.vars.lookup x=some i→nmOk x=true→n=("append" : Str)→(ap.endLine == cp.line)=true→R S e pe→
      TrS1 R RS S (.app i e) (.Expr (.Call (.Attribute (.Name x q) n ap) [pe] [] cp) p)
  | ext {S i e x q n ap pe cp p}:S.vars.lookup x=some i→nmOk x=true→n=("extend" : Str)→(ap.endLine == cp.line)=true→R S e pe→
      TrS1 R RS S (.ext i e) (.Expr (.Call (.Attribute (.Name x q) n ap) [pe] [] cp) p)
  | asg {S i e x q pe p}:S.vars.lookup x=some i→isLC (S.names.lookup x)=true→nmOk x=true→notComp pe=true→R S e pe→TrS1 R RS S (.asg i e) (.Assign [.Name x q] pe p)
  | asgC {S i elt gs x q pelt pgs scope r p}:S.vars.lookup x=some i→isLC (S.names.lookup x)=true→nmOk x=true→R S (.comp elt gs) (.ListComp pelt pgs scope r)→
      TrS1 R RS S (.asg i (.comp elt gs)) (.Assign [.Name x q] (.ListComp pelt pgs scope r) p)
  | asg2 {S i j e x y q r pe p}:S.vars.lookup x=some i→isLC (S.names.lookup x)=true→S.vars.lookup y=some j→isLC (S.names.lookup y)=true→nmOk x=true→nmOk y=true→R S e pe→
      TrS1 R RS S (.asg2 i j e) (.Assign [.Name x q,.Name y r] pe p)
  | unpk {S is e pes k q pe p}:(∀ env,swappedStores [.Tuple pes k q] pe env=pure none)→nodup is=true→TrN S is pes→R S e pe→TrS1 R RS S (.unpk is e) (.Assign [.Tuple pes k q] pe p)
  | tupl {S is es pes pvs k q k' q' p}:nodup is=true→decide (is.length≤3)=true→TrN S is pes→TrL R S es pvs→(pvs.all (foldedForSure 8)=true∨pvs.all (constantsAlone 8)=false)→
      TrS1 R RS S (.tupl is es) (.Assign [.Tuple pes k q] (.Tuple pvs k' q') p)
  | swp {S i is es pts pvs k q k' q' p}:decide (is.length≤3)=true→TrW R S i is pts→TrL R S es pvs→TrS1 R RS S (.swp i is es) (.Assign [.Tuple pts k q] (.Tuple pvs k' q') p)
  | put {S i ie e x q pi r pe p}:S.vars.lookup x=some i→nmOk x=true→notSlice pi=true→notComp pe=true→R S ie pi→R S e pe→TrS1 R RS S (.put i ie e) (.Assign [.Subscript (.Name x q) pi r] pe p)
  | aug {S o i e x q po pe p}:po=opOf o→(o=.add∨o=.sub∨o=.mul)→S.vars.lookup x=some i→isLC (S.names.lookup x)=true→nmOk x=true→R S e pe→TrS1 R RS S (.aug o i e) (.AugAssign (.Name x q) po pe p)
  | augput {S o i ie e x q pi r po pe p}:po=opOf o→(o=.add∨o=.sub∨o=.mul)→S.vars.lookup x=some i→nmOk x=true→notSlice pi=true→R S ie pi→R S e pe→
      TrS1 R RS S (.augput o i ie e) (.AugAssign (.Subscript (.Name x q) pi r) po pe p)
  | ite {S t b o pt pb po p}:TrT R S t pt→TrSs RS S b pb→TrSs RS S o po→TrS1 R RS S (.ite t b o) (.If pt pb po p)
  | whl {S t b pt pb p}:TrT R S t pt→TrSs RS S b pb→TrS1 R RS S (.whl t b) (.While pt pb [] p)
  | for {S tg it b ptg pit pb p}:enOk [(tg,it,[])]=true→plainIter pit→TrI R S it pit→TrTg S tg ptg→TrSs RS S b pb→TrS1 R RS S (.for tg it b) (.For ptg pit pb [] p)
  | ret {S e pe p}:R S e pe→TrS1 R RS S (.ret e) (.Return (some pe) p)
  | tryb {S b pb h hs p}:TrSs RS S b pb→TrS1 R RS S (.tryb b) (.Try pb (h :: hs) [] [] p)
end
section
noncomputable def TrS:Nat→Sx→Mine.S→Stmt→Prop
  | 0=>fun _ _ _=>False
  | n+1=>TrS1 (TrE n) (TrS n)
end
theorem TrE.out {l:Nat} {S:Sx} {e:E} {pe:Expr} (t:TrE l S e pe):∃ l,TrE1 (TrE l) S e pe:=by
  induction l using Nat.casesAuxOn with | zero=>exact t.elim | succ l=>exact ⟨l,t⟩
theorem TrS.out {l:Nat} {S:Sx} {e:Mine.S} {pe:Stmt} (t:TrS l S e pe):∃ l,TrS1 (TrE l) (TrS l) S e pe:=by
  induction l using Nat.casesAuxOn with | zero=>exact t.elim | succ l=>exact ⟨l,t⟩
noncomputable def TrWInv (R:Sx→E→Expr→Prop) (S:Sx) (i:Nat) (pes:List Expr):List E→Prop
  | []=>pes=[]
  | e :: es=>∃ x q p pe r,pes=.Subscript (.Name x q) pe p :: r∧S.vars.lookup x=some i∧nmOk x=true∧notSlice pe=true∧R S e pe∧TrW R S i es r
theorem TrW.inv {R:Sx→E→Expr→Prop} {S:Sx} {i:Nat} {es:List E} {pes:List Expr} (t:TrW R S i es pes):TrWInv R S i pes es:=by
  induction t using TrW.casesOn with | nil=>exact rfl | cons a b c d e=>exact ⟨_,_,_,_,_,rfl,a,b,c,d,e⟩
theorem TrL.inv {R:Sx→E→Expr→Prop} {S:Sx} {es:List E} {pes:List Expr} (t:TrL R S es pes):TrLInv R S pes es:=by
  induction t using TrL.casesOn with | nil=>exact rfl | cons a b=>exact ⟨_,_,rfl,a,b⟩
theorem TrG.inv {R:Sx→E→Expr→Prop} {S:Sx} {gs:List (Tg × E × List E)} {pgs:List Comprehension} (t:TrG R S gs pgs):TrGInv R S pgs gs:=by
  induction t using TrG.casesOn with | nil=>exact rfl | cons a b c d e=>exact ⟨_,_,_,_,rfl,a,b,c,d,e⟩
noncomputable def TrVarInv (S:Sx) (pe:Expr):E→Prop
  | .var i=>∃ x p,pe=.Name x p∧S.vars.lookup x=some i∧nmOk x=true
  | _=>True
theorem TrE.var_inv {S:Sx} {l:Nat} {i:Nat} {pe:Expr} (t:TrE l S (.var i) pe):∃ x p,pe=.Name x p∧S.vars.lookup x=some i∧nmOk x=true:=by
  obtain ⟨l,t⟩:=t.out
  suffices h:∀ e,TrE1 (TrE l) S e pe→TrVarInv S pe e from h _ t
  intro e t
  induction t using TrE1.casesOn with
  | var h1 h2=>exact ⟨_,_,rfl,h1,h2⟩
  | _=>exact trivial
theorem TrTs.inv {R:Sx→E→Expr→Prop} {S:Sx} {es:List E} {pes:List Expr} (t:TrTs R S es pes):TrTsInv R S pes es:=by
  induction t using TrTs.casesOn with | nil=>exact rfl | cons a b=>exact ⟨_,_,rfl,a,b⟩
noncomputable def TrSsInv (RS:Sx→Mine.S→Stmt→Prop) (S:Sx) (pes:List Stmt):List Mine.S→Prop
  | []=>pes=[]
  | e :: es=>∃ pe r,pes=pe :: r∧RS S e pe∧TrSs RS S es r
theorem TrSs.inv {RS:Sx→Mine.S→Stmt→Prop} {S:Sx} {es:List Mine.S} {pes:List Stmt} (t:TrSs RS S es pes):TrSsInv RS S pes es:=by
  induction t using TrSs.casesOn with | nil=>exact rfl | cons a b=>exact ⟨_,_,rfl,a,b⟩
end Mine
end
section
open PySem PySem.W PyProof.Rows
set_option autoImplicit false
namespace Mine
noncomputable def Seen (h:Heap) (k:Tok) (M:Addr→Prop) (v:Value) (d:D):Prop:=Real h k M v d∨OwnR h k M v d
section
variable {A:Around} {E:Value→Shared→Prop} {s:Shared} {k:Tok} {M:Addr→Prop}
theorem Real.less {h:Heap} {M':Addr→Prop} {v:Value} {d:D} (r:Real h k M v d) (sub:∀ b,M' b→M b):Real h k M' v d:=
  r.mono (show Step h M (fun _=>True) h M' (fun _=>True) from ⟨fun _ _ _ e=>e,fun _ _ _ f _=>absurd trivial f,fun b m=>.inl (sub b m),fun _ t=>.inl t⟩) (Nat.le_refl _)
theorem RealL.less {h:Heap} {M':Addr→Prop} {v:List Value} {d:List D} (r:RealL h k M v d) (sub:∀ b,M' b→M b):RealL h k M' v d:=
  r.mono (show Step h M (fun _=>True) h M' (fun _=>True) from ⟨fun _ _ _ e=>e,fun _ _ _ f _=>absurd trivial f,fun b m=>.inl (sub b m),fun _ t=>.inl t⟩) (Nat.le_refl _)
theorem Seen.bare {h:Heap} {v:Value} {d:D} (x:Seen h k M v d):∃ M',(∀ b,M' b→M b)∧Real h k M' v d:=by
  rcases x with x | x
  · exact ⟨M,fun _ m=>m,x⟩
  · obtain ⟨a,o,rfl,m,e⟩:=x.ref
    exact ⟨fun b=>M b∧b≠a,fun b m=>m.1,x.real (fun b q m=>m.2 (by obtain rfl:=Value.ref.inj q; rfl)) fun b m=>m.1⟩
theorem seen_idx {o i d:D} {x y:Value} (hx:Seen s.heap s.toks M x o) (hy:Real s.heap s.toks M y i) (e:idxD o i=some d)
    {Q:Value→Shared→Prop} (hQ:∀ v s',Ext s s'→Real s'.heap s'.toks M v d→Q v s'):wpAny (model prog w) A (getItem x y) Q E s:=by
  rcases hx with hx | hx
  · exact idx_ok hx hy e hQ
  · induction hx using OwnR.casesOn with
    | list hm hl hr hz=>induction i using D.casesOn with
      | int k=>
        obtain ⟨t,rfl⟩:=hy.inv
        obtain ⟨hs,e⟩:=iteN e
        rw [sml_iff] at hs
        rcases nth_cases e with ⟨h0,h1⟩ | ⟨h0,h1,h2⟩
        · obtain ⟨v,q,r⟩:=hr.get h1
          exact wpAny_getItem_list hl.isList h0 hs.2 (by simpa using q) (hQ _ _ (Ext.refl _) r)
        · obtain ⟨v,q,r⟩:=hr.get h2
          rw [← hr.len] at h1 q
          exact wpAny_getItem_list_neg hl.isList h0 (by simpa using h1) (by lia) (by simpa using q) (hQ _ _ (Ext.refl _) r)
      | _=>exact nos e
    | idict hm hn hl hr=>induction i using D.casesOn with
      | int k=>
        obtain ⟨t,rfl⟩:=hy.inv
        have q:=hr.look (j₀:=k)
        rw [show getKey _ k=some d from e] at q
        obtain ⟨v,q1,q2⟩:=q
        exact wpAny_getItem_of (intKind_is prog w k t) hl.mapOf q1 (hQ _ _ (Ext.tk1 s) (q2.ext (Ext.tk1 s)))
      | _=>exact nos e
theorem lenD_inv {o d:D} (e:lenD o=some d):∃ i,d=.int i:=by
  induction o using D.casesOn with
  | str s=>exact ⟨_,(Option.some.inj e).symm⟩
  | list s=>exact ⟨_,(Option.some.inj e).symm⟩
  | _=>exact nos e
theorem indexL_inv {xs:List D} {a d:D} (e:indexL xs a=some d):∃ i,d=.int i:=by
  induction a using D.casesOn with
  | int a=>
    obtain ⟨l,_,e⟩:=Option.bind_eq_some_iff.mp e
    obtain ⟨k,_,rfl⟩:=Option.map_eq_some_iff.mp e
    exact ⟨_,rfl⟩
  | list a=>
    obtain ⟨l,_,e⟩:=Option.bind_eq_some_iff.mp e
    obtain ⟨x,_,e⟩:=Option.bind_eq_some_iff.mp e
    obtain ⟨k,_,rfl⟩:=Option.map_eq_some_iff.mp e
    exact ⟨_,rfl⟩
  | _=>exact nos e
theorem meth_kind {m:Mt} {o d:D} {ds:List D} (e:methD m o ds=some d):(m=.get∧∃ es,o=.sdict es)∨(∃ s,o=.str s)∨(m=.index∧∃ xs,o=.list xs∧∃ i,d=.int i):=by
  induction m using Mt.casesOn with
  | index=>
    obtain ⟨a,rfl,e⟩:=one_inv e
    induction o using D.casesOn with
    | str s=>exact .inr (.inl ⟨s,rfl⟩)
    | list xs=>exact .inr (.inr ⟨rfl,xs,rfl,indexL_inv e⟩)
    | _=>exact nos e
  | get=>
    obtain ⟨a,b,rfl,e⟩:=two_inv e
    induction o using D.casesOn with
    | sdict es=>exact .inl ⟨rfl,es,rfl⟩
    | _=>exact nos e
  | lower=>obtain ⟨s,rfl,_⟩:=onStr_inv e; exact .inr (.inl ⟨s,rfl⟩)
  | upper=>obtain ⟨s,rfl,_⟩:=onStr_inv e; exact .inr (.inl ⟨s,rfl⟩)
  | split=>obtain ⟨s,rfl,_⟩:=onStr_inv e; exact .inr (.inl ⟨s,rfl⟩)
  | join=>obtain ⟨s,rfl,_⟩:=onStr_inv e; exact .inr (.inl ⟨s,rfl⟩)
theorem seen_len {o d:D} {x:Value} (S:Stand s.heap M) (hh:A.handled=none) (hx:Seen s.heap s.toks M x o) (e:biD .len [o]=some d)
    {Q:Value→Shared→Prop} (hQ:∀ v s',Ext s s'→Real s'.heap s'.toks M v d→Q v s'):wpAny (model prog w) A (call (.builtin "len") [x]) Q E s:=by
  obtain ⟨M',sub,r⟩:=hx.bare
  refine bi_ok (b:=.len) (vs:=[x]) (ds:=[o]) (fun b m=>S b (sub b m)) hh (.cons r .nil) e (.inl rfl) fun v s' x r'=>hQ v s' x ?_
  have hd:=lenD_inv e
  obtain ⟨i,rfl⟩:=hd
  obtain ⟨t,rfl⟩:=r'.inv; exact .int _ _
theorem seen_cmp {o:Cmp} {a b:D} {c:Bool} {x y:Value} (hx:Real s.heap s.toks M x a) (hy:Seen s.heap s.toks M y b) (hu:A.units+2 < cLine) (e:cmpD o a b=some c)
    {Q:Value→Shared→Prop} (hQ:∀ s',Ext s s'→Q (.bool c) s'):wpAny (model prog w) A (compareOp (cmpOf o) x y) Q E s:=by
  obtain ⟨M',sub,r⟩:=hy.bare
  exact cmp_ok (hx.less sub) r hu e hQ
theorem seen_meth {m:Mt} {o d:D} {x:Value} {vs:List Value} {ds:List D} (S:Stand s.heap M) (hx:Seen s.heap s.toks M x o) (hv:RealL s.heap s.toks M vs ds) (hu:A.units+3 < cLine) (e:methD m o ds=some d)
    {Q:Value→Shared→Prop} (hQ:∀ v s',Ext s s'→Real s'.heap s'.toks M v d→Q v s'):wpAny (model prog w) A (call (.builtin (mtId o m)) (x :: vs)) Q E s:=by
  rcases hx with hx | hx
  · exact meth_ok S hx hv hu e hQ
  · obtain ⟨M',sub,r⟩:=Seen.bare (.inr hx)
    refine meth_ok (fun b m=>S b (sub b m)) r (hv.less sub) hu e fun v s' x r'=>hQ v s' x ?_
    have hd:∃ i,d=.int i:=by
      rcases meth_kind e with ⟨_,es,rfl⟩ | ⟨s',rfl⟩ | ⟨_,xs,rfl,h⟩
      · exact (OwnR.inv hx).elim
      · exact (OwnR.inv hx).elim
      · exact h
    obtain ⟨i,rfl⟩:=hd
    obtain ⟨t,rfl⟩:=r'.inv; exact .int _ _
end
end Mine
end
section
set_option autoImplicit false
namespace Mine
section
variable {F:Funs} {σ σ₁:St} {P:List (Nat × FnDef)} {n:Nat}
@[simp] theorem ev_s:(Ev P (n+1)).ev=stepEv (Ev P n):=rfl
@[simp] theorem evO_s:(Ev P (n+1)).evO=stepO (Ev P n):=rfl
@[simp] theorem evT_s:(Ev P (n+1)).evT=stepT (Ev P n):=rfl
@[simp] theorem ex_s:(Ev P (n+1)).ex=stepX (Ev P n):=rfl
theorem call_s:(Ev P (n+1)).call=stepC (Ev P n) P:=rfl
theorem get_put (σ:St) (i j:Nat) (s:Slot) (h:i < σ.length):(σ.put i s).get j=if j=i then some s else σ.get j:=by
  delta St.get St.put
  by_cases e:j=i
  · subst e; rw [if_pos rfl,List.getElem?_set_self h]; rfl
  · rw [if_neg e,List.getElem?_set_ne (Ne.symm e)]
@[simp] theorem len_put (σ:St) (i:Nat) (s:Slot):(σ.put i s).length=σ.length:=List.length_set
@[simp] theorem put_put (σ:St) (i:Nat) (s t:Slot):(σ.put i s).put i t=σ.put i t:=List.set_set ..
@[simp] theorem get_nil (i:Nat):St.get [] i=none:=rfl
@[simp] theorem get_zero (x:Option Slot) (r:St):St.get (x :: r) 0=x:=rfl
@[simp] theorem get_succ (x:Option Slot) (r:St) (i:Nat):St.get (x :: r) (i+1)=St.get r i:=rfl
@[simp] theorem put_zero (x:Option Slot) (r:St) (s:Slot):St.put (x :: r) 0 s=some s :: r:=rfl
@[simp] theorem put_succ (x:Option Slot) (r:St) (i:Nat) (s:Slot):St.put (x :: r) (i+1) s=x :: St.put r i s:=rfl
@[simp] theorem del_zero (x:Option Slot) (r:St):St.del (x :: r) 0=none :: r:=rfl
@[simp] theorem del_succ (x:Option Slot) (r:St) (i:Nat):St.del (x :: r) (i+1)=x :: St.del r i:=rfl
@[simp] theorem x_lit {d:D}:stepEv F (.lit d) σ=some (d,σ):=rfl
@[simp] theorem x_tlit {s:List Nat}:stepEv F (.tlit s) σ=some (.tstr s,σ):=rfl
@[simp] theorem x_glob {d:D}:stepEv F (.glob d) σ=some (d,σ):=rfl
@[simp] theorem x_var {i:Nat}:stepEv F (.var i) σ=rdVar σ i (σ.get i):=rfl
@[simp] theorem rd_sh {i:Nat} {d:D}:rdVar σ i (some (.sh,d))=some (d,σ):=rfl
@[simp] theorem rd_own {i:Nat} {d:D}:rdVar σ i (some (.own,d))=some (d,σ.put i (.sh,d)):=rfl
@[simp] theorem x_bin {o:Op} {l r:E}:stepEv F (.bin o l r) σ=(F.ev l σ).bind fun p=>(F.ev r p.2).bind fun q=>(binD o p.1 q.1).map fun d=>(d,q.2):=rfl
@[simp] theorem x_neg {e:E}:stepEv F (.neg e) σ=(F.ev e σ).bind fun p=>(negD p.1).map fun d=>(d,p.2):=rfl
@[simp] theorem x_orv {l r:E}:stepEv F (.orv l r) σ=(F.ev l σ).bind fun p=>(truD p.1).bind fun t=>if t=true then some p else F.ev r p.2:=rfl
@[simp] theorem x_ite {t b o:E}:stepEv F (.ite t b o) σ=(F.evT t σ).bind fun p=>if p.1=true then F.ev b p.2 else F.ev o p.2:=rfl
@[simp] theorem x_cmp {o:Cmp} {l r:E}:stepEv F (.cmp o l r) σ=(F.ev l σ).bind fun p=>(if isEq o=true then peek F r p.2 else F.ev r p.2).bind fun q=>(cmpD o p.1 q.1).map fun c=>(.bool c,q.2):=rfl
@[simp] theorem x_tup {es:List E}:stepEv F (.tup es) σ=(evs F es σ).bind fun p=>if p.1.length≤line then some (.tup p.1,p.2) else none:=rfl
@[simp] theorem x_list {es:List E}:stepEv F (.list es) σ=noO (F.evO (.list es) σ):=rfl
@[simp] theorem x_edict:stepEv F .edict σ=noO (F.evO .edict σ):=rfl
@[simp] theorem x_comp {e:E} {gs:List (Tg × E × List E)}:stepEv F (.comp e gs) σ=noO (F.evO (.comp e gs) σ):=rfl
@[simp] theorem x_blist {es:List E}:stepEv F (.bi .list es) σ=noO (F.evO (.bi .list es) σ):=rfl
@[simp] theorem noO_some {o:Own} {d:D}:noO (some (o,d,σ))=some (d,σ):=rfl
@[simp] theorem x_len {e:E}:stepEv F (.bi .len [e]) σ=(peek F e σ).bind fun p=>(biD .len [p.1]).map fun d=>(d,p.2):=rfl
@[simp] theorem x_bi {b:Bi} {es:List E} (h1:b≠.len) (h2:b≠.list):stepEv F (.bi b es) σ=(evs F es σ).bind fun p=>(biD b p.1).map fun d=>(d,p.2):=by
  cases b <;> first | exact absurd rfl h1 | exact absurd rfl h2 | rfl
@[simp] theorem x_meth {m:Mt} {o:E} {es:List E}:stepEv F (.meth m o es) σ=(peek F o σ).bind fun p=>(evs F es p.2).bind fun q=>(again o p.1 q.2).bind fun d=>if kd p.1=kd d then (methD m d q.1).map fun d=>(d,q.2) else none:=rfl
@[simp] theorem x_idx {o i:E}:stepEv F (.idx o i) σ=(peek F o σ).bind fun p=>(F.ev i p.2).bind fun q=>(again o p.1 q.2).bind fun d=>(idxD d q.1).map fun d=>(d,q.2):=rfl
@[simp] theorem x_slc {o:E} {l u:Option E} {rev:Bool}:stepEv F (.slc o l u rev) σ=(peek F o σ).bind fun p=>(optE F l p.2).bind fun q=>(optE F u q.2).bind fun r=>(again o p.1 r.2).bind fun d=>(slcD d q.1 r.1 rev).map fun d=>(d,r.2):=rfl
@[simp] theorem x_call {f:E} {args:List E} {io:Bool}:stepEv F (.call f args io) σ=(F.ev f σ).bind fun p=>(fnA p.1).bind fun a=>(argsE F io args p.2).bind fun q=>(F.call a q.1).bind fun r=>
    if io=true then (backE args r.2 q.2).map fun σ=>(r.1,σ) else some (r.1,q.2):=rfl
@[simp] theorem pk_var {i:Nat}:peek F (.var i) σ=(σ.get i).map fun s=>(s.2,σ):=rfl
@[simp] theorem ag_var {i:Nat} {d:D}:again (.var i) d σ=(σ.get i).map (·.2):=rfl
@[simp] theorem o_list {es:List E}:stepO F (.list es) σ=(evs F es σ).bind fun p=>if p.1.length≤line then some (.own,.list p.1,p.2) else none:=rfl
@[simp] theorem o_edict:stepO F .edict σ=some (.own,.idict [],σ):=rfl
@[simp] theorem o_comp {e:E} {gs:List (Tg × E × List E)}:stepO F (.comp e gs) σ=(compG F e gs σ []).map fun p=>(.own,.list p.1,delG gs p.2):=rfl
@[simp] theorem o_blist {e:E}:stepO F (.bi .list [e]) σ=(F.ev e σ).bind fun p=>(biD .list [p.1]).map fun d=>(.own,d,p.2):=rfl
@[simp] theorem o_ite {t b o:E}:stepO F (.ite t b o) σ=(F.evT t σ).bind fun p=>if p.1=true then F.evO b p.2 else F.evO o p.2:=rfl
noncomputable def isO:E→Bool
  | .list _=>true | .edict=>true | .comp ..=>true | .bi .list [_]=>true | .ite ..=>true
  | _=>false
theorem o_sh {e:E} (h:isO e=false):stepO F e σ=shO (F.ev e σ):=by
  induction e using E.casesOn with
  | bi b es=>induction b using Bi.casesOn with
    | list=>induction es using List.casesOn with
      | nil=>rfl
      | cons x r=>induction r using List.casesOn with
        | nil=>exact absurd h.symm Bool.false_ne_true
        | cons _ _=>rfl
    | _=>rfl
  | _=>first | rfl | exact absurd h.symm Bool.false_ne_true
@[simp] theorem shO_some {d:D}:shO (some (d,σ))=some (.sh,d,σ):=rfl
@[simp] theorem t_not {e:E}:stepT F (.not e) σ=(F.evT e σ).map fun p=>(!p.1,p.2):=rfl
@[simp] theorem t_and {es:List E}:stepT F (.and es) σ=allT F es σ:=rfl
@[simp] theorem t_or {es:List E}:stepT F (.or es) σ=anyT F es σ:=rfl
noncomputable def isT':E→Bool
  | .not _=>true | .and _=>true | .or _=>true
  | _=>false
theorem t_val {e:E} (h:isT' e=false):stepT F e σ=(F.ev e σ).bind fun p=>(truD p.1).map fun b=>(b,p.2):=by
  induction e using E.casesOn <;> first | rfl | exact absurd h.symm Bool.false_ne_true
@[simp] theorem all_nil:allT F [] σ=some (true,σ):=rfl
@[simp] theorem all_cons {e:E} {r:List E}:allT F (e :: r) σ=(F.evT e σ).bind fun p=>if p.1=true then allT F r p.2 else some (false,p.2):=rfl
@[simp] theorem any_nil:anyT F [] σ=some (false,σ):=rfl
@[simp] theorem any_cons {e:E} {r:List E}:anyT F (e :: r) σ=(F.evT e σ).bind fun p=>if p.1=true then some (true,p.2) else anyT F r p.2:=rfl
@[simp] theorem evs_nil:evs F [] σ=some ([],σ):=rfl
@[simp] theorem evs_cons {e:E} {r:List E}:evs F (e :: r) σ=(F.ev e σ).bind fun p=>(evs F r p.2).map fun q=>(p.1 :: q.1,q.2):=rfl
@[simp] theorem evOs_nil:evOs F [] σ=some ([],σ):=rfl
@[simp] theorem evOs_cons {e:E} {r:List E}:evOs F (e :: r) σ=(F.evO e σ).bind fun p=>(evOs F r p.2.2).map fun q=>((p.1,p.2.1) :: q.1,q.2):=rfl
@[simp] theorem optE_none:optE F none σ=some (.none,σ):=rfl
@[simp] theorem optE_some {e:E}:optE F (some e) σ=F.ev e σ:=rfl
@[simp] theorem t_lit {d:D}:stepT F (.lit d) σ=(F.ev (.lit d) σ).bind fun p=>(truD p.1).map fun b=>(b,p.2):=rfl
@[simp] theorem o_lit {d:D}:stepO F (.lit d) σ=shO (F.ev (.lit d) σ):=rfl
@[simp] theorem t_tlit {s:List Nat}:stepT F (.tlit s) σ=(F.ev (.tlit s) σ).bind fun p=>(truD p.1).map fun b=>(b,p.2):=rfl
@[simp] theorem o_tlit {s:List Nat}:stepO F (.tlit s) σ=shO (F.ev (.tlit s) σ):=rfl
@[simp] theorem t_var {i:Nat}:stepT F (.var i) σ=(F.ev (.var i) σ).bind fun p=>(truD p.1).map fun b=>(b,p.2):=rfl
@[simp] theorem o_var {i:Nat}:stepO F (.var i) σ=shO (F.ev (.var i) σ):=rfl
@[simp] theorem t_glob {d:D}:stepT F (.glob d) σ=(F.ev (.glob d) σ).bind fun p=>(truD p.1).map fun b=>(b,p.2):=rfl
@[simp] theorem o_glob {d:D}:stepO F (.glob d) σ=shO (F.ev (.glob d) σ):=rfl
@[simp] theorem t_bin {o:Op} {l r:E}:stepT F (.bin o l r) σ=(F.ev (.bin o l r) σ).bind fun p=>(truD p.1).map fun b=>(b,p.2):=rfl
@[simp] theorem o_bin {o:Op} {l r:E}:stepO F (.bin o l r) σ=shO (F.ev (.bin o l r) σ):=rfl
@[simp] theorem t_neg {e:E}:stepT F (.neg e) σ=(F.ev (.neg e) σ).bind fun p=>(truD p.1).map fun b=>(b,p.2):=rfl
@[simp] theorem o_neg {e:E}:stepO F (.neg e) σ=shO (F.ev (.neg e) σ):=rfl
@[simp] theorem t_orv {l r:E}:stepT F (.orv l r) σ=(F.ev (.orv l r) σ).bind fun p=>(truD p.1).map fun b=>(b,p.2):=rfl
@[simp] theorem o_orv {l r:E}:stepO F (.orv l r) σ=shO (F.ev (.orv l r) σ):=rfl
@[simp] theorem t_cmp {o:Cmp} {l r:E}:stepT F (.cmp o l r) σ=(F.ev (.cmp o l r) σ).bind fun p=>(truD p.1).map fun b=>(b,p.2):=rfl
@[simp] theorem o_cmp {o:Cmp} {l r:E}:stepO F (.cmp o l r) σ=shO (F.ev (.cmp o l r) σ):=rfl
@[simp] theorem t_tup {es:List E}:stepT F (.tup es) σ=(F.ev (.tup es) σ).bind fun p=>(truD p.1).map fun b=>(b,p.2):=rfl
@[simp] theorem o_tup {es:List E}:stepO F (.tup es) σ=shO (F.ev (.tup es) σ):=rfl
@[simp] theorem t_call {f:E} {args:List E} {io:Bool}:stepT F (.call f args io) σ=(F.ev (.call f args io) σ).bind fun p=>(truD p.1).map fun b=>(b,p.2):=rfl
@[simp] theorem o_call {f:E} {args:List E} {io:Bool}:stepO F (.call f args io) σ=shO (F.ev (.call f args io) σ):=rfl
@[simp] theorem t_meth {m:Mt} {o:E} {es:List E}:stepT F (.meth m o es) σ=(F.ev (.meth m o es) σ).bind fun p=>(truD p.1).map fun b=>(b,p.2):=rfl
@[simp] theorem o_meth {m:Mt} {o:E} {es:List E}:stepO F (.meth m o es) σ=shO (F.ev (.meth m o es) σ):=rfl
@[simp] theorem t_repl {o q:E} {w:List Nat}:stepT F (.repl o q w) σ=(F.ev (.repl o q w) σ).bind fun p=>(truD p.1).map fun b=>(b,p.2):=rfl
@[simp] theorem o_repl {o q:E} {w:List Nat}:stepO F (.repl o q w) σ=shO (F.ev (.repl o q w) σ):=rfl
@[simp] theorem t_idx {o i:E}:stepT F (.idx o i) σ=(F.ev (.idx o i) σ).bind fun p=>(truD p.1).map fun b=>(b,p.2):=rfl
@[simp] theorem o_idx {o i:E}:stepO F (.idx o i) σ=shO (F.ev (.idx o i) σ):=rfl
@[simp] theorem t_idxT {o i:E}:stepT F (.idxT o i) σ=(F.ev (.idxT o i) σ).bind fun p=>(truD p.1).map fun b=>(b,p.2):=rfl
@[simp] theorem o_idxT {o i:E}:stepO F (.idxT o i) σ=shO (F.ev (.idxT o i) σ):=rfl
@[simp] theorem t_slc {o:E} {l u:Option E} {rev:Bool}:stepT F (.slc o l u rev) σ=(F.ev (.slc o l u rev) σ).bind fun p=>(truD p.1).map fun b=>(b,p.2):=rfl
@[simp] theorem o_slc {o:E} {l u:Option E} {rev:Bool}:stepO F (.slc o l u rev) σ=shO (F.ev (.slc o l u rev) σ):=rfl
@[simp] theorem t_dcomp {k v:E} {g:Tg × E}:stepT F (.dcomp k v g) σ=(F.ev (.dcomp k v g) σ).bind fun p=>(truD p.1).map fun b=>(b,p.2):=rfl
@[simp] theorem o_dcomp {k v:E} {g:Tg × E}:stepO F (.dcomp k v g) σ=shO (F.ev (.dcomp k v g) σ):=rfl
@[simp] theorem t_bilen {es:List E}:stepT F (.bi .len es) σ=(F.ev (.bi .len es) σ).bind fun p=>(truD p.1).map fun b=>(b,p.2):=rfl
@[simp] theorem o_bilen {es:List E}:stepO F (.bi .len es) σ=shO (F.ev (.bi .len es) σ):=rfl
@[simp] theorem t_birange {es:List E}:stepT F (.bi .range es) σ=(F.ev (.bi .range es) σ).bind fun p=>(truD p.1).map fun b=>(b,p.2):=rfl
@[simp] theorem o_birange {es:List E}:stepO F (.bi .range es) σ=shO (F.ev (.bi .range es) σ):=rfl
@[simp] theorem t_bimin {es:List E}:stepT F (.bi .min es) σ=(F.ev (.bi .min es) σ).bind fun p=>(truD p.1).map fun b=>(b,p.2):=rfl
@[simp] theorem o_bimin {es:List E}:stepO F (.bi .min es) σ=shO (F.ev (.bi .min es) σ):=rfl
@[simp] theorem t_bimax {es:List E}:stepT F (.bi .max es) σ=(F.ev (.bi .max es) σ).bind fun p=>(truD p.1).map fun b=>(b,p.2):=rfl
@[simp] theorem o_bimax {es:List E}:stepO F (.bi .max es) σ=shO (F.ev (.bi .max es) σ):=rfl
@[simp] theorem t_bisum {es:List E}:stepT F (.bi .sum es) σ=(F.ev (.bi .sum es) σ).bind fun p=>(truD p.1).map fun b=>(b,p.2):=rfl
@[simp] theorem o_bisum {es:List E}:stepO F (.bi .sum es) σ=shO (F.ev (.bi .sum es) σ):=rfl
@[simp] theorem t_bisorted {es:List E}:stepT F (.bi .sorted es) σ=(F.ev (.bi .sorted es) σ).bind fun p=>(truD p.1).map fun b=>(b,p.2):=rfl
@[simp] theorem o_bisorted {es:List E}:stepO F (.bi .sorted es) σ=shO (F.ev (.bi .sorted es) σ):=rfl
@[simp] theorem t_bidictzip {es:List E}:stepT F (.bi .dictzip es) σ=(F.ev (.bi .dictzip es) σ).bind fun p=>(truD p.1).map fun b=>(b,p.2):=rfl
@[simp] theorem o_bidictzip {es:List E}:stepO F (.bi .dictzip es) σ=shO (F.ev (.bi .dictzip es) σ):=rfl
@[simp] theorem t_biisBool {es:List E}:stepT F (.bi .isBool es) σ=(F.ev (.bi .isBool es) σ).bind fun p=>(truD p.1).map fun b=>(b,p.2):=rfl
@[simp] theorem o_biisBool {es:List E}:stepO F (.bi .isBool es) σ=shO (F.ev (.bi .isBool es) σ):=rfl
@[simp] theorem t_biisInt {es:List E}:stepT F (.bi .isInt es) σ=(F.ev (.bi .isInt es) σ).bind fun p=>(truD p.1).map fun b=>(b,p.2):=rfl
@[simp] theorem o_biisInt {es:List E}:stepO F (.bi .isInt es) σ=shO (F.ev (.bi .isInt es) σ):=rfl
@[simp] theorem t_ite {t b o:E}:stepT F (.ite t b o) σ=(F.ev (.ite t b o) σ).bind fun p=>(truD p.1).map fun b=>(b,p.2):=rfl
@[simp] theorem t_list {es:List E}:stepT F (.list es) σ=(F.ev (.list es) σ).bind fun p=>(truD p.1).map fun b=>(b,p.2):=rfl
@[simp] theorem xs_nil:exs F [] σ=some (.next,σ):=rfl
@[simp] theorem xs_cons {s:S} {r:List S}:exs F (s :: r) σ=thenX (exs F r) (F.ex s σ):=rfl
@[simp] theorem then_next {k:St→Option (Fl × St)}:thenX k (some (.next,σ))=k σ:=rfl
@[simp] theorem then_ret {k:St→Option (Fl × St)} {d:D}:thenX k (some (.ret d,σ))=some (.ret d,σ):=rfl
@[simp] theorem s_asg {x:Nat} {e:E}:stepX F (.asg x e) σ=(F.evO e σ).map fun p=>(.next,p.2.2.put x (p.1,p.2.1)):=rfl
@[simp] theorem s_asg2 {x y:Nat} {e:E}:stepX F (.asg2 x y e) σ=(F.ev e σ).map fun p=>(.next,(p.2.put x (.sh,p.1)).put y (.sh,p.1)):=rfl
@[simp] theorem s_ret {e:E}:stepX F (.ret e) σ=(F.ev e σ).map fun p=>(.ret p.1,p.2):=rfl
@[simp] theorem s_ite {t:E} {b o:List S}:stepX F (.ite t b o) σ=(F.evT t σ).bind fun p=>if p.1=true then exs F b p.2 else exs F o p.2:=rfl
@[simp] theorem s_tryb {b:List S}:stepX F (.tryb b) σ=exs F b σ:=rfl
@[simp] theorem s_for {tg:Tg} {it:E} {b:List S}:stepX F (.for tg it b) σ=(items F it σ).bind fun p=>forL F tg b p.1 p.2:=rfl
@[simp] theorem s_tupl {xs:List Nat} {es:List E}:stepX F (.tupl xs es) σ=(evOs F es σ).bind fun p=>(putAll xs p.1 p.2).map fun σ=>(.next,σ):=rfl
@[simp] theorem s_aug {o:Op} {x:Nat} {e:E}:stepX F (.aug o x e) σ=(shGet (σ.get x)).bind fun old=>(F.ev e σ).bind fun p=>((binD o old p.1).bind intD).map fun r=>(.next,p.2.put x (.sh,.int r)):=rfl
@[simp] theorem it_plain {e:E} (h:(match e with | .enum _=>true | _=>false)=false):items F e σ=(F.ev e σ).bind fun p=>(itemsD p.1).map fun l=>(l,p.2):=by
  induction e using E.casesOn <;> first | rfl | exact absurd h.symm Bool.false_ne_true
@[simp] theorem noO_none:noO none=none:=rfl
@[simp] theorem shO_none:shO none=none:=rfl
@[simp] theorem x_idxT {o i:E}:stepEv F (.idxT o i) σ=(F.ev o σ).bind fun p=>(strD p.1).bind fun s=>(F.ev i p.2).bind fun q=>((idxD (.str s) q.1).bind strD).map fun c=>(.tstr c,q.2):=rfl
@[simp] theorem s_unpk {xs:List Nat} {e:E}:stepX F (.unpk xs e) σ=(F.ev e σ).bind fun p=>(bindTup xs p.1 p.2).map fun σ=>(.next,σ):=rfl
@[simp] theorem s_app {x:Nat} {e:E}:stepX F (.app x e) σ=if isLst (σ.get x)=true then (F.ev e σ).bind fun p=>appSlot p.2 x p.1 (p.2.get x) else none:=rfl
@[simp] theorem b_add {a b:Int}:binD .add (.int a) (.int b)=some (.int (a+b)):=rfl
@[simp] theorem b_sub {a b:Int}:binD .sub (.int a) (.int b)=some (.int (a - b)):=rfl
theorem b_mul {a b:Int} (h1:sml a=true) (h2:sml b=true):binD .mul (.int a) (.int b)=some (.int (a * b)):=by simp [binD,h1,h2]
theorem b_fdiv {a b:Int} (h1:sml a=true) (h2:sml b=true) (h3:b≠0):binD .fdiv (.int a) (.int b)=some (.int (a.fdiv b)):=by simp [binD,h1,h2,h3]
theorem b_mod {a b:Int} (h3:b≠0):binD .mod (.int a) (.int b)=some (.int (a.fmod b)):=by simp [binD,h3]
@[simp] theorem r_int {a:Int}:truD (.int a)=some (decide (a≠0)):=rfl
@[simp] theorem r_bool {a:Bool}:truD (.bool a)=some a:=rfl
@[simp] theorem r_str {a:List Nat}:truD (.str a)=some (!a.isEmpty):=rfl
@[simp] theorem r_none:truD .none=some false:=rfl
@[simp] theorem c_eqi {a b:Int}:cmpD .eq (.int a) (.int b)=some (decide (a=b)):=rfl
@[simp] theorem c_nei {a b:Int}:cmpD .ne (.int a) (.int b)=some (decide (a≠b)):=by
  exact congrArg some decide_not.symm
@[simp] theorem c_lti {a b:Int}:cmpD .lt (.int a) (.int b)=some (decide (a < b)):=rfl
@[simp] theorem c_lei {a b:Int}:cmpD .le (.int a) (.int b)=some (decide (a≤b)):=rfl
@[simp] theorem c_gti {a b:Int}:cmpD .gt (.int a) (.int b)=some (decide (b < a)):=rfl
@[simp] theorem c_gei {a b:Int}:cmpD .ge (.int a) (.int b)=some (decide (b≤a)):=rfl
@[simp] theorem c_eqs {a b:List Nat}:cmpD .eq (.str a) (.str b)=some (a == b):=rfl
@[simp] theorem c_nes {a b:List Nat}:cmpD .ne (.str a) (.str b)=some (!(a == b)):=rfl
@[simp] theorem l_str {a:List Nat}:biD .len [.str a]=some (.int a.length):=rfl
@[simp] theorem l_list {a:List D}:biD .len [.list a]=some (.int a.length):=rfl
@[simp] theorem a_nil {io:Bool}:argsE F io [] σ=some ([],σ):=rfl
@[simp] theorem a_one {e:E}:argsE F false [e] σ=(F.ev e σ).map fun p=>([(.sh,p.1)],p.2):=rfl
@[simp] theorem a_cons {io:Bool} {e e':E} {r:List E}:argsE F io (e :: e' :: r) σ=(F.ev e σ).bind fun p=>(argsE F io (e' :: r) p.2).map fun q=>((.sh,p.1) :: q.1,q.2):=rfl
@[simp] theorem own_get {d:D}:ownGet (some (.own,d))=some d:=rfl
theorem noO_inv {x:Option (Own × D × St)} {d:D} {σ':St} (h:noO x=some (d,σ')):∃ o,x=some (o,d,σ'):=by
  induction x using Option.casesOn with
  | none=>exact nos h
  | some q=>obtain ⟨o,e,s⟩:=q; obtain ⟨rfl,rfl⟩:=some2 h; exact ⟨o,rfl⟩
theorem shO_inv {x:Option (D × St)} {o:Own} {d:D} {σ':St} (h:shO x=some (o,d,σ')):o=.sh∧x=some (d,σ'):=by
  induction x using Option.casesOn with
  | none=>exact nos h
  | some q=>obtain ⟨e,s⟩:=q; obtain ⟨rfl,rfl,rfl⟩:=some3 h; exact ⟨rfl,rfl⟩
theorem rd_inv {i:Nat} {x:Option Slot} {d:D} {σ':St} (h:rdVar σ i x=some (d,σ')):∃ o,x=some (o,d)∧((o=.sh∧σ'=σ)∨(o=.own∧σ'=σ.put i (.sh,d))):=by
  induction x using Option.casesOn with
  | none=>exact nos h
  | some q=>
    obtain ⟨o,e⟩:=q
    induction o using Own.casesOn with
    | sh=>obtain ⟨rfl,rfl⟩:=some2 h; exact ⟨_,rfl,.inl ⟨rfl,rfl⟩⟩
    | own=>obtain ⟨rfl,rfl⟩:=some2 h; exact ⟨_,rfl,.inr ⟨rfl,rfl⟩⟩
    | bor=>exact nos h
theorem thenX_inv {k:St→Option (Fl × St)} {x:Option (Fl × St)} {fl:Fl} {σ':St} (h:thenX k x=some (fl,σ')):(∃ σ₁,x=some (.next,σ₁)∧k σ₁=some (fl,σ'))∨∃ d,x=some (.ret d,σ')∧fl=.ret d:=by
  induction x using Option.casesOn with
  | none=>exact nos h
  | some q=>
    obtain ⟨f,s⟩:=q
    induction f using Fl.casesOn with
    | next=>exact .inl ⟨s,rfl,h⟩
    | ret d=>obtain ⟨rfl,rfl⟩:=some2 h; exact .inr ⟨d,rfl,rfl⟩
theorem app_inv {x:Nat} {d:D} {s:Option Slot} {fl:Fl} {σ':St} (h:appSlot σ x d s=some (fl,σ')):∃ o xs,s=some (o,.list xs)∧o≠.sh∧xs.length < line∧fl=.next∧σ'=σ.put x (o,.list (xs++[d])):=by
  induction s using Option.casesOn with
  | none=>exact nos h
  | some q=>
    obtain ⟨o,e⟩:=q
    induction e using D.casesOn with
    | list xs=>
      induction o using Own.casesOn with
      | sh=>exact nos h
      | own=>obtain ⟨hz,h⟩:=iteS h; obtain ⟨rfl,rfl⟩:=Prod.mk.inj h; exact ⟨_,xs,rfl,nofun,hz,rfl,rfl⟩
      | bor=>obtain ⟨hz,h⟩:=iteS h; obtain ⟨rfl,rfl⟩:=Prod.mk.inj h; exact ⟨_,xs,rfl,nofun,hz,rfl,rfl⟩
    | _=>induction o using Own.casesOn <;> exact nos h
theorem ext_inv {x:Nat} {ys:List D} {s:Option Slot} {fl:Fl} {σ':St} (h:extSlot σ x ys s=some (fl,σ')):∃ o xs,s=some (o,.list xs)∧o≠.sh∧xs.length+ys.length≤line∧fl=.next∧σ'=σ.put x (o,.list (xs++ys)):=by
  induction s using Option.casesOn with
  | none=>exact nos h
  | some q=>
    obtain ⟨o,e⟩:=q
    induction e using D.casesOn with
    | list xs=>
      induction o using Own.casesOn with
      | sh=>exact nos h
      | own=>obtain ⟨hz,h⟩:=iteS h; obtain ⟨rfl,rfl⟩:=Prod.mk.inj h; exact ⟨_,xs,rfl,nofun,hz,rfl,rfl⟩
      | bor=>obtain ⟨hz,h⟩:=iteS h; obtain ⟨rfl,rfl⟩:=Prod.mk.inj h; exact ⟨_,xs,rfl,nofun,hz,rfl,rfl⟩
    | _=>induction o using Own.casesOn <;> exact nos h
theorem bt_inv {xs:List Nat} {d:D} {σ':St} (h:bindTup xs d σ=some σ'):∃ ds,d=.tup ds∧bindT (.t xs) (.tup ds) σ=some σ':=by
  induction d using D.casesOn with | tup ds=>exact ⟨ds,rfl,h⟩ | _=>exact nos h
theorem ret_is {f:Fl} {d:D} (h:retD f=some d):f=.ret d:=by
  induction f using Fl.casesOn with | ret _=>rw [some1 h] | next=>exact nos h
theorem fn_is {d:D} {a:Nat} (h:fnA d=some a):d=.fn a:=by
  induction d using D.casesOn with | fn _=>rw [some1 h] | _=>exact nos h
theorem own_is {x:Option Slot} {d:D} (h:ownGet x=some d):x=some (.own,d):=by
  induction x using Option.casesOn with
  | none=>exact nos h
  | some s=>obtain ⟨o,e⟩:=s; induction o using Own.casesOn with | own=>rw [some1 h] | _=>exact nos h
theorem sh_is {x:Option Slot} {d:D} (h:shGet x=some d):x=some (.sh,d):=by
  induction x using Option.casesOn with
  | none=>exact nos h
  | some s=>obtain ⟨o,e⟩:=s; induction o using Own.casesOn with | sh=>rw [some1 h] | _=>exact nos h
theorem isLst_is {x:Option Slot} (h:isLst x=true):∃ o l,x=some (o,.list l):=by
  induction x using Option.casesOn with
  | none=>exact absurd h Bool.false_ne_true
  | some s=>obtain ⟨o,e⟩:=s; induction e using D.casesOn with | list l=>exact ⟨o,l,rfl⟩ | _=>exact absurd h Bool.false_ne_true
@[simp] theorem w_nil {x:Nat}:swpL F x [] [] σ=some σ:=rfl
@[simp] theorem w_cons {x:Nat} {i:E} {is:List E} {d:D} {ds:List D}:swpL F x (i :: is) (d :: ds) σ=if (σ.get x).isSome=true then (F.ev i σ).bind fun q=>(ownGet (q.2.get x)).bind fun xs=>(setD xs q.1 d).bind fun xs=>swpL F x is ds (q.2.put x (.own,xs)) else none:=rfl
theorem swp_inv {x:Nat} {i:E} {is:List E} {d:D} {ds:List D} {σ':St} (h:swpL F x (i :: is) (d :: ds) σ=some σ'):∃ o s iv σ₁ xs xs',σ.get x=some (o,s)∧F.ev i σ=some (iv,σ₁)∧σ₁.get x=some (.own,xs)∧setD xs iv d=some xs'∧swpL F x is ds (σ₁.put x (.own,xs'))=some σ':=by
  obtain ⟨h0,h⟩:=iteN h
  obtain ⟨⟨o,s⟩,h0⟩:=Option.isSome_iff_exists.mp h0
  obtain ⟨⟨iv,σ₁⟩,h1,h⟩:=bs h
  obtain ⟨xs,h2,h⟩:=bs h
  obtain ⟨xs',h3,h⟩:=bs h
  exact ⟨o,s,iv,σ₁,xs,xs',h0,h1,own_is h2,h3,h⟩
@[simp] theorem s_put {x:Nat} {i e:E}:stepX F (.put x i e) σ=(F.ev e σ).bind fun p=>(swpL F x [i] [p.1] p.2).map fun σ=>(.next,σ):=rfl
@[simp] theorem s_swp {x:Nat} {is es:List E}:stepX F (.swp x is es) σ=(evs F es σ).bind fun p=>(swpL F x is p.1 p.2).map fun σ=>(.next,σ):=rfl
@[simp] theorem f_nil {tg:Tg} {b:List S}:forL F tg b [] σ=some (.next,σ):=rfl
theorem f_cons {tg:Tg} {b:List S} {d:D} {r:List D}:forL F tg b (d :: r) σ=(bindT tg d σ).bind fun σ=>thenX (forL F tg b r) (exs F b σ):=rfl
@[simp] theorem bt_v {i:Nat} {d:D}:bindT (.v i) d σ=some (σ.put i (.sh,d)):=rfl
@[simp] theorem fn_a {a:Nat}:fnA (.fn a)=some a:=rfl
@[simp] theorem sh_get {d:D}:shGet (some (.sh,d))=some d:=rfl
@[simp] theorem int_d {i:Int}:intD (.int i)=some i:=rfl
noncomputable def mn2 (a b:Int):Int:=if b < a then b else a
@[simp] theorem m_int {a b:Int}:biD .min [.int a,.int b]=some (.int (mn2 a b)):=rfl
@[simp] theorem tstr1_one {c:Nat}:tstr1 (.tstr [c])=some c:=rfl
@[simp] theorem strD_str {s:List Nat}:strD (.str s)=some s:=rfl
@[simp] theorem x_repl {o old:E} {w:List Nat}:stepEv F (.repl o old w) σ=(F.ev o σ).bind fun p=>(strD p.1).bind fun s=>(F.ev old p.2).bind fun q=>(tstr1 q.1).bind fun c=>
    if s.length≤4096∧w.length≤64∧w≠[c]∧c < 256 then some (.str (replC c w s),q.2) else none:=rfl
end
end Mine
end
section
open PySem PySem.W PyProof.Rows
set_option autoImplicit false
namespace Mine
structure Ge (φ:Fx) (loc:Locs) (σ:St) (c:Cf) (σ':St) (c':Cf):Prop where
  go:Go φ loc σ c loc σ' c'
  vs:∀ i L,loc i=some L→c'.vs i=c.vs i
section
variable {φ:Fx} {loc:Locs} {σ σ₁ σ₂ σ₃:St} {c c₁ c₂ c₃:Cf}
theorem Ge.refl (R:Rep φ loc σ c):Ge φ loc σ c σ c:=⟨.refl R,fun _ _ _=>rfl⟩
theorem Ge.trans (x:Ge φ loc σ₁ c₁ σ₂ c₂) (y:Ge φ loc σ₂ c₂ σ₃ c₃):Ge φ loc σ₁ c₁ σ₃ c₃:=⟨x.go.trans y.go,fun i L h=>(y.vs i L h).trans (x.vs i L h)⟩
theorem Ge.ext (x:Ge φ loc σ₁ c₁ σ₂ c₂) {s':Shared} (e:Ext c₂.s s'):Ge φ loc σ₁ c₁ σ₂ ⟨s',c₂.M,c₂.vs⟩:=x.trans ⟨x.go.rep.ext e,fun _ _ _=>rfl⟩
theorem Ge.grow (x:Ge φ loc σ₁ c₁ σ₂ c₂) {s':Shared} {M':Addr→Prop} (e:Grow c₂.s c₂.M s' M'):Ge φ loc σ₁ c₁ σ₂ ⟨s',M',c₂.vs⟩:=x.trans ⟨x.go.rep.grows e,fun _ _ _=>rfl⟩
end
section
noncomputable def EvOK (F:Funs) (n:Nat):Prop:=∀ {lv:Nat} {φ:Fx} {loc:Locs} {σ:St} {c:Cf} {S:Sx} {env:Env} {A:Around} {e:E} {pe:Expr} {d:D} {σ':St} {Q:Value→Shared→Prop} {E:Value→Shared→Prop},
  Gl φ.hT→Room n A→EnvOK φ S loc env→Rep φ loc σ c→TrE lv S e pe→F.ev e σ=some (d,σ')→
  (∀ v c',Ge φ loc σ c σ' c'→Real c'.s.heap c'.s.toks c'.M v d→Q v c'.s)→wpAny (model prog w) A (eval pe env) Q E c.s
noncomputable def EvoOK (F:Funs) (n:Nat):Prop:=∀ {lv:Nat} {φ:Fx} {loc:Locs} {σ:St} {c:Cf} {S:Sx} {env:Env} {A:Around} {e:E} {pe:Expr} {o:Own} {d:D} {σ':St} {Q:Value→Shared→Prop} {E:Value→Shared→Prop},
  Gl φ.hT→Room n A→EnvOK φ S loc env→Rep φ loc σ c→TrE lv S e pe→F.evO e σ=some (o,d,σ')→
  (∀ v c',Ge φ loc σ c σ' c'→Pend c loc σ' c' o d v→Q v c'.s)→wpAny (model prog w) A (eval pe env) Q E c.s
noncomputable def EvtOK (F:Funs) (n:Nat):Prop:=∀ {lv:Nat} {φ:Fx} {loc:Locs} {σ:St} {c:Cf} {S:Sx} {env:Env} {A:Around} {e:E} {pe:Expr} {b:Bool} {σ':St} {Q:Bool→Shared→Prop} {E:Value→Shared→Prop},
  Gl φ.hT→Room n A→EnvOK φ S loc env→Rep φ loc σ c→TrT (TrE lv) S e pe→F.evT e σ=some (b,σ')→
  (∀ c',Ge φ loc σ c σ' c'→Q b c'.s)→wpAny (model prog w) A (isTrue pe env (eval pe env)) Q E c.s
noncomputable def CmpOK (F:Funs) (n:Nat):Prop:=∀ {lv:Nat} {φ:Fx} {loc:Locs} {σ:St} {c:Cf} {S:Sx} {env:Env} {A:Around} {o:Cmp} {l r:E} {pl pr:Expr} {d:D} {σ':St} {Q:Value→Shared→Prop} {E:Value→Shared→Prop},
  Gl φ.hT→Room n A→EnvOK φ S loc env→Rep φ loc σ c→TrE lv S l pl→TrE lv S r pr→F.ev (.cmp o l r) σ=some (d,σ')→
  (∀ b c',Ge φ loc σ c σ' c'→d=.bool b→Q (.bool b) c'.s)→
  wpAny (model prog w) A (eval pl env) (fun a s₁=>wpAny (model prog w) A (eval pr env) (fun b s₂=>wpAny (model prog w) A (compareOp (cmpOf o) a b) Q E s₂) E s₁) E c.s
class inductive Args (h:Heap) (k:Tok) (M X:Addr→Prop):List Value→List Slot→Prop
  | nil:Args h k M X [] []
  | bor {a:Addr} {d:D}:OwnR h k M (.ref a) d→X a→Args h k M X [.ref a] [(.bor,d)]
  | cons {v:Value} {d:D} {vs:List Value} {ss:List Slot}:Real h k M v d→Args h k M X vs ss→Args h k M X (v :: vs) ((.sh,d) :: ss)
noncomputable def CallOK (F:Funs) (n:Nat):Prop:=∀ {hT:Heap} {s:Shared} {M X:Addr→Prop} {A:Around} {a:Nat} {vs:List Value} {ss:List Slot} {d:D} {back:Option Slot} {Q:Value→Shared→Prop} {E:Value→Shared→Prop},
  Gl hT→Room n A→0 < s.toks→(∀ b o,hT.get? b=some o→s.heap.get? b=some o)→(∀ b,M b→hT.get? b=none)→(∀ b,X b→M b)→Stand s.heap M→(∀ b,X b→vs.getLast? = some (.ref b))→
  Args s.heap s.toks M X vs ss→F.call a ss=some (d,back)→
  (∀ v s' M',Step s.heap M X s'.heap M' X→s.toks≤s'.toks→s'.gens=s.gens→s'.os=s.os→(∀ b,s'.heap.get? b=none→s.heap.get? b=none)→Stand s'.heap M'→(∀ b,M b→M' b)→
    Real s'.heap s'.toks M' v d→(∀ r dr,ss.getLast? = some (.bor,dr)→vs.getLast? = some (.ref r)→∃ o' d',back=some (o',d')∧OwnR s'.heap s'.toks M' (.ref r) d')→Q v s')→
  wpAny (model prog w) A (call (.ref a) vs) Q E s
noncomputable def FnAt (hT:Heap) (a:Nat):Prop:=∃ o fd,hT.get? a=some o∧o.data=.func fd
end
section
variable {lv:Nat} {F:Funs} {n:Nat} {φ:Fx} {loc:Locs} {σ σ':St} {c:Cf} {S:Sx} {env:Env} {A:Around} {EE:Value→Shared→Prop}
theorem Room.units (r:Room n A):A.units+3 < cLine:=by
  have:=r.2.2
  have:cLine=9900:=rfl
  lia
theorem Room.weaken {m:Nat} (r:Room n A) (h:m≤n):Room m A:=⟨r.1,by have:=r.2.1; lia,by have:=r.2.2; lia⟩
theorem nmOk_iff {x:Str} (h:nmOk x=true):(x == ("__debug__" : Str))=false∧(x == ("__classdict__" : Str))=false:=by
  unfold nmOk at h; simpa [Bool.and_eq_true] using h
theorem bnOk_iff {x:Str} (h:bnOk S x=true):S.names.lookup x=some .globalImplicit∧(x == ("__debug__" : Str))=false:=by
  unfold bnOk at h; simpa [Bool.and_eq_true] using h
theorem bname_ok (Gx:Gl φ.hT) (V:EnvOK φ S loc env) (R:Rep φ loc σ c) {x:Str} {v:Value} {p:Pos} (hx:bnOk S x=true) (hv:biL.lookup x=some v)
    {Q:Value→Shared→Prop} (hQ:Q v c.s):wpAny (model prog w) A (eval (.Name x p) env) Q EE c.s:=by
  obtain ⟨h1,h2⟩:=bnOk_iff hx
  obtain ⟨mg,mb,ng,nb,_,hb⟩:=Gx.glob
  obtain ⟨e1,e2⟩:=hb x v hv
  have kp:∀ {a m},φ.hT.Ns a m→c.s.heap.Ns a m:=fun n=>n.at' fun o e=>by
    refine R.top _ o (R.fx.top _ o e) fun hX=>?_
    rw [R.fx.out _ (R.fx.sub _ hX)] at e; exact nos e
  refine Calls.Name_function_global V.kind (V.global h1) ?_ h2
  exact Calls.loadGlobal_builtin (V.g ▸ kp ng) e1 (V.b ▸ kp nb) e2 hQ
theorem gname_ok (Gx:Gl φ.hT) (V:EnvOK φ S loc env) (R:Rep φ loc σ c) {x:Str} {d:D} {p:Pos} (hx:bnOk S x=true) (hv:G x=some d)
    {Q:Value→Shared→Prop} (hQ:∀ v,Real c.s.heap c.s.toks c.M v d→Q v c.s):wpAny (model prog w) A (eval (.Name x p) env) Q EE c.s:=by
  obtain ⟨h1,h2⟩:=bnOk_iff hx
  obtain ⟨mg,mb,ng,nb,hg,_⟩:=Gx.glob
  obtain ⟨v,e1,r⟩:=hg x d hv
  have kp:∀ b o,φ.hT.get? b=some o→c.s.heap.get? b=some o:=fun b o e=>by
    refine R.top _ o (R.fx.top _ o e) fun hX=>?_
    rw [R.fx.out _ (R.fx.sub _ hX)] at e; exact nos e
  refine Calls.Name_function_global V.kind (V.global h1) ?_ h2
  refine Calls.loadGlobal_global (V.g ▸ ng.at' fun o e=>kp _ o e) e1 (hQ v (r.mono (T:=fun _=>False) (T':=fun _=>False) ⟨fun b o _ e=>kp b o e,fun _ _ f=>f.elim,fun b m=>.inr ?_,fun _ f=>f.elim⟩ (Nat.zero_le _)))
  rcases R.old b m with q | q
  · exact R.fx.out b q
  · cases e:φ.hT.get? b with
    | none=>rfl
    | some o=>rw [R.fx.top b o e] at q; exact nos q.symm
noncomputable def Peek (φ:Fx) (loc:Locs) (σ:St) (c:Cf) (e:E) (d:D) (v:Value):Prop:=
  match e with
  | .var i=>(∃ o,σ.get i=some (o,d))∧v=c.vs i
  | _=>Real c.s.heap c.s.toks c.M v d
theorem pk_or (e:E):(∃ i,e=.var i)∨((∀ (F:Funs) (σ:St),peek F e σ=F.ev e σ)∧(∀ (d:D) (σ:St),again e d σ=some d)∧∀ (σ:St) (c:Cf) (d:D) (v:Value),Peek φ loc σ c e d v=Real c.s.heap c.s.toks c.M v d):=by
  induction e using E.casesOn with
  | var i=>exact .inl ⟨i,rfl⟩
  | _=>exact .inr ⟨fun _ _=>rfl,fun _ _=>rfl,fun _ _ _ _=>rfl⟩
theorem Peek.seen (R:Rep φ loc σ c) {e:E} {d:D} {v:Value} (h:Peek φ loc σ c e d v):Seen c.s.heap c.s.toks c.M v d:=by
  rcases pk_or (φ:=φ) (loc:=loc) e with ⟨i,rfl⟩ | ⟨_,_,hp⟩
  · obtain ⟨⟨o,e⟩,rfl⟩:=h
    obtain ⟨_,_,_,r⟩:=R.vals _ _ _ e
    induction o using Own.casesOn with
    | sh=>exact .inl r
    | own=>exact .inr r.1
    | bor=>exact .inr r.1
  · exact .inl (hp .. ▸ h)
theorem Peek.again {σ₁ σ₂:St} {c₁ c₂:Cf} (g:Ge φ loc σ₁ c₁ σ₂ c₂) (R:Rep φ loc σ₁ c₁) {e:E} {d d':D} {v:Value} (h:Peek φ loc σ₁ c₁ e d v) (e':again e d σ₂=some d'):Peek φ loc σ₂ c₂ e d' v:=by
  rcases pk_or (φ:=φ) (loc:=loc) e with ⟨i,rfl⟩ | ⟨_,ha,hp⟩
  · obtain ⟨⟨o,_⟩,hs,rfl⟩:=ms e'
    obtain ⟨⟨o',e1⟩,rfl⟩:=h
    obtain ⟨L,hL,_⟩:=R.vals _ _ _ e1
    exact ⟨⟨o,hs⟩,(g.vs i L hL).symm⟩
  · obtain rfl:=some1 ((ha d σ₂).symm.trans e')
    rw [hp] at h ⊢
    exact g.go.real h
theorem peek_ok (ev:EvOK F n) (Gx:Gl φ.hT) (r:Room n A) (V:EnvOK φ S loc env) (R:Rep φ loc σ c) {e:E} {pe:Expr} {d:D} (t:TrE lv S e pe) (h:peek F e σ=some (d,σ'))
    {Q:Value→Shared→Prop} (hQ:∀ v c',Ge φ loc σ c σ' c'→Peek φ loc σ' c' e d v→Q v c'.s):wpAny (model prog w) A (eval pe env) Q EE c.s:=by
  rcases pk_or (φ:=φ) (loc:=loc) e with ⟨i,rfl⟩ | ⟨hk,_,hp⟩
  · obtain ⟨⟨o,_⟩,hs,h⟩:=ms h
    obtain ⟨rfl,rfl⟩:=Prod.mk.inj h
    obtain ⟨x,p,rfl,hx,hn⟩:=t.var_inv
    refine wpAny_Name (load_ok V R hx hs (nmOk_iff hn).2 ?_) (nmOk_iff hn).1
    exact hQ _ c (.refl R) ⟨⟨o,hs⟩,rfl⟩
  · exact ev Gx r V R t ((hk F σ).symm.trans h) fun v c' g rl=>hQ v c' g (hp .. ▸ rl)
theorem starEach_cons {e:E} {pe:Expr} (t:TrE lv S e pe) (rest:List Expr):starEach (pe :: rest) env=(false,eval pe env) :: starEach rest env:=by
  obtain ⟨_,t⟩:=t.out
  induction t using TrE1.casesOn <;> rfl
theorem starEach_tr {es:List E} {pes:List Expr} (t:TrL (TrE lv) S es pes):starEach pes env=pes.map fun pe=>(false,eval pe env):=by
  induction es generalizing pes with
  | nil=>obtain rfl:=t.inv; rfl
  | cons e es ih=>obtain ⟨pe,r,rfl,t,ts⟩:=t.inv; rw [starEach_cons t,ih ts]; rfl
theorem backTo_tr {es:List E} {pes:List Expr} (t:TrL (TrE lv) S es pes) (p:Pos):backTo p (starEach pes env)=pes.map fun pe=>(false,eval pe env):=by
  rw [starEach_tr t]; simp [backTo]
theorem evs_ok (ev:EvOK F n) (Gx:Gl φ.hT) (r:Room n A) (V:EnvOK φ S loc env):∀ {es:List E} {pes:List Expr} {σ:St} {c:Cf} {ds:List D} {σ':St} (R:Rep φ loc σ c) (t:TrL (TrE lv) S es pes) (h:evs F es σ=some (ds,σ'))
    {Q:List Value→Shared→Prop} (hQ:∀ vs c',Ge φ loc σ c σ' c'→RealL c'.s.heap c'.s.toks c'.M vs ds→Q vs c'.s),wpAny (model prog w) A (spliced (pes.map fun pe=>(false,eval pe env))) Q EE c.s:=by
  intro es
  induction es with
  | nil=>
    intro pes σ c ds σ' R t h Q hQ
    obtain rfl:=t.inv; obtain ⟨rfl,rfl⟩:=some2 h
    exact Calls.spliced_nil (hQ [] c (.refl R) .nil)
  | cons e es ih=>
    intro pes σ c ds σ' R t h Q hQ
    obtain ⟨pe,pes,rfl,t,ts⟩:=t.inv
    obtain ⟨⟨d,σ₁⟩,h1,h⟩:=bs h
    obtain ⟨⟨ds,σ₂⟩,h2,h⟩:=ms h
    obtain ⟨rfl,rfl⟩:=Prod.mk.inj h
    refine Calls.spliced_cons (ev Gx r V R t h1 fun v c₁ g₁ r₁=>ih g₁.go.rep ts h2 fun vs c₂ g₂ r₂=>hQ _ _ (g₁.trans g₂) (.cons (g₂.go.real r₁) r₂))
end
end Mine
end
section
open PySem PySem.W PyProof.Rows
set_option autoImplicit false
namespace Mine
section
variable {F:Funs} {σ σ':St} {d:D}
theorem tstr1_is {d:D} {c:Nat} (h:tstr1 d=some c):d=.tstr [c]:=by
  induction d using D.casesOn with
  | tstr t=>induction t using List.casesOn with
    | nil=>exact nos h
    | cons x r=>induction r using List.casesOn with
      | nil=>rw [Option.some.inj h]
      | cons _ _=>exact nos h
  | _=>exact nos h
theorem bin_inv {o:Op} {l r:E} (e:stepEv F (.bin o l r) σ=some (d,σ')):∃ a σ₁ b,F.ev l σ=some (a,σ₁)∧F.ev r σ₁=some (b,σ')∧binD o a b=some d:=by
  obtain ⟨⟨a,σ₁⟩,h1,e⟩:=bs e
  obtain ⟨⟨b,σ₂⟩,h2,e⟩:=bs e
  obtain ⟨d',h3,e⟩:=ms e
  obtain ⟨rfl,rfl⟩:=Prod.mk.inj e
  exact ⟨a,σ₁,b,h1,h2,h3⟩
theorem cmp_inv {o:Cmp} {l r:E} (e:stepEv F (.cmp o l r) σ=some (d,σ')):∃ a σ₁ b c,F.ev l σ=some (a,σ₁)∧(if isEq o then peek F r σ₁ else F.ev r σ₁)=some (b,σ')∧cmpD o a b=some c∧d=.bool c:=by
  obtain ⟨⟨a,σ₁⟩,h1,e⟩:=bs e
  obtain ⟨⟨b,σ₂⟩,h2,e⟩:=bs e
  obtain ⟨c,h3,e⟩:=ms e
  obtain ⟨rfl,rfl⟩:=Prod.mk.inj e
  exact ⟨a,σ₁,b,c,h1,h2,h3,rfl⟩
theorem neg_inv {l:E} (e:stepEv F (.neg l) σ=some (d,σ')):∃ i,F.ev l σ=some (.int i,σ')∧d=.int (-i):=by
  obtain ⟨⟨a,σ₁⟩,h1,e⟩:=bs e
  obtain ⟨c,h3,e⟩:=ms e
  obtain ⟨rfl,rfl⟩:=Prod.mk.inj e
  induction a using D.casesOn with
  | int i=>exact ⟨i,h1,(Option.some.inj h3).symm⟩
  | _=>exact nos h3
theorem orv_inv {l r:E} (e:stepEv F (.orv l r) σ=some (d,σ')):∃ a σ₁,F.ev l σ=some (a,σ₁)∧((truD a=some true∧d=a∧σ'=σ₁)∨(truD a=some false∧F.ev r σ₁=some (d,σ'))):=by
  obtain ⟨⟨a,σ₁⟩,h1,e⟩:=bs e
  obtain ⟨t,h2,e⟩:=bs e
  refine ⟨a,σ₁,h1,?_⟩
  induction t using Bool.casesOn with
  | true=>obtain ⟨rfl,rfl⟩:=some2 e; exact .inl ⟨h2,rfl,rfl⟩
  | false=>exact .inr ⟨h2,e⟩
theorem tup_inv {es:List E} (e:stepEv F (.tup es) σ=some (d,σ')):∃ ds,evs F es σ=some (ds,σ')∧ds.length≤line∧d=.tup ds:=by
  obtain ⟨⟨ds,σ₁⟩,h1,e⟩:=bs e
  obtain ⟨hz,e⟩:=iteS e
  obtain ⟨rfl,rfl⟩:=Prod.mk.inj e
  exact ⟨ds,h1,hz,rfl⟩
theorem idx_inv {o i:E} (e:stepEv F (.idx o i) σ=some (d,σ')):∃ a σ₁ b a',peek F o σ=some (a,σ₁)∧F.ev i σ₁=some (b,σ')∧again o a σ'=some a'∧idxD a' b=some d:=by
  obtain ⟨⟨a,σ₁⟩,h1,e⟩:=bs e
  obtain ⟨⟨b,σ₂⟩,h2,e⟩:=bs e
  obtain ⟨a',h3,e⟩:=bs e
  obtain ⟨c,h4,e⟩:=ms e
  obtain ⟨rfl,rfl⟩:=Prod.mk.inj e
  exact ⟨a,σ₁,b,a',h1,h2,h3,h4⟩
theorem idxT_inv {o i:E} (e:stepEv F (.idxT o i) σ=some (d,σ')):∃ a σ₁ b c,F.ev o σ=some (.str a,σ₁)∧F.ev i σ₁=some (b,σ')∧idxD (.str a) b=some (.str c)∧d=.tstr c:=by
  obtain ⟨⟨a,σ₁⟩,h1,e⟩:=bs e
  obtain ⟨s,h2,e⟩:=bs e
  obtain ⟨⟨b,σ₂⟩,h3,e⟩:=bs e
  obtain ⟨c,h4,e⟩:=ms e
  obtain ⟨rfl,rfl⟩:=Prod.mk.inj e
  obtain ⟨c',h5,h6⟩:=bs h4
  obtain rfl:=strD_is h2
  obtain rfl:=strD_is h6
  exact ⟨s,σ₁,b,c,h1,h3,h5,rfl⟩
theorem slc_inv {o:E} {l u:Option E} {rv:Bool} (e:stepEv F (.slc o l u rv) σ=some (d,σ')):∃ a σ₁ lv σ₂ uv a',peek F o σ=some (a,σ₁)∧optE F l σ₁=some (lv,σ₂)∧optE F u σ₂=some (uv,σ')∧again o a σ'=some a'∧slcD a' lv uv rv=some d:=by
  obtain ⟨⟨a,σ₁⟩,h1,e⟩:=bs e
  obtain ⟨⟨lv,σ₂⟩,h2,e⟩:=bs e
  obtain ⟨⟨uv,σ₃⟩,h3,e⟩:=bs e
  obtain ⟨a',h4,e⟩:=bs e
  obtain ⟨c,h5,e⟩:=ms e
  obtain ⟨rfl,rfl⟩:=Prod.mk.inj e
  exact ⟨a,σ₁,lv,σ₂,uv,a',h1,h2,h3,h4,h5⟩
theorem set_list_inv {xs:List D} {k v d:D} (h:setD (.list xs) k v=some d):∃ i,k=.int i∧setD (.list xs) (.int i) v=some d:=by
  induction k using D.casesOn with | int i=>exact ⟨i,rfl,h⟩ | _=>exact nos h
theorem set_idict_inv {es:List (Int × D)} {k v d:D} (h:setD (.idict es) k v=some d):∃ i,k=.int i∧setD (.idict es) (.int i) v=some d:=by
  induction k using D.casesOn with | int i=>exact ⟨i,rfl,h⟩ | _=>exact nos h
theorem rev_inv {a d:D} (h:revD a=some d):∃ xs,a=.list xs∧d=.list xs.reverse:=by
  induction a using D.casesOn with | list xs=>exact ⟨xs,rfl,(some1 h).symm⟩ | _=>exact nos h
theorem len_inv {e₁:E} (e:stepEv F (.bi .len [e₁]) σ=some (d,σ')):∃ a,peek F e₁ σ=some (a,σ')∧biD .len [a]=some d:=by
  obtain ⟨⟨a,σ₁⟩,h1,e⟩:=bs e
  obtain ⟨c,h3,e⟩:=ms e
  obtain ⟨rfl,rfl⟩:=Prod.mk.inj e
  exact ⟨a,h1,h3⟩
theorem meth_inv {m:Mt} {o:E} {args:List E} (e:stepEv F (.meth m o args) σ=some (d,σ')):∃ a σ₁ ds a',peek F o σ=some (a,σ₁)∧evs F args σ₁=some (ds,σ')∧again o a σ'=some a'∧kd a=kd a'∧methD m a' ds=some d:=by
  obtain ⟨⟨a,σ₁⟩,h1,e⟩:=bs e
  obtain ⟨⟨ds,σ₂⟩,h2,e⟩:=bs e
  obtain ⟨a',h3,e⟩:=bs e
  obtain ⟨hk,e⟩:=iteN e
  obtain ⟨c,h4,e⟩:=ms e
  obtain ⟨rfl,rfl⟩:=Prod.mk.inj e
  exact ⟨a,σ₁,ds,a',h1,h2,h3,hk,h4⟩
theorem repl_inv {o old:E} {ww:List Nat} (e:stepEv F (.repl o old ww) σ=some (d,σ')):∃ xs σ₁ c,F.ev o σ=some (.str xs,σ₁)∧F.ev old σ₁=some (.tstr [c],σ')∧(xs.length≤4096∧ww.length≤64∧ww≠[c]∧c < 256)∧d=.str (replC c ww xs):=by
  obtain ⟨⟨a,σ₁⟩,h1,e⟩:=bs e
  obtain ⟨xs,h2,e⟩:=bs e
  obtain ⟨⟨b,σ₂⟩,h3,e⟩:=bs e
  obtain ⟨cc,h4,e⟩:=bs e
  obtain ⟨hg,e⟩:=iteS e
  obtain ⟨rfl,rfl⟩:=Prod.mk.inj e
  obtain rfl:=strD_is h2
  obtain rfl:=tstr1_is h4
  exact ⟨xs,σ₁,cc,h1,h3,hg,rfl⟩
theorem bi_inv {b:Bi} {a:E} {as:List E} (hb:biOk b=true) (e:stepEv F (.bi b (a :: as)) σ=some (d,σ')):∃ ds,evs F (a :: as) σ=some (ds,σ')∧biD b ds=some d:=by
  have h1:b≠.len:=fun q=>by rw [q] at hb; exact absurd hb Bool.false_ne_true
  have h2:b≠.list:=fun q=>by rw [q] at hb; exact absurd hb Bool.false_ne_true
  rw [x_bi h1 h2] at e
  obtain ⟨⟨ds,σ₁⟩,h3,e⟩:=bs e
  obtain ⟨c,h4,e⟩:=ms e
  obtain ⟨rfl,rfl⟩:=Prod.mk.inj e
  exact ⟨ds,h3,h4⟩
theorem is1_inv {b:Bi} {e₁:E} (h1:b≠.len) (h2:b≠.list) (e:stepEv F (.bi b [e₁]) σ=some (d,σ')):∃ a,F.ev e₁ σ=some (a,σ')∧biD b [a]=some d:=by
  rw [x_bi h1 h2,evs_cons] at e
  obtain ⟨⟨ds,σ₁⟩,h3,e⟩:=bs e
  obtain ⟨⟨a,σ₂⟩,h4,e'⟩:=bs h3
  obtain ⟨q,h5,h6⟩:=ms e'
  obtain rfl:=some1 h5
  obtain ⟨rfl,rfl⟩:=Prod.mk.inj h6
  obtain ⟨c,h7,h8⟩:=ms e
  obtain ⟨rfl,rfl⟩:=Prod.mk.inj h8
  exact ⟨a,h4,h7⟩
theorem isBoolD_inv {a d:D} (e:isBoolD a=some d):∃ b,d=.bool b:=by
  induction a using D.casesOn with
  | bool _=>exact ⟨_,(Option.some.inj e).symm⟩
  | int _=>exact ⟨_,(Option.some.inj e).symm⟩
  | _=>exact nos e
theorem isIntD_inv {a d:D} (e:isIntD a=some d):∃ b,d=.bool b:=by
  induction a using D.casesOn with
  | bool _=>exact ⟨_,(Option.some.inj e).symm⟩
  | int _=>exact ⟨_,(Option.some.inj e).symm⟩
  | _=>exact nos e
end
end Mine
end
section
open PySem PySem.W PyProof.Rows
set_option autoImplicit false
namespace Mine
section
variable {A:Around} {E:Value→Shared→Prop} {s:Shared} {k:Tok} {M:Addr→Prop}
theorem sub_tail {value slice:Expr} {o i:Value} {T id:String} {ops:List Value} {Q:Value→Shared→Prop} (hT:s.TypeIs o T)
    (hl:typeLookup (.type T) "__getitem__" = pure (some (.builtin id))) (h:wpAny (model prog w) A (getItem o i) Q E s)
    (hs:subscripted slice false o i=operate ops (getItem o i)):wpAny (model prog w) A (subscriptTail value slice o i) Q E s:=by
  delta subscriptTail
  refine wpAny_bind ?_
  rw [getitemInPython_of_ne hT.not_modules]
  refine wpAny_bind (wpAny_specialOf hT hl ?_)
  have fin:wpAny (model prog w) A (subscripted slice false o i) (fun r s₃=>wpAny (model prog w) A (letTemporaryGo value o r >>= fun _=>pure r) Q E s₃) E s:=by
    rw [hs]
    exact wpAny_operating (wpAny_mono h (fun r s₃ h₃=>wpAny_bind (wpAny_letTemporaryGo (wpAny_pure h₃))) fun _ _ x=>x)
  first
    | exact wpAny_pure (wpAny_bind fin)
    | exact wpAny_bind (wpAny_pure (wpAny_bind fin))
    | exact wpAny_bind fin
theorem IsT.isTuple' {h:Heap} {t:Addr} {items:Array Value} {n:Nat} (x:IsT h t items n):h.IsTuple t items:=⟨_,x,rfl,n,rfl⟩
noncomputable def hasItem:D→Bool
  | .str _ | .list _ | .wlist _ | .tup _ | .idict _ | .sdict _=>true
  | _=>false
theorem Seen.type {v:Value} {d:D} (x:Seen s.heap k M v d) (h:hasItem d=true):∃ T id,s.TypeIs v T∧typeLookup (.type T) "__getitem__" = pure (some (.builtin id)):=by
  rcases x with x | x
  · induction d using D.casesOn with
    | str _=>obtain ⟨_,rfl,_⟩:=x.inv; exact ⟨_,_,typeIs_str _ _ _,F.slot_str_getitem.lookup⟩
    | list _=>obtain ⟨_,_,_,rfl,_,l,_⟩:=x.inv; exact ⟨_,_,l.isList.typeIs,F.slot_list_getitem.lookup⟩
    | wlist _=>obtain ⟨_,_,rfl,_,l,_⟩:=x.inv; exact ⟨_,_,l.typeIs,F.slot_list_getitem.lookup⟩
    | tup _=>obtain ⟨_,_,_,rfl,_,l,_⟩:=x.inv; exact ⟨_,_,(IsT.isTuple' l).typeIs,F.slot_tuple_getitem.lookup⟩
    | idict _=>obtain ⟨_,_,rfl,_,_,l,_⟩:=x.inv; exact ⟨_,_,l.typeIs,F.slot_dict_getitem.lookup⟩
    | sdict _=>obtain ⟨_,_,rfl,_,_,l,_⟩:=x.inv; exact ⟨_,_,l.typeIs,F.slot_dict_getitem.lookup⟩
    | _=>exact absurd h Bool.false_ne_true
  · induction x using OwnR.casesOn with
    | list _ l=>exact ⟨_,_,l.isList.typeIs,F.slot_list_getitem.lookup⟩
    | idict _ _ l=>exact ⟨_,_,l.typeIs,F.slot_dict_getitem.lookup⟩
theorem idxD_has {o i d:D} (e:idxD o i=some d):hasItem o=true:=by
  induction o using D.casesOn <;> first | rfl | exact nos e
theorem notSlice_sub {pi:Expr} (h:notSlice pi=true) (o i:Value):subscripted pi false o i=operate [o,i] (getItem o i):=by
  induction pi using Expr.casesOn <;> first | rfl | exact absurd h Bool.false_ne_true
end
section
variable {lv:Nat} {F:Funs} {n:Nat} {φ:Fx} {loc:Locs} {σ σ':St} {c:Cf} {S:Sx} {env:Env} {A:Around} {EE:Value→Shared→Prop} {Q:Value→Shared→Prop} {d:D}
variable (ev:EvOK F n) (Gx:Gl φ.hT) (r:Room n A) (V:EnvOK φ S loc env) (R:Rep φ loc σ c)
include ev Gx r V R
theorem cmp_core {o:Cmp} {l rr:E} {pl pr:Expr} (tl:TrE lv S l pl) (tr:TrE lv S rr pr) (e:stepEv F (.cmp o l rr) σ=some (d,σ'))
    (hQ:∀ b c',Ge φ loc σ c σ' c'→d=.bool b→Q (.bool b) c'.s) :
    wpAny (model prog w) A (eval pl env) (fun a s₁=>wpAny (model prog w) A (eval pr env) (fun b s₂=>wpAny (model prog w) A (compareOp (cmpOf o) a b) Q EE s₂) EE s₁) EE c.s:=by
  obtain ⟨a,σ₁,b,b',h1,h2,h3,rfl⟩:=cmp_inv e
  refine ev Gx r V R tl h1 fun x c₁ g₁ r₁=>?_
  split at h2
  · refine peek_ok ev Gx r V g₁.go.rep tr h2 fun y c₂ g₂ k₂=>?_
    exact seen_cmp (g₂.go.real r₁) (k₂.seen g₂.go.rep) (by have:=r.units; exact Nat.lt_of_succ_lt this) h3 fun s' x=>hQ b' ⟨s',c₂.M,c₂.vs⟩ ((g₁.trans g₂).ext x) rfl
  · refine ev Gx r V g₁.go.rep tr h2 fun y c₂ g₂ r₂=>?_
    exact seen_cmp (g₂.go.real r₁) (.inl r₂) (by have:=r.units; exact Nat.lt_of_succ_lt this) h3 fun s' x=>hQ b' ⟨s',c₂.M,c₂.vs⟩ ((g₁.trans g₂).ext x) rfl
variable (hQ:∀ v c',Ge φ loc σ c σ' c'→Real c'.s.heap c'.s.toks c'.M v d→Q v c'.s)
include hQ
theorem ev_cmp {o:Cmp} {l rr:E} {po:CmpOp} {pl pr:Expr} {p:Pos} (ho:po=cmpOf o) (hm:behindInMarks (cmpOf o) pr=false) (tl:TrE lv S l pl) (tr:TrE lv S rr pr) (e:stepEv F (.cmp o l rr) σ=some (d,σ')) :
    wpAny (model prog w) A (eval (.Compare pl [po] [pr] p) env) Q EE c.s:=by
  subst ho
  exact wpAny_Compare1 (cmp_core ev Gx r V R tl tr e fun b c' g h=>hQ _ c' g (h ▸ .bool b)) hm
theorem ev_bin {o:Op} {l rr:E} {po:Operator} {pl pr:Expr} {p:Pos} (ho:po=opOf o) (tl:TrE lv S l pl) (tr:TrE lv S rr pr) (e:stepEv F (.bin o l rr) σ=some (d,σ')):wpAny (model prog w) A (eval (.BinOp pl po pr p) env) Q EE c.s:=by
  subst ho
  obtain ⟨a,σ₁,b,h1,h2,h3⟩:=bin_inv e
  refine wpAny_BinOp (ev Gx r V R tl h1 fun x c₁ g₁ r₁=>ev Gx r V g₁.go.rep tr h2 fun y c₂ g₂ r₂=>?_)
  exact bin_ok g₂.go.rep.stand (g₂.go.real r₁) r₂ h3 fun v s' x r₃=>hQ v ⟨s',c₂.M,c₂.vs⟩ ((g₁.trans g₂).ext x) r₃
theorem ev_neg {e₁:E} {pe:Expr} {p:Pos} (t:TrE lv S e₁ pe) (e:stepEv F (.neg e₁) σ=some (d,σ')):wpAny (model prog w) A (eval (.UnaryOp .USub pe p) env) Q EE c.s:=by
  obtain ⟨i,h1,rfl⟩:=neg_inv e
  refine wpAny_UnaryOp (ev Gx r V R t h1 fun x c₁ g₁ r₁=>?_)
  obtain ⟨t,rfl⟩:=r₁.inv
  exact P.neg_int (hQ _ ⟨_,c₁.M,c₁.vs⟩ (g₁.ext (Ext.tk1 _)) (.int _ _))
theorem ev_orv {l rr:E} {pl pr:Expr} {p:Pos} (tl:TrE lv S l pl) (tr:TrE lv S rr pr) (e:stepEv F (.orv l rr) σ=some (d,σ')):wpAny (model prog w) A (eval (.BoolOp .Or [pl,pr] p) env) Q EE c.s:=by
  obtain ⟨a,σ₁,h1,e⟩:=orv_inv e
  show wpAny _ _ (boolOp p .Or [eval pl env,eval pr env]) _ _ _
  delta boolOp
  refine wpAny_bind (ev Gx r V R tl h1 fun x c₁ g₁ r₁=>wpAny_bind (wpAny_standAt (wpAny_bind (wpAny_holding ?_))))
  rcases e with ⟨h2,rfl,rfl⟩ | ⟨h2,e⟩
  · exact tru_ok r₁ h2 fun s' x=>wpAny_pure (hQ _ ⟨s',c₁.M,c₁.vs⟩ (g₁.ext x) (r₁.ext x))
  · refine tru_ok r₁ h2 fun s' x=>?_
    show wpAny _ _ (boolOp p .Or [eval pr env]) _ _ _
    delta boolOp
    have g:=g₁.ext x
    exact ev Gx r V g.go.rep tr e fun v c₂ g₂ r₂=>hQ v c₂ (g.trans g₂) r₂
theorem ev_tup {es:List E} {pes:List Expr} {k:Nat} {p:Pos} (t:TrL (TrE lv) S es pes) (e:stepEv F (.tup es) σ=some (d,σ')):wpAny (model prog w) A (eval (.Tuple pes k p) env) Q EE c.s:=by
  obtain ⟨ds,h1,hz,rfl⟩:=tup_inv e
  refine Tuple_ ?_
  rw [backTo_tr t]
  refine evs_ok ev Gx r V R t h1 fun vs c₁ g₁ r₁=>wpAny_newTuple ?_ (by rw [r₁.len,sizeLine_eq]; rw [line_is] at hz; lia)
  exact hQ _ ⟨_,c₁.M,c₁.vs⟩ (g₁.ext (Ext.push _ _)) (newT_ok g₁.go.rep.stand r₁)
theorem ev_idx {o i:E} {po pi:Expr} {p:Pos} (hs:notSlice pi=true) (to:TrE lv S o po) (ti:TrE lv S i pi) (e:stepEv F (.idx o i) σ=some (d,σ')):wpAny (model prog w) A (eval (.Subscript po pi p) env) Q EE c.s:=by
  obtain ⟨a,σ₁,b,a',h1,h2,h3,h4⟩:=idx_inv e
  refine Subscript_ (peek_ok ev Gx r V R to h1 fun x c₁ g₁ k₁=>ev Gx r V g₁.go.rep ti h2 fun y c₂ g₂ r₂=>?_)
  have k₂:=(k₁.again g₂ g₁.go.rep h3).seen g₂.go.rep
  obtain ⟨T,id,hT,hl⟩:=k₂.type (idxD_has h4)
  exact sub_tail hT hl (seen_idx k₂ r₂ h4 fun v s' x r₃=>hQ v ⟨s',c₂.M,c₂.vs⟩ ((g₁.trans g₂).ext x) r₃) (notSlice_sub hs _ _)
theorem ev_idxT {o i:E} {po pi:Expr} {p:Pos} (hs:notSlice pi=true) (to:TrE lv S o po) (ti:TrE lv S i pi) (e:stepEv F (.idxT o i) σ=some (d,σ')):wpAny (model prog w) A (eval (.Subscript po pi p) env) Q EE c.s:=by
  obtain ⟨a,σ₁,b,c',h1,h2,h3,rfl⟩:=idxT_inv e
  refine Subscript_ (ev Gx r V R to h1 fun x c₁ g₁ r₁=>ev Gx r V g₁.go.rep ti h2 fun y c₂ g₂ r₂=>?_)
  have k₂:Seen c₂.s.heap c₂.s.toks c₂.M x (.str a):=.inl (g₂.go.real r₁)
  obtain ⟨T,id,hT,hl⟩:=k₂.type rfl
  refine sub_tail hT hl ?_ (notSlice_sub hs _ _)
  obtain ⟨t,rfl,hz⟩:=r₁.inv
  induction b using D.casesOn with
  | int j=>
    obtain ⟨u,rfl⟩:=r₂.inv
    obtain ⟨hs,h3⟩:=iteN h3
    rw [sml_iff] at hs
    obtain ⟨cc,q,e'⟩:=Option.map_eq_some_iff.mp h3
    obtain rfl:[cc]=c':=by injection e'
    obtain ⟨jj,e1,e2⟩:=seqIdx q
    have pos:0 < c₂.s.toks:=g₂.go.rep.pos
    refine P.getItem_str (c:=cc) (by rw [Bool.or_eq_false_iff]; exact ⟨decide_eq_false (by lia),decide_eq_false (by lia)⟩) ?_ (hQ _ ⟨_,c₂.M,c₂.vs⟩ ((g₁.trans g₂).ext (Ext.tk1 _)) ?_)
    · rw [len_mkS,e1]
      simpa [mkS] using e2
    · exact .tstr (s:=[cc]) (by rw [line_is]; exact Nat.le_of_ble_eq_true rfl) (Nat.ne_of_gt pos) (Nat.lt_succ_self _)
  | _=>exact nos h3
omit R hQ in
theorem optE_ok {eo:Option E} {po:Option Expr} {d':D} {σ₁:St} {c₀:Cf} (R₀:Rep φ loc σ c₀) (t:TrO (TrE lv) S eo po) (h:optE F eo σ=some (d',σ₁)) {Q':Value→Shared→Prop}
    (hQ':∀ v c',Ge φ loc σ c₀ σ₁ c'→Real c'.s.heap c'.s.toks c'.M v d'→Q' v c'.s):wpAny (model prog w) A (evalPart po env) Q' EE c₀.s:=by
  induction t using TrO.casesOn with
  | none=>obtain ⟨rfl,rfl⟩:=some2 h; exact wpAny_pure (hQ' _ c₀ (.refl R₀) .none)
  | some t=>exact ev Gx r V R₀ t h hQ'
end
end Mine
end
section
open PySem PySem.W PyProof.Rows
set_option autoImplicit false
namespace Mine
theorem allF {α β:Type} (f:α→β) (l:List α):((l.map fun a=>(false,f a)).all fun x=>!x.1)=true:=by
  induction l with | nil=>rfl | cons a l ih=>exact ih
theorem bi_len:biL.lookup (bn .len)=some (.builtin "len"):=by kernel_rfl
theorem bi_range:biL.lookup (bn .range)=some (.type "range"):=by kernel_rfl
theorem bi_list:biL.lookup (bn .list)=some (.type "list"):=by kernel_rfl
theorem bi_min:biL.lookup (bn .min)=some (.builtin "min"):=by kernel_rfl
theorem bi_max:biL.lookup (bn .max)=some (.builtin "max"):=by kernel_rfl
theorem bi_sum:biL.lookup (bn .sum)=some (.builtin "sum"):=by kernel_rfl
theorem bi_sorted:biL.lookup (bn .sorted)=some (.builtin "sorted"):=by kernel_rfl
theorem bi_isi:biL.lookup ("isinstance" : Str)=some (.builtin "isinstance"):=by kernel_rfl
theorem bi_bool:biL.lookup ("bool" : Str)=some (.type "bool"):=by kernel_rfl
theorem bi_int:biL.lookup ("int" : Str)=some (.type "int"):=by kernel_rfl
theorem bi_enum:biL.lookup ("enumerate" : Str)=some (.type "enumerate"):=by kernel_rfl
theorem bi_dict:biL.lookup ("dict" : Str)=some (.type "dict"):=by kernel_rfl
theorem bi_zip:biL.lookup ("zip" : Str)=some (.type "zip"):=by kernel_rfl
theorem kd_str {a:D} {s:List Nat} (h:kd a=kd (.str s)):∃ s',a=.str s':=by induction a using D.casesOn <;> first | exact ⟨_,rfl⟩ | exact absurd h (Nat.ne_of_beq_eq_false rfl)
theorem kd_list {a:D} {s:List D} (h:kd a=kd (.list s)):∃ s',a=.list s':=by induction a using D.casesOn <;> first | exact ⟨_,rfl⟩ | exact absurd h (Nat.ne_of_beq_eq_false rfl)
theorem kd_sdict {a:D} {s:List (List Nat × D)} (h:kd a=kd (.sdict s)):∃ s',a=.sdict s':=by induction a using D.casesOn <;> first | exact ⟨_,rfl⟩ | exact absurd h (Nat.ne_of_beq_eq_false rfl)
theorem slot_kd {s:Shared} {k:Tok} {M:Addr→Prop} {m:Mt} {a o d:D} {ds:List D} {x:Value} (hx:Seen s.heap k M x a) (hk:kd a=kd o) (e:methD m o ds=some d) :
    ∃ T,PlainAttrs T∧PySem.Slot T (mn m) (mtId o m)∧typeOf (.builtin (mtId o m))=pure (.type "method_descriptor")∧s.TypeIs x T∧(∀ a,x=.ref a→∃ ob,s.heap.get? a=some ob∧ob.dict=none):=by
  have lst:∀ ds,Seen s.heap k M x (.list ds)→∃ T,PlainAttrs T∧PySem.Slot T "index" "list.index" ∧ typeOf (.builtin "list.index")=pure (.type "method_descriptor")∧s.TypeIs x T∧(∀ a',x=.ref a'→∃ ob,s.heap.get? a'=some ob∧ob.dict=none):=by
    intro ds hx
    have:∃ a vs n,x=.ref a∧IsL s.heap a vs n:=by
      rcases hx with hx | hx
      · obtain ⟨a,vs,n,rfl,_,l,_⟩:=hx.inv; exact ⟨a,_,n,rfl,l⟩
      · obtain ⟨a,vs,n,rfl,_,l,_⟩:=hx.inv; exact ⟨a,_,n,rfl,l⟩
    obtain ⟨a,vs,n,rfl,l⟩:=this
    exact ⟨"list",PySem.F.plainAttrs_list,PySem.F.slot_list_index,PySem.F.type_list_index,l.isList.typeIs,fun b q=>Value.ref.inj q ▸ ⟨_,l,rfl⟩⟩
  have str:∀ xs,Seen s.heap k M x (.str xs)→s.TypeIs x "str" ∧ (∀ a',x=.ref a'→∃ ob,s.heap.get? a'=some ob∧ob.dict=none):=by
    intro xs hx
    rcases hx with hx | hx
    · obtain ⟨t,rfl,_⟩:=hx.inv; exact ⟨typeIs_str _ _ _,fun _ q=>nomatch q⟩
    · exact hx.inv.elim
  rcases meth_kind e with ⟨rfl,es,rfl⟩ | ⟨s₀,rfl⟩ | ⟨rfl,xs,rfl,_⟩
  · obtain ⟨es',rfl⟩:=kd_sdict hk
    rcases hx with hx | hx
    · obtain ⟨a,kvs,rfl,_,_,l,_⟩:=hx.inv
      refine ⟨"dict",PySem.F.plainAttrs_dict,PySem.F.slot_dict_get,PySem.F.type_dict_get,l.typeIs,fun b q=>?_⟩
      obtain ⟨o,_,_,e,x,_⟩:=l
      exact Value.ref.inj q ▸ ⟨o,e,x.2.1⟩
    · exact hx.inv.elim
  · obtain ⟨s₁,rfl⟩:=kd_str hk
    induction m using Mt.casesOn with
    | lower=>exact ⟨"str",PySem.F.plainAttrs_str,PySem.F.slot_str_lower,PySem.F.type_str_lower,str _ hx⟩
    | upper=>exact ⟨"str",PySem.F.plainAttrs_str,PySem.F.slot_str_upper,PySem.F.type_str_upper,str _ hx⟩
    | split=>exact ⟨"str",PySem.F.plainAttrs_str,PySem.F.slot_str_split,PySem.F.type_str_split,str _ hx⟩
    | join=>exact ⟨"str",PySem.F.plainAttrs_str,PySem.F.slot_str_join,PySem.F.type_str_join,str _ hx⟩
    | index=>exact ⟨"str",PySem.F.plainAttrs_str,PySem.F.slot_str_index,PySem.F.type_str_index,str _ hx⟩
    | get=>obtain ⟨a,b,rfl,e⟩:=two_inv e; exact nos e
  · obtain ⟨ys,rfl⟩:=kd_list hk
    exact lst _ hx
section
variable {lv:Nat} {F:Funs} {n:Nat} {φ:Fx} {loc:Locs} {σ σ':St} {c:Cf} {S:Sx} {env:Env} {A:Around} {EE:Value→Shared→Prop} {Q:Value→Shared→Prop} {d:D}
variable (ev:EvOK F n) (Gx:Gl φ.hT) (r:Room n A) (V:EnvOK φ S loc env) (R:Rep φ loc σ c)
variable (hQ:∀ v c',Ge φ loc σ c σ' c'→Real c'.s.heap c'.s.toks c'.M v d→Q v c'.s)
include ev Gx r V R hQ
theorem ev_slc {o:E} {l u:Option E} {po:Expr} {pl pu:Option Expr} {q p:Pos} (to:TrE lv S o po) (tl:TrO (TrE lv) S l pl) (tu:TrO (TrE lv) S u pu) (e:stepEv F (.slc o l u false) σ=some (d,σ')) :
    wpAny (model prog w) A (eval (.Subscript po (.Slice pl pu Option.none q) p) env) Q EE c.s:=by
  obtain ⟨a,σ₁,lv,σ₂,uv,a',h1,h2,h3,h4,h5⟩:=slc_inv e
  refine Subscript_ (peek_ok ev Gx r V R to h1 fun x c₁ g₁ k₁=>wpAny_Slice (optE_ok ev Gx r V g₁.go.rep tl h2 fun vl c₂ g₂ r₂=>optE_ok ev Gx r V g₂.go.rep tu h3 fun vu c₃ g₃ r₃=>wpAny_pure ?_))
  have k₃:=((k₁.again (g₂.trans g₃) g₁.go.rep h4).seen ((g₂.trans g₃).go.rep))
  have g:Ge φ loc σ c σ' c₃:=g₁.trans (g₂.trans g₃)
  have hsl:=Heap.IsSliceOf.new c₃.s.heap vl vu .none
  have x0:Ext c₃.s { c₃.s with heap:=c₃.s.heap.push { cls:=.type "slice",data:=.fields #[vl,vu,.none] } }:=Ext.push _ _
  have S':Stand (c₃.s.heap.push { cls:=.type "slice",data:=.fields #[vl,vu,.none] }) c₃.M:=x0.stand g.go.rep.stand
  have fin:∀ v s',Ext { c₃.s with heap:=c₃.s.heap.push { cls:=.type "slice",data:=.fields #[vl,vu,.none] } } s'→Real s'.heap s'.toks c₃.M v d→Q v s':=
    fun v s' x rr=>hQ v ⟨s',c₃.M,c₃.vs⟩ (g.ext (x0.trans x)) rr
  obtain ⟨l',el,h5⟩:=bs h5
  obtain ⟨u',eu,h5⟩:=bs h5
  have p1:=(Part.of (g₃.go.real r₂) el)
  have p2:=(Part.of r₃ eu)
  have lst:∀ {b vs ds},c₃.s.heap.IsList b vs.toArray→RealL c₃.s.heap c₃.s.toks c₃.M vs ds→ds.length≤line→d=.list (cut ds l' u')→wpAny (model prog w) A (subscriptTail po (.Slice pl pu Option.none q) (.ref b) (.ref c₃.s.heap.objs.size)) Q EE
      { c₃.s with heap:=c₃.s.heap.push { cls:=.type "slice",data:=.fields #[vl,vu,.none] } }:=by
    intro b vs ds hl hr hz hd
    have hl':Heap.IsList (c₃.s.heap.push { cls:=.type "slice",data:=.fields #[vl,vu,.none] }) b vs.toArray:=IsList.at hl fun o e=>x0.keep _ o e
    refine sub_tail (T:= "list") (Heap.IsList.typeIs hl') PySem.F.slot_list_getitem.lookup ?_ rfl
    exact slcL_ok S' hl' (hr.ext x0) hsl p1.isPart p2.isPart hz fun v s' x rr=>fin v s' x (hd ▸ rr)
  induction a' using D.casesOn with
  | str xs=>
    obtain rfl:=some1 h5
    have k₄:∃ t,x=.str (mkS xs) t∧xs.length≤line:=by
      rcases k₃ with k | k
      · exact k.inv
      · exact (OwnR.inv k).elim
    obtain ⟨t,rfl,hz⟩:=k₄
    refine sub_tail (T:= "str") (typeIs_str _ _ _) PySem.F.slot_str_getitem.lookup ?_ rfl
    exact slcS_ok hsl p1 p2 hz fun v s' x rr=>fin v s' x rr
  | list _=>
    obtain rfl:=some1 h5
    rcases k₃ with k | k
    · obtain ⟨_,_,_,rfl,m,l,r,z⟩:=k.inv; exact lst l.isList r z rfl
    · obtain ⟨_,_,_,rfl,m,l,r,z⟩:=k.inv; exact lst l.isList r z rfl
  | wlist _=>
    obtain rfl:=some1 h5
    rcases k₃ with k | k
    · obtain ⟨_,_,rfl,m,l,r,z⟩:=k.inv; exact lst l r z rfl
    · exact (OwnR.inv k).elim
  | _=>exact nos h5
theorem ev_slcR {o:E} {po:Expr} {k:Nat} {rp t q p:Pos} (to:TrE lv S o po) (e:stepEv F (.slc o Option.none Option.none true) σ=some (d,σ')) :
    wpAny (model prog w) A (eval (.Subscript po (.Slice Option.none Option.none (some (.UnaryOp .USub (.Constant (.int 1) k rp) t)) q) p) env) Q EE c.s:=by
  obtain ⟨a,σ₁,lv,σ₂,uv,a',h1,h2,h3,h4,h5⟩:=slc_inv e
  obtain ⟨rfl,rfl⟩:=some2 h2
  obtain ⟨rfl,rfl⟩:=some2 h3
  refine Subscript_ (peek_ok ev Gx r V R to h1 fun x c₁ g₁ k₁=>wpAny_Slice (wpAny_pure (wpAny_pure ?_)))
  show wpAny _ _ (eval (.UnaryOp .USub (.Constant (.int 1) k rp) t) env) _ _ _
  refine wpAny_UnaryOp (wpAny_Constant_int (P.neg_int ?_))
  have k₃:=((k₁.again (.refl g₁.go.rep) g₁.go.rep h4).seen g₁.go.rep)
  obtain ⟨xs,rfl,rfl⟩:=rev_inv (show revD a'=some d from h5)
  have lst:∃ b vs,x=.ref b∧c₁.s.heap.IsList b vs.toArray∧RealL c₁.s.heap c₁.s.toks c₁.M vs xs∧xs.length≤line:=by
    rcases k₃ with k | k
    · obtain ⟨_,_,_,rfl,m,l,r,z⟩:=k.inv; exact ⟨_,_,rfl,l.isList,r,z⟩
    · obtain ⟨_,_,_,rfl,m,l,r,z⟩:=k.inv; exact ⟨_,_,rfl,l.isList,r,z⟩
  obtain ⟨b,vs,rfl,hl,hr,hz⟩:=lst
  have x0:Ext c₁.s { c₁.s with heap:=c₁.s.heap.push { cls:=.type "slice",data:=.fields #[.none,.none,.int (-1) (c₁.s.toks+1)] },toks:=c₁.s.toks+1+1 }:=Ext.pushTk _ _ (Nat.le_succ_of_le (Nat.le_succ _))
  refine sub_tail (T:= "list") (Heap.IsList.typeIs (IsList.at hl fun o e=>x0.keep _ o e)) PySem.F.slot_list_getitem.lookup ?_ rfl
  exact slcR_ok (x0.stand g₁.go.rep.stand) (IsList.at hl fun o e=>x0.keep _ o e) (hr.ext x0) (Heap.IsSliceOf.new _ _ _ _) hz fun v s' x rr=>hQ v ⟨s',c₁.M,c₁.vs⟩ (g₁.ext (x0.trans x)) rr
theorem ev_len {e₁:E} {x:Str} {q p:Pos} {pe:Expr} (hb:bnOk S "len" = true) (hx:x = "len") (t:TrE lv S e₁ pe) (e:stepEv F (.bi .len [e₁]) σ=some (d,σ')) :
    wpAny (model prog w) A (eval (.Call (.Name x q) [pe] [] p) env) Q EE c.s:=by
  subst hx
  obtain ⟨a,h1,h2⟩:=len_inv e
  have se:=starEach_tr (env:=env) (TrL.cons t .nil)
  refine Call_ (bname_ok Gx V R hb bi_len ?_)
  refine callWith_builtin1 ?_ (by rw [se]; rfl)
  rw [backTo_tr (TrL.cons t .nil)]
  refine Calls.spliced_cons (peek_ok ev Gx r V R t h1 fun v c₁ g₁ k₁=>Calls.spliced_nil ?_)
  exact seen_len g₁.go.rep.stand r.1 (k₁.seen g₁.go.rep) h2 fun v s' x rr=>hQ v ⟨s',c₁.M,c₁.vs⟩ (g₁.ext x) rr
theorem ev_bi {b:Bi} {a:E} {as:List E} {x:Str} {q p:Pos} {pargs:List Expr} (hb0:biOk b=true) (hb:bnOk S (bn b)=true) (hx:x=bn b) (t:TrL (TrE lv) S (a :: as) pargs) (e:stepEv F (.bi b (a :: as)) σ=some (d,σ')) :
    wpAny (model prog w) A (eval (.Call (.Name x q) pargs [] p) env) Q EE c.s:=by
  subst hx
  obtain ⟨ds,h1,h2⟩:=bi_inv hb0 e
  have se:=starEach_tr (env:=env) t
  have bt:=backTo_tr (env:=env) t p
  have run:∀ {Q':Value→Shared→Prop},(∀ v s',Q v s'→Q' v s')→wpAny (model prog w) A (spliced (pargs.map fun pe=>(false,eval pe env))) (fun vs s₁=>wpAny (model prog w) A (call (biV b) vs) Q EE s₁) EE c.s:=by
    intro Q' _
    refine evs_ok ev Gx r V R t h1 fun vs c₁ g₁ r₁=>?_
    refine bi_ok g₁.go.rep.stand r.1 r₁ h2 ?_ fun v s' x rr=>hQ v ⟨s',c₁.M,c₁.vs⟩ (g₁.ext x) rr
    cases b <;> simp [biOk] at hb0 ⊢
  have run:=run (Q':=Q) fun _ _ q=>q
  obtain ⟨_,_,rfl,t,ts⟩:=t.inv
  have hp:=congrArg (fun l=>List.any l (·.1)) (backTo_tr (env:=env) ts p)
  rw [show List.any (List.map (fun pe=>(false,eval pe env)) _) (fun x:Bool × Sem Value=>x.1)=false by simp] at hp
  refine Call_ ?_
  cases b <;> try ((first | exact absurd hb0 Bool.false_ne_true | cases hb0); done)
  · refine bname_ok Gx V R hb bi_range (Pv.callWith_type1 (hplain:=hp) ?_ (starEach_cons t _))
    rw [bt]; exact run
  · refine bname_ok Gx V R hb bi_min (PyProof.Rows.callWith_builtin1 (hplain:=hp) ?_ (starEach_cons t _))
    rw [bt]; exact run
  · refine bname_ok Gx V R hb bi_max (PyProof.Rows.callWith_builtin1 (hplain:=hp) ?_ (starEach_cons t _))
    rw [bt]; exact run
  · refine bname_ok Gx V R hb bi_sum (PyProof.Rows.callWith_builtin1 (hplain:=hp) ?_ (starEach_cons t _))
    rw [bt]; exact run
  · refine bname_ok Gx V R hb bi_sorted (PyProof.Rows.callWith_builtin1 (hplain:=hp) ?_ (starEach_cons t _))
    rw [bt]; exact run
theorem ev_isB {e₁:E} {x y:Str} {q p rp:Pos} {pe:Expr} (hb:bnOk S "isinstance" = true) (hb':bnOk S "bool" = true) (hx:x = "isinstance") (hy:y = "bool") (t:TrE lv S e₁ pe) (e:stepEv F (.bi .isBool [e₁]) σ=some (d,σ')) :
    wpAny (model prog w) A (eval (.Call (.Name x q) [pe,.Name y rp] [] p) env) Q EE c.s:=by
  subst hx hy
  obtain ⟨a,h0,h2⟩:=is1_inv (b:=.isBool) nofun nofun e
  have se:starEach [pe,.Name "bool" rp] env=[(false,eval pe env),(false,eval (.Name "bool" rp) env)]:=starEach_cons t _
  refine Call_ (bname_ok Gx V R hb bi_isi ?_)
  refine callWith_builtin1 ?_ (by rw [se]; rfl)
  rw [se]
  refine Calls.spliced_cons (ev Gx r V R t h0 fun v c₁ g₁ r₁=>Calls.spliced_cons (bname_ok Gx V g₁.go.rep hb' bi_bool (Calls.spliced_nil ?_)))
  have hd:=isBoolD_inv h2
  obtain ⟨b,rfl⟩:=hd
  exact isi_bool r₁ h2 fun s' x=>hQ _ ⟨s',c₁.M,c₁.vs⟩ (g₁.ext x) (.bool b)
theorem ev_isI {e₁:E} {x y:Str} {q p rp:Pos} {pe:Expr} (hb:bnOk S "isinstance" = true) (hb':bnOk S "int" = true) (hx:x = "isinstance") (hy:y = "int") (t:TrE lv S e₁ pe) (e:stepEv F (.bi .isInt [e₁]) σ=some (d,σ')) :
    wpAny (model prog w) A (eval (.Call (.Name x q) [pe,.Name y rp] [] p) env) Q EE c.s:=by
  subst hx hy
  obtain ⟨a,h0,h2⟩:=is1_inv (b:=.isInt) nofun nofun e
  have se:starEach [pe,.Name "int" rp] env=[(false,eval pe env),(false,eval (.Name "int" rp) env)]:=starEach_cons t _
  refine Call_ (bname_ok Gx V R hb bi_isi ?_)
  refine callWith_builtin1 ?_ (by rw [se]; rfl)
  rw [se]
  refine Calls.spliced_cons (ev Gx r V R t h0 fun v c₁ g₁ r₁=>Calls.spliced_cons (bname_ok Gx V g₁.go.rep hb' bi_int (Calls.spliced_nil ?_)))
  have hd:=isIntD_inv h2
  obtain ⟨b,rfl⟩:=hd
  exact isi_int r₁ h2 fun s' x=>hQ _ ⟨s',c₁.M,c₁.vs⟩ (g₁.ext x) (.bool b)
theorem ev_meth {m:Mt} {o:E} {args:List E} {nm:Str} {po:Expr} {ap p:Pos} {pargs:List Expr} (hn:nm=mn m) (hbase:∀ env t,attributeBase po (mn m) env t=t) (hline:(ap.endLine == p.line)=true)
    (hlen:decide (pargs.length < 30)=true) (to:TrE lv S o po) (ta:TrL (TrE lv) S args pargs) (e:stepEv F (.meth m o args) σ=some (d,σ')) :
    wpAny (model prog w) A (eval (.Call (.Attribute po nm ap) pargs [] p) env) Q EE c.s:=by
  subst hn
  obtain ⟨a,σ₁,ds,a',h1,h2,h3,hk,h4⟩:=meth_inv e
  refine wpAny_Call_method_late (hbase _ _) ?_ hline rfl ?_
  · rw [backTo_tr ta]
    rw [allF]; exact hlen
  refine peek_ok ev Gx r V R to h1 fun x c₁ g₁ k₁=>?_
  have fin:∀ (vs:List Value) (c₂:Cf),Ge φ loc σ₁ c₁ σ' c₂→RealL c₂.s.heap c₂.s.toks c₂.M vs ds→wpAny (model prog w) A (call (.builtin (mtId a' m)) (x :: vs)) Q EE c₂.s:=fun vs c₂ g₂ r₂=>
    seen_meth g₂.go.rep.stand ((k₁.again g₂ g₁.go.rep h3).seen g₂.go.rep) r₂ r.units h4 fun v s' x rr=>hQ v ⟨s',c₂.M,c₂.vs⟩ ((g₁.trans g₂).ext x) rr
  have so:∃ T,PlainAttrs T∧PySem.Slot T (mn m) (mtId a' m)∧typeOf (.builtin (mtId a' m))=pure (.type "method_descriptor")∧c₁.s.TypeIs x T∧(∀ a,x=.ref a→∃ ob,c₁.s.heap.get? a=some ob∧ob.dict=none):=slot_kd (k₁.seen g₁.go.rep) hk h4
  obtain ⟨T,hp,hs,hty,hT,hd⟩:=so
  refine ⟨T,mtId a' m,hp,hs,hty,hT,hd,?_⟩
  induction ta using TrL.casesOn with
  | nil=>
    obtain ⟨rfl,rfl⟩:=some2 h2
    exact callWith_method0 (fin [] c₁ (.refl g₁.go.rep) .nil)
  | cons t ts=>
    refine callWith_method1 ?_ (starEach_cons t _) ?_
    · rw [backTo_tr (.cons t ts)]
      exact evs_ok ev Gx r V g₁.go.rep (.cons t ts) h2 fun vs c₂ g₂ r₂=>fin vs c₂ g₂ r₂
    · rw [backTo_tr ts]; simp
theorem ev_repl {o old:E} {ww:List Nat} {x nm:Str} {po pold:Expr} {k:Nat} {q ap p:Pos} (hn:nm=("replace" : Str)) (hbase:∀ env t,attributeBase po ("replace" : Str) env t=t) (hline:(ap.endLine == p.line)=true) (hx:x=mkS ww)
    (to:TrE lv S o po) (told:TrE lv S old pold) (e:stepEv F (.repl o old ww) σ=some (d,σ')) :
    wpAny (model prog w) A (eval (.Call (.Attribute po nm ap) [pold,.Constant (.str x) k q] [] p) env) Q EE c.s:=by
  subst hn hx
  obtain ⟨xs,σ₁,cc,h1,h2,hg,rfl⟩:=repl_inv e
  have se:starEach [pold,.Constant (.str (mkS ww)) k q] env=[(false,eval pold env),(false,eval (.Constant (.str (mkS ww)) k q) env)]:=starEach_cons told _
  have bt:backTo p (starEach [pold,.Constant (.str (mkS ww)) k q] env)=[(false,eval pold env),(false,eval (.Constant (.str (mkS ww)) k q) env)]:=by rw [se]; rfl
  refine wpAny_Call_method_late (hbase _ _) ?_ hline rfl ?_
  · rw [bt]; rfl
  refine ev Gx r V R to h1 fun v c₁ g₁ r₁=>?_
  obtain ⟨t,rfl,hz⟩:=r₁.inv
  refine ⟨"str","str.replace",PySem.F.plainAttrs_str,PySem.F.slot_str_replace,PySem.F.type_str_replace,typeIs_str _ _ _,(fun _ q=>by cases q),?_⟩
  refine callWith_method1 ?_ (starEach_cons told _) ?_
  · rw [bt]
    refine Calls.spliced_cons (ev Gx r V g₁.go.rep told h2 fun v₂ c₂ g₂ r₂=>?_)
    obtain ⟨_,rfl,hz',ht,hlt⟩:=r₂.inv
    refine Calls.spliced_cons (wpAny_Constant_str (Calls.spliced_nil ?_))
    refine repl_ok (M:=c₂.M) ht hlt hg.1 hg.2.1 hg.2.2.1 hg.2.2.2 fun v s' x rr=>?_
    exact hQ v ⟨s',c₂.M,c₂.vs⟩ ((g₁.trans g₂).ext ((Ext.tk1 _).trans x)) rr
  · rfl
end
end Mine
end
section
open PySem PySem.W PyProof.Rows
set_option autoImplicit false
namespace Mine
section
variable {lv:Nat} {F:Funs} {n:Nat} {φ:Fx} {loc:Locs} {σ σ':St} {c:Cf} {S:Sx} {env:Env} {A:Around} {EE:Value→Shared→Prop} {Q:Value→Shared→Prop} {d:D}
theorem toInts_map (l:List Int):toInts (l.map .int)=some l:=by
  induction l with
  | nil=>rfl
  | cons a l ih=>simp [tI_n,tI_c,ih]
theorem Gl.size (Gx:Gl φ.hT) (R:Rep φ loc σ c):(c.s.heap.objs.size == sysModules)=false:=by
  obtain ⟨mg,mb,⟨o,_,_,e,_⟩,_⟩:=Gx.glob
  have e':=R.fx.top _ _ e
  have nx:¬ φ.X mainGlobals:=fun x=>by rw [R.fx.out _ (R.fx.sub _ x)] at e; exact nos e
  have h3:3 < c.s.heap.objs.size:=Heap.lt_size (R.top _ _ e' nx)
  exact beq_false_of_ne (fun q=>by
    have q':c.s.heap.objs.size=1:=q
    lia)
theorem Grow.push {s:Shared} {M:Addr→Prop} (S:Stand s.heap M) (o:Obj) (ho:o.isFreed=false):Grow s M { s with heap:=s.heap.push o } (fun b=>M b∨b=s.heap.objs.size):=by
  refine ⟨Ext.push _ _,fun b m=>.inl m,fun b m=>?_,fun b m=>?_⟩
  · rcases m with m | rfl
    · exact .inl m
    · exact .inr (fresh_none _)
  · rcases m with m | rfl
    · obtain ⟨o',e⟩:=S b m; exact ⟨o',Heap.get?_push_of_some _ e⟩
    · exact ⟨o,Heap.get?_push_size _ ho⟩
theorem Touch.some (R:Rep φ loc σ c) {a:Addr} (t:Touch loc σ c.vs a):∃ o,c.s.heap.get? a=some o:=by
  rcases t with ⟨i,L,h,rfl⟩ | ⟨i,o,d,e,ho,va⟩
  · exact R.stand _ (R.locs i L h).2.1
  · obtain ⟨L,_,_,sl⟩:=R.vals i _ _ e
    obtain ⟨a',o',va',_,e'⟩:=(SlotOK.root ho sl).ref
    rw [va] at va'; obtain rfl:=Value.ref.inj va'; exact ⟨o',e'⟩
theorem Touch.ne (R:Rep φ loc σ c) {a:Addr} (h:c.s.heap.get? a=none):¬ Touch loc σ c.vs a:=fun t=>by
  obtain ⟨o,e⟩:=Touch.some R t; rw [h] at e; exact nos e
theorem newList_pend {c₁:Cf} (g:Ge φ loc σ c σ' c₁) {vs:List Value} {ds:List D} (rl:RealL c₁.s.heap c₁.s.toks c₁.M vs ds) (hz:ds.length≤line) :
    ∃ c₂:Cf,c₂.s={ c₁.s with heap:=c₁.s.heap.push { cls:=.type "list",data:=.seq vs.toArray } }∧Ge φ loc σ c σ' c₂∧Pend c loc σ' c₂ .own (.list ds) (.ref c₁.s.heap.objs.size):=by
  have gr:=Grow.push g.go.rep.stand { cls:=.type "list",data:=.seq vs.toArray } rfl
  refine ⟨⟨_,_,c₁.vs⟩,rfl,g.grow gr,?_,?_⟩
  · exact .list (n:=0) (.inr rfl) (Heap.get?_push_size _ rfl) (rl.mono (gr.step (T:=fun _=>True) (T':=fun _=>True) fun _ t=>.inl t) gr.ext.toks) hz
  · intro a q
    obtain rfl:=Value.ref.inj q
    have hn:=fresh_none c₁.s.heap
    exact ⟨g.go.stay _ hn,Touch.ne (c:=c₁) g.go.rep hn⟩
variable (ev:EvOK F n) (evo:EvoOK F n) (evt:EvtOK F n)
  (Gx:Gl φ.hT) (r:Room n A) (V:EnvOK φ S loc env) (R:Rep φ loc σ c)
theorem Ge.thaw {c₁:Cf} (g:Ge φ loc σ c σ' c₁) {o:Own} {v:Value} (R:Rep φ loc σ c) (p:Pend c loc σ' c₁ o d v) :
    ∃ M',Ge φ loc σ c σ' ⟨c₁.s,M',c₁.vs⟩∧Real c₁.s.heap c₁.s.toks M' v d:=by
  obtain ⟨M',g',rr⟩:=g.go.thaw R p
  exact ⟨M',⟨g',g.vs⟩,rr⟩
include evo Gx r V R in
theorem ev_own {e₁:E} {pe:Expr} (t:TrE lv S e₁ pe) (hQ:∀ v c',Ge φ loc σ c σ' c'→Real c'.s.heap c'.s.toks c'.M v d→Q v c'.s)
    {o:Own} (e:F.evO e₁ σ=some (o,d,σ')):wpAny (model prog w) A (eval pe env) Q EE c.s:=
  evo Gx r V R t e fun v c₁ g p=>by
    obtain ⟨M',g',rr⟩:=g.thaw R p
    exact hQ v ⟨c₁.s,M',c₁.vs⟩ g' rr
section
variable {o:Own} (hP:∀ v c',Ge φ loc σ c σ' c'→Pend c loc σ' c' o d v→Q v c'.s)
include ev Gx r V R hP
theorem evo_list {es:List E} {pes:List Expr} {p:Pos} (t:TrL (TrE lv) S es pes) (e:stepO F (.list es) σ=some (o,d,σ')):wpAny (model prog w) A (eval (.List pes p) env) Q EE c.s:=by
  obtain ⟨⟨ds,σ₁⟩,h1,e⟩:=bs e
  obtain ⟨hz,e⟩:=iteS e
  obtain ⟨rfl,rfl,rfl⟩:=pm3 e
  refine List_ ?_
  rw [backTo_tr t]
  refine evs_ok ev Gx r V R t h1 fun vs c₁ g₁ r₁=>wpAny_newList ?_ (by rw [r₁.len,sizeLine_eq]; rw [line_is] at hz; lia)
  obtain ⟨c₂,e₂,g₂,p₂⟩:=newList_pend g₁ r₁ hz
  have:=hP _ c₂ g₂ p₂
  rw [e₂] at this; exact this
omit ev in
theorem evo_edict {p:Pos} (e:stepO F .edict σ=some (o,d,σ')):wpAny (model prog w) A (eval (.Dict [] [] p) env) Q EE c.s:=by
  obtain ⟨rfl,rfl,rfl⟩:=some3 e
  refine wpAny_Dict_empty ?_
  have gr:=Grow.push R.stand { cls:=.type "dict",data:=.dict #[] } rfl
  have hn:=fresh_none c.s.heap
  refine hP _ ⟨_,_,c.vs⟩ ((Ge.refl R).grow gr) ⟨.idict (.inr rfl) ?_ (kvs:=[]) ?_ .nil,fun a q=>?_⟩
  · exact Gx.size R
  · exact Heap.DictOf.new _
  · obtain rfl:=Value.ref.inj q; exact ⟨hn,Touch.ne R hn⟩
theorem evo_blist {e₁:E} {x:Str} {q p:Pos} {pe:Expr} (hb:bnOk S "list" = true) (hx:x = "list") (t:TrE lv S e₁ pe) (e:stepO F (.bi .list [e₁]) σ=some (o,d,σ')) :
    wpAny (model prog w) A (eval (.Call (.Name x q) [pe] [] p) env) Q EE c.s:=by
  subst hx
  obtain ⟨⟨a,σ₁⟩,h1,e⟩:=bs e
  obtain ⟨d',h2,e⟩:=ms e
  obtain ⟨rfl,rfl,rfl⟩:=pm3 e
  refine Call_ (bname_ok Gx V R hb bi_list ?_)
  refine Pv.callWith_type1 ?_ (starEach_cons t _)
  rw [backTo_tr (.cons t .nil)]
  refine Calls.spliced_cons (ev Gx r V R t h1 fun v c₁ g₁ r₁=>Calls.spliced_nil ?_)
  induction a using D.casesOn with
  | rng ia ib ic=>
    obtain ⟨ra,it,iu,iv,rfl,hm,hr⟩:=r₁.inv
    refine listRange_ok g₁.go.rep.stand r.1 (.rng hm hr) h2 fun vs n s' x hn hl rl hd hz=>?_
    subst hd
    have hsz:c₁.s.heap.objs.size=c₁.s.heap.objs.size:=rfl
    have gr:Grow c₁.s c₁.M s' (fun b=>c₁.M b∨b=c₁.s.heap.objs.size):=by
      refine ⟨x,fun b m=>.inl m,fun b m=>?_,fun b m=>?_⟩
      · rcases m with m | rfl
        · exact .inl m
        · exact .inr hn
      · rcases m with m | rfl
        · exact x.stand g₁.go.rep.stand b m
        · exact ⟨_,hl⟩
    exact hP _ ⟨s',_,c₁.vs⟩ (g₁.grow gr) ⟨.list (.inr rfl) (vs:=vs.toList) (by simpa using hl) (Mine.IntsAre.real (rl.ints (toInts_map _))) hz,fun a q=>by obtain rfl:=Value.ref.inj q; exact ⟨g₁.go.stay _ hn,Touch.ne (c:=c₁) g₁.go.rep hn⟩⟩
  | _=>exact nos h2
end
section
variable {b:Bool} {Q:Bool→Shared→Prop} (hB:∀ c',Ge φ loc σ c σ' c'→Q b c'.s)
include evt Gx r V R hB
theorem evt_not {e₁:E} {pe:Expr} {p:Pos} {wh:Sem Value} (t:TrT (TrE lv) S e₁ pe) (e:stepT F (.not e₁) σ=some (b,σ')):wpAny (model prog w) A (isTrue (.UnaryOp .Not pe p) env wh) Q EE c.s:=by
  obtain ⟨⟨b',σ₁⟩,h1,e⟩:=ms e
  obtain ⟨rfl,rfl⟩:=Prod.mk.inj e
  exact wpAny_isTrue_Not (evt Gx r V R t h1 fun c₁ g₁=>hB c₁ g₁)
end
include evt Gx r V in
theorem allT_ok {Q:Bool→Shared→Prop}:∀ {es:List E} {pes:List Expr} {σ:St} {c:Cf} {b:Bool} {σ':St} (R:Rep φ loc σ c) (t:TrTs (TrE lv) S es pes) (h:allT F es σ=some (b,σ')) (hB:∀ c',Ge φ loc σ c σ' c'→Q b c'.s),
    wpAny (model prog w) A (allTrue .And pes env) Q EE c.s:=by
  intro es
  induction es with
  | nil=>intro pes σ c b σ' R t h hB; obtain rfl:=t.inv; obtain ⟨rfl,rfl⟩:=some2 h; exact wpAny_allTrue_And_nil (hB c (.refl R))
  | cons e es ih=>
    intro pes σ c b σ' R t h hB
    obtain ⟨_,_,rfl,t,ts⟩:=t.inv
    obtain ⟨⟨b₁,σ₁⟩,h1,h⟩:=bs h
    induction b₁ using Bool.casesOn with
    | true=>
      exact wpAny_allTrue_And_cons (evt Gx r V R t h1 fun c₁ g₁=>ih g₁.go.rep ts h fun c₂ g₂=>hB c₂ (g₁.trans g₂))
    | false=>
      obtain ⟨rfl,rfl⟩:=some2 h
      exact wpAny_allTrue_And_cons (evt Gx r V R t h1 fun c₁ g₁=>hB c₁ g₁)
include evt Gx r V in
theorem anyT_ok {Q:Bool→Shared→Prop}:∀ {es:List E} {pes:List Expr} {σ:St} {c:Cf} {b:Bool} {σ':St} (R:Rep φ loc σ c) (t:TrTs (TrE lv) S es pes) (h:anyT F es σ=some (b,σ')) (hB:∀ c',Ge φ loc σ c σ' c'→Q b c'.s),
    wpAny (model prog w) A (allTrue .Or pes env) Q EE c.s:=by
  intro es
  induction es with
  | nil=>intro pes σ c b σ' R t h hB; obtain rfl:=t.inv; obtain ⟨rfl,rfl⟩:=some2 h; exact wpAny_allTrue_Or_nil (hB c (.refl R))
  | cons e es ih=>
    intro pes σ c b σ' R t h hB
    obtain ⟨_,_,rfl,t,ts⟩:=t.inv
    obtain ⟨⟨b₁,σ₁⟩,h1,h⟩:=bs h
    induction b₁ using Bool.casesOn with
    | true=>
      obtain ⟨rfl,rfl⟩:=some2 h
      exact wpAny_allTrue_Or_cons (evt Gx r V R t h1 fun c₁ g₁=>hB c₁ g₁)
    | false=>
      exact wpAny_allTrue_Or_cons (evt Gx r V R t h1 fun c₁ g₁=>ih g₁.go.rep ts h fun c₂ g₂=>hB c₂ (g₁.trans g₂))
end
end Mine
end
section
open PySem PySem.W PyProof.Rows
set_option autoImplicit false
namespace Mine
theorem evs_some {F:Funs} {e:E} {r:List E} {σ σ₁ σ':St} {d:D} {ds:List D} (h1:F.ev e σ=some (d,σ₁)) (h2:evs F r σ₁=some (ds,σ')):evs F (e :: r) σ=some (d :: ds,σ'):=by
  rw [evs_cons,h1]; exact congrArg (Option.map fun q:List D × St=>(d :: q.1,q.2)) h2
theorem argsF {F:Funs} {as:List E} {σ σ':St} {ss:List Slot} (h:argsE F false as σ=some (ss,σ')):∃ ds,evs F as σ=some (ds,σ')∧ss=ds.map fun d=>(Own.sh,d):=by
  induction as generalizing σ ss with
  | nil=>obtain ⟨rfl,rfl⟩:=some2 h; exact ⟨[],rfl,rfl⟩
  | cons e r ih=>induction r using List.casesOn with
    | nil=>
      obtain ⟨⟨d,σ₁⟩,h1,h⟩:=ms h
      obtain ⟨rfl,rfl⟩:=Prod.mk.inj h
      exact ⟨[d],evs_some h1 rfl,rfl⟩
    | cons e' r=>
      obtain ⟨⟨d,σ₁⟩,h1,h⟩:=bs h
      obtain ⟨⟨ss',σ₂⟩,h2,h⟩:=ms h
      obtain ⟨rfl,rfl⟩:=Prod.mk.inj h
      obtain ⟨ds,h3,rfl⟩:=ih h2
      exact ⟨d :: ds,evs_some h1 h3,rfl⟩
theorem lend_inv {e:E} {σ σ':St} {ss:List Slot} (h:lend e σ=some (ss,σ')):∃ i d,e=.var i∧σ.get i=some (.own,d)∧ss=[(.bor,d)]∧σ'=σ:=by
  induction e using E.casesOn with
  | var i=>
    obtain ⟨d,h1,h⟩:=ms h
    obtain ⟨rfl,rfl⟩:=Prod.mk.inj h
    exact ⟨i,d,rfl,own_is h1,rfl,rfl⟩
  | _=>exact nos h
theorem argsT {F:Funs} {as:List E} {σ σ':St} {ss:List Slot} (n:as≠[]) (h:argsE F true as σ=some (ss,σ')) :
    ∃ init i ds d,as=init++[.var i]∧evs F init σ=some (ds,σ')∧σ'.get i=some (.own,d)∧ss=(ds.map fun d=>(Own.sh,d))++[(.bor,d)]:=by
  induction as generalizing σ ss with
  | nil=>exact absurd rfl n
  | cons e r ih=>induction r using List.casesOn with
    | nil=>
      obtain ⟨i,d,rfl,h1,rfl,rfl⟩:=lend_inv h
      exact ⟨[],i,[],d,rfl,rfl,h1,rfl⟩
    | cons e' r=>
      obtain ⟨⟨d,σ₁⟩,h1,h⟩:=bs h
      obtain ⟨⟨ss',σ₂⟩,h2,h⟩:=ms h
      obtain ⟨rfl,rfl⟩:=Prod.mk.inj h
      obtain ⟨init,i,ds,d',ea,h3,h4,rfl⟩:=ih (List.cons_ne_nil _ _) h2
      exact ⟨e :: init,i,d :: ds,d',congrArg (e :: ·) ea,evs_some h1 h3,h4,rfl⟩
theorem backE_ok (init:List E) (i:Nat) (o:Own) (d:D) (σ:St):backE (init++[.var i]) (some (o,d)) σ=some (σ.put i (.own,d)):=by
  induction init with
  | nil=>rfl
  | cons e r ih=>induction r using List.casesOn with | nil=>rfl | cons _ _=>exact ih
section
variable {lv:Nat} {F:Funs} {n:Nat} {φ:Fx} {loc:Locs} {σ σ':St} {c:Cf} {S:Sx} {env:Env} {A:Around} {EE:Value→Shared→Prop} {Q:Value→Shared→Prop} {d:D}
theorem TrL.split {init:List E} {i:Nat} {pes:List Expr} (t:TrL (TrE lv) S (init++[.var i]) pes):∃ pinit x q,pes=pinit++[.Name x q]∧TrL (TrE lv) S init pinit∧S.vars.lookup x=some i∧nmOk x=true:=by
  induction init generalizing pes with
  | nil=>
    obtain ⟨pe,r,rfl,u,ts⟩:=t.inv
    obtain rfl:=ts.inv
    obtain ⟨x,p,rfl,h1,h2⟩:=u.var_inv
    exact ⟨[],x,p,rfl,.nil,h1,h2⟩
  | cons e init ih=>
    obtain ⟨pe,r,rfl,u,ts⟩:=t.inv
    obtain ⟨pinit,x,q,rfl,h1,h2,h3⟩:=ih ts
    exact ⟨pe :: pinit,x,q,rfl,.cons u h1,h2,h3⟩
theorem Args.sh {h:Heap} {k:Tok} {M X:Addr→Prop} {vs:List Value} {ds:List D} (r:RealL h k M vs ds):Args h k M X vs (ds.map fun d=>(Own.sh,d)):=by
  induction r using RealL.ind with | nil=>exact .nil | cons _ _ _ _ a r ih=>exact .cons a ih
theorem Args.shb {h:Heap} {k:Tok} {M X:Addr→Prop} {a:Addr} {d:D} (o:OwnR h k M (.ref a) d) (hX:X a) {vs:List Value} {ds:List D} (r:RealL h k M vs ds):Args h k M X (vs++[.ref a]) ((ds.map fun d=>(Own.sh,d))++[(.bor,d)]):=by
  induction r using RealL.ind with | nil=>exact .bor o hX | cons _ _ _ _ a r ih=>exact .cons a ih
variable (ev:EvOK F n) (call:CallOK F n) (fa:∀ hT,K hT→∀ a ss r,F.call a ss=some r→FnAt hT a)
  (Gx:Gl φ.hT) (r:Room n A) (V:EnvOK φ S loc env) (R:Rep φ loc σ c)
theorem Rep.topKeep (R:Rep φ loc σ c):∀ b o,φ.hT.get? b=some o→c.s.heap.get? b=some o:=fun b o e=>by
  refine R.top _ o (R.fx.top _ o e) fun hX=>?_
  rw [R.fx.out _ (R.fx.sub _ hX)] at e; exact nos e
theorem Rep.topOut (R:Rep φ loc σ c):∀ b,c.M b→φ.hT.get? b=none:=fun b m=>by
  rcases R.old b m with q | q
  · exact R.fx.out b q
  · cases e:φ.hT.get? b with
    | none=>rfl
    | some o=>rw [R.fx.top b o e] at q; exact nos q.symm
include ev Gx r V in
theorem evs_then {Q:List Value→Shared→Prop} {tail:Sem Value}:∀ {es:List E} {pes:List Expr} {σ:St} {c:Cf} {ds:List D} {σ':St} (R:Rep φ loc σ c) (t:TrL (TrE lv) S es pes) (h:evs F es σ=some (ds,σ'))
    (hQ:∀ vs c',Ge φ loc σ c σ' c'→RealL c'.s.heap c'.s.toks c'.M vs ds→wpAny (model prog w) A tail (fun v s'=>Q (vs++[v]) s') EE c'.s),
    wpAny (model prog w) A (spliced ((pes.map fun pe=>(false,eval pe env))++[(false,tail)])) Q EE c.s:=by
  intro es
  induction es generalizing Q with
  | nil=>
    intro pes σ c ds σ' R t h hQ
    obtain rfl:=t.inv; obtain ⟨rfl,rfl⟩:=some2 h
    exact Calls.spliced_cons (wpAny_mono (hQ [] c (.refl R) .nil) (fun v s' q=>Calls.spliced_nil q) fun _ _ e=>e)
  | cons e es ih=>
    intro pes σ c ds σ' R t h hQ
    obtain ⟨_,_,rfl,t,ts⟩:=t.inv
    obtain ⟨⟨d,σ₁⟩,h1,h⟩:=bs h
    obtain ⟨⟨ds,σ₂⟩,h2,h⟩:=ms h
    obtain ⟨rfl,rfl⟩:=Prod.mk.inj h
    exact Calls.spliced_cons (ev Gx r V R t h1 fun v c₁ g₁ r₁=>ih g₁.go.rep ts h2 fun vs c₂ g₂ r₂=>hQ _ _ (g₁.trans g₂) (.cons (g₂.go.real r₁) r₂))
include ev call fa Gx r V R in
theorem ev_call {f a:E} {as:List E} {x:Str} {q p:Pos} {pargs:List Expr} {io:Bool} (hQ:∀ v c',Ge φ loc σ c σ' c'→Real c'.s.heap c'.s.toks c'.M v d→Q v c'.s)
    (tf:TrE lv S f (.Name x q)) (ta:TrL (TrE lv) S (a :: as) pargs) (hl:decide (pargs.length≤30)=true) (e:stepEv F (.call f (a :: as) io) σ=some (d,σ')) :
    wpAny (model prog w) A (eval (.Call (.Name x q) pargs [] p) env) Q EE c.s:=by
  obtain ⟨⟨fd₀,σ₁⟩,h1,e⟩:=bs e
  obtain ⟨ad,h0,e⟩:=bs e
  obtain ⟨⟨ss,σ₂⟩,h2,e⟩:=bs e
  obtain ⟨⟨d',back⟩,h3,e⟩:=bs e
  obtain rfl:=fn_is h0
  refine Call_ (ev Gx r V R tf h1 fun v c₁ g₁ r₁=>?_)
  obtain ⟨eo,rfl,nm,_⟩:=r₁.inv
  obtain ⟨o,fd,eT,hfd⟩:=fa φ.hT Gx.k _ _ _ h3
  have len:∀ {es:List E} {pes:List Expr},TrL (TrE lv) S es pes→pes=[]→es=[]:=fun {es pes} t h=>by
    induction es using List.casesOn with
    | nil=>rfl
    | cons _ _=>obtain ⟨_,_,e,_⟩:=t.inv; exact absurd (e.symm.trans h) (List.cons_ne_nil _ _)
  have bt:=backTo_tr (env:=env) ta p
  have run:wpAny (model prog w) A (spliced (backTo p (starEach pargs env))) (fun vs s₁=>s₁.heap.get? ad=some o∧wpAny (model prog w) A (PySem.call (.ref ad) vs) Q EE s₁) EE c₁.s:=by
    rw [bt]
    induction io using Bool.casesOn with
    | false=>
      obtain ⟨ds,h4,rfl⟩:=argsF h2
      obtain ⟨rfl,rfl⟩:=some2 e
      refine evs_ok ev Gx r V g₁.go.rep ta h4 fun vs c₂ g₂ r₂=>⟨g₂.go.rep.topKeep _ _ eT,?_⟩
      refine call (M:=c₂.M) (X:=fun _=>False) Gx r g₂.go.rep.pos g₂.go.rep.topKeep g₂.go.rep.topOut (fun _ f=>f.elim) g₂.go.rep.stand (fun _ f=>f.elim) (Args.sh r₂) h3 fun v s' M' st tk gn os sy S' up rv _=>?_
      have ext:Ext c₂.s s':=⟨fun b ob eb=>by
        by_cases m:c₂.M b
        · exact (st.pend b ob m (fun f=>f) eb).1
        · exact st.keep b ob m eb,gn,os,tk⟩
      exact hQ v ⟨s',M',c₂.vs⟩ ((g₁.trans g₂).grow ⟨ext,up,st.old,S'⟩) rv
    | true=>
      obtain ⟨init,i,ds,dl,ea,h4,h5,rfl⟩:=argsT (List.cons_ne_nil _ _) h2
      rw [ea] at ta e
      obtain ⟨pinit,x,q,rfl,ti,hx,hn⟩:=ta.split
      rw [List.map_append]
      refine evs_then ev Gx r V g₁.go.rep ti h4 fun vs c₂ g₂ r₂=>?_
      refine wpAny_Name (load_ok V g₂.go.rep hx h5 (nmOk_iff hn).2 ⟨g₂.go.rep.topKeep _ _ eT,?_⟩) (nmOk_iff hn).1
      obtain ⟨L,hL,has,sl⟩:=g₂.go.rep.vals i _ _ h5
      obtain ⟨ra,ro,va,mr,er⟩:=sl.1.ref
      have sl1:=sl.1
      rw [va] at sl1 ⊢
      refine call (M:=c₂.M) (X:=fun b=>b=ra) Gx r g₂.go.rep.pos g₂.go.rep.topKeep g₂.go.rep.topOut (fun b q=>q ▸ mr) g₂.go.rep.stand (fun b q=>by subst q; simp) (Args.shb (X:=fun b=>b=ra) sl1 rfl r₂) h3 fun v s' M' st tk gn os sy S' up rv hb=>?_
      obtain ⟨o',dr,rfl,orr⟩:=hb ra dl (by simp) (by simp)
      obtain ⟨σ₃,h6,e⟩:=ms e
      obtain ⟨rfl,rfl⟩:=Prod.mk.inj e
      obtain rfl:=some1 ((backE_ok ..).symm.trans h6)
      have a1:At1 ra c₂.s s':=⟨fun b ob hb eb=>by
        by_cases m:c₂.M b
        · exact (st.pend b ob m hb eb).1
        · exact st.keep b ob m eb,by obtain ⟨a',o',q,_,e'⟩:=orr.ref; obtain rfl:=Value.ref.inj q; exact ⟨o',e'⟩,gn,os,tk⟩
      have go:=g₂.go.rep.root (i:=i) h5 (by decide) va a1 up st.old S' orr
      exact hQ v ⟨s',M',c₂.vs⟩ ((g₁.trans g₂).trans ⟨go,fun _ _ _=>rfl⟩) rv
  obtain ⟨_,_,rfl,t,ts⟩:=ta.inv
  exact callWith_def hfd run (starEach_cons t _)
end
end Mine
end
section
open PySem PySem.W PyProof.Rows
set_option autoImplicit false
namespace Mine
structure Gy (φ:Fx) (Y:Addr→Prop) (loc:Locs) (σ:St) (c:Cf) (loc':Locs) (σ':St) (c':Cf):Prop where
  rep:Rep φ loc' σ' c'
  step:Step c.s.heap c.M (fun b=>Touch loc σ c.vs b∨Y b) c'.s.heap c'.M (fun b=>Touch loc' σ' c'.vs b∨Y b)
  toks:c.s.toks≤c'.s.toks
  gens:c'.s.gens=c.s.gens
  os:c'.s.os=c.s.os
  stay:∀ b,c'.s.heap.get? b=none→c.s.heap.get? b=none
structure AtP (P:Addr→Prop) (s s':Shared):Prop where
  keep:∀ b o,¬ P b→s.heap.get? b=some o→s'.heap.get? b=some o
  gens:s'.gens=s.gens
  os:s'.os=s.os
  toks:s.toks≤s'.toks
theorem AtP.trans {P:Addr→Prop} {s₁ s₂ s₃:Shared} (x:AtP P s₁ s₂) (y:AtP P s₂ s₃):AtP P s₁ s₃:=
  ⟨fun b o n e=>y.keep b o n (x.keep b o n e),y.gens.trans x.gens,y.os.trans x.os,Nat.le_trans x.toks y.toks⟩
theorem AtP.step {P:Addr→Prop} {s s':Shared} {M M':Addr→Prop} (x:AtP P s s') (hP:∀ b,P b→M b) (sub:∀ b,M' b→M b) (up:∀ b,M b→¬ P b→M' b):Step s.heap M P s'.heap M' P:=
  ⟨fun b o n e=>x.keep b o (fun p=>n (hP b p)) e,fun b o m n e=>⟨x.keep b o n e,up b m n⟩,fun b m=>.inl (sub b m),fun b t=>.inl t⟩
section
variable {φ:Fx} {loc loc' loc₁ loc₂ loc₃:Locs} {Y:Addr→Prop} {σ σ' σ₁ σ₂ σ₃:St} {c c' c₁ c₂ c₃:Cf}
theorem Go.y (g:Go φ loc σ c loc' σ' c'):Gy φ Y loc σ c loc' σ' c':=
  ⟨g.rep,⟨g.step.keep,fun b o m t e=>g.step.pend b o m (fun q=>t (.inl q)) e,g.step.old,fun b t=>by
    rcases t with t | t
    · rcases g.step.touch b t with q | q
      · exact .inl (.inl q)
      · exact .inr q
    · exact .inl (.inr t)⟩,g.toks,g.gens,g.os,g.stay⟩
theorem Gy.go (g:Gy φ Y loc σ c loc' σ' c') (h:∀ b,¬ Y b):Go φ loc σ c loc' σ' c':=
  ⟨g.rep,⟨g.step.keep,fun b o m t e=>g.step.pend b o m (fun q=>q.elim t (h b)) e,g.step.old,fun b t=>by
    rcases g.step.touch b (.inl t) with q | q
    · rcases q with q | q
      · exact .inl q
      · exact absurd q (h b)
    · exact .inr q⟩,g.toks,g.gens,g.os,g.stay⟩
theorem Gy.refl (R:Rep φ loc σ c):Gy φ Y loc σ c loc σ c:=(Go.refl R).y
theorem Gy.trans (x:Gy φ Y loc₁ σ₁ c₁ loc₂ σ₂ c₂) (y:Gy φ Y loc₂ σ₂ c₂ loc₃ σ₃ c₃):Gy φ Y loc₁ σ₁ c₁ loc₃ σ₃ c₃:=
  ⟨y.rep,x.step.trans y.step,Nat.le_trans x.toks y.toks,y.gens.trans x.gens,y.os.trans x.os,fun b e=>x.stay b (y.stay b e)⟩
theorem Gy.real (x:Gy φ Y loc₁ σ₁ c₁ loc₂ σ₂ c₂) {v:Value} {d:D} (r:Real c₁.s.heap c₁.s.toks c₁.M v d):Real c₂.s.heap c₂.s.toks c₂.M v d:=r.mono x.step x.toks
theorem Gy.realL (x:Gy φ Y loc₁ σ₁ c₁ loc₂ σ₂ c₂) {v:List Value} {d:List D} (r:RealL c₁.s.heap c₁.s.toks c₁.M v d):RealL c₂.s.heap c₂.s.toks c₂.M v d:=r.mono x.step x.toks
theorem Rep.pend (R:Rep φ loc σ c) {P M':Addr→Prop} {s':Shared} (hM:∀ b,P b→c.M b) (hn:∀ b,P b→φ.h₀.get? b=none) (hT:∀ b,P b→¬ Touch loc σ c.vs b) (x:AtP P c.s s')
    (sub:∀ b,M' b→c.M b) (up:∀ b,c.M b→¬ P b→M' b) (hS:Stand s'.heap M'):Rep φ loc σ ⟨s',M',c.vs⟩ where
  fx:=R.fx
  len:=R.len
  top:=fun b o e n=>x.keep b o (fun p=>by rw [hn b p] at e; exact nos e) (R.top b o e n)
  sup:=fun b m=>up b (R.sup b m) fun p=>by
    obtain ⟨o,e⟩:=R.fx.stand b m
    rw [hn b p] at e; exact nos e
  old:=fun b m=>R.old b (sub b m)
  stand:=hS
  pos:=Nat.lt_of_lt_of_le R.pos x.toks
  locs:=fun i L e=>by
    obtain ⟨a,b,d,f⟩:=R.locs i L e
    have np:¬ P L.addr:=fun p=>hT _ p (.inl ⟨i,L,e,rfl⟩)
    exact ⟨Loc.ok_keep a fun o=>x.keep _ o np,up _ b np,d,f⟩
  vals:=fun i o d e=>by
    obtain ⟨L,a,b,r⟩:=R.vals i o d e
    refine ⟨L,a,Loc.has_keep b fun o=>x.keep _ o fun p=>hT _ p (.inl ⟨i,L,a,rfl⟩),?_⟩
    have st:=x.step hM sub up
    induction o using Own.casesOn with
    | sh=>exact Real.mono st x.toks r
    | own=>
      have np:∀ a,c.vs i=.ref a→¬ P a:=fun a q p=>hT _ p (.inr ⟨i,_,_,e,by decide,q⟩)
      exact ⟨OwnR.mono' st x.toks r.1 (fun a o q=>x.keep a o (np a q)) (fun a q m=>up a m (np a q)),r.2⟩
    | bor=>
      have np:∀ a,c.vs i=.ref a→¬ P a:=fun a q p=>hT _ p (.inr ⟨i,_,_,e,by decide,q⟩)
      exact ⟨OwnR.mono' st x.toks r.1 (fun a o q=>x.keep a o (np a q)) (fun a q m=>up a m (np a q)),r.2⟩
  inj:=R.inj
  linj:=R.linj
  apart:=R.apart
theorem Gy.pend (g:Gy φ Y loc₁ σ₁ c₁ loc σ c) (R₁:Rep φ loc₁ σ₁ c₁) {P M':Addr→Prop} {s':Shared} (hM:∀ b,P b→c.M b) (hn:∀ b,P b→c₁.s.heap.get? b=none) (hT:∀ b,P b→¬ Touch loc σ c.vs b) (x:AtP P c.s s')
    (sub:∀ b,M' b→c.M b) (up:∀ b,c.M b→¬ P b→M' b) (hS:Stand s'.heap M') :
    Gy φ Y loc₁ σ₁ c₁ loc σ ⟨s',M',c.vs⟩:=by
  have np:∀ b o,c₁.s.heap.get? b=some o→¬ P b:=fun b o e p=>by rw [hn b p] at e; exact nos e
  refine ⟨g.rep.pend hM (fun b p=>R₁.fresh (hn b p)) hT x sub up hS,
    ⟨fun b o m e=>x.keep b o (np b o e) (g.step.keep b o m e),fun b o m t e=>⟨x.keep b o (np b o e) (g.step.pend b o m t e).1,up b (g.step.pend b o m t e).2 (np b o e)⟩,fun b m=>g.step.old b (sub b m),g.step.touch⟩,
    Nat.le_trans g.toks x.toks,x.gens.trans g.gens,x.os.trans g.os,fun b e=>?_⟩
  by_cases p:P b
  · exact hn b p
  · refine g.stay b ?_
    cases q:c.s.heap.get? b with
    | none=>rfl
    | some o=>have e':s'.heap.get? b=none:=e; rw [x.keep b o p q] at e'; exact nos e'.symm
theorem Gy.chg (R:Rep φ loc σ c) {a:Addr} {s':Shared} (hY:Y a) (hM:c.M a) (hn:φ.h₀.get? a=none) (hT:¬ Touch loc σ c.vs a) (x:AtP (fun b=>b=a) c.s s') {o:Obj} (hs:s'.heap.get? a=some o) :
    Gy φ Y loc σ c loc σ ⟨s',c.M,c.vs⟩:=by
  have S':Stand s'.heap c.M:=fun b m=>by
    by_cases q:b=a
    · exact ⟨o,q ▸ hs⟩
    · obtain ⟨o',e'⟩:=R.stand b m; exact ⟨o',x.keep b o' q e'⟩
  refine ⟨R.pend (P:=fun b=>b=a) (fun b p=>p ▸ hM) (fun b p=>p ▸ hn) (fun b p=>p ▸ hT) x (fun _ m=>m) (fun _ m _=>m) S',
    ⟨fun b o m e=>x.keep b o (fun p=>m (p ▸ hM)) e,fun b o m t e=>⟨x.keep b o (fun p=>t (.inr (p ▸ hY))) e,m⟩,fun b m=>.inl m,fun b t=>.inl t⟩,
    x.toks,x.gens,x.os,fun b e=>?_⟩
  have e':s'.heap.get? b=none:=e
  cases q:c.s.heap.get? b with
  | none=>rfl
  | some o'=>
    by_cases p:b=a
    · rw [p,hs] at e'; exact nos e'.symm
    · rw [x.keep b o' p q] at e'; exact nos e'.symm
theorem OwnR.gy (g:Gy φ Y loc σ c loc' σ' c') {v:Value} {d:D} (r:OwnR c.s.heap c.s.toks c.M v d) (n:∀ a,v=.ref a→¬ Touch loc σ c.vs a∧¬ Y a) :
    OwnR c'.s.heap c'.s.toks c'.M v d:=by
  obtain ⟨a,o,rfl,m,e⟩:=r.ref
  have nt:¬ (Touch loc σ c.vs a∨Y a):=fun q=>q.elim (n a rfl).1 (n a rfl).2
  exact OwnR.mono' g.step g.toks r (fun b o q e=>by obtain rfl:=Value.ref.inj q; exact (g.step.pend a o m nt e).1) fun b q m=>by obtain rfl:=Value.ref.inj q; exact (g.step.pend a o m nt e).2
theorem Gy.ext (x:Gy φ Y loc₁ σ₁ c₁ loc₂ σ₂ c₂) {s':Shared} (e:Ext c₂.s s'):Gy φ Y loc₁ σ₁ c₁ loc₂ σ₂ ⟨s',c₂.M,c₂.vs⟩:=x.trans (x.rep.ext e).y
theorem Gy.grow (x:Gy φ Y loc₁ σ₁ c₁ loc₂ σ₂ c₂) {s':Shared} {M':Addr→Prop} (e:Grow c₂.s c₂.M s' M'):Gy φ Y loc₁ σ₁ c₁ loc₂ σ₂ ⟨s',M',c₂.vs⟩:=x.trans (x.rep.grows e).y
theorem Rep.narrow (R:Rep φ loc' σ c) (hl:∀ i L,loc i=some L→loc' i=some L) (hs:∀ i s,σ'.get i=some s→σ.get i=some s∧∃ L,loc i=some L) (len:σ'.length=σ.length):Rep φ loc σ' c where
  fx:=R.fx
  len:=len.trans R.len
  top:=R.top
  sup:=R.sup
  old:=R.old
  stand:=R.stand
  pos:=R.pos
  locs:=fun i L e=>by
    obtain ⟨a,b,d,f⟩:=R.locs i L (hl i L e)
    exact ⟨a,b,d,len ▸ f⟩
  vals:=fun i o d e=>by
    obtain ⟨e',L,hL⟩:=hs i _ e
    obtain ⟨L',a,b⟩:=R.vals i o d e'
    rw [hl i L hL] at a; obtain rfl:=some1 a
    exact ⟨L,hL,b⟩
  inj:=fun i j oi di oj dj ei ej=>R.inj i j oi di oj dj (hs i _ ei).1 (hs j _ ej).1
  linj:=fun i j L a b=>R.linj i j L (hl i L a) (hl j L b)
  apart:=fun i o d a e ho v j L hL=>R.apart i o d a (hs i _ e).1 ho v j L (hl j L hL)
theorem touch_narrow {vs:Nat→Value} (hl:∀ i L,loc i=some L→loc' i=some L) (hs:∀ i s,σ'.get i=some s→σ.get i=some s∧∃ L,loc i=some L) {b:Addr} (t:Touch loc σ' vs b):Touch loc' σ vs b:=by
  rcases t with ⟨i,L,h,e⟩ | ⟨i,o,d,e,ho,v⟩
  · exact .inl ⟨i,L,hl i L h,e⟩
  · exact .inr ⟨i,o,d,(hs i _ e).1,ho,v⟩
end
end Mine
end
section
open PySem PySem.W PyProof.Rows
set_option autoImplicit false
namespace Mine
noncomputable def plainIt (T:String):Prop:=["enumerate","zip","dict_itemiterator","dict_reverseitemiterator","odict_iterator","itertools.zip_longest","itertools.pairwise"].contains T=false
inductive ItX (h:Heap) (k:Tok) (M:Addr→Prop):(Addr→Prop)→Value→Bool→List D→Prop
  | lst {I l:Addr} {vs:List Value} {ds:List D} {n i:Nat}:M I→h.IsListIter I l i→¬ M l→IsL h l vs.toArray n→RealL h k M vs ds→ItX h k M (fun b=>b=I) (.ref I) false (ds.drop i)
  | tup {I l:Addr} {vs:List Value} {ds:List D} {n i:Nat}:M I→h.IsTupleIter I l i→¬ M l→IsT h l vs.toArray n→RealL h k M vs ds→ItX h k M (fun b=>b=I) (.ref I) false (ds.drop i)
  | rng {I:Addr} {x left step:Int}:M I→IsRangeIter h I x left step→ItX h k M (fun b=>b=I) (.ref I) false ((List.range left.toNat).map fun j:Nat=>.int (x+j * step))
  | str {I:Addr} {xs:List Nat} {t:Tok} {i:Nat}:M I→h.IsStrIter I "str_ascii_iterator" (mkS xs) t i→ItX h k M (fun b=>b=I) (.ref I) false ((xs.drop i).map fun c=>.str [c])
  | enum {e I l:Addr} {vs:List Value} {ds:List D} {n i:Nat} {old:Value}:M e→M I→e≠I→IsEnum h e I i old→h.IsListIter I l i→¬ M l→IsL h l vs.toArray n→RealL h k M vs ds→
      ItX h k M (fun b=>b=e∨b=I) (.ref e) true (enumL i (ds.drop i))
section
variable {A:Around} {E:Value→Shared→Prop}
theorem ItX.sub {h:Heap} {k:Tok} {M P:Addr→Prop} {v:Value} {en:Bool} {ds:List D} (x:ItX h k M P v en ds):∀ b,P b→M b:=by
  induction x using ItX.casesOn with
  | lst m=>intro b q; exact q ▸ m
  | tup m=>intro b q; exact q ▸ m
  | rng m=>intro b q; exact q ▸ m
  | str m=>intro b q; exact q ▸ m
  | enum m m'=>intro b q; rcases q with q | q <;> subst q <;> assumption
theorem ItX.mono {h h':Heap} {k k':Tok} {M M' T T' P:Addr→Prop} {v:Value} {en:Bool} {ds:List D} (x:ItX h k M P v en ds) (st:Step h M T h' M' T') (lk:k≤k') (hP:∀ b,P b→¬ T b):ItX h' k' M' P v en ds:=by
  induction x using ItX.casesOn with
  | lst m it nl l r=>
    obtain ⟨o,e,q⟩:=it
    obtain ⟨e',m'⟩:=st.pend _ _ m (hP _ rfl) e
    exact .lst m' ⟨o,e',q⟩ (st.out nl l) (st.keep _ _ nl l) (r.mono st lk)
  | tup m it nl l r=>
    obtain ⟨o,e,q⟩:=it
    obtain ⟨e',m'⟩:=st.pend _ _ m (hP _ rfl) e
    exact .tup m' ⟨o,e',q⟩ (st.out nl l) (st.keep _ _ nl l) (r.mono st lk)
  | rng m it=>
    obtain ⟨e',m'⟩:=st.pend _ _ m (hP _ rfl) it
    exact .rng m' e'
  | str m it=>
    obtain ⟨o,e,q⟩:=it
    obtain ⟨e',m'⟩:=st.pend _ _ m (hP _ rfl) e
    exact .str m' ⟨o,e',q⟩
  | enum m m2 ne en it nl l r=>
    obtain ⟨e1,m1'⟩:=st.pend _ _ m (hP _ (.inl rfl)) en
    obtain ⟨o,e,q⟩:=it
    obtain ⟨e',m'⟩:=st.pend _ _ m2 (hP _ (.inr rfl)) e
    exact .enum m1' m' ne e1 ⟨o,e',q⟩ (st.out nl l) (st.keep _ _ nl l) (r.mono st lk)
theorem letGo_plain {target:Expr} {I:Addr} {T:String} {fs:Array Value} {v:Value} {s:Shared} {Q:Unit→Shared→Prop} (hit:∃ o,s.heap.get? I=some o∧o.cls=.type T∧o.data=.fields fs) (hT:plainIt T) (h:Q () s) :
    wpAny (model prog w) A (letOwnedTupleGo target (.ref I) v) Q E s:=by
  obtain ⟨o,ho,hc,hd⟩:=hit
  have hT':=hT
  unfold plainIt at hT'
  unfold letOwnedTupleGo
  cases target <;> first
    | exact wpAny_pure h
    | (cases v <;> first
        | exact wpAny_pure h
        | (refine wpAny_bind (wpAny_load ho ?_)
           rw [hc,hd]
           simp only [hT',Bool.false_and,Bool.false_eq_true,if_false]
           exact wpAny_pure h))
noncomputable def isTupT:Expr→Bool
  | .Tuple ..=>true
  | _=>false
theorem itx_next {s:Shared} {M P:Addr→Prop} {it:Value} {en:Bool} {ds:List D} {ptg:Expr} {Q:Option Value→Shared→Prop} (hh:A.handled=none) (S:Stand s.heap M) (x:ItX s.heap s.toks M P it en ds) (ht:en=true→isTupT ptg=true)
    (item:∀ d r v s₁,ds=d :: r→(∀ (K:Unit→Shared→Prop) E',(∀ s₂,AtP P s s₂→(∀ b,P b→∃ o,s₂.heap.get? b=some o)→Real s₂.heap s₂.toks M v d→ItX s₂.heap s₂.toks M P it en r→K () s₂)→wpAny (model prog w) A (letOwnedTupleGo ptg it v) K E' s₁)→Q (some v) s₁)
    (done:∀ s₁,ds=[]→AtP P s s₁→Q none s₁):wpAny (model prog w) A (pyNext it) Q E s:=by
  induction x using ItX.casesOn with
  | @lst I l vs ds n i m hit nl hl r=>
    cases hd:ds.drop i with
    | nil=>
      have hn:vs.toArray[i]? = none:=by
        have h1:ds.length≤i:=List.drop_eq_nil_iff.mp hd
        rw [← r.len] at h1; simpa using h1
      exact wpAny_pyNext_list_end hh hit hl.isList hn fun h' he=>done _ hd ⟨fun b o hb e=>he b o hb e,rfl,rfl,Nat.le_refl _⟩
    | cons d rest=>
      have h1:ds[i]? = some d:=by
        have:=congrArg (fun l=>l[0]?) hd
        simpa using this
      have h2:ds.drop (i+1)=rest:=by rw [← List.drop_drop,hd]; rfl
      obtain ⟨v,hv,rv⟩:=r.get h1
      refine wpAny_pyNext_list_item hit hl.isList (x:=v) (by simpa using hv) fun h' hit' hs=>?_
      refine item d rest v _ hd fun K E' hK=>letGo_listiter hit' (hK _ ?_ ?_ ?_ ?_)
      · exact ⟨fun b o hb e=>(hs.2 b hb).trans e,rfl,rfl,Nat.le_refl _⟩
      · rintro b rfl; obtain ⟨o,e,_⟩:=hit'; exact ⟨o,e⟩
      all_goals
        have st:Step s.heap M (fun b=>b=I) h' M (fun b=>b=I):=⟨fun b o n e=>(hs.2 b (fun q=>n (q ▸ m))).trans e,fun b o mb n e=>⟨(hs.2 b n).trans e,mb⟩,fun b mb=>.inl mb,fun b t=>.inl t⟩
      · exact rv.mono st (Nat.le_refl _)
      · rw [← h2]; exact .lst m hit' nl (st.keep _ _ nl hl) (r.mono st (Nat.le_refl _))
  | @tup I l vs ds n i m hit nl hl r=>
    cases hd:ds.drop i with
    | nil=>
      have hn:vs.toArray[i]? = none:=by
        have h1:ds.length≤i:=List.drop_eq_nil_iff.mp hd
        rw [← r.len] at h1; simpa using h1
      exact wpAny_pyNext_tuple_end hh hit (IsT.isTuple' hl) hn fun h' he=>done _ hd ⟨fun b o hb e=>he b o hb e,rfl,rfl,Nat.le_refl _⟩
    | cons d rest=>
      have h1:ds[i]? = some d:=by
        have:=congrArg (fun l=>l[0]?) hd
        simpa using this
      have h2:ds.drop (i+1)=rest:=by rw [← List.drop_drop,hd]; rfl
      obtain ⟨v,hv,rv⟩:=r.get h1
      refine wpAny_pyNext_tuple_item hit (IsT.isTuple' hl) (x:=v) (by simpa using hv) fun h' hit' hs=>?_
      refine item d rest v _ hd fun K E' hK=>letGo_plain (T:= "tuple_iterator") (by obtain ⟨o,e,c,d⟩:=hit'; exact ⟨o,e,c,d⟩) (by unfold plainIt; decide +kernel) (hK _ ?_ ?_ ?_ ?_)
      · exact ⟨fun b o hb e=>(hs.2 b hb).trans e,rfl,rfl,Nat.le_refl _⟩
      · rintro b rfl; obtain ⟨o,e,_⟩:=hit'; exact ⟨o,e⟩
      all_goals
        have st:Step s.heap M (fun b=>b=I) h' M (fun b=>b=I):=⟨fun b o n e=>(hs.2 b (fun q=>n (q ▸ m))).trans e,fun b o mb n e=>⟨(hs.2 b n).trans e,mb⟩,fun b mb=>.inl mb,fun b t=>.inl t⟩
      · exact rv.mono st (Nat.le_refl _)
      · rw [← h2]; exact .tup m hit' nl (st.keep _ _ nl hl) (r.mono st (Nat.le_refl _))
  | @rng I x left step m hit=>
    by_cases hl:0 < left
    · refine wpAny_pyNext_range_item hit hl fun h' hit' hs=>?_
      have hd:((List.range left.toNat).map fun j:Nat=>D.int (x+j * step))=.int x :: ((List.range (left - 1).toNat).map fun j:Nat=>D.int (x+step+j * step)):=by
        obtain ⟨k,hk⟩ : ∃ k,left.toNat=k+1:=Nat.exists_eq_add_one_of_ne_zero (Nat.ne_of_gt (Int.lt_toNat.mpr hl))
        rw [hk,List.range_succ_eq_map,List.map_cons,tn1 hk]
        congr 1
        · simp
        · rw [List.map_map]; apply List.map_congr_left; intro j _; simp [Int.add_mul]; lia
      refine item _ _ _ _ hd fun K E' hK=>letGo_plain (T:= "range_iterator") ⟨_,hit',rfl,rfl⟩ (by unfold plainIt; decide +kernel) (hK _ ?_ ?_ ?_ ?_)
      · exact ⟨fun b o hb e=>(hs.2 b hb).trans e,rfl,rfl,Nat.le_succ _⟩
      · rintro b rfl; exact ⟨_,hit'⟩
      · exact .int _ _
      · exact .rng m hit'
    · refine wpAny_pyNext_range_end hh hit (by exact Int.not_lt.mp hl) fun h' he=>done _ ?_ ⟨fun b o hb e=>he b o hb e,rfl,rfl,Nat.le_refl _⟩
      rw [Int.toNat_of_nonpos (Int.not_lt.mp hl)]; rfl
  | @str I xs t i m hit=>
    cases hd:xs.drop i with
    | nil=>
      have hn:(mkS xs).cps[i]? = none:=by
        have h1:xs.length≤i:=List.drop_eq_nil_iff.mp hd
        simpa [mkS] using h1
      exact wpAny_pyNext_ascii_end hh hit hn fun h' he=>done _ (by rw [hd]; rfl) ⟨fun b o hb e=>he b o hb e,rfl,rfl,Nat.le_refl _⟩
    | cons cc rest=>
      have h1:xs[i]? = some cc:=by
        have:=congrArg (fun l=>l[0]?) hd
        simpa using this
      have h2:xs.drop (i+1)=rest:=by rw [← List.drop_drop,hd]; rfl
      refine wpAny_pyNext_ascii_item hit (c:=cc) (by simpa [mkS] using h1) fun h' hit' hs=>?_
      refine item (.str [cc]) (rest.map fun c=>.str [c]) _ _ (by rw [hd]; rfl) fun K E' hK=>letGo_plain (T:= "str_ascii_iterator") (by obtain ⟨o,e,c,d⟩:=hit'; exact ⟨o,e,c,d⟩) (by unfold plainIt; decide +kernel) (hK _ ?_ ?_ ?_ ?_)
      · exact ⟨fun b o hb e=>(hs.2 b hb).trans e,rfl,rfl,Nat.le_succ _⟩
      · rintro b rfl; obtain ⟨o,e,_⟩:=hit'; exact ⟨o,e⟩
      · exact .str (s:=[cc]) _ (by rw [line_is]; exact Nat.le_of_ble_eq_true rfl)
      · rw [← h2]; exact .str m hit'
  | @enum e I l vs ds n i old m m2 ne hen hit nl hl r=>
    cases hd:ds.drop i with
    | nil=>
      have hn:vs.toArray[i]? = none:=by
        have h1:ds.length≤i:=List.drop_eq_nil_iff.mp hd
        rw [← r.len] at h1; simpa using h1
      exact wpAny_pyNext_enum_end hh hen hit hl.isList hn fun h' he=>done _ (by rw [hd]; rfl) ⟨fun b o hb ee=>he b o (fun q=>hb (.inr q)) ee,rfl,rfl,Nat.le_refl _⟩
    | cons d rest=>
      have h1:ds[i]? = some d:=by
        have:=congrArg (fun l=>l[0]?) hd
        simpa using this
      have h2:ds.drop (i+1)=rest:=by rw [← List.drop_drop,hd]; rfl
      obtain ⟨v,hv,rv⟩:=r.get h1
      refine wpAny_pyNext_enum_item hen hit hl.isList (x:=v) (by simpa using hv) ne fun h' ho hit' htu hsz hk=>?_
      refine item (.tup [.int i,d]) (enumL (i+1) rest) _ _ (by rw [hd]; rfl) fun K E' hK=>?_
      have htg:=ht rfl
      cases ptg <;> try ((first | exact absurd htg Bool.false_ne_true | cases htg); done)
      refine wpAny_letOwnedTupleGo_enum ho fun h'' he hs=>?_
      have es:e≠s.heap.objs.size:=fun q=>by have:=Heap.lt_size hen; rw [q] at this; exact Nat.lt_irrefl _ this
      have keep:∀ b o,¬ (b=e∨b=I)→s.heap.get? b=some o→h''.get? b=some o:=fun b o n ee=>(hs.2 b (fun q=>n (.inl q))).trans (hk b o (fun q=>n (.inl q)) (fun q=>n (.inr q)) ee)
      have hit2:Heap.IsListIter h'' I l (i+1):=by
        obtain ⟨o,e1,q⟩:=hit'
        exact ⟨o,(hs.2 I (fun q=>ne q.symm)).trans e1,q⟩
      have st:Step s.heap M (fun b=>b=e∨b=I) h'' M (fun b=>b=e∨b=I):=
        ⟨fun b o n ee=>keep b o (fun q=>by rcases q with q | q <;> subst q <;> exact n (by assumption)) ee,fun b o mb n ee=>⟨keep b o n ee,mb⟩,fun b mb=>.inl mb,fun b t=>.inl t⟩
      refine hK _ ⟨keep,rfl,rfl,Nat.le_succ _⟩ ?_ ?_ ?_
      · rintro b (rfl | rfl)
        · exact ⟨_,he⟩
        · obtain ⟨o,e1,_⟩:=hit2; exact ⟨o,e1⟩
      · exact .tup (vs:=[.int i s.toks,v]) (n:=0) S.fresh ((hs.2 _ es.symm).trans htu) (.cons (.int _ _) (.cons (rv.mono st (Nat.le_succ _)) .nil))
      · rw [← h2]
        exact .enum m m2 ne (i:=i+1) he hit2 nl (st.keep _ _ nl hl) (r.mono st (Nat.le_succ _))
end
end Mine
end
section
open PySem PySem.W PyProof.Rows
set_option autoImplicit false
namespace Mine
section
variable {lv:Nat} {F:Funs} {n:Nat} {φ:Fx} {loc:Locs} {σ σ':St} {c:Cf} {S:Sx} {env:Env} {A:Around} {EE:Value→Shared→Prop} {Q:Value→Shared→Prop} {d:D}
theorem itx_self {s:Shared} {k:Tok} {M P:Addr→Prop} {it:Value} {en:Bool} {ds:List D} (x:ItX s.heap k M P it en ds) (h:Q it s):wpAny (model prog w) A (pyIter it) Q EE s:=by
  induction x using ItX.casesOn with
  | lst m hit nl hl r=>exact wpAny_pyIter_listiter hit h
  | tup m hit nl hl r=>exact wpAny_pyIter_tupleiter hit h
  | rng m hit=>exact wpAny_pyIter_rangeiter hit h
  | str m hit=>exact wpAny_pyIter_striter_ascii hit h
  | enum m m2 ne hen hit nl hl r=>exact wpAny_pyIter_enum hen h
variable (ev:EvOK F n) (Gx:Gl φ.hT) (r:Room n A) (V:EnvOK φ S loc env) (R:Rep φ loc σ c)
theorem RealL.bare {h:Heap} {k:Tok} {M M':Addr→Prop} {vs:List Value} {ds:List D} {b:Addr} (hM:∀ x,M' x ↔ (M x∨x=b)) (r:RealL h k M vs ds) (hb:h.get? b=none) {h':Heap} {k':Tok} (lk:k≤k') (hk:∀ b o,h.get? b=some o→h'.get? b=some o):RealL h' k' M' vs ds:=
  r.mono (T:=fun _=>False) (T':=fun _=>False) ⟨fun b o _ e=>hk b o e,fun b o m _ e=>⟨hk b o e,(hM b).mpr (.inl m)⟩,fun x m=>by
    rcases (hM x).mp m with m | m
    · exact .inl m
    · exact .inr (m ▸ hb),fun _ t=>t.elim⟩ lk
include ev Gx r V R in
theorem items_ok {it:E} {pit:Expr} {l:List D} (t:TrI (TrE lv) S it pit) (h:items F it σ=some (l,σ'))
    (hQ:∀ itv c' P,Ge φ loc σ c σ' c'→ItX c'.s.heap c'.s.toks c'.M P itv (isEnum it) l→(∀ b,P b→c.s.heap.get? b=none∧¬ Touch loc σ' c'.vs b)→Q itv c'.s) :
    wpAny (model prog w) A (eval pit env) (fun x s₁=>wpAny (model prog w) A (pyIter x) Q EE s₁) EE c.s:=by
  induction t using TrI.casesOn with
  | @enum e x q pe p hb hx t=>
    subst hx
    obtain ⟨⟨dl,σ₁⟩,h1,h⟩:=bs h
    obtain ⟨ds,h2,h⟩:=ms h
    obtain ⟨rfl,rfl⟩:=Prod.mk.inj h
    obtain rfl:=lst_is h2
    refine Call_ (bname_ok Gx V R hb bi_enum ?_)
    refine Pv.callWith_type1 ?_ (starEach_cons t _)
    rw [backTo_tr (.cons t .nil)]
    refine Calls.spliced_cons (ev Gx r V R t h1 fun v c₁ g₁ r₁=>Calls.spliced_nil ?_)
    obtain ⟨a,vs,n',rfl,ma,la,ra,za⟩:=r₁.inv
    refine call_enumerate_list la.isList fun h' he hi hsz hk=>?_
    refine wpAny_pyIter_enum he ?_
    have hn:=fresh_none c₁.s.heap
    have hn1:c₁.s.heap.get? (c₁.s.heap.objs.size+1)=none:=by
      cases q:c₁.s.heap.get? (c₁.s.heap.objs.size+1) with
      | none=>rfl
      | some o=>exact absurd (show c₁.s.heap.objs.size+1 < c₁.s.heap.objs.size from Heap.lt_size q) (Nat.not_lt.mpr (Nat.le_succ _))
    have gr:Grow c₁.s c₁.M { c₁.s with heap:=h' } (fun b=>c₁.M b∨(b=c₁.s.heap.objs.size+1∨b=c₁.s.heap.objs.size)):=by
      refine ⟨⟨hk,rfl,rfl,Nat.le_refl _⟩,fun b m=>.inl m,fun b m=>?_,fun b m=>?_⟩
      · rcases m with m | rfl | rfl
        · exact .inl m
        · exact .inr hn1
        · exact .inr hn
      · rcases m with m | rfl | rfl
        · obtain ⟨o,e⟩:=g₁.go.rep.stand b m; exact ⟨o,hk b o e⟩
        · exact ⟨_,he⟩
        · obtain ⟨o,e,_⟩:=hi; exact ⟨o,e⟩
    have st:=fun _:Nat=>gr.step (T:=fun _=>False) (T':=fun _=>False) (fun _ t=>t.elim)
    refine hQ _ ⟨_,_,c₁.vs⟩ (fun b=>b=c₁.s.heap.objs.size+1∨b=c₁.s.heap.objs.size) (g₁.grow gr) ?_ ?_
    · have:=ItX.enum (k:=c₁.s.toks) (i:=0) (M:=fun b=>c₁.M b∨(b=c₁.s.heap.objs.size+1∨b=c₁.s.heap.objs.size)) (.inr (.inl rfl)) (.inr (.inr rfl)) (Nat.ne_of_gt (Nat.lt_succ_self _)) he hi ((st 0).out ma la) ((st 0).keep _ _ ma la) (ra.mono (st 0) (Nat.le_refl _))
      exact this
    · rintro b (rfl | rfl)
      · exact ⟨g₁.go.stay _ hn1,Touch.ne (c:=c₁) g₁.go.rep hn1⟩
      · exact ⟨g₁.go.stay _ hn,Touch.ne (c:=c₁) g₁.go.rep hn⟩
  | @plain it pit t=>
    have hne:isEnum it=false:=by obtain ⟨_,t⟩:=t.out; induction t using TrE1.casesOn <;> rfl
    obtain ⟨⟨d,σ₁⟩,h1,h⟩:=bs ((it_plain hne).symm.trans h)
    obtain ⟨l,h2,h⟩:=ms h
    obtain ⟨rfl,rfl⟩:=Prod.mk.inj h
    rw [hne] at hQ
    refine ev Gx r V R t h1 fun v c₁ g₁ r₁=>?_
    have hn:=fresh_none c₁.s.heap
    have fin:∀ (o:Obj),o.isFreed=false→(ItX (c₁.s.heap.push o) c₁.s.toks (fun b=>c₁.M b∨b=c₁.s.heap.objs.size) (fun b=>b=c₁.s.heap.objs.size) (.ref c₁.s.heap.objs.size) false l)→
        Q (.ref c₁.s.heap.objs.size) { c₁.s with heap:=c₁.s.heap.push o }:=fun o ho x=>
      hQ _ ⟨_,_,c₁.vs⟩ _ (g₁.grow (Grow.push g₁.go.rep.stand o ho)) x fun b q=>by subst q; exact ⟨g₁.go.stay _ hn,Touch.ne (c:=c₁) g₁.go.rep hn⟩
    have st:∀ (o:Obj),o.isFreed=false→Step c₁.s.heap c₁.M (fun _=>False) (c₁.s.heap.push o) (fun b=>c₁.M b∨b=c₁.s.heap.objs.size) (fun _=>False):=fun o ho=>(Grow.push g₁.go.rep.stand o ho).step (fun _ t=>t.elim)
    induction d using D.casesOn with
    | str xs=>
      obtain ⟨t,rfl,hz⟩:=r₁.inv
      obtain ⟨ha,rfl⟩:=iteS h2
      refine wpAny_pyIter_ascii (by simpa [mkS,Mine.ascii] using ha) (fin _ rfl ?_)
      exact .str (i:=0) (t:=t) (.inr rfl) ⟨_,Heap.get?_push_size _ rfl,rfl,rfl⟩
    | list ds=>
      obtain ⟨ad,vs,n',rfl,ma,la,ra,za⟩:=r₁.inv
      obtain rfl:=some1 h2
      refine wpAny_pyIter_list la.isList (fin _ rfl ?_)
      have st:=fun q=>st { cls:=.type "list_iterator",data:=.fields #[.ref q,.int 0 0] } rfl
      exact .lst (i:=0) (ds:=ds) (.inr rfl) ⟨_,Heap.get?_push_size _ rfl,rfl,rfl⟩ ((st ad).out ma la) ((st ad).keep _ _ ma la) (ra.mono (st ad) (Nat.le_refl _))
    | tup ds=>
      obtain ⟨ad,vs,n',rfl,ma,la,ra⟩:=r₁.inv
      obtain rfl:=some1 h2
      refine wpAny_pyIter_tuple (IsT.isTuple' la) (fin _ rfl ?_)
      have st:=fun q=>st { cls:=.type "tuple_iterator",data:=.fields #[.ref q,.int 0 0] } rfl
      exact .tup (i:=0) (ds:=ds) (.inr rfl) ⟨_,Heap.get?_push_size _ rfl,rfl,rfl⟩ ((st ad).out ma la) ((st ad).keep _ _ ma la) (ra.mono (st ad) (Nat.le_refl _))
    | rng x y z=>
      obtain ⟨a,t,u,v,rfl,m,hr⟩:=r₁.inv
      obtain ⟨hs,rfl⟩:=iteS h2
      refine wpAny_pyIter_range hr (range_small _ _ _ hs) (fin _ rfl ?_)
      have:=ItX.rng (k:=c₁.s.toks) (M:=fun b=>c₁.M b∨b=c₁.s.heap.objs.size) (h:=c₁.s.heap.push { cls:=.type "range_iterator",data:=.fields #[rawInt x,rawInt (Builtin.Range.rangeSize x y z),rawInt z] }) (I:=c₁.s.heap.objs.size) (x:=x) (left:=Builtin.Range.rangeSize x y z) (step:=z) (.inr rfl) (Heap.get?_push_size _ rfl)
      rw [show (rangeL x y z).map D.int=(List.range (Builtin.Range.rangeSize x y z).toNat).map fun j:Nat=>.int (x+j * z) by rw [rangeL,List.map_map]; rfl]
      exact this
    | _=>exact nos h2
end
end Mine
end
section
open PySem PySem.W PyProof.Rows
set_option autoImplicit false
namespace Mine
theorem isLC_nf {k:Option NameKind} (h:isLC k=true):k≠some .free:=by
  intro q; subst q; exact absurd h Bool.false_ne_true
section
variable {F:Funs} {n:Nat} {φ:Fx} {loc:Locs} {σ σ' σ₀:St} {c c₀:Cf} {S:Sx} {env:Env} {A:Around} {EE:Value→Shared→Prop} {Q:Unit→Shared→Prop} {d:D}
noncomputable def Waits (c₀:Cf) (loc:Locs) (σ:St) (c:Cf):List Slot→List Value→Prop
  | [],[]=>True
  | s :: ss,v :: vs=>Pend c₀ loc σ c s.1 s.2 v∧(∀ (i:Nat) (s':Slot) (v':Value),ss[i]? = some s'→vs[i]? = some v'→s.1≠.sh→s'.1≠.sh→v≠v')∧Waits c₀ loc σ c ss vs
  | _,_=>False
theorem Pend.store {c':Cf} {i:Nat} {s:Slot} {v:Value} {o:Own} {d:D} {u:Value} (R:Rep φ loc σ c) (p:Pend c₀ loc σ c o d u)
    (hM:c'.M=c.M) (hv:c'.vs=fun j=>if j=i then v else c.vs j) (hk:∀ b o,¬ Touch loc σ c.vs b→c.s.heap.get? b=some o→c'.s.heap.get? b=some o) (tk:c.s.toks≤c'.s.toks)
    (hi:∃ L,loc i=some L) (ne:s.1≠.sh→o≠.sh→v≠u):Pend c₀ loc (σ.put i s) c' o d u:=by
  have st:Step c.s.heap c.M (Touch loc σ c.vs) c'.s.heap c'.M (Touch loc σ c.vs):=by
    rw [hM]
    refine ⟨fun b ob m e=>hk b ob (fun t=>?_) e,fun b ob m t e=>⟨hk b ob t e,m⟩,fun b m=>.inl m,fun b t=>.inl t⟩
    rcases t with ⟨j,L,h,rfl⟩ | ⟨j,o',d',e',ho,va⟩
    · exact m (R.locs j L h).2.1
    · obtain ⟨L,_,_,sl⟩:=R.vals j _ _ e'
      obtain ⟨a',o',va',ma,_⟩:=(SlotOK.root ho sl).ref
      rw [va] at va'; obtain rfl:=Value.ref.inj va'; exact m ma
  induction o using Own.casesOn with
  | sh=>exact Real.mono st tk p
  | bor=>exact p
  | own=>
    obtain ⟨rr,fr⟩:=p
    refine ⟨OwnR.mono' st tk rr (fun a o q e=>hk a o (fr a q).2 e) (fun a _ m=>hM ▸ m),fun a q=>⟨(fr a q).1,fun t=>?_⟩⟩
    rcases t with t | ⟨j,o',d',e',ho,va⟩
    · exact (fr a q).2 (.inl t)
    · obtain ⟨L,hL⟩:=hi
      rw [St.get_put _ _ _ _ (R.locs i L hL).2.2.2] at e'
      rw [hv] at va
      dsimp only at va
      split at e'
      · rename_i h
        obtain ⟨rfl,rfl⟩:=some2 e'
        rw [if_pos h] at va
        exact ne ho (by decide) (va.trans q.symm)
      · rename_i h
        rw [if_neg h] at va
        exact (fr a q).2 (.inr ⟨j,o',d',e',ho,va⟩)
theorem Waits.store {c':Cf} {i:Nat} {s:Slot} {v:Value} (R:Rep φ loc σ c) (hM:c'.M=c.M) (hv:c'.vs=fun j=>if j=i then v else c.vs j) (hk:∀ b o,¬ Touch loc σ c.vs b→c.s.heap.get? b=some o→c'.s.heap.get? b=some o) (tk:c.s.toks≤c'.s.toks)
    (hi:∃ L,loc i=some L):∀ {ss:List Slot} {vs:List Value},Waits c₀ loc σ c ss vs→(∀ (j:Nat) (s':Slot) (v':Value),ss[j]? = some s'→vs[j]? = some v'→s.1≠.sh→s'.1≠.sh→v≠v')→Waits c₀ loc (σ.put i s) c' ss vs
  := by
  intro ss vs h ne
  induction ss,vs using two_ind with
  | nn=>trivial
  | cc s' ss v' vs ih=>exact ⟨Pend.store R h.1 hM hv hk tk hi (ne 0 s' v' rfl rfl),h.2.1,ih h.2.2 fun j s'' v'' e1 e2=>ne (j+1) s'' v'' e1 e2⟩
  | nc=>exact h.elim
  | cn=>exact h.elim
theorem assignEach_names {is:List Nat} {pes:List Expr} (t:TrN S is pes):(assignEach pes env).length=is.length∧(assignEach pes env).findIdx? (·.1)=none:=by
  induction t with
  | nil=>exact ⟨rfl,rfl⟩
  | cons h1 h2 ts ih=>
    obtain ⟨a,b⟩:=ih
    exact ⟨congrArg Nat.succ a,List.findIdx?_cons.trans (by rw [if_neg Bool.false_ne_true,b]; rfl)⟩
theorem storeAll_ok (V:EnvOK φ S loc env) (R₀:Rep φ loc σ₀ c₀):∀ {is:List Nat} {pes:List Expr} {ss:List Slot} {vs:List Value} {σ σ':St} {c:Cf} (g:Go φ loc σ₀ c₀ loc σ c) (t:TrN S is pes) (h:putAll is ss σ=some σ') (W:Waits c₀ loc σ c ss vs)
    (hQ:∀ c',Go φ loc σ₀ c₀ loc σ' c'→(∀ j,j ∉ is→c'.vs j=c.vs j)→Q () c'.s),wpAny (model prog w) A (assignInOrder ((assignEach pes env).map (·.2)) vs) Q EE c.s
  := by
  intro is pes ss vs σ σ' c g t
  induction t generalizing ss vs σ c with
  | nil=>
    intro h W hQ
    induction ss using List.casesOn with
    | cons _ _=>exact nos h
    | nil=>induction vs using List.casesOn with
      | cons _ _=>exact W.elim
      | nil=>
        obtain rfl:=some1 h
        exact wpAny_pure (hQ c g fun _ _=>rfl)
  | @cons i x p is pes h1 h2 ts ih=>
    intro h W hQ
    induction ss using List.casesOn with
    | nil=>exact nos h
    | cons s ss=>induction vs using List.casesOn with
    | nil=>exact W.elim
    | cons v vs=>
    obtain ⟨L,hL,_⟩:=V.vars x i h1
    refine wpAny_bind (wpAny_holding (wpAny_assign_Name (store_ok V R₀ g h1 (isLC_nf h2) W.1 fun c' g' hM hv hk tk=>?_)))
    exact ih g' h (Waits.store g.rep hM hv hk tk ⟨L,hL⟩ W.2.2 W.2.1) fun c'' g'' hv'=>hQ c'' g'' fun j hj=>by
      rw [hv' j (fun m=>hj (List.mem_cons_of_mem _ m)),hv]; exact if_neg (fun q:j=i=>hj (by rw [q]; exact List.mem_cons_self))
theorem Waits.sh {ds:List D} {vs:List Value} (r:RealL c.s.heap c.s.toks c.M vs ds):Waits c₀ loc σ c (ds.map fun d=>(Own.sh,d)) vs:=by
  induction r using RealL.ind with | nil=>trivial | cons _ _ _ _ a r ih=>exact ⟨a,fun _ _ _ _ _ h=>absurd rfl h,ih⟩
theorem putAll_len:∀ {is:List Nat} {ss:List Slot} {σ σ':St},putAll is ss σ=some σ'→is.length=ss.length
  := by
  intro is ss σ σ' h
  induction is,ss using two_ind generalizing σ with
  | nn=>rfl
  | cc i is s ss ih=>exact congrArg Nat.succ (ih h)
  | nc=>exact nos h
  | cn=>exact nos h
noncomputable def tgOf:Tg→List Nat
  | .v i=>[i]
  | .t is=>is
theorem assign_ok (r:Room n A) (V:EnvOK φ S loc env) (R:Rep φ loc σ c) {tg:Tg} {ptg:Expr} {v:Value} (t:TrTg S tg ptg) (rv:Real c.s.heap c.s.toks c.M v d) (h:bindT tg d σ=some σ')
    (hQ:∀ c',Go φ loc σ c loc σ' c'→(∀ j,j ∉ tgOf tg→c'.vs j=c.vs j)→Q () c'.s):wpAny (model prog w) A (assign ptg env v) Q EE c.s:=by
  induction t using TrTg.casesOn with
  | v h1 h2 h3=>
    obtain rfl:=some1 h
    exact wpAny_assign_Name (store_ok (d:=d) (o:=.sh) V R (.refl R) h1 (isLC_nf h2) rv fun c' g _ hv _ _=>hQ c' g fun j hj=>by rw [hv]; exact if_neg (fun q=>hj (by rw [q]; exact List.mem_cons_self)))
  | @t is _ _ _ hn ts=>
    induction d using D.casesOn with
    | tup ds=>
      rw [bT_t] at h
      by_cases hq:is.length=ds.length
      · rw [if_pos hq] at h
        obtain ⟨_,_,_,rfl,ma,la,ra⟩:=rv.inv
        obtain ⟨e1,e2⟩:=assignEach_names (env:=env) ts
        have hl:=putAll_len h
        refine wpAny_assign_Tuple r.1 (IsT.isTuple' la) (by rw [e1,List.size_toArray,ra.len,hl]; simp) e2 fun h' he=>?_
        have x:Ext c.s { c.s with heap:=h' }:=⟨fun b o e=>he b o (fun q=>by rw [q,fresh_none] at e; exact nos e) e,rfl,rfl,Nat.le_refl _⟩
        have g:=R.ext x
        exact storeAll_ok (c:=⟨_,c.M,c.vs⟩) V R g ts h (Waits.sh (by simpa using ra.ext x)) hQ
      · rw [if_neg hq] at h; exact nos h
    | _=>exact nos h
end
end Mine
end
section
open PySem PySem.W PyProof.Rows
set_option autoImplicit false
namespace Mine
section
variable {lv:Nat} {F:Funs} {n:Nat} {φ:Fx} {loc loc₁:Locs} {σ σ' σ₁:St} {c c₁:Cf} {S:Sx} {env:Env} {A:Around} {EE:Value→Shared→Prop} {d:D}
theorem tests_ok (evt:EvtOK F n) (Gx:Gl φ.hT) (r:Room n A) (V:EnvOK φ S loc env) {Q:Bool→Shared→Prop}
    (f:Expr→Bool→Sem (ForInStep Bool)) (hf:∀ c r,f c r=if r=true then do let ok ← isTrue c env (eval c env); pure (ForInStep.yield ok) else pure (ForInStep.yield r)) :
    ∀ {es:List E} {pes:List Expr} {σ:St} {c:Cf} {b:Bool} {σ':St} (R:Rep φ loc σ c) (t:TrTs (TrE lv) S es pes) (h:allT F es σ=some (b,σ')) (hB:∀ c',Ge φ loc σ c σ' c'→Q b c'.s),
    wpAny (model prog w) A (forIn pes true f) Q EE c.s:=by
  have skip:∀ (pes:List Expr) (s:Shared),Q false s→wpAny (model prog w) A (forIn pes false f) Q EE s:=by
    intro pes
    induction pes with
    | nil=>intro s q; rw [List.forIn_nil]; exact wpAny_pure q
    | cons p pes ih=>
      intro s q
      rw [List.forIn_cons,hf]
      exact wpAny_bind (wpAny_pure (ih s q))
  intro es
  induction es with
  | nil=>intro pes σ c b σ' R t h hB; obtain rfl:=t.inv; obtain ⟨rfl,rfl⟩:=some2 h; rw [List.forIn_nil]; exact wpAny_pure (hB c (.refl R))
  | cons e es ih=>
    intro pes σ c b σ' R t h hB
    obtain ⟨_,_,rfl,t,ts⟩:=t.inv
    rw [List.forIn_cons,hf,if_pos rfl]
    obtain ⟨⟨b₁,σ₁⟩,h1,h⟩:=bs h
    induction b₁ using Bool.casesOn with
    | true=>exact wpAny_bind (wpAny_bind (evt Gx r V R t h1 fun c₁ g₁=>wpAny_pure (ih g₁.go.rep ts h fun c₂ g₂=>hB c₂ (g₁.trans g₂))))
    | false=>
      obtain ⟨rfl,rfl⟩:=some2 h
      exact wpAny_bind (wpAny_bind (evt Gx r V R t h1 fun c₁ g₁=>wpAny_pure (skip _ _ (hB c₁ g₁))))
theorem compTurn_ok {pelt:Expr} {gens:List Comprehension} {scope:Scope} {pos:Pos} {k:Nat} {target iter:Expr} {ifs:List Expr} {it acc:Value} {s:Shared} {Q:Fin→Shared→Prop}
    (hg:gens[k]? = some ⟨target,iter,ifs,0⟩) (ha:∀ g',gens[k+1]? = some g'→g'.is_async=0)
    (h:wpAny (model prog w) A (pyNext it) (fun r s₁=>match r with
      | none=>Q (.done .next) s₁
      | some v=>wpAny (model prog w) A (letOwnedTupleGo target it v) (fun _ s₂=>wpAny (model prog w) A (assign target env v) (fun _ s₃=>
          wpAny (model prog w) A (forIn ifs true fun c r=>if r=true then do let ok ← isTrue c env (eval c env); pure (ForInStep.yield ok) else pure (ForInStep.yield r)) (fun ok s₄=>
            if ok=true then (match gens[k+1]? with
              | some g'=>wpAny (model prog w) A (eval g'.iter env) (fun x s₅=>wpAny (model prog w) A (foldedSetIterable g'.iter env x) (fun x s₅=>
                  wpAny (model prog w) A (pyIter x) (fun it' s₆=>wpAny (model prog w) A (runOwn (.compStart (.ListComp pelt gens scope pos) (k+1) it' acc env) env) (fun _ s₇=>Q (.again (.compLoop (.ListComp pelt gens scope pos) k it acc env)) s₇) EE s₆) EE s₅) EE s₅) EE s₄
              | none=>wpAny (model prog w) A (eval pelt env) (fun x s₅=>wpAny (model prog w) A (call (.builtin "list.append") [acc,x]) (fun _ s₆=>Q (.again (.compLoop (.ListComp pelt gens scope pos) k it acc env)) s₆) EE s₅) EE s₄)
            else Q (.again (.compLoop (.ListComp pelt gens scope pos) k it acc env)) s₄) EE s₃) EE s₂) EE s₁) EE s) :
    wpAny (model prog w) A (compTurn (.ListComp pelt gens scope pos) k it acc env) Q EE s:=by
  unfold compTurn
  simp only [hg]
  refine wpAny_bind (wpAny_standAt (wpAny_bind (wpAny_mono h (fun r s₁ h₁=>?_) fun _ _ e=>e)))
  induction r using Option.casesOn with
  | none=>exact wpAny_pure h₁
  | some v=>
    refine wpAny_bind (wpAny_mono h₁ (fun _ s₂ h₂=>wpAny_bind (wpAny_mono h₂ (fun _ s₃ h₃=>wpAny_bind (wpAny_mono h₃ (fun ok s₄ h₄=>?_) fun _ _ e=>e)) fun _ _ e=>e)) fun _ _ e=>e)
    induction ok using Bool.casesOn with
    | false=>exact wpAny_pure (by simpa using h₄)
    | true=>
      simp only [if_true] at h₄ ⊢
      cases hk:gens[k+1]? with
      | none=>
        rw [hk] at h₄
        exact wpAny_bind (wpAny_bind (wpAny_mono h₄ (fun x s₅ h₅=>wpAny_bind (wpAny_mono h₅ (fun _ s₆ h₆=>wpAny_pure (wpAny_pure h₆)) fun _ _ e=>e)) fun _ _ e=>e))
      | some g'=>
        rw [hk] at h₄
        have ha':=ha g' hk
        simp only [ha',show ((0:Int) != 0)=false from rfl,Bool.false_eq_true,if_false]
        refine wpAny_bind (wpAny_mono h₄ (fun x s₅ h₅=>wpAny_bind (wpAny_standAt (wpAny_bind (wpAny_mono h₅ (fun x s₅ h₅=>?_) fun _ _ e=>e)))) fun _ _ e=>e)
        exact wpAny_bind (wpAny_holding (wpAny_mono h₅ (fun it' s₆ h₆=>wpAny_bind (wpAny_mono h₆ (fun _ s₇ h₇=>wpAny_pure h₇) fun _ _ e=>e)) fun _ _ e=>e))
end
end Mine
end
section
open PySem PySem.W PyProof.Rows
set_option autoImplicit false
namespace Mine
section
variable {lv:Nat} {F:Funs} {n:Nat} {φ:Fx} {loc loc₁:Locs} {σ σ' σ₁:St} {c c₁ c':Cf} {S:Sx} {env:Env} {A:Around} {EE:Value→Shared→Prop} {d:D} {R:Result→Shared→Prop}
theorem codeAny_compStart_at {pelt:Expr} {gens:List Comprehension} {scope:Scope} {pos:Pos} {k:Nat} {it acc:Value} {s:Shared} (ha:∀ g,gens[k]? = some g→g.is_async=0)
    (h0:codeAny (model prog w) A (.compLoop (.ListComp pelt gens scope pos) k it acc env) R s)
    (h:∀ E',wpAny (model prog w) A (pyIter it) (fun it' s'=>codeAny (model prog w) A (.compLoop (.ListComp pelt gens scope pos) k it' acc env) R s') E' s) :
    codeAny (model prog w) A (.compStart (.ListComp pelt gens scope pos) k it acc env) R s:=by
  refine codeAny_of_tree ?_
  show wpAny _ _ ((compStart (.ListComp pelt gens scope pos) k it acc env).onRaise (fun x=>do noteFrame x env; standAt theWindowsPlace)) _ _ s
  refine wpAny_notedAt ?_
  unfold compStart
  have e:(((clausesOf (.ListComp pelt gens scope pos))[k]?).elim false (·.is_async != 0))=false:=by
    show ((gens[k]?).elim false (·.is_async != 0))=false
    cases q:gens[k]? with
    | none=>rfl
    | some g=>simp [ha g q]
  simp only [e,Bool.false_eq_true,if_false]
  show wpAny _ _ (ask >>= _) _ _ s
  refine wpAny_bind (wpAny_askSetting (wpAny_ite ?_))
  split
  · first
      | exact wpAny_bind (wpAny_pure (wpAny_pure (And.intro rfl h0)))
      | exact wpAny_pure (And.intro rfl h0)
  · refine wpAny_bind (wpAny_rule ?_)
    have cl:clausesOf (.ListComp pelt gens scope pos)=gens:=rfl
    rw [cl]
    cases q:gens[k]? with
    | none=>exact wpAny_bind (wpAny_mono (h _) (fun it' s' h'=>wpAny_pure (And.intro rfl h')) fun _ _ x=>x)
    | some g=>exact wpAny_bind (wpAny_standAt (wpAny_bind (wpAny_mono (h _) (fun it' s' h'=>wpAny_pure (And.intro rfl h')) fun _ _ x=>x)))
noncomputable def Acc (D₁:Addr) (c:Cf) (acc:List D):Prop:=OwnR c.s.heap c.s.toks c.M (.ref D₁) (.list acc)
theorem append_acc {D₁:Addr} {acc:List D} {v:Value} (a:Acc D₁ c acc) (rv:Real c.s.heap c.s.toks c.M v d) (hz:acc.length < line) (R₁:Rep φ loc σ c) (hn:φ.h₀.get? D₁=none) (hT:¬ Touch loc σ c.vs D₁) {Q:Value→Shared→Prop}
    (hQ:∀ c',Gy φ (fun b=>b=D₁) loc σ c loc σ c'→c'.vs=c.vs→Acc D₁ c' (acc++[d])→Q .none c'.s):wpAny (model prog w) A (call (.builtin "list.append") [.ref D₁,v]) Q EE c.s:=by
  obtain ⟨_,vs,n',e₀,m,l,r,z⟩:=a.inv
  injection e₀ with e₀
  subst e₀
  refine call_meets PySem.F.slot_list_append l.isList.typeIs PySem.F.entry_list_append (PySem.F.args_list_append_2 _ _) (list_append D₁ vs.toArray n' v (by rw [List.size_toArray,r.len,sizeLine_eq]; rw [line_is] at hz; lia)) ?_
  refine ⟨l,?_⟩
  have st:AtP (fun b=>b=D₁) c.s { c.s with heap:=c.s.heap.update D₁ (Obj.mapSeq fun xs=>xs.push v) }:=⟨fun b o hb e=>((Heap.SameBut.update ..).2 b hb).trans e,rfl,rfl,Nat.le_refl _⟩
  have hl:∃ n2,IsL (c.s.heap.update D₁ (Obj.mapSeq fun xs=>xs.push v)) D₁ (vs++[v]).toArray n2:=by
    have:=Heap.get?_update_self (Obj.mapSeq fun xs=>xs.push v) l rfl
    rw [show (vs++[v]).toArray=vs.toArray.push v by simp]
    exact ⟨_,this⟩
  obtain ⟨n2,hl⟩:=hl
  have g:=Gy.chg (Y:=fun b=>b=D₁) R₁ rfl m hn hT st hl
  refine hQ ⟨_,c.M,c.vs⟩ g rfl ?_
  exact .list m hl ((g.realL r).append (.cons (g.real rv) .nil)) (by rw [List.length_append,List.length_singleton]; assumption)
theorem not_touch {Y:Addr→Prop} (g:Gy φ Y loc σ c loc₁ σ₁ c₁) {b:Addr} (m:c.M b) (R₁:Rep φ loc σ c) (nt:¬ Touch loc σ c.vs b) (ny:¬ Y b):¬ Touch loc₁ σ₁ c₁.vs b:=fun t=>by
  rcases g.step.touch b (.inl t) with q | q
  · exact q.elim nt ny
  · obtain ⟨o,e⟩:=R₁.stand b m
    rw [e] at q; exact nos q.symm
theorem not_touch' (g:Go φ loc σ c loc₁ σ₁ c₁) {b:Addr} (m:c.M b) (R₁:Rep φ loc σ c) (nt:¬ Touch loc σ c.vs b):¬ Touch loc₁ σ₁ c₁.vs b:=
  not_touch (Y:=fun _=>False) g.y m R₁ nt (fun f=>f)
variable (ev:EvOK F n) (evt:EvtOK F n) (Gx:Gl φ.hT) (r:Room n A) (V:EnvOK φ S loc env)
noncomputable def bodyTree (A:Around) (pelt:Expr) (gens:List Comprehension) (scope:Scope) (pos:Pos) (k:Nat) (acc:Value) (env:Env) (Qa:Shared→Prop) (EE:Value→Shared→Prop) (s₄:Shared):Prop:=
  match gens[k+1]? with
  | some g'=>wpAny (model prog w) A (eval g'.iter env) (fun x s₅=>wpAny (model prog w) A (foldedSetIterable g'.iter env x) (fun x s₅=>
      wpAny (model prog w) A (pyIter x) (fun it' s₆=>wpAny (model prog w) A (runOwn (.compStart (.ListComp pelt gens scope pos) (k+1) it' acc env) env) (fun _ s₇=>Qa s₇) EE s₆) EE s₅) EE s₅) EE s₄
  | none=>wpAny (model prog w) A (eval pelt env) (fun x s₅=>wpAny (model prog w) A (call (.builtin "list.append") [acc,x]) (fun _ s₆=>Qa s₆) EE s₅) EE s₄
inductive LoopI {α:Type} (φ:Fx) (Fz:Nat→Prop) (v₀:Nat→Value) (Run:List D→St→α→Prop) (D₁:Addr) (locs:Locs) (σs:St) (cs':Cf) (loc:Locs) (P:Addr→Prop) (itv:Value) (en:Bool) (Ac:Cf→α→Prop) (m:Nat) (s:Shared):Prop
  | mk (ds:List D) (acc:α) (σ:St) (c:Cf):s=c.s→(∀ i,Fz i→c.vs i=v₀ i)→m=ds.length→Run ds σ acc→Gy φ (fun b=>b=D₁) locs σs cs' loc σ c→ItX c.s.heap c.s.toks c.M P itv en ds→
    (∀ b,P b→cs'.s.heap.get? b=none∧¬ Touch loc σ c.vs b∧b≠D₁)→Ac c acc→¬ Touch loc σ c.vs D₁→LoopI φ Fz v₀ Run D₁ locs σs cs' loc P itv en Ac m s
include evt Gx r V in
theorem loop_ok {pelt:Expr} {gens:List Comprehension} {scope:Scope} {pos:Pos} (ha:∀ g∈gens,g.is_async=0) {D₁:Addr} (hD:φ.h₀.get? D₁=none) {B:St→List D→Option (List D × St)} {k:Nat}
    {Fz:Nat→Prop} (hz:∀ i,Fz i→∃ L,loc i=some L)
    (hB:∀ {σ:St} {acc acc₁:List D} {σ₁:St} {c:Cf} {Qa:Shared→Prop} {EE:Value→Shared→Prop},B σ acc=some (acc₁,σ₁)→Rep φ loc σ c→Acc D₁ c acc→¬ Touch loc σ c.vs D₁→
      (∀ c',Gy φ (fun b=>b=D₁) loc σ c loc σ₁ c'→Acc D₁ c' acc₁→¬ Touch loc σ₁ c'.vs D₁→(∀ i,Fz i→c'.vs i=c.vs i)→Qa c'.s)→bodyTree A pelt gens scope pos k (.ref D₁) env Qa EE c.s)
    {tg:Tg} {cs:List E} {ptg pit:Expr} {pcs:List Expr} (hg:gens[k]? = some ⟨ptg,pit,pcs,0⟩) (ttg:TrTg S tg ptg) (tcs:TrTs (TrE lv) S cs pcs) (htz:∀ i∈tgOf tg,¬ Fz i)
    {ds acc acc':List D} {σ σ':St} {c:Cf} {P:Addr→Prop} {itv:Value} {en:Bool} {locs:Locs} {σs:St} {cs':Cf} {R:Result→Shared→Prop} (h:loopC F tg cs B ds σ acc=some (acc',σ')) (Rs:Rep φ locs σs cs')
    (g:Gy φ (fun b=>b=D₁) locs σs cs' loc σ c) (x:ItX c.s.heap c.s.toks c.M P itv en ds) (ht:en=true→isTupT ptg=true) (hP:∀ b,P b→cs'.s.heap.get? b=none∧¬ Touch loc σ c.vs b∧b≠D₁)
    (ac:Acc D₁ c acc) (nt:¬ Touch loc σ c.vs D₁)
    (hR:∀ c',Gy φ (fun b=>b=D₁) locs σs cs' loc σ' c'→Acc D₁ c' acc'→¬ Touch loc σ' c'.vs D₁→(∀ i,Fz i→c'.vs i=c.vs i)→R (.ok .next) c'.s) :
    codeAny (model prog w) A (.compLoop (.ListComp pelt gens scope pos) k itv (.ref D₁) env) R c.s:=by
  obtain ⟨v₀,hv₀⟩ : ∃ v₀,v₀=c.vs:=⟨_,rfl⟩
  refine codeAny_loop rfl (LoopI φ Fz v₀ (fun ds σ acc=>loopC F tg cs B ds σ acc=some (acc',σ')) D₁ locs σs cs' loc P itv en (Acc D₁)) (fun m s hI=>?_) ds.length (.mk ds acc σ c rfl (fun i _=>by rw [hv₀]) rfl h g x hP ac nt)
  rw [← hv₀] at hR
  clear h g x hP ac nt hv₀
  obtain ⟨ds,acc,σ,c,rfl,hvz,rfl,h,g,x,hP,ac,nt⟩:=hI
  show wpAny _ A ((compTurn (.ListComp pelt gens scope pos) k itv (.ref D₁) env).onRaise (fun x=>do noteFrame x env; theTreesLotGoes x)) _ _ c.s
  refine wpAny_noted (compTurn_ok hg (fun g' q=>ha g' (List.mem_of_getElem? q)) ?_)
  have subP:=x.sub
  refine itx_next r.1 g.rep.stand x ht (fun d ds' v s₁ hds hgo=>?_) (fun s₁ hds x₁=>?_)
  · subst hds
    obtain ⟨σ₁,h1,h⟩:=bs h
    refine hgo _ _ fun s₂ x₂ self real itx=>?_
    have S₂:Stand s₂.heap c.M:=fun b m=>by
      by_cases p:P b
      · exact self b p
      · obtain ⟨o,e⟩:=g.rep.stand b m; exact ⟨o,x₂.keep b o p e⟩
    have g₂:=g.pend Rs subP (fun b p=>(hP b p).1) (fun b p=>(hP b p).2.1) x₂ (fun _ m=>m) (fun _ m _=>m) S₂
    have ac₂:Acc D₁ ⟨s₂,c.M,c.vs⟩ acc:=by
      obtain ⟨a',o',q,md,ed⟩:=OwnR.ref ac
      obtain rfl:=Value.ref.inj q
      exact OwnR.mono' (x₂.step subP (M':=c.M) (fun _ m=>m) (fun _ m _=>m)) x₂.toks ac (fun a o q e=>by obtain rfl:=Value.ref.inj q; exact x₂.keep _ o (fun p=>(hP _ p).2.2 rfl) e) (fun a _ m=>m)
    obtain ⟨_,_,q0,mD,_⟩:=OwnR.ref ac₂
    obtain rfl:=Value.ref.inj q0
    refine assign_ok (c:=⟨s₂,c.M,c.vs⟩) r V g₂.rep ttg real h1 fun c₃ g₃ hv₃=>?_
    obtain ⟨⟨b₁,σ₂⟩,h2,h⟩:=bs h
    induction b₁ using Bool.casesOn with
    | true=>
      obtain ⟨⟨acc₁,σ₃⟩,h3,h⟩:=bs h
      refine tests_ok evt Gx r V _ (fun _ _=>rfl) g₃.rep tcs h2 fun c₄ g₄=>?_
      simp only [if_true]
      have g₅:=g₃.trans g₄.go
      have nt₄:¬ Touch loc σ₂ c₄.vs D₁:=not_touch' g₅ mD g₂.rep nt
      refine hB h3 g₄.go.rep (OwnR.go g₅ ac₂ fun a q=>Value.ref.inj q ▸ nt) nt₄ fun c' g' ac' nt' hv'=>?_
      have g₆:=(g₅.y (Y:=fun b=>b=D₁)).trans g'
      exact ⟨trivial,ds'.length,Nat.lt_succ_self _,.mk ds' acc₁ σ₃ c' rfl (fun i hi=>by
        obtain ⟨L,hL⟩:=hz i hi
        rw [hv' i hi,g₄.vs i L hL,hv₃ i (fun m=>htz i m hi)]; exact hvz i hi) rfl h (g₂.trans g₆) (itx.mono g₆.step g₆.toks (fun b p t=>t.elim (hP b p).2.1 (hP b p).2.2))
        (fun b p=>⟨(hP b p).1,not_touch g₆ (subP b p) g₂.rep (hP b p).2.1 (hP b p).2.2,(hP b p).2.2⟩) ac' nt'⟩
    | false=>
      refine tests_ok evt Gx r V _ (fun _ _=>rfl) g₃.rep tcs h2 fun c₄ g₄=>?_
      simp only [Bool.false_eq_true,if_false]
      have g₅:=g₃.trans g₄.go
      have g₆:=g₅.y (Y:=fun b=>b=D₁)
      exact ⟨trivial,ds'.length,Nat.lt_succ_self _,.mk ds' acc σ₂ c₄ rfl (fun i hi=>by
        obtain ⟨L,hL⟩:=hz i hi
        rw [g₄.vs i L hL,hv₃ i (fun m=>htz i m hi)]; exact hvz i hi) rfl h (g₂.trans g₆) (itx.mono g₆.step g₆.toks (fun b p t=>t.elim (hP b p).2.1 (hP b p).2.2))
        (fun b p=>⟨(hP b p).1,not_touch g₆ (subP b p) g₂.rep (hP b p).2.1 (hP b p).2.2,(hP b p).2.2⟩) (OwnR.go g₅ ac₂ (fun a q=>Value.ref.inj q ▸ nt)) (not_touch' g₅ mD g₂.rep nt)⟩
  · subst hds
    obtain ⟨rfl,rfl⟩:=some2 h
    have S₂:Stand s₁.heap (fun b=>c.M b∧¬ P b):=fun b m=>by
      obtain ⟨o,e⟩:=g.rep.stand b m.1; exact ⟨o,x₁.keep b o m.2 e⟩
    have g₂:=g.pend Rs subP (fun b p=>(hP b p).1) (fun b p=>(hP b p).2.1) x₁ (M':=fun b=>c.M b∧¬ P b) (fun _ m=>m.1) (fun _ m n=>⟨m,n⟩) S₂
    refine hR ⟨s₁,_,c.vs⟩ g₂ ?_ nt hvz
    exact OwnR.mono' (x₁.step subP (M':=fun b=>c.M b∧¬ P b) (fun _ m=>m.1) (fun _ m n=>⟨m,n⟩)) x₁.toks ac (fun a o q e=>by obtain rfl:=Value.ref.inj q; exact x₁.keep _ o (fun p=>(hP _ p).2.2 rfl) e) (fun a q m=>by obtain rfl:=Value.ref.inj q; exact ⟨m,fun p=>(hP _ p).2.2 rfl⟩)
include ev evt Gx r V in
theorem body_ok {elt:E} {pelt:Expr} {gens:List Comprehension} {scope:Scope} {pos:Pos} (ha:∀ g∈gens,g.is_async=0) (telt:TrE lv S elt pelt) {D₁:Addr} (hD:φ.h₀.get? D₁=none) {Fz:Nat→Prop} (hz:∀ i,Fz i→∃ L,loc i=some L) :
    ∀ (gs:List (Tg × E × List E)) {pgs:List Comprehension} {k:Nat},gens.drop (k+1)=pgs→TrG (TrE lv) S gs pgs→(∀ g∈gs,isEnum g.2.1=true→∃ is,g.1=.t is)→(∀ g∈gs,∀ i∈tgOf g.1,¬ Fz i)→
    ∀ {σ:St} {acc acc₁:List D} {σ₁:St} {c:Cf} {Qa:Shared→Prop} {EE:Value→Shared→Prop},compG F elt gs σ acc=some (acc₁,σ₁)→Rep φ loc σ c→Acc D₁ c acc→¬ Touch loc σ c.vs D₁→
      (∀ c',Gy φ (fun b=>b=D₁) loc σ c loc σ₁ c'→Acc D₁ c' acc₁→¬ Touch loc σ₁ c'.vs D₁→(∀ i,Fz i→c'.vs i=c.vs i)→Qa c'.s)→bodyTree A pelt gens scope pos k (.ref D₁) env Qa EE c.s:=by
  intro gs
  induction gs with
  | nil=>
    intro pgs k hp t he htz σ acc acc₁ σ₁ c Qa EE h R ac nt hQ
    obtain rfl:=t.inv
    have hk:gens[k+1]? = none:=by
      have:=congrArg (fun l=>l[0]?) hp
      simpa using this
    unfold bodyTree
    rw [hk]
    obtain ⟨⟨d,σ₂⟩,h1,h⟩:=bs h
    obtain ⟨hlen,h⟩:=iteS h
    obtain ⟨rfl,rfl⟩:=Prod.mk.inj h
    refine ev Gx r V R telt h1 fun v c₁ g₁ r₁=>?_
    obtain ⟨_,_,q0,mD,_⟩:=OwnR.ref ac
    obtain rfl:=Value.ref.inj q0
    have nt₁:=not_touch' g₁.go mD R nt
    refine append_acc (OwnR.go g₁.go ac fun a q=>Value.ref.inj q ▸ nt) r₁ hlen g₁.go.rep hD nt₁ fun c' g' ev' ac'=>?_
    exact hQ c' (g₁.go.y.trans g') ac' (by rw [ev']; exact nt₁) fun i hi=>by
      obtain ⟨L,hL⟩:=hz i hi
      rw [ev']; exact g₁.vs i L hL
  | cons g gs ih=>
    intro pgs k hp t he htz σ acc acc₁ σ₁ c Qa EE h R ac nt hQ
    obtain ⟨tg,it,cs⟩:=g
    obtain ⟨ptg,pit,pcs,pgs',rfl,hpl,tit,ttg,tcs,tgs⟩:=t.inv
    have hk:gens[k+1]? = some ⟨ptg,pit,pcs,0⟩:=by
      have:=congrArg (fun l=>l[0]?) hp
      simpa using this
    have hp':gens.drop (k+1+1)=pgs':=by rw [← List.drop_drop,hp]; rfl
    unfold bodyTree
    rw [hk]
    obtain ⟨⟨l,σ₂⟩,h1,h⟩:=bs h
    obtain ⟨_,_,q0,mD,eD⟩:=OwnR.ref ac
    obtain rfl:=Value.ref.inj q0
    have main:∀ {Q:Value→Shared→Prop},(∀ itv c' P,Ge φ loc σ c σ₂ c'→ItX c'.s.heap c'.s.toks c'.M P itv (isEnum it) l→(∀ b,P b→c.s.heap.get? b=none∧¬ Touch loc σ₂ c'.vs b)→Q itv c'.s)→
        wpAny (model prog w) A (eval pit env) (fun x s₁=>wpAny (model prog w) A (foldedSetIterable pit env x) (fun x s₁=>wpAny (model prog w) A (pyIter x) Q EE s₁) EE s₁) EE c.s:=fun {Q} hq=>
      wpAny_mono (items_ok ev Gx r V R tit h1 hq) (fun x s₁ h'=>wpAny_of_eq (hpl env x) h') fun _ _ e=>e
    refine main fun itv c' P g' x' hP=>?_
    have nt':=not_touch' g'.go mD R nt
    have ac':Acc D₁ c' acc:=OwnR.go g'.go ac fun a q=>Value.ref.inj q ▸ nt
    have run:codeAny (model prog w) A (.compLoop (.ListComp pelt gens scope pos) (k+1) itv (.ref D₁) env) (fun r s'=>match r with | .ok f=>Qa s' | .error e=>cameBackBy (model prog w) A env EE e s') c'.s:=by
      refine loop_ok evt Gx r V ha hD hz (ih hp' tgs (fun g hg=>he g (List.mem_cons_of_mem _ hg)) fun g hg=>htz g (List.mem_cons_of_mem _ hg)) hk ttg tcs (htz _ List.mem_cons_self) h R g'.go.y x' (fun e=>?_) (fun b p=>⟨(hP b p).1,(hP b p).2,fun q=>by have h5:=(hP b p).1; rw [q,eD] at h5; cases h5⟩) ac' nt' fun c'' g'' ac'' nt'' hv''=>hQ c'' g'' ac'' nt'' fun i hi=>by
        obtain ⟨L,hL⟩:=hz i hi
        rw [hv'' i hi]; exact g'.vs i L hL
      obtain ⟨is,q⟩:=he _ List.mem_cons_self e
      dsimp only at q
      subst q
      cases ttg; rfl
    refine wpAny_runOwn ?_
    exact codeAny_compStart_at (fun g q=>ha g (List.mem_of_getElem? q)) run fun E'=>itx_self x' run
end
end Mine
end
section
open PySem PySem.W PyProof.Rows
set_option autoImplicit false
namespace Mine
noncomputable def useAct (use:Option (Value→Sem Unit)) (v:Value):Sem Unit:=match use with
  | none=>pure ()
  | some u=>u v
noncomputable def useVal (use:Option (Value→Sem Unit)) (v:Value):Value:=match use with
  | none=>v
  | some _=>.none
noncomputable def ownScope (scope:Scope) (env:Env):Scope:=
  { scope with names:=scope.names.map fun (n,k)=>if (k == .free && env.scope.kind == .function && env.kindOf n == some .cell) then (n,.cell) else (n,k) }
theorem lookup_own {names:List (Str × NameKind)} {p:Str→NameKind→Bool} {x:Str} :
    (names.map fun (n,k)=>if p n k then (n,NameKind.cell) else (n,k)).lookup x=(names.lookup x).map fun k=>if p x k then .cell else k:=by
  induction names with
  | nil=>rfl
  | cons a r ih=>
    obtain ⟨n,k⟩:=a
    rw [List.map_cons,List.lookup_cons]
    dsimp only
    cases hb:x == n with
    | true=>
      have e:x=n:=eq_of_beq hb
      subst e
      cases hp:p x k <;> simp [List.lookup_cons,hp]
    | false=>
      cases hp:p n k <;> simp [List.lookup_cons,hb,ih]
theorem names_own (scope:Scope) (env:Env) (x:Str):(ownScope scope env).names.lookup x=(scope.names.lookup x).map fun k=>if (k == .free && env.scope.kind == .function && env.kindOf x == some .cell) then .cell else k:=
  lookup_own (p:=fun n k=>(k == .free && env.scope.kind == .function && env.kindOf n == some .cell))
section
variable {M:Model} {A:Around} {E:Value→Shared→Prop} {s:Shared} {env:Env}
theorem newEnv_comp {scope:Scope} {cl:List (Str × Addr)} {Q:Env→Shared→Prop}
    (h:Q (newEnv scope s.heap.objs.size env.globals (cellsFrom (s.heap.objs.size+1) scope.names cl) env.qual none .none (some env) builtinsNs) { s with heap:=pushCells (s.heap.push { cls:=.type "dict",data:=.dict #[] }) scope.names }) :
    wpAny M A (newFunctionEnv scope env.globals cl [] env.qual none .none (some env)) Q E s:=by
  simp only [newFunctionEnv,Option.isSome_some,if_true]
  refine wpAny_bind (wpAny_alloc ?_)
  refine wpAny_bind (wpAny_layCells _ (fun name kind cells=>by cases hkc:kind == NameKind.cell <;> simp [hkc]) _ _ _ _ ?_)
  rw [show ({ s with heap:=s.heap.push { cls:=.type "dict",data:=.dict #[] } }:Shared).heap.objs.size=s.heap.objs.size+1 from Heap.size_push ..]
  rw [List.forIn_nil]
  exact wpAny_bind (wpAny_pure (wpAny_pure h))
theorem letGo_cells {cenv:Env} {cellsOf:List (Str × NameKind)→List Value} {Q:Unit→Shared→Prop}:∀ (vs:List (Str × NameKind)) (s:Shared),(∀ x∈vs,x.2≠.local)→Q () s→wpAny M A (comprehension.letGo cenv cellsOf vs) Q E s
  | [],s,_,h=>wpAny_pure h
  | (n,k) :: r,s,hk,h=>by
    rw [comprehension.letGo]
    have hb:(k == NameKind.local)=false:=by simpa using hk (n,k) List.mem_cons_self
    refine wpAny_bind (wpAny_holding ?_)
    simp only [hb,Bool.false_eq_true,if_false]
    exact wpAny_point (letGo_cells r s (fun x hx=>hk x (List.mem_cons_of_mem _ hx)) h)
noncomputable def someLocal (scope:Scope):Prop:=∃ x∈scope.names,x.2=NameKind.local∧x.1 ≠ ".0"
theorem letGo_any {scope:Scope} {cenv:Env} {cellsOf:List (Str × NameKind)→List Value} (hkind:cenv.scope.kind=.function) {Q:Unit→Shared→Prop} {s:Shared} (vs:List (Str × NameKind)) (sub:∀ x∈vs,x∈scope.names.filter fun x=>(x.2 == .local || x.2 == .cell) && x.1 != (".0" : Str))
    (hv:∀ x∈vs,x.2=.local→cenv.kindOf x.1=some .local) (hn:someLocal scope→∃ m,s.heap.Ns cenv.locals m) (hQ:∀ h',Heap.SameBut cenv.locals s.heap h'→(¬ someLocal scope→h'=s.heap)→Q () { s with heap:=h' }):wpAny M A (comprehension.letGo cenv cellsOf vs) Q E s:=by
  by_cases hl:someLocal scope
  · obtain ⟨m,hn⟩:=hn hl
    exact wpAny_comp_letGo hkind vs s m hv hn fun h' m' _ hs=>hQ h' hs fun n=>absurd hl n
  · refine letGo_cells vs s (fun x hx hloc=>hl ?_) (hQ s.heap (.refl ..) fun _=>rfl)
    obtain ⟨h1,h2⟩:=List.mem_filter.mp (sub x hx)
    rw [Bool.and_eq_true] at h2
    exact ⟨x,h1,hloc,by simpa using h2.2⟩
theorem comp_node {e:Expr} {scope:Scope} {pos:Pos} {newAcc first:Sem Value} {g:Comprehension} {gs:List Comprehension} {use:Option (Value→Sem Unit)} {cl:List (Str × Addr)} {Q:Value→Shared→Prop}
    (hcl:clausesOf e=g :: gs) (hs:∀ x,foldedSetIterable g.iter env x=pure x) (hclos:closureFor scope env=pure cl) (hkind:scope.kind=.function) (hnames:∀ x∈scope.names,x.2=.local→scope.names.lookup x.1=some .local)
    (h:wpAny M A first (fun x s₁=>wpAny M A (pyIter x) (fun it s₂=>wpAny M A newAcc (fun acc s₃=>
      wpAny M A (newFunctionEnv scope env.globals cl [] env.qual none .none (some env)) (fun cenv s₄=>
        codeAny M A (.compStart e 0 it acc { cenv with scope:=ownScope scope env }) (fun r s'=>match r with
          | .error _=>False
          | .ok _=>wpAny M A (useAct use acc) (fun _ s''=>(someLocal scope→∃ m,s''.heap.Ns cenv.locals m)∧∀ h',Heap.SameBut cenv.locals s''.heap h'→(¬ someLocal scope→h'=s''.heap)→Q (useVal use (acc)) { s'' with heap:=h' }) E s') s₄) E s₃) E s₂) E s₁) E s) :
    wpAny M A (comprehension e scope env pos newAcc false first use) Q E s:=by
  unfold comprehension
  rw [hclos,hcl]
  refine wpAny_bind (wpAny_mono h (fun x s₁ h₁=>wpAny_bind (wpAny_standAt (wpAny_bind (wpAny_of_eq (hs x) (wpAny_bind (wpAny_holding (wpAny_mono h₁ (fun it s₂ h₂=>
    wpAny_standIf (wpAny_bind (wpAny_mono h₂ (fun acc s₃ h₃=>wpAny_bind (wpAny_pure (wpAny_bind (wpAny_mono h₃ (fun cenv s₄ h₄=>?_) fun _ _ h'=>h')))) fun _ _ h'=>h')))
      fun _ _ h'=>h'))))))) fun _ _ h'=>h')
  dsimp only
  have kloc:∀ x∈scope.names,x.2=.local→Env.kindOf { cenv with scope:=ownScope scope env } x.1=some .local:=fun x hx hl=>by
    show (ownScope scope env).names.lookup x.1=_
    rw [names_own,hnames x hx hl]; rfl
  have hk':({ cenv with scope:=ownScope scope env }:Env).scope.kind=.function:=hkind
  have hv:∀ l:List (Str × NameKind),(∀ x∈l,x∈scope.names)→∀ x∈l,x.2=.local→Env.kindOf { cenv with scope:=ownScope scope env } x.1=some .local:=fun l hl x hx hloc=>kloc x (hl x hx) hloc
  have sub:∀ x∈(scope.names.filter fun x=>(x.2 == .local || x.2 == .cell) && x.1 != (".0" : Str)).reverse,x∈scope.names:=fun x hx=>(List.mem_filter.mp (List.mem_reverse.mp hx)).1
  refine wpAny_holding (wpAny_bind (wpAny_attempt (wpAny_holding (wpAny_run (codeAny_mono h₄ fun r s' hr=>?_)))))
  induction r using Except.casesOn with
  | error x=>exact hr.elim
  | ok f=>
    induction use using Option.casesOn with
    | none=>
      refine (show ∀ {X:Sem Value} {E':Value→Shared→Prop},wpAny M A ((pure ():Sem Unit) >>= fun _=>X) Q E' s'→wpAny M A X Q E' s' from fun h=>h) (wpAny_bind (wpAny_mono hr (fun _ s'' hr'=>?_) fun _ _ h'=>h'))
      obtain ⟨hn,hr'⟩:=hr'
      exact wpAny_bind (wpAny_holding (letGo_any (cenv:={ cenv with scope:=ownScope scope env }) hk' _ (fun x hx=>List.mem_reverse.mp hx) (hv _ sub) hn fun h' hs' n=>wpAny_pure (hr' h' hs' n)))
    | some u=>
      refine wpAny_bind (wpAny_rule (wpAny_bind (wpAny_holding (wpAny_mono hr (fun _ s'' hr'=>?_) fun _ _ h'=>h'))))
      obtain ⟨hn,hr'⟩:=hr'
      have sub':∀ (l:List (Str × NameKind)) x,x∈l.drop 1++l.take 1→x∈l:=fun l x hx=>(List.mem_append.mp hx).elim (fun h1=>List.mem_of_mem_drop h1) (fun h1=>List.mem_of_mem_take h1)
      exact wpAny_bind (letGo_any (cenv:={ cenv with scope:=ownScope scope env }) hk' _ (fun x hx=>List.mem_reverse.mp (sub' _ x hx)) (hv _ fun x hx=>sub x (sub' _ x hx)) hn fun h' hs' n=>wpAny_pure (hr' h' hs' n))
end
end Mine
end
section
open PySem PySem.W PyProof.Rows
set_option autoImplicit false
namespace Mine
theorem cellsFrom_append:∀ (names:List (Str × NameKind)) (n:Nat) (acc:List (Str × Addr)),cellsFrom n names acc=cellsFrom n names []++acc
  | [],n,acc=>rfl
  | (x,k) :: r,n,acc=>by
    unfold cellsFrom
    split
    · rw [cellsFrom_append r (n+1) ((x,n) :: acc),cellsFrom_append r (n+1) [(x,n)]]; simp
    · exact cellsFrom_append r n acc
theorem lookup_append {α:Type} {l r:List (Str × α)} {x:Str}:(l++r).lookup x=(l.lookup x).or (r.lookup x):=by
  induction l with
  | nil=>simp
  | cons a l ih=>
    obtain ⟨k,v⟩:=a
    rw [List.cons_append,List.lookup_cons,List.lookup_cons]
    cases x == k <;> simp [ih]
theorem cellsFrom_mem:∀ (names:List (Str × NameKind)) (n:Nat) (x:Str) (c:Addr),(x,c)∈cellsFrom n names []→(x,NameKind.cell)∈names
  | [],n,x,c,h=>by cases h
  | (y,k) :: r,n,x,c,h=>by
    unfold cellsFrom at h
    split at h
    · rename_i hk
      rw [cellsFrom_append] at h
      rcases List.mem_append.mp h with h | h
      · exact List.mem_cons_of_mem _ (cellsFrom_mem r _ x c h)
      · simp at h
        obtain ⟨rfl,rfl⟩:=h
        rw [eq_of_beq hk]; exact List.mem_cons_self
    · exact List.mem_cons_of_mem _ (cellsFrom_mem r _ x c h)
theorem cellsFrom_some:∀ (names:List (Str × NameKind)) (n:Nat) (x:Str),(x,NameKind.cell)∈names→∃ c,(cellsFrom n names []).lookup x=some c
  | [],n,x,h=>by cases h
  | (y,k) :: r,n,x,h=>by
    unfold cellsFrom
    rcases List.mem_cons.mp h with h | h
    · cases h
      show ∃ c,List.lookup y (cellsFrom (n+1) r [(y,n)])=some c
      rw [cellsFrom_append,lookup_append]
      cases q:(cellsFrom (n+1) r []).lookup y with
      | some c=>exact ⟨c,rfl⟩
      | none=>exact ⟨n,by simp [List.lookup_cons]⟩
    · split
      · rw [cellsFrom_append,lookup_append]
        obtain ⟨c,q⟩:=cellsFrom_some r (n+1) x h
        exact ⟨c,by rw [q]; rfl⟩
      · exact cellsFrom_some r n x h
theorem mem_of_look {α:Type} {l:List (Str × α)} {x:Str} {v:α} (h:l.lookup x=some v):(x,v)∈l:=mem_of_lookup h
theorem nodup_iff {α:Type} [DecidableEq α]:∀ {l:List α},nodup l=true→l.Nodup
  | [],_=>List.nodup_nil
  | a :: l,h=>by
    obtain ⟨h1,h2⟩:=Bool.and_eq_true_iff.mp (show (!l.contains a && nodup l)=true from h)
    exact List.nodup_cons.mpr ⟨fun m=>by rw [List.contains_iff_mem.mpr m] at h1; exact Bool.false_ne_true h1,nodup_iff h2⟩
theorem look_of_mem {α:Type}:∀ {l:List (Str × α)} {x:Str} {v:α},(l.map (·.1)).Nodup→(x,v)∈l→l.lookup x=some v
  | (y,u) :: r,x,v,hn,h=>by
    rw [List.map_cons,List.nodup_cons] at hn
    rw [List.lookup_cons]
    rcases List.mem_cons.mp h with h | h
    · obtain ⟨rfl,rfl⟩:=Prod.mk.inj h; simp
    · have:x≠y:=fun q=>hn.1 (List.mem_map.mpr ⟨(x,v),h,q⟩)
      rw [beq_false_of_ne this]
      exact look_of_mem hn.2 h
theorem closure_ok {scope:Scope} {env:Env} (h:∀ x,(x,NameKind.free)∈scope.names→∃ c,env.cells.lookup x=some c) :
    ∃ cl,closureFor scope env=pure cl∧(∀ x c,cl.lookup x=some c→env.cells.lookup x=some c)∧∀ x,(x,NameKind.free)∈scope.names→∃ c,cl.lookup x=some c:=by
  have key:∀ (f:Str × NameKind→List (Str × Addr)→Sem (ForInStep (List (Str × Addr)))) (hf:∀ n k cs,f (n,k) cs=if k == .free then (do let a ← cellOf env n; pure (.yield ((n,a) :: cs))) else pure (.yield cs))
      (names:List (Str × NameKind)) (acc:List (Str × Addr)),(∀ x,(x,NameKind.free)∈names→∃ c,env.cells.lookup x=some c)→(∀ x c,acc.lookup x=some c→env.cells.lookup x=some c)→
      ∃ cl,(forIn names acc f:Sem _)=pure cl∧(∀ x c,cl.lookup x=some c→env.cells.lookup x=some c)∧(∀ x,(x,NameKind.free)∈names→∃ c,cl.lookup x=some c)∧∀ x c,acc.lookup x=some c→∃ c,cl.lookup x=some c:=by
    intro f hf names
    induction names with
    | nil=>intro acc _ ha; exact ⟨acc,by rw [List.forIn_nil],ha,fun x h=>(nomatch h),fun x c h=>⟨c,h⟩⟩
    | cons p r ih=>
      intro acc hn ha
      obtain ⟨n,k⟩:=p
      rw [List.forIn_cons,hf]
      cases hk:k == NameKind.free with
      | false=>
        obtain ⟨cl,e,a,b,d⟩:=ih acc (fun x hx=>hn x (List.mem_cons_of_mem _ hx)) ha
        refine ⟨cl,by simpa using e,a,fun x hx=>?_,d⟩
        rcases List.mem_cons.mp hx with q | q
        · obtain ⟨rfl,rfl⟩:=Prod.mk.inj q; exact absurd hk.symm Bool.false_ne_true
        · exact b x q
      | true=>
        have hk':=eq_of_beq hk
        subst hk'
        obtain ⟨c,hc⟩:=hn n List.mem_cons_self
        have ha':∀ x c',((n,c) :: acc).lookup x=some c'→env.cells.lookup x=some c':=fun x c' h=>by
          rw [List.lookup_cons] at h
          cases hb:x == n with
          | true=>rw [hb] at h; obtain rfl:=some1 h; rw [eq_of_beq hb]; exact hc
          | false=>rw [hb] at h; exact ha x c' h
        obtain ⟨cl,e,a,b,d⟩:=ih ((n,c) :: acc) (fun x hx=>hn x (List.mem_cons_of_mem _ hx)) ha'
        refine ⟨cl,?_,a,fun x hx=>?_,fun x c' h=>?_⟩
        · simp only [if_true]
          unfold cellOf
          rw [hc]
          exact e
        · rcases List.mem_cons.mp hx with q | q
          · cases q; exact d n c (by simp [List.lookup_cons])
          · exact b x q
        · by_cases hb:x=n
          · subst hb; exact d x c (by simp [List.lookup_cons])
          · exact d x c' (by rw [List.lookup_cons,beq_false_of_ne hb]; exact h)
  obtain ⟨cl,e,a,b,_⟩:=key (fun p cs=>if p.2 == .free then (do let a ← cellOf env p.1; pure (.yield ((p.1,a) :: cs))) else pure (.yield cs)) (fun _ _ _=>rfl) scope.names [] h (fun x c h=>by exact nos h)
  refine ⟨cl,?_,a,b⟩
  rw [← e]
  unfold closureFor
  have eta:∀ m:Sem (List (Str × Addr)),(m >>= fun cs=>pure cs)=m:=fun m=>bind_pure m
  exact eta _
section
variable {φ:Fx} {loc loc':Locs} {Y:Addr→Prop} {σ:St} {c:Cf}
theorem Rep.widen (R:Rep φ loc σ c) {s':Shared} {M':Addr→Prop} (x:Grow c.s c.M s' M') (hl:∀ i L,loc i=some L→loc' i=some L)
    (hn:∀ i L,loc' i=some L→loc i=some L∨(L.ok s'.heap∧M' L.addr∧c.s.heap.get? L.addr=none∧i < σ.length)) (linj:∀ i j L,loc' i=some L→loc' j=some L→i=j):Rep φ loc' σ ⟨s',M',c.vs⟩:=by
  have R':=R.grow x
  refine { R' with locs:=fun i L e=>?_,vals:=fun i o d e=>?_,linj:=linj,apart:=fun i o d a e ho va j L hL=>?_ }
  · rcases hn i L e with q | ⟨a,b,d,f⟩
    · exact R'.locs i L q
    · exact ⟨a,b,R.fresh d,f⟩
  · obtain ⟨L,a,b⟩:=R'.vals i o d e
    exact ⟨L,hl i L a,b⟩
  · rcases hn j L hL with q | ⟨_,_,d',_⟩
    · exact R'.apart i o d a e ho va j L q
    · intro q
      obtain ⟨_,_,_,sl⟩:=R.vals i o d e
      obtain ⟨a',o',va',_,e'⟩:=(SlotOK.root ho sl).ref
      have va2:c.vs i=.ref a:=va
      rw [va2] at va'; obtain rfl:=Value.ref.inj va'
      rw [← q,d'] at e'; exact nos e'
theorem Rep.widens (R:Rep φ loc σ c) {s':Shared} {M':Addr→Prop} (x:Grow c.s c.M s' M') (hl:∀ i L,loc i=some L→loc' i=some L)
    (hn:∀ i L,loc' i=some L→loc i=some L∨(L.ok s'.heap∧M' L.addr∧c.s.heap.get? L.addr=none∧i < σ.length)) (linj:∀ i j L,loc' i=some L→loc' j=some L→i=j):Go φ loc σ c loc' σ ⟨s',M',c.vs⟩:=
  ⟨R.widen x hl hn linj,x.step fun b t=>by
    rcases t with ⟨i,L,h,rfl⟩ | t
    · rcases hn i L h with q | ⟨_,_,d,_⟩
      · exact .inl (.inl ⟨i,L,q,rfl⟩)
      · exact .inr d
    · exact .inl (.inr t),x.ext.toks,x.ext.gens,x.ext.os,fun b e=>x.ext.back e⟩
end
end Mine
end
section
open PySem PySem.W PyProof.Rows
set_option autoImplicit false
namespace Mine
structure Ck (S S':Sx) (scope:Scope) (own:List (Str × Nat)) (del:List Nat):Prop where
  kind:scope.kind=.function
  names:S'.names=scope.names
  nv:S'.nv=S.nv
  le:S.top≤S'.top
  le':S'.top≤S.nv
  ownc:∀ x i,(x,i)∈own→isLC (scope.names.lookup x)=true∧S.top≤i∧i < S'.top∧i∈del
  nd1:(own.map (·.1)).Nodup
  nd2:(own.map (·.2)).Nodup
  nd3:(scope.names.map (·.1)).Nodup
  vars:∀ x i,(x,i)∈S'.vars→(x,i)∈own∨(scope.names.lookup x=some .free∧S.vars.lookup x=some i∧isCF (S.names.lookup x)=true)
  locs:∀ x,(x,NameKind.local)∈scope.names→x ≠ ".0" → ∃ i,(x,i)∈own
  free:∀ x,(x,NameKind.free)∈scope.names→isCF (S.names.lookup x)=true∧∃ i,S.vars.lookup x=some i
theorem uniq2:∀ {l:List (Str × Nat)} {x y:Str} {i:Nat},(l.map (·.2)).Nodup→(x,i)∈l→(y,i)∈l→x=y
  | (z,j) :: r,x,y,i,hn,h1,h2=>by
    rw [List.map_cons,List.nodup_cons] at hn
    rcases List.mem_cons.mp h1 with h1 | h1 <;> rcases List.mem_cons.mp h2 with h2 | h2
    · obtain ⟨rfl,rfl⟩:=Prod.mk.inj h1; cases h2; rfl
    · cases h1; exact absurd (List.mem_map.mpr ⟨_,h2,rfl⟩) hn.1
    · cases h2; exact absurd (List.mem_map.mpr ⟨_,h1,rfl⟩) hn.1
    · exact uniq2 hn.2 h1 h2
theorem uniq1:∀ {l:List (Str × Nat)} {x:Str} {i j:Nat},(l.map (·.1)).Nodup→(x,i)∈l→(x,j)∈l→i=j
  | (z,k) :: r,x,i,j,hn,h1,h2=>by
    rw [List.map_cons,List.nodup_cons] at hn
    rcases List.mem_cons.mp h1 with h1 | h1 <;> rcases List.mem_cons.mp h2 with h2 | h2
    · obtain ⟨rfl,rfl⟩:=Prod.mk.inj h1; cases h2; rfl
    · cases h1; exact absurd (List.mem_map.mpr ⟨_,h2,rfl⟩) hn.1
    · cases h2; exact absurd (List.mem_map.mpr ⟨_,h1,rfl⟩) hn.1
    · exact uniq1 hn.2 h1 h2
theorem ck_of {S S':Sx} {scope:Scope} {own:List (Str × Nat)} {del:List Nat} (h:ckComp S S' scope own del=true):Ck S S' scope own del:=by
  unfold ckComp at h
  simp only [Bool.and_eq_true,List.all_eq_true,decide_eq_true_eq,beq_iff_eq,Bool.or_eq_true,List.contains_eq_mem,Bool.not_eq_true',beq_eq_false_iff_ne] at h
  obtain ⟨⟨⟨⟨⟨⟨⟨⟨⟨⟨⟨h1,h2⟩,h3⟩,h4⟩,h5⟩,h6⟩,h7⟩,h8⟩,h9⟩,h10⟩,h11⟩,h12⟩:=h
  refine ⟨h1,h2,h3,h4,h5,fun x i m=>?_,nodup_iff h7,nodup_iff h8,nodup_iff h9,fun x i m=>?_,fun x m n=>?_,fun x m=>?_⟩
  · have:=h6 (x,i) m; exact ⟨this.1.1.1,this.1.1.2,this.1.2,this.2⟩
  · rcases h10 (x,i) m with q | q
    · exact .inl q
    · exact .inr ⟨q.1.1,q.1.2,q.2⟩
  · rcases h12 (x,.local) m with (q | q) | q
    · exact absurd rfl q
    · exact absurd q n
    · obtain ⟨p,hp,e⟩:=List.mem_map.mp q
      have e':p.1=x:=e
      exact ⟨p.2,by rw [← e']; exact hp⟩
  · rcases h11 (x,.free) m with q | q
    · exact absurd rfl q
    · exact ⟨q.1,Option.isSome_iff_exists.mp q.2⟩
noncomputable def locOf (scope:Scope) (own:List (Str × Nat)) (L:Addr) (cells:List (Str × Addr)) (loc:Locs):Locs:=fun i=>
  match own.find? (fun p=>p.2 == i) with
  | some p=>if scope.names.lookup p.1=some .local then some (.dct L p.1) else (cells.lookup p.1).map .cel
  | none=>loc i
section
variable {φ:Fx} {loc:Locs} {σ:St} {c:Cf} {S S':Sx} {env:Env} {scope:Scope} {own:List (Str × Nat)} {del:List Nat}
noncomputable def compEnv (env:Env) (scope:Scope) (L:Addr) (cl:List (Str × Addr)):Env:=
  { newEnv scope L env.globals (cellsFrom (L+1) scope.names cl) env.qual none .none (some env) builtinsNs with scope:=ownScope scope env }
inductive CEnv (φ:Fx) (loc:Locs) (σ:St) (c:Cf) (S':Sx) (env:Env) (scope:Scope) (cl:List (Str × Addr)) (del:List Nat):Prop
  | mk (loc':Locs) (M':Addr→Prop):EnvOK φ S' loc' (compEnv env scope c.s.heap.objs.size cl)→
    Go φ loc σ c loc' σ ⟨{ c.s with heap:=pushCells (c.s.heap.push { cls:=.type "dict",data:=.dict #[] }) scope.names },M',c.vs⟩→
    (∀ b o,c.s.heap.get? b=some o→(pushCells (c.s.heap.push { cls:=.type "dict",data:=.dict #[] }) scope.names).get? b=some o)→
    (∀ i L,loc i=some L→loc' i=some L)→(∀ i L,loc' i=some L→loc i=some L∨i∈del)→M' c.s.heap.objs.size→c.s.heap.get? c.s.heap.objs.size=none→
    (∃ m,(pushCells (c.s.heap.push { cls:=.type "dict",data:=.dict #[] }) scope.names).Ns c.s.heap.objs.size m)→(∀ b,M' b→c.M b∨c.s.heap.get? b=none)→
    (someLocal scope→∃ i x,loc' i=some (.dct c.s.heap.objs.size x))→CEnv φ loc σ c S' env scope cl del
set_option tactic.hygienic true in
theorem compEnv_ok (V:EnvOK φ S loc env) (ck:Ck S S' scope own del) (R:Rep φ loc σ c) {cl:List (Str × Addr)} (hcl:∀ x a,cl.lookup x=some a→env.cells.lookup x=some a) (hfr:∀ x,(x,NameKind.free)∈scope.names→∃ a,cl.lookup x=some a) :
    CEnv φ loc σ c S' env scope cl del:=by
  have hn:=fresh_none c.s.heap
  have keep:∀ b o,c.s.heap.get? b=some o→(pushCells (c.s.heap.push { cls:=.type "dict",data:=.dict #[] }) scope.names).get? b=some o:=fun b o e=>pushCells_keeps _ _ b o (Heap.get?_push_of_some _ e)
  have ok:=cellsFrom_ok scope.names (c.s.heap.push { cls:=.type "dict",data:=.dict #[] }) (c.s.heap.objs.size+1) [] ⟨fun _ _ hm=>(nomatch hm),List.Pairwise.nil⟩ (by rw [Heap.size_push]; exact Nat.le_refl _)
  rw [Heap.size_push] at ok
  have hns:(pushCells (c.s.heap.push { cls:=.type "dict",data:=.dict #[] }) scope.names).Ns c.s.heap.objs.size (fun _=>none):=(Heap.Ns.new c.s.heap (.type "dict")).keeps (pushCells_keeps _ _)
  have none_ge:∀ b,c.s.heap.objs.size≤b→c.s.heap.get? b=none:=fun b hb=>by
    cases e:c.s.heap.get? b with
    | none=>rfl
    | some o=>exact absurd (Heap.lt_size e) (Nat.not_lt.mpr hb)
  have gr:Grow c.s c.M { c.s with heap:=pushCells (c.s.heap.push { cls:=.type "dict",data:=.dict #[] }) scope.names } (fun b=>c.M b∨b=c.s.heap.objs.size∨∃ x,(x,b)∈cellsFrom (c.s.heap.objs.size+1) scope.names []):=by
    refine ⟨⟨keep,rfl,rfl,Nat.le_refl _⟩,fun b m=>.inl m,fun b m=>?_,fun b m=>?_⟩
    · rcases m with m | rfl | ⟨x,m⟩
      · exact .inl m
      · exact .inr hn
      · exact .inr (none_ge b (Nat.le_of_succ_le (ok.empty x b m).2))
    · rcases m with m | rfl | ⟨x,m⟩
      · obtain ⟨o,e⟩:=R.stand b m; exact ⟨o,keep b o e⟩
      · obtain ⟨o,_,_,e,_⟩:=hns; exact ⟨o,e⟩
      · obtain ⟨o,e,_⟩:=(ok.empty x b m).1; exact ⟨o,e⟩
  have lnew:∀ i p,own.find? (fun p=>p.2 == i)=some p→p∈own∧p.2=i:=fun i p q=>⟨List.mem_of_find?_eq_some q,by have:=List.find?_some q; simpa using this⟩
  have find_own:∀ {x:Str} {i:Nat},(x,i)∈own→own.find? (fun p=>p.2 == i)=some (x,i):=by
    intro x i m
    cases q:own.find? (fun p=>p.2 == i) with
    | none=>exact absurd (List.find?_eq_none.mp q (x,i) m) (by simp)
    | some p=>
      obtain ⟨y,j⟩:=p
      obtain ⟨h1,h2⟩:=lnew i _ q
      dsimp only at h2
      subst h2
      rw [uniq2 ck.nd2 h1 m]
  have new:∀ i L,locOf scope own c.s.heap.objs.size (cellsFrom (c.s.heap.objs.size+1) scope.names []) loc i=some L→loc i=some L∨∃ x,(x,i)∈own∧
      ((scope.names.lookup x=some .local∧L=.dct c.s.heap.objs.size x)∨(scope.names.lookup x=some .cell∧∃ a,(cellsFrom (c.s.heap.objs.size+1) scope.names []).lookup x=some a∧L=.cel a)):=by
    intro i L h
    unfold locOf at h
    split at h
    · rename_i p q
      obtain ⟨y,j⟩:=p
      obtain ⟨h1,h2⟩:=lnew i _ q
      dsimp only at h2
      subst h2
      refine .inr ⟨y,h1,?_⟩
      split at h
      · rename_i hl; obtain rfl:=some1 h; exact .inl ⟨hl,rfl⟩
      · rename_i hl
        have:=(ck.ownc y j h1).1
        cases hk:scope.names.lookup y with
        | none=>rw [hk] at this; exact absurd this Bool.false_ne_true
        | some k=>
          rw [hk] at this
          cases k <;> try ((first | exact absurd this Bool.false_ne_true | cases this); done)
          · exact absurd hk hl
          · cases hc:(cellsFrom (c.s.heap.objs.size+1) scope.names []).lookup y with
            | none=>rw [hc] at h; exact nos h
            | some a=>rw [hc] at h; obtain rfl:=some1 h; exact .inr ⟨rfl,a,rfl,rfl⟩
    · exact .inl h
  have old:∀ i L,loc i=some L→locOf scope own c.s.heap.objs.size (cellsFrom (c.s.heap.objs.size+1) scope.names []) loc i=some L:=by
    intro i L h
    unfold locOf
    split
    · rename_i p q
      obtain ⟨y,j⟩:=p
      obtain ⟨h1,h2⟩:=lnew i _ q
      dsimp only at h2
      subst h2
      exact absurd (V.top j L h) (Nat.not_lt.mpr (ck.ownc y j h1).2.1)
    · exact h
  have hown:∀ x i,(x,i)∈own→∃ L,locOf scope own c.s.heap.objs.size (cellsFrom (c.s.heap.objs.size+1) scope.names []) loc i=some L∧
      ((scope.names.lookup x=some .local∧L=.dct c.s.heap.objs.size x)∨(scope.names.lookup x=some .cell∧∃ a,(cellsFrom (c.s.heap.objs.size+1) scope.names []).lookup x=some a∧L=.cel a)):=by
    intro x i m
    unfold locOf
    rw [find_own m]
    dsimp only
    have:=(ck.ownc x i m).1
    cases hk:scope.names.lookup x with
    | none=>rw [hk] at this; exact absurd this Bool.false_ne_true
    | some k=>
      rw [hk] at this
      cases k <;> try ((first | exact absurd this Bool.false_ne_true | cases this); done)
      · exact ⟨_,by rw [if_pos rfl],.inl ⟨rfl,rfl⟩⟩
      · obtain ⟨a,ha⟩:=cellsFrom_some scope.names (c.s.heap.objs.size+1) x (mem_of_look hk)
        exact ⟨_,by rw [if_neg (by decide),ha]; rfl,.inr ⟨rfl,a,ha,rfl⟩⟩
  refine ⟨locOf scope own c.s.heap.objs.size (cellsFrom (c.s.heap.objs.size+1) scope.names []) loc,_,?_,R.widens gr old (fun i L h=>?_) (fun i j L hi hj=>?_),keep,old,fun i L h=>?_,.inr (.inl rfl),hn,⟨_,hns⟩,gr.old,fun hl=>?_⟩
  · refine ⟨ck.kind,V.g,V.b,fun x k h=>?_,fun x i h=>?_,fun i L h=>?_,V.nv.trans ck.nv.symm⟩
    · rw [ck.names] at h
      show (ownScope scope env).names.lookup x=some k∨(k=.free∧(ownScope scope env).names.lookup x=some .cell)
      rw [names_own,h,Option.map_some]
      cases hc:(k == NameKind.free && env.scope.kind == ScopeKind.function && env.kindOf x == some NameKind.cell) with
      | false=>exact .inl rfl
      | true=>
        rw [Bool.and_eq_true,Bool.and_eq_true] at hc
        exact .inr ⟨eq_of_beq hc.1.1,rfl⟩
    · rcases ck.vars x i (mem_of_look h) with m | ⟨h1,h2,h3⟩
      · obtain ⟨L,e,q⟩:=hown x i m
        refine ⟨L,e,?_⟩
        rcases q with ⟨hl,rfl⟩ | ⟨hc,a,ha,rfl⟩
        · exact .dct (by rw [ck.names]; exact hl)
        · refine .cel (by rw [ck.names,hc]; rfl) ?_
          show (cellsFrom (c.s.heap.objs.size+1) scope.names cl).lookup x=some a
          rw [cellsFrom_append,lookup_append,ha]; rfl
      · obtain ⟨L,e,pl⟩:=V.vars x i h2
        refine ⟨L,old i L e,?_⟩
        induction pl using Place.casesOn with
        | dct q=>rw [q] at h3; exact absurd h3 Bool.false_ne_true
        | @cel a _ q=>
          refine .cel (by rw [ck.names,h1]; rfl) ?_
          show (cellsFrom (c.s.heap.objs.size+1) scope.names cl).lookup x=some a
          rw [cellsFrom_append,lookup_append]
          cases hx:(cellsFrom (c.s.heap.objs.size+1) scope.names []).lookup x with
          | some a'=>
            have:=look_of_mem ck.nd3 (cellsFrom_mem _ _ x a' (mem_of_look hx))
            rw [h1] at this; cases this
          | none=>
            obtain ⟨a',ha'⟩:=hfr x (mem_of_look h1)
            have:=hcl x a' ha'
            rw [q] at this; obtain rfl:=some1 this
            rw [ha']; rfl
    · rcases new i L h with q | ⟨x,m,_⟩
      · exact Nat.lt_of_lt_of_le (V.top i L q) ck.le
      · exact (ck.ownc x i m).2.2.1
  · rcases new i L h with q | ⟨x,m,q⟩
    · exact .inl q
    · right
      have hlen:i < σ.length:=by rw [R.len,V.nv]; exact Nat.lt_of_lt_of_le (ck.ownc x i m).2.2.1 ck.le'
      rcases q with ⟨_,rfl⟩ | ⟨_,a,ha,rfl⟩
      · exact ⟨⟨_,hns⟩,.inr (.inl rfl),hn,hlen⟩
      · have hm:=mem_of_look ha
        exact ⟨⟨_,(ok.empty x a hm).1⟩,.inr (.inr ⟨x,hm⟩),none_ge a (Nat.le_of_succ_le (ok.empty x a hm).2),hlen⟩
  · have oldne:∀ i L,loc i=some L→∃ o,c.s.heap.get? L.addr=some o:=fun i L h=>R.stand _ (R.locs i L h).2.1
    have newn:∀ {L:Loc} {x:Str},((scope.names.lookup x=some .local∧L=.dct c.s.heap.objs.size x)∨(scope.names.lookup x=some .cell∧∃ a,(cellsFrom (c.s.heap.objs.size+1) scope.names []).lookup x=some a∧L=.cel a))→c.s.heap.get? L.addr=none:=by
      rintro L x (⟨_,rfl⟩ | ⟨_,a,ha,rfl⟩)
      · exact hn
      · exact none_ge a (Nat.le_of_succ_le (ok.empty x a (mem_of_look ha)).2)
    rcases new i L hi with q | ⟨x,m,q⟩ <;> rcases new j L hj with q' | ⟨y,m',q'⟩
    · exact R.linj i j L q q'
    · obtain ⟨o,e⟩:=oldne i L q; rw [newn q'] at e; exact nos e
    · obtain ⟨o,e⟩:=oldne j L q'; rw [newn q] at e; exact nos e
    · have hxy:x=y:=by
        rcases q with ⟨_,rfl⟩ | ⟨_,a,ha,rfl⟩ <;> rcases q' with ⟨_,q'⟩ | ⟨_,b,hb,q'⟩
        · cases q'; rfl
        · cases q'
        · cases q'
        · cases q'; exact name_of_addr ok.apart (mem_of_look ha) (mem_of_look hb)
      subst hxy
      exact uniq1 ck.nd1 m m'
  · rcases new i L h with q | ⟨x,m,_⟩
    · exact .inl q
    · exact .inr (ck.ownc x i m).2.2.2
  · obtain ⟨⟨x,k⟩,hx,hk,h0⟩:=hl
    dsimp only at hk h0
    subst hk
    obtain ⟨i,m⟩:=ck.locs x hx h0
    have hlk:=look_of_mem ck.nd3 hx
    obtain ⟨L,e,⟨_,rfl⟩ | ⟨q,_⟩⟩:=hown x i m
    · exact ⟨i,x,e⟩
    · rw [hlk] at q; cases q
end
end Mine
end
section
open PySem PySem.W PyProof.Rows
set_option autoImplicit false
namespace Mine
theorem delT_ok {tg:Tg} {σ:St}:(delT tg σ).length=σ.length∧∀ i s,(delT tg σ).get i=some s→σ.get i=some s∧i ∉ tgOf tg:=by
  induction tg using Tg.casesOn with
  | v j=>
    refine ⟨St.len_del ..,fun i s h=>?_⟩
    simp only [dT_v,dT_t] at h
    rw [St.get_del] at h
    split at h
    · exact nos h
    · rename_i q; exact ⟨h,by simp [tgOf,q]⟩
  | t is=>
    simp only [dT_v,dT_t,tgOf]
    induction is generalizing σ with
    | nil=>exact ⟨rfl,fun i s h=>⟨h,by simp⟩⟩
    | cons j is ih=>
      obtain ⟨h1,h2⟩:=ih (σ:=σ.del j)
      refine ⟨h1.trans (St.len_del ..),fun i s h=>?_⟩
      obtain ⟨h3,h4⟩:=h2 i s h
      rw [St.get_del] at h3
      split at h3
      · exact nos h3
      · rename_i q; exact ⟨h3,by simp [q,h4]⟩
theorem delG_ok:∀ {gs:List (Tg × E × List E)} {σ:St},(delG gs σ).length=σ.length∧∀ i s,(delG gs σ).get i=some s→σ.get i=some s∧i ∉ tgIds gs
  | [],σ=>⟨rfl,fun i s h=>⟨h,by simp [tg_n]⟩⟩
  | (tg,it,cs) :: r,σ=>by
    obtain ⟨h1,h2⟩:=delG_ok (gs:=r) (σ:=delT tg σ)
    obtain ⟨h3,h4⟩:=delT_ok (tg:=tg) (σ:=σ)
    refine ⟨h1.trans h3,fun i s h=>?_⟩
    obtain ⟨h5,h6⟩:=h2 i s h
    obtain ⟨h7,h8⟩:=h4 i s h5
    refine ⟨h7,?_⟩
    cases tg <;> simp only [tg_v,tg_t,tgOf,List.mem_cons,List.mem_append,List.mem_singleton] at h8 ⊢ <;> exact fun q=>q.elim (fun q=>h8 (by simpa using q)) h6
theorem enOk_ok:∀ {gs:List (Tg × E × List E)},enOk gs=true→∀ g∈gs,isEnum g.2.1=true→∃ is,g.1=.t is
  | [],_,g,h,_=>by cases h
  | (.t is,it,cs) :: r,he,g,h,hi=>by
    rcases List.mem_cons.mp h with h | h
    · exact ⟨is,by rw [h]⟩
    · exact enOk_ok (gs:=r) he g h hi
  | (.v j,it,cs) :: r,he,g,h,hi=>by
    simp only [en_v,Bool.and_eq_true,Bool.not_eq_true'] at he
    rcases List.mem_cons.mp h with h | h
    · rw [h] at hi; rw [he.1] at hi; exact absurd hi Bool.false_ne_true
    · exact enOk_ok he.2 g h hi
theorem trG_async {lv:Nat} {S:Sx} {gs:List (Tg × E × List E)} {pgs:List Comprehension} (t:TrG (TrE lv) S gs pgs):∀ g∈pgs,g.is_async=0:=by
  induction gs generalizing pgs with
  | nil=>obtain rfl:=t.inv; exact fun g h=>absurd h List.not_mem_nil
  | cons g gs ih=>
    obtain ⟨_,_,_,_,rfl,_,_,_,_,t⟩:=t.inv
    intro g h
    rcases List.mem_cons.mp h with h | h
    · rw [h]
    · exact ih t g h
section
variable {lv:Nat} {F:Funs} {n:Nat} {φ:Fx} {loc:Locs} {σ σ':St} {c:Cf} {S S':Sx} {env:Env} {A:Around} {EE:Value→Shared→Prop} {d:D}
theorem trN_own {own:List (Str × Nat)} {del:List Nat} {scope:Scope} (ck:Ck S S' scope own del) {is:List Nat} {pes:List Expr} (t:TrN S' is pes):∀ i∈is,S.top≤i:=by
  induction t with
  | nil=>exact fun i h=>absurd h List.not_mem_nil
  | @cons i x _ _ _ h1 h2 ts ih=>
    intro i h
    rcases List.mem_cons.mp h with h | h
    · rw [h]
      rcases ck.vars x _ (mem_of_look h1) with m | ⟨q,_⟩
      · exact (ck.ownc x _ m).2.1
      · rw [ck.names,q] at h2; exact absurd h2 Bool.false_ne_true
    · exact ih i h
theorem trTg_own {own:List (Str × Nat)} {del:List Nat} {scope:Scope} (ck:Ck S S' scope own del) {tg:Tg} {ptg:Expr} (t:TrTg S' tg ptg):∀ i∈tgOf tg,S.top≤i:=by
  induction t using TrTg.casesOn with
  | @v i x p h1 h2 h3=>
    intro j hj
    have hj':j=i:=by simpa [tgOf] using hj
    subst hj'
    rcases ck.vars x _ (mem_of_look h1) with m | ⟨q,_⟩
    · exact (ck.ownc x _ m).2.1
    · rw [ck.names,q] at h2; exact absurd h2 Bool.false_ne_true
  | t h ts=>exact trN_own ck ts
theorem trG_own {own:List (Str × Nat)} {del:List Nat} {scope:Scope} (ck:Ck S S' scope own del) {gs:List (Tg × E × List E)} {pgs:List Comprehension} (t:TrG (TrE lv) S' gs pgs):∀ g∈gs,∀ i∈tgOf g.1,S.top≤i:=by
  induction gs generalizing pgs with
  | nil=>exact fun g h=>absurd h List.not_mem_nil
  | cons g gs ih=>
    obtain ⟨_,_,_,_,_,_,_,t,_,ts⟩:=t.inv
    intro g h
    rcases List.mem_cons.mp h with h | h
    · rw [h]; exact trTg_own ck t
    · exact ih ts g h
end
end Mine
end
section
open PySem PySem.W PyProof.Rows
set_option autoImplicit false
namespace Mine
section
variable {lv:Nat} {F:Funs} {n:Nat} {φ:Fx} {loc:Locs} {σ σ':St} {c:Cf} {S S':Sx} {env:Env} {A:Around} {EE:Value→Shared→Prop} {Q:Value→Shared→Prop}
theorem comp_close {loc':Locs} {del:List Nat} {σe σd:St} {c₅:Cf} {D₁ L₀:Addr} {scope:Scope} (R:Rep φ loc σ c) (old:∀ i L,loc i=some L→loc' i=some L) (new:∀ i L,loc' i=some L→loc i=some L∨i∈del) (g₅:Gy φ (fun b=>b=D₁) loc σ c loc' σe c₅) (hlen:σd.length=σe.length)
    (hdel:∀ i s,σd.get i=some s→σe.get i=some s∧i ∉ del) (hD0:c.s.heap.get? D₁=none) (nt₅:¬ Touch loc' σe c₅.vs D₁) (hv:∀ i L,loc i=some L→c₅.vs i=c.vs i) (nL0:c.s.heap.get? L₀=none) (hloc:someLocal scope→∃ i x,loc' i=some (.dct L₀ x)) :
    Ge φ loc σ c σd c₅∧¬ Touch loc σd c₅.vs D₁∧(someLocal scope→c₅.M L₀∧¬ Touch loc σd c₅.vs L₀∧∃ m,c₅.s.heap.Ns L₀ m):=by
  have hs:∀ i s,σd.get i=some s→σe.get i=some s∧∃ L,loc i=some L:=fun i s e=>by
    obtain ⟨e1,e2⟩:=hdel i s e
    obtain ⟨o,d⟩:=s
    obtain ⟨L,hL,_⟩:=g₅.rep.vals i o d e1
    exact ⟨e1,L,(new i L hL).resolve_right e2⟩
  have tn:∀ b,Touch loc σd c₅.vs b→Touch loc' σe c₅.vs b:=fun b t=>touch_narrow old hs t
  refine ⟨⟨⟨g₅.rep.narrow old hs hlen,⟨g₅.step.keep,fun b o m t e=>g₅.step.pend b o m (fun q=>q.elim t (fun q=>by rw [q,hD0] at e; exact nos e)) e,g₅.step.old,fun b t=>?_⟩,g₅.toks,g₅.gens,g₅.os,g₅.stay⟩,hv⟩,fun t=>nt₅ (tn _ t),fun hl=>?_⟩
  · rcases g₅.step.touch b (.inl (tn b t)) with (q | q) | q
    · exact .inl q
    · exact .inr (by rw [q]; exact hD0)
    · exact .inr q
  · obtain ⟨i,x,hLi⟩:=hloc hl
    obtain ⟨n',mL',_,_⟩:=g₅.rep.locs i _ hLi
    refine ⟨mL',fun t=>?_,n'⟩
    rcases t with ⟨j,L',hj,q⟩ | ⟨j,o,d,e,ho,va⟩
    · obtain ⟨o,e⟩:=R.stand _ (R.locs j L' hj).2.1
      rw [q,nL0] at e; exact nos e
    · exact g₅.rep.apart j o d _ (hs j _ e).1 ho va i _ hLi rfl
theorem comp_core (ev:EvOK F n) (evt:EvtOK F n) (Gx:Gl φ.hT) (r:Room n A) (V:EnvOK φ S loc env) (R:Rep φ loc σ c)
    {own:List (Str × Nat)} {elt:E} {tg:Tg} {it:E} {cs:List E} {gs:List (Tg × E × List E)} {pelt ptg pit:Expr} {pcs:List Expr} {pgs:List Comprehension} {scope:Scope} {p:Pos} {use:Option (Value→Sem Unit)}
    (hck:ckComp S S' scope own (tgIds ((tg,it,cs) :: gs))=true) (hen:enOk ((tg,it,cs) :: gs)=true) (hpl:plainIter pit) (tit:TrI (TrE lv) S it pit) (ttg:TrTg S' tg ptg) (tcs:TrTs (TrE lv) S' cs pcs) (tgs:TrG (TrE lv) S' gs pgs) (telt:TrE lv S' elt pelt)
    {ds:List D} {σe:St} (h:compG F elt ((tg,it,cs) :: gs) σ []=some (ds,σe))
    (hC:∀ v c' L,Ge φ loc σ c (delG ((tg,it,cs) :: gs) σe) c'→Pend c loc (delG ((tg,it,cs) :: gs) σe) c' .own (.list ds) v→c.s.heap.get? L=none→v≠.ref L→(someLocal scope→c'.M L∧¬ Touch loc (delG ((tg,it,cs) :: gs) σe) c'.vs L∧∃ m,c'.s.heap.Ns L m)→
      wpAny (model prog w) A (useAct use v) (fun _ s''=>(someLocal scope→∃ m,s''.heap.Ns L m)∧∀ h',Heap.SameBut L s''.heap h'→(¬ someLocal scope→h'=s''.heap)→Q (useVal use (v)) { s'' with heap:=h' }) EE c'.s) :
    wpAny (model prog w) A (comprehension (.ListComp pelt (⟨ptg,pit,pcs,0⟩ :: pgs) scope p) scope env pit.pos (newList []) false (eval pit env) use) Q EE c.s:=by
  have ck:=ck_of hck
  obtain ⟨⟨l,σ₁⟩,h1,h⟩:=bs h
  have hfree:∀ x,(x,NameKind.free)∈scope.names→∃ a,env.cells.lookup x=some a:=fun x hx=>by
    obtain ⟨h1,i,h2⟩:=ck.free x hx
    obtain ⟨L,_,pl⟩:=V.vars x i h2
    induction pl using Place.casesOn with
    | dct q=>rw [q] at h1; exact absurd h1 Bool.false_ne_true
    | @cel a _ q=>exact ⟨a,q⟩
  obtain ⟨cl,hcl,hcl1,hcl2⟩:=closure_ok hfree
  refine comp_node (use:=use) (g:=⟨ptg,pit,pcs,0⟩) (gs:=pgs) rfl (hpl env) hcl ck.kind (fun x hx hl=>by
    have:=look_of_mem ck.nd3 (show (x.1,x.2)∈scope.names from hx)
    rw [hl] at this; exact this) ?_
  refine items_ok ev Gx r V R tit h1 fun itv c₁ P g₁ x₁ hP=>?_
  refine wpAny_newList ?_ (by simp [sizeLine_eq])
  have gr:=Grow.push g₁.go.rep.stand { cls:=.type "list",data:=.seq ([]:List Value).toArray } rfl
  have hn:=fresh_none c₁.s.heap
  have g₂:=g₁.go.rep.grows gr
  have acc₂:Acc c₁.s.heap.objs.size ⟨{ c₁.s with heap:=c₁.s.heap.push { cls:=.type "list",data:=.seq ([]:List Value).toArray } },fun b=>c₁.M b∨b=c₁.s.heap.objs.size,c₁.vs⟩ []:=OwnR.list (n:=0) (vs:=[]) (.inr rfl) (Heap.get?_push_size _ rfl) .nil (Nat.zero_le _)
  have nt₂:¬ Touch loc σ₁ c₁.vs c₁.s.heap.objs.size:=Touch.ne (c:=c₁) g₁.go.rep hn
  refine newEnv_comp ?_
  obtain ⟨loc',M',V',g₃,keep,old,new,mL,nL,⟨m,ns⟩,mold,hloc⟩:=compEnv_ok (c:=⟨{ c₁.s with heap:=c₁.s.heap.push { cls:=.type "list",data:=.seq ([]:List Value).toArray } },fun b=>c₁.M b∨b=c₁.s.heap.objs.size,c₁.vs⟩) V ck g₂.rep hcl1 hcl2
  have acc₃:=OwnR.go g₃ acc₂ fun a q=>by obtain rfl:=Value.ref.inj q; exact nt₂
  have nt₃:=not_touch' g₃ (b:=c₁.s.heap.objs.size) (.inr rfl) g₂.rep nt₂
  have g₁₃:=g₁.go.trans (g₂.trans g₃)
  have x₃:=x₁.mono (g₂.trans g₃).step (g₂.trans g₃).toks fun b pb t=>(hP b pb).2 t
  have hPn:∀ b,P b→∃ o,c₁.s.heap.get? b=some o:=fun b pb=>g₁.go.rep.stand b (x₁.sub b pb)
  have hP₃:∀ b,P b→c.s.heap.get? b=none∧¬ Touch loc' σ₁ c₁.vs b∧b≠c₁.s.heap.objs.size:=fun b pb=>⟨(hP b pb).1,not_touch' (g₂.trans g₃) (x₁.sub b pb) g₁.go.rep (hP b pb).2,fun q=>by
    obtain ⟨o,e⟩:=hPn b pb
    rw [q,hn] at e; cases e⟩
  have hD0:c.s.heap.get? c₁.s.heap.objs.size=none:=g₁.go.stay _ hn
  have hD:φ.h₀.get? c₁.s.heap.objs.size=none:=R.fresh hD0
  have Fz:∀ i,(∃ L,loc i=some L)→∃ L,loc' i=some L:=fun i ⟨L,h⟩=>⟨L,old i L h⟩
  have fz:∀ i,S.top≤i→¬ ∃ L,loc i=some L:=fun i hi ⟨L,h⟩=>absurd (V.top i L h) (Nat.not_lt.mpr hi)
  have ha:∀ g∈(⟨ptg,pit,pcs,0⟩ :: pgs:List Comprehension),g.is_async=0:=fun g hg=>by
    rcases List.mem_cons.mp hg with q | q
    · rw [q]
    · exact trG_async tgs g q
  have run:codeAny (model prog w) A (.compLoop (.ListComp pelt (⟨ptg,pit,pcs,0⟩ :: pgs) scope p) 0 itv (.ref c₁.s.heap.objs.size) (compEnv env scope _ cl)) _ _:=
    loop_ok evt Gx r V' ha hD Fz (body_ok ev evt Gx r V' ha telt hD Fz gs (pgs:=pgs) (k:=0) rfl tgs (fun g hg=>enOk_ok hen g (List.mem_cons_of_mem _ hg)) fun g hg i hi=>fz i (trG_own ck tgs g hg i hi)) (k:=0) rfl ttg tcs (fun i hi=>fz i (trTg_own ck ttg i hi)) h R g₁₃.y x₃
      (fun e=>by
        obtain ⟨is,q⟩:=enOk_ok hen _ List.mem_cons_self e
        dsimp only at q; subst q; cases ttg; rfl) hP₃ acc₃ nt₃ (R:=fun r s'=>match r with
          | .error _=>False
          | .ok _=>wpAny (model prog w) A (useAct use (.ref c₁.s.heap.objs.size)) (fun _ s''=>(someLocal scope→∃ m,s''.heap.Ns (c₁.s.heap.push { cls:=.type "list",data:=.seq ([]:List Value).toArray }).objs.size m)∧∀ h',Heap.SameBut (c₁.s.heap.push { cls:=.type "list",data:=.seq ([]:List Value).toArray }).objs.size s''.heap h'→(¬ someLocal scope→h'=s''.heap)→Q (useVal use (.ref c₁.s.heap.objs.size)) { s'' with heap:=h' }) EE s')
      (fun c₅ g₅ ac₅ nt₅ hv₅=>by
        obtain ⟨hlen,hdel⟩:=delG_ok (gs:=(tg,it,cs) :: gs) (σ:=σe)
        have nL0:c.s.heap.get? _=none:=(g₁.go.trans g₂).stay _ nL
        obtain ⟨ge,nt₆,hl⟩:=comp_close R old new g₅ hlen hdel hD0 nt₅ (fun i L hL=>(hv₅ i ⟨L,hL⟩).trans (g₁.vs i L hL)) nL0 hloc
        refine hC (.ref c₁.s.heap.objs.size) c₅ _ ge ⟨ac₅,fun a q=>Value.ref.inj q ▸ ⟨hD0,nt₆⟩⟩ nL0 (fun q=>?_) hl
        have q':=(Value.ref.inj q).symm
        rw [q',Heap.get?_push_size _ rfl] at nL; exact nos nL.symm)
  exact codeAny_compStart_at (fun g q=>ha g (List.mem_of_getElem? q)) run fun E'=>itx_self x₃ run
end
end Mine
end
section
open PySem PySem.W PyProof.Rows
set_option autoImplicit false
namespace Mine
section
variable {lv:Nat} {F:Funs} {n:Nat} {φ:Fx} {loc loc':Locs} {σ σ':St} {c c':Cf} {S S':Sx} {env:Env} {A:Around} {EE:Value→Shared→Prop}
theorem Go.letGo (R:Rep φ loc σ c) (g:Go φ loc σ c loc' σ' c') {L:Addr} {lc:Prop} (nL:c.s.heap.get? L=none) (hl:lc→c'.M L∧¬ Touch loc' σ' c'.vs L) {h':Heap}
    (sb:Heap.SameBut L c'.s.heap h') (hn:¬ lc→h'=c'.s.heap) :
    ∃ M',Go φ loc σ c loc' σ' ⟨{ c'.s with heap:=h' },M',c'.vs⟩∧∀ {o:Own} {d:D} {v:Value},v≠.ref L→Pend c loc' σ' c' o d v→Pend c loc' σ' ⟨{ c'.s with heap:=h' },M',c'.vs⟩ o d v:=by
  by_cases h:lc
  · obtain ⟨mL,nt⟩:=hl h
    have x:AtP (fun b=>b=L) c'.s { c'.s with heap:=h' }:=⟨fun b o hb e=>(sb.2 b hb).trans e,rfl,rfl,Nat.le_refl _⟩
    have st:=x.step (M:=c'.M) (M':=fun b=>c'.M b∧b≠L) (fun b p=>p ▸ mL) (fun b m=>m.1) (fun b m n=>⟨m,n⟩)
    refine ⟨fun b=>c'.M b∧b≠L,(g.y (Y:=fun _=>False)).pend R (P:=fun b=>b=L) (fun b p=>p ▸ mL) (fun b p=>p ▸ nL) (fun b p=>p ▸ nt) x (fun b m=>m.1) (fun b m n=>⟨m,n⟩) (fun b m=>?_) |>.go fun _ f=>f,fun {o d v} hv p=>?_⟩
    · obtain ⟨o,e⟩:=g.rep.stand b m.1
      exact ⟨o,x.keep b o m.2 e⟩
    · induction o using Own.casesOn with
      | sh=>exact Real.mono st (Nat.le_refl _) p
      | bor=>exact p
      | own=>exact ⟨OwnR.mono' st (Nat.le_refl _) p.1 (fun a o q e=>x.keep a o (fun r=>hv (by rw [q,r])) e) (fun a q m=>⟨m,fun r=>hv (by rw [q,r])⟩),p.2⟩
  · have:=hn h
    subst this
    exact ⟨c'.M,g,fun _ p=>p⟩
variable (ev:EvOK F n) (evt:EvtOK F n) (Gx:Gl φ.hT) (r:Room n A) (V:EnvOK φ S loc env) (R:Rep φ loc σ c)
include ev evt Gx r V R
theorem evo_comp {own:List (Str × Nat)} {elt:E} {tg:Tg} {it:E} {cs:List E} {gs:List (Tg × E × List E)} {pelt ptg pit:Expr} {pcs:List Expr} {pgs:List Comprehension} {scope:Scope} {p:Pos} {o:Own} {d:D} {Q:Value→Shared→Prop}
    (hck:ckComp S S' scope own (tgIds ((tg,it,cs) :: gs))=true) (hen:enOk ((tg,it,cs) :: gs)=true) (hpl:plainIter pit) (tit:TrI (TrE lv) S it pit) (ttg:TrTg S' tg ptg) (tcs:TrTs (TrE lv) S' cs pcs) (tgs:TrG (TrE lv) S' gs pgs) (telt:TrE lv S' elt pelt)
    (e:stepO F (.comp elt ((tg,it,cs) :: gs)) σ=some (o,d,σ'))
    (hP:∀ v c',Ge φ loc σ c σ' c'→Pend c loc σ' c' o d v→Q v c'.s) :
    wpAny (model prog w) A (eval (.ListComp pelt (⟨ptg,pit,pcs,0⟩ :: pgs) scope p) env) Q EE c.s:=by
  obtain ⟨⟨ds,σe⟩,h1,e⟩:=ms e
  obtain ⟨rfl,rfl,rfl⟩:=pm3 e
  rw [eval_ListComp]
  refine comp_core (use:=none) ev evt Gx r V R hck hen hpl tit ttg tcs tgs telt h1 fun v c' L g p nL nv hl=>?_
  refine wpAny_pure ⟨fun h=>(hl h).2.2,fun h' sb hn=>?_⟩
  obtain ⟨M',g',hp⟩:=g.go.letGo R nL (fun h=>⟨(hl h).1,(hl h).2.1⟩) sb hn
  exact hP v ⟨{ c'.s with heap:=h' },M',c'.vs⟩ ⟨g',g.vs⟩ (hp nv p)
theorem ex_asgC {own:List (Str × Nat)} {elt:E} {tg:Tg} {it:E} {cs:List E} {gs:List (Tg × E × List E)} {pelt ptg pit:Expr} {pcs:List Expr} {pgs:List Comprehension} {scope:Scope} {p q p':Pos} {x:Str} {i:Nat} {Q:Flow→Shared→Prop}
    (hck:ckComp S S' scope own (tgIds ((tg,it,cs) :: gs))=true) (hen:enOk ((tg,it,cs) :: gs)=true) (hpl:plainIter pit) (tit:TrI (TrE lv) S it pit) (ttg:TrTg S' tg ptg) (tcs:TrTs (TrE lv) S' cs pcs) (tgs:TrG (TrE lv) S' gs pgs) (telt:TrE lv S' elt pelt)
    (hx:S.vars.lookup x=some i) (hlc:isLC (S.names.lookup x)=true) {ds:List D} {σe:St} (h1:compG F elt ((tg,it,cs) :: gs) σ []=some (ds,σe))
    (hQ:∀ c',Go φ loc σ c loc ((delG ((tg,it,cs) :: gs) σe).put i (.own,.list ds)) c'→Q .next c'.s) :
    wpAny (model prog w) A (exec (.Assign [.Name x q] (.ListComp pelt (⟨ptg,pit,pcs,0⟩ :: pgs) scope p) p') env) Q EE c.s:=by
  have sw:∃ b,swapsWith (.ListComp pelt (⟨ptg,pit,pcs,0⟩ :: pgs) scope p) (some (.Name x q)) p'.line env=pure b:=⟨_,rfl⟩
  obtain ⟨b,sw⟩:=sw
  induction b using Bool.casesOn with
  | false=>
    refine wpAny_Assign_Name ?_ sw
    rw [eval_ListComp]
    refine comp_core (use:=none) ev evt Gx r V R hck hen hpl tit ttg tcs tgs telt h1 fun v c' L g p nL nv hl=>?_
    refine wpAny_pure ⟨fun h=>(hl h).2.2,fun h' sb hn=>?_⟩
    obtain ⟨M',g',hp⟩:=g.go.letGo R nL (fun h=>⟨(hl h).1,(hl h).2.1⟩) sb hn
    exact store_ok (c:=⟨{ c'.s with heap:=h' },M',c'.vs⟩) V R g' hx (isLC_nf hlc) (hp nv p) fun c'' g'' _ _ _ _=>hQ c'' g''
  | true=>
    rw [exec_Assign_Name_used _ _ _ _ sw]
    refine wpAny_bind (wpAny_standAt (wpAny_bind ?_))
    unfold evalThenUse
    refine wpAny_bind ?_
    refine comp_core (use:=some (assign (.Name x q) env)) ev evt Gx r V R hck hen hpl tit ttg tcs tgs telt h1 fun v c' L g p nL nv hl=>?_
    refine wpAny_assign_Name (store_ok V R g.go hx (isLC_nf hlc) p fun c'' g'' hM hv hk tk=>?_)
    have ht:someLocal scope→c''.M L∧¬ Touch loc ((delG ((tg,it,cs) :: gs) σe).put i (.own,.list ds)) c''.vs L:=fun h=>by
      obtain ⟨mL,nt,_⟩:=hl h
      refine ⟨hM ▸ mL,fun t=>?_⟩
      rcases t with t | ⟨j,o',d',e',ho,va⟩
      · exact nt (.inl t)
      · rw [hv] at va
        dsimp only at va
        rcases St.get_put' e' with ⟨rfl,e2⟩ | ⟨hj,e2⟩
        · rw [if_pos rfl] at va; exact nv va
        · rw [if_neg hj] at va; exact nt (.inr ⟨j,o',d',e2,ho,va⟩)
    refine ⟨fun h=>?_,fun h' sb hn=>?_⟩
    · obtain ⟨mL,nt,m,ns⟩:=hl h
      exact ⟨m,ns.at' fun o e=>hk _ o nt e⟩
    · obtain ⟨M',g',hp⟩:=g''.letGo R nL ht sb hn
      exact wpAny_pure (wpAny_pure (hQ ⟨{ c''.s with heap:=h' },M',c''.vs⟩ g'))
end
end Mine
end
section
open PySem PySem.W PyProof.Rows
set_option maxRecDepth 100000
namespace Mine
theorem dz_zip_getattr_none:typeLookup (.type "zip") "__getattr__" = pure none:=by rw [typeLookup_type,builtinLookup_eq_fast]; kernel_rfl
theorem dz_zip_keys_none:typeLookup (.type "zip") "keys" = pure none:=by rw [typeLookup_type,builtinLookup_eq_fast]; kernel_rfl
theorem dz_entry_zip_getattribute:entryFor table "zip.__getattribute__" = some Builtin.«object.__getattribute__»:=
  entryFor_alias (id':= "object.__getattribute__") (by kernel_rfl) (by decide +kernel) (by decide +kernel) (by kernel_rfl)
theorem dz_raise {α:Type} {prog:Program} {w:World} {A:Around} {E:Value→Shared→Prop} {s:Shared} {o:Value} {name:Str} {msg:Str} {Q:α→Shared→Prop} (hh:A.handled=none)
    (h:∀ h' tk e,Heap.NewAttrErr s.heap h' e o name→s.toks≤tk→E (.ref e) { s with heap:=h',toks:=tk }) (hm:msg.length≤sizeLine:=by size_fits) :
    wpAny (model prog w) A (raiseAttrError o name msg:Sem α) Q E s:=by
  delta raiseAttrError
  refine wpAny_bind (wpAny_mkStr (wpAny_bind ?_) hm)
  delta newExc newTuple
  refine wpAny_bind (wpAny_newObj_type ?_ (by size_fits))
  refine wpAny_bind (m:=firstArgMember _ _) (wpAny_of_eq (a:=Value.none) (by simp only [firstArgMember,attrError_no_first]; rfl) ?_)
  rw [ownMembersOf_AttributeError]
  refine wpAny_newObj_type ?_ (by size_fits)
  obtain ⟨hp,g,d,tk,os⟩:=s
  have f1:=sub_AttributeError
  repeat (any_goals (first | assumption | wp_step))
  delta raiseNew
  refine wpAny_bind (wpAny_handled ?_)
  rw [hh]
  first
    | refine wpAny_throw ?_
    | refine wpAny_bind (wpAny_pure (wpAny_throw ?_))
  dsimp only
  refine h _ _ _ ⟨fun b ob hb=>?_,Heap.get?_none_of_le (by simp),?_⟩ (by dsimp only; lia)
  · have hlt:b < hp.objs.size:=Heap.lt_size hb
    refine (Heap.get?_update_other _ _ ?_).trans (Heap.get?_push_of_some _ (Heap.get?_push_of_some _ hb))
    simp only [Heap.size_push]
    exact Nat.ne_of_gt (Nat.lt_succ_of_lt hlt)
  · exact ⟨_,_,Heap.get?_update_self _ (Heap.get?_push_size _ rfl) rfl⟩
theorem dz_meets_zip (a:Addr) (vs:Array Value) (u:Tok):Meets (Builtin.«object.__getattribute__» ⟨[.ref a,.str "keys" u],[]⟩) (fun A R s=>s.heap.get? a=some { cls:=.type "zip",dict:=none,data:=.fields vs,slots:=#[] }∧A.handled=none∧
      ∀ h' tk e,Heap.NewAttrErr s.heap h' e (.ref a) "keys" → s.toks≤tk→R (.error (.ref e)) { s with heap:=h',toks:=tk }):=
  Meets.of_wp fun prog w A R s hs=>by
    obtain ⟨hp,g,d,tk,os⟩:=s
    obtain ⟨hz,hs⟩:=hs
    have hT:(⟨hp,g,d,tk,os⟩ : Shared).TypeIs (.ref a) "zip" := ⟨_,hz,rfl⟩
    have hm:=dz_zip_keys_none
    delta Builtin.«object.__getattribute__»
    repeat (any_goals (first | assumption | wp_step))
    exact dz_raise hs.1 hs.2 (attrMsg_fits (by decide +kernel) (by size_fits))
theorem dz_keys {prog:Program} {w:World} {A:Around} {E:Value→Shared→Prop} {s:Shared} {a:Addr} {vs:Array Value} {Q:Option Value→Shared→Prop} (hz:s.heap.get? a=some { cls:=.type "zip",dict:=none,data:=.fields vs,slots:=#[] }) (hA:A.handled=none)
    (h:∀ h' tk,(∀ b o,s.heap.get? b=some o→h'.get? b=some o)→s.toks≤tk→Q none { s with heap:=h',toks:=tk }) :
    wpAny (model prog w) A (getAttr? (.ref a) "keys") Q E s:=by
  obtain ⟨hp,g,d,tk,os⟩:=s
  have hT:∀ n,(⟨hp,g,d,n,os⟩ : Shared).TypeIs (.ref a) "zip" := fun _=>⟨_,hz,rfl⟩
  have hT0:=hT tk
  have hT1:=hT (tk+1)
  have f1:=sub_AttributeError
  have f3:=F.slot_zip_getattribute.lookup
  have f4:=F.slot_zip_getattribute.bind (.ref a)
  have f5:=dz_zip_getattr_none
  unfold getAttr? getAttrBy? getAttrBy
  repeat (any_goals (first | assumption | ((with_reducible show wpAny _ _ (call (Value.builtin "zip.__getattribute__") _ _) _ _ _); refine call_meets F.slot_zip_getattribute (hT _) dz_entry_zip_getattribute (F.args_zip_getattribute_2 _ _) (dz_meets_zip a vs _) ⟨hz,hA,fun h' tk' e hx htk=>?_⟩) | wp_step))
  obtain ⟨t',u',he⟩:=hx.there
  show wpAny _ _ (getattributeRaised _ _ _ _ _ _ _) _ _ _
  delta getattributeRaised
  repeat (any_goals (first | assumption | wp_step))
  exact h _ _ hx.keeps (by dsimp only at htk ⊢; exact Nat.le_of_succ_le htk)
end Mine
end
section
open PySem PySem.W PyProof.Rows
set_option maxRecDepth 100000
namespace Mine
abbrev ZZ (h:Heap) (z TI TO:Addr) (f0 f1:Value):Prop:=
  h.get? z=some { cls:=.type "zip",dict:=none,data:=.fields #[f0,f1,.bool false,.ref TI,.ref TO],slots:=#[] }
noncomputable def AIt (h:Heap) (i:Addr) (x:Str) (t:Tok) (k:Nat):Prop:=h.IsStrIter i "str_ascii_iterator" x t k∨h.IsStrIter i "str_iterator" x t k
theorem AIt.at {h h':Heap} {i:Addr} {x:Str} {t:Tok} {k:Nat} (a:AIt h i x t k) (hs:∀ o,h.get? i=some o→h'.get? i=some o):AIt h' i x t k:=by
  rcases a with ⟨o,ho,r⟩ | ⟨o,ho,r⟩
  · exact .inl ⟨o,hs o ho,r⟩
  · exact .inr ⟨o,hs o ho,r⟩
theorem AIt.lt {h:Heap} {i:Addr} {x:Str} {t:Tok} {k:Nat} (a:AIt h i x t k):∃ o,h.get? i=some o:=by
  rcases a with ⟨o,ho,r⟩ | ⟨o,ho,r⟩ <;> exact ⟨o,ho⟩
section
variable {prog:Program} {w:World} {A:Around} {E:Value→Shared→Prop} {s:Shared}
theorem dz_loadIfAlive {a:Addr} {Q:Option Obj→Shared→Prop} (h:Q (s.heap.get? a) s):wpAny (model prog w) A (loadIfAlive a) Q E s:=fun Γ p _=>by
  show Sem.wp _ _ (.loadIfAlive a .pure) _ _ _ _
  rw [Sem.wp_loadIfAlive,Sem.wp_pure]; exact h
theorem dz_nextOf_tuple {it t:Addr} {i:Nat} {items} {x:Value} {Q:Value→Shared→Prop} (hit:s.heap.IsTupleIter it t i)
    (ht:s.heap.IsTuple t items) (hx:items[i]? = some x)
    (hQ:∀ h',h'.IsTupleIter it t (i+1)→Heap.SameBut it s.heap h'→Q x { s with heap:=h' }) :
    wpAny (model prog w) A (Builtin.SmallTypes.nextOf (.ref it)) Q E s:=by
  obtain ⟨o,ho,hc,hd⟩:=id hit
  obtain ⟨ol,hol,_,nl,hdl⟩:=ht
  unfold Builtin.SmallTypes.nextOf
  refine wpAny_bind (wpAny_callSpecial?_slot (name:=Str.ofString "__next__") hit.typeIs F.slot_tuple_iterator_next
    (wpAny_call_entry F.slot_tuple_iterator_next hit.typeIs F.entry_tuple_iterator_next ?_ (F.args_tuple_iterator_next_1 _)))
  show wpAny _ _ (field (.ref it) 0 >>= _) _ _ s
  refine wpAny_bind (wpAny_field ho hd (x:=.ref t) rfl ?_)
  show wpAny _ _ (if (Value.ref t == Value.none)=true then _ else _) _ _ s
  rw [if_neg (show ¬ ((Value.ref t == Value.none)=true) from Bool.false_ne_true)]
  show wpAny _ _ (field (.ref it) 1 >>= _) _ _ s
  refine wpAny_bind (wpAny_field ho hd (x:=.int i 0) rfl ?_)
  show wpAny _ _ (seqItems? (.ref t) >>= _) _ _ s
  refine wpAny_bind (wpAny_seqItems hol hdl ?_)
  simp only [Int.toNat_natCast,hx]
  refine wpAny_bind (wpAny_setField ho hd (by simp) (wpAny_pure ⟨x,rfl,wpAny_pure (hQ _ ?_ (Heap.SameBut.update ..))⟩))
  exact ⟨_,Heap.get?_update_self _ ho (Obj.isFreed_of_fields (Obj.data_mapFields hd _)),(Obj.cls_mapFields ..).trans hc,by
    rw [Obj.data_mapFields hd]; simp [rawInt]⟩
theorem dz_iterBut {h h':Heap} {i b:Addr} {x:Str} {t:Tok} {k:Nat} (a:AIt h i x t k) (hs:Heap.ExtBut b h h') (hab:i≠b):AIt h' i x t k:=a.at fun o e=>hs i o hab e
theorem dz_nextOf_str {it:Addr} {x:Str} {t:Tok} {i c:Nat} {Q:Value→Shared→Prop} (hit:AIt s.heap it x t i) (hx:x.cps[i]? = some c)
    (hQ:∀ h',AIt h' it x t (i+1)→Heap.SameBut it s.heap h'→Q (.str ⟨#[c]⟩ s.toks) { s with heap:=h',toks:=s.toks+1 }) :
    wpAny (model prog w) A (Builtin.SmallTypes.nextOf (.ref it)) Q E s:=by
  rcases hit with h | h
  · exact wpAny_nextOf_ascii_item h hx fun h' a b=>hQ h' (.inl a) b
  · exact wpAny_nextOf_wide_item h hx fun h' a b=>hQ h' (.inr a) b
theorem dz_nextOf_strEnd {it:Addr} {x:Str} {t:Tok} {i:Nat} {Q:Value→Shared→Prop} (hh:A.handled=none) (hit:AIt s.heap it x t i) (hx:x.cps[i]? = none)
    (hE:∀ h' e,Heap.ExtBut it s.heap h'→(∃ o,h'.get? e=some o∧o.cls=.type "StopIteration")→E (.ref e) { s with heap:=h' }) :
    wpAny (model prog w) A (Builtin.SmallTypes.nextOf (.ref it)) Q E s:=by
  rcases hit with h | h
  · exact wpAny_nextOf_ascii_end hh h hx hE
  · exact wpAny_nextOf_wide_end hh h hx hE
theorem dz_next0 {z TI TO i1 i2 T:Addr} {x:Str} {t:Tok} {k c:Nat} {ys:Array Value} {y a b:Value} {Q:Value→Shared→Prop} (D:ZipApart z TI TO i1 i2 T T)
    (hz:ZZ s.heap z TI TO .none (.bool false)) (hTI:IsPair s.heap TI (.ref i1) (.ref i2)) (hTO:IsPair s.heap TO a b)
    (h1:AIt s.heap i1 x t k) (h2:s.heap.IsTupleIter i2 T k) (hT:s.heap.IsTuple T ys) (hx:x.cps[k]? = some c) (hy:ys[k]? = some y)
    (hQ:∀ h',ZZ h' z TI TO (rawInt s.heap.objs.size) (.bool false)→IsPair h' TO (.str ⟨#[c]⟩ s.toks) y→AIt h' i1 x t (k+1)→h'.IsTupleIter i2 T (k+1)→IsPair h' s.heap.objs.size (.str ⟨#[c]⟩ s.toks) y→h'.objs.size=s.heap.objs.size+1→
      (∀ c o,c≠z→c≠TO→c≠i1→c≠i2→s.heap.get? c=some o→h'.get? c=some o)→Q (.ref s.heap.objs.size) { s with heap:=h',toks:=s.toks+1 }) :
    wpAny (model prog w) A (Builtin.«zip.__next__» ⟨[.ref z],[]⟩) (fun fin s'=>∃ v,fin=.done (.ret v)∧Q v s') E s:=by
  show wpAny _ _ (field (.ref z) 2 >>= _) _ _ _
  refine wpAny_bind (wpAny_field hz rfl (x:=.bool false) rfl ?_)
  show wpAny _ _ (field (.ref z) 3 >>= _) _ _ _
  refine wpAny_bind (wpAny_field hz rfl (x:=.ref TI) rfl ?_)
  refine wpAny_bind (wpAny_seqItems hTI rfl ?_)
  show wpAny _ _ (Builtin.SmallTypes.ownedTupleIsFree (.ref z) >>= _) _ _ _
  refine wpAny_bind ?_
  unfold Builtin.SmallTypes.ownedTupleIsFree
  refine wpAny_bind (wpAny_field hz rfl (x:=.none) rfl (wpAny_pure ?_))
  simp only [if_true]
  refine wpAny_bind (wpAny_rule ?_)
  refine wpAny_bind (wpAny_field hz rfl (x:=.ref TO) rfl ?_)
  refine wpAny_bind (wpAny_setField_rec hz (by simp) fun h₁ hz₁ hs₁=>?_)
  replace hz₁:ZZ h₁ z TI TO .ellipsis (.bool false):=hz₁
  refine wpAny_bind ?_
  simp only [List.zipIdx_cons,List.zipIdx_nil,List.forIn_cons,List.forIn_nil]
  refine wpAny_bind (wpAny_bind (wpAny_onRaise ?_))
  show wpAny _ _ (Builtin.SmallTypes.nextOf (.ref i1) >>= _) _ _ _
  refine wpAny_bind (dz_nextOf_str (dz_iterBut h1 hs₁.extBut D.i1z) hx fun h₂ h1₂ hs₂=>wpAny_pure ?_)
  have hTO₂:IsPair h₂ TO a b:=hs₂.extBut _ _ D.TOi1 (hs₁.extBut _ _ D.TOz hTO)
  refine wpAny_bind (wpAny_seqItems hTO₂ rfl ?_)
  refine wpAny_bind (wpAny_updateSeq_pair hTO₂ fun h₃ hTO₃ hs₃=>?_)
  replace hTO₃:IsPair h₃ TO (.str ⟨#[c]⟩ s.toks) b:=hTO₃
  refine wpAny_bind (wpAny_letGo (wpAny_pure ?_))
  refine wpAny_bind (wpAny_bind (wpAny_onRaise ?_))
  show wpAny _ _ (Builtin.SmallTypes.nextOf (.ref i2) >>= _) _ _ _
  refine wpAny_bind (dz_nextOf_tuple (((h2.extBut hs₁.extBut D.i2z).extBut hs₂.extBut D.i12.symm).extBut hs₃.extBut D.TOi2.symm)
    (((hT.extBut hs₁.extBut D.l2z).extBut hs₂.extBut D.l2i1).extBut hs₃.extBut D.l2TO) hy fun h₄ h2₄ hs₄=>wpAny_pure ?_)
  have hTO₄:IsPair h₄ TO (.str ⟨#[c]⟩ s.toks) b:=hs₄.extBut _ _ D.TOi2 hTO₃
  refine wpAny_bind (wpAny_seqItems hTO₄ rfl ?_)
  refine wpAny_bind (wpAny_updateSeq_pair hTO₄ fun h₅ hTO₅ hs₅=>?_)
  replace hTO₅:IsPair h₅ TO (.str ⟨#[c]⟩ s.toks) y:=hTO₅
  refine wpAny_bind (wpAny_letGo (wpAny_pure (wpAny_pure ?_)))
  refine wpAny_bind (wpAny_seqItems hTO₅ rfl ?_)
  refine wpAny_bind (wpAny_newTuple ?_)
  have hsz:h₅.objs.size=s.heap.objs.size:=by rw [hs₅.1,hs₄.1,hs₃.1,hs₂.1,hs₁.1]
  have hz₅:ZZ h₅ z TI TO .ellipsis (.bool false):=hs₅.extBut _ _ D.TOz.symm (hs₄.extBut _ _ D.i2z.symm (hs₃.extBut _ _ D.TOz.symm (hs₂.extBut _ _ D.i1z.symm hz₁)))
  have hk₅:∀ c o,c≠z→c≠TO→c≠i1→c≠i2→s.heap.get? c=some o→h₅.get? c=some o:=fun c o c1 c2 c3 c4 e=>
    hs₅.extBut _ _ c2 (hs₄.extBut _ _ c4 (hs₃.extBut _ _ c2 (hs₂.extBut _ _ c3 (hs₁.extBut _ _ c1 e))))
  have h1₅:AIt h₅ i1 x t (k+1):=dz_iterBut (dz_iterBut (dz_iterBut h1₂ hs₃.extBut D.TOi1.symm) hs₄.extBut D.i12) hs₅.extBut D.TOi1.symm
  have h2₅:h₅.IsTupleIter i2 T (k+1):=h2₄.extBut hs₅.extBut D.TOi2.symm
  have hzlt:z < h₅.objs.size:=Heap.lt_size hz₅
  have hTOlt:TO < h₅.objs.size:=Heap.lt_size hTO₅
  have hi1lt:i1 < h₅.objs.size:=by obtain ⟨_,e⟩:=h1₅.lt; exact Heap.lt_size e
  have hi2lt:i2 < h₅.objs.size:=by obtain ⟨_,e,_⟩:=h2₅; exact Heap.lt_size e
  show wpAny _ _ (Builtin.SmallTypes.ownedTupleHandOut (.ref z) (.ref h₅.objs.size) >>= _) _ _ _
  refine wpAny_bind ?_
  unfold Builtin.SmallTypes.ownedTupleHandOut
  have hz₆:ZZ (h₅.push { cls:=.type "tuple",data:=.seq #[.str ⟨#[c]⟩ s.toks,y] }) z TI TO .ellipsis (.bool false):=Heap.get?_push_of_some _ hz₅
  refine wpAny_bind (wpAny_setField_rec hz₆ (by simp) fun h₇ hz₇ hs₇=>?_)
  replace hz₇:ZZ h₇ z TI TO (rawInt h₅.objs.size) (.bool false):=hz₇
  refine wpAny_setField_rec hz₇ (by simp) fun h₈ hz₈ hs₈=>?_
  replace hz₈:ZZ h₈ z TI TO (rawInt h₅.objs.size) (.bool false):=hz₈
  have up:∀ c o,c≠z→h₅.get? c=some o→h₈.get? c=some o:=fun c o c1 e=>hs₈.extBut _ _ c1 (hs₇.extBut _ _ c1 (Heap.get?_push_of_some _ e))
  have hT₈:IsPair h₈ h₅.objs.size (.str ⟨#[c]⟩ s.toks) y:=hs₈.extBut _ _ (Nat.ne_of_gt hzlt) (hs₇.extBut _ _ (Nat.ne_of_gt hzlt) (Heap.get?_push_size _ rfl))
  have hz8:h₈.objs.size=h₅.objs.size+1:=by rw [hs₈.1,hs₇.1,Heap.size_push]
  rw [hsz] at hz₈ hT₈ hz8
  refine wpAny_pure ⟨_,rfl,?_⟩
  show Q (.ref h₅.objs.size) _
  rw [hsz]
  have h1₈:AIt h₈ i1 x t (k+1):=h1₅.at fun o ho=>up _ o D.i1z ho
  have h2₈:h₈.IsTupleIter i2 T (k+1):=let ⟨o,ho,r⟩:=h2₅; ⟨o,up _ o D.i2z ho,r⟩
  exact hQ h₈ hz₈ (up _ _ D.TOz hTO₅) h1₈ h2₈ hT₈ hz8 fun c o c1 c2 c3 c4 e=>up c o c1 (hk₅ c o c1 c2 c3 c4 e)
theorem dz_next1 {z TI TO i1 i2 T T0:Addr} {o0:Obj} {x:Str} {t:Tok} {k c:Nat} {ys:Array Value} {y:Value} {f1:Bool} {Q:Value→Shared→Prop} (D:ZipApart z TI TO i1 i2 T T)
    (hz:ZZ s.heap z TI TO (rawInt T0) (.bool f1)) (hT0:s.heap.get? T0=some o0) (hTI:IsPair s.heap TI (.ref i1) (.ref i2))
    (h1:AIt s.heap i1 x t k) (h2:s.heap.IsTupleIter i2 T k) (hT:s.heap.IsTuple T ys) (hx:x.cps[k]? = some c) (hy:ys[k]? = some y)
    (hQ:∀ h',ZZ h' z TI TO (rawInt T0) (.bool true)→AIt h' i1 x t (k+1)→h'.IsTupleIter i2 T (k+1)→IsPair h' s.heap.objs.size (.str ⟨#[c]⟩ s.toks) y→h'.objs.size=s.heap.objs.size+1→
      (∀ c o,c≠z→c≠i1→c≠i2→s.heap.get? c=some o→h'.get? c=some o)→Q (.ref s.heap.objs.size) { s with heap:=h',toks:=s.toks+1 }) :
    wpAny (model prog w) A (Builtin.«zip.__next__» ⟨[.ref z],[]⟩) (fun fin s'=>∃ v,fin=.done (.ret v)∧Q v s') E s:=by
  have key:∀ R:Bool→Shared→Prop,(∀ h₀,ZZ h₀ z TI TO (rawInt T0) (.bool true)→Heap.SameBut z s.heap h₀→R false { s with heap:=h₀ })→
      wpAny (model prog w) A (if (Value.bool f1 != Value.bool true)=true then do setField (Value.ref z) 1 (Value.bool true); pure false else pure false) R E s:=by
    intro R hR
    induction f1 using Bool.casesOn with
    | true=>rw [if_neg (by decide)]; exact wpAny_pure (hR s.heap hz ⟨rfl,fun _ _=>rfl⟩)
    | false=>
      rw [if_pos (by decide)]
      exact wpAny_bind (wpAny_setField_rec hz (by simp) fun h₁ hz₁ hs₁=>wpAny_pure (hR h₁ hz₁ hs₁))
  show wpAny _ _ (field (.ref z) 2 >>= _) _ _ _
  refine wpAny_bind (wpAny_field hz rfl (x:=.bool false) rfl ?_)
  show wpAny _ _ (field (.ref z) 3 >>= _) _ _ _
  refine wpAny_bind (wpAny_field hz rfl (x:=.ref TI) rfl ?_)
  refine wpAny_bind (wpAny_seqItems hTI rfl ?_)
  show wpAny _ _ (Builtin.SmallTypes.ownedTupleIsFree (.ref z) >>= _) _ _ _
  refine wpAny_bind ?_
  unfold Builtin.SmallTypes.ownedTupleIsFree
  refine wpAny_bind (wpAny_field hz rfl (x:=rawInt T0) rfl ?_)
  show wpAny _ _ (loadIfAlive (Int.toNat (T0:Nat)) >>= _) _ _ _
  refine wpAny_bind (dz_loadIfAlive ?_)
  rw [Int.toNat_natCast,hT0]
  simp only [Option.isNone_some,Bool.false_eq_true,if_false]
  refine wpAny_bind (wpAny_field hz rfl (x:=.bool f1) rfl ?_)
  refine key _ fun h₀ hz₀ hs₀=>?_
  simp only [Bool.false_eq_true,if_false,List.forIn_toArray,List.forIn_cons,List.forIn_nil]
  refine wpAny_bind (wpAny_bind (wpAny_bind (wpAny_holding ?_)))
  show wpAny _ _ (Builtin.SmallTypes.nextOf (.ref i1) >>= _) _ _ _
  refine wpAny_bind (dz_nextOf_str (dz_iterBut h1 hs₀.extBut D.i1z) hx fun h₂ h1₂ hs₂=>wpAny_pure (wpAny_pure ?_))
  refine wpAny_bind (wpAny_bind (wpAny_holding ?_))
  show wpAny _ _ (Builtin.SmallTypes.nextOf (.ref i2) >>= _) _ _ _
  refine wpAny_bind (dz_nextOf_tuple ((h2.extBut hs₀.extBut D.i2z).extBut hs₂.extBut D.i12.symm) ((hT.extBut hs₀.extBut D.l2z).extBut hs₂.extBut D.l2i1) hy fun h₃ h2₃ hs₃=>wpAny_pure (wpAny_pure (wpAny_pure ?_)))
  refine wpAny_bind (wpAny_newTuple ?_ (by show 2≤sizeLine; rw [sizeLine_eq]; decide))
  have hsz:h₃.objs.size=s.heap.objs.size:=by rw [hs₃.1,hs₂.1,hs₀.1]
  refine wpAny_pure ⟨_,rfl,?_⟩
  show Q (.ref h₃.objs.size) _
  have up:∀ b ob,h₃.get? b=some ob→(h₃.push { cls:=.type "tuple",data:=.seq #[.str ⟨#[c]⟩ s.toks,y] }).get? b=some ob:=fun b ob e=>Heap.get?_push_of_some _ e
  have hz₃:ZZ h₃ z TI TO (rawInt T0) (.bool true):=hs₃.extBut _ _ D.i2z.symm (hs₂.extBut _ _ D.i1z.symm hz₀)
  have h1₃:AIt h₃ i1 x t (k+1):=dz_iterBut h1₂ hs₃.extBut D.i12
  have q:=hQ (h₃.push { cls:=.type "tuple",data:=.seq #[.str ⟨#[c]⟩ s.toks,y] }) (up _ _ hz₃) (h1₃.at fun o ho=>up _ o ho) (let ⟨o,ho,r⟩:=h2₃; ⟨o,up _ o ho,r⟩) (by
    rw [← hsz]; exact Heap.get?_push_size _ rfl) (by rw [Heap.size_push,hsz]) fun c o c1 c2 c3 e=>up _ _ (hs₃.extBut _ _ c3 (hs₂.extBut _ _ c2 (hs₀.extBut _ _ c1 e)))
  rw [hsz]
  exact q
theorem dz_end0 {z TI TO i1 i2 T:Addr} {x:Str} {t:Tok} {k:Nat} {a b:Value} {Q:Fin→Shared→Prop} (hh:A.handled=none) (D:ZipApart z TI TO i1 i2 T T)
    (hz:ZZ s.heap z TI TO .none (.bool false)) (hTI:IsPair s.heap TI (.ref i1) (.ref i2)) (hTO:IsPair s.heap TO a b)
    (h1:AIt s.heap i1 x t k) (hx:x.cps[k]? = none)
    (hE:∀ h' e,(∀ c o,c≠z→c≠TO→c≠i1→c≠i2→s.heap.get? c=some o→h'.get? c=some o)→(∃ o,h'.get? e=some o∧o.cls=.type "StopIteration")→E (.ref e) { s with heap:=h' }) :
    wpAny (model prog w) A (Builtin.«zip.__next__» ⟨[.ref z],[]⟩) Q E s:=by
  show wpAny _ _ (field (.ref z) 2 >>= _) _ _ _
  refine wpAny_bind (wpAny_field hz rfl (x:=.bool false) rfl ?_)
  show wpAny _ _ (field (.ref z) 3 >>= _) _ _ _
  refine wpAny_bind (wpAny_field hz rfl (x:=.ref TI) rfl ?_)
  refine wpAny_bind (wpAny_seqItems hTI rfl ?_)
  show wpAny _ _ (Builtin.SmallTypes.ownedTupleIsFree (.ref z) >>= _) _ _ _
  refine wpAny_bind ?_
  unfold Builtin.SmallTypes.ownedTupleIsFree
  refine wpAny_bind (wpAny_field hz rfl (x:=.none) rfl (wpAny_pure ?_))
  simp only [if_true]
  refine wpAny_bind (wpAny_rule ?_)
  refine wpAny_bind (wpAny_field hz rfl (x:=.ref TO) rfl ?_)
  refine wpAny_bind (wpAny_setField_rec hz (by simp) fun h₁ hz₁ hs₁=>?_)
  replace hz₁:ZZ h₁ z TI TO .ellipsis (.bool false):=hz₁
  refine wpAny_bind ?_
  simp only [List.zipIdx_cons,List.zipIdx_nil,List.forIn_cons,List.forIn_nil]
  refine wpAny_bind (wpAny_bind (wpAny_onRaise ?_))
  show wpAny _ _ (Builtin.SmallTypes.nextOf (.ref i1) >>= _) _ _ _
  refine wpAny_bind (dz_nextOf_strEnd hh (dz_iterBut h1 hs₁.extBut D.i1z) hx fun h₂ e hs₂ he=>?_)
  obtain ⟨oe,hoe,hce⟩:=he
  have hz₂:ZZ h₂ z TI TO .ellipsis (.bool false):=hs₂ _ _ D.i1z.symm hz₁
  have hez:e≠z:=fun x=>by subst x; rw [hz₂] at hoe; cases hoe; simp at hce
  refine wpAny_setField_rec hz₂ (by simp) fun h₃ _ hs₃=>hE h₃ e (fun c o c1 _ c3 _ x=>hs₃.extBut _ _ c1 (hs₂ _ _ c3 (hs₁.extBut _ _ c1 x))) ⟨oe,hs₃.extBut _ _ hez hoe,hce⟩
theorem dz_end1 {z TI TO i1 i2 T T0:Addr} {o0:Obj} {x:Str} {t:Tok} {k:Nat} {f1:Bool} {Q:Fin→Shared→Prop} (hh:A.handled=none) (D:ZipApart z TI TO i1 i2 T T)
    (hz:ZZ s.heap z TI TO (rawInt T0) (.bool f1)) (hT0:s.heap.get? T0=some o0) (hTI:IsPair s.heap TI (.ref i1) (.ref i2))
    (h1:AIt s.heap i1 x t k) (hx:x.cps[k]? = none)
    (hE:∀ h' e,(∀ c o,c≠z→c≠TO→c≠i1→c≠i2→s.heap.get? c=some o→h'.get? c=some o)→(∃ o,h'.get? e=some o∧o.cls=.type "StopIteration")→E (.ref e) { s with heap:=h' }) :
    wpAny (model prog w) A (Builtin.«zip.__next__» ⟨[.ref z],[]⟩) Q E s:=by
  have key:∀ R:Bool→Shared→Prop,(∀ h₀,ZZ h₀ z TI TO (rawInt T0) (.bool true)→Heap.SameBut z s.heap h₀→R false { s with heap:=h₀ })→
      wpAny (model prog w) A (if (Value.bool f1 != Value.bool true)=true then do setField (Value.ref z) 1 (Value.bool true); pure false else pure false) R E s:=by
    intro R hR
    induction f1 using Bool.casesOn with
    | true=>rw [if_neg (by decide)]; exact wpAny_pure (hR s.heap hz ⟨rfl,fun _ _=>rfl⟩)
    | false=>
      rw [if_pos (by decide)]
      exact wpAny_bind (wpAny_setField_rec hz (by simp) fun h₁ hz₁ hs₁=>wpAny_pure (hR h₁ hz₁ hs₁))
  show wpAny _ _ (field (.ref z) 2 >>= _) _ _ _
  refine wpAny_bind (wpAny_field hz rfl (x:=.bool false) rfl ?_)
  show wpAny _ _ (field (.ref z) 3 >>= _) _ _ _
  refine wpAny_bind (wpAny_field hz rfl (x:=.ref TI) rfl ?_)
  refine wpAny_bind (wpAny_seqItems hTI rfl ?_)
  show wpAny _ _ (Builtin.SmallTypes.ownedTupleIsFree (.ref z) >>= _) _ _ _
  refine wpAny_bind ?_
  unfold Builtin.SmallTypes.ownedTupleIsFree
  refine wpAny_bind (wpAny_field hz rfl (x:=rawInt T0) rfl ?_)
  show wpAny _ _ (loadIfAlive (Int.toNat (T0:Nat)) >>= _) _ _ _
  refine wpAny_bind (dz_loadIfAlive ?_)
  rw [Int.toNat_natCast,hT0]
  simp only [Option.isNone_some,Bool.false_eq_true,if_false]
  refine wpAny_bind (wpAny_field hz rfl (x:=.bool f1) rfl ?_)
  refine key _ fun h₀ hz₀ hs₀=>?_
  simp only [Bool.false_eq_true,if_false,List.forIn_toArray,List.forIn_cons,List.forIn_nil]
  refine wpAny_bind (wpAny_bind (wpAny_bind (wpAny_holding ?_)))
  show wpAny _ _ (Builtin.SmallTypes.nextOf (.ref i1) >>= _) _ _ _
  exact wpAny_bind (dz_nextOf_strEnd hh (dz_iterBut h1 hs₀.extBut D.i1z) hx fun h₂ e hs₂ he=>hE h₂ e (fun c o c1 _ c3 _ x=>hs₂ _ _ c3 (hs₀.extBut _ _ c1 x)) he)
end
end Mine
end
section
open PySem PySem.W PyProof.Rows
set_option maxRecDepth 100000
namespace Mine
theorem dz_entry_loop:entryFor table "dict.update.loop" = some Builtin.«dict.update.loop»:=entryFor_of_fast (by kernel_rfl)
theorem dz_plain_loop:plainId "dict.update.loop" = true:=by decide +kernel
section
variable {prog:Program} {w:World} {A:Around} {E:Value→Shared→Prop} {s:Shared}
inductive ZAt (h:Heap) (z TI TO i1 i2 d:Addr):Prop
  | free (a b:Value):ZZ h z TI TO .none (.bool false)→IsPair h TO a b→ZAt h z TI TO i1 i2 d
  | held {T0:Addr} {o0:Obj} {f1:Bool}:ZZ h z TI TO (rawInt T0) (.bool f1)→h.get? T0=some o0→T0≠z→T0≠i1→T0≠i2→T0≠d→ZAt h z TI TO i1 i2 d
structure ZSt (h:Heap) (z TI TO i1 i2 T d:Addr) (x:Str) (t:Tok) (ys:Array Value) (k:Nat):Prop where
  at_:ZAt h z TI TO i1 i2 d
  pair:IsPair h TI (.ref i1) (.ref i2)
  it1:AIt h i1 x t k
  it2:h.IsTupleIter i2 T k
  tup:h.IsTuple T ys
theorem ZSt.keep {h h':Heap} {z TI TO i1 i2 T d:Addr} {x:Str} {t:Tok} {ys:Array Value} {k:Nat} (Z:ZSt h z TI TO i1 i2 T d x t ys k) (hd:d≠z∧d≠TI∧d≠TO∧d≠i1∧d≠i2∧d≠T) (hs:Heap.SameBut d h h'):ZSt h' z TI TO i1 i2 T d x t ys k:=by
  obtain ⟨a1,a2,a3,a4,a5,a6⟩:=hd
  have up:∀ b o,b≠d→h.get? b=some o→h'.get? b=some o:=hs.extBut
  refine ⟨?_,up _ _ (Ne.symm a2) Z.pair,Z.it1.at fun o e=>up _ o (Ne.symm a4) e,Z.it2.extBut hs.extBut (Ne.symm a5),Z.tup.extBut hs.extBut (Ne.symm a6)⟩
  cases Z.at_ with
  | free a b h1 h2=>exact .free a b (up _ _ (Ne.symm a1) h1) (up _ _ (Ne.symm a3) h2)
  | held h1 h2 n1 n2 n3 n4=>exact .held (up _ _ (Ne.symm a1) h1) (up _ _ n4 h2) n1 n2 n3 n4
theorem dz_pyNext {z TI TO i1 i2 T d:Addr} {x:Str} {t:Tok} {k c:Nat} {ys:Array Value} {y:Value} {Q:Option Value→Shared→Prop} (D:ZipApart z TI TO i1 i2 T T) (hdf:∃ od,s.heap.get? d=some od) (hd:d≠z∧d≠TI∧d≠TO∧d≠i1∧d≠i2∧d≠T)
    (Z:ZSt s.heap z TI TO i1 i2 T d x t ys k) (hx:x.cps[k]? = some c) (hy:ys[k]? = some y)
    (hQ:∀ h',ZSt h' z TI TO i1 i2 T d x t ys (k+1)→IsPair h' s.heap.objs.size (.str ⟨#[c]⟩ s.toks) y→(∀ c o,c≠z→c≠TO→c≠i1→c≠i2→s.heap.get? c=some o→h'.get? c=some o)→Q (some (.ref s.heap.objs.size)) { s with heap:=h',toks:=s.toks+1 }) :
    wpAny (model prog w) A (pyNext (.ref z)) Q E s:=by
  have lt:∀ {c o},s.heap.get? c=some o→s.heap.objs.size≠c:=fun e=>Nat.ne_of_gt (Heap.lt_size e)
  have hi1:s.heap.objs.size≠i1:=by obtain ⟨_,e⟩:=Z.it1.lt; exact lt e
  have hi2:s.heap.objs.size≠i2:=by obtain ⟨_,e,_⟩:=Z.it2; exact lt e
  have hdn:s.heap.objs.size≠d:=by obtain ⟨_,e⟩:=hdf; exact lt e
  unfold pyNext
  cases Z.at_ with
  | free a b hz hTO=>
    have hT:s.TypeIs (.ref z) "zip" := ⟨_,hz,rfl⟩
    exact wpAny_bind (wpAny_attempt (wpAny_callSpecial?_slot (name:=Str.ofString "__next__") hT F.slot_zip_next
      (wpAny_call_entry F.slot_zip_next hT F.entry_zip_next
        (dz_next0 D hz Z.pair hTO Z.it1 Z.it2 Z.tup hx hy fun h' a1 a2 a3 a4 a5 a6 a7=>wpAny_pure (hQ h'
          ⟨.held (f1:=false) a1 a5 (lt hz) hi1 hi2 hdn,a7 _ _ D.TIz D.TITO D.TIi1 D.TIi2 Z.pair,a3,a4,let ⟨o,ho,r⟩:=Z.tup; ⟨o,a7 _ o D.l1z D.l1TO D.l1i1 D.l1i2 ho,r⟩⟩ a5 a7)) (F.args_zip_next_1 _))))
  | held hz h0 n1 n2 n3 n4=>
    have hT:s.TypeIs (.ref z) "zip" := ⟨_,hz,rfl⟩
    exact wpAny_bind (wpAny_attempt (wpAny_callSpecial?_slot (name:=Str.ofString "__next__") hT F.slot_zip_next
      (wpAny_call_entry F.slot_zip_next hT F.entry_zip_next
        (dz_next1 D hz h0 Z.pair Z.it1 Z.it2 Z.tup hx hy fun h' a1 a3 a4 a5 a6 a7=>wpAny_pure (hQ h'
          ⟨.held (f1:=true) a1 (a7 _ _ n1 n2 n3 h0) n1 n2 n3 n4,a7 _ _ D.TIz D.TIi1 D.TIi2 Z.pair,a3,a4,let ⟨o,ho,r⟩:=Z.tup; ⟨o,a7 _ o D.l1z D.l1i1 D.l1i2 ho,r⟩⟩ a5 fun c o c1 _ c3 c4 e=>a7 c o c1 c3 c4 e)) (F.args_zip_next_1 _))))
theorem dz_pyEnd {z TI TO i1 i2 T d:Addr} {x:Str} {t:Tok} {k:Nat} {ys:Array Value} {Q:Option Value→Shared→Prop} (hh:A.handled=none) (D:ZipApart z TI TO i1 i2 T T)
    (Z:ZSt s.heap z TI TO i1 i2 T d x t ys k) (hx:x.cps[k]? = none)
    (hQ:∀ h',(∀ c o,c≠z→c≠TO→c≠i1→c≠i2→s.heap.get? c=some o→h'.get? c=some o)→Q none { s with heap:=h' }) :
    wpAny (model prog w) A (pyNext (.ref z)) Q E s:=by
  unfold pyNext
  cases Z.at_ with
  | free a b hz hTO=>
    have hT:s.TypeIs (.ref z) "zip" := ⟨_,hz,rfl⟩
    refine wpAny_bind (wpAny_attempt (wpAny_callSpecial?_slot (name:=Str.ofString "__next__") hT F.slot_zip_next
      (wpAny_call_entry F.slot_zip_next hT F.entry_zip_next (dz_end0 hh D hz Z.pair hTO Z.it1 hx fun h' e hk he=>?_) (F.args_zip_next_1 _))))
    obtain ⟨o,ho,hc⟩:=he
    exact wpAny_bind (wpAny_isInstance (T:= "StopIteration") (b:=true) ⟨o,ho,hc⟩ isSubtype_stop (wpAny_pure (hQ _ hk)))
  | held hz h0 n1 n2 n3 n4=>
    have hT:s.TypeIs (.ref z) "zip" := ⟨_,hz,rfl⟩
    refine wpAny_bind (wpAny_attempt (wpAny_callSpecial?_slot (name:=Str.ofString "__next__") hT F.slot_zip_next
      (wpAny_call_entry F.slot_zip_next hT F.entry_zip_next (dz_end1 hh D hz h0 Z.pair Z.it1 hx fun h' e hk he=>?_) (F.args_zip_next_1 _))))
    obtain ⟨o,ho,hc⟩:=he
    exact wpAny_bind (wpAny_isInstance (T:= "StopIteration") (b:=true) ⟨o,ho,hc⟩ isSubtype_stop (wpAny_pure (hQ _ hk)))
end
end Mine
end
section
open PySem PySem.W PyProof.Rows
set_option maxRecDepth 100000
namespace Mine
section
variable {prog:Program} {w:World} {A:Around} {E:Value→Shared→Prop} {s:Shared}
structure ZMv (z TO i1 i2 d:Addr) (s s':Shared):Prop where
  keep:∀ c o,c≠z→c≠TO→c≠i1→c≠i2→c≠d→s.heap.get? c=some o→s'.heap.get? c=some o
  gens:s'.gens=s.gens
  os:s'.os=s.os
  toks:s.toks≤s'.toks
theorem ZMv.trans {z TO i1 i2 d:Addr} {s s' s'':Shared} (a:ZMv z TO i1 i2 d s s') (b:ZMv z TO i1 i2 d s' s''):ZMv z TO i1 i2 d s s'':=
  ⟨fun c o c1 c2 c3 c4 c5 e=>b.keep c o c1 c2 c3 c4 c5 (a.keep c o c1 c2 c3 c4 c5 e),b.gens.trans a.gens,b.os.trans a.os,Nat.le_trans a.toks b.toks⟩
theorem dz_stored {L:List (Str × Value)} {k:Nat} {p:Str × Value} (hn:(L.map (·.1)).Nodup) (hk:L[k]? = some p):stored (L.take k) p.1 p.2=L.take (k+1):=by
  have hl:k < L.length:=(List.getElem?_eq_some_iff.mp hk).1
  have e:L.take (k+1)=L.take k++[p]:=by rw [List.take_add_one,hk]; rfl
  unfold stored
  rw [if_neg,e]
  simp only [List.any_eq_true,decide_eq_true_eq,not_exists,not_and]
  intro q hq hqp
  obtain ⟨j,hj⟩:=List.mem_iff_getElem?.mp hq
  have hjl:j < (L.take k).length:=(List.getElem?_eq_some_iff.mp hj).1
  rw [List.length_take] at hjl
  have hjk:j < k:=by lia
  rw [List.getElem?_take_of_lt hjk] at hj
  have h1:(L.map (·.1))[j]? = some q.1:=by rw [List.getElem?_map,hj]; rfl
  have h2:(L.map (·.1))[k]? = some p.1:=by rw [List.getElem?_map,hk]; rfl
  have hjl':j < (L.map (·.1)).length:=by rw [List.length_map]; exact place_lt hj
  have hjk2:j=k:=(List.getElem?_inj hjl' hn).mp (h1.trans ((congrArg some hqp).trans h2.symm))
  lia
theorem dz_loop {z TI TO i1 i2 T d:Addr} {x:Str} {t:Tok} {ys:Array Value} {L:List (Str × Value)} {R:Result→Shared→Prop} (hh:A.handled=none) (D:ZipApart z TI TO i1 i2 T T) (hd:d≠z∧d≠TI∧d≠TO∧d≠i1∧d≠i2∧d≠T)
    (hL:∀ (k:Nat) (p:Str × Value),L[k]? = some p→∃ c,p.1=⟨#[c]⟩∧x.cps[k]? = some c∧ys[k]? = some p.2) (hend:x.cps[L.length]? = none) (hn:(L.map (·.1)).Nodup) (hsz:L.length≤16) :
    ∀ (m k:Nat) (i:Int) (s:Shared),k+m=L.length→ZSt s.heap z TI TO i1 i2 T d x t ys k→s.heap.DictOf (strKind prog w) d (L.take k)→
      (∀ s',ZMv z TO i1 i2 d s s'→s'.heap.DictOf (strKind prog w) d L→R (.ok (.ret .none)) s')→
      codeAny (model prog w) A (.builtin "dict.update.loop" ⟨[.ref d,.ref z,rawInt i,.none],[]⟩) R s
  | 0,k,i,s,hk,Z,hm,hR=>by
    have hk':k=L.length:=by assumption
    subst hk'
    refine codeAny_builtin dz_entry_loop ?_
    rw [Around.under_plainId dz_plain_loop _]
    show wpAny _ A.in1 (pyNext (.ref z) >>= _) _ _ s
    refine wpAny_bind (dz_pyEnd (show A.in1.handled=none from hh) D Z hend fun h' hk'=>?_)
    show wpAny _ A.in1 (Builtin.Dict.addKeywords d [] >>= _) _ _ _
    refine wpAny_bind (wpAny_pure (wpAny_pure ?_))
    rw [List.take_length] at hm
    obtain ⟨o,es,ep,ho,r⟩:=hm
    obtain ⟨a1,a2,a3,a4,a5,a6⟩:=hd
    exact hR { s with heap:=h' } ⟨fun c o c1 c2 c3 c4 _ e=>hk' c o c1 c2 c3 c4 e,rfl,rfl,Nat.le_refl _⟩ ⟨o,es,ep,hk' _ _ a1 a3 a4 a5 ho,r⟩
  | m+1,k,i,s,hk,Z,hm,hR=>by
    have hlt:k < L.length:=by lia
    obtain ⟨c,hc1,hc2,hc3⟩:=hL k L[k] (List.getElem?_eq_getElem hlt)
    have hd':=hd
    obtain ⟨a1,a2,a3,a4,a5,a6⟩:=hd
    have hdf:∃ od,s.heap.get? d=some od:=let ⟨o,es,ep,ho,r⟩:=hm; ⟨o,ho⟩
    refine codeAny_builtin dz_entry_loop ?_
    rw [Around.under_plainId dz_plain_loop _]
    show wpAny _ A.in1 (pyNext (.ref z) >>= _) _ _ s
    refine wpAny_bind (dz_pyNext D hdf hd' Z hc2 hc3 fun h' Z' pr kp=>?_)
    refine wpAny_bind (wpAny_holding ?_)
    refine wpAny_bind (wpAny_tryCatch ?_)
    unfold Builtin.Dict.pairItems
    refine wpAny_bind (wpAny_typeOf (T:= "tuple") ⟨_,pr,rfl⟩ ?_)
    rw [if_pos (by decide)]
    refine wpAny_bind (wpAny_seqItems pr rfl (wpAny_pure ?_))
    have hm':h'.DictOf (strKind prog w) d (L.take k):=let ⟨o,es,ep,ho,r⟩:=hm; ⟨o,es,ep,kp _ _ a1 a3 a4 a5 ho,r⟩
    show wpAny _ _ (holding [.str ⟨#[c]⟩ s.toks,L[k].2] (dictSet d (.str ⟨#[c]⟩ s.toks) L[k].2)) _ _ _
    refine wpAny_holding (wpAny_dictSet_pairs (knd:=strKind prog w) (k:=⟨#[c]⟩) (strKind_is prog w _ _) hm' (fun h'' hm'' hs''=>?_) (by
      rw [List.length_take,sizeLine_eq]; lia))
    rw [← hc1,dz_stored hn (List.getElem?_eq_getElem hlt)] at hm''
    refine wpAny_pure ⟨plainId_quiet dz_plain_loop _,?_⟩
    have mv0:ZMv z TO i1 i2 d s { s with heap:=h'',toks:=s.toks+1+1 }:=⟨fun b o b1 b2 b3 b4 b5 e=>hs''.extBut _ _ b5 (kp _ _ b1 b2 b3 b4 e),rfl,rfl,by show s.toks≤s.toks+1+1; lia⟩
    exact dz_loop hh D hd' hL hend hn hsz m (k+1) (i+1) _ (by lia) (Z'.keep hd' hs'') hm'' fun s' mv hf=>hR s' (mv0.trans mv) hf
end
end Mine
end
section
open PySem PySem.W PyProof.Rows
set_option maxRecDepth 100000
namespace Mine
abbrev zq1 (h:Heap) (x:Str) (t:Tok):Heap:=h.push { cls:=.type (strIterType x),data:=.fields #[.str x t,.int 0 0] }
abbrev zq2 (h:Heap) (x:Str) (t:Tok) (T:Addr):Heap:=(zq1 h x t).push { cls:=.type "tuple_iterator",data:=.fields #[.ref T,.int 0 0] }
abbrev zq3 (h:Heap) (x:Str) (t:Tok) (T:Addr):Heap:=(zq2 h x t T).push { cls:=.type "tuple",data:=.seq #[.ref h.objs.size,.ref (zq1 h x t).objs.size] }
abbrev zq4 (h:Heap) (x:Str) (t:Tok) (T:Addr):Heap:=(zq3 h x t T).push { cls:=.type "tuple",data:=.seq #[.none,.none] }
abbrev zq5 (h:Heap) (x:Str) (t:Tok) (T:Addr):Heap:=(zq4 h x t T).push { cls:=.type "zip",data:=.fields #[.none,.bool false,.bool false,.ref (zq2 h x t T).objs.size,.ref (zq3 h x t T).objs.size] }
theorem dz_zip_new0 (v:Value) (o1:Obj) (T:Addr) (ys:Array Value) (hpy:∀ (prog:Program) (w:World) (A:Around) (E:Value→Shared→Prop) (s:Shared) (Q:Value→Shared→Prop),Q (.ref s.heap.objs.size) { s with heap:=s.heap.push o1 }→wpAny (model prog w) A (pyIter v) Q E s) :
    Meets (Builtin.«zip.__new__» ⟨[.type "zip",v,.ref T],[]⟩) (fun _ R s=>s.heap.IsTuple T ys∧
      R (.ok (.ret (.ref ((((s.heap.push o1).push { cls:=.type "tuple_iterator",data:=.fields #[.ref T,.int 0 0] }).push { cls:=.type "tuple",data:=.seq #[.ref s.heap.objs.size,.ref (s.heap.push o1).objs.size] }).push { cls:=.type "tuple",data:=.seq #[.none,.none] }).objs.size)))
        { s with heap:=((((s.heap.push o1).push { cls:=.type "tuple_iterator",data:=.fields #[.ref T,.int 0 0] }).push { cls:=.type "tuple",data:=.seq #[.ref s.heap.objs.size,.ref (s.heap.push o1).objs.size] }).push { cls:=.type "tuple",data:=.seq #[.none,.none] }).push { cls:=.type "zip",data:=.fields #[.none,.bool false,.bool false,.ref ((s.heap.push o1).push { cls:=.type "tuple_iterator",data:=.fields #[.ref T,.int 0 0] }).objs.size,.ref (((s.heap.push o1).push { cls:=.type "tuple_iterator",data:=.fields #[.ref T,.int 0 0] }).push { cls:=.type "tuple",data:=.seq #[.ref s.heap.objs.size,.ref (s.heap.push o1).objs.size] }).objs.size] } }):=
  .of_wp fun prog w A R s h=>by
    obtain ⟨hp,g,d,tk,os⟩:=s; obtain ⟨hT,h⟩:=h
    have hsub:=sub_zip
    have hL2:Heap.IsTuple (Shared.heap ⟨hp.push o1,g,d,tk,os⟩) T ys:=Heap.IsTuple.push hT _
    wp_walk using hpy,wpAny_pyIter_tuple hL2
    exact ⟨_,rfl,h⟩
theorem dz_zip_new (x:Str) (t:Tok) (T:Addr) (ys:Array Value) :
    Meets (Builtin.«zip.__new__» ⟨[.type "zip",.str x t,.ref T],[]⟩) (fun _ R s=>s.heap.IsTuple T ys∧
      R (.ok (.ret (.ref (zq4 s.heap x t T).objs.size))) { s with heap:=zq5 s.heap x t T }):=
  dz_zip_new0 (.str x t) { cls:=.type (strIterType x),data:=.fields #[.str x t,.int 0 0] } T ys fun _ _ _ _ _ _ h=>wpAny_pyIter_strU h
end Mine
end
section
open PySem PySem.W PyProof.Rows
set_option maxRecDepth 100000
namespace Mine
section
variable {prog:Program} {w:World} {A:Around} {E:Value→Shared→Prop} {s:Shared}
theorem dz_call_zip {x:Str} {t:Tok} {T:Addr} {ys:Array Value} {Q:Value→Shared→Prop} (hT:s.heap.IsTuple T ys)
    (h:∀ h',ZZ h' (s.heap.objs.size+4) (s.heap.objs.size+2) (s.heap.objs.size+3) .none (.bool false)→IsPair h' (s.heap.objs.size+2) (.ref s.heap.objs.size) (.ref (s.heap.objs.size+1))→
      IsPair h' (s.heap.objs.size+3) .none .none→AIt h' s.heap.objs.size x t 0→h'.IsTupleIter (s.heap.objs.size+1) T 0→h'.objs.size=s.heap.objs.size+5→
      (∀ c o,s.heap.get? c=some o→h'.get? c=some o)→Q (.ref (s.heap.objs.size+4)) { s with heap:=h' }) :
    wpAny (model prog w) A (call (.type "zip") [.str x t,.ref T]) Q E s:=by
  refine callType_new F.called_zip (by decide) (F.typeCall_zip_2 _ _) (F.newCall_zip_2 _ _) (fun obj=>F.args_object_init_3 obj _ _) F.entry_zip_new
    (dz_zip_new x t T ys) ⟨hT,?_⟩
  have z1:(zq1 s.heap x t).objs.size=s.heap.objs.size+1:=Heap.size_push ..
  have z2:(zq2 s.heap x t T).objs.size=s.heap.objs.size+2:=by rw [Heap.size_push,z1]
  have z3:(zq3 s.heap x t T).objs.size=s.heap.objs.size+3:=by rw [Heap.size_push,z2]
  have z4:(zq4 s.heap x t T).objs.size=s.heap.objs.size+4:=by rw [Heap.size_push,z3]
  have z5:(zq5 s.heap x t T).objs.size=s.heap.objs.size+5:=by rw [Heap.size_push,z4]
  have g5:(zq5 s.heap x t T).get? (zq4 s.heap x t T).objs.size=some _:=Heap.get?_push_size _ rfl
  have g4:(zq5 s.heap x t T).get? (zq3 s.heap x t T).objs.size=some _:=Heap.get?_push_of_some _ (Heap.get?_push_size _ rfl)
  have g3:(zq5 s.heap x t T).get? (zq2 s.heap x t T).objs.size=some _:=Heap.get?_push_of_some _ (Heap.get?_push_of_some _ (Heap.get?_push_size _ rfl))
  have g2:(zq5 s.heap x t T).get? (zq1 s.heap x t).objs.size=some _:=Heap.get?_push_of_some _ (Heap.get?_push_of_some _ (Heap.get?_push_of_some _ (Heap.get?_push_size _ rfl)))
  have g1:(zq5 s.heap x t T).get? s.heap.objs.size=some _:=Heap.get?_push_of_some _ (Heap.get?_push_of_some _ (Heap.get?_push_of_some _ (Heap.get?_push_of_some _ (Heap.get?_push_size _ rfl))))
  have hAt:AIt (zq5 s.heap x t T) s.heap.objs.size x t 0:=by
    by_cases q:strIterType x = "str_iterator"
    · exact .inr ⟨_,g1,by rw [q],rfl⟩
    · refine .inl ⟨_,g1,?_,rfl⟩
      have:strIterType x = "str_ascii_iterator" := by
        revert q; unfold strIterType; split <;> simp
      rw [this]
  show _∧_
  rw [z2,z3,z4] at g5
  rw [z1,z2] at g3
  rw [z3] at g4
  rw [z1] at g2
  rw [z4]
  exact ⟨⟨_,g5,rfl⟩,h _ g5 g3 g4 hAt ⟨_,g2,rfl,rfl⟩ z5 fun c o x=>
    Heap.get?_push_of_some _ (Heap.get?_push_of_some _ (Heap.get?_push_of_some _ (Heap.get?_push_of_some _ (Heap.get?_push_of_some _ x))))⟩
theorem dz_call_dict {z TI TO i1 i2 T:Addr} {x:Str} {t:Tok} {ys:Array Value} {L:List (Str × Value)} {Q:Value→Shared→Prop} (hh:A.handled=none) (D:ZipApart z TI TO i1 i2 T T)
    (hz:ZZ s.heap z TI TO .none (.bool false)) (hTI:IsPair s.heap TI (.ref i1) (.ref i2)) (hTO:IsPair s.heap TO .none .none) (h1:AIt s.heap i1 x t 0) (h2:s.heap.IsTupleIter i2 T 0) (hT:s.heap.IsTuple T ys)
    (hL:∀ (k:Nat) (p:Str × Value),L[k]? = some p→∃ c,p.1=⟨#[c]⟩∧x.cps[k]? = some c∧ys[k]? = some p.2) (hend:x.cps[L.length]? = none) (hn:(L.map (·.1)).Nodup) (hsz:L.length≤16)
    (hQ:∀ s',(∀ c o,c≠z→c≠TO→c≠i1→c≠i2→s.heap.get? c=some o→s'.heap.get? c=some o)→s'.gens=s.gens→s'.os=s.os→s.toks≤s'.toks→s'.heap.DictOf (strKind prog w) s.heap.objs.size L→Q (.ref s.heap.objs.size) s') :
    wpAny (model prog w) A (call (.type "dict") [.ref z]) Q E s:=by
  refine callType_codes (Q₁:=fun obj s₁=>obj=.ref s.heap.objs.size∧s₁={ s with heap:=s.heap.push { cls:=.type "dict",data:=.dict #[] } }) F.kt_called_dict (F.kt_typeCall_dict_1 _) F.entry_dict_init (kt_code_dict_new _ ⟨rfl,rfl⟩) ?_
  rintro obj s₁ ⟨rfl,rfl⟩
  have hnew:(s.heap.push { cls:=.type "dict",data:=.dict #[] }).DictOf (strKind prog w) s.heap.objs.size []:=Heap.DictOf.new s.heap
  have up:∀ c o,s.heap.get? c=some o→(s.heap.push { cls:=.type "dict",data:=.dict #[] }).get? c=some o:=fun c o e=>Heap.get?_push_of_some _ e
  have lt:∀ {c o},s.heap.get? c=some o→s.heap.objs.size≠c:=fun e=>Nat.ne_of_gt (Heap.lt_size e)
  have hd:s.heap.objs.size≠z∧s.heap.objs.size≠TI∧s.heap.objs.size≠TO∧s.heap.objs.size≠i1∧s.heap.objs.size≠i2∧s.heap.objs.size≠T:=
    ⟨lt hz,lt hTI,lt hTO,(by obtain ⟨_,e⟩:=h1.lt; exact lt e),(by obtain ⟨_,e,_⟩:=h2; exact lt e),(by obtain ⟨_,e,_⟩:=hT; exact lt e)⟩
  refine ⟨hnew.typeIs,F.args_dict_init_2 _ _,?_⟩
  unfold Builtin.«dict.__init__»
  refine wpAny_bind ?_
  unfold Builtin.Dict.selfAndRest
  refine wpAny_bind (wpAny_notOrdered_dict hnew.typeIs ?_)
  show wpAny _ _ (pure (s.heap.objs.size,[Value.ref z])) _ _ _
  refine wpAny_pure ?_
  show wpAny _ _ (Builtin.Dict.updateFrom "dict.__init__" s.heap.objs.size (.ref z) [] .none) _ _ _
  unfold Builtin.Dict.updateFrom
  refine wpAny_bind (wpAny_typeOf (T:= "zip") ⟨_,up _ _ hz,rfl⟩ ?_)
  rw [if_pos (by decide)]
  refine wpAny_bind (dz_keys (up _ _ hz) (show A.in1.in1.handled=none from hh) fun h' tk hk htk=>?_)
  rw [if_pos (show (none:Option Value).isNone=true from rfl)]
  refine wpAny_bind (wpAny_rule ?_)
  refine wpAny_bind (wpAny_pyIter_zip (TI:=TI) (TO:=TO) (f0:=.none) (hk _ _ (up _ _ hz)) ?_)
  have Z:ZSt h' z TI TO i1 i2 T s.heap.objs.size x t ys 0:=⟨.free _ _ (hk _ _ (up _ _ hz)) (hk _ _ (up _ _ hTO)),hk _ _ (up _ _ hTI),h1.at fun o e=>hk _ _ (up _ _ e),let ⟨o,ho,r⟩:=h2; ⟨o,hk _ _ (up _ _ ho),r⟩,let ⟨o,ho,r⟩:=hT; ⟨o,hk _ _ (up _ _ ho),r⟩⟩
  have hm:h'.DictOf (strKind prog w) s.heap.objs.size (L.take 0):=let ⟨o,es,ep,ho,r⟩:=hnew; ⟨o,es,ep,hk _ _ ho,r⟩
  refine wpAny_pure ⟨plainId_quiet dz_plain_loop _,?_⟩
  refine dz_loop (A:=A.in1) (show A.in1.handled=none from hh) D hd hL hend hn hsz L.length 0 0 _ (Nat.zero_add _) Z hm fun s' mv hf=>⟨rfl,?_⟩
  exact hQ s' (fun c o c1 c2 c3 c4 e=>mv.keep c o c1 c2 c3 c4 (Ne.symm (lt e)) (hk _ _ (up _ _ e))) mv.gens mv.os (Nat.le_trans htk mv.toks) hf
end
end Mine
end
section
open PySem PySem.W PyProof.Rows
set_option autoImplicit false
set_option maxRecDepth 100000
namespace Mine
theorem eraseDups_le {α:Type} [BEq α]:∀ (n:Nat) (l:List α),l.length≤n→l.eraseDups.length≤l.length
  | _,[],_=>by simp
  | 0,a :: l,h=>by simp at h
  | n+1,a :: l,h=>by
    rw [List.eraseDups_cons,List.length_cons,List.length_cons]
    have h1:=List.length_filter_le (fun b=>!b == a) l
    rw [List.length_cons] at h
    have:=eraseDups_le n (l.filter fun b=>!b == a) (by lia)
    lia
theorem nodup_of_erase {α:Type} [BEq α] [LawfulBEq α]:∀ (l:List α),l.eraseDups.length=l.length→l.Nodup
  | [],_=>List.nodup_nil
  | a :: l,h=>by
    rw [List.eraseDups_cons,List.length_cons,List.length_cons] at h
    have h1:=List.length_filter_le (fun b=>!b == a) l
    have h2:=eraseDups_le _ (l.filter fun b=>!b == a) (Nat.le_refl _)
    have h3:(l.filter fun b=>!b == a).length=l.length:=by lia
    have h4:l.filter (fun b=>!b == a)=l:=List.filter_eq_self.mpr (fun b hb=>(List.length_filter_eq_length_iff.mp h3) b hb)
    rw [h4] at h
    refine List.nodup_cons.mpr ⟨fun m=>?_,nodup_of_erase l (by exact Nat.add_right_cancel h)⟩
    have:=(List.length_filter_eq_length_iff.mp h3) a m
    simp at this
section
variable {h:Heap} {k:Tok} {M:Addr→Prop}
theorem realS_zip {vs:List Value} {ds:List D} (s:List Nat) (r:RealL h k M vs ds):RealS h k M ((s.map fun c=>mkS [c]).zip vs) ((s.map fun c=>[c]).zip ds):=by
  induction s generalizing vs ds with
  | nil=>exact .nil
  | cons c s ih=>induction r using RealL.casesOn with
    | nil=>exact .nil
    | cons a r=>exact .cons a (ih r)
end
section
variable {lv:Nat} {F:Funs} {n:Nat} {φ:Fx} {loc:Locs} {σ σ':St} {c:Cf} {S:Sx} {env:Env} {A:Around} {EE:Value→Shared→Prop} {Q:Value→Shared→Prop} {d:D}
theorem Gl.pos3 (Gx:Gl φ.hT) (R:Rep φ loc σ c) : @LT.lt Nat _ 3 c.s.heap.objs.size:=by
  obtain ⟨mg,mb,⟨o,_,_,e,_⟩,_⟩:=Gx.glob
  have e':=R.fx.top _ _ e
  have nx:¬ φ.X mainGlobals:=fun x=>by rw [R.fx.out _ (R.fx.sub _ x)] at e; exact nos e
  exact Heap.lt_size (R.top _ _ e' nx)
variable (ev:EvOK F n) (Gx:Gl φ.hT) (r:Room n A) (V:EnvOK φ S loc env) (R:Rep φ loc σ c)
variable (hQ:∀ v c',Ge φ loc σ c σ' c'→Real c'.s.heap c'.s.toks c'.M v d→Q v c'.s)
include ev Gx r V R hQ
theorem ev_dictzip {a b:E} {x y:Str} {q rp p p':Pos} {pa pb:Expr} (hb1:bnOk S "dict" = true) (hb2:bnOk S "zip" = true) (hx:x=("dict" : Str)) (hy:y=("zip" : Str)) (ta:TrE lv S a pa) (tb:TrE lv S b pb)
    (e:stepEv F (.bi .dictzip [a,b]) σ=some (d,σ')) :
    wpAny (model prog w) A (eval (.Call (.Name x q) [.Call (.Name y rp) [pa,pb] [] p'] [] p) env) Q EE c.s:=by
  subst hx hy
  obtain ⟨⟨ds,σ'⟩,h1,e⟩:=bs e
  obtain ⟨d,h2,e⟩:=ms e
  obtain ⟨rfl,rfl⟩:=Prod.mk.inj e
  have tl:TrL (TrE lv) S [a,b] [pa,pb]:=.cons ta (.cons tb .nil)
  have bt:=backTo_tr (env:=env) tl p'
  have hp:=congrArg (fun l=>List.any l (·.1)) (backTo_tr (env:=env) (.cons tb .nil) p')
  rw [show List.any (List.map (fun pe=>(false,eval pe env)) _) (fun x:Bool × Sem Value=>x.1)=false by simp] at hp
  refine Call_ ?_
  refine bname_ok Gx V R hb1 bi_dict ?_
  show wpAny _ _ (callWith p (.type "dict") [] [(false,eval (.Call (.Name "zip" rp) [pa,pb] [] p') env)] []) _ _ _
  refine PySem.callWith_type1 ?_
  refine Call_ ?_
  refine bname_ok Gx V R hb2 bi_zip (Pv.callWith_type1 (hplain:=hp) ?_ (starEach_cons ta _))
  rw [bt]
  refine evs_ok ev Gx r V R tl h1 fun vs c₁ g₁ r₁=>?_
  obtain ⟨o1,o2,rfl,h2⟩:=two_inv h2
  obtain ⟨_,_,rfl,ra,rb⟩:=r₁.two
  induction o1 using D.casesOn with
  | none | bool | int | tstr | fn | list | wlist | tup | rng | idict | sdict=>exact nos h2
  | str xs=>
  induction o2 using D.casesOn with
  | none | bool | int | str | tstr | fn | list | wlist | rng | idict | sdict=>exact nos h2
  | tup ys=>
  obtain ⟨hc,rfl⟩:=iteS h2
  obtain ⟨t,rfl,hlx⟩:=ra.inv
  obtain ⟨T,vs',nT,rfl,mT,lT,rT⟩:=rb.inv
  obtain ⟨hc1,hc2,hc3⟩:=hc
  have hnd:=nodup_of_erase xs hc3
  have hT:c₁.s.heap.IsTuple T vs'.toArray:=IsT.isTuple' lT
  refine dz_call_zip hT fun h' hz hTI hTO h1 h2 hsz hkeep=>?_
  have ltT : @LT.lt Nat _ T c₁.s.heap.objs.size:=Heap.lt_size lT
  have hvl:vs'.length=xs.length:=rT.len.trans hc1.symm
  have hll:((xs.map fun c=>mkS [c]).zip vs').length=xs.length:=by rw [List.length_zip,List.length_map,hvl,Nat.min_self]
  have D:ZipApart (c₁.s.heap.objs.size+4) (c₁.s.heap.objs.size+2) (c₁.s.heap.objs.size+3) c₁.s.heap.objs.size (c₁.s.heap.objs.size+1) T T:=
    ⟨Nat.ne_of_lt (by lia),Nat.ne_of_lt (by exact Nat.lt_add_one (c₁.s.heap.objs.size+3)),Nat.ne_of_lt (by lia),Nat.ne_of_lt (by lia),Nat.ne_of_lt (by lia),Nat.ne_of_gt (by lia),Nat.ne_of_gt (by lia),Nat.ne_of_gt (by lia),Nat.ne_of_gt (by lia),Nat.ne_of_lt (by lia),
      Nat.ne_of_lt (by lia),Nat.ne_of_lt (by lia),Nat.ne_of_lt (by lia),Nat.ne_of_lt (by lia),Nat.ne_of_lt (by lia),Nat.ne_of_lt (by lia),Nat.ne_of_lt (by lia),Nat.ne_of_lt (by lia)⟩
  obtain ⟨s₂,hs₂⟩ : ∃ s₂:Shared,s₂={ c₁.s with heap:=h' }:=⟨_,rfl⟩
  have e1:s₂.heap=h':=by rw [hs₂]
  have e2:s₂.gens=c₁.s.gens:=by rw [hs₂]
  have e3:s₂.os=c₁.s.os:=by rw [hs₂]
  have e4:s₂.toks=c₁.s.toks:=by rw [hs₂]
  rw [show ({ c₁.s with heap:=h' }:Shared)=s₂ from hs₂.symm]
  clear hs₂
  subst e1
  refine dz_call_dict (s:=s₂) (L:=(xs.map fun c=>mkS [c]).zip vs') r.1 D hz hTI hTO h1 h2 (let ⟨o,ho,r⟩:=hT; ⟨o,hkeep _ _ ho,r⟩) (fun k p hk=>?_) ?_ ?_ (by lia) fun s' hk hg ho ht hd=>?_
  · obtain ⟨hk1,hk2⟩:=List.getElem?_zip_eq_some.mp hk
    rw [List.getElem?_map] at hk1
    cases hx:xs[k]? with
    | none=>rw [hx] at hk1; exact nos hk1
    | some c=>
      rw [hx] at hk1
      exact ⟨c,(Option.some.inj hk1).symm,by simpa [mkS] using hx,by simpa using hk2⟩
  · rw [hll]; simp [mkS]
  · rw [List.map_fst_zip (by rw [List.length_map]; lia)]
    exact List.pairwise_map.mpr (hnd.imp fun h e=>h (by have:=mkS_inj.mp e; injection this))
  · have kp:∀ b o,b < c₁.s.heap.objs.size→c₁.s.heap.get? b=some o→s'.heap.get? b=some o:=fun b o lt e=>
      hk b o (Nat.ne_of_lt (Nat.lt_add_right _ lt)) (Nat.ne_of_lt (Nat.lt_add_right _ lt)) (Nat.ne_of_lt lt) (Nat.ne_of_lt (Nat.lt_add_right _ lt)) (hkeep b o e)
    have x1:Ext c₁.s s':=⟨fun b o e=>kp b o (Heap.lt_size e) e,hg.trans e2,ho.trans e3,e4 ▸ ht⟩
    have g:=g₁.ext x1
    have sz:s₂.heap.objs.size=c₁.s.heap.objs.size+5:=hsz
    have R₁:=g₁.go.rep
    have big:∀ b,c₁.M b→@LT.lt Nat _ b c₁.s.heap.objs.size:=fun b m=>by
      obtain ⟨o,e⟩:=R₁.stand b m; exact Heap.lt_size e
    refine hQ _ ⟨s',c₁.M,c₁.vs⟩ g (.sdict (fun m=>?_) (beq_false_of_ne fun q=>?_) hd (realS_zip xs (rT.ext x1)))
    · have m':=big _ m; rw [sz] at m'; lia
    · have h5:=Gl.pos3 (c:=c₁) Gx R₁
      have q' : @Eq Nat s₂.heap.objs.size 1:=q
      rw [sz] at q'; lia
end
end Mine
end
section
open PySem PySem.W PyProof.Rows
set_option autoImplicit false
set_option maxRecDepth 100000
namespace Mine
section
theorem realS_any {h:Heap} {k:Tok} {M:Addr→Prop} {j:List Nat} {kvs:List (Str × Value)} {es:List (List Nat × D)} (r:RealS h k M kvs es):kvs.any (fun e=>e.1=mkS j)=es.any (fun e=>e.1=j):=by
  induction r using RealS.ind with | nil=>rfl | cons _ _ _ _ _ _ _ ih=>rw [List.any_cons,List.any_cons,ih]; simp only [mkS_inj]
theorem realS_map {h:Heap} {k:Tok} {M:Addr→Prop} {j:List Nat} {v:Value} {d:D} (rv:Real h k M v d) {kvs:List (Str × Value)} {es:List (List Nat × D)} (r:RealS h k M kvs es) :
    RealS h k M (kvs.map fun e=>if e.1=mkS j then (e.1,v) else e) (es.map fun e=>if e.1=j then (e.1,d) else e):=by
  induction r using RealS.ind with
  | nil=>exact .nil
  | cons i _ _ _ _ a r ih=>
    rw [List.map_cons,List.map_cons]
    by_cases q:i=j
    · rw [if_pos q,if_pos (mkS_inj.mpr q)]; exact .cons rv ih
    · rw [if_neg q,if_neg (fun e=>q (mkS_inj.mp e))]; exact .cons a ih
theorem realS_snoc {h:Heap} {k:Tok} {M:Addr→Prop} {j:List Nat} {v:Value} {d:D} (rv:Real h k M v d) {kvs:List (Str × Value)} {es:List (List Nat × D)} (r:RealS h k M kvs es) :
    RealS h k M (kvs++[(mkS j,v)]) (es++[(j,d)]):=by
  induction r using RealS.ind with | nil=>exact .cons rv .nil | cons _ _ _ _ _ a r ih=>exact .cons a ih
theorem realS_set {h:Heap} {k:Tok} {M:Addr→Prop} {j:List Nat} {v:Value} {d:D} (rv:Real h k M v d) {kvs:List (Str × Value)} {es:List (List Nat × D)} (r:RealS h k M kvs es) :
    RealS h k M (stored kvs (mkS j) v) (setKey es j d):=by
  delta stored setKey
  rw [realS_any r]
  split
  · exact realS_map rv r
  · exact realS_snoc rv r
theorem realS_len {h:Heap} {k:Tok} {M:Addr→Prop} {kvs:List (Str × Value)} {es:List (List Nat × D)} (r:RealS h k M kvs es):kvs.length=es.length:=by
  induction r using RealS.ind with | nil=>rfl | cons _ _ _ _ _ _ _ ih=>exact congrArg Nat.succ ih
end
section
variable {lv:Nat} {F:Funs} {n:Nat} {φ:Fx} {loc loc₁:Locs} {σ σ' σ₁:St} {c c₁ c':Cf} {S S':Sx} {env:Env} {A:Around} {EE:Value→Shared→Prop} {d:D}
theorem compTurnD_ok {pk pv:Expr} {scope:Scope} {pos:Pos} {target iter:Expr} {it:Value} {D₁:Addr} {s:Shared} {Q:Fin→Shared→Prop}
    (h:wpAny (model prog w) A (pyNext it) (fun r s₁=>match r with
      | none=>Q (.done .next) s₁
      | some v=>wpAny (model prog w) A (letOwnedTupleGo target it v) (fun _ s₂=>wpAny (model prog w) A (assign target env v) (fun _ s₃=>
          wpAny (model prog w) A (eval pk env) (fun kv s₄=>wpAny (model prog w) A (eval pv env) (fun vv s₅=>wpAny (model prog w) A (dictSet D₁ kv vv) (fun _ s₆=>
            Q (.again (.compLoop (.DictComp pk pv [⟨target,iter,[],0⟩] scope pos) 0 it (.ref D₁) env)) s₆) EE s₅) EE s₄) EE s₃) EE s₂) EE s₁) EE s) :
    wpAny (model prog w) A (compTurn (.DictComp pk pv [⟨target,iter,[],0⟩] scope pos) 0 it (.ref D₁) env) Q EE s:=by
  delta compTurn
  refine wpAny_bind (wpAny_standAt (wpAny_bind (wpAny_mono h (fun r s₁ h₁=>?_) fun _ _ e=>e)))
  induction r using Option.casesOn with
  | none=>exact wpAny_pure h₁
  | some v=>
    refine wpAny_bind (wpAny_mono h₁ (fun _ s₂ h₂=>wpAny_bind (wpAny_mono h₂ (fun _ s₃ h₃=>?_) fun _ _ e=>e)) fun _ _ e=>e)
    dsimp only
    rw [List.forIn_nil]
    refine wpAny_bind (wpAny_pure ?_)
    simp only [if_true]
    refine wpAny_bind (wpAny_bind (wpAny_mono h₃ (fun kv s₄ h₄=>wpAny_bind (wpAny_holding (wpAny_mono h₄ (fun vv s₅ h₅=>?_) fun _ _ e=>e))) fun _ _ e=>e))
    exact wpAny_bind (wpAny_standAt (wpAny_holding (wpAny_mono h₅ (fun _ s₆ h₆=>wpAny_pure h₆) fun _ _ e=>e)))
theorem codeAny_compStartD {pk pv:Expr} {g:Comprehension} {scope:Scope} {pos:Pos} {it acc:Value} {s:Shared} {R:Result→Shared→Prop} (ha:g.is_async=0)
    (h0:codeAny (model prog w) A (.compLoop (.DictComp pk pv [g] scope pos) 0 it acc env) R s)
    (h:∀ E',wpAny (model prog w) A (pyIter it) (fun it' s'=>codeAny (model prog w) A (.compLoop (.DictComp pk pv [g] scope pos) 0 it' acc env) R s') E' s) :
    codeAny (model prog w) A (.compStart (.DictComp pk pv [g] scope pos) 0 it acc env) R s:=by
  refine codeAny_of_tree ?_
  show wpAny _ _ ((compStart (.DictComp pk pv [g] scope pos) 0 it acc env).onRaise (fun x=>do noteFrame x env; standAt theWindowsPlace)) _ _ s
  refine wpAny_notedAt ?_
  delta compStart
  have e:(((clausesOf (.DictComp pk pv [g] scope pos))[0]?).elim false (·.is_async != 0))=false:=by
    show (g.is_async != 0)=false
    simp [ha]
  simp only [e,Bool.false_eq_true,if_false]
  show wpAny _ _ (ask >>= _) _ _ s
  refine wpAny_bind (wpAny_askSetting (wpAny_ite ?_))
  split
  · first
      | exact wpAny_bind (wpAny_pure (wpAny_pure (And.intro rfl h0)))
      | exact wpAny_pure (And.intro rfl h0)
  · refine wpAny_bind (wpAny_rule ?_)
    exact wpAny_bind (wpAny_standAt (wpAny_bind (wpAny_mono (h _) (fun it' s' h'=>wpAny_pure (And.intro rfl h')) fun _ _ x=>x)))
structure AccD (D₁:Addr) (c:Cf) (acc:List (List Nat × D)):Prop where
  m:c.M D₁
  ns:(D₁ == sysModules)=false
  ex:∃ kvs,c.s.heap.DictOf (strKind prog w) D₁ kvs∧RealS c.s.heap c.s.toks c.M kvs acc
theorem AccD.mono' {D₁:Addr} {acc:List (List Nat × D)} {T T':Addr→Prop} (a:AccD D₁ c acc) (x:Step c.s.heap c.M T c'.s.heap c'.M T') (lk:c.s.toks≤c'.s.toks)
    (keep:∀ o,c.s.heap.get? D₁=some o→c'.s.heap.get? D₁=some o) (up:c'.M D₁):AccD D₁ c' acc:=by
  obtain ⟨m,ns,kvs,l,r⟩:=a
  exact ⟨up,ns,kvs,l.at fun o e=>keep o e,r.mono x lk⟩
theorem AccD.some {D₁:Addr} {acc:List (List Nat × D)} (a:AccD D₁ c acc):∃ o,c.s.heap.get? D₁=some o:=by
  obtain ⟨m,ns,kvs,l,r⟩:=a
  exact DictOf.some l
theorem AccD.go {D₁:Addr} {acc:List (List Nat × D)} (a:AccD D₁ c acc) (g:Go φ loc σ c loc₁ σ₁ c₁) (nt:¬ Touch loc σ c.vs D₁):AccD D₁ c₁ acc:=by
  obtain ⟨o,e⟩:=a.some
  exact a.mono' g.step g.toks (fun o e=>(g.step.pend D₁ o a.m nt e).1) (g.step.pend D₁ o a.m nt e).2
theorem setD_acc {D₁:Addr} {acc:List (List Nat × D)} {ks:List Nat} {t:Tok} {v:Value} (a:AccD D₁ c acc) (rv:Real c.s.heap c.s.toks c.M v d) (hz:acc.length < 16) (R₁:Rep φ loc σ c) (hn:φ.h₀.get? D₁=none) (hT:¬ Touch loc σ c.vs D₁) {Q:Unit→Shared→Prop}
    (hQ:∀ c',Gy φ (fun b=>b=D₁) loc σ c loc σ c'→c'.vs=c.vs→AccD D₁ c' (setKey acc ks d)→Q () c'.s):wpAny (model prog w) A (dictSet D₁ (.str (mkS ks) t) v) Q EE c.s:=by
  obtain ⟨m,ns,kvs,l,r⟩:=a
  refine wpAny_dictSet_pairs (knd:=strKind prog w) (strKind_is prog w _ _) l (fun h' l' sb=>?_) (by rw [realS_len r,sizeLine_eq]; lia)
  have st:AtP (fun b=>b=D₁) c.s { c.s with heap:=h',toks:=c.s.toks+1 }:=⟨fun b o hb e=>(sb.2 b hb).trans e,rfl,rfl,Nat.le_succ _⟩
  obtain ⟨o',ho'⟩:=DictOf.some l'
  have g:=Gy.chg (Y:=fun b=>b=D₁) R₁ rfl m hn hT st (o:=o') ho'
  exact hQ ⟨{ c.s with heap:=h',toks:=c.s.toks+1 },c.M,c.vs⟩ g rfl ⟨m,ns,_,l',realS_set (rv.mono g.step g.toks) (r.mono g.step g.toks)⟩
variable (ev:EvOK F n) (Gx:Gl φ.hT) (r:Room n A) (V:EnvOK φ S loc env)
include ev Gx r V in
theorem loopD_ok {pk pv:Expr} {scope:Scope} {pos:Pos} {D₁:Addr} (hD:φ.h₀.get? D₁=none)
    {Fz:Nat→Prop} (hz:∀ i,Fz i→∃ L,loc i=some L)
    {tg:Tg} {k v:E} {ptg pit:Expr} (ttg:TrTg S tg ptg) (tk:TrE lv S k pk) (tv:TrE lv S v pv) (htz:∀ i∈tgOf tg,¬ Fz i)
    {ds:List D} {acc acc':List (List Nat × D)} {σ σ':St} {c:Cf} {P:Addr→Prop} {itv:Value} {en:Bool} {locs:Locs} {σs:St} {cs':Cf} {R:Result→Shared→Prop} (h:loopD F tg k v ds σ acc=some (acc',σ')) (Rs:Rep φ locs σs cs')
    (g:Gy φ (fun b=>b=D₁) locs σs cs' loc σ c) (x:ItX c.s.heap c.s.toks c.M P itv en ds) (ht:en=true→isTupT ptg=true) (hP:∀ b,P b→cs'.s.heap.get? b=none∧¬ Touch loc σ c.vs b∧b≠D₁)
    (ac:AccD D₁ c acc) (nt:¬ Touch loc σ c.vs D₁)
    (hR:∀ c',Gy φ (fun b=>b=D₁) locs σs cs' loc σ' c'→AccD D₁ c' acc'→¬ Touch loc σ' c'.vs D₁→(∀ i,Fz i→c'.vs i=c.vs i)→R (.ok .next) c'.s) :
    codeAny (model prog w) A (.compLoop (.DictComp pk pv [⟨ptg,pit,[],0⟩] scope pos) 0 itv (.ref D₁) env) R c.s:=by
  obtain ⟨v₀,hv₀⟩ : ∃ v₀,v₀=c.vs:=⟨_,rfl⟩
  refine codeAny_loop rfl (LoopI φ Fz v₀ (fun ds σ acc=>loopD F tg k v ds σ acc=some (acc',σ')) D₁ locs σs cs' loc P itv en (AccD D₁)) (fun m s hI=>?_) ds.length (.mk ds acc σ c rfl (fun i _=>by rw [hv₀]) rfl h g x hP ac nt)
  rw [← hv₀] at hR
  clear h g x hP ac nt hv₀
  obtain ⟨ds,acc,σ,c,rfl,hvz,rfl,h,g,x,hP,ac,nt⟩:=hI
  show wpAny _ A ((compTurn (.DictComp pk pv [⟨ptg,pit,[],0⟩] scope pos) 0 itv (.ref D₁) env).onRaise (fun x=>do noteFrame x env; theTreesLotGoes x)) _ _ c.s
  refine wpAny_noted (compTurnD_ok ?_)
  have subP:=x.sub
  refine itx_next r.1 g.rep.stand x ht (fun d ds' v s₁ hds hgo=>?_) (fun s₁ hds x₁=>?_)
  · subst hds
    obtain ⟨σ₁,h1,h⟩:=bs h
    obtain ⟨⟨kd₀,σ₂⟩,h2,h⟩:=bs h
    obtain ⟨kd,h0,h⟩:=bs h
    obtain rfl:=strD_is h0
    obtain ⟨⟨vd,σ₃⟩,h3,h⟩:=bs h
    obtain ⟨hlt,h⟩:=iteN h
    refine hgo _ _ fun s₂ x₂ self real itx=>?_
    have S₂:Stand s₂.heap c.M:=fun b m=>by
      by_cases p:P b
      · exact self b p
      · obtain ⟨o,e⟩:=g.rep.stand b m; exact ⟨o,x₂.keep b o p e⟩
    have g₂:=g.pend Rs subP (fun b p=>(hP b p).1) (fun b p=>(hP b p).2.1) x₂ (fun _ m=>m) (fun _ m _=>m) S₂
    have ac₂:AccD D₁ ⟨s₂,c.M,c.vs⟩ acc:=
      ac.mono' (c':=⟨s₂,c.M,c.vs⟩) (x₂.step subP (M':=c.M) (fun _ m=>m) (fun _ m _=>m)) x₂.toks (fun o e=>x₂.keep _ o (fun p=>(hP _ p).2.2 rfl) e) ac.m
    have mD:=ac₂.m
    refine assign_ok (c:=⟨s₂,c.M,c.vs⟩) r V g₂.rep ttg real h1 fun c₃ g₃ hv₃=>?_
    refine ev Gx r V g₃.rep tk h2 fun kv c₄ g₄ rk=>?_
    obtain ⟨t,rfl,hl⟩:=rk.inv
    refine ev Gx r V g₄.go.rep tv h3 fun vv c₅ g₅ rv=>?_
    have g₆:=(g₃.trans g₄.go).trans g₅.go
    have nt₅:¬ Touch loc σ₃ c₅.vs D₁:=not_touch' g₆ mD g₂.rep nt
    refine setD_acc (ac₂.go g₆ nt) rv hlt g₅.go.rep hD nt₅ fun c' g' hv' ac'=>?_
    have nt':¬ Touch loc σ₃ c'.vs D₁:=by rw [hv']; exact nt₅
    have g₇:=(g₆.y (Y:=fun b=>b=D₁)).trans g'
    exact ⟨rfl,ds'.length,Nat.lt_succ_self _,.mk ds' _ σ₃ c' rfl (fun i hi=>by
      obtain ⟨L,hL⟩:=hz i hi
      rw [hv',g₅.vs i L hL,g₄.vs i L hL,hv₃ i (fun m=>htz i m hi)]; exact hvz i hi) rfl h (g₂.trans g₇) (itx.mono g₇.step g₇.toks (fun b p t=>t.elim (hP b p).2.1 (hP b p).2.2))
      (fun b p=>⟨(hP b p).1,not_touch g₇ (subP b p) g₂.rep (hP b p).2.1 (hP b p).2.2,(hP b p).2.2⟩) ac' nt'⟩
  · subst hds
    obtain ⟨rfl,rfl⟩:=some2 h
    have S₂:Stand s₁.heap (fun b=>c.M b∧¬ P b):=fun b m=>by
      obtain ⟨o,e⟩:=g.rep.stand b m.1; exact ⟨o,x₁.keep b o m.2 e⟩
    have g₂:=g.pend Rs subP (fun b p=>(hP b p).1) (fun b p=>(hP b p).2.1) x₁ (M':=fun b=>c.M b∧¬ P b) (fun _ m=>m.1) (fun _ m n=>⟨m,n⟩) S₂
    refine hR ⟨s₁,_,c.vs⟩ g₂ ?_ nt hvz
    exact ac.mono' (c':=⟨s₁,fun b=>c.M b∧¬ P b,c.vs⟩) (x₁.step subP (M':=fun b=>c.M b∧¬ P b) (fun _ m=>m.1) (fun _ m n=>⟨m,n⟩)) x₁.toks (fun o e=>x₁.keep _ o (fun p=>(hP _ p).2.2 rfl) e) ⟨ac.m,fun p=>(hP _ p).2.2 rfl⟩
end
end Mine
end
section
open PySem PySem.W PyProof.Rows
set_option autoImplicit false
set_option maxRecDepth 100000
namespace Mine
section
variable {lv:Nat} {F:Funs} {n:Nat} {φ:Fx} {loc loc':Locs} {σ σ':St} {c c':Cf} {S S':Sx} {env:Env} {A:Around} {EE:Value→Shared→Prop} {Q:Value→Shared→Prop} {d:D}
theorem Go.thawD (R:Rep φ loc σ c) (g:Go φ loc σ c loc' σ' c') {D₁:Addr} {acc:List (List Nat × D)} (a:AccD D₁ c' acc) (nD:c.s.heap.get? D₁=none) (nt:¬ Touch loc' σ' c'.vs D₁) :
    ∃ M',Go φ loc σ c loc' σ' ⟨c'.s,M',c'.vs⟩∧Real c'.s.heap c'.s.toks M' (.ref D₁) (.sdict acc):=by
  have x:AtP (fun b=>b=D₁) c'.s c'.s:=⟨fun b o hb e=>e,rfl,rfl,Nat.le_refl _⟩
  have st:=x.step (M:=c'.M) (M':=fun b=>c'.M b∧b≠D₁) (fun b p=>p ▸ a.m) (fun b m=>m.1) (fun b m n=>⟨m,n⟩)
  obtain ⟨m,ns,kvs,l,r⟩:=a
  refine ⟨fun b=>c'.M b∧b≠D₁,(g.y (Y:=fun _=>False)).pend R (P:=fun b=>b=D₁) (fun b p=>p ▸ m) (fun b p=>p ▸ nD) (fun b p=>p ▸ nt) x (fun b m=>m.1) (fun b m n=>⟨m,n⟩) (fun b m=>?_) |>.go fun _ f=>f,?_⟩
  · exact g.rep.stand b m.1
  · exact .sdict (fun h=>h.2 rfl) ns l (r.mono st (Nat.le_refl _))
variable (ev:EvOK F n) (evt:EvtOK F n) (Gx:Gl φ.hT) (r:Room n A) (V:EnvOK φ S loc env) (R:Rep φ loc σ c)
include ev Gx r V R
theorem dcomp_core {own:List (Str × Nat)} {k v:E} {tg:Tg} {it:E} {pk pv ptg pit:Expr} {scope:Scope} {p:Pos}
    (hck:ckComp S S' scope own (tgIds [(tg,it,[])])=true) (hen:enOk [(tg,it,[])]=true) (hpl:plainIter pit) (tit:TrI (TrE lv) S it pit) (ttg:TrTg S' tg ptg) (tk:TrE lv S' k pk) (tv:TrE lv S' v pv)
    {l:List D} {σ₁ σe:St} {es:List (List Nat × D)} (h1:items F it σ=some (l,σ₁)) (h:loopD F tg k v l σ₁ []=some (es,σe))
    (hC:∀ D₁ c' L,Ge φ loc σ c (delT tg σe) c'→AccD D₁ c' es→c.s.heap.get? D₁=none→¬ Touch loc (delT tg σe) c'.vs D₁→c.s.heap.get? L=none→D₁≠L→(someLocal scope→c'.M L∧¬ Touch loc (delT tg σe) c'.vs L∧∃ m,c'.s.heap.Ns L m)→
      (someLocal scope→∃ m,c'.s.heap.Ns L m)∧∀ h',Heap.SameBut L c'.s.heap h'→(¬ someLocal scope→h'=c'.s.heap)→Q (.ref D₁) { c'.s with heap:=h' }) :
    wpAny (model prog w) A (comprehension (.DictComp pk pv [⟨ptg,pit,[],0⟩] scope p) scope env pit.pos newDict false (eval pit env) none) Q EE c.s:=by
  have ck:=ck_of hck
  have hfree:∀ x,(x,NameKind.free)∈scope.names→∃ a,env.cells.lookup x=some a:=fun x hx=>by
    obtain ⟨h1,i,h2⟩:=ck.free x hx
    obtain ⟨L,_,pl⟩:=V.vars x i h2
    induction pl using Place.casesOn with
    | dct q=>rw [q] at h1; exact absurd h1 Bool.false_ne_true
    | @cel a _ q=>exact ⟨a,q⟩
  obtain ⟨cl,hcl,hcl1,hcl2⟩:=closure_ok hfree
  refine comp_node (use:=none) (g:=⟨ptg,pit,[],0⟩) (gs:=[]) rfl (hpl env) hcl ck.kind (fun x hx hl=>by
    have:=look_of_mem ck.nd3 (show (x.1,x.2)∈scope.names from hx)
    rw [hl] at this; exact this) ?_
  refine items_ok ev Gx r V R tit h1 fun itv c₁ P g₁ x₁ hP=>?_
  have sysn:=Gl.size (c:=c₁) Gx g₁.go.rep
  refine wpAny_newObj_type ?_ (by simp [sizeOk])
  have gr:=Grow.push g₁.go.rep.stand { cls:=.type "dict",data:=.dict #[] } rfl
  have hn:=fresh_none c₁.s.heap
  have g₂:=g₁.go.rep.grows gr
  have acc₂:AccD c₁.s.heap.objs.size ⟨{ c₁.s with heap:=c₁.s.heap.push { cls:=.type "dict",data:=.dict #[] } },fun b=>c₁.M b∨b=c₁.s.heap.objs.size,c₁.vs⟩ []:=
    ⟨.inr rfl,sysn,[],Heap.DictOf.new c₁.s.heap,.nil⟩
  have nt₂:¬ Touch loc σ₁ c₁.vs c₁.s.heap.objs.size:=Touch.ne (c:=c₁) g₁.go.rep hn
  refine newEnv_comp ?_
  obtain ⟨loc',M',V',g₃,keep,old,new,mL,nL,⟨m,ns⟩,mold,hloc⟩:=compEnv_ok (c:=⟨{ c₁.s with heap:=c₁.s.heap.push { cls:=.type "dict",data:=.dict #[] } },fun b=>c₁.M b∨b=c₁.s.heap.objs.size,c₁.vs⟩) V ck g₂.rep hcl1 hcl2
  have acc₃:=acc₂.go g₃ nt₂
  have nt₃:=not_touch' g₃ (b:=c₁.s.heap.objs.size) (.inr rfl) g₂.rep nt₂
  have g₁₃:=g₁.go.trans (g₂.trans g₃)
  have x₃:=x₁.mono (g₂.trans g₃).step (g₂.trans g₃).toks fun b pb t=>(hP b pb).2 t
  have hPn:∀ b,P b→∃ o,c₁.s.heap.get? b=some o:=fun b pb=>g₁.go.rep.stand b (x₁.sub b pb)
  have hP₃:∀ b,P b→c.s.heap.get? b=none∧¬ Touch loc' σ₁ c₁.vs b∧b≠c₁.s.heap.objs.size:=fun b pb=>⟨(hP b pb).1,not_touch' (g₂.trans g₃) (x₁.sub b pb) g₁.go.rep (hP b pb).2,fun q=>by
    obtain ⟨o,e⟩:=hPn b pb
    rw [q,hn] at e; cases e⟩
  have hD0:c.s.heap.get? c₁.s.heap.objs.size=none:=g₁.go.stay _ hn
  have hD:φ.h₀.get? c₁.s.heap.objs.size=none:=R.fresh hD0
  have Fz:∀ i,(∃ L,loc i=some L)→∃ L,loc' i=some L:=fun i ⟨L,h⟩=>⟨L,old i L h⟩
  have fz:∀ i,S.top≤i→¬ ∃ L,loc i=some L:=fun i hi ⟨L,h⟩=>absurd (V.top i L h) (Nat.not_lt.mpr hi)
  have run:codeAny (model prog w) A (.compLoop (.DictComp pk pv [⟨ptg,pit,[],0⟩] scope p) 0 itv (.ref c₁.s.heap.objs.size) (compEnv env scope _ cl)) _ _:=
    loopD_ok ev Gx r V' hD Fz ttg tk tv (fun i hi=>fz i (trTg_own ck ttg i hi)) h R g₁₃.y x₃
      (fun e=>by
        obtain ⟨is,q⟩:=enOk_ok hen _ List.mem_cons_self e
        dsimp only at q; subst q; cases ttg; rfl) hP₃ acc₃ nt₃ (R:=fun r s'=>match r with
          | .error _=>False
          | .ok _=>wpAny (model prog w) A (useAct none (.ref c₁.s.heap.objs.size)) (fun _ s''=>(someLocal scope→∃ m,s''.heap.Ns (c₁.s.heap.push { cls:=.type "dict",data:=.dict #[] }).objs.size m)∧∀ h',Heap.SameBut (c₁.s.heap.push { cls:=.type "dict",data:=.dict #[] }).objs.size s''.heap h'→(¬ someLocal scope→h'=s''.heap)→Q (useVal none (.ref c₁.s.heap.objs.size)) { s'' with heap:=h' }) EE s')
      (fun c₅ g₅ ac₅ nt₅ hv₅=>by
        obtain ⟨hlen,hdel⟩:=delG_ok (gs:=[(tg,it,[])]) (σ:=σe)
        have nL0:c.s.heap.get? _=none:=(g₁.go.trans g₂).stay _ nL
        obtain ⟨ge,nt₆,hl⟩:=comp_close R old new g₅ hlen hdel hD0 nt₅ (fun i L hL=>(hv₅ i ⟨L,hL⟩).trans (g₁.vs i L hL)) nL0 hloc
        refine wpAny_pure (hC c₁.s.heap.objs.size c₅ _ ge ac₅ hD0 nt₆ nL0 (fun q=>?_) hl)
        rw [← q,Heap.get?_push_size _ rfl] at nL; exact nos nL.symm)
  exact codeAny_compStartD rfl run fun E'=>itx_self x₃ run
theorem ev_dcomp {own:List (Str × Nat)} {k v:E} {tg:Tg} {it:E} {pk pv ptg pit:Expr} {scope:Scope} {p:Pos}
    (hck:ckComp S S' scope own (tgIds [(tg,it,[])])=true) (hen:enOk [(tg,it,[])]=true) (hpl:plainIter pit) (tit:TrI (TrE lv) S it pit) (ttg:TrTg S' tg ptg) (tk:TrE lv S' k pk) (tv:TrE lv S' v pv)
    (e:stepEv F (.dcomp k v (tg,it)) σ=some (d,σ')) (hQ:∀ v c',Ge φ loc σ c σ' c'→Real c'.s.heap c'.s.toks c'.M v d→Q v c'.s) :
    wpAny (model prog w) A (eval (.DictComp pk pv [⟨ptg,pit,[],0⟩] scope p) env) Q EE c.s:=by
  obtain ⟨⟨l,σ₁⟩,h1,e⟩:=bs e
  obtain ⟨⟨es,σe⟩,h,e⟩:=ms e
  obtain ⟨rfl,rfl⟩:=Prod.mk.inj e
  show wpAny _ _ (comprehension (.DictComp pk pv [⟨ptg,pit,[],0⟩] scope p) scope env pit.pos newDict false (eval pit env)) _ _ _
  refine dcomp_core ev Gx r V R hck hen hpl tit ttg tk tv h1 h fun D₁ c' L g a nD nt nL nv hl=>⟨fun h=>(hl h).2.2,fun h' sb hn=>?_⟩
  have st:∃ M',Go φ loc σ c loc (delT tg σe) ⟨{ c'.s with heap:=h' },M',c'.vs⟩∧AccD D₁ ⟨{ c'.s with heap:=h' },M',c'.vs⟩ es:=by
    by_cases h:someLocal scope
    · obtain ⟨mL,nt,_⟩:=hl h
      have x:AtP (fun b=>b=L) c'.s { c'.s with heap:=h' }:=⟨fun b o hb e=>(sb.2 b hb).trans e,rfl,rfl,Nat.le_refl _⟩
      have st:=x.step (M:=c'.M) (M':=fun b=>c'.M b∧b≠L) (fun b p=>p ▸ mL) (fun b m=>m.1) (fun b m n=>⟨m,n⟩)
      refine ⟨fun b=>c'.M b∧b≠L,(g.go.y (Y:=fun _=>False)).pend R (P:=fun b=>b=L) (fun b p=>p ▸ mL) (fun b p=>p ▸ nL) (fun b p=>p ▸ nt) x (fun b m=>m.1) (fun b m n=>⟨m,n⟩) (fun b m=>?_) |>.go fun _ f=>f,?_⟩
      · obtain ⟨o,e⟩:=g.go.rep.stand b m.1
        exact ⟨o,x.keep b o m.2 e⟩
      · exact a.mono' (c':=⟨{ c'.s with heap:=h' },fun b=>c'.M b∧b≠L,c'.vs⟩) st (Nat.le_refl _) (fun o e=>x.keep _ o nv e) ⟨a.m,nv⟩
    · have:=hn h
      subst this
      exact ⟨c'.M,g.go,a⟩
  obtain ⟨M',g',a'⟩:=st
  obtain ⟨M'',g'',rr⟩:=Go.thawD R g' a' nD nt
  exact hQ _ ⟨{ c'.s with heap:=h' },M'',c'.vs⟩ ⟨g'',g.vs⟩ rr
end
end Mine
end
section
open PySem PySem.W PyProof.Rows
set_option autoImplicit false
namespace Mine
section
variable {F F':Funs} {n m:Nat}
theorem ev_step (hF:F'.ev=stepEv F) (hm:n≤m) (ev:EvOK F n) (evo:EvoOK F n) (evt:EvtOK F n) (cl:CallOK F n) (fa:∀ hT,K hT→∀ a ss r,F.call a ss=some r→FnAt hT a):EvOK F' m:=by
  intro lv φ loc σ c S env A e pe d σ' Q EE Gx r' V R t h hQ
  have r:=r'.weaken hm
  rw [hF] at h
  have t0:=t
  obtain ⟨lv,u⟩:=t.out
  clear t
  induction u using TrE1.casesOn with
  | none=>obtain ⟨rfl,rfl⟩:=some2 h; exact wpAny_Constant_none (hQ _ c (.refl R) .none)
  | bool=>obtain ⟨rfl,rfl⟩:=some2 h; exact wpAny_Constant_bool (hQ _ c (.refl R) (.bool _))
  | int=>obtain ⟨rfl,rfl⟩:=some2 h; exact wpAny_Constant_int (hQ _ _ ((Ge.refl R).ext (Ext.tk1 _)) (.int _ _))
  | str hx hl=>obtain ⟨rfl,rfl⟩:=some2 h; subst hx; exact wpAny_Constant_str (hQ _ _ ((Ge.refl R).ext (Ext.tk1 _)) (.str _ hl))
  | tlit hx hl=>obtain ⟨rfl,rfl⟩:=some2 h; subst hx; exact wpAny_Constant_str (hQ _ _ ((Ge.refl R).ext (Ext.tk1 _)) (.tstr hl (Nat.pos_iff_ne_zero.mp R.pos) (Nat.lt_succ_self _)))
  | @var i x p hx hn=>
    obtain ⟨o,hs,h⟩:=rd_inv h
    rcases h with ⟨rfl,rfl⟩ | ⟨rfl,rfl⟩
    · refine wpAny_Name (load_ok V R hx hs (nmOk_iff hn).2 ?_) (nmOk_iff hn).1
      obtain ⟨_,_,_,rr⟩:=R.vals _ _ _ hs
      exact hQ _ c (.refl R) rr
    · refine wpAny_Name (load_ok V R hx hs (nmOk_iff hn).2 ?_) (nmOk_iff hn).1
      obtain ⟨M',g,rr⟩:=R.freeze hs
      exact hQ _ ⟨c.s,M',c.vs⟩ ⟨g,fun _ _ _=>rfl⟩ rr
  | glob hx hv=>obtain ⟨rfl,rfl⟩:=some2 h; exact gname_ok Gx V R hx hv fun v rr=>hQ v c (.refl R) rr
  | bin ho tl tr=>exact ev_bin ev Gx r V R hQ ho tl tr h
  | neg t=>exact ev_neg ev Gx r V R hQ t h
  | orv tl tr=>exact ev_orv ev Gx r V R hQ tl tr h
  | ite tt tb to=>
    refine wpAny_IfExp ?_
    obtain ⟨⟨b₁,σ₁⟩,h1,h⟩:=bs h
    induction b₁ using Bool.casesOn with
    | true=>
      refine evt Gx r V R tt h1 fun c₁ g₁=>?_
      exact ev Gx r V g₁.go.rep tb h fun v c₂ g₂ rr=>hQ v c₂ (g₁.trans g₂) rr
    | false=>
      refine evt Gx r V R tt h1 fun c₁ g₁=>?_
      exact ev Gx r V g₁.go.rep to h fun v c₂ g₂ rr=>hQ v c₂ (g₁.trans g₂) rr
  | cmp ho hm tl tr=>exact ev_cmp ev Gx r V R hQ ho hm tl tr h
  | list ts=>
    obtain ⟨o,h1⟩:=noO_inv h
    exact ev_own evo Gx r V R t0 hQ h1
  | tup ts=>exact ev_tup ev Gx r V R hQ ts h
  | edict=>
    obtain ⟨o,h1⟩:=noO_inv h
    exact ev_own evo Gx r V R t0 hQ h1
  | call tf ta hl=>exact ev_call ev cl fa Gx r V R hQ tf ta hl h
  | len hb hx t=>exact ev_len ev Gx r V R hQ hb hx t h
  | bi hb0 hb hx ts=>exact ev_bi ev Gx r V R hQ hb0 hb hx ts h
  | blist hb hx t=>
    obtain ⟨o,h1⟩:=noO_inv h
    exact ev_own evo Gx r V R t0 hQ h1
  | isB hb hb' hx hy t=>exact ev_isB ev Gx r V R hQ hb hb' hx hy t h
  | isI hb hb' hx hy t=>exact ev_isI ev Gx r V R hQ hb hb' hx hy t h
  | dictzip h1 h2 h3 h4 ta tb=>exact ev_dictzip ev Gx r V R hQ h1 h2 h3 h4 ta tb h
  | meth hn hb hl hl2 to ta=>exact ev_meth ev Gx r V R hQ hn hb hl hl2 to ta h
  | repl hn hb hl hx hl2 to told=>exact ev_repl ev Gx r V R hQ hn hb hl hx to told h
  | idx hs to ti=>exact ev_idx ev Gx r V R hQ hs to ti h
  | idxT hs to ti=>exact ev_idxT ev Gx r V R hQ hs to ti h
  | slc to tl tu=>exact ev_slc ev Gx r V R hQ to tl tu h
  | slcR to=>exact ev_slcR ev Gx r V R hQ to h
  | comp h1 h2 h3 h4 h5 h6 h7 h8=>
    obtain ⟨o,h1'⟩:=noO_inv h
    exact ev_own evo Gx r V R t0 hQ h1'
  | dcomp h1 h2 h3 h4 h5 h6 h7=>exact ev_dcomp ev Gx r V R h1 h2 h3 h4 h5 h6 h7 h hQ
theorem evo_step (hF:F'.evO=stepO F) (hm:n≤m) (ev:EvOK F n) (evo:EvoOK F n) (evt:EvtOK F n):EvoOK F' m:=by
  intro lv φ loc σ c S env A e pe o d σ' Q EE Gx r' V R t h hP
  have r:=r'.weaken hm
  rw [hF] at h
  by_cases hi:isO e=false
  · obtain ⟨rfl,h1⟩:=shO_inv ((o_sh hi).symm.trans h)
    exact ev Gx r V R t h1 fun v c' g rr=>hP v c' g rr
  have t0:=t
  obtain ⟨lv,u⟩:=t.out
  clear t
  induction u using TrE1.casesOn with
  | list ts=>exact evo_list ev Gx r V R hP ts h
  | edict=>exact evo_edict Gx r V R hP h
  | blist hb hx t=>exact evo_blist ev Gx r V R hP hb hx t h
  | comp h1 h2 h3 h4 h5 h6 h7 h8=>exact evo_comp ev evt Gx r V R h1 h2 h3 h4 h5 h6 h7 h8 h hP
  | ite tt tb to=>
    refine wpAny_IfExp ?_
    obtain ⟨⟨b₁,σ₁⟩,h1,h⟩:=bs h
    induction b₁ using Bool.casesOn with
    | true=>
      refine evt Gx r V R tt h1 fun c₁ g₁=>?_
      exact evo Gx r V g₁.go.rep tb h fun v c₂ g₂ p=>hP v c₂ (g₁.trans g₂) (p.back g₁.go)
    | false=>
      refine evt Gx r V R tt h1 fun c₁ g₁=>?_
      exact evo Gx r V g₁.go.rep to h fun v c₂ g₂ p=>hP v c₂ (g₁.trans g₂) (p.back g₁.go)
  | @bi bb _ _ _ _ _ _ a=>induction bb using Bi.casesOn <;> first | exact absurd rfl hi | exact absurd a Bool.false_ne_true
  | _=>exact absurd rfl hi
theorem evt_step (hF:F'.evT=stepT F) (hm:n≤m) (ev:EvOK F n) (evt:EvtOK F n) (cm:CmpOK F n):EvtOK F' m:=by
  intro lv φ loc σ c S env A e pe b σ' Q EE Gx r' V R t h hB
  have r:=r'.weaken hm
  rw [hF] at h
  induction t using TrT.casesOn with
  | not t=>exact evt_not evt Gx r V R hB t h
  | and ts=>exact wpAny_isTrue_BoolOp (allT_ok evt Gx r V R ts h hB)
  | or ts=>exact wpAny_isTrue_BoolOp (anyT_ok evt Gx r V R ts h hB)
  | cmp ho hm tl tr=>
    obtain ⟨⟨d,σ₁⟩,h1,h⟩:=bs h
    obtain ⟨b',h2,h⟩:=ms h
    obtain ⟨rfl,rfl⟩:=Prod.mk.inj h
    subst ho
    refine wpAny_isTrue_Compare1 ?_ hm
    refine wpAny_mono (cm Gx r V R tl tr h1 (Q:=fun v s=>wpAny (model prog w) A (truthy v) Q EE s) fun b' c' g hd=>?_) (fun a s₁ ha=>wpAny_mono ha (fun b' s₂ hb=>wpAny_mono hb (fun _ _ q=>q) fun _ _ q=>q) fun _ _ q=>q) fun _ _ q=>q
    subst hd
    obtain rfl:=some1 h2
    exact wpAny_truthy_bool (hB c' g)
  | @val e pe hw t=>
    have hi:isT' e=false:=by obtain ⟨_,t⟩:=t.out; induction t using TrE1.casesOn <;> rfl
    obtain ⟨⟨d,σ₁⟩,h1,h⟩:=bs ((t_val hi).symm.trans h)
    obtain ⟨b',h2,h⟩:=ms h
    obtain ⟨rfl,rfl⟩:=Prod.mk.inj h
    refine wpAny_isTrue_value (ev Gx r V R t h1 fun v c' g rr=>tru_ok rr h2 fun s' x=>hB _ (g.ext x)) (hw env _)
theorem cmp_step (hF:F'.ev=stepEv F) (hm:n≤m) (ev:EvOK F n):CmpOK F' m:=by
  intro lv φ loc σ c S env A o l rr pl pr d σ' Q EE Gx r' V R tl tr h hQ
  rw [hF] at h
  exact cmp_core ev Gx (r'.weaken hm) V R tl tr h hQ
end
end Mine
end
section
open PySem PySem.W PyProof.Rows
set_option autoImplicit false
namespace Mine
theorem putAll_comm {i:Nat} {s:Slot}:∀ {is:List Nat} {ss:List Slot} {σ σ':St},i ∉ is→putAll is ss σ=some σ'→putAll is ss (σ.put i s)=some (σ'.put i s)
  := by
  intro is ss σ σ' hn h
  induction is,ss using two_ind generalizing σ with
  | nn=>obtain rfl:=some1 h; rfl
  | nc=>exact nos h
  | cn=>exact nos h
  | cc j is t ss ih=>
    have hj:i≠j:=fun q=>hn (by rw [q]; exact List.mem_cons_self)
    have:(σ.put i s).put j t=(σ.put j t).put i s:=List.set_comm _ _ hj
    exact (congrArg (putAll is ss) this).trans (ih (fun m=>hn (List.mem_cons_of_mem _ m)) h)
theorem putAll_snoc {i:Nat} {s:Slot}:∀ {is:List Nat} {ss:List Slot} {σ σ':St},putAll is ss σ=some σ'→putAll (is++[i]) (ss++[s]) σ=some (σ'.put i s)
  := by
  intro is ss σ σ' h
  induction is,ss using two_ind generalizing σ with
  | nn=>obtain rfl:=some1 h; rfl
  | cc _ is _ ss ih=>exact ih h
  | nc=>exact nos h
  | cn=>exact nos h
theorem putAll_some:∀ {is:List Nat} {ss:List Slot} (σ:St),is.length=ss.length→∃ σ',putAll is ss σ=some σ'
  := by
  intro is ss σ h
  induction is,ss using two_ind generalizing σ with
  | nn=>exact ⟨σ,rfl⟩
  | cc i is s ss ih=>exact ih (σ.put i s) (Nat.succ.inj h)
  | nc=>exact absurd h.symm (Nat.succ_ne_zero _)
  | cn=>exact absurd h (Nat.succ_ne_zero _)
theorem putAll_rev:∀ {is:List Nat} {ss:List Slot} {σ σ':St},is.Nodup→putAll is ss σ=some σ'→putAll is.reverse ss.reverse σ=some σ'
  := by
  intro is ss σ σ' hn h
  induction is,ss using two_ind generalizing σ σ' with
  | nn=>exact h
  | nc=>exact nos h
  | cn=>exact nos h
  | cc i is s ss ih=>
    rw [List.nodup_cons] at hn
    obtain ⟨σ₁,h1⟩:=putAll_some (is:=is) (ss:=ss) σ (putAll_len h)
    have h2:=putAll_comm (s:=s) hn.1 h1
    obtain rfl:=some1 ((show putAll is ss (σ.put i s)=some σ' from h).symm.trans h2)
    rw [List.reverse_cons,List.reverse_cons]
    exact putAll_snoc (ih hn.2 h1)
theorem map_zip_fst {α β γ:Type} {f:α→γ}:∀ {l:List α} {r:List β},l.length≤r.length→(l.zip r).map (fun p=>f p.1)=l.map f
  | [],_,_=>rfl
  | _ :: _,_ :: _,h=>by simp [map_zip_fst (f:=f) (by simpa using h)]
  | _ :: _,[],h=>by simp at h
noncomputable def nmsOf:List Expr→List Str
  | .Name x _ :: r=>x :: nmsOf r
  | _=>[]
section
variable {lv:Nat} {F:Funs} {n:Nat} {φ:Fx} {loc:Locs} {σ σ' σ₀:St} {c c₀:Cf} {S:Sx} {env:Env} {A:Around} {EE:Value→Shared→Prop} {d:D}
theorem waits_iff {ss:List Slot} {vs:List Value}:Waits c₀ loc σ c ss vs ↔ ss.length=vs.length∧(∀ p∈ss.zip vs,Pend c₀ loc σ c p.1.1 p.1.2 p.2)∧(ss.zip vs).Pairwise fun p q=>p.1.1≠.sh→q.1.1≠.sh→p.2≠q.2:=by
  induction ss,vs using two_ind with
  | nn=>exact ⟨fun _=>⟨rfl,fun _ h=>absurd h List.not_mem_nil,.nil⟩,fun _=>trivial⟩
  | nc=>exact ⟨fun h=>h.elim,fun h=>absurd h.1.symm (Nat.succ_ne_zero _)⟩
  | cn=>exact ⟨fun h=>h.elim,fun h=>absurd h.1 (Nat.succ_ne_zero _)⟩
  | cc s ss v vs ih=>
    constructor
    · intro h
      obtain ⟨a,b,r⟩:=h
      obtain ⟨l,p,q⟩:=ih.mp r
      refine ⟨congrArg Nat.succ l,fun x hx=>?_,.cons (fun x hx=>?_) q⟩
      · rcases List.mem_cons.mp hx with e | hx
        · exact e ▸ a
        · exact p x hx
      · obtain ⟨i,hi⟩:=List.mem_iff_getElem?.mp hx
        have hi:=List.getElem?_zip_eq_some.mp hi
        exact b i x.1 x.2 hi.1 hi.2
    · intro h
      obtain ⟨l,p,q⟩:=h
      cases q with | cons a q=>
      exact ⟨p _ List.mem_cons_self,fun i s' v' h1 h2=>a (s',v') (List.mem_iff_getElem?.mpr ⟨i,List.getElem?_zip_eq_some.mpr ⟨h1,h2⟩⟩),ih.mpr ⟨Nat.succ.inj l,fun x hx=>p x (List.mem_cons_of_mem _ hx),q⟩⟩
theorem zip_rev {α β:Type} {l:List α} {r:List β} (h:l.length=r.length):l.reverse.zip r.reverse=(l.zip r).reverse:=by
  induction l generalizing r with
  | nil=>induction r using List.casesOn with
    | nil=>rfl
    | cons _ _=>cases h
  | cons a l ih=>induction r using List.casesOn with
    | nil=>cases h
    | cons b r=>
      have h':l.length=r.length:=by simpa using h
      rw [List.reverse_cons,List.reverse_cons,List.zip_append (by simp [h']),ih h']
      simp
theorem Waits.rev {ss:List Slot} {vs:List Value} (h:Waits c₀ loc σ c ss vs):Waits c₀ loc σ c ss.reverse vs.reverse:=by
  rw [waits_iff] at h ⊢
  obtain ⟨l,p,q⟩:=h
  refine ⟨by simp [l],fun x hx=>?_,?_⟩
  · rw [zip_rev l] at hx; exact p x (List.mem_reverse.mp hx)
  · rw [zip_rev l,List.pairwise_reverse]
    exact q.imp fun {a b} h h1 h2 e=>h h2 h1 e.symm
theorem Waits.go {loc':Locs} {σ₁:St} {c₁:Cf} (g:Go φ loc σ c loc' σ₁ c₁):∀ {ss:List Slot} {vs:List Value},Waits c₀ loc σ c ss vs→Waits c₀ loc' σ₁ c₁ ss vs
  := by
  intro ss vs h
  induction ss,vs using two_ind with
  | nn=>trivial
  | cc _ _ _ _ ih=>exact ⟨h.1.go g,h.2.1,ih h.2.2⟩
  | nc=>exact h.elim
  | cn=>exact h.elim
theorem Waits.back {loc₁ loc₂:Locs} {σ₁ σ₂:St} {c₁ c₂:Cf} (g:Go φ loc₁ σ₁ c₁ loc₂ σ₂ c₂):∀ {ss:List Slot} {vs:List Value},Waits c₂ loc σ c ss vs→Waits c₁ loc σ c ss vs
  := by
  intro ss vs h
  induction ss,vs using two_ind with
  | nn=>trivial
  | cc _ _ _ _ ih=>exact ⟨h.1.back g,h.2.1,ih h.2.2⟩
  | nc=>exact h.elim
  | cn=>exact h.elim
theorem storeNames_ok (V:EnvOK φ S loc env) (R₀:Rep φ loc σ₀ c₀) {Q:Unit→Shared→Prop}:∀ {xs:List (Str × Nat)} {ss:List Slot} {vs:List Value} {σ σ':St} {c:Cf} (g:Go φ loc σ₀ c₀ loc σ c)
    (t:∀ p∈xs,S.vars.lookup p.1=some p.2∧isLC (S.names.lookup p.1)=true) (h:putAll (xs.map (·.2)) ss σ=some σ') (W:Waits c₀ loc σ c ss vs)
    (hQ:∀ c',Go φ loc σ₀ c₀ loc σ' c'→Q () c'.s),wpAny (model prog w) A (assignInOrder (xs.map fun p=>bindName env p.1) vs) Q EE c.s
  := by
  intro xs ss vs σ σ' c g t h W hQ
  induction xs,ss using two_ind generalizing vs σ c with
  | nc=>exact nos h
  | cn=>exact nos h
  | nn=>
    induction vs using List.casesOn with
    | cons _ _=>exact W.elim
    | nil=>
    obtain rfl:=some1 h
    exact wpAny_pure (hQ c g)
  | cc p xs s ss ih=>
    obtain ⟨x,i⟩:=p
    induction vs using List.casesOn with
    | nil=>exact W.elim
    | cons v vs=>
    obtain ⟨h1,h2⟩:=t (x,i) List.mem_cons_self
    obtain ⟨L,hL,_⟩:=V.vars x i h1
    refine wpAny_bind (wpAny_holding (wpAny_bindName (store_ok V R₀ g h1 (isLC_nf h2) W.1 fun c' g' hM hv hk tk=>?_)))
    exact ih g' (fun p hp=>t p (List.mem_cons_of_mem _ hp)) h (Waits.store g.rep hM hv hk tk ⟨L,hL⟩ W.2.2 W.2.1)
theorem trN_zip {is:List Nat} {pes:List Expr} (t:TrN S is pes):(nmsOf pes).length=is.length∧is.length=pes.length∧∀ p∈(nmsOf pes).zip is,S.vars.lookup p.1=some p.2∧isLC (S.names.lookup p.1)=true:=by
  induction t with
  | nil=>exact ⟨rfl,rfl,fun p h=>absurd h List.not_mem_nil⟩
  | cons h1 h2 ts ih=>
    obtain ⟨a,a',b⟩:=ih
    refine ⟨congrArg Nat.succ a,congrArg Nat.succ a',fun p hp=>?_⟩
    rcases List.mem_cons.mp hp with q | q
    · subst q; exact ⟨h1,h2⟩
    · exact b p q
theorem trN_filter {f:Expr→Option Str} (hf:∀ x p,f (.Name x p)=some x∨f (.Name x p)=none) {is:List Nat} {pes:List Expr} (t:TrN S is pes):(pes.filterMap f).length=pes.length→pes.filterMap f=nmsOf pes:=by
  induction t with
  | nil=>exact fun _=>rfl
  | @cons i x p is pes h1 h2 ts ih=>
    intro h
    rcases hf x p with q | q
    · rw [List.filterMap_cons,q] at h ⊢
      dsimp only at h ⊢
      rw [ih (Nat.succ.inj h)]; rfl
    · rw [List.filterMap_cons,q] at h
      dsimp only at h
      have:=List.length_filterMap_le f pes
      simp at h; lia
theorem swapped_cases {is:List Nat} {pes pvs:List Expr} {k k':Nat} {q q':Pos} (t:TrN S is pes) (hc:pvs.all (foldedForSure 8)=true∨pvs.all (constantsAlone 8)=false) :
    swappedStores [.Tuple pes k q] (.Tuple pvs k' q') env=pure none∨swappedStores [.Tuple pes k q] (.Tuple pvs k' q') env=pure (some (nmsOf pes)):=by
  unfold swappedStores
  dsimp only
  split
  · exact .inl rfl
  split
  · exact .inl rfl
  split
  · exact .inl rfl
  rename_i h3
  split
  · exact .inl rfl
  rename_i h4
  split
  · rename_i h5
    rcases hc with hc | hc
    · exact absurd hc h4
    · rw [hc] at h5; exact absurd h5 Bool.false_ne_true
  · right
    refine congrArg (fun l=>(pure (some l):Sem (Option (List Str)))) (trN_filter (fun x p=>?_) t ?_)
    · dsimp only
      split
      · exact .inl rfl
      · exact .inr rfl
    · rw [Bool.or_eq_true,not_or] at h3
      exact Decidable.of_not_not fun q=>h3.1 (bne_iff_ne.mpr q)
variable (evo:EvoOK F n) (Gx:Gl φ.hT) (r:Room n A) (V:EnvOK φ S loc env)
include evo Gx r V in
theorem evOs_ok:∀ {es:List E} {pes:List Expr} {σ:St} {c:Cf} {ss:List Slot} {σ':St} (R:Rep φ loc σ c) (t:TrL (TrE lv) S es pes) (h:evOs F es σ=some (ss,σ'))
    {Q:List Value→Shared→Prop} (hQ:∀ vs c',Ge φ loc σ c σ' c'→Waits c loc σ' c' ss vs→Q vs c'.s),wpAny (model prog w) A (spliced (pes.map fun pe=>(false,eval pe env))) Q EE c.s:=by
  intro es
  induction es with
  | nil=>
    intro pes σ c ss σ' R t h Q hQ
    obtain rfl:=t.inv; obtain ⟨rfl,rfl⟩:=some2 h
    exact Calls.spliced_nil (hQ [] c (.refl R) trivial)
  | cons e es ih=>
    intro pes σ c ss σ' R t h Q hQ
    obtain ⟨_,_,rfl,t,ts⟩:=t.inv
    obtain ⟨⟨o,d,σ₁⟩,h1,h⟩:=bs h
    obtain ⟨⟨ds,σ'⟩,h2,h⟩:=ms h
    obtain ⟨rfl,rfl⟩:=Prod.mk.inj h
    refine Calls.spliced_cons (evo Gx r V R t h1 fun v c₁ g₁ p₁=>ih g₁.go.rep ts h2 fun vs c₂ g₂ W₂=>hQ _ _ (g₁.trans g₂) ⟨p₁.go g₂.go,fun i s' v' e1 e2 n1 n2 q=>?_,W₂.back g₁.go⟩)
    dsimp only at n1
    have hp:Pend c₁ loc σ' c₂ s'.1 s'.2 v':=(waits_iff.mp W₂).2.1 (s',v') (List.mem_iff_getElem?.mpr ⟨i,by rw [List.getElem?_zip_eq_some]; exact ⟨e1,e2⟩⟩)
    obtain ⟨so,sd⟩:=s'
    induction o using Own.casesOn with
    | sh=>exact n1 rfl
    | bor=>exact p₁
    | own=>
      obtain ⟨a,ob,rfl,_,ea⟩:=p₁.1.ref
      induction so using Own.casesOn with
      | sh=>exact n2 rfl
      | bor=>exact hp
      | own=>
        have:=(hp.2 a q.symm).1
        rw [ea] at this; exact nos this.symm
include evo Gx r V in
theorem ex_tupl {is:List Nat} {es:List E} {pes pvs:List Expr} {k k':Nat} {q q' p:Pos} {Q:Flow→Shared→Prop} (R:Rep φ loc σ c) (hn:nodup is=true) (h3:decide (is.length≤3)=true) (tn:TrN S is pes) (tl:TrL (TrE lv) S es pvs)
    (hc:pvs.all (foldedForSure 8)=true∨pvs.all (constantsAlone 8)=false) {ss:List Slot} {σ₁:St} (h1:evOs F es σ=some (ss,σ₁)) (h2:putAll is ss σ₁=some σ')
    (hQ:∀ c',Go φ loc σ c loc σ' c'→Q .next c'.s):wpAny (model prog w) A (exec (.Assign [.Tuple pes k q] (.Tuple pvs k' q') p) env) Q EE c.s:=by
  have hl:=putAll_len h2
  obtain ⟨l1,l2,hz⟩:=trN_zip tn
  have val:∀ {Q:Value→Shared→Prop},(∀ T vs c₁,Go φ loc σ c loc σ₁ c₁→Waits c loc σ₁ c₁ ss vs→c₁.s.heap.IsTuple T vs.toArray→Q (.ref T) c₁.s)→(hz:ss.length≤sizeLine)→
      wpAny (model prog w) A (eval (.Tuple pvs k' q') env) Q EE c.s:=by
    intro Q hq hz
    refine Tuple_ ?_
    rw [backTo_tr tl]
    refine evOs_ok evo Gx r V R tl h1 fun vs c₁ g₁ W₁=>wpAny_newTuple ?_ (by rw [← (waits_iff.mp W₁).1]; exact hz)
    have g:=g₁.go.trans (g₁.go.rep.ext (Ext.push c₁.s { cls:=.type "tuple",data:=.seq vs.toArray }))
    refine hq _ vs ⟨_,c₁.M,c₁.vs⟩ g (W₁.go (g₁.go.rep.ext (Ext.push c₁.s { cls:=.type "tuple",data:=.seq vs.toArray }))) ?_
    exact ⟨_,Heap.get?_push_size _ rfl,rfl,0,rfl⟩
  have sz:ss.length≤sizeLine:=by
    rw [← hl,sizeLine_eq]
    have:=of_decide_eq_true h3
    lia
  rw [exec_Assign_arm]
  refine wpAny_bind (wpAny_standAt ?_)
  rw [show swapsWithSole [.Tuple pes k q] (.Tuple pvs k' q') p.line env=pure false from rfl]
  refine wpAny_bind (wpAny_pure ?_)
  rw [if_neg (by decide)]
  refine wpAny_bind (val (fun T vs c₁ g₁ W₁ hT=>?_) sz)
  have hlen:=(waits_iff.mp W₁).1
  rcases swapped_cases (k:=k) (k':=k') (q:=q) (q':=q') (env:=env) tn hc with hw | hw
  · rw [hw]
    refine wpAny_bind (wpAny_pure ?_)
    show wpAny _ A (do assignAll (.ref T) ((assignEach [.Tuple pes k q] env).map (·.2)); pure .next) Q EE c₁.s
    refine wpAny_bind ?_
    show wpAny _ A (assign (.Tuple pes k q) env (.ref T)) _ EE c₁.s
    obtain ⟨e1,e2⟩:=assignEach_names (env:=env) tn
    refine wpAny_assign_Tuple r.1 hT (by rw [e1,List.size_toArray,← hlen,hl]) e2 fun h' he=>?_
    have x:Ext c₁.s { c₁.s with heap:=h' }:=⟨fun b o e=>he b o (fun q=>by rw [q,fresh_none] at e; exact nos e) e,rfl,rfl,Nat.le_refl _⟩
    exact storeAll_ok (c:=⟨_,c₁.M,c₁.vs⟩) V R (g₁.trans (g₁.rep.ext x)) tn h2 (by simpa using W₁.go (g₁.rep.ext x)) fun c' g' _=>wpAny_pure (hQ c' g')
  · rw [hw]
    refine wpAny_bind (wpAny_pure ?_)
    show wpAny _ A (do rule "assign.swapped-stores"; let items ← unpackItems (.ref T) (nmsOf pes).length none; assignInOrder ((nmsOf pes).reverse.map fun n=>bindName env n) items.reverse; pure .next) Q EE c₁.s
    refine wpAny_bind (wpAny_rule (wpAny_bind ?_))
    rw [show (nmsOf pes).length=vs.toArray.size by rw [List.size_toArray,← hlen,l1,hl]]
    refine wpAny_unpackItems_tuple r.1 hT fun h' he=>?_
    have x:Ext c₁.s { c₁.s with heap:=h' }:=⟨fun b o e=>he b o (fun q=>by rw [q,fresh_none] at e; exact nos e) e,rfl,rfl,Nat.le_refl _⟩
    have e1:((nmsOf pes).reverse.map fun n=>bindName env n)=(((nmsOf pes).zip is).reverse.map fun p=>bindName env p.1):=by
      rw [List.map_reverse,List.map_reverse]
      congr 1
      exact (map_zip_fst (by exact Nat.le_of_eq l1)).symm
    rw [e1]
    refine wpAny_bind ?_
    refine storeNames_ok (c:=⟨_,c₁.M,c₁.vs⟩) V R (g₁.trans (g₁.rep.ext x)) (ss:=ss.reverse) (fun p hp=>hz p (List.mem_reverse.mp hp)) ?_ (by simpa using (W₁.go (g₁.rep.ext x)).rev) fun c' g'=>wpAny_pure (hQ c' g')
    rw [List.map_reverse,show ((nmsOf pes).zip is).map (·.2)=is from List.map_snd_zip (by exact Nat.le_of_eq (id (Eq.symm l1)))]
    exact putAll_rev (nodup_iff hn) h2
end
end Mine
end
section
open PySem PySem.W PyProof.Rows
set_option autoImplicit false
namespace Mine
theorem At1.st {a:Addr} {s s':Shared} {M:Addr→Prop} (x:At1 a s s') (ma:M a):Step s.heap M (fun b=>b=a) s'.heap M (fun b=>b=a):=
  ⟨fun b o m e=>x.keep b o (fun q=>m (q ▸ ma)) e,fun b o m t e=>⟨x.keep b o t e,m⟩,fun b m=>.inl m,fun b t=>.inl t⟩
theorem realI_any {h:Heap} {k:Tok} {M:Addr→Prop} {j:Int} {kvs:List (Int × Value)} {es:List (Int × D)} (r:RealI h k M kvs es):kvs.any (fun e=>e.1=j)=es.any (fun e=>e.1=j):=by
  induction r using RealI.ind with | nil=>rfl | cons i _ _ _ _ _ _ ih=>exact congrArg (decide (i=j) || ·) ih
theorem realI_map {h:Heap} {k:Tok} {M:Addr→Prop} {j:Int} {v:Value} {d:D} (rv:Real h k M v d) {kvs:List (Int × Value)} {es:List (Int × D)} (r:RealI h k M kvs es) :
    RealI h k M (kvs.map fun e=>if e.1=j then (e.1,v) else e) (es.map fun e=>if e.1=j then (e.1,d) else e):=by
  induction r using RealI.ind with
  | nil=>exact .nil
  | cons i _ _ _ _ a r ih=>
    rw [List.map_cons,List.map_cons]
    by_cases q:i=j
    · rw [if_pos q,if_pos q]; exact .cons rv ih
    · rw [if_neg q,if_neg q]; exact .cons a ih
theorem realI_snoc {h:Heap} {k:Tok} {M:Addr→Prop} {j:Int} {v:Value} {d:D} (rv:Real h k M v d) {kvs:List (Int × Value)} {es:List (Int × D)} (r:RealI h k M kvs es) :
    RealI h k M (kvs++[(j,v)]) (es++[(j,d)]):=by
  induction r using RealI.ind with | nil=>exact .cons rv .nil | cons _ _ _ _ _ a r ih=>exact .cons a ih
theorem realI_set {h:Heap} {k:Tok} {M:Addr→Prop} {j:Int} {v:Value} {d:D} (rv:Real h k M v d) {kvs:List (Int × Value)} {es:List (Int × D)} (r:RealI h k M kvs es) :
    RealI h k M (stored kvs j v) (setKey es j d):=by
  delta stored setKey
  rw [realI_any r]
  split
  · exact realI_map rv r
  · exact realI_snoc rv r
theorem realI_len {h:Heap} {k:Tok} {M:Addr→Prop} {kvs:List (Int × Value)} {es:List (Int × D)} (r:RealI h k M kvs es):kvs.length=es.length:=by
  induction r using RealI.ind with | nil=>rfl | cons _ _ _ _ _ _ _ ih=>exact congrArg Nat.succ ih
inductive FlOK (c:Cf):Fl→Flow→Prop
  | next:FlOK c .next .next
  | ret {v:Value} {d:D}:Real c.s.heap c.s.toks c.M v d→FlOK c (.ret d) (.ret v)
noncomputable def FlInv (c:Cf) (f:Flow):Fl→Prop
  | .next=>f=.next
  | .ret d=>∃ v,f=.ret v∧Real c.s.heap c.s.toks c.M v d
theorem FlOK.inv {c:Cf} {fl:Fl} {f:Flow} (h:FlOK c fl f):FlInv c f fl:=by
  induction h using FlOK.casesOn with | next=>exact rfl | ret r=>exact ⟨_,rfl,r⟩
noncomputable def ExOK (F:Funs) (n:Nat):Prop:=∀ {lv:Nat} {φ:Fx} {loc:Locs} {σ:St} {c:Cf} {S:Sx} {env:Env} {A:Around} {s:Mine.S} {ps:Stmt} {fl:Fl} {σ':St} {Q:Flow→Shared→Prop} {E:Value→Shared→Prop},
  Gl φ.hT→Room n A→EnvOK φ S loc env→Rep φ loc σ c→TrS lv S s ps→F.ex s σ=some (fl,σ')→
  (∀ f c',Go φ loc σ c loc σ' c'→FlOK c' fl f→Q f c'.s)→wpAny (model prog w) A (exec ps env) Q E c.s
section
variable {lv:Nat} {F:Funs} {n:Nat} {φ:Fx} {loc:Locs} {σ σ':St} {c:Cf} {S:Sx} {env:Env} {A:Around} {EE:Value→Shared→Prop} {d:D}
theorem Rep.change (R:Rep φ loc σ c) {i:Nat} {o:Own} {d d':D} {a:Addr} {s':Shared} (e:σ.get i=some (o,d)) (ho:o≠.sh) (va:c.vs i=.ref a) (x:At1 a c.s s')
    (r:Step c.s.heap c.M (fun b=>b=a) s'.heap c.M (fun b=>b=a)→c.M a→OwnR s'.heap s'.toks c.M (.ref a) d'):Go φ loc σ c loc (σ.put i (o,d')) ⟨s',c.M,c.vs⟩:=by
  obtain ⟨L,hL,hv,z⟩:=R.vals i _ _ e
  obtain ⟨a',o',va',ma,ea⟩:=(SlotOK.root ho z).ref
  rw [va] at va'; obtain rfl:=Value.ref.inj va'
  refine R.root e ho va x (fun _ m=>m) (fun _ m=>.inl m) (fun b m=>?_) (r (x.st ma) ma)
  by_cases q:b=a
  · rw [q]; exact x.self
  · obtain ⟨o,e⟩:=R.stand b m; exact ⟨o,x.keep b o q e⟩
theorem set_ok (R:Rep φ loc σ c) {x:Nat} {xs xs' ix:D} {iv v:Value} (e:σ.get x=some (.own,xs)) (ri:Real c.s.heap c.s.toks c.M iv ix) (rv:Real c.s.heap c.s.toks c.M v d) (hs:setD xs ix d=some xs')
    {Q:Unit→Shared→Prop} (hQ:∀ c',Go φ loc σ c loc (σ.put x (.own,xs')) c'→c'.vs=c.vs→Q () c'.s):wpAny (model prog w) A (setItem (c.vs x) iv v) Q EE c.s:=by
  obtain ⟨L,hL,hv,z⟩:=R.vals x _ _ e
  generalize hvx:c.vs x=vx
  have z':OwnR c.s.heap c.s.toks c.M vx xs:=hvx ▸ z.1
  induction z' using OwnR.casesOn with
  | @list a vs ds n' ma l r zl=>
    obtain ⟨k,rfl,hs⟩:=set_list_inv hs
    obtain ⟨t,rfl⟩:=ri.inv
    obtain ⟨hc,rfl⟩:=iteS hs
    simp only [Bool.and_eq_true,decide_eq_true_eq] at hc
    obtain ⟨⟨h1,h2⟩,h3⟩:=hc
    have h1':k.natAbs < 2 ^ 63:=of_decide_eq_true h1
    refine ki_setAt l h2 (by lia) (by rw [List.size_toArray,r.len]; exact h3) ?_
    have hn:∃ n2,IsL (c.s.heap.update a (Obj.mapSeq (·.setIfInBounds k.toNat v))) a (vs.set k.toNat v).toArray n2:=by
      have:=Heap.get?_update_self (Obj.mapSeq (·.setIfInBounds k.toNat v)) l rfl
      rw [show (vs.set k.toNat v).toArray=vs.toArray.setIfInBounds k.toNat v by simp]
      exact ⟨_,this⟩
    obtain ⟨n2,hl⟩:=hn
    have x1:At1 a c.s { c.s with heap:=c.s.heap.update a (Obj.mapSeq (·.setIfInBounds k.toNat v)) }:=⟨fun b o hb e=>((Heap.SameBut.update ..).2 b hb).trans e,⟨_,hl⟩,rfl,rfl,Nat.le_refl _⟩
    exact hQ _ (R.change e (by decide) hvx x1 fun st ma=>.list ma hl ((r.mono st x1.toks).set _ (rv.mono st x1.toks)) (by rw [List.length_set]; exact zl)) rfl
  | @idict a kvs es ma na l r=>
    obtain ⟨k,rfl,hs⟩:=set_idict_inv hs
    obtain ⟨t,rfl⟩:=ri.inv
    obtain ⟨hlen,rfl⟩:=iteS hs
    refine wpAny_setItem_pairs (knd:=intKind prog w) (intKind_is prog w k t) l (fun h' hd sb=>?_) (by rw [realI_len r,sizeLine_eq]; lia)
    have x1:At1 a c.s { c.s with heap:=h',toks:=c.s.toks+1 }:=⟨fun b o hb e=>(sb.2 b hb).trans e,DictOf.some hd,rfl,rfl,Nat.le_succ _⟩
    exact hQ _ (R.change e (by decide) hvx x1 fun st ma=>.idict ma na hd (realI_set (rv.mono st x1.toks) (r.mono st x1.toks))) rfl
theorem app_ok (R:Rep φ loc σ c) {x:Nat} {o:Own} {ds:List D} {v:Value} (e:σ.get x=some (o,.list ds)) (ho:o≠.sh) (rv:Real c.s.heap c.s.toks c.M v d) (hz:ds.length < line)
    {Q:Value→Shared→Prop} (hQ:∀ u c',Go φ loc σ c loc (σ.put x (o,.list (ds++[d]))) c'→Q u c'.s):wpAny (model prog w) A (call (.builtin "list.append") [c.vs x,v]) Q EE c.s:=by
  obtain ⟨L,hL,hv,z⟩:=R.vals x _ _ e
  generalize hvx:c.vs x=vx
  have z':OwnR c.s.heap c.s.toks c.M vx (.list ds):=hvx ▸ SlotOK.root ho z
  cases z' with
  | @list a vs _ n' ma l r zl=>
    refine call_meets PySem.F.slot_list_append l.isList.typeIs PySem.F.entry_list_append (PySem.F.args_list_append_2 _ _) (list_append a vs.toArray n' v (by rw [List.size_toArray,r.len,sizeLine_eq]; rw [line_is] at hz; lia)) ?_
    refine ⟨l,?_⟩
    have hn:∃ n2,IsL (c.s.heap.update a (Obj.mapSeq fun xs=>xs.push v)) a (vs++[v]).toArray n2:=by
      have:=Heap.get?_update_self (Obj.mapSeq fun xs=>xs.push v) l rfl
      rw [show (vs++[v]).toArray=vs.toArray.push v by simp]
      exact ⟨_,this⟩
    obtain ⟨n2,hl⟩:=hn
    have x1:At1 a c.s { c.s with heap:=c.s.heap.update a (Obj.mapSeq fun xs=>xs.push v) }:=⟨fun b o hb e=>((Heap.SameBut.update ..).2 b hb).trans e,⟨_,hl⟩,rfl,rfl,Nat.le_refl _⟩
    exact hQ _ _ (R.change e ho hvx x1 fun st ma=>.list ma hl ((r.mono st x1.toks).append (.cons (rv.mono st x1.toks) .nil)) (by rw [List.length_append,List.length_singleton]; assumption))
theorem ext_ok (R:Rep φ loc σ c) {x:Nat} {o:Own} {ds es:List D} {v:Value} (e:σ.get x=some (o,.list ds)) (ho:o≠.sh) (rv:Real c.s.heap c.s.toks c.M v (.list es)) (hz:ds.length+es.length≤line)
    {Q:Value→Shared→Prop} (hQ:∀ u c',Go φ loc σ c loc (σ.put x (o,.list (ds++es))) c'→Q u c'.s):wpAny (model prog w) A (call (.builtin "list.extend") [c.vs x,v]) Q EE c.s:=by
  obtain ⟨L,hL,hv,z⟩:=R.vals x _ _ e
  generalize hvx:c.vs x=vx
  have z':OwnR c.s.heap c.s.toks c.M vx (.list ds):=hvx ▸ SlotOK.root ho z
  cases z' with
  | @list a vs _ n' ma l r zl=>
    obtain ⟨b,us,m',rfl,mb,lb,rb,zb⟩:=rv.inv
    rw [line_is] at hz
    have hsz:vs.toArray.size+us.toArray.size≤sizeLine:=by rw [List.size_toArray,List.size_toArray,r.len,rb.len,sizeLine_eq]; lia
    refine call_meets PySem.F.slot_list_extend l.isList.typeIs PySem.F.entry_list_extend (PySem.F.args_list_extend_2 _ _) (PySem.AutoSeq1.list_extend_list_list_0 a vs.toArray n' b us.toArray m' ?_ (by exact Nat.le_of_add_right_le hsz) (by exact Nat.le_add_right_of_le hsz)) ?_
    · rw [Bool.and_eq_true,not_and]
      intro _
      simp only [Builtin.List.listTooLong,decide_eq_true_eq]
      exact Nat.not_lt.mpr hsz
    refine ⟨l,lb,?_⟩
    have hn:∃ n2,IsL (c.s.heap.update a (Obj.mapSeq fun xs=>xs++us.toArray)) a (vs++us).toArray n2:=by
      have:=Heap.get?_update_self (Obj.mapSeq fun xs=>xs++us.toArray) l rfl
      rw [show (vs++us).toArray=vs.toArray++us.toArray by simp]
      exact ⟨_,this⟩
    obtain ⟨n2,hl⟩:=hn
    have x1:At1 a c.s { c.s with heap:=c.s.heap.update a (Obj.mapSeq fun xs=>xs++us.toArray) }:=⟨fun b o hb e=>((Heap.SameBut.update ..).2 b hb).trans e,⟨_,hl⟩,rfl,rfl,Nat.le_refl _⟩
    exact hQ _ _ (R.change e ho hvx x1 fun st ma=>.list ma hl ((r.mono st x1.toks).append (rb.mono st x1.toks)) (by rw [List.length_append,line_is]; assumption))
theorem assign_sub {M:Model} {o i:Expr} {pos:Pos} {v:Value} {s:Shared} {Q:Unit→Shared→Prop} (h:wpAny M A (eval o env) (fun ov s₂=>wpAny M A (eval i env) (fun iv s₃=>wpAny M A (setItem ov iv v) Q EE s₃) EE s₂) EE s) :
    wpAny M A (assign (.Subscript o i pos) env v) Q EE s:=by
  rw [assign_Subscript]
  exact wpAny_bind (wpAny_holding (wpAny_mono h (fun ov s₂ h₂=>wpAny_bind (wpAny_holding (wpAny_mono h₂ (fun iv s₃ h₃=>wpAny_bind (wpAny_standAt (wpAny_bind (wpAny_holding (wpAny_mono h₃ (fun _ _ q=>wpAny_release q) fun _ _ e=>e)))))
    fun _ _ e=>e))) fun _ _ e=>e))
theorem notComp_sw {pe:Expr} (h:notComp pe=true) (t:Option Expr) (l:Nat):swapsWith pe t l env=pure false:=by
  induction pe using Expr.casesOn <;> first | rfl | exact absurd h Bool.false_ne_true
theorem aug_store {pi:Expr} (h:notSlice pi=true) (ov iv new:Value):augStore pi ov iv new=(do holding [new,ov,iv] (setItem ov iv new); release [new,ov,iv] []; pure .next):=by
  induction pi using Expr.casesOn <;> first | rfl | exact absurd h Bool.false_ne_true
theorem swpL_len {x:Nat} {is:List E} {ds:List D} {σ σ':St} (h:swpL F x is ds σ=some σ'):is.length=ds.length:=by
  induction is,ds using two_ind generalizing σ with
  | nn=>rfl
  | nc=>exact nos h
  | cn=>exact nos h
  | cc i is d ds ih=>obtain ⟨_,_,_,_,_,_,_,_,_,_,h⟩:=swp_inv h; exact congrArg Nat.succ (ih h)
theorem trW_shape {x:Nat} {is:List E} {pts:List Expr} (t:TrW (TrE lv) S x is pts):(assignEach pts env).length=is.length∧(assignEach pts env).findIdx? (·.1)=none∧pts.length=is.length:=by
  induction t with
  | nil=>exact ⟨rfl,rfl,rfl⟩
  | cons _ _ _ _ ts ih=>
    obtain ⟨a,b,c⟩:=ih
    exact ⟨congrArg Nat.succ a,List.findIdx?_cons.trans (by rw [if_neg Bool.false_ne_true,b]; rfl),congrArg Nat.succ c⟩
theorem trW_filter {x:Nat} {f:Expr→Option Str} (hf:∀ a b p,f (.Subscript a b p)=none) {is:List E} {pts:List Expr} (t:TrW (TrE lv) S x is pts):pts.filterMap f=[]:=by
  induction t with
  | nil=>exact rfl
  | cons _ _ _ _ ts ih=>rw [List.filterMap_cons,hf]; exact ih
theorem swapped_none {x:Nat} {is:List E} {pts pvs:List Expr} {k k':Nat} {q q':Pos} (t:TrW (TrE lv) S x is pts):swappedStores [.Tuple pts k q] (.Tuple pvs k' q') env=pure none:=by
  delta swappedStores
  dsimp only
  rw [trW_filter (fun _ _ _=>rfl) t]
  split
  · rfl
  rename_i h1
  split
  · rfl
  split
  · rfl
  rename_i h3
  exfalso
  induction pts using List.casesOn with
  | nil=>simp at h1
  | cons _ _=>simp at h3
variable (ev:EvOK F n) (Gx:Gl φ.hT) (r:Room n A) (V:EnvOK φ S loc env)
include ev Gx r V
theorem swp_ok {x:Nat} {Q:Unit→Shared→Prop}:∀ {is:List E} {pts:List Expr} {ds:List D} {vs:List Value} {σ σ':St} {c:Cf} (R:Rep φ loc σ c) (t:TrW (TrE lv) S x is pts) (h:swpL F x is ds σ=some σ') (rl:RealL c.s.heap c.s.toks c.M vs ds)
    (hQ:∀ c',Go φ loc σ c loc σ' c'→Q () c'.s),wpAny (model prog w) A (assignInOrder ((assignEach pts env).map (·.2)) vs) Q EE c.s:=by
  intro is
  induction is with
  | nil=>
    intro pts ds vs σ σ' c R t h rl hQ
    obtain rfl:=t.inv
    induction ds using List.casesOn with
    | cons _ _=>exact nos h
    | nil=>
    obtain rfl:=some1 h
    exact wpAny_pure (hQ c (.refl R))
  | cons i is ih=>
    intro pts ds vs σ σ' c R t h rl hQ
    obtain ⟨x',q,p,pe,pts,rfl,hx,hn,hsl,te,ts⟩:=t.inv
    induction ds using List.casesOn with
    | nil=>exact nos h
    | cons d ds=>
    obtain ⟨s0o,s0d,iv,σ₁,xs,xs',h0,h1,h2,h3,h⟩:=swp_inv h
    obtain ⟨_,_,rfl,rd,rl⟩:=rl.inv
    refine wpAny_bind (wpAny_holding (assign_sub (wpAny_Name (load_ok V R hx h0 (nmOk_iff hn).2 ?_) (nmOk_iff hn).1)))
    refine ev Gx r V R te h1 fun ivv c₁ g₁ ri=>?_
    obtain ⟨L,hL,_⟩:=V.vars _ x hx
    rw [← g₁.vs x L hL]
    refine set_ok g₁.go.rep h2 ri (g₁.go.real rd) h3 fun c₂ g₂ _=>?_
    exact ih g₂.rep ts h ((g₁.go.trans g₂).realL rl) fun c₃ g₃=>hQ c₃ ((g₁.go.trans g₂).trans g₃)
variable (R:Rep φ loc σ c)
include R
theorem lm_ok {i:Nat} {e:E} {x:Str} {q ap cp p:Pos} {nm:Str} {mid:String} {pe:Expr} {o:Own} {l0:List D} {σ₁:St} {Q:Flow→Shared→Prop} (hx:S.vars.lookup x=some i) (hn:nmOk x=true) (hline:(ap.endLine == cp.line)=true) (t:TrE lv S e pe)
    (hsl:PySem.Slot "list" nm mid) (hty:typeOf (.builtin mid)=pure (.type "method_descriptor")) (h0:σ.get i=some (o,.list l0)) (h1:F.ev e σ=some (d,σ₁))
    (hQ:∀ v c₁,Ge φ loc σ c σ₁ c₁→Real c₁.s.heap c₁.s.toks c₁.M v d→wpAny (model prog w) A (call (.builtin mid) [c₁.vs i,v]) (fun _ s'=>Q .next s') EE c₁.s) :
    wpAny (model prog w) A (exec (.Expr (.Call (.Attribute (.Name x q) nm ap) [pe] [] cp) p) env) Q EE c.s:=by
  have hi:interactive env=false:=by delta interactive; rw [show env.scope.kind=.function from V.kind]; rfl
  refine wpAny_Expr_any ?_ hi rfl
  refine wpAny_Call_method_late rfl ?_ hline rfl ?_
  · rw [starEach_cons t]; rfl
  refine wpAny_Name (load_ok V R hx h0 (nmOk_iff hn).2 ?_) (nmOk_iff hn).1
  obtain ⟨L,hL,_,sl⟩:=R.vals i _ _ h0
  have hl:∃ a vs n',c.vs i=.ref a∧IsL c.s.heap a vs n':=by
    induction o using Own.casesOn with
    | sh=>
      have sl:Real c.s.heap c.s.toks c.M (c.vs i) (.list l0):=sl
      generalize c.vs i=u at sl
      obtain ⟨_,_,_,rfl,_,l,_,_⟩:=sl.inv; exact ⟨_,_,_,rfl,l⟩
    | own=>
      have sl:=sl.1
      generalize c.vs i=u at sl
      obtain ⟨_,_,_,rfl,_,l,_,_⟩:=sl.inv; exact ⟨_,_,_,rfl,l⟩
    | bor=>
      have sl:=sl.1
      generalize c.vs i=u at sl
      obtain ⟨_,_,_,rfl,_,l,_,_⟩:=sl.inv; exact ⟨_,_,_,rfl,l⟩
  obtain ⟨a,vs,n',hv,l⟩:=hl
  refine ⟨"list",mid,PySem.F.plainAttrs_list,hsl,hty,by rw [hv]; exact l.isList.typeIs,fun b q=>by rw [hv] at q; obtain rfl:=Value.ref.inj q; exact ⟨_,l,rfl⟩,?_⟩
  obtain ⟨L,hL,_⟩:=V.vars x i hx
  refine callWith_method1 ?_ (starEach_cons t _) ?_
  · rw [backTo_tr (.cons t .nil)]
    refine Calls.spliced_cons (ev Gx r V R t h1 fun v c₁ g₁ rv=>Calls.spliced_nil ?_)
    rw [← g₁.vs i L hL]
    exact hQ v c₁ g₁ rv
  · rfl
theorem ex_app {i:Nat} {e:E} {x:Str} {q ap cp p:Pos} {nm:Str} {pe:Expr} {fl:Fl} {Q:Flow→Shared→Prop} (hx:S.vars.lookup x=some i) (hn:nmOk x=true) (hnm:nm=("append" : Str)) (hline:(ap.endLine == cp.line)=true) (t:TrE lv S e pe)
    (h:stepX F (.app i e) σ=some (fl,σ')) (hQ:∀ f c',Go φ loc σ c loc σ' c'→FlOK c' fl f→Q f c'.s) :
    wpAny (model prog w) A (exec (.Expr (.Call (.Attribute (.Name x q) nm ap) [pe] [] cp) p) env) Q EE c.s:=by
  subst hnm
  obtain ⟨h0,h⟩:=iteN h
  obtain ⟨o,l0,h0⟩:=isLst_is h0
  obtain ⟨⟨d,σ₁⟩,h1,h⟩:=bs h
  obtain ⟨o,ds,h2,h3,hz,rfl,rfl⟩:=app_inv h
  refine lm_ok ev Gx r V R hx hn hline t PySem.F.slot_list_append PySem.F.type_list_append h0 h1 fun v c₁ g₁ rv=>?_
  exact app_ok g₁.go.rep h2 h3 rv hz fun u c' g=>hQ .next c' (g₁.go.trans g) .next
theorem ex_ext {i:Nat} {e:E} {x:Str} {q ap cp p:Pos} {nm:Str} {pe:Expr} {fl:Fl} {Q:Flow→Shared→Prop} (hx:S.vars.lookup x=some i) (hn:nmOk x=true) (hnm:nm=("extend" : Str)) (hline:(ap.endLine == cp.line)=true) (t:TrE lv S e pe)
    (h:stepX F (.ext i e) σ=some (fl,σ')) (hQ:∀ f c',Go φ loc σ c loc σ' c'→FlOK c' fl f→Q f c'.s) :
    wpAny (model prog w) A (exec (.Expr (.Call (.Attribute (.Name x q) nm ap) [pe] [] cp) p) env) Q EE c.s:=by
  subst hnm
  obtain ⟨h0,h⟩:=iteN h
  obtain ⟨o,l0,h0⟩:=isLst_is h0
  obtain ⟨⟨d,σ₁⟩,h1,h⟩:=bs h
  obtain ⟨ys,hy,h⟩:=bs h
  obtain rfl:=lst_is hy
  obtain ⟨o,ds,h2,h3,hz,rfl,rfl⟩:=ext_inv h
  refine lm_ok ev Gx r V R hx hn hline t PySem.F.slot_list_extend PySem.F.type_list_extend h0 h1 fun v c₁ g₁ rv=>?_
  exact ext_ok g₁.go.rep h2 h3 rv hz fun u c' g=>hQ .next c' (g₁.go.trans g) .next
theorem ex_put {i:Nat} {ie e:E} {x:Str} {q rp p:Pos} {pi pe:Expr} {fl:Fl} {Q:Flow→Shared→Prop} (hx:S.vars.lookup x=some i) (hn:nmOk x=true) (hns:notSlice pi=true) (hnc:notComp pe=true) (ti:TrE lv S ie pi) (t:TrE lv S e pe)
    (h:stepX F (.put i ie e) σ=some (fl,σ')) (hQ:∀ f c',Go φ loc σ c loc σ' c'→FlOK c' fl f→Q f c'.s) :
    wpAny (model prog w) A (exec (.Assign [.Subscript (.Name x q) pi rp] pe p) env) Q EE c.s:=by
  obtain ⟨⟨d,σ₁⟩,h1,h⟩:=bs h
  obtain ⟨σ₂,h2,h⟩:=ms h
  obtain ⟨rfl,rfl⟩:=Prod.mk.inj h
  obtain ⟨s0o,s0d,iv,σ₃,xs,xs',h0,h3,h4,h5,h2⟩:=swp_inv h2
  obtain rfl:=some1 h2
  refine wpAny_Assign_Subscript ?_ (notComp_sw hnc _ _)
  refine ev Gx r V R t h1 fun v c₁ g₁ rv=>?_
  refine wpAny_Name (load_ok V g₁.go.rep hx h0 (nmOk_iff hn).2 ?_) (nmOk_iff hn).1
  refine ev Gx r V g₁.go.rep ti h3 fun ivv c₂ g₂ ri=>?_
  obtain ⟨L,hL,_⟩:=V.vars x i hx
  rw [← g₂.vs i L hL]
  exact set_ok g₂.go.rep h4 ri (g₂.go.real rv) h5 fun c₃ g₃ _=>hQ .next c₃ ((g₁.go.trans g₂.go).trans g₃) .next
theorem ex_swp {x:Nat} {is es:List E} {pts pvs:List Expr} {k k':Nat} {q q' p:Pos} {fl:Fl} {Q:Flow→Shared→Prop} (h3:decide (is.length≤3)=true) (tw:TrW (TrE lv) S x is pts) (tl:TrL (TrE lv) S es pvs)
    (h:stepX F (.swp x is es) σ=some (fl,σ')) (hQ:∀ f c',Go φ loc σ c loc σ' c'→FlOK c' fl f→Q f c'.s) :
    wpAny (model prog w) A (exec (.Assign [.Tuple pts k q] (.Tuple pvs k' q') p) env) Q EE c.s:=by
  obtain ⟨⟨ds,σ₁⟩,h1,h⟩:=bs h
  obtain ⟨σ₂,h2,h⟩:=ms h
  obtain ⟨rfl,rfl⟩:=Prod.mk.inj h
  have hl:=swpL_len h2
  obtain ⟨a1,a2,a3⟩:=trW_shape (env:=env) tw
  rw [exec_Assign_arm]
  refine wpAny_bind (wpAny_standAt ?_)
  rw [show swapsWithSole [.Tuple pts k q] (.Tuple pvs k' q') p.line env=pure false from rfl]
  refine wpAny_bind (wpAny_pure ?_)
  rw [if_neg (by decide)]
  refine wpAny_bind (Tuple_ ?_)
  rw [backTo_tr tl]
  have h3':=of_decide_eq_true h3
  refine evs_ok ev Gx r V R tl h1 fun vs c₁ g₁ r₁=>wpAny_newTuple ?_ (by rw [r₁.len,sizeLine_eq]; lia)
  have gx:=g₁.go.rep.ext (Ext.push c₁.s { cls:=.type "tuple",data:=.seq vs.toArray })
  rw [swapped_none tw]
  refine wpAny_bind (wpAny_pure ?_)
  show wpAny _ A (do assignAll (.ref c₁.s.heap.objs.size) ((assignEach [.Tuple pts k q] env).map (·.2)); pure .next) Q EE _
  refine wpAny_bind ?_
  show wpAny _ A (assign (.Tuple pts k q) env (.ref c₁.s.heap.objs.size)) _ EE _
  refine wpAny_assign_Tuple (items:=vs.toArray) r.1 ⟨_,Heap.get?_push_size _ rfl,rfl,0,rfl⟩ (by rw [a1,List.size_toArray,r₁.len,← hl]) a2 fun h' he=>?_
  have x:Ext { c₁.s with heap:=c₁.s.heap.push { cls:=.type "tuple",data:=.seq vs.toArray } } { c₁.s with heap:=h' }:=⟨fun b o e=>he b o (fun q=>by rw [q,fresh_none] at e; exact nos e) e,rfl,rfl,Nat.le_refl _⟩
  have gy:=gx.trans (gx.rep.ext x)
  refine swp_ok ev Gx r V (c:=⟨{ c₁.s with heap:=h' },c₁.M,c₁.vs⟩) gy.rep tw h2 (by simpa using gy.realL r₁) fun c' g'=>wpAny_pure (hQ .next c' ((g₁.go.trans gy).trans g') .next)
theorem ex_aug {o:Op} {i:Nat} {e:E} {x:Str} {q p:Pos} {pe:Expr} {fl:Fl} {Q:Flow→Shared→Prop} (ho:o=.add∨o=.sub∨o=.mul) (hx:S.vars.lookup x=some i) (hlc:isLC (S.names.lookup x)=true) (hn:nmOk x=true) (t:TrE lv S e pe)
    (h:stepX F (.aug o i e) σ=some (fl,σ')) (hQ:∀ f c',Go φ loc σ c loc σ' c'→FlOK c' fl f→Q f c'.s) :
    wpAny (model prog w) A (exec (.AugAssign (.Name x q) (opOf o) pe p) env) Q EE c.s:=by
  obtain ⟨old,h0,h⟩:=bs h
  obtain ⟨⟨d,σ₁⟩,h1,h⟩:=bs h
  obtain ⟨rr,h2,h⟩:=ms h
  obtain ⟨rfl,rfl⟩:=Prod.mk.inj h
  obtain ⟨rd,h2,h3⟩:=bs h2
  have h0:=sh_is h0
  obtain rfl:=int_is h3
  obtain ⟨_,_,_,ro⟩:=R.vals i _ _ h0
  refine wpAny_AugAssign_Name (load_ok V R hx h0 (nmOk_iff hn).2 ?_)
  refine ev Gx r V R t h1 fun v c₁ g₁ rv=>?_
  refine inp_ok (g₁.go.real ro) rv h2 ho fun tk s' xt=>?_
  have g:=g₁.go.trans (g₁.go.rep.ext xt)
  exact store_ok (c:=⟨s',c₁.M,c₁.vs⟩) (o:=.sh) (d:=.int rr) V R g hx (isLC_nf hlc) (.int _ _) fun c' g' _ _ _ _=>hQ .next c' g' .next
theorem ex_augput {o:Op} {i:Nat} {ie e:E} {x:Str} {q rp p:Pos} {pi pe:Expr} {fl:Fl} {Q:Flow→Shared→Prop} (ho:o=.add∨o=.sub∨o=.mul) (hx:S.vars.lookup x=some i) (hn:nmOk x=true) (hns:notSlice pi=true) (ti:TrE lv S ie pi) (t:TrE lv S e pe)
    (h:stepX F (.augput o i ie e) σ=some (fl,σ')) (hQ:∀ f c',Go φ loc σ c loc σ' c'→FlOK c' fl f→Q f c'.s) :
    wpAny (model prog w) A (exec (.AugAssign (.Subscript (.Name x q) pi rp) (opOf o) pe p) env) Q EE c.s:=by
  obtain ⟨h0,h⟩:=iteN h
  obtain ⟨⟨s0o,s0d⟩,h0⟩:=Option.isSome_iff_exists.mp h0
  obtain ⟨⟨iv,σ₁⟩,h1,h⟩:=bs h
  obtain ⟨xs,h2,h⟩:=bs h
  obtain ⟨old,h3,h⟩:=bs h
  obtain ⟨⟨d,σ₂⟩,h4,h⟩:=bs h
  obtain ⟨rr,h5,h⟩:=bs h
  obtain ⟨xs2,h6,h⟩:=bs h
  obtain ⟨xs',h7,h⟩:=ms h
  obtain ⟨rfl,rfl⟩:=Prod.mk.inj h
  obtain ⟨rd,h5,h8⟩:=bs h5
  have h2:=own_is h2
  have h6:=own_is h6
  obtain rfl:=int_is h8
  obtain ⟨L,hL,_⟩:=V.vars x i hx
  refine wpAny_AugAssign_Subscript_any ?_ (aug_store hns)
  refine wpAny_Name (load_ok V R hx h0 (nmOk_iff hn).2 ?_) (nmOk_iff hn).1
  refine ev Gx r V R ti h1 fun ivv c₁ g₁ ri=>?_
  rw [← g₁.vs i L hL]
  obtain ⟨_,_,_,so⟩:=g₁.go.rep.vals i _ _ h2
  refine seen_idx (.inr so.1) ri h3 fun ov s' xt ro=>?_
  have g':=g₁.ext xt
  refine ev Gx r V (c:=⟨s',c₁.M,c₁.vs⟩) g'.go.rep t h4 fun v c₂ g₂ rv=>?_
  refine inp_ok (g₂.go.real ro) rv h5 ho fun tk s'' xt2=>?_
  have g'':=g₂.ext xt2
  have e1:c₁.vs i=(⟨s'',c₂.M,c₂.vs⟩ : Cf).vs i:=(g₂.vs i L hL).symm
  rw [e1]
  exact set_ok (c:=⟨s'',c₂.M,c₂.vs⟩) (v:=.int rr tk) (d:=.int rr) g''.go.rep h6 ((ri.ext xt |> g₂.go.real).ext xt2) (.int _ _) h7 fun c₃ g₃ _=>hQ .next c₃ ((g'.go.trans g''.go).trans g₃) .next
end
end Mine
end
section
open PySem PySem.W PyProof.Rows
set_option autoImplicit false
namespace Mine
section
variable {lv:Nat} {F:Funs} {n:Nat} {φ:Fx} {loc:Locs} {σ σ':St} {c:Cf} {S:Sx} {env:Env} {A:Around} {EE:Value→Shared→Prop} {d:D} {fl:Fl} {Q:Flow→Shared→Prop}
variable (Gx:Gl φ.hT) (r:Room n A) (V:EnvOK φ S loc env)
include Gx r V
theorem exs_ok (ex:ExOK F n):∀ {ss:List Mine.S} {pss:List Stmt} {σ:St} {c:Cf} (R:Rep φ loc σ c) (t:TrSs (TrS lv) S ss pss) (h:exs F ss σ=some (fl,σ')) {Q:Flow→Shared→Prop}
    (hQ:∀ f c',Go φ loc σ c loc σ' c'→FlOK c' fl f→Q f c'.s),wpAny (model prog w) A (execs pss env) Q EE c.s:=by
  intro ss
  induction ss with
  | nil=>intro pss σ c R t h Q hQ; obtain rfl:=t.inv; obtain ⟨rfl,rfl⟩:=some2 h; exact wpAny_execs_nil (hQ .next c (.refl R) .next)
  | cons s ss ih=>
    intro pss σ c R t h Q hQ
    obtain ⟨_,_,rfl,t,ts⟩:=t.inv
    rcases thenX_inv h with ⟨σ₁,h1,h⟩ | ⟨d,h1,rfl⟩
    · refine wpAny_execs_cons (ex Gx r V R t h1 fun f c₁ g₁ fo=>?_)
      obtain rfl:=fo.inv
      exact ih g₁.rep ts h fun f c₂ g₂ fo=>hQ f c₂ (g₁.trans g₂) fo
    · refine wpAny_execs_cons (ex Gx r V R t h1 fun f c₁ g₁ fo=>?_)
      obtain ⟨v,rfl,rv⟩:=fo.inv
      exact hQ _ c₁ g₁ (.ret rv)
variable (R:Rep φ loc σ c) (hQ:∀ f c',Go φ loc σ c loc σ' c'→FlOK c' fl f→Q f c'.s)
include R hQ
theorem ex_asg (evo:EvoOK F n) {i:Nat} {e:E} {x:Str} {q p:Pos} {pe:Expr} (hx:S.vars.lookup x=some i) (hlc:isLC (S.names.lookup x)=true) (hnc:notComp pe=true) (t:TrE lv S e pe) (h:stepX F (.asg i e) σ=some (fl,σ')) :
    wpAny (model prog w) A (exec (.Assign [.Name x q] pe p) env) Q EE c.s:=by
  obtain ⟨⟨o,d,σ₁⟩,h1,h⟩:=ms h
  obtain ⟨rfl,rfl⟩:=Prod.mk.inj h
  refine wpAny_Assign_Name ?_ (notComp_sw hnc _ _)
  exact evo Gx r V R t h1 fun v c₁ g₁ p₁=>store_ok V R g₁.go hx (isLC_nf hlc) p₁ fun c' g' _ _ _ _=>hQ .next c' g' .next
theorem ex_asg2 (ev:EvOK F n) {i j:Nat} {e:E} {x y:Str} {q rp p:Pos} {pe:Expr} (hx:S.vars.lookup x=some i) (hlc:isLC (S.names.lookup x)=true) (hy:S.vars.lookup y=some j) (hlc':isLC (S.names.lookup y)=true) (t:TrE lv S e pe)
    (h:stepX F (.asg2 i j e) σ=some (fl,σ')):wpAny (model prog w) A (exec (.Assign [.Name x q,.Name y rp] pe p) env) Q EE c.s:=by
  obtain ⟨⟨d,σ₁⟩,h1,h⟩:=ms h
  obtain ⟨rfl,rfl⟩:=Prod.mk.inj h
  refine wpAny_Assign_two ?_ rfl rfl
  refine ev Gx r V R t h1 fun v c₁ g₁ rv=>?_
  refine wpAny_assign_Name (store_ok (o:=.sh) (d:=d) V g₁.go.rep (.refl g₁.go.rep) hx (isLC_nf hlc) rv fun c₂ g₂ _ _ _ _=>?_)
  exact wpAny_assign_Name (store_ok (o:=.sh) (d:=d) V g₂.rep (.refl g₂.rep) hy (isLC_nf hlc') (g₂.real rv) fun c₃ g₃ _ _ _ _=>hQ .next c₃ ((g₁.go.trans g₂).trans g₃) .next)
theorem ex_unpk (ev:EvOK F n) {is:List Nat} {e:E} {pes:List Expr} {k:Nat} {q p:Pos} {pe:Expr} (hs:∀ env,swappedStores [.Tuple pes k q] pe env=pure none) (hn:nodup is=true) (tn:TrN S is pes) (t:TrE lv S e pe)
    (h:stepX F (.unpk is e) σ=some (fl,σ')):wpAny (model prog w) A (exec (.Assign [.Tuple pes k q] pe p) env) Q EE c.s:=by
  obtain ⟨⟨d,σ₁⟩,h1,h⟩:=bs h
  obtain ⟨σ₂,h2,h⟩:=ms h
  obtain ⟨rfl,rfl⟩:=Prod.mk.inj h
  obtain ⟨ds,rfl,h2⟩:=bt_inv h2
  refine wpAny_Assign_stores ?_ (by cases pe <;> rfl) (hs env)
  refine ev Gx r V R t h1 fun v c₁ g₁ rv=>?_
  show wpAny _ A (assign (.Tuple pes k q) env v) _ EE c₁.s
  exact assign_ok r V g₁.go.rep (.t hn tn) rv h2 fun c₂ g₂ _=>hQ .next c₂ (g₁.go.trans g₂) .next
theorem ex_ret (ev:EvOK F n) {e:E} {p:Pos} {pe:Expr} (t:TrE lv S e pe) (h:stepX F (.ret e) σ=some (fl,σ')):wpAny (model prog w) A (exec (.Return (some pe) p) env) Q EE c.s:=by
  obtain ⟨⟨d,σ₁⟩,h1,h⟩:=ms h
  obtain ⟨rfl,rfl⟩:=Prod.mk.inj h
  exact wpAny_Return_some (ev Gx r V R t h1 fun v c₁ g₁ rv=>hQ _ c₁ g₁.go (.ret rv))
theorem ex_ite (evt:EvtOK F n) (ex:ExOK F n) {t:E} {b o:List Mine.S} {pt:Expr} {pb po:List Stmt} {p:Pos} (tt:TrT (TrE lv) S t pt) (tb:TrSs (TrS lv) S b pb) (to:TrSs (TrS lv) S o po) (h:stepX F (.ite t b o) σ=some (fl,σ')) :
    wpAny (model prog w) A (exec (.If pt pb po p) env) Q EE c.s:=by
  refine wpAny_If ?_
  obtain ⟨⟨b₁,σ₁⟩,h1,h⟩:=bs h
  induction b₁ using Bool.casesOn with
  | true=>
    refine evt Gx r V R tt h1 fun c₁ g₁=>?_
    rw [if_pos rfl]
    exact exs_ok Gx r V ex g₁.go.rep tb h fun f c₂ g₂ fo=>hQ f c₂ (g₁.go.trans g₂) fo
  | false=>
    refine evt Gx r V R tt h1 fun c₁ g₁=>?_
    rw [if_neg (by decide)]
    exact exs_ok Gx r V ex g₁.go.rep to h fun f c₂ g₂ fo=>hQ f c₂ (g₁.go.trans g₂) fo
theorem ex_tryb (ex:ExOK F n) {b:List Mine.S} {pb:List Stmt} {hh:ExceptHandler} {hs:List ExceptHandler} {p:Pos} (tb:TrSs (TrS lv) S b pb) (h:stepX F (.tryb b) σ=some (fl,σ')) :
    wpAny (model prog w) A (exec (.Try pb (hh :: hs) [] [] p) env) Q EE c.s:=by
  refine wpAny_Try_except (exs_ok Gx r V ex R tb h fun f c₁ g₁ fo=>?_)
  induction fo using FlOK.casesOn with
  | next=>exact wpAny_execs_nil (hQ .next c₁ g₁ .next)
  | ret rv=>exact hQ _ c₁ g₁ (.ret rv)
theorem ex_for (ev:EvOK F n) (ex:ExOK F n) {tg:Tg} {it:E} {b:List Mine.S} {ptg pit:Expr} {pb:List Stmt} {p:Pos} (hen:enOk [(tg,it,[])]=true) (hpl:plainIter pit) (tit:TrI (TrE lv) S it pit) (ttg:TrTg S tg ptg) (tb:TrSs (TrS lv) S b pb)
    (h:stepX F (.for tg it b) σ=some (fl,σ')):wpAny (model prog w) A (exec (.For ptg pit pb [] p) env) Q EE c.s:=by
  obtain ⟨⟨l,σ₁⟩,h1,h⟩:=bs h
  refine wpAny_For ?_ (hpl env)
  refine items_ok ev Gx r V R tit h1 fun itv c₁ P g₁ x₁ hP=>?_
  refine codeAny_forLoop_any (fun k s=>∃ (ds:List D) (σ₂:St) (c₂:Cf),s=c₂.s∧k=ds.length∧forL F tg b ds σ₂=some (fl,σ')∧Go φ loc σ c loc σ₂ c₂∧ItX c₂.s.heap c₂.s.toks c₂.M P itv (isEnum it) ds∧
    ∀ b,P b→c.s.heap.get? b=none∧¬ Touch loc σ₂ c₂.vs b) (fun k s hI=>?_) l.length ⟨l,σ₁,c₁,rfl,rfl,h,g₁.go,x₁,hP⟩
  clear h h1 g₁ x₁ hP
  obtain ⟨ds,σ₂,c₂,rfl,rfl,h,g,x,hP⟩:=hI
  have subP:=x.sub
  refine itx_next (ptg:=ptg) r.1 g.rep.stand x (fun e=>?_) (fun d ds' v s₁ hds hgo=>?_) (fun s₁ hds x₁=>?_)
  · obtain ⟨is,q⟩:=enOk_ok hen _ List.mem_cons_self e
    dsimp only at q; subst q; cases ttg; rfl
  · subst hds
    obtain ⟨σ₃,h2,h⟩:=bs h
    refine hgo _ _ fun s₂ x₂ self real itx=>?_
    have S₂:Stand s₂.heap c₂.M:=fun b m=>by
      by_cases p:P b
      · exact self b p
      · obtain ⟨o,e⟩:=g.rep.stand b m; exact ⟨o,x₂.keep b o p e⟩
    have g₂:=((g.y (Y:=fun _=>False)).pend R subP (fun b p=>(hP b p).1) (fun b p=>(hP b p).2) x₂ (fun _ m=>m) (fun _ m _=>m) S₂).go fun _ f=>f
    refine assign_ok (c:=⟨s₂,c₂.M,c₂.vs⟩) r V g₂.rep ttg real h2 fun c₃ g₃ _=>?_
    rcases thenX_inv h with ⟨σ₄,h3,h⟩ | ⟨dr,h3,rfl⟩
    · refine exs_ok Gx r V ex g₃.rep tb h3 fun f c₄ g₄ fo=>?_
      obtain rfl:=fo.inv
      have g₅:=g₃.trans g₄
      exact ⟨ds'.length,Nat.lt_succ_self _,ds',σ₄,c₄,rfl,rfl,h,g₂.trans g₅,itx.mono g₅.step g₅.toks (fun b p t=>(hP b p).2 t),fun b p=>⟨(hP b p).1,not_touch' g₅ (subP b p) g₂.rep (hP b p).2⟩⟩
    · refine exs_ok Gx r V ex g₃.rep tb h3 fun f c₄ g₄ fo=>?_
      obtain ⟨v,rfl,rv⟩:=fo.inv
      exact hQ _ c₄ (g₂.trans (g₃.trans g₄)) (.ret rv)
  · subst hds
    obtain ⟨rfl,rfl⟩:=some2 h
    have S₂:Stand s₁.heap (fun b=>c₂.M b∧¬ P b):=fun b m=>by
      obtain ⟨o,e⟩:=g.rep.stand b m.1; exact ⟨o,x₁.keep b o m.2 e⟩
    have g₂:=((g.y (Y:=fun _=>False)).pend R subP (fun b p=>(hP b p).1) (fun b p=>(hP b p).2) x₁ (M':=fun b=>c₂.M b∧¬ P b) (fun _ m=>m.1) (fun _ m n=>⟨m,n⟩) S₂).go fun _ f=>f
    exact wpAny_execs_nil (hQ .next ⟨s₁,_,c₂.vs⟩ g₂ .next)
end
section
variable {lv:Nat} {P:List (Nat × FnDef)} {m:Nat} {φ:Fx} {loc:Locs} {σ σ':St} {c:Cf} {S:Sx} {env:Env} {A:Around} {EE:Value→Shared→Prop} {fl:Fl} {Q:Flow→Shared→Prop}
theorem ex_whl (good:∀ k,k < m→EvtOK (Ev P k) k∧ExOK (Ev P k) k) (Gx:Gl φ.hT) (r:Room m A) (V:EnvOK φ S loc env) (R:Rep φ loc σ c) {t:E} {b:List Mine.S} {pt:Expr} {pb:List Stmt} {p:Pos}
    (tt:TrT (TrE lv) S t pt) (tb:TrSs (TrS lv) S b pb) (h:(Ev P m).ex (.whl t b) σ=some (fl,σ')) (hQ:∀ f c',Go φ loc σ c loc σ' c'→FlOK c' fl f→Q f c'.s) :
    wpAny (model prog w) A (exec (.While pt pb [] p) env) Q EE c.s:=by
  refine wpAny_While ?_
  refine codeAny_whileLoop (fun k s=>∃ (σ₁:St) (c₁:Cf),s=c₁.s∧k≤m∧(Ev P k).ex (.whl t b) σ₁=some (fl,σ')∧Go φ loc σ c loc σ₁ c₁) (fun k s hI=>?_) m ⟨σ,c,rfl,Nat.le_refl _,h,.refl R⟩
  clear h
  obtain ⟨σ₁,c₁,rfl,hk,h,g⟩:=hI
  induction k using Nat.casesAuxOn with
  | zero=>exact nos h
  | succ k=>
    have h':stepX (Ev P k) (.whl t b) σ₁=some (fl,σ'):=h
    obtain ⟨evt,ex⟩:=good k (by assumption)
    have rk:=r.weaken (show k≤m by exact Nat.le_of_succ_le hk)
    obtain ⟨⟨b₁,σ₂⟩,h1,h'⟩:=bs h'
    induction b₁ using Bool.casesOn with
    | true=>
      refine evt Gx rk V g.rep tt h1 fun c₂ g₂=>?_
      rw [if_pos rfl]
      rcases thenX_inv h' with ⟨σ₃,h2,h'⟩ | ⟨d,h2,rfl⟩
      · refine exs_ok Gx rk V ex g₂.go.rep tb h2 fun f c₃ g₃ fo=>?_
        obtain rfl:=fo.inv
        exact ⟨k,Nat.lt_succ_self _,σ₃,c₃,rfl,by exact Nat.le_of_succ_le hk,h',(g.trans g₂.go).trans g₃⟩
      · refine exs_ok Gx rk V ex g₂.go.rep tb h2 fun f c₃ g₃ fo=>?_
        obtain ⟨v,rfl,rv⟩:=fo.inv
        exact hQ _ c₃ ((g.trans g₂.go).trans g₃) (.ret rv)
    | false=>
      obtain ⟨rfl,rfl⟩:=some2 h'
      refine evt Gx rk V g.rep tt h1 fun c₂ g₂=>?_
      rw [if_neg (by decide)]
      exact wpAny_execs_nil (hQ .next c₂ (g.trans g₂.go) .next)
theorem ex_step {n:Nat} (good:∀ k,k < n+1→EvtOK (Ev P k) k∧ExOK (Ev P k) k) (gev:∀ k,k < n+1→EvOK (Ev P k) k) (evo:EvoOK (Ev P n) n):ExOK (Ev P (n+1)) (n+1):=by
  intro lv φ loc σ c S env A s ps fl σ' Q EE Gx r' V R t h hQ
  have r:=r'.weaken (Nat.le_succ n)
  obtain ⟨evt,ex⟩:=good n (Nat.lt_succ_self n)
  have ev:EvOK (Ev P n) n:=gev n (Nat.lt_succ_self n)
  have h':stepX (Ev P n) s σ=some (fl,σ'):=h
  obtain ⟨lv,u⟩:=t.out
  clear t
  induction u using TrS1.casesOn with
  | app a b c d e=>exact ex_app ev Gx r V R a b c d e h' hQ
  | ext a b c d e=>exact ex_ext ev Gx r V R a b c d e h' hQ
  | asg a b c d e=>exact ex_asg Gx r V R hQ evo a b d e h'
  | asgC a b c t=>
    obtain ⟨⟨o,d,σ₁⟩,h1,h'⟩:=ms h'
    obtain ⟨rfl,rfl⟩:=Prod.mk.inj h'
    obtain ⟨_,u⟩:=t.out
    cases u with | comp k1 k2 k3 k4 k5 k6 k7 k8=>
    have hF:∃ n',n=n'+1:=by
      induction n using Nat.casesAuxOn with
      | zero=>exact nos h1
      | succ n'=>exact ⟨n',rfl⟩
    obtain ⟨n',rfl⟩:=hF
    obtain ⟨⟨ds,σe⟩,h2,h3⟩:=ms (show (compG (Ev P n') _ _ σ []).map _=some _ from h1)
    obtain ⟨rfl,rfl,rfl⟩:=pm3 h3
    exact ex_asgC (gev n' (by lia)) (good n' (by lia)).1 Gx (r.weaken (Nat.le_succ n')) V R k1 k2 k3 k4 k5 k6 k7 k8 a b h2 fun c' g=>hQ .next c' g .next
  | asg2 a b c d e f t=>exact ex_asg2 Gx r V R hQ ev a b c d t h'
  | unpk a b c t=>exact ex_unpk Gx r V R hQ ev a b c t h'
  | tupl a b tn tl hc=>
    obtain ⟨⟨ss,σ₁⟩,h1,h'⟩:=bs h'
    obtain ⟨σ₂,h2,h'⟩:=ms h'
    obtain ⟨rfl,rfl⟩:=Prod.mk.inj h'
    exact ex_tupl evo Gx r V R a b tn tl hc h1 h2 fun c' g=>hQ .next c' g .next
  | swp a b t=>exact ex_swp ev Gx r V R a b t h' hQ
  | put a b c d e t=>exact ex_put ev Gx r V R a b c d e t h' hQ
  | aug a b c d e t=>subst a; exact ex_aug ev Gx r V R b c d e t h' hQ
  | augput a b c d e f t=>subst a; exact ex_augput ev Gx r V R b c d e f t h' hQ
  | ite a b c=>exact ex_ite Gx r V R hQ evt ex a b c h'
  | whl a b=>exact ex_whl good Gx r' V R a b h hQ
  | «for» a b c d e=>exact ex_for Gx r V R hQ ev ex a b c d e h'
  | ret t=>exact ex_ret Gx r V R hQ ev t h'
  | tryb t=>exact ex_tryb Gx r V R hQ ex t h'
end
end Mine
end
section
open PySem PySem.W PyProof.Rows
set_option autoImplicit false
namespace Mine
noncomputable def ckFn (S:Sx) (scope:Scope) (np nv:Nat) (ps:List Str):Bool:=
  (S.names == scope.names) && (S.nv == nv) && decide (S.top≤S.nv) && S.vars.all (fun p=>isLC (scope.names.lookup p.1) && decide (p.2 < S.top)) && nodup (S.vars.map (·.1)) && nodup (S.vars.map (·.2)) &&
  nodup (scope.names.map (·.1)) && (ps.length == np) && nodup ps && decide (np≤nv) && decide (0 < np) && (ps.zip (List.range np)).all (fun p=>S.vars.lookup p.1 == some p.2)
structure TrF (f:FnDef) (fd:FuncData) (S:Sx) (body:List Stmt) (ps:List Str):Prop where
  kind:fd.scope.kind=.function
  co:fd.scope.isCoroutine=false
  gen:fd.scope.isGenerator=false
  hbody:fd.body=.stmts body
  clo:fd.closure=[]
  g:fd.globals=mainGlobals
  b:fd.builtins=builtinsNs
  chk:ckFn S fd.scope f.np f.nv ps=true
  bind:∀ vals:List Value,vals.length=f.np→bindArgs fd ⟨vals,[]⟩ = pure (ps.zip vals)
  tr:TrSs (TrS 40) S f.body body
structure CkF (S:Sx) (scope:Scope) (np nv:Nat) (ps:List Str):Prop where
  names:S.names=scope.names
  hnv:S.nv=nv
  top:S.top≤S.nv
  vars:∀ x i,(x,i)∈S.vars→isLC (scope.names.lookup x)=true∧i < S.top
  nd1:(S.vars.map (·.1)).Nodup
  nd2:(S.vars.map (·.2)).Nodup
  nd3:(scope.names.map (·.1)).Nodup
  len:ps.length=np
  ndp:ps.Nodup
  le:np≤nv
  pos:0 < np
  par:∀ i x,ps[i]? = some x→S.vars.lookup x=some i
theorem ckF_of {S:Sx} {scope:Scope} {np nv:Nat} {ps:List Str} (h:ckFn S scope np nv ps=true):CkF S scope np nv ps:=by
  unfold ckFn at h
  simp only [Bool.and_eq_true,List.all_eq_true,decide_eq_true_eq,beq_iff_eq] at h
  obtain ⟨⟨⟨⟨⟨⟨⟨⟨⟨⟨⟨h1,h2⟩,h3⟩,h4⟩,h5⟩,h6⟩,h7⟩,h8⟩,h9⟩,h10⟩,h11⟩,h12⟩:=h
  refine ⟨h1,h2,h3,fun x i m=>h4 (x,i) m,nodup_iff h5,nodup_iff h6,nodup_iff h7,h8,nodup_iff h9,h10,h11,fun i x e=>h12 (x,i) ?_⟩
  refine List.mem_iff_getElem?.mpr ⟨i,?_⟩
  rw [List.getElem?_zip_eq_some]
  refine ⟨e,?_⟩
  have hi:i < np:=by
    have:=(List.getElem?_eq_some_iff.mp e).1
    rw [h8] at this; exact this
  simp [hi]
theorem bindL_not {kindOf:Str→Option NameKind} {binds:List (Str × Value)} {m:Str→Option Value} {x:Str} (h:x ∉ binds.map (·.1)):bindL kindOf binds m x=m x:=by
  induction binds generalizing m with
  | nil=>rfl
  | cons p r ih=>
    obtain ⟨n,v⟩:=p
    rw [List.map_cons,List.mem_cons,not_or] at h
    unfold bindL
    rw [ih h.2]
    by_cases q:kindOf n=some .local
    · rw [if_pos q]; exact if_neg h.1
    · rw [if_neg q]
theorem bindL_at {kindOf:Str→Option NameKind} {binds:List (Str × Value)} {m:Str→Option Value} {x:Str} {v:Value} (hn:(binds.map (·.1)).Nodup) (h:(x,v)∈binds) (hk:kindOf x=some .local):bindL kindOf binds m x=some v:=by
  induction binds generalizing m with
  | nil=>exact absurd h List.not_mem_nil
  | cons p r ih=>
    obtain ⟨n,u⟩:=p
    rw [List.map_cons,List.nodup_cons] at hn
    unfold bindL
    rcases List.mem_cons.mp h with q | q
    · obtain ⟨rfl,rfl⟩:=Prod.mk.inj q
      rw [bindL_not hn.1,if_pos hk]; exact if_pos rfl
    · exact ih hn.2 q
theorem bindC_not {kindOf:Str→Option NameKind} {binds:List (Str × Value)} {m:Str→Option Value} {x:Str} (h:x ∉ binds.map (·.1)):bindC kindOf binds m x=m x:=by
  induction binds generalizing m with
  | nil=>rfl
  | cons p r ih=>
    obtain ⟨n,v⟩:=p
    rw [List.map_cons,List.mem_cons,not_or] at h
    unfold bindC
    rw [ih h.2]
    by_cases q:kindOf n=some .local
    · rw [if_pos q]
    · rw [if_neg q]; exact if_neg h.1
theorem bindC_at {kindOf:Str→Option NameKind} {binds:List (Str × Value)} {m:Str→Option Value} {x:Str} {v:Value} (hn:(binds.map (·.1)).Nodup) (h:(x,v)∈binds) (hk:kindOf x≠some .local):bindC kindOf binds m x=some v:=by
  induction binds generalizing m with
  | nil=>exact absurd h List.not_mem_nil
  | cons p r ih=>
    obtain ⟨n,u⟩:=p
    rw [List.map_cons,List.nodup_cons] at hn
    unfold bindC
    rcases List.mem_cons.mp h with q | q
    · obtain ⟨rfl,rfl⟩:=Prod.mk.inj q
      rw [bindC_not hn.1,if_neg hk]; exact if_pos rfl
    · exact ih hn.2 q
section
variable {lv:Nat} {F F':Funs} {P:List (Nat × FnDef)} {n:Nat} {h:Heap} {k:Tok} {M X:Addr→Prop}
theorem Real.weak1 {v:Value} {d:D} (r:Real h k M v d):Real h k M v (Mine.weak1 d):=by
  induction r using Real.casesOn with
  | tstr l t q=>exact .str _ l
  | _=>simp only [Mine.weak1]; constructor <;> assumption
theorem RealL.weak1 {vs:List Value} {ds:List D} (r:RealL h k M vs ds):RealL h k M vs (ds.map Mine.weak1):=by
  induction r using RealL.ind with | nil=>exact .nil | cons _ _ _ _ a r ih=>exact .cons a.weak1 ih
theorem Real.weak {v:Value} {d:D} (r:Real h k M v d):Real h k M v (Mine.weak d):=by
  induction r using Real.casesOn with
  | tstr l t q=>exact .str _ l
  | list m l r z=>exact .list m l r.weak1 (by rw [List.length_map]; exact z)
  | _=>simp only [Mine.weak]; constructor <;> assumption
theorem args_at {vs:List Value} {ss:List Slot} (ar:Args h k M X vs ss):vs.length=ss.length∧∀ i o d,ss[i]? = some (o,d)→∃ v,vs[i]? = some v∧((o=.sh∧Real h k M v d)∨(o=.bor∧i+1=ss.length∧OwnR h k M v d∧∃ a,v=.ref a∧X a)):=by
  induction ar with
  | nil=>exact ⟨rfl,fun i o d e=>nos e⟩
  | bor ow x=>
    refine ⟨rfl,fun i o d e=>?_⟩
    induction i using Nat.casesAuxOn with
    | zero=>obtain ⟨rfl,rfl⟩:=some2 e; exact ⟨_,rfl,.inr ⟨rfl,rfl,ow,_,rfl,x⟩⟩
    | succ i=>exact nos e
  | cons rv r ih=>
    obtain ⟨l,f⟩:=ih
    refine ⟨congrArg Nat.succ l,fun i o d e=>?_⟩
    induction i using Nat.casesAuxOn with
    | zero=>obtain ⟨rfl,rfl⟩:=some2 e; exact ⟨_,rfl,.inl ⟨rfl,rv⟩⟩
    | succ i=>
      obtain ⟨v,e1,q⟩:=f i o d e
      exact ⟨v,e1,q.imp id fun q=>⟨q.1,congrArg Nat.succ q.2.1,q.2.2⟩⟩
theorem start_get {ss:List Slot} {k i:Nat} {s:Slot} (h:St.get (ss.map some++List.replicate k none) i=some s):ss[i]? = some s:=by
  unfold St.get at h
  by_cases q:i < ss.length
  · rw [List.getElem?_append_left (by simpa using q)] at h
    simp [q] at h ⊢
    exact h
  · rw [List.getElem?_append_right (by simpa using q)] at h
    rw [List.getElem?_replicate] at h
    split at h <;> simp at h
set_option tactic.hygienic true in
theorem frame_ok {hT:Heap} {s s₁:Shared} {f:FnDef} {fd:FuncData} {S:Sx} {body:List Stmt} {ps:List Str} {a:Addr} {vs:List Value} {ss:List Slot} (tf:TrF f fd S body ps)
    (pos:0 < s₁.toks) (top:∀ b o,hT.get? b=some o→s.heap.get? b=some o) (out:∀ b,M b→hT.get? b=none) (sub:∀ b,X b→M b) (S₀:Stand s.heap M)
    (args:Args s.heap s.toks M X vs ss) (hl:ss.length=f.np) {env:Env} (he:env=newEnv fd.scope s.heap.objs.size fd.globals (cellsFrom (s.heap.objs.size+1) fd.scope.names []) (fd.qualname ++ ".<locals>.") (some a) fd.code none fd.builtins)
    (x:InCallC s env.locals (bindL env.kindOf (ps.zip vs) fun _=>none) env.cells (bindC env.kindOf (ps.zip vs) fun _=>none) s₁) (tk:s.toks≤s₁.toks) :
    ∃ loc M',EnvOK ⟨hT,s.heap,M,X,f.nv⟩ S loc env∧Rep ⟨hT,s.heap,M,X,f.nv⟩ loc (ss.map some++List.replicate (f.nv - f.np) none) ⟨s₁,M',fun i=>vs.getD i .none⟩:=by
  have ck:=ckF_of tf.chk
  obtain ⟨hvl,hat⟩:=args_at args
  have hL:env.locals=s.heap.objs.size:=by rw [he]; rfl
  have hcs:env.cells=cellsFrom (s.heap.objs.size+1) fd.scope.names []:=by rw [he]; rfl
  have hko:∀ y,env.kindOf y=fd.scope.names.lookup y:=fun y=>by rw [he]; rfl
  have hsc:env.scope=fd.scope:=by rw [he]; rfl
  have none_ge:∀ b,s.heap.objs.size≤b→s.heap.get? b=none:=fun b hb=>by
    cases e:s.heap.get? b with
    | none=>rfl
    | some o=>exact absurd (Heap.lt_size e) (Nat.not_lt.mpr hb)
  have hn:s.heap.get? env.locals=none:=none_ge _ (by rw [hL]; exact Nat.le_refl _)
  have hcn:∀ y b,env.cells.lookup y=some b→s.heap.get? b=none:=fun y b e=>none_ge _ (by have h5:=x.above y b (mem_of_lookup e); rw [hL] at h5; exact Nat.le_of_lt h5)
  have same:=x.toInCall.same
  have hg:s₁.gens=s.gens∧s₁.os=s.os:=by obtain ⟨h₁,t₁,rfl⟩:=same; exact ⟨rfl,rfl⟩
  have keep:=x.toInCall.keep
  have ns:=x.toInCall.ns
  have gr:Grow s M s₁ (fun b=>M b∨b=env.locals∨∃ y,env.cells.lookup y=some b):=by
    refine ⟨⟨keep,hg.1,hg.2,tk⟩,fun b m=>.inl m,fun b m=>?_,fun b m=>?_⟩
    · rcases m with m | rfl | ⟨y,m⟩
      · exact .inl m
      · exact .inr hn
      · exact .inr (hcn y b m)
    · rcases m with m | rfl | ⟨y,m⟩
      · obtain ⟨o,e⟩:=S₀ b m; exact ⟨o,keep b o e⟩
      · obtain ⟨o,_,_,e,_⟩:=ns; exact ⟨o,e⟩
      · obtain ⟨o,e,_⟩:=x.cell y b m; exact ⟨o,e⟩
  have find_own:∀ {y:Str} {i:Nat},(y,i)∈S.vars→S.vars.find? (fun p=>p.2 == i)=some (y,i):=by
    intro y i m
    cases q:S.vars.find? (fun p=>p.2 == i) with
    | none=>exact absurd (List.find?_eq_none.mp q (y,i) m) (by simp)
    | some p=>
      obtain ⟨z,j⟩:=p
      have h1:=List.mem_of_find?_eq_some q
      have h2:=List.find?_some q
      have h2':j=i:=by simpa using h2
      subst h2'
      rw [uniq2 ck.nd2 h1 m]
  have hown:∀ y i,(y,i)∈S.vars→∃ L,locOf fd.scope S.vars env.locals env.cells (fun _=>none) i=some L∧i < S.top∧
      ((fd.scope.names.lookup y=some .local∧L=.dct env.locals y)∨(fd.scope.names.lookup y=some .cell∧∃ b,env.cells.lookup y=some b∧L=.cel b)):=by
    intro y i m
    unfold locOf
    rw [find_own m]
    dsimp only
    obtain ⟨h1,h2⟩:=ck.vars y i m
    cases hk:fd.scope.names.lookup y with
    | none=>rw [hk] at h1; exact absurd h1 Bool.false_ne_true
    | some kk=>
      rw [hk] at h1
      cases kk <;> try ((first | exact absurd h1 Bool.false_ne_true | cases h1); done)
      · exact ⟨_,by rw [if_pos rfl],h2,.inl ⟨rfl,rfl⟩⟩
      · obtain ⟨b,hb⟩:=cellsFrom_some fd.scope.names (s.heap.objs.size+1) y (mem_of_look hk)
        rw [← hcs] at hb
        refine ⟨.cel b,?_,h2,.inr ⟨rfl,b,hb,rfl⟩⟩
        rw [if_neg (by decide),hb]; rfl
  have new:∀ i L,locOf fd.scope S.vars env.locals env.cells (fun _=>none) i=some L→∃ y,(y,i)∈S.vars∧
      ((fd.scope.names.lookup y=some .local∧L=.dct env.locals y)∨(fd.scope.names.lookup y=some .cell∧∃ b,env.cells.lookup y=some b∧L=.cel b)):=by
    intro i L h
    have hm:∃ y,(y,i)∈S.vars:=by
      unfold locOf at h
      split at h
      · rename_i p q
        have h1:=List.mem_of_find?_eq_some q
        have h2:=List.find?_some q
        have h2':p.2=i:=by simpa using h2
        exact ⟨p.1,by rw [← h2']; exact h1⟩
      · exact nos h
    obtain ⟨y,m⟩:=hm
    obtain ⟨L',e,_,q⟩:=hown y i m
    rw [h] at e; obtain rfl:=some1 e
    exact ⟨y,m,q⟩
  have addr:∀ i L,locOf fd.scope S.vars env.locals env.cells (fun _=>none) i=some L→s.heap.get? L.addr=none:=fun i L h=>by
    obtain ⟨y,m,⟨_,rfl⟩ | ⟨_,b,hb,rfl⟩⟩:=new i L h
    · exact hn
    · exact hcn y b hb
  have slot:∀ i o d,St.get (ss.map some++List.replicate (f.nv - f.np) none) i=some (o,d)→∃ v,vs[i]? = some v∧vs.getD i .none=v∧((o=.sh∧Real s.heap s.toks M v d)∨(o=.bor∧i+1=ss.length∧OwnR s.heap s.toks M v d∧∃ a,v=.ref a∧X a)):=fun i o d e=>by
    obtain ⟨v,e1,q⟩:=hat i o d (start_get e)
    exact ⟨v,e1,by simp [List.getD,e1],q⟩
  have root:∀ i o d,St.get (ss.map some++List.replicate (f.nv - f.np) none) i=some (o,d)→o≠.sh→i+1=ss.length∧∃ a,vs.getD i .none=.ref a∧M a:=fun i o d e ho=>by
    obtain ⟨v,_,e2,⟨q,_⟩ | ⟨_,l,ow,b,va,xb⟩⟩:=slot i o d e
    · exact absurd q ho
    · exact ⟨l,b,by rw [e2,va],sub b xb⟩
  refine ⟨locOf fd.scope S.vars env.locals env.cells (fun _=>none),_,⟨by rw [hsc]; exact tf.kind,by rw [he]; exact tf.g,by rw [he]; exact tf.b,fun y kk e=>.inl (by rw [hko,← ck.names]; exact e),fun y i e=>?_,fun i L e=>?_,by rw [ck.hnv]⟩,
    ⟨⟨top,out,sub,S₀⟩,?_,fun b o e _=>keep b o e,gr.up,gr.old,gr.stand,pos,fun i L e=>?_,fun i o d e=>?_,fun i j oi di oj dj ei ej hi hj _=>?_,fun i j L ei ej=>?_,fun i o d b e ho va j L eL q=>?_⟩⟩
  · obtain ⟨L,e1,_,q⟩:=hown y i (mem_of_look e)
    refine ⟨L,e1,?_⟩
    rcases q with ⟨hl',rfl⟩ | ⟨hc,b,hb,rfl⟩
    · exact .dct (by rw [ck.names]; exact hl')
    · exact .cel (by rw [ck.names,hc]; rfl) hb
  · obtain ⟨y,m,_⟩:=new i L e
    exact (ck.vars y i m).2
  · rw [List.length_append,List.length_map,List.length_replicate,hl]
    have:=ck.le
    show f.np+(f.nv - f.np)=f.nv
    exact Nat.add_sub_of_le this
  · obtain ⟨y,m,q⟩:=new i L e
    have hi:i < (ss.map some++List.replicate (f.nv - f.np) (none:Option Slot)).length:=by
      rw [List.length_append,List.length_map,List.length_replicate,hl]
      have h1:=(ck.vars y i m).2
      have h2:=ck.le
      have h3:=ck.top
      have h4:=ck.hnv
      lia
    refine ⟨?_,?_,addr i L e,hi⟩
    · rcases q with ⟨_,rfl⟩ | ⟨_,b,hb,rfl⟩
      · exact ⟨_,ns⟩
      · exact ⟨_,x.cell y b hb⟩
    · rcases q with ⟨_,rfl⟩ | ⟨_,b,hb,rfl⟩
      · exact .inr (.inl rfl)
      · exact .inr (.inr ⟨y,hb⟩)
  · obtain ⟨v,e1,e2,q⟩:=slot i o d e
    have hi:i < ps.length:=by
      have:=(List.getElem?_eq_some_iff.mp e1).1
      rw [ck.len,← hl,← hvl]; exact this
    have hp:ps[i]? = some ps[i]:=List.getElem?_eq_getElem hi
    have hv:=ck.par i _ hp
    obtain ⟨L,eL,_,qL⟩:=hown _ i (mem_of_look hv)
    have hm:(ps[i],v)∈ps.zip vs:=List.mem_iff_getElem?.mpr ⟨i,by rw [List.getElem?_zip_eq_some]; exact ⟨hp,e1⟩⟩
    have hz:((ps.zip vs).map (·.1)).Nodup:=by
      rw [List.map_fst_zip (by rw [ck.len,← hl,hvl]; exact Nat.le_refl _)]; exact ck.ndp
    refine ⟨L,eL,?_,?_⟩
    · dsimp only
      rw [e2]
      rcases qL with ⟨hl',rfl⟩ | ⟨hc,b,hb,rfl⟩
      · exact ⟨_,ns,bindL_at hz hm (by rw [hko]; exact hl')⟩
      · have:=x.cell _ b hb
        rw [bindC_at hz hm (by rw [hko,hc]; decide)] at this
        exact this
    · dsimp only
      rw [e2]
      have st:=gr.step (T:=fun _=>True) (T':=fun _=>True) fun _ t=>.inl t
      rcases q with ⟨rfl,rv⟩ | ⟨rfl,_,ow,b,va,xb⟩
      · exact rv.mono st tk
      · exact ⟨OwnR.mono' st tk ow (fun a o _=>keep a o) (fun a _ m=>.inl m),fun a' q=>by rw [va] at q; obtain rfl:=Value.ref.inj q; exact xb⟩
  · have h1:=(root i oi di ei hi).1
    have h2:=(root j oj dj ej hj).1
    lia
  · obtain ⟨y,m,q⟩:=new i L ei
    obtain ⟨z,m',q'⟩:=new j L ej
    have hyz:y=z:=by
      rcases q with ⟨_,rfl⟩ | ⟨_,b,hb,rfl⟩ <;> rcases q' with ⟨_,q'⟩ | ⟨_,b',hb',q'⟩
      · cases q'; rfl
      · cases q'
      · cases q'
      · cases q'; exact name_of_addr x.apart (mem_of_lookup hb) (mem_of_lookup hb')
    subst hyz
    exact uniq1 ck.nd1 m m'
  · obtain ⟨_,a',va',ma⟩:=root i o d e ho
    have va2:vs.getD i .none=.ref b:=va
    rw [va2] at va'; obtain rfl:=Value.ref.inj va'
    obtain ⟨o',e'⟩:=S₀ _ ma
    have h6:=addr j L eL
    rw [q,e'] at h6; exact nos h6.symm
noncomputable def FnOK (P:List (Nat × FnDef)):Prop:=∀ hT,K hT→∀ a f,P.lookup a=some f→∃ o fd S body ps,hT.get? a=some o∧o.data=.func fd∧hT.CodeRec fd.code fd.qualname∧TrF f fd S body ps
theorem fnAt_of {P:List (Nat × FnDef)} (kok:FnOK P) {F:Funs}:∀ hT,K hT→∀ a ss r,stepC F P a ss=some r→FnAt hT a:=fun hT hK a ss r h=>by
  obtain ⟨f,hf,h⟩:=bs h
  obtain ⟨o,fd,_,_,_,eo,hd,_⟩:=kok hT hK a f hf
  exact ⟨o,fd,eo,hd⟩
theorem newEnv_tok {M:Model} {A:Around} {E:Value→Shared→Prop} {s:Shared} {scope:Scope} {globals:Addr} {binds:List (Str × Value)} {qual:Str} {func:Option Addr} {code:Value} {builtins:Addr} {Q:Env→Shared→Prop}
    (hk:scope.kind=.function)
    (hkind:∀ x∈binds,scope.names.lookup x.1=some .local∨(scope.names.lookup x.1=some .cell∧((cellsFrom (s.heap.objs.size+1) scope.names []).lookup x.1).isSome=true))
    (hpos:0 < s.toks∨∃ x v,binds=[(x,v)]∧scope.names.lookup x=some .local)
    (hQ:∀ env,env=newEnv scope s.heap.objs.size globals (cellsFrom (s.heap.objs.size+1) scope.names []) qual func code none builtins→
      ∀ s',InCallC s env.locals (bindL env.kindOf binds fun _=>none) env.cells (bindC env.kindOf binds fun _=>none) s'→s.toks≤s'.toks→0 < s'.toks→Q env s') :
    wpAny M A (newFunctionEnv scope globals [] binds qual func code none builtins) Q E s:=by
  rcases hpos with hp | ⟨x,v,rfl,hl⟩
  · exact wpAny_grow (wpAny_newFunctionEnv_cells hk hkind fun env he s₁ x tk=>hQ env he s₁ x tk (Nat.lt_of_lt_of_le hp tk))
  · simp only [newFunctionEnv,Option.isSome_none,Bool.false_eq_true,if_false]
    refine wpAny_bind (wpAny_alloc ?_)
    refine wpAny_bind (wpAny_layCells _ (fun name kind cells=>by cases hkc:kind == NameKind.cell <;> simp [hkc]) _ _ _ _ ?_)
    have ok:=cellsFrom_ok scope.names (s.heap.push { cls:=.type "frame",data:=.dict #[] }) (s.heap.objs.size+1) [] ⟨fun _ _ hm=>(nomatch hm),List.Pairwise.nil⟩ (by rw [Heap.size_push]; exact Nat.le_refl _)
    rw [Heap.size_push] at ok
    rw [show ({ s with heap:=s.heap.push { cls:=.type "frame",data:=.dict #[] } }:Shared).heap.objs.size=s.heap.objs.size+1 from Heap.size_push ..]
    rw [List.forIn_cons]
    have ns:(pushCells (s.heap.push { cls:=.type "frame",data:=.dict #[] }) scope.names).Ns s.heap.objs.size (fun _=>none):=(Heap.Ns.new s.heap (.type "frame")).keeps (pushCells_keeps _ _)
    have kp:∀ b o,s.heap.get? b=some o→(pushCells (s.heap.push { cls:=.type "frame",data:=.dict #[] }) scope.names).get? b=some o:=fun b o e=>pushCells_keeps _ _ b o (Heap.get?_push_of_some _ e)
    refine wpAny_bind (wpAny_bind (wpAny_bind (wpAny_storeName_local (env:=newEnv scope s.heap.objs.size globals (cellsFrom (s.heap.objs.size+1) scope.names []) qual func code none builtins) hl ns (fun h' hn' hs'=>wpAny_pure ?_) (by
      show (scope.kind == _ || (scope.kind == _ && _))=false
      rw [hk]; rfl))))
    dsimp only
    rw [List.forIn_nil]
    refine wpAny_pure (wpAny_pure (hQ _ rfl _ ?_ (Nat.le_succ _) (Nat.succ_pos _)))
    have hkof:∀ k,(newEnv scope s.heap.objs.size globals (cellsFrom (s.heap.objs.size+1) scope.names []) qual func code none builtins).kindOf k=scope.names.lookup k:=fun _=>rfl
    refine ⟨⟨⟨h',_,rfl⟩,?_,fun b o e=>?_,Nat.le_refl _⟩,fun k c hc=>?_,ok.apart,fun k c hm=>(ok.empty k c hm).2⟩
    · unfold bindL bindL
      rw [hkof,if_pos hl]
      exact hn'
    · exact hs'.extBut b o (Nat.ne_of_lt (Heap.lt_size e)) (kp b o e)
    · have e0:=ok.empty k c (PySem.mem_of_lookup hc)
      unfold bindC bindC
      rw [hkof,if_pos hl]
      exact e0.1.sameBut hs' (Nat.ne_of_gt e0.2)
theorem call_core (hF:F'.call=stepC F P) (ex:ExOK F n) (kok:FnOK P) {hT:Heap} {s:Shared} {M X:Addr→Prop} {A:Around} {a:Nat} {vs:List Value} {ss:List Slot} {d:D} {back:Option Slot} {Q:Value→Shared→Prop} {EE:Value→Shared→Prop}
    (Gx:Gl hT) (r:Room (n+1) A) (hpos:0 < s.toks∨∀ f fd S body ps o,P.lookup a=some f→hT.get? a=some o→o.data=.func fd→TrF f fd S body ps→∃ x,ps=[x]∧fd.scope.names.lookup x=some .local)
    (top:∀ b o,hT.get? b=some o→s.heap.get? b=some o) (out:∀ b,M b→hT.get? b=none) (sub:∀ b,X b→M b) (S₀:Stand s.heap M) (hX:∀ b,X b→vs.getLast? = some (.ref b))
    (args:Args s.heap s.toks M X vs ss) (h:F'.call a ss=some (d,back))
    (hQ:∀ v s' M',Step s.heap M X s'.heap M' X→s.toks≤s'.toks→s'.gens=s.gens→s'.os=s.os→(∀ b,s'.heap.get? b=none→s.heap.get? b=none)→Stand s'.heap M'→(∀ b,M b→M' b)→
      Real s'.heap s'.toks M' v d→(∀ r dr,ss.getLast? = some (.bor,dr)→vs.getLast? = some (.ref r)→∃ o' d',back=some (o',d')∧OwnR s'.heap s'.toks M' (.ref r) d')→Q v s') :
    wpAny (model prog w) A (call (.ref a) vs) Q EE s:=by
  rw [hF] at h
  obtain ⟨f,hf,h⟩:=bs h
  obtain ⟨hlen,h⟩:=iteN h
  obtain ⟨⟨fl,σ'⟩,h1,h⟩:=bs h
  obtain ⟨d₀,hd₀,h⟩:=bs h
  obtain ⟨hb,h⟩:=iteS h
  obtain ⟨rfl,rfl⟩:=Prod.mk.inj h
  obtain rfl:=ret_is hd₀
  obtain ⟨o,fd,S,body,ps,eo,hd,hcd,tf⟩:=kok hT Gx.k a f hf
  have ck:=ckF_of tf.chk
  obtain ⟨hvl,hat⟩:=args_at args
  obtain ⟨r1,r2,r3⟩:=r
  have hroom:A.depth < recursionLimit:=by
    have:recursionLimit=1000:=rfl
    lia
  refine wpAny_call (codeAny_call_function hroom (top _ _ eo) hd tf.co tf.gen tf.hbody (hcd.keeps top) ?_)
  rw [tf.bind vs (by rw [hvl,hlen]),tf.clo]
  refine wpAny_pure (newEnv_tok tf.kind (fun y hy=>?_) (hpos.imp id fun hp=>?_) fun env he s₁ x tk pos=>?_)
  · obtain ⟨i,hi⟩:=List.mem_iff_getElem?.mp hy
    obtain ⟨y1,y2⟩:=y
    rw [List.getElem?_zip_eq_some] at hi
    have h2:=(ck.vars _ i (mem_of_look (ck.par i y1 hi.1))).1
    dsimp only
    cases hk:fd.scope.names.lookup y1 with
    | none=>rw [hk] at h2; exact absurd h2 Bool.false_ne_true
    | some kk=>
      rw [hk] at h2
      cases kk <;> try ((first | exact absurd h2 Bool.false_ne_true | cases h2); done)
      · exact .inl rfl
      · obtain ⟨b,hb⟩:=cellsFrom_some fd.scope.names (s.heap.objs.size+1) y1 (mem_of_look hk)
        exact .inr ⟨rfl,by rw [hb]; rfl⟩
  · obtain ⟨x,e1,e2⟩:=hp f fd S body ps o hf eo hd tf
    obtain ⟨v,hv⟩ : ∃ v,vs=[v]:=by
      have h1:=ck.len
      rw [e1] at h1
      have h2:vs.length=1:=by rw [hvl,hlen,← h1]; rfl
      exact List.length_eq_one_iff.mp h2
    exact ⟨x,v,by rw [e1,hv]; rfl,e2⟩
  · refine ⟨(Gx.nl.keeps top).keeps x.toInCall.keep,codeAny_func ?_⟩
    obtain ⟨loc,M',V,R⟩:=frame_ok (a:=a) tf pos top out sub S₀ args hlen he x tk
    have r':Room n (A.deeper env):=⟨r1,by show A.depth+1+n≤900; lia,by show A.units+3+12 * n≤9000; lia⟩
    refine exs_ok (φ:=⟨hT,s.heap,M,X,f.nv⟩) Gx r' V ex R tf.tr h1 fun fl c' g fo=>?_
    obtain ⟨v,rfl,rv⟩:=fo.inv
    have R':=g.rep
    refine hQ _ c'.s c'.M ⟨fun b o m e=>R'.top b o e fun q=>m (sub b q),fun b o m q e=>⟨R'.top b o e q,R'.sup b m⟩,R'.old,fun b t=>.inl t⟩ (Nat.le_trans tk g.toks) ?_ ?_ (fun b e=>?_) R'.stand R'.sup rv.weak fun ra dr hss hvs=>?_
    · obtain ⟨h₁,t₁,e⟩:=x.toInCall.same
      rw [g.gens,e]
    · obtain ⟨h₁,t₁,e⟩:=x.toInCall.same
      rw [g.os,e]
    · have e1:=g.stay b e
      cases q:s.heap.get? b with
      | none=>rfl
      | some o=>rw [x.toInCall.keep b o q] at e1; exact nos e1.symm
    · rw [hss] at hb
      cases h3:σ'.get (f.np - 1) with
      | none=>rw [h3] at hb; exact absurd hb Bool.false_ne_true
      | some so=>
        obtain ⟨o',d'⟩:=so
        rw [h3] at hb
        induction o' using Own.casesOn with
        | sh=>exact absurd hb Bool.false_ne_true
        | own=>exact absurd hb Bool.false_ne_true
        | bor=>
          obtain ⟨_,_,_,sl⟩:=R'.vals _ _ _ h3
          obtain ⟨b,ob,vb,_,_⟩:=sl.1.ref
          have:=hX b (sl.2 b vb)
          rw [hvs] at this
          obtain rfl:=Value.ref.inj (some1 this)
          exact ⟨.bor,d',rfl,by rw [← vb]; exact sl.1⟩
theorem call_step (hF:F'.call=stepC F P) (ex:ExOK F n) (kok:FnOK P):CallOK F' (n+1):=by
  intro hT s M X A a vs ss d back Q EE Gx r pos top out sub S₀ hX args h hQ
  exact call_core hF ex kok Gx r (.inl pos) top out sub S₀ hX args h hQ
end
end Mine
end
section
open PySem PySem.W PyProof.Rows
set_option autoImplicit false
namespace Mine
section
variable (P:List (Nat × FnDef))
structure Good (n:Nat):Prop where
  ev:EvOK (Ev P n) n
  evo:EvoOK (Ev P n) n
  evt:EvtOK (Ev P n) n
  cm:CmpOK (Ev P n) n
  call:CallOK (Ev P n) n
  ex:ExOK (Ev P n) n
end
section
variable {P:List (Nat × FnDef)}
theorem good_zero:Good P 0 where
  ev:=by intro lv φ loc σ c S env A e pe d σ' Q E _ _ _ _ _ h _; exact nos h
  evo:=by intro lv φ loc σ c S env A e pe o d σ' Q E _ _ _ _ _ h _; exact nos h
  evt:=by intro lv φ loc σ c S env A e pe b σ' Q E _ _ _ _ _ h _; exact nos h
  cm:=by intro lv φ loc σ c S env A o l r pl pr d σ' Q E _ _ _ _ _ _ h _; exact nos h
  call:=by intro hT s M X A a vs ss d back Q E _ _ _ _ _ _ _ _ _ h _; exact nos h
  ex:=by intro lv φ loc σ c S env A s ps fl σ' Q E _ _ _ _ _ h _; exact nos h
theorem good_succ (kok:FnOK P) {n:Nat} (g:∀ k,k < n+1→Good P k):Good P (n+1):=by
  have gn:=g n (Nat.lt_succ_self n)
  have fa:∀ hT,K hT→∀ a ss r,(Ev P n).call a ss=some r→FnAt hT a:=by
    intro hT hK a ss r h
    induction n using Nat.casesAuxOn with
    | zero=>exact nos h
    | succ n=>exact fnAt_of kok hT hK a ss r h
  exact ⟨ev_step rfl (Nat.le_succ n) gn.ev gn.evo gn.evt gn.call fa,evo_step rfl (Nat.le_succ n) gn.ev gn.evo gn.evt,evt_step rfl (Nat.le_succ n) gn.ev gn.evt gn.cm,cmp_step rfl (Nat.le_succ n) gn.ev,
    call_step rfl gn.ex kok,ex_step (fun k hk=>⟨(g k hk).evt,(g k hk).ex⟩) (fun k hk=>(g k hk).ev) gn.evo⟩
theorem good_all (kok:FnOK P) (n:Nat):Good P n:=by
  have key:∀ n,∀ k,k < n→Good P k:=by
    intro n
    induction n with
    | zero=>intro k hk; exact absurd hk (Nat.not_lt_zero k)
    | succ n ih=>
      intro k hk
      rcases Nat.lt_succ_iff_lt_or_eq.mp hk with q | rfl
      · exact ih k q
      · induction k using Nat.casesAuxOn with
        | zero=>exact good_zero
        | succ m=>exact good_succ kok ih
  exact key (n+1) n (Nat.lt_succ_self n)
end
end Mine
end
section
open PySem PySem.W PyProof.Rows
set_option autoImplicit false
namespace Mine
noncomputable def subS (S:Sx) (scope:Scope) (own:List (Str × Nat)):Sx:=
  ⟨own++scope.names.filterMap (fun p=>if p.2 == .free then (S.vars.lookup p.1).map (fun i=>(p.1,i)) else none),scope.names,(own.map (·.2+1)).foldl max S.top,S.nv⟩
noncomputable def tgVs:Tg→Expr→List (Str × Nat)
  | .v i,.Name x _=>[(x,i)]
  | .t is,.Tuple pes _ _=>(nmsOf pes).zip is
  | _,_=>[]
noncomputable def gVs:List (Tg × E × List E)→List Comprehension→List (Str × Nat)
  | g :: gs,c :: cs=>tgVs g.1 c.target++gVs gs cs
  | _,_=>[]
section
variable {R:Sx→E→Expr→Prop}
theorem TrE1.comp' {S:Sx} {elt:E} {tg:Tg} {it:E} {cs:List E} {gs:List (Tg × E × List E)} {pelt ptg pit:Expr} {pcs:List Expr} {pgs:List Comprehension} {scope:Scope} {p:Pos}
    (h1:ckComp S (subS S scope (gVs ((tg,it,cs) :: gs) (⟨ptg,pit,pcs,0⟩ :: pgs))) scope (gVs ((tg,it,cs) :: gs) (⟨ptg,pit,pcs,0⟩ :: pgs)) (tgIds ((tg,it,cs) :: gs))=true) (h2:enOk ((tg,it,cs) :: gs)=true) (h3:plainIter pit) (h4:TrI R S it pit)
    (h5:TrTg (subS S scope (gVs ((tg,it,cs) :: gs) (⟨ptg,pit,pcs,0⟩ :: pgs))) tg ptg) (h6:TrTs R (subS S scope (gVs ((tg,it,cs) :: gs) (⟨ptg,pit,pcs,0⟩ :: pgs))) cs pcs)
    (h7:TrG R (subS S scope (gVs ((tg,it,cs) :: gs) (⟨ptg,pit,pcs,0⟩ :: pgs))) gs pgs) (h8:R (subS S scope (gVs ((tg,it,cs) :: gs) (⟨ptg,pit,pcs,0⟩ :: pgs))) elt pelt) :
    TrE1 R S (.comp elt ((tg,it,cs) :: gs)) (.ListComp pelt (⟨ptg,pit,pcs,0⟩ :: pgs) scope p):=.comp h1 h2 h3 h4 h5 h6 h7 h8
theorem TrE1.dcomp' {S:Sx} {k v:E} {tg:Tg} {it:E} {pk pv ptg pit:Expr} {scope:Scope} {p:Pos}
    (h1:ckComp S (subS S scope (gVs [(tg,it,[])] [⟨ptg,pit,[],0⟩])) scope (gVs [(tg,it,[])] [⟨ptg,pit,[],0⟩]) (tgIds [(tg,it,[])])=true) (h2:enOk [(tg,it,[])]=true) (h3:plainIter pit) (h4:TrI R S it pit)
    (h5:TrTg (subS S scope (gVs [(tg,it,[])] [⟨ptg,pit,[],0⟩])) tg ptg) (h6:R (subS S scope (gVs [(tg,it,[])] [⟨ptg,pit,[],0⟩])) k pk) (h7:R (subS S scope (gVs [(tg,it,[])] [⟨ptg,pit,[],0⟩])) v pv) :
    TrE1 R S (.dcomp k v (tg,it)) (.DictComp pk pv [⟨ptg,pit,[],0⟩] scope p):=.dcomp h1 h2 h3 h4 h5 h6 h7
end
theorem mem_lk {α β:Type} [BEq α] [LawfulBEq α]:∀ {l:List (α × β)} {x:α} {v:β},l.lookup x=some v→(x,v)∈l
  | (y,u) :: r,x,v,h=>by
    rw [List.lookup_cons] at h
    cases hb:x == y with
    | true=>rw [hb] at h; obtain rfl:=some1 h; rw [eq_of_beq hb]; exact List.mem_cons_self
    | false=>rw [hb] at h; exact List.mem_cons_of_mem _ (mem_lk h)
theorem sem_pure_inj {α:Type} {a b:α} (h:(pure a:Sem α)=pure b):a=b:=by
  have h':(Sem.pure a:Sem α)=Sem.pure b:=h
  injection h'
theorem one_local {f:FnDef} {fd:FuncData} {S:Sx} {body:List Stmt} {ps:List Str} (tf:TrF f fd S body ps) (hn:f.np=1) {x:Str} (hb:bindArgs fd ⟨[.none],[]⟩ = pure [(x,.none)]) (hl:fd.scope.names.lookup x=some .local) :
    ∃ x,ps=[x]∧fd.scope.names.lookup x=some .local:=by
  have ck:=ckF_of tf.chk
  have h1:=ck.len
  rw [hn] at h1
  match ps,h1 with
  | [y],_=>
    have h2:=tf.bind [.none] (by rw [hn]; rfl)
    rw [hb] at h2
    have h3:=sem_pure_inj h2
    have:x=y:=by simpa using h3
    exact ⟨y,rfl,this ▸ hl⟩
noncomputable def isI (i:Int):Value→Bool
  | .int j _=>i == j
  | _=>false
noncomputable def Ents:List DictEntry→List (List Nat × D)→Prop
  | [],[]=>True
  | e :: es,(k,.int i) :: ds=>(strKind prog w).is (mkS k) e.key=true∧e.hash=(strKind prog w).hash (mkS k)∧isI i e.val=true∧Ents es ds
  | _,_=>False
noncomputable def kvsOf:List DictEntry→List (List Nat × D)→List (Str × Value)
  | e :: es,d :: ds=>(mkS d.1,e.val) :: kvsOf es ds
  | _,_=>[]
theorem ents_ok {h:Heap} {k:Tok} {M:Addr→Prop} {es:List DictEntry} {ds:List (List Nat × D)} (x:Ents es ds) :
    Pairs (strKind prog w) es (kvsOf es ds)∧RealS h k M (kvsOf es ds) ds∧(∀ e∈es,∃ k,(strKind prog w).is k e.key=true∧e.hash=(strKind prog w).hash k)∧(kvsOf es ds).map (·.1)=(ds.map (·.1)).map mkS:=by
  induction es,ds using two_ind with
  | nn=>exact ⟨.nil,.nil,fun _ h=>absurd h List.not_mem_nil,rfl⟩
  | nc=>exact x.elim
  | cn=>exact x.elim
  | cc e es d ds ih=>
    obtain ⟨k,d⟩:=d
    induction d using D.casesOn with
    | int i=>
      obtain ⟨a,b,c,r⟩:=x
      obtain ⟨p,q,s,t⟩:=ih r
      refine ⟨.cons a rfl p,.cons ?_ q,fun e' he=>?_,congrArg (mkS k :: ·) t⟩
      · generalize e.val=v at c
        induction v using Value.casesOn with
        | int j u=>obtain rfl:=eq_of_beq (show (i == j)=true from c); exact .int _ _
        | _=>exact absurd c Bool.false_ne_true
      · rcases List.mem_cons.mp he with q | he
        · exact q ▸ ⟨_,a,b⟩
        · exact s e' he
    | _=>exact x.elim
theorem tok_real {h:Heap} {a:Addr} {es:Array DictEntry} {ep:Nat} {ds:List (List Nat × D)} (ha:(a == sysModules)=false) (ho:h.get? a=some { cls:=.type "dict",data:=.dict es ep }) (hE:Ents es.toList ds) (hn:nodup (ds.map (·.1))=true) :
    Real h 0 (fun _=>False) (.ref a) (.sdict ds):=by
  obtain ⟨p,q,s,t⟩:=ents_ok (h:=h) (k:=0) (M:=fun _=>False) hE
  refine .sdict (fun f=>f) ha ⟨_,es,ep,ho,⟨rfl,rfl,rfl⟩,rfl,fun e he=>s e (by simpa using he),p,?_⟩ q
  rw [t]
  have:=nodup_iff hn
  exact (List.Pairwise.map mkS (fun a b (h:a≠b) q=>h (mkS_inj.mp q)) this)
theorem vl1 {p:List Value→Prop} (h:∀ a,p [a]):∀ vs:List Value,vs.length=1→p vs:=by
  intro vs e; obtain ⟨a,rfl⟩:=List.length_eq_one_iff.mp e; exact h a
theorem vlS {p:List Value→Prop} {n:Nat} (h:∀ a vs,vs.length=n→p (a :: vs)) (vs:List Value) (e:vs.length=n+1):p vs:=by
  obtain ⟨a,r,rfl⟩:=List.exists_cons_of_length_eq_add_one e; exact h a r (Nat.succ.inj e)
theorem vl2 {p:List Value→Prop} (h:∀ a b,p [a,b]):∀ vs:List Value,vs.length=2→p vs:=vlS fun a=>vl1 (h a)
theorem vl3 {p:List Value→Prop} (h:∀ a b c,p [a,b,c]):∀ vs:List Value,vs.length=3→p vs:=vlS fun a=>vl2 (h a)
theorem vl4 {p:List Value→Prop} (h:∀ a b c d,p [a,b,c,d]):∀ vs:List Value,vs.length=4→p vs:=vlS fun a=>vl3 (h a)
noncomputable def allP {α:Type} (p:α→Prop):List α→Prop
  | []=>True
  | a :: r=>p a∧allP p r
theorem allP_mem {α:Type} {p:α→Prop} {l:List α} (h:allP p l):∀ a∈l,p a:=by
  induction l with
  | nil=>exact fun a m=>absurd m List.not_mem_nil
  | cons b r ih=>
    intro a m
    rcases List.mem_cons.mp m with m | m
    · exact m ▸ h.1
    · exact ih h.2 a m
end Mine
end
section
open PySem PySem.W PyProof.Rows
set_option autoImplicit false
namespace Mine
noncomputable section
noncomputable def Dc (P:Prop):Type:=Option (PLift P)
noncomputable def yes {P:Prop} (h:P):Dc P:=some ⟨h⟩
noncomputable def no {P:Prop}:Dc P:=none
noncomputable def Dc.b {P Q:Prop} (a:Dc P) (f:P→Dc Q):Dc Q:=Option.rec no (fun h=>f h.down) a
noncomputable def Dc.or {P:Prop} (a b:Dc P):Dc P:=Option.rec b (fun h=>some h) a
theorem Dc.get {P:Prop} {a:Dc P} (h:a.isSome=true):P:=(Option.get a h).down
noncomputable def ifT {Q:Prop} (b:Bool) (f:b=true→Dc Q):Dc Q:=if h:b=true then f h else no
noncomputable def ifE {α:Type} [DecidableEq α] {Q:Prop} (a b:α) (f:a=b→Dc Q):Dc Q:=if h:a=b then f h else no
@[elab_as_elim] noncomputable def ifV {α:Type} [DecidableEq α] {M:α→Type} (a:α) (d:M a) (b:α) (f:M b):M a:=if h:a=b then h ▸ f else d
noncomputable def dT (b:Bool):Dc (b=true):=if h:b=true then yes h else no
noncomputable def dE {α:Type} [DecidableEq α] (a b:α):Dc (a=b):=if h:a=b then yes h else no
noncomputable def ap1 {A Q:Prop} (f:A→Q) (a:Dc A):Dc Q:=a.b fun a=>yes (f a)
noncomputable def ap2 {A B Q:Prop} (φ:A→B→Q) (a:Dc A) (b:Dc B):Dc Q:=a.b fun a=>ap1 (φ a) b
noncomputable def ap3 {A B C Q:Prop} (φ:A→B→C→Q) (a:Dc A) (b:Dc B) (c:Dc C):Dc Q:=a.b fun a=>ap2 (φ a) b c
noncomputable def ap4 {A B C D Q:Prop} (φ:A→B→C→D→Q) (a:Dc A) (b:Dc B) (c:Dc C) (d:Dc D):Dc Q:=a.b fun a=>ap3 (φ a) b c d
noncomputable def ap5 {A B C D E Q:Prop} (φ:A→B→C→D→E→Q) (a:Dc A) (b:Dc B) (c:Dc C) (d:Dc D) (e:Dc E):Dc Q:=a.b fun a=>ap4 (φ a) b c d e
noncomputable def ap6 {A B C D E F Q:Prop} (φ:A→B→C→D→E→F→Q) (a:Dc A) (b:Dc B) (c:Dc C) (d:Dc D) (e:Dc E) (f:Dc F):Dc Q:=a.b fun a=>ap5 (φ a) b c d e f
noncomputable def ap7 {A B C D E F G Q:Prop} (φ:A→B→C→D→E→F→G→Q) (a:Dc A) (b:Dc B) (c:Dc C) (d:Dc D) (e:Dc E) (f:Dc F) (g:Dc G):Dc Q:=a.b fun a=>ap6 (φ a) b c d e f g
noncomputable def ap8 {A B C D E F G H Q:Prop} (φ:A→B→C→D→E→F→G→H→Q) (a:Dc A) (b:Dc B) (c:Dc C) (d:Dc D) (e:Dc E) (f:Dc F) (g:Dc G) (h:Dc H):Dc Q:=a.b fun a=>ap7 (φ a) b c d e f g h
@[elab_as_elim] noncomputable def l0 {α:Type} {M:List α→Type} (l:List α) (d:M l) (f:M []):M l:=List.rec (motive:=fun l=>M l→M l) (fun _=>f) (fun _ _ _ d=>d) l d
@[elab_as_elim] noncomputable def lC {α:Type} {M:List α→Type} (l:List α) (d:M l) (f:∀ a r,M (a :: r)):M l:=List.rec (motive:=fun l=>M l→M l) (fun d=>d) (fun a r _ _=>f a r) l d
@[elab_as_elim] noncomputable def oN {α:Type} {M:Option α→Type} (l:Option α) (d:M l) (f:M none):M l:=Option.rec (motive:=fun l=>M l→M l) (fun _=>f) (fun _ d=>d) l d
@[elab_as_elim] noncomputable def oS {α:Type} {M:Option α→Type} (l:Option α) (d:M l) (f:∀ a,M (some a)):M l:=Option.rec (motive:=fun l=>M l→M l) (fun d=>d) (fun a _=>f a) l d
@[elab_as_elim] noncomputable def xName {M:Expr→Type} (t:Expr) (d:M t) (f:∀ a b,M (.Name a b)):M t:=if h:t.ctorIdx=23 then Expr.Name.elim t h f else d
@[elab_as_elim] noncomputable def xCall {M:Expr→Type} (t:Expr) (d:M t) (f:∀ a b c d,M (.Call a b c d)):M t:=if h:t.ctorIdx=16 then Expr.Call.elim t h f else d
@[elab_as_elim] noncomputable def xConst {M:Expr→Type} (t:Expr) (d:M t) (f:∀ a b c,M (.Constant a b c)):M t:=if h:t.ctorIdx=19 then Expr.Constant.elim t h f else d
@[elab_as_elim] noncomputable def xTup {M:Expr→Type} (t:Expr) (d:M t) (f:∀ a b c,M (.Tuple a b c)):M t:=if h:t.ctorIdx=25 then Expr.Tuple.elim t h f else d
@[elab_as_elim] noncomputable def xSub {M:Expr→Type} (t:Expr) (d:M t) (f:∀ a b c,M (.Subscript a b c)):M t:=if h:t.ctorIdx=21 then Expr.Subscript.elim t h f else d
@[elab_as_elim] noncomputable def xAttr {M:Expr→Type} (t:Expr) (d:M t) (f:∀ a b c,M (.Attribute a b c)):M t:=if h:t.ctorIdx=20 then Expr.Attribute.elim t h f else d
@[elab_as_elim] noncomputable def xUn {M:Expr→Type} (t:Expr) (d:M t) (f:∀ a b c,M (.UnaryOp a b c)):M t:=if h:t.ctorIdx=3 then Expr.UnaryOp.elim t h f else d
@[elab_as_elim] noncomputable def xBool {M:Expr→Type} (t:Expr) (d:M t) (f:∀ a b c,M (.BoolOp a b c)):M t:=if h:t.ctorIdx=0 then Expr.BoolOp.elim t h f else d
@[elab_as_elim] noncomputable def xCmp {M:Expr→Type} (t:Expr) (d:M t) (f:∀ a b c d,M (.Compare a b c d)):M t:=if h:t.ctorIdx=15 then Expr.Compare.elim t h f else d
@[elab_as_elim] noncomputable def xBin {M:Expr→Type} (t:Expr) (d:M t) (f:∀ a b c d,M (.BinOp a b c d)):M t:=if h:t.ctorIdx=2 then Expr.BinOp.elim t h f else d
@[elab_as_elim] noncomputable def xLc {M:Expr→Type} (t:Expr) (d:M t) (f:∀ a b c d,M (.ListComp a b c d)):M t:=if h:t.ctorIdx=8 then Expr.ListComp.elim t h f else d
@[elab_as_elim] noncomputable def xList {M:Expr→Type} (t:Expr) (d:M t) (f:∀ a b,M (.List a b)):M t:=if h:t.ctorIdx=24 then Expr.List.elim t h f else d
@[elab_as_elim] noncomputable def xAsg {M:Stmt→Type} (t:Stmt) (d:M t) (f:∀ a b c,M (.Assign a b c)):M t:=if h:t.ctorIdx=5 then Stmt.Assign.elim t h f else d
@[elab_as_elim] noncomputable def xAug {M:Stmt→Type} (t:Stmt) (d:M t) (f:∀ a b c d,M (.AugAssign a b c d)):M t:=if h:t.ctorIdx=7 then Stmt.AugAssign.elim t h f else d
noncomputable def Plain (pe:Expr):Prop:=∀ env t,isTrue pe env t=(do let v ← t; standAt pe.pos; holding [v] (truthy v))
noncomputable def plT (pe:Expr):Dc (Plain pe):=
  Dc.or (xName pe no fun _ _=>yes fun _ _=>rfl) <| Dc.or (xCall pe no fun _ _ kw _=>l0 kw no <| yes fun _ _=>rfl) <| Dc.or (xSub pe no fun _ _ _=>yes fun _ _=>rfl) <| xConst pe no fun _ _ _=>yes fun _ _=>rfl
noncomputable def plI (pe:Expr):Dc (plainIter pe):=
  Dc.or (xName pe no fun _ _=>yes fun _ _=>rfl) <| Dc.or (xCall pe no fun _ _ kw _=>l0 kw no <| yes fun _ _=>rfl) <| Dc.or (xSub pe no fun _ _ _=>yes fun _ _=>rfl) <| Dc.or (xBin pe no fun _ _ _ _=>yes fun _ _=>rfl) <| Dc.or (xTup pe no fun _ _ _=>yes fun _ _=>rfl) <| Dc.or (xLc pe no fun _ _ _ _=>yes fun _ _=>rfl) <| xList pe no fun _ _=>yes fun _ _=>rfl
noncomputable def plA (pe:Expr):Dc (∀ n env t,attributeBase pe n env t=t):=
  Dc.or (xName pe no fun _ _=>yes fun _ _ _=>rfl) <| Dc.or (xSub pe no fun _ _ _=>yes fun _ _ _=>rfl) <| xConst pe no fun _ _ _=>yes fun _ _ _=>rfl
noncomputable def plU (ts:List Expr) (k:Nat) (q:Pos) (pe:Expr):Dc (∀ env,swappedStores [.Tuple ts k q] pe env=pure none):=
  Dc.or (ifE pe.ctorIdx 5 fun h=>Expr.IfExp.elim pe h fun _ _ _ _=>yes fun _=>rfl) <| Dc.or (xName pe no fun _ _=>yes fun _=>rfl) <| Dc.or (xCall pe no fun _ _ kw _=>l0 kw no <| yes fun _=>rfl) <| xSub pe no fun _ _ _=>yes fun _=>rfl
noncomputable def cEs (a b:List (List Nat × D)):Dc (a=b):=by
  induction a generalizing b with
  | nil=>exact l0 b no (yes rfl)
  | cons x a ih=>
    refine lC b no fun y b=>?_
    obtain ⟨k,v⟩:=x; obtain ⟨l,u⟩:=y
    refine ifE k l fun e=>(ih b).b fun e2=>?_
    subst e; subst e2
    induction v using D.casesOn with
    | int i=>
      induction u using D.casesOn with
      | int j=>exact ifE i j fun e=>yes (e ▸ rfl)
      | _=>exact no
    | _=>exact no
noncomputable def cG (x:Str) (d:D):Dc (G x=some d):=by
  generalize G x=o
  refine oS o no fun a=>?_
  induction d using D.casesOn with
  | int i=>
    induction a using D.casesOn with
    | int j=>exact ifE j i fun e=>yes (e ▸ rfl)
    | _=>exact no
  | fn i=>
    induction a using D.casesOn with
    | fn j=>exact ifE j i fun e=>yes (e ▸ rfl)
    | _=>exact no
  | sdict i=>
    induction a using D.casesOn with
    | sdict j=>exact (cEs j i).b fun e=>yes (e ▸ rfl)
    | _=>exact no
  | _=>exact no
noncomputable def cN (S:Sx) (is:List Nat) (pes:List Expr):Dc (TrN S is pes):=by
  induction is generalizing pes with
  | nil=>exact l0 pes no (yes .nil)
  | cons i is ih=>exact lC pes no fun pe r=>xName pe no fun x p=>ap3 .cons (dE (S.vars.lookup x) (some i)) (dT (isLC (S.names.lookup x))) (ih r)
noncomputable def cTg (S:Sx) (tg:Tg) (pe:Expr):Dc (TrTg S tg pe):=by
  induction tg using Tg.casesOn with
  | v i=>exact xName pe no fun x p=>ap3 .v (dE (S.vars.lookup x) (some i)) (dT (isLC (S.names.lookup x))) (dT (nmOk x))
  | t is=>exact xTup pe no fun pes k p=>ap2 .t (dT (nodup is)) (cN S is pes)
section
variable {R:Sx→E→Expr→Prop} (r:∀ S e pe,Dc (R S e pe))
noncomputable def cL (S:Sx) (es:List E) (pes:List Expr):Dc (TrL R S es pes):=by
  induction es generalizing pes with
  | nil=>exact l0 pes no (yes .nil)
  | cons e es ih=>exact lC pes no fun pe q=>ap2 .cons (r S e pe) (ih q)
noncomputable def cO (S:Sx) (e:Option E) (pe:Option Expr):Dc (TrO R S e pe):=by
  induction e using Option.casesOn with
  | none=>exact oN pe no (yes .none)
  | some e=>exact oS pe no fun pe=>ap1 .some (r S e pe)
noncomputable def cTs {S:Sx} (t:∀ e pe,Dc (TrT R S e pe)) (es:List E) (pes:List Expr):Dc (TrTs R S es pes):=by
  induction es generalizing pes with
  | nil=>exact l0 pes no (yes .nil)
  | cons e es ih=>exact lC pes no fun pe q=>ap2 .cons (t e pe) (ih q)
noncomputable def cT (n:Nat) (S:Sx) (e:E) (pe:Expr):Dc (TrT R S e pe):=by
  induction n generalizing e pe with
  | zero=>exact no
  | succ n ih=>
    refine Dc.or (ifE e.ctorIdx 6 fun h=>E.not.elim e h fun e=>xUn pe no fun o q p=>ifV o no .Not (ap1 .not (ih e q))) <|
      Dc.or (ifE e.ctorIdx 7 fun h=>E.and.elim e h fun es=>xBool pe no fun o q p=>ifV o no .And (ap1 .and (cTs ih es q))) <|
      Dc.or (ifE e.ctorIdx 8 fun h=>E.or.elim e h fun es=>xBool pe no fun o q p=>ifV o no .Or (ap1 .or (cTs ih es q))) <|
      Dc.or (ifE e.ctorIdx 11 fun h=>E.cmp.elim e h fun o l q=>xCmp pe no fun pl ops crs p=>lC ops no fun po q3=>l0 q3 no <| lC crs no fun pr q4=>l0 q4 no <| ap4 .cmp (dE po (cmpOf o)) (dE (behindInMarks (cmpOf o) pr) false) (r S l pl) (r S q pr)) <|
      ap2 .val (plT pe) (r S e pe)
noncomputable def cI (S:Sx) (e:E) (pe:Expr):Dc (TrI R S e pe):=
  Dc.or (ifE e.ctorIdx 24 fun h=>E.enum.elim e h fun e=>xCall pe no fun g l kw p=>l0 kw no <| xName g no fun x q=>lC l no fun pe q0=>l0 q0 no <|  ap3 .enum (dT (bnOk S "enumerate")) (dE x "enumerate") (r S e pe)) <|
  ap1 .plain (r S e pe)
noncomputable def cGs (S:Sx) (gs:List (Tg × E × List E)) (pgs:List Comprehension):Dc (TrG R S gs pgs):=by
  induction gs generalizing pgs with
  | nil=>exact l0 pgs no (yes .nil)
  | cons g gs ih=>
    refine lC pgs no fun pg q=>?_
    obtain ⟨tg,it,cs⟩:=g; obtain ⟨ptg,pit,pcs,as⟩:=pg
    exact ifV as no 0 (ap5 .cons (plI pit) (cI r S it pit) (cTg S tg ptg) (cTs (cT r 9 S) cs pcs) (ih q))
noncomputable def cBi (S:Sx) (b:Bi) (es:List E) (x:Str) (q:Pos) (pes:List Expr) (p:Pos):Dc (TrE1 R S (.bi b es) (.Call (.Name x q) pes [] p)):=
  ifT (biOk b) fun a=>ifT (bnOk S (bn b)) fun c=>ifE x (bn b) fun d=>lC es no fun e es=>ap1 (fun f=>.bi a c d f) (cL r S (e :: es) pes)
noncomputable def cE1 (S:Sx) (e:E) (pe:Expr):Dc (TrE1 R S e pe):=by
  induction e using E.casesOn with
  | lit d=>
    refine xConst pe no fun v k p=>?_
    induction d using D.casesOn with
    | none=>exact ifV v no .none (yes .none)
    | bool b=>exact ifV v no (.bool b) (yes .bool)
    | int b=>exact ifV v no (.int b) (yes .int)
    | str b=>exact ifV v no (.str (mkS b)) (ap1 (fun a=>.str rfl (of_decide_eq_true a)) (dT (decide (b.length≤line))))
    | _=>exact no
  | tlit b=>exact xConst pe no fun v k p=>ifV v no (.str (mkS b)) (ap1 (fun a=>.tlit rfl (of_decide_eq_true a)) (dT (decide (b.length≤line))))
  | var i=>exact xName pe no fun x p=>ap2 .var (dE (S.vars.lookup x) (some i)) (dT (nmOk x))
  | glob d=>exact xName pe no fun x p=>ap2 .glob (dT (bnOk S x)) (cG x d)
  | bin o l q=>exact xBin pe no fun pl po pr p=>ap3 .bin (dE po (opOf o)) (r S l pl) (r S q pr)
  | neg e=>exact xUn pe no fun o q p=>ifV o no .USub (ap1 .neg (r S e q))
  | orv l q=>exact xBool pe no fun o vs p=>ifV o no .Or (lC vs no fun pl q1=>lC q1 no fun pr q2=>l0 q2 no <| ap2 .orv (r S l pl) (r S q pr))
  | ite t b o=>exact ifE pe.ctorIdx 5 fun h=>Expr.IfExp.elim pe h fun pt pb po p=>ap3 .ite (cT r 9 S t pt) (r S b pb) (r S o po)
  | cmp o l q=>exact xCmp pe no fun pl ops crs p=>lC ops no fun po q3=>l0 q3 no <| lC crs no fun pr q4=>l0 q4 no <| ap4 .cmp (dE po (cmpOf o)) (dE (behindInMarks (cmpOf o) pr) false) (r S l pl) (r S q pr)
  | list es=>exact xList pe no fun pes p=>ap1 .list (cL r S es pes)
  | tup es=>exact xTup pe no fun pes k p=>ap1 .tup (cL r S es pes)
  | edict=>exact ifE pe.ctorIdx 6 fun h=>Expr.Dict.elim pe h fun ks vs p=>l0 ks no (l0 vs no (yes .edict))
  | call f args io=>exact xCall pe no fun g pargs kw p=>l0 kw no <| xName g no fun x q=>lC args no fun a as=>ap3 .call (r S f (.Name x q)) (cL r S (a :: as) pargs) (dT (decide (pargs.length≤30)))
  | bi b es=>
    refine xCall pe no fun g pes kw p=>l0 kw no <| xName g no fun x q=>?_
    induction b using Bi.casesOn with
    | len=>exact lC es no fun e q0=>l0 q0 no <|  lC pes no fun pe q0=>l0 q0 no <|  ap3 .len (dT (bnOk S "len")) (dE x "len") (r S e pe)
    | list=>exact lC es no fun e q0=>l0 q0 no <|  lC pes no fun pe q0=>l0 q0 no <|  ap3 .blist (dT (bnOk S "list")) (dE x "list") (r S e pe)
    | isBool=>exact lC es no fun e q0=>l0 q0 no <|  lC pes no fun pe q1=>lC q1 no fun n q2=>l0 q2 no <| xName n no fun y z=>ap5 .isB (dT (bnOk S "isinstance")) (dT (bnOk S "bool")) (dE x "isinstance") (dE y "bool") (r S e pe)
    | isInt=>exact lC es no fun e q0=>l0 q0 no <|  lC pes no fun pe q1=>lC q1 no fun n q2=>l0 q2 no <| xName n no fun y z=>ap5 .isI (dT (bnOk S "isinstance")) (dT (bnOk S "int")) (dE x "isinstance") (dE y "int") (r S e pe)
    | dictzip=>exact lC es no fun e q1=>lC q1 no fun e' q2=>l0 q2 no <| lC pes no fun pe q0=>l0 q0 no <|  xCall pe no fun g l kw p'=>l0 kw no <| xName g no fun y z=>lC l no fun pa q1=>lC q1 no fun pb q2=>l0 q2 no <| ifT (bnOk S "dict") fun a=>ifT (bnOk S "zip") fun b=>ifE x "dict" fun c=>ifE y "zip" fun d=>(r S e pa).b fun f=>(r S e' pb).b fun f'=>yes (.dictzip a b c d f f')
    | _=>exact cBi r S _ es x q pes p
  | meth m o es=>exact xCall pe no fun g pes kw p=>l0 kw no <| xAttr g no fun po n ap=>ap6 (fun a b c d e f=>.meth a (b _) c d e f) (dE n (mn m)) (plA po) (dT (ap.endLine == p.line)) (dT (decide (pes.length < 30))) (r S o po) (cL r S es pes)
  | repl o old w=>exact xCall pe no fun g pes kw p=>l0 kw no <| xAttr g no fun po n ap=>lC pes no fun pold q1=>lC q1 no fun c q2=>l0 q2 no <| xConst c no fun v k q=>ifV v no (.str (mkS w)) <| ap6 (fun a b c d e f=>.repl a (b _) c rfl d e f) (dE n "replace") (plA po) (dT (ap.endLine == p.line)) (dT (decide (w.length≤line))) (r S o po) (r S old pold)
  | idx o i=>exact xSub pe no fun po pi p=>ap3 .idx (dT (notSlice pi)) (r S o po) (r S i pi)
  | idxT o i=>exact xSub pe no fun po pi p=>ap3 .idxT (dT (notSlice pi)) (r S o po) (r S i pi)
  | slc o l u rev=>
    refine xSub pe no fun po ps p=>ifE ps.ctorIdx 26 fun h=>Expr.Slice.elim ps h fun pl pu st q=>?_
    induction rev using Bool.casesOn with
    | false=>exact oN st no (ap3 .slc (r S o po) (cO r S l pl) (cO r S u pu))
    | true=>exact oS st no fun st=>xUn st no fun op c t=>xConst c no fun v k z=>ifV op no .USub <| ifV v no (.int 1) <| oN l no <| oN u no <| oN pl no <| oN pu no <| ap1 .slcR (r S o po)
  | comp elt gs=>
    refine xLc pe no fun pelt pgs scope p=>lC gs no fun g gs=>lC pgs no fun pg pgs=>?_
    obtain ⟨tg,it,cs⟩:=g; obtain ⟨ptg,pit,pcs,as⟩:=pg
    exact ifV as no 0 <| ap8 .comp' (dT _) (dT (enOk ((tg,it,cs) :: gs))) (plI pit) (cI r S it pit) (cTg _ tg ptg) (cTs (cT r 9 _) cs pcs) (cGs r _ gs pgs) (r _ elt pelt)
  | dcomp k v g=>
    refine ifE pe.ctorIdx 10 fun h=>Expr.DictComp.elim pe h fun pk pv pgs scope p=>lC pgs no fun pg q0=>l0 q0 no <|  ?_
    obtain ⟨tg,it⟩:=g; obtain ⟨ptg,pit,pcs,as⟩:=pg
    exact ifV as no 0 <| l0 pcs no <| ap7 .dcomp' (dT _) (dT (enOk [(tg,it,[])])) (plI pit) (cI r S it pit) (cTg _ tg ptg) (r _ k pk) (r _ v pv)
  | _=>exact no
noncomputable def cW (S:Sx) (i:Nat) (es:List E) (pes:List Expr):Dc (TrW R S i es pes):=by
  induction es generalizing pes with
  | nil=>exact l0 pes no (yes .nil)
  | cons e es ih=>exact lC pes no fun pe w=>xSub pe no fun o pi p=>xName o no fun x q=>ap5 .cons (dE (S.vars.lookup x) (some i)) (dT (nmOk x)) (dT (notSlice pi)) (r S e pi) (ih w)
noncomputable def cOp (o:Op):Dc (o=.add∨o=.sub∨o=.mul):=by
  induction o using Op.casesOn with
  | add=>exact yes (.inl rfl)
  | sub=>exact yes (.inr (.inl rfl))
  | mul=>exact yes (.inr (.inr rfl))
  | _=>exact no
variable {RS:Sx→Mine.S→Stmt→Prop} (rs:∀ S s ps,Dc (RS S s ps))
noncomputable def cSs (S:Sx) (ss:List Mine.S) (pss:List Stmt):Dc (TrSs RS S ss pss):=by
  induction ss generalizing pss with
  | nil=>exact l0 pss no (yes .nil)
  | cons s ss ih=>exact lC pss no fun ps q=>ap2 .cons (rs S s ps) (ih q)
noncomputable def cS1 (S:Sx) (s:Mine.S) (ps:Stmt):Dc (TrS1 R RS S s ps):=by
  induction s using Mine.S.casesOn with
  | app i e=>exact ifE ps.ctorIdx 24 fun h=>Stmt.Expr.elim ps h fun v p=>xCall v no fun g l kw cp=>l0 kw no <| xAttr g no fun o n ap=>xName o no fun x q=>lC l no fun pe q0=>l0 q0 no <|  ap5 .app (dE (S.vars.lookup x) (some i)) (dT (nmOk x)) (dE n "append") (dT (ap.endLine == cp.line)) (r S e pe)
  | ext i e=>exact ifE ps.ctorIdx 24 fun h=>Stmt.Expr.elim ps h fun v p=>xCall v no fun g l kw cp=>l0 kw no <| xAttr g no fun o n ap=>xName o no fun x q=>lC l no fun pe q0=>l0 q0 no <|  ap5 .ext (dE (S.vars.lookup x) (some i)) (dT (nmOk x)) (dE n "extend") (dT (ap.endLine == cp.line)) (r S e pe)
  | asg i e=>exact xAsg ps no fun ts v p=>lC ts no fun t q0=>l0 q0 no <|  xName t no fun x q=>ifE (S.vars.lookup x) (some i) fun a=>ifT (isLC (S.names.lookup x)) fun b=>ifT (nmOk x) fun c=>Dc.or (ifE e.ctorIdx 22 fun h=>E.comp.elim e h fun elt gs=>xLc v no fun pelt pgs scope z=>ap1 (fun d=>.asgC a b c d) (r S _ _)) (ap2 (fun d f=>.asg a b c d f) (dT (notComp v)) (r S e v))
  | asg2 i j e=>exact xAsg ps no fun ts v p=>lC ts no fun t q1=>lC q1 no fun t' q2=>l0 q2 no <| xName t no fun x q=>xName t' no fun y w=>ap7 .asg2 (dE (S.vars.lookup x) (some i)) (dT (isLC (S.names.lookup x))) (dE (S.vars.lookup y) (some j)) (dT (isLC (S.names.lookup y))) (dT (nmOk x)) (dT (nmOk y)) (r S e v)
  | unpk is e=>exact xAsg ps no fun ts v p=>lC ts no fun t q0=>l0 q0 no <|  xTup t no fun pes k q=>ap4 .unpk (plU pes k q v) (dT (nodup is)) (cN S is pes) (r S e v)
  | tupl is es=>exact xAsg ps no fun ts v p=>lC ts no fun t q0=>l0 q0 no <|  xTup t no fun pes k q=>xTup v no fun pvs k' q'=>ap5 .tupl (dT (nodup is)) (dT (decide (is.length≤3))) (cN S is pes) (cL r S es pvs) (Dc.or (ifT (pvs.all (foldedForSure 8)) fun h=>yes (.inl h)) (ifE (pvs.all (constantsAlone 8)) false fun h=>yes (.inr h)))
  | swp i is es=>exact xAsg ps no fun ts v p=>lC ts no fun t q0=>l0 q0 no <|  xTup t no fun pts k q=>xTup v no fun pvs k' q'=>ap3 .swp (dT (decide (is.length≤3))) (cW r S i is pts) (cL r S es pvs)
  | put i ie e=>exact xAsg ps no fun ts v p=>lC ts no fun t q0=>l0 q0 no <|  xSub t no fun o pi z=>xName o no fun x q=>ap6 .put (dE (S.vars.lookup x) (some i)) (dT (nmOk x)) (dT (notSlice pi)) (dT (notComp v)) (r S ie pi) (r S e v)
  | aug o i e=>exact xAug ps no fun t po v p=>xName t no fun x q=>ap6 .aug (dE po (opOf o)) (cOp o) (dE (S.vars.lookup x) (some i)) (dT (isLC (S.names.lookup x))) (dT (nmOk x)) (r S e v)
  | augput o i ie e=>exact xAug ps no fun t po v p=>xSub t no fun w pi z=>xName w no fun x q=>ap7 .augput (dE po (opOf o)) (cOp o) (dE (S.vars.lookup x) (some i)) (dT (nmOk x)) (dT (notSlice pi)) (r S ie pi) (r S e v)
  | ite t b o=>exact ifE ps.ctorIdx 12 fun h=>Stmt.If.elim ps h fun pt pb po p=>ap3 .ite (cT r 9 S t pt) (cSs rs S b pb) (cSs rs S o po)
  | whl t b=>exact ifE ps.ctorIdx 11 fun h=>Stmt.While.elim ps h fun pt pb po p=>l0 po no <| ap2 .whl (cT r 9 S t pt) (cSs rs S b pb)
  | «for» tg it b=>exact ifE ps.ctorIdx 9 fun h=>Stmt.For.elim ps h fun ptg pit pb po p=>l0 po no <| ap5 .for (dT (enOk [(tg,it,[])])) (plI pit) (cI r S it pit) (cTg S tg ptg) (cSs rs S b pb)
  | ret e=>exact ifE ps.ctorIdx 3 fun h=>Stmt.Return.elim ps h fun v p=>oS v no fun v=>ap1 .ret (r S e v)
  | tryb b=>exact ifE ps.ctorIdx 17 fun h=>Stmt.Try.elim ps h fun pb hs oe fb p=>lC hs no fun h hs=>l0 oe no <| l0 fb no <| ap1 .tryb (cSs rs S b pb)
end
noncomputable def cE (n:Nat):∀ S e pe,Dc (TrE n S e pe):=by
  induction n with
  | zero=>exact fun _ _ _=>no
  | succ n ih=>exact cE1 ih
noncomputable def cS (n:Nat):∀ S s ps,Dc (TrS n S s ps):=by
  induction n with
  | zero=>exact fun _ _ _=>no
  | succ n ih=>exact cS1 (cE n) ih
end
end Mine
end
section
open PySem PySem.W PyProof.Rows Mine
set_option maxRecDepth 100000
set_option maxHeartbeats 8000000
namespace G2
noncomputable def rc (i:Nat):DefRec:=match (recsOf vw2)[i]? with
  | some d=>d
  | none=>⟨"",⟨[],[],none,[],[],none,[]⟩,[],⟨.function,[],false,false,[]⟩,⟨0,0,0,0⟩⟩
theorem rc_mem {i:Nat} (h:i < 20):rc i∈recsOf vw2:=by
  have e:(recsOf vw2).length=20:=by kernel_rfl
  have e2:=List.getElem?_eq_getElem (e.symm ▸ h:i < (recsOf vw2).length)
  have:rc i=(recsOf vw2)[i]:=by delta rc; rw [e2]; rfl
  exact this ▸ List.getElem_mem _
noncomputable def vsOf (d:DefRec):List (Str × Nat):=((d.scope.names.filter fun p=>isLC (some p.2)).map (·.1)).zipIdx
noncomputable def Sof (vs:List (Str × Nat)) (d:DefRec) (f:FnDef):Sx:=⟨vs,d.scope.names,vs.length,f.nv⟩
noncomputable def psOf (vs:List (Str × Nat)) (f:FnDef):List Str:=(vs.map (·.1)).take f.np
noncomputable def TrAt (hT:Heap) (a:Addr) (f:FnDef) (S:Sx) (ps:List Str):Prop:=∃ o fd body,hT.get? a=some o∧o.data=.func fd∧hT.CodeRec fd.code fd.qualname∧TrF f fd S body ps
noncomputable def cF (vs:List (Str × Nat)) (d:DefRec) (f:FnDef):Dc (d.scope.kind=.function∧d.scope.isCoroutine=false∧d.scope.isGenerator=false∧ckFn (Sof vs d f) d.scope f.np f.nv (psOf vs f)=true∧TrSs (TrS 40) (Sof vs d f) f.body d.body):=
  ap5 (fun a b c d e=>⟨a,b,c,d,e⟩) (dE _ _) (dE _ _) (dE _ _) (dT _) (cSs (cS 40) _ _ _)
theorem fnT {loose:List Str} {mean:ExcName→Option Value} {mg mb:Str→Option Value} {h:Heap} (T:Top vw2 loose mean mg mb h) (i:Nat) (hi:i < 20) (vs:List (Str × Nat)) {a:Addr} (ha:mg (rc i).name=some (.ref a)) {f:FnDef} (hc:(cF vs (rc i) f).isSome=true)
    (hb:∀ (pm code doc:Value) (vals:List Value),vals.length=f.np→bindArgs (Calls.docDef (rc i).name (rc i).params (rc i).body (rc i).scope pm code doc) ⟨vals,[]⟩ = pure ((psOf vs f).zip vals)):∃ S ps,TrAt h a f S ps:=by
  obtain ⟨a',o,pm,code,doc,h1,h2,h3,h4⟩:=T.fn _ (rc_mem hi)
  obtain rfl:=Value.ref.inj (some1 (ha.symm.trans h1))
  obtain ⟨c1,c2,c3,c4,c5⟩:=Dc.get hc
  exact ⟨_,_,o,_,_,h2,h3,h4,⟨c1,c2,c3,rfl,rfl,rfl,rfl,c4,hb pm code doc,c5⟩⟩
theorem trs {p:Params} {loose:List Str} {mean:ExcName→Option Value} {mg mb:Str→Option Value} {h:Heap} (T:Top vw2 loose mean mg mb h) (K:(KF2 p).In h) :
    allP (fun q=>∃ S ps,TrAt h q.1 q.2 S ps) P:=
  ⟨fnT T 0 (by decide) (vsOf (rc 0)) (mg_of K T.g (by kernel_rfl)) (by kernel_rfl) fun _ _ _=>vl2 fun _ _=>rfl,
    fnT T 1 (by decide) (vsOf (rc 1)) (mg_of K T.g (by kernel_rfl)) (by kernel_rfl) fun _ _ _=>vl3 fun _ _ _=>rfl,
    fnT T 2 (by decide) (vsOf (rc 2)) (mg_of K T.g (by kernel_rfl)) (by kernel_rfl) fun _ _ _=>vl1 fun _=>rfl,
    fnT T 3 (by decide) (vsOf (rc 3)) (mg_of K T.g (by kernel_rfl)) (by kernel_rfl) fun _ _ _=>vl1 fun _=>rfl,
    fnT T 4 (by decide) (vsOf (rc 4)) (mg_of K T.g (by kernel_rfl)) (by kernel_rfl) fun _ _ _=>vl1 fun _=>rfl,
    fnT T 6 (by decide) (vsOf (rc 6)) (mg_of K T.g (by kernel_rfl)) (by kernel_rfl) fun _ _ _=>vl1 fun _=>rfl,
    fnT T 7 (by decide) (vsOf (rc 7)) (mg_of K T.g (by kernel_rfl)) (by kernel_rfl) fun _ _ _=>vl1 fun _=>rfl,
    fnT T 8 (by decide) (vsOf (rc 8)) (mg_of K T.g (by kernel_rfl)) (by kernel_rfl) fun _ _ _=>vl1 fun _=>rfl,
    fnT T 9 (by decide) (vsOf (rc 9)) (mg_of K T.g (by kernel_rfl)) (by kernel_rfl) fun _ _ _=>vl1 fun _=>rfl,
    fnT T 10 (by decide) (vsOf (rc 10)) (mg_of K T.g (by kernel_rfl)) (by kernel_rfl) fun _ _ _=>vl1 fun _=>rfl,
    fnT T 11 (by decide) (vsOf (rc 11)) (mg_of K T.g (by kernel_rfl)) (by kernel_rfl) fun _ _ _=>vl1 fun _=>rfl,
    fnT T 12 (by decide) (vsOf (rc 12)) (mg_of K T.g (by kernel_rfl)) (by kernel_rfl) fun _ _ _=>vl1 fun _=>rfl,
    fnT T 13 (by decide) (vsOf (rc 13)) (mg_of K T.g (by kernel_rfl)) (by kernel_rfl) fun _ _ _=>vl1 fun _=>rfl,
    fnT T 14 (by decide) (vsOf (rc 14)) (mg_of K T.g (by kernel_rfl)) (by kernel_rfl) fun _ _ _=>vl2 fun _ _=>rfl,
    fnT T 15 (by decide) (vsOf (rc 15)) (mg_of K T.g (by kernel_rfl)) (by kernel_rfl) fun _ _ _=>vl2 fun _ _=>rfl,
    fnT T 16 (by decide) (vsOf (rc 16)) (mg_of K T.g (by kernel_rfl)) (by kernel_rfl) fun _ _ _=>vl4 fun _ _ _ _=>rfl,
    fnT T 17 (by decide) (vsOf (rc 17)) (mg_of K T.g (by kernel_rfl)) (by kernel_rfl) fun _ _ _=>vl2 fun _ _=>rfl,
    fnT T 18 (by decide) (vsOf (rc 18)) (mg_of K T.g (by kernel_rfl)) (by kernel_rfl) fun _ _ _=>vl2 fun _ _=>rfl,
    fnT T 19 (by decide) (vsOf (rc 19)) (mg_of K T.g (by kernel_rfl)) (by kernel_rfl) fun _ _ _=>vl1 fun _=>rfl,trivial⟩
end G2
end
section
set_option autoImplicit false
namespace Mine
section
variable {P:List (Nat × FnDef)} {n:Nat} {σ σ₁ σ₂ σ₃:St}
theorem r_sh {i:Nat} {d:D} (h:σ.get i=some (.sh,d)):(Ev P (n+1)).ev (.var i) σ=some (d,σ):=congrArg (rdVar σ i) h
theorem r_lit {d:D}:(Ev P (n+1)).ev (.lit d) σ=some (d,σ):=rfl
theorem r_glob {d:D}:(Ev P (n+1)).ev (.glob d) σ=some (d,σ):=rfl
theorem bnn {α β:Type} {x:Option α} {a:α} {f:α→Option β} {b:Option β} (h:x=some a) (k:f a=b):x.bind f=b:=h ▸ k
theorem mpn {α β:Type} {x:Option α} {a:α} {f:α→β} (h:x=some a):x.map f=some (f a):=h ▸ rfl
theorem r_bin {l r:E} {o:Op} {a b d:D} (h1:(Ev P n).ev l σ=some (a,σ₁)) (h2:(Ev P n).ev r σ₁=some (b,σ₂)) (h3:binD o a b=some d):(Ev P (n+1)).ev (.bin o l r) σ=some (d,σ₂):=bnn h1 (bnn h2 (mpn h3))
theorem r_cmp {l r:E} {o:Cmp} {a b:D} {c:Bool} (h1:(Ev P n).ev l σ=some (a,σ₁)) (h2:(Ev P n).ev r σ₁=some (b,σ₂)) (h3:cmpD o a b=some c) (h0:isEq o=false):(Ev P (n+1)).ev (.cmp o l r) σ=some (.bool c,σ₂):=bnn h1 (bnn (by rw [h0]; exact h2) (mpn h3))
theorem r_eq {l r:E} {a b:D} {c:Bool} (h1:(Ev P n).ev l σ=some (a,σ₁)) (h2:(Ev P n).ev r σ₁=some (b,σ₂)) (h3:cmpD .eq a b=some c):(Ev P (n+1)).ev (.cmp .eq l r) σ=some (.bool c,σ₂):=r_cmp h1 h2 h3 rfl
theorem r_lt {l r:E} {a b:D} {c:Bool} (h1:(Ev P n).ev l σ=some (a,σ₁)) (h2:(Ev P n).ev r σ₁=some (b,σ₂)) (h3:cmpD .lt a b=some c):(Ev P (n+1)).ev (.cmp .lt l r) σ=some (.bool c,σ₂):=r_cmp h1 h2 h3 rfl
theorem r_gt {l r:E} {a b:D} {c:Bool} (h1:(Ev P n).ev l σ=some (a,σ₁)) (h2:(Ev P n).ev r σ₁=some (b,σ₂)) (h3:cmpD .gt a b=some c):(Ev P (n+1)).ev (.cmp .gt l r) σ=some (.bool c,σ₂):=r_cmp h1 h2 h3 rfl
theorem r_ge {l r:E} {a b:D} {c:Bool} (h1:(Ev P n).ev l σ=some (a,σ₁)) (h2:(Ev P n).ev r σ₁=some (b,σ₂)) (h3:cmpD .ge a b=some c):(Ev P (n+1)).ev (.cmp .ge l r) σ=some (.bool c,σ₂):=r_cmp h1 h2 h3 rfl
theorem r_isNot {l r:E} {a b:D} {c:Bool} (h1:(Ev P n).ev l σ=some (a,σ₁)) (h2:(Ev P n).ev r σ₁=some (b,σ₂)) (h3:cmpD .isNot a b=some c):(Ev P (n+1)).ev (.cmp .isNot l r) σ=some (.bool c,σ₂):=r_cmp h1 h2 h3 rfl
noncomputable def nv:E→Bool
  | .var _=>false
  | _=>true
theorem r_pe {e:E} {r:Option (D × St)} (h:(Ev P n).ev e σ=r) (h0:nv e=true):peek (Ev P n) e σ=r:=by
  induction e using E.casesOn <;> first | exact h | exact absurd h0 Bool.false_ne_true
theorem r_ae {e:E} {d:D} (h0:nv e=true):again e d σ=some d:=by
  induction e using E.casesOn <;> first | rfl | exact absurd h0 Bool.false_ne_true
theorem op_s {e:E} {r:Option (D × St)} (h:(Ev P n).ev e σ=r):optE (Ev P n) (some e) σ=r:=h
theorem r_p {i:Nat} {o:Own} {d:D} (h:σ.get i=some (o,d)):peek (Ev P n) (.var i) σ=some (d,σ):=mpn h
theorem r_ag {i:Nat} {o:Own} {d e:D} (h:σ.get i=some (o,d)):again (.var i) e σ=some d:=mpn h
theorem r_len {e:E} {a d:D} (h1:peek (Ev P n) e σ=some (a,σ₁)) (h3:biD .len [a]=some d):(Ev P (n+1)).ev (.bi .len [e]) σ=some (d,σ₁):=bnn h1 (mpn h3)
theorem r_bi {b:Bi} {es:List E} {as:List D} {d:D} (h1:evs (Ev P n) es σ=some (as,σ₁)) (h3:biD b as=some d) (h:b≠.len) (h':b≠.list):(Ev P (n+1)).ev (.bi b es) σ=some (d,σ₁):=(x_bi h h').trans (bnn h1 (mpn h3))
theorem r_idxv {i:E} {k:Nat} {o:Own} {L x d:D} (h:σ.get k=some (o,L)) (h1:(Ev P n).ev i σ=some (x,σ)) (h3:idxD L x=some d):(Ev P (n+1)).ev (.idx (.var k) i) σ=some (d,σ):=bnn (mpn h) (bnn h1 (bnn (mpn h) (mpn h3)))
theorem r_idx {i e:E} {L L' x d:D} (h:peek (Ev P n) e σ=some (L,σ₁)) (h1:(Ev P n).ev i σ₁=some (x,σ₂)) (h2:again e L σ₂=some L') (h3:idxD L' x=some d):(Ev P (n+1)).ev (.idx e i) σ=some (d,σ₂):=bnn h (bnn h1 (bnn h2 (mpn h3)))
theorem r_slc {e:E} {l u:Option E} {rev:Bool} {L L' x y d:D} (h:peek (Ev P n) e σ=some (L,σ₁)) (h1:optE (Ev P n) l σ₁=some (x,σ₂)) (h2:optE (Ev P n) u σ₂=some (y,σ₃)) (h4:again e L σ₃=some L') (h3:slcD L' x y rev=some d):(Ev P (n+1)).ev (.slc e l u rev) σ=some (d,σ₃):=bnn h (bnn h1 (bnn h2 (bnn h4 (mpn h3))))
theorem r_call {a:Nat} {args:List E} {as:List Slot} {d:D} {z:Option Slot} (h1:argsE (Ev P (n+1)) false args σ=some (as,σ₁)) (h2:(Ev P (n+1)).call a as=some (d,z)):(Ev P (n+2)).ev (.call (.glob (.fn a)) args false) σ=some (d,σ₁):=by
  have e:(Ev P (n+2)).ev (.call (.glob (.fn a)) args false) σ=(argsE (Ev P (n+1)) false args σ).bind fun q=>((Ev P (n+1)).call a q.1).bind fun r=>some (r.1,q.2):=rfl
  exact e.trans (bnn h1 (bnn h2 rfl))
theorem r_a1 {e:E} {d:D} (h:(Ev P n).ev e σ=some (d,σ₁)):argsE (Ev P n) false [e] σ=some ([(.sh,d)],σ₁):=mpn h
theorem r_ac {e e':E} {r:List E} {d:D} {as:List Slot} (h:(Ev P n).ev e σ=some (d,σ₁)) (h1:argsE (Ev P n) false (e' :: r) σ₁=some (as,σ₂)):argsE (Ev P n) false (e :: e' :: r) σ=some ((.sh,d) :: as,σ₂):=bnn h (mpn h1)
theorem r_es {e:E} {r:List E} {d:D} {as:List D} (h:(Ev P n).ev e σ=some (d,σ₁)) (h1:evs (Ev P n) r σ₁=some (as,σ₂)):evs (Ev P n) (e :: r) σ=some (d :: as,σ₂):=bnn h (mpn h1)
theorem r_os {e:E} {r:List E} {o:Own} {d:D} {as:List Slot} (h:(Ev P n).evO e σ=some (o,d,σ₁)) (h1:evOs (Ev P n) r σ₁=some (as,σ₂)):evOs (Ev P n) (e :: r) σ=some ((o,d) :: as,σ₂):=bnn h (mpn h1)
theorem o_v {e:E} {d:D} (h:(Ev P n).ev e σ=some (d,σ₁)) (h0:isO e=false):(Ev P (n+1)).evO e σ=some (.sh,d,σ₁):=(o_sh h0).trans (congrArg shO h)
theorem r_meth {m:Mt} {e:E} {es:List E} {L L' d:D} {as:List D} (h:peek (Ev P n) e σ=some (L,σ₁)) (h1:evs (Ev P n) es σ₁=some (as,σ₂)) (h2:again e L σ₂=some L') (h3:methD m L' as=some d) (h4:kd L=kd L'):(Ev P (n+1)).ev (.meth m e es) σ=some (d,σ₂):=bnn h (bnn h1 (bnn h2 ((if_pos h4).trans (mpn h3))))
theorem t_v {e:E} {d:D} {b:Bool} (h:(Ev P n).ev e σ=some (d,σ₁)) (h1:truD d=some b) (h0:isT' e=false):(Ev P (n+1)).evT e σ=some (b,σ₁):=(t_val h0).trans (bnn h (mpn h1))
theorem t_n {e:E} {b:Bool} (h:(Ev P n).evT e σ=some (b,σ₁)):(Ev P (n+1)).evT (.not e) σ=some (!b,σ₁):=mpn h
theorem r_asg {x:Nat} {e:E} {o:Own} {d:D} (h:(Ev P n).evO e σ=some (o,d,σ₁)):(Ev P (n+1)).ex (.asg x e) σ=some (.next,σ₁.put x (o,d)):=mpn h
theorem r_tupl {xs:List Nat} {es:List E} {as:List Slot} (h:evOs (Ev P n) es σ=some (as,σ₁)) (h1:putAll xs as σ₁=some σ₂):(Ev P (n+1)).ex (.tupl xs es) σ=some (.next,σ₂):=bnn h (mpn h1)
theorem r_ret {e:E} {d:D} (h:(Ev P n).ev e σ=some (d,σ₁)):(Ev P (n+1)).ex (.ret e) σ=some (.ret d,σ₁):=mpn h
theorem r_if {t:E} {x y:List S} {c:Bool} {r:Option (Fl × St)} (h1:(Ev P n).evT t σ=some (c,σ₁)) (h2:(if c=true then exs (Ev P n) x σ₁ else exs (Ev P n) y σ₁)=r):(Ev P (n+1)).ex (.ite t x y) σ=r:=bnn h1 h2
theorem i_t {α:Type} {x y r:α} (h:x=r):(if true=true then x else y)=r:=h
theorem i_n {α:Type} {x y r:α} {c:Bool} (h:(if c=true then y else x)=r):(if (!c)=true then x else y)=r:=by
  induction c using Bool.rec <;> exact h
theorem i_f {α:Type} {x y r:α} (h:y=r):(if false=true then x else y)=r:=h
theorem i_dt {α:Type} {x y r:α} {p:Prop} {_:Decidable p} (hp:p) (h:x=r):(if decide p=true then x else y)=r:=(if_pos (decide_eq_true hp)).trans h
theorem i_df {α:Type} {x y r:α} {p:Prop} {_:Decidable p} (hp:¬ p) (h:y=r):(if decide p=true then x else y)=r:=(if_neg (Bool.eq_false_iff.mp (decide_eq_false hp))).trans h
theorem xs_r {e:E} {r:List S} {d:D} (h:(Ev P n).ev e σ=some (d,σ₁)):exs (Ev P (n+1)) (.ret e :: r) σ=some (.ret d,σ₁):=congrArg (thenX _) (r_ret h)
theorem xs_c {s:S} {r:List S} {x:Option (Fl × St)} (h:(Ev P n).ex s σ=some (.next,σ₁)) (k:exs (Ev P n) r σ₁=x):exs (Ev P n) (s :: r) σ=x:=(congrArg (thenX _) h).trans k
theorem r_asg' {x:Nat} {e:E} {o:Own} {d:D} (h:(Ev P n).evO e σ=some (o,d,σ₁)) (h1:σ₁.put x (o,d)=σ₂):(Ev P (n+1)).ex (.asg x e) σ=some (.next,σ₂):=h1 ▸ mpn h
theorem a_g {e:E} {es:List E} {c:Bool} {r:Option (Bool × St)} (h:(Ev P n).evT e σ=some (c,σ₁)) (k:(if c=true then allT (Ev P n) es σ₁ else some (false,σ₁))=r):allT (Ev P n) (e :: es) σ=r:=bnn h k
theorem y_g {e:E} {es:List E} {c:Bool} {r:Option (Bool × St)} (h:(Ev P n).evT e σ=some (c,σ₁)) (k:(if c=true then some (true,σ₁) else anyT (Ev P n) es σ₁)=r):anyT (Ev P n) (e :: es) σ=r:=bnn h k
theorem r_and {es:List E} {r:Option (Bool × St)} (h:allT (Ev P n) es σ=r):(Ev P (n+1)).evT (.and es) σ=r:=h
theorem r_or {es:List E} {r:Option (Bool × St)} (h:anyT (Ev P n) es σ=r):(Ev P (n+1)).evT (.or es) σ=r:=h
theorem o_l {es:List E} {as:List D} (h:evs (Ev P n) es σ=some (as,σ₁)) (h1:as.length≤line):(Ev P (n+1)).evO (.list es) σ=some (.own,.list as,σ₁):=bnn h (if_pos h1)
theorem r_unpk {xs:List Nat} {e:E} {d:D} (h:(Ev P n).ev e σ=some (d,σ₁)) (h1:bindTup xs d σ₁=some σ₂):(Ev P (n+1)).ex (.unpk xs e) σ=some (.next,σ₂):=bnn h (mpn h1)
theorem r_aug {o:Op} {x:Nat} {e:E} {old d:D} {r:Int} (h0:σ.get x=some (.sh,old)) (h1:(Ev P n).ev e σ=some (d,σ₁)) (h2:binD o old d=some (.int r)):(Ev P (n+1)).ex (.aug o x e) σ=some (.next,σ₁.put x (.sh,.int r)):=bnn (congrArg shGet h0) (bnn h1 (mpn (congrArg (·.bind intD) h2)))
theorem r_orv {l r:E} {a:D} {c:Bool} {x:Option (D × St)} (h:(Ev P n).ev l σ=some (a,σ₁)) (h1:truD a=some c) (h2:(if c=true then some (a,σ₁) else (Ev P n).ev r σ₁)=x):(Ev P (n+1)).ev (.orv l r) σ=x:=bnn h (bnn h1 h2)
theorem ll {a:Nat} (h:Nat.ble a line=true):a≤line:=Nat.le_of_ble_eq_true h
theorem o_e:(Ev P (n+1)).evO .edict σ=some (.own,.idict [],σ):=rfl
theorem st_e {e:E} {r:Option (D × St)} (h:(Ev P (n+1)).ev e σ=r):stepEv (Ev P n) e σ=r:=h
theorem st_o {e:E} {r:Option (Own × D × St)} (h:(Ev P (n+1)).evO e σ=r):stepO (Ev P n) e σ=r:=h
theorem ap {x:Nat} {d:D} {o:Own} {xs:List D} (h:xs.length < line) (h0:o≠.sh) (h1:σ.put x (o,.list (xs++[d]))=σ₁):appSlot σ x d (some (o,.list xs))=some (.next,σ₁):=by
  induction o using Own.casesOn with
  | sh=>exact absurd rfl h0
  | _=>rw [← h1]; exact if_pos h
noncomputable def ne':E→Bool
  | .enum _=>false
  | _=>true
theorem it_p {e:E} {d:D} {l:List D} (h:(Ev P n).ev e σ=some (d,σ₁)) (h1:itemsD d=some l) (h0:ne' e=true):items (Ev P n) e σ=some (l,σ₁):=by
  induction e using E.casesOn <;> first | exact absurd h0 Bool.false_ne_true | exact bnn h (mpn h1)
theorem r_for {tg:Tg} {it:E} {b:List S} {l:List D} {r:Option (Fl × St)} (h:items (Ev P n) it σ=some (l,σ₁)) (k:forL (Ev P n) tg b l σ₁=r):(Ev P (n+1)).ex (.for tg it b) σ=r:=bnn h k
theorem i_ct {α:Type} {x y r:α} {c:Bool} (hp:c=true) (h:x=r):(if c=true then x else y)=r:=(if_pos hp).trans h
theorem i_cf {α:Type} {x y r:α} {c:Bool} (hp:c=false) (h:y=r):(if c=true then x else y)=r:=(if_neg (Bool.eq_false_iff.mp hp)).trans h
theorem xs_if {t:E} {b o:List S} {r:List S} {c:Bool} {x:Option (Fl × St)} (h1:(Ev P n).evT t σ=some (c,σ₁)) (h2:(if c=true then thenX (exs (Ev P (n+1)) r) (exs (Ev P n) b σ₁) else thenX (exs (Ev P (n+1)) r) (exs (Ev P n) o σ₁))=x):exs (Ev P (n+1)) (.ite t b o :: r) σ=x:=by
  refine (congrArg (thenX _) (bnn h1 rfl)).trans ?_
  induction c using Bool.rec <;> exact h2
theorem tx_0 {k:St→Option (Fl × St)} {x:Option (Fl × St)} (h:k σ=x):thenX k (exs (Ev P n) [] σ)=x:=h
theorem tx_r {k:St→Option (Fl × St)} {e:E} {r:List S} {d:D} (h:(Ev P n).ev e σ=some (d,σ₁)):thenX k (exs (Ev P (n+1)) (.ret e :: r) σ)=some (.ret d,σ₁):=congrArg (thenX k) (xs_r h)
theorem tx_c {k:St→Option (Fl × St)} {s:S} {r:List S} {x:Option (Fl × St)} (h:(Ev P n).ex s σ=some (.next,σ₁)) (h1:thenX k (exs (Ev P n) r σ₁)=x):thenX k (exs (Ev P n) (s :: r) σ)=x:=(congrArg (thenX k) (xs_c h rfl)).trans h1
theorem r_put {x:Nat} {i e:E} {d iv L L':D} {s:Slot} (h:(Ev P n).ev e σ=some (d,σ₁)) (h0:σ₁.get x=some s) (h1:(Ev P n).ev i σ₁=some (iv,σ₂)) (h2:σ₂.get x=some (.own,L)) (h3:setD L iv d=some L'):(Ev P (n+1)).ex (.put x i e) σ=some (.next,σ₂.put x (.own,L')):=by
  refine bnn h (mpn ?_)
  show swpL (Ev P n) x [i] [d] σ₁=_
  rw [w_cons,h0]
  exact bnn h1 (bnn (congrArg ownGet h2) (bnn h3 rfl))
theorem r_asg2 {x y:Nat} {e:E} {d:D} (h:(Ev P n).ev e σ=some (d,σ₁)):(Ev P (n+1)).ex (.asg2 x y e) σ=some (.next,(σ₁.put x (.sh,d)).put y (.sh,d)):=mpn h
theorem a_1 {e:E} {c:Bool} (h:(Ev P n).evT e σ=some (c,σ₁)):allT (Ev P n) [e] σ=some (c,σ₁):=by
  refine bnn h ?_; induction c using Bool.rec <;> rfl
theorem y_1 {e:E} {c:Bool} (h:(Ev P n).evT e σ=some (c,σ₁)):anyT (Ev P n) [e] σ=some (c,σ₁):=by
  refine bnn h ?_; induction c using Bool.rec <;> rfl
theorem r_whl_f {t:E} {b:List S} (h:(Ev P n).evT t σ=some (false,σ₁)):(Ev P (n+1)).ex (.whl t b) σ=some (.next,σ₁):=bnn h rfl
theorem r_whl_t {t:E} {b:List S} {r:Option (Fl × St)} (h:(Ev P n).evT t σ=some (true,σ₁)) (h1:exs (Ev P n) b σ₁=some (.next,σ₂)) (h2:(Ev P n).ex (.whl t b) σ₂=r):(Ev P (n+1)).ex (.whl t b) σ=r:=bnn h ((congrArg (thenX _) h1).trans h2)
theorem f_c {tg:Tg} {b:List S} {d:D} {r:List D} {x:Option (Fl × St)} (h:bindT tg d σ=some σ₁) (h1:exs (Ev P n) b σ₁=some (.next,σ₂)) (h2:forL (Ev P n) tg b r σ₂=x):forL (Ev P n) tg b (d :: r) σ=x:=bnn h ((congrArg (thenX _) h1).trans h2)
theorem tf_c {k:St→Option (Fl × St)} {tg:Tg} {b:List S} {d:D} {r:List D} {x:Option (Fl × St)} (h:bindT tg d σ=some σ₁) (h1:exs (Ev P n) b σ₁=some (.next,σ₂)) (h2:thenX k (forL (Ev P n) tg b r σ₂)=x):thenX k (forL (Ev P n) tg b (d :: r) σ)=x:=(congrArg (thenX k) (f_c h h1 rfl)).trans h2
theorem tf_r {k:St→Option (Fl × St)} {tg:Tg} {b:List S} {d v:D} {r:List D} (h:bindT tg d σ=some σ₁) (h1:exs (Ev P n) b σ₁=some (.ret v,σ₂)):thenX k (forL (Ev P n) tg b (d :: r) σ)=some (.ret v,σ₂):=by
  have e:forL (Ev P n) tg b (d :: r) σ=some (.ret v,σ₂):=bnn h ((congrArg (thenX _) h1).trans rfl)
  rw [e]; rfl
theorem o_bl {e:E} {a d:D} (h:(Ev P n).ev e σ=some (a,σ₁)) (h1:biD .list [a]=some d):(Ev P (n+1)).evO (.bi .list [e]) σ=some (.own,d,σ₁):=bnn h (mpn h1)
theorem xs_for {tg:Tg} {it:E} {b r:List S} {l:List D} {x:Option (Fl × St)} (h:items (Ev P n) it σ=some (l,σ₁)) (k:thenX (exs (Ev P (n+1)) r) (forL (Ev P n) tg b l σ₁)=x):exs (Ev P (n+1)) (.for tg it b :: r) σ=x:=(congrArg (thenX _) (r_for h rfl)).trans k
theorem xs_e {s:S} {r:List S} {d:D} (h:(Ev P n).ex s σ=some (.ret d,σ₁)):exs (Ev P n) (s :: r) σ=some (.ret d,σ₁):=congrArg (thenX _) h
end
end Mine
end
section
set_option autoImplicit false
namespace Mine
section
variable {P:List (Nat × FnDef)} {n:Nat}
noncomputable def start (f:FnDef) (ss:List Slot):St:=ss.map some++List.replicate (f.nv - f.np) none
theorem call_of {a:Nat} {f:FnDef} {ss:List Slot} {d:D} {σ:St} (hf:P.lookup a=some f) (hl:ss.length=f.np) (h:exs (Ev P n) f.body (start f ss)=some (.ret d,σ)) (hb:okBack ss.getLast? (σ.get (f.np - 1))=true) :
    (Ev P (n+1)).call a ss=some (weak d,σ.get (f.np - 1)):=by
  delta start at h
  rw [call_s]; delta stepC
  rw [hf,Option.bind_some,if_pos hl,h,Option.bind_some]
  exact if_pos hb
noncomputable def subC (c d:Nat):Int:=if c=d then 0 else if lowC c=lowC d then 1 else 2
theorem c21 (h21:P.lookup 21=some G2.f_substitution_cost) {c d:Nat} (hc:c < 128) (hd:d < 128):(Ev P (n+6)).call 21 [(.sh,.str [c]),(.sh,.str [d])]=some (.int (subC c d),some (.sh,.str [d])):=by
  have e:exs (Ev P (n+5)) G2.b_substitution_cost (start G2.f_substitution_cost [(.sh,.str [c]),(.sh,.str [d])])=some (.ret (.int (subC c d)),[some (.sh,.str [c]),some (.sh,.str [d])]):=by
    delta G2.b_substitution_cost start G2.f_substitution_cost
    have l1:methD .lower (.str [c]) []=some (.str [lowC c]):=by simp [methD,ascii,hc,line]
    have l2:methD .lower (.str [d]) []=some (.str [lowC d]):=by simp [methD,ascii,hd,line]
    by_cases h1:c=d
    · subst h1
      rw [subC,if_pos rfl]
      exact xs_if (t_v (r_eq (r_sh rfl) (r_sh rfl) rfl) rfl rfl) (i_ct (beq_self_eq_true [c]) (tx_r rfl))
    · have n1:([c] == [d])=false:=beq_false_of_ne fun q=>h1 (List.cons.inj q).1
      rw [subC,if_neg h1]
      by_cases h2:lowC c=lowC d
      · rw [if_pos h2]; rw [h2] at l1
        exact xs_if (t_v (r_eq (r_sh rfl) (r_sh rfl) rfl) rfl rfl) (i_cf n1 (tx_0 (xs_if (t_v (r_eq (r_meth (r_p rfl) rfl (r_ag rfl) l1 rfl) (r_meth (r_p rfl) rfl (r_ag rfl) l2 rfl) rfl) rfl rfl) (i_ct (beq_self_eq_true [lowC d]) (tx_r rfl)))))
      · have n2:([lowC c] == [lowC d])=false:=beq_false_of_ne fun q=>h2 (List.cons.inj q).1
        rw [if_neg h2]
        exact xs_if (t_v (r_eq (r_sh rfl) (r_sh rfl) rfl) rfl rfl) (i_cf n1 (tx_0 (xs_if (t_v (r_eq (r_meth (r_p rfl) rfl (r_ag rfl) l1 rfl) (r_meth (r_p rfl) rfl (r_ag rfl) l2 rfl) rfl) rfl rfl) (i_cf n2 (tx_0 (xs_r rfl))))))
  exact call_of h21 rfl e rfl
end
end Mine
end
section
set_option autoImplicit false
namespace Mine
theorem sml_nat {k:Nat} (h:k < 2 ^ 60):sml (k:Int)=true:=by
  delta sml; rw [decide_eq_true_eq,Int.natAbs_natCast]
  exact Nat.lt_of_lt_of_le h (by decide)
theorem sml_of {i:Int} (h:i.natAbs < 2 ^ 60):sml i=true:=by
  delta sml; rw [decide_eq_true_eq]; exact Nat.lt_of_lt_of_le h (by decide)
theorem slc_drop {a:List Nat} {k:Nat} (h:k < 2 ^ 60):slcD (.str a) (.int k) .none false=some (.str (a.drop k)):=by
  simp only [slcD,sl_l,sl_w,sl_s,oi_n,oi_i,Option.bind_some,sml_nat h,if_true,cut,bnd]
  rw [if_pos (by exact Int.natCast_nonneg k),List.take_length,Int.toNat_natCast]
  congr 2
  rw [show k.min a.length=min k a.length from rfl]
  by_cases hk:k≤a.length
  · rw [Nat.min_eq_left hk]
  · rw [Nat.min_eq_right (by exact Nat.le_of_not_ge hk),List.drop_length,List.drop_eq_nil_of_le (by exact Nat.le_of_not_ge hk)]
theorem idx_str {a:List Nat} {k:Nat} (h:k < 2 ^ 60):idxD (.str a) (.int k)=(a[k]?).map fun c=>.str [c]:=by
  simp only [idxD,sml_nat h,if_true,nth]
  rw [if_pos (by exact Int.natCast_nonneg k),Int.toNat_natCast]
noncomputable def cpl:List Nat→List Nat→Nat
  | x :: a,y :: b=>if x=y then cpl a b+1 else 0
  | _,_=>0
theorem cpl_z {b:List Nat}:cpl [] b=0:=rfl
theorem cpl_m {x:Nat} {a:List Nat}:cpl (x :: a) []=0:=rfl
theorem cpl_c {x y:Nat} {a b:List Nat}:cpl (x :: a) (y :: b)=if x=y then cpl a b+1 else 0:=rfl
theorem cpl_le1:∀ (a b:List Nat),cpl a b≤a.length
  | [],_=>by simp [cpl_z,cpl_m]
  | x :: a,[]=>by simp [cpl_z,cpl_m]
  | x :: a,y :: b=>by
    rw [cpl_c]; split
    · have:=cpl_le1 a b; simp; assumption
    · simp
theorem cpl_le2:∀ (a b:List Nat),cpl a b≤b.length
  | [],_=>by simp [cpl_z,cpl_m]
  | x :: a,[]=>by simp [cpl_z,cpl_m]
  | x :: a,y :: b=>by
    rw [cpl_c]; split
    · have:=cpl_le2 a b; simp; assumption
    · simp
theorem cpl_take:∀ (a b:List Nat),a.take (cpl a b)=b.take (cpl a b)
  | [],_=>by simp [cpl_z,cpl_m]
  | x :: a,[]=>by simp [cpl_z,cpl_m]
  | x :: a,y :: b=>by
    rw [cpl_c]; split
    · rename_i h; subst h; simp [cpl_take a b]
    · simp
section
variable {P:List (Nat × FnDef)} {n:Nat}
noncomputable def t1:E:=.and [(.slc (.var 0) (some (.var 3)) none false),(.slc (.var 1) (some (.var 3)) none false),(.cmp .eq (.idx (.var 0) (.var 3)) (.idx (.var 1) (.var 3)))]
noncomputable def w1:S:=.whl t1 [.aug .add 3 (.lit (.int 1))]
noncomputable def σ1 (a b:List Nat) (m:Int) (k:Int):St:=[some (.sh,.str a),some (.sh,.str b),some (.sh,.int m),some (.sh,.int k),none,none,none,none,none,none,none,none,none,none]
theorem c_one {x y:Nat}:cmpD .eq (.str [x]) (.str [y])=some (decide (some x=some y)):=by
  show some ([x] == [y])=_
  by_cases h:x=y
  · subst h; simp
  · simp [h]
theorem lt_drop {a:List Nat} {k:Nat} (h:(a.drop k).isEmpty=false):k < a.length:=
  Nat.lt_of_not_le fun q=>absurd (h.symm.trans (List.isEmpty_iff.mpr (List.drop_eq_nil_of_le q))) Bool.false_ne_true
theorem tru_s {l:List Nat} {c:Bool} (h:l.isEmpty=c):truD (.str l)=some (!c):=congrArg (fun b=>some (!b)) h
theorem t1_ok {a b:List Nat} {m:Int} {k:Nat} (hk:k < 2 ^ 60):(Ev P (n+5)).evT t1 (σ1 a b m k)=some (!(a.drop k).isEmpty && (!(b.drop k).isEmpty && decide (a[k]? = b[k]?)),σ1 a b m k):=by
  delta t1
  have s0:=slc_drop (a:=a) hk
  have s1:=slc_drop (a:=b) hk
  have i0:=idx_str (a:=a) hk
  have i1:=idx_str (a:=b) hk
  have h0:(σ1 a b m k).get 0=some (.sh,.str a):=rfl
  have h1:(σ1 a b m k).get 1=some (.sh,.str b):=rfl
  have h3:(σ1 a b m k).get 3=some (.sh,.int k):=rfl
  generalize σ1 a b m k=σ at *
  cases da:(a.drop k).isEmpty with
  | true=>
    have u0:=tru_s da
    exact r_and (a_g (t_v (r_slc (r_p h0) (op_s (r_sh h3)) rfl (r_ag h0) s0) u0 rfl) (i_n (i_t rfl)))
  | false=>
    have u0:=tru_s da
    cases db:(b.drop k).isEmpty with
    | true=>
      have u1:=tru_s db
      exact r_and (a_g (t_v (r_slc (r_p h0) (op_s (r_sh h3)) rfl (r_ag h0) s0) u0 rfl) (i_n (i_f (a_g (t_v (r_slc (r_p h1) (op_s (r_sh h3)) rfl (r_ag h1) s1) u1 rfl) (i_n (i_t rfl))))))
    | false=>
      have u1:=tru_s db
      rw [List.getElem?_eq_getElem (lt_drop da)] at i0 ⊢
      rw [List.getElem?_eq_getElem (lt_drop db)] at i1 ⊢
      have cc:=c_one (x:=a[k]'(lt_drop da)) (y:=b[k]'(lt_drop db))
      rw [Option.map_some] at i0 i1
      exact r_and (a_g (t_v (r_slc (r_p h0) (op_s (r_sh h3)) rfl (r_ag h0) s0) u0 rfl) (i_n (i_f (a_g (t_v (r_slc (r_p h1) (op_s (r_sh h3)) rfl (r_ag h1) s1) u1 rfl) (i_n (i_f (a_1 (t_v (r_eq (r_idxv h0 (r_sh h3) i0) (r_idxv h1 (r_sh h3) i1) cc) rfl rfl))))))))
theorem cpl_n {l:List Nat}:cpl l []=0:=by induction l using List.casesOn <;> rfl
theorem cpl_f {a b:List Nat} {k:Nat} (hc:cpl (a.drop k) (b.drop k)=0):(!(a.drop k).isEmpty && (!(b.drop k).isEmpty && decide (a[k]? = b[k]?)))=false:=by
  cases da:(a.drop k).isEmpty with
  | true=>rfl
  | false=>
    cases db:(b.drop k).isEmpty with
    | true=>rfl
    | false=>
      rw [List.drop_eq_getElem_cons (lt_drop da),List.drop_eq_getElem_cons (lt_drop db),cpl_c] at hc
      rw [List.getElem?_eq_getElem (lt_drop da),List.getElem?_eq_getElem (lt_drop db)]
      exact decide_eq_false fun e=>Nat.succ_ne_zero _ ((if_pos (Option.some.inj e)).symm.trans hc)
theorem cpl_t {a b:List Nat} {k c:Nat} (hc:cpl (a.drop k) (b.drop k)=c+1):(!(a.drop k).isEmpty && (!(b.drop k).isEmpty && decide (a[k]? = b[k]?)))=true∧cpl (a.drop (k+1)) (b.drop (k+1))=c:=by
  cases da:(a.drop k).isEmpty with
  | true=>rw [List.isEmpty_iff.mp da] at hc; exact absurd hc.symm (Nat.succ_ne_zero _)
  | false=>
    cases db:(b.drop k).isEmpty with
    | true=>rw [List.isEmpty_iff.mp db,cpl_n] at hc; exact absurd hc.symm (Nat.succ_ne_zero _)
    | false=>
      rw [List.drop_eq_getElem_cons (lt_drop da),List.drop_eq_getElem_cons (lt_drop db),cpl_c] at hc
      rw [List.getElem?_eq_getElem (lt_drop da),List.getElem?_eq_getElem (lt_drop db)]
      by_cases e:a[k]'(lt_drop da)=b[k]'(lt_drop db)
      · exact ⟨decide_eq_true (congrArg some e),Nat.succ.inj ((if_pos e).symm.trans hc)⟩
      · exact absurd ((if_neg e).symm.trans hc).symm (Nat.succ_ne_zero _)
theorem w1_ok {a b:List Nat} {m:Int} (c:Nat):∀ (k:Nat),k+c < 2 ^ 59→cpl (a.drop k) (b.drop k)=c→(Ev P (n+6+c)).ex w1 (σ1 a b m k)=some (.next,σ1 a b m (k+c:Nat)):=by
  induction c with
  | zero=>
    intro k hk hc
    have t:=t1_ok (P:=P) (n:=n) (a:=a) (b:=b) (m:=m) (k:=k) (Nat.lt_trans hk (by decide))
    rw [cpl_f hc] at t
    exact r_whl_f t
  | succ c ih=>
    intro k hk hc
    obtain ⟨hf,hc'⟩:=cpl_t hc
    have t:=t1_ok (P:=P) (n:=n+c+1) (a:=a) (b:=b) (m:=m) (k:=k) (by lia)
    rw [hf] at t
    have e:=ih (k+1) (by lia) hc'
    rw [show n+6+c=n+c+1+5 by exact Nat.add_right_comm n 6 c] at e
    rw [show n+6+(c+1)=(n+c+1)+5+1 by exact Nat.add_right_comm n 6 (c+1),show k+(c+1)=k+1+c from (Nat.succ_add k c).symm]
    exact r_whl_t t (xs_c (r_aug rfl r_lit rfl) rfl) e
end
end Mine
end
section
set_option autoImplicit false
namespace Mine
theorem slc_take {a:List Nat} {q:Nat} (h:q < 2 ^ 60) (h0:0 < q):slcD (.str a) .none (.int (-(q:Int))) false=some (.str (a.take (a.length - q))):=by
  simp only [slcD,sl_l,sl_w,sl_s,oi_n,oi_i,Option.bind_some,sml_of (show (-(q:Int)).natAbs < 2 ^ 60 by rw [Int.natAbs_neg]; exact h),if_true,cut,bnd]
  rw [if_neg (Int.not_le.mpr (Int.neg_neg_of_pos (Int.natCast_pos.mpr h0))),tn_sub,List.drop_zero]
theorem slc_all {a:List Nat}:slcD (.str a) .none .none false=some (.str a):=by
  simp [slcD,sl_l,sl_w,sl_s,oi_n,oi_i,Option.bind_some,cut,bnd]
theorem idx_neg {a:List Nat} {q:Nat} (h:q < 2 ^ 59) (h1:q < a.length):idxD (.str a) (.int (-(q:Int) - 1))=(a.reverse[q]?).map fun c=>.str [c]:=by
  simp only [idxD,sml_of (show (-(q:Int) - 1).natAbs < 2 ^ 60 from na_neg (Nat.lt_of_le_of_lt h (by decide))),if_true,nth]
  rw [if_neg (by lia),if_pos (by lia),List.getElem?_reverse h1]
  congr 2
  exact idxneg h1
section
variable {P:List (Nat × FnDef)} {n:Nat}
noncomputable def pe:E:=.orv (.var 4) (.lit .none)
noncomputable def t2:E:=.and [(.slc (.var 0) none (some pe) false),(.slc (.var 1) none (some pe) false),(.cmp .eq (.idx (.var 0) (.bin .sub (.var 4) (.lit (.int 1)))) (.idx (.var 1) (.bin .sub (.var 4) (.lit (.int 1)))))]
noncomputable def w2:S:=.whl t2 [.aug .sub 4 (.lit (.int 1))]
noncomputable def σ2 (a b:List Nat) (m p q:Int):St:=[some (.sh,.str a),some (.sh,.str b),some (.sh,.int m),some (.sh,.int p),some (.sh,.int q),none,none,none,none,none,none,none,none,none]
theorem sl2 {x:Nat} {a b c:List Nat} {m p:Int} {q:Nat} (hq:q < 2 ^ 59) (hx:(σ2 a b m p (-(q:Int))).get x=some (.sh,.str c)) :
    (Ev P (n+3)).ev (.slc (.var x) none (some pe) false) (σ2 a b m p (-(q:Int)))=some (.str (c.take (c.length - q)),σ2 a b m p (-(q:Int))):=by
  have h4:(σ2 a b m p (-(q:Int))).get 4=some (.sh,.int (-(q:Int))):=rfl
  generalize σ2 a b m p (-(q:Int))=σ at *
  delta pe
  by_cases h0:q=0
  · subst h0
    have e:=slc_all (a:=c)
    rw [Nat.sub_zero,List.take_length]
    exact r_slc (r_p hx) rfl (op_s (r_orv (r_sh h4) rfl (i_df (of_decide_eq_true (id rfl)) r_lit))) (r_ag hx) e
  · have e:=slc_take (a:=c) (show q < 2 ^ 60 from Nat.lt_trans hq (by decide)) (Nat.pos_of_ne_zero h0)
    have hp : -(q:Int)≠0:=fun h=>h0 (Int.ofNat.inj (Int.neg_eq_zero.mp h))
    exact r_slc (r_p hx) rfl (op_s (r_orv (r_sh h4) rfl (i_dt hp rfl))) (r_ag hx) e
theorem t2_ok {a b:List Nat} {m p:Int} {q:Nat} (hq:q < 2 ^ 59):(Ev P (n+6)).evT t2 (σ2 a b m p (-(q:Int)))=some (!(a.reverse.drop q).isEmpty && (!(b.reverse.drop q).isEmpty && decide (a.reverse[q]? = b.reverse[q]?)),σ2 a b m p (-(q:Int))):=by
  delta t2
  have hA:(Ev P (n+4)).ev (.slc (.var 0) none (some pe) false) (σ2 a b m p (-(q:Int)))=_:=sl2 (P:=P) (n:=n+1) (x:=0) (a:=a) (b:=b) (c:=a) (m:=m) (p:=p) hq rfl
  have hB:(Ev P (n+4)).ev (.slc (.var 1) none (some pe) false) (σ2 a b m p (-(q:Int)))=_:=sl2 (P:=P) (n:=n+1) (x:=1) (a:=a) (b:=b) (c:=b) (m:=m) (p:=p) hq rfl
  have er:∀ l:List Nat,(l.take (l.length - q)).isEmpty=(l.reverse.drop q).isEmpty:=fun l=>by
    rw [List.drop_reverse,List.isEmpty_reverse]
  have h0:(σ2 a b m p (-(q:Int))).get 0=some (.sh,.str a):=rfl
  have h1:(σ2 a b m p (-(q:Int))).get 1=some (.sh,.str b):=rfl
  have h4:(σ2 a b m p (-(q:Int))).get 4=some (.sh,.int (-(q:Int))):=rfl
  generalize σ2 a b m p (-(q:Int))=σ at *
  have rl:∀ l:List Nat,(l.reverse.drop q).isEmpty=false→q < l.length:=fun l h=>List.length_reverse ▸ lt_drop h
  cases da:(a.reverse.drop q).isEmpty with
  | true=>
    have u0:=tru_s ((er a).trans da)
    exact r_and (a_g (t_v hA u0 rfl) (i_n (i_t rfl)))
  | false=>
    have u0:=tru_s ((er a).trans da)
    have i0:=idx_neg hq (rl a da)
    cases db:(b.reverse.drop q).isEmpty with
    | true=>
      have u1:=tru_s ((er b).trans db)
      exact r_and (a_g (t_v hA u0 rfl) (i_n (i_f (a_g (t_v hB u1 rfl) (i_n (i_t rfl))))))
    | false=>
      have u1:=tru_s ((er b).trans db)
      have i1:=idx_neg hq (rl b db)
      rw [List.getElem?_eq_getElem (lt_drop da)] at i0 ⊢
      rw [List.getElem?_eq_getElem (lt_drop db)] at i1 ⊢
      have cc:=c_one (x:=a.reverse[q]'(lt_drop da)) (y:=b.reverse[q]'(lt_drop db))
      rw [Option.map_some] at i0 i1
      exact r_and (a_g (t_v hA u0 rfl) (i_n (i_f (a_g (t_v hB u1 rfl) (i_n (i_f (a_1 (t_v (r_eq (r_idxv h0 (r_bin (r_sh h4) r_lit rfl) i0) (r_idxv h1 (r_bin (r_sh h4) r_lit rfl) i1) cc) rfl rfl))))))))
theorem w2_ok {a b:List Nat} {m p:Int} (c:Nat):∀ (q:Nat),q+c < 2 ^ 58→cpl (a.reverse.drop q) (b.reverse.drop q)=c→(Ev P (n+7+c)).ex w2 (σ2 a b m p (-(q:Int)))=some (.next,σ2 a b m p (-((q+c:Nat):Int))):=by
  induction c with
  | zero=>
    intro q hk hc
    have t:=t2_ok (P:=P) (n:=n) (a:=a) (b:=b) (m:=m) (p:=p) (q:=q) (Nat.lt_trans hk (by decide))
    rw [cpl_f hc] at t
    exact r_whl_f t
  | succ c ih=>
    intro q hk hc
    obtain ⟨hf,hc'⟩:=cpl_t hc
    have t:=t2_ok (P:=P) (n:=n+c+1) (a:=a) (b:=b) (m:=m) (p:=p) (q:=q) (by lia)
    rw [hf] at t
    have e:=ih (q+1) (by lia) hc'
    rw [show n+7+c=n+c+1+6 by exact Nat.add_right_comm n 7 c,show -((q+1:Nat):Int) = -(q:Int) - 1 by lia] at e
    rw [show n+7+(c+1)=(n+c+1)+6+1 by exact Nat.add_right_comm n 7 (c+1),show q+(c+1)=q+1+c from (Nat.succ_add q c).symm]
    exact r_whl_t t (xs_c (r_aug rfl r_lit rfl) rfl) e
end
end Mine
end
section
set_option autoImplicit false
namespace Mine
noncomputable def rs (c:Nat):Int→Int→Int→List Nat→List Int→List Int × Int × Int × Int
  | d,r,mn,x :: a,w :: row=>
    let r':=mn2 (mn2 r w+2) (d+subC c x)
    let t:=rs c w r' (if r' < mn then r' else mn) a row
    (r' :: t.1,t.2.1,t.2.2.1,t.2.2.2)
  | d,r,mn,_,_=>([],r,d,mn)
theorem rs_n {c:Nat} {d r mn:Int} {row:List Int}:rs c d r mn [] row=([],r,d,mn):=rfl
theorem rs_c {c x:Nat} {a:List Nat} {d r mn w:Int} {row:List Int}:rs c d r mn (x :: a) (w :: row)=(fun r'=>(fun t:List Int × Int × Int × Int=>(r' :: t.1,t.2.1,t.2.2.1,t.2.2.2)) (rs c w r' (if r' < mn then r' else mn) a row)) (mn2 (mn2 r w+2) (d+subC c x)):=rfl
theorem rs_len (c:Nat):∀ (a:List Nat) (row:List Int) (d r mn:Int),row.length=a.length→(rs c d r mn a row).1.length=a.length
  | [],_,_,_,_,_=>rfl
  | x :: a,w :: row,d,r,mn,h=>by simp [rs_c,rs_len c a row _ _ _ (by simpa using h)]
  | x :: a,[],_,_,_,h=>by cases h
theorem idx_ints {xs:List Int} {k:Nat} (h:k < 2 ^ 60):idxD (.list (xs.map .int)) (.int k)=(xs[k]?).map .int:=by
  simp only [idxD,sml_nat h,if_true,nth]
  rw [if_pos (by exact Int.natCast_nonneg k),Int.toNat_natCast,List.getElem?_map]
theorem set_ints {xs:List Int} {k:Nat} {v:Int} (h:k < 2 ^ 60) (h1:k < xs.length):setD (.list (xs.map .int)) (.int k) (.int v)=some (.list ((xs.set k v).map .int)):=by
  simp only [set_l,set_i,sml_nat h]
  rw [if_pos (by simp; assumption),Int.toNat_natCast,List.map_set]
section
variable {P:List (Nat × FnDef)} {n:Nat}
noncomputable def b11:List S:=[.asg 12 (.bin .add (.var 9) (.call (.glob (.fn 21)) [(.var 8),(.idx (.var 0) (.var 11))] false)),.asg 9 (.idx (.var 5) (.var 11)),.asg 13 (.bin .add (.bi .min [(.var 6),(.var 9)]) (.glob (.int 2))),.asg 6 (.bi .min [(.var 13),(.var 12)]),.put 5 (.var 11) (.var 6),.ite (.cmp .lt (.var 6) (.var 10)) [.asg 10 (.var 6)] []]
noncomputable def σ3 (a b:List Nat) (m p q:Int) (xs:List Int) (r j:Int) (c:Nat) (d mn:Int) (x11 x12 x13:Option Slot):St:=
  [some (.sh,.str a),some (.sh,.str b),some (.sh,.int m),some (.sh,.int p),some (.sh,.int q),some (.own,.list (xs.map .int)),some (.sh,.int r),some (.sh,.int j),some (.sh,.str [c]),some (.sh,.int d),some (.sh,.int mn),x11,x12,x13]
theorem b11_ok (h21:P.lookup 21=some G2.f_substitution_cost) {a b:List Nat} {m p q:Int} {xs:List Int} {r j:Int} {c:Nat} {d mn:Int} {x12 x13:Option Slot} {k x:Nat} {w:Int} (hk:k < 2 ^ 60) (hc:c < 128) (hx:x < 128) (ha:a[k]? = some x) (hw:xs[k]? = some w) :
    exs (Ev P (n+10)) b11 (σ3 a b m p q xs r j c d mn (some (.sh,.int (k:Nat))) x12 x13) =
      some (.next,σ3 a b m p q (xs.set k (mn2 (mn2 r w+2) (d+subC c x))) (mn2 (mn2 r w+2) (d+subC c x)) j c w (if mn2 (mn2 r w+2) (d+subC c x) < mn then mn2 (mn2 r w+2) (d+subC c x) else mn) (some (.sh,.int (k:Nat))) (some (.sh,.int (d+subC c x))) (some (.sh,.int (mn2 r w+2)))):=by
  have hl:k < xs.length:=(List.getElem?_eq_some_iff.mp hw).1
  have c1:=c21 (P:=P) (n:=n) h21 hc hx
  have i0:idxD (.str a) (.int k)=some (.str [x]):=by rw [idx_str hk,ha]; rfl
  have i5:idxD (.list (xs.map .int)) (.int k)=some (.int w):=by rw [idx_ints hk,hw]; rfl
  have s5:=set_ints (v:=mn2 (mn2 r w+2) (d+subC c x)) hk hl
  have m1:biD .min [.int r,.int w]=some (.int (mn2 r w)):=rfl
  have m2:biD .min [.int (mn2 r w+2),.int (d+subC c x)]=some (.int (mn2 (mn2 r w+2) (d+subC c x))):=rfl
  delta b11 σ3
  by_cases e:mn2 (mn2 r w+2) (d+subC c x) < mn
  · rw [if_pos e]
    exact xs_c (r_asg (o_v (r_bin (r_sh rfl) (r_call (r_ac (r_sh rfl) (r_a1 (r_idxv rfl (r_sh rfl) i0))) c1) rfl) rfl)) (xs_c (r_asg (o_v (r_idxv rfl (r_sh rfl) i5) rfl)) (xs_c (r_asg (o_v (r_bin (r_bi (r_es (r_sh rfl) (r_es (r_sh rfl) rfl)) m1 (fun a=>nomatch a) fun a=>nomatch a) r_glob rfl) rfl)) (xs_c (r_asg (o_v (r_bi (r_es (r_sh rfl) (r_es (r_sh rfl) rfl)) m2 (fun a=>nomatch a) fun a=>nomatch a) rfl)) (xs_c (r_put (r_sh rfl) rfl (r_sh rfl) rfl s5) (xs_if (t_v (r_lt (r_sh rfl) (r_sh rfl) rfl) rfl rfl) (i_dt e (tx_c (r_asg (o_v (r_sh rfl) rfl)) (tx_0 rfl))))))))
  · rw [if_neg e]
    exact xs_c (r_asg (o_v (r_bin (r_sh rfl) (r_call (r_ac (r_sh rfl) (r_a1 (r_idxv rfl (r_sh rfl) i0))) c1) rfl) rfl)) (xs_c (r_asg (o_v (r_idxv rfl (r_sh rfl) i5) rfl)) (xs_c (r_asg (o_v (r_bin (r_bi (r_es (r_sh rfl) (r_es (r_sh rfl) rfl)) m1 (fun a=>nomatch a) fun a=>nomatch a) r_glob rfl) rfl)) (xs_c (r_asg (o_v (r_bi (r_es (r_sh rfl) (r_es (r_sh rfl) rfl)) m2 (fun a=>nomatch a) fun a=>nomatch a) rfl)) (xs_c (r_put (r_sh rfl) rfl (r_sh rfl) rfl s5) (xs_if (t_v (r_lt (r_sh rfl) (r_sh rfl) rfl) rfl rfl) (i_df e (tx_0 rfl)))))))
theorem get_mid {α:Type} (l:List α) (x:α) (r:List α):(l++x :: r)[l.length]? = some x:=by simp
theorem in_ok (h21:P.lookup 21=some G2.f_substitution_cost) {a b:List Nat} {m p q:Int} {j:Int} {c:Nat} (hc:c < 128) (ha:∀ x∈a,x < 128) (hl:a.length < 2 ^ 60) (rest:List Nat):∀ (pre:List Nat) (done todo:List Int) (r d mn:Int) (x11 x12 x13:Option Slot),a=pre++rest→done.length=pre.length→todo.length=rest.length→
    ∃ y11 y12 y13,forL (Ev P (n+10)) (.v 11) b11 ((List.range' pre.length rest.length).map fun k:Nat=>D.int k) (σ3 a b m p q (done++todo) r j c d mn x11 x12 x13) =
      some (.next,σ3 a b m p q (done++(rs c d r mn rest todo).1) (rs c d r mn rest todo).2.1 j c (rs c d r mn rest todo).2.2.1 (rs c d r mn rest todo).2.2.2 y11 y12 y13):=by
  induction rest with
  | nil=>
    intro pre done todo r d mn x11 x12 x13 h1 h2 h3
    obtain rfl:=List.length_eq_zero_iff.mp h3
    exact ⟨x11,x12,x13,rfl⟩
  | cons x rest ih=>
    intro pre done todo r d mn x11 x12 x13 h1 h2 h3
    induction todo using List.casesOn with
    | nil=>exact absurd h3.symm (Nat.succ_ne_zero _)
    | cons w todo=>
      have hk:pre.length < a.length:=by rw [h1,List.length_append,List.length_cons]; exact Nat.lt_add_of_pos_right (Nat.succ_pos _)
      have e1:a[pre.length]? = some x:=by rw [h1]; exact get_mid ..
      have e2:(done++w :: todo)[pre.length]? = some w:=by rw [← h2]; exact get_mid ..
      have step:=b11_ok (n:=n) h21 (a:=a) (b:=b) (m:=m) (p:=p) (q:=q) (xs:=done++w :: todo) (r:=r) (j:=j) (c:=c) (d:=d) (mn:=mn) (x12:=x12) (x13:=x13) (Nat.lt_trans hk hl) hc (ha x (List.mem_of_getElem? e1)) e1 e2
      rw [show (done++w :: todo).set pre.length (mn2 (mn2 r w+2) (d+subC c x))=done++mn2 (mn2 r w+2) (d+subC c x) :: todo by rw [← h2]; simp] at step
      obtain ⟨y11,y12,y13,e⟩:=ih (pre++[x]) (done++[mn2 (mn2 r w+2) (d+subC c x)]) todo (mn2 (mn2 r w+2) (d+subC c x)) w (if mn2 (mn2 r w+2) (d+subC c x) < mn then mn2 (mn2 r w+2) (d+subC c x) else mn)
        (some (.sh,.int (pre.length:Nat))) (some (.sh,.int (d+subC c x))) (some (.sh,.int (mn2 r w+2))) (h1.trans (List.append_cons ..)) (by rw [List.length_append,List.length_append,h2]; rfl) (Nat.succ.inj h3)
      rw [List.length_append,← List.append_cons,← List.append_cons] at e
      exact ⟨y11,y12,y13,f_c rfl step e⟩
end
end Mine
end
section
set_option autoImplicit false
namespace Mine
noncomputable def big:Int:=9223372036854775807
noncomputable def lvDP (m:Int) (a:List Nat):List Nat→Nat→List Int→Int→Int
  | [],_,_,res=>res
  | c :: b,j,row,res=>
    let t:=rs c (j * 2) (j * 2) big a row
    if m < t.2.2.2 then m+1 else lvDP m a b (j+1) t.1 t.2.1
theorem lv_c {m:Int} {a b:List Nat} {c j:Nat} {row:List Int} {res:Int}:lvDP m a (c :: b) j row res=if m < (rs c (j * 2) (j * 2) big a row).2.2.2 then m+1 else lvDP m a b (j+1) (rs c (j * 2) (j * 2) big a row).1 (rs c (j * 2) (j * 2) big a row).2.1:=rfl
noncomputable def row0 (k:Nat):List Int:=(List.range k).map fun i:Nat=>2+(i:Int) * 2
noncomputable def lv3 (m:Int) (a b:List Nat):Int:=if m < ((b.length:Int) - a.length) * 2 then m+1 else lvDP m a b 0 (row0 a.length) 0
noncomputable def lv2 (m:Int) (a b:List Nat):Int:=
  if a=[]∨b=[] then 2 * ((a.length:Int)+b.length) else
  if 40 < a.length∨40 < b.length then m+1 else
  if b.length < a.length then lv3 m b a else lv3 m a b
noncomputable def tl (l:List Nat) (q:Nat):List Nat:=l.take (l.length - q)
noncomputable def lv (a b:List Nat) (m:Int):Int:=
  if a=b then 0 else
  lv2 m (tl (a.drop (cpl a b)) (cpl (a.drop (cpl a b)).reverse (b.drop (cpl a b)).reverse)) (tl (b.drop (cpl a b)) (cpl (a.drop (cpl a b)).reverse (b.drop (cpl a b)).reverse))
theorem rangeL_up (k:Nat):rangeL 0 (k:Int) 1=(List.range k).map fun i:Nat=>(i:Int):=by
  delta rangeL rsz
  rw [if_pos (by decide)]
  by_cases h:k=0
  · subst h; rfl
  · rw [if_pos (by lia),show (((k:Int) - 0 - 1) / 1+1).toNat=k by rw [Int.ediv_one]; lia]
    congr 1
    funext i; lia
theorem items_range {k:Nat} (h:k < 2 ^ 39):itemsD (.rng 0 (k:Int) 1)=some ((List.range' 0 k).map fun i:Nat=>D.int i):=by
  simp only [its_l,its_t,its_s,its_r]
  rw [if_pos (by simp [tiny]; lia),rangeL_up,List.map_map,List.range_eq_range']
  rfl
theorem row0_range {k:Nat} (h0:0 < k):rangeL 2 (2 * ((k:Int)+1)) 2=row0 k:=by
  delta rangeL rsz row0
  rw [if_pos (by decide),if_pos (by lia),row1 h0]
section
variable {P:List (Nat × FnDef)} {n:Nat}
noncomputable def bo:List S:=[.asg 8 (.idx (.var 1) (.var 7)),.asg2 9 6 (.bin .mul (.var 7) (.glob (.int 2))),.asg 10 (.lit (.int 9223372036854775807)),.for (.v 11) (.bi .range [(.bi .len [(.var 0)])]) b11,.ite (.cmp .gt (.var 10) (.var 2)) [.ret (.bin .add (.var 2) (.lit (.int 1)))] []]
noncomputable def σ4 (a b:List Nat) (m p q:Int) (xs:List Int) (r:Int) (x7 x8 x9 x10 x11 x12 x13:Option Slot):St:=
  [some (.sh,.str a),some (.sh,.str b),some (.sh,.int m),some (.sh,.int p),some (.sh,.int q),some (.own,.list (xs.map .int)),some (.sh,.int r),x7,x8,x9,x10,x11,x12,x13]
theorem bo_ok (h21:P.lookup 21=some G2.f_substitution_cost) {a b:List Nat} {m p q:Int} {xs:List Int} {r:Int} {j c:Nat} {x8 x9 x10 x11 x12 x13:Option Slot} (hj:j < 2 ^ 39) (hb:b[j]? = some c) (hc:c < 128) (ha:∀ x∈a,x < 128) (hl:a.length < 2 ^ 39) (hx:xs.length=a.length) :
    ∃ y8 y9 y10 y11 y12 y13,exs (Ev P (n+11)) bo (σ4 a b m p q xs r (some (.sh,.int j)) x8 x9 x10 x11 x12 x13) =
      if m < (rs c (j * 2) (j * 2) big a xs).2.2.2 then some (.ret (.int (m+1)),σ4 a b m p q (rs c (j * 2) (j * 2) big a xs).1 (rs c (j * 2) (j * 2) big a xs).2.1 (some (.sh,.int j)) y8 y9 y10 y11 y12 y13)
      else some (.next,σ4 a b m p q (rs c (j * 2) (j * 2) big a xs).1 (rs c (j * 2) (j * 2) big a xs).2.1 (some (.sh,.int j)) y8 y9 y10 y11 y12 y13):=by
  obtain ⟨y11,y12,y13,e⟩:=in_ok (n:=n) h21 (a:=a) (b:=b) (m:=m) (p:=p) (q:=q) (j:=j) hc ha (Nat.lt_of_lt_of_le hl (by decide)) a [] [] xs (j * 2) (j * 2) big x11 x12 x13 rfl rfl hx
  simp only [List.length_nil,List.nil_append] at e
  generalize rs c (j * 2) (j * 2) big a xs=t at e ⊢
  obtain ⟨row,r',d',mn'⟩:=t
  dsimp only at e ⊢
  refine ⟨some (.sh,.str [c]),some (.sh,.int d'),some (.sh,.int mn'),y11,y12,y13,?_⟩
  have hj':j < 2 ^ 60:=Nat.lt_of_lt_of_le hj (by decide)
  have hl':a.length < 2 ^ 60:=Nat.lt_of_lt_of_le hl (by decide)
  have e':forL (Ev P (n+10)) (.v 11) b11 ((List.range' 0 a.length).map fun i:Nat=>D.int i) [some (.sh,.str a),some (.sh,.str b),some (.sh,.int m),some (.sh,.int p),some (.sh,.int q),some (.own,.list (xs.map .int)),some (.sh,.int (j * 2)),some (.sh,.int j),some (.sh,.str [c]),some (.sh,.int (j * 2)),some (.sh,.int 9223372036854775807),x11,x12,x13]=_:=e
  have i1:idxD (.str b) (.int j)=some (.str [c]):=by rw [idx_str hj',hb]; rfl
  have it:=items_range hl
  delta bo σ4
  have hr:biD .range [.int (a.length:Int)]=some (.rng 0 a.length 1):=by simp [biD,sml_nat hl']
  have hm:binD .mul (.int (j:Int)) (.int 2)=some (.int (j * 2)):=b_mul (sml_nat hj') rfl
  by_cases h:m < mn'
  · rw [if_pos h]
    exact xs_c (r_asg (o_v (r_idxv rfl (r_sh rfl) i1) rfl)) (xs_c (r_asg2 (r_bin (r_sh rfl) r_glob hm)) (xs_c (r_asg (o_v r_lit rfl)) (xs_c (r_for (it_p (r_bi (r_es (r_len (r_p rfl) rfl) rfl) hr (fun a=>nomatch a) fun a=>nomatch a) it rfl) e') (xs_if (t_v (r_gt (r_sh rfl) (r_sh rfl) rfl) rfl rfl) (i_dt h (tx_r (r_bin (r_sh rfl) rfl rfl)))))))
  · rw [if_neg h]
    exact xs_c (r_asg (o_v (r_idxv rfl (r_sh rfl) i1) rfl)) (xs_c (r_asg2 (r_bin (r_sh rfl) r_glob hm)) (xs_c (r_asg (o_v r_lit rfl)) (xs_c (r_for (it_p (r_bi (r_es (r_len (r_p rfl) rfl) rfl) hr (fun a=>nomatch a) fun a=>nomatch a) it rfl) e') (xs_if (t_v (r_gt (r_sh rfl) (r_sh rfl) rfl) rfl rfl) (i_df h (tx_0 rfl))))))
theorem out_ok (h21:P.lookup 21=some G2.f_substitution_cost) {a b:List Nat} {m p q:Int} (ha:∀ x∈a,x < 128) (hb:∀ x∈b,x < 128) (hl:a.length < 2 ^ 39) (hlb:b.length < 2 ^ 39) (rest:List Nat):∀ (pre:List Nat) (xs:List Int) (r:Int) (x7 x8 x9 x10 x11 x12 x13:Option Slot),b=pre++rest→xs.length=a.length→
    ∃ σ',thenX (exs (Ev P (n+12)) [.ret (.var 6)]) (forL (Ev P (n+11)) (.v 7) bo ((List.range' pre.length rest.length).map fun k:Nat=>D.int k) (σ4 a b m p q xs r x7 x8 x9 x10 x11 x12 x13))=some (.ret (.int (lvDP m a rest pre.length xs r)),σ')∧σ'.get 2=some (.sh,.int m):=by
  induction rest with
  | nil=>
    intro pre xs r x7 x8 x9 x10 x11 x12 x13 h1 h2
    exact ⟨σ4 a b m p q xs r x7 x8 x9 x10 x11 x12 x13,rfl,rfl⟩
  | cons c rest ih=>
    intro pre xs r x7 x8 x9 x10 x11 x12 x13 h1 h2
    have hk:pre.length < b.length:=by rw [h1,List.length_append,List.length_cons]; exact Nat.lt_add_of_pos_right (Nat.succ_pos _)
    have e1:b[pre.length]? = some c:=by rw [h1]; exact get_mid ..
    obtain ⟨y8,y9,y10,y11,y12,y13,st⟩:=bo_ok (n:=n) h21 (a:=a) (b:=b) (m:=m) (p:=p) (q:=q) (xs:=xs) (r:=r) (j:=pre.length) (c:=c) (x8:=x8) (x9:=x9) (x10:=x10) (x11:=x11) (x12:=x12) (x13:=x13) (Nat.lt_trans hk hlb) e1 (hb c (List.mem_of_getElem? e1)) ha hl h2
    rw [lv_c]
    by_cases h:m < (rs c (pre.length * 2) (pre.length * 2) big a xs).2.2.2
    · rw [if_pos h] at st ⊢
      exact ⟨_,tf_r rfl st,rfl⟩
    · rw [if_neg h] at st ⊢
      obtain ⟨σ',e,g⟩:=ih (pre++[c]) (rs c (pre.length * 2) (pre.length * 2) big a xs).1 (rs c (pre.length * 2) (pre.length * 2) big a xs).2.1 (some (.sh,.int (pre.length:Nat))) y8 y9 y10 y11 y12 y13 (h1.trans (List.append_cons ..)) (rs_len c a xs _ _ _ h2)
      rw [List.length_append] at e
      exact ⟨σ',tf_c rfl st e,g⟩
end
end Mine
end
section
set_option autoImplicit false
namespace Mine
section
variable {P:List (Nat × FnDef)} {n:Nat}
noncomputable def σ0 (a b:List Nat) (m:Int) (x3 x4:Option Slot):St:=[some (.sh,.str a),some (.sh,.str b),some (.sh,.int m),x3,x4,none,none,none,none,none,none,none,none,none]
noncomputable def tail3:List S:=[.asg 5 (.bi .list [(.bi .range [(.glob (.int 2)),(.bin .mul (.glob (.int 2)) (.bin .add (.bi .len [(.var 0)]) (.lit (.int 1)))),(.glob (.int 2))])]),.asg 6 (.lit (.int 0)),.for (.v 7) (.bi .range [(.bi .len [(.var 1)])]) bo,.ret (.var 6)]
theorem tail3_ok (h21:P.lookup 21=some G2.f_substitution_cost) {a b:List Nat} {m:Int} {p q:Int} (ha:∀ x∈a,x < 128) (hb:∀ x∈b,x < 128) (hla:a.length≤40) (hlb:b.length≤40) (h0:0 < a.length) :
    ∃ σ',exs (Ev P (n+12)) tail3 (σ2 a b m p q)=some (.ret (.int (lvDP m a b 0 (row0 a.length) 0)),σ')∧σ'.get 2=some (.sh,.int m):=by
  obtain ⟨σ',e,g⟩:=out_ok (n:=n) h21 (a:=a) (b:=b) (m:=m) (p:=p) (q:=q) ha hb (by lia) (by lia) b [] (row0 a.length) 0 none none none none none none none rfl (by simp [row0])
  refine ⟨σ',?_,g⟩
  have hm:binD .mul (.int 2) (.int ((a.length:Int)+1))=some (.int (2 * ((a.length:Int)+1))):=b_mul rfl (sml_of (show a.length+1 < 2 ^ 60 from Nat.lt_of_le_of_lt (Nat.succ_le_succ hla) (by decide)))
  have hr:biD .range [.int 2,.int (2 * ((a.length:Int)+1)),.int 2]=some (.rng 2 (2 * ((a.length:Int)+1)) 2):=by
    simp only [biD,one_one,two_two,onLst_list,rangeD_1,rangeD_2,rangeD_3,int2_int,minD,Option.bind_some,Option.map_some]; rw [if_pos (by simp [sml_of (show (2 * ((a.length:Int)+1)).natAbs < 2 ^ 60 from (show 2 * (a.length+1) < 2 ^ 60 from Nat.lt_of_le_of_lt (Nat.mul_le_mul_left 2 (Nat.succ_le_succ hla)) (by decide)))]; rfl)]
  have hL:biD .list [.rng 2 (2 * ((a.length:Int)+1)) 2]=some (.list ((row0 a.length).map .int)):=by
    simp only [biD,one_one,two_two,onLst_list,rangeD_1,rangeD_2,rangeD_3,int2_int,minD,Option.bind_some,Option.map_some]
    rw [row0_range h0,if_pos]
    refine ⟨by simp [tiny]; lia,?_⟩
    simp [row0,line]; lia
  have hb1:biD .range [.int (b.length:Int)]=some (.rng 0 b.length 1):=by simp [biD,sml_nat (show b.length < 2 ^ 60 by lia)]
  have s0:(Ev P (n+12)).ex (.asg 5 (.bi .list [(.bi .range [(.glob (.int 2)),(.bin .mul (.glob (.int 2)) (.bin .add (.bi .len [(.var 0)]) (.lit (.int 1)))),(.glob (.int 2))])])) (σ2 a b m p q) =
      some (.next,[some (.sh,.str a),some (.sh,.str b),some (.sh,.int m),some (.sh,.int p),some (.sh,.int q),some (.own,.list ((row0 a.length).map .int)),none,none,none,none,none,none,none,none]):=by
    exact r_asg' (o_bl (r_bi (r_es r_glob (r_es (r_bin r_glob (r_bin (r_len (r_p rfl) rfl) r_lit rfl) hm) (r_es r_glob rfl))) hr (fun a=>nomatch a) fun a=>nomatch a) hL) rfl
  exact xs_c s0 (xs_c (r_asg (o_v r_lit rfl)) (xs_for (it_p (r_bi (r_es (r_len (r_p rfl) rfl) rfl) hb1 nofun nofun) (items_range (show b.length < 2 ^ 39 by lia)) rfl) e))
noncomputable def tail2:List S:=[.ite (.or [(.not (.var 0)),(.not (.var 1))]) [.ret (.bin .mul (.glob (.int 2)) (.bin .add (.bi .len [(.var 0)]) (.bi .len [(.var 1)])))] [],
  .ite (.or [(.cmp .gt (.bi .len [(.var 0)]) (.glob (.int 40))),(.cmp .gt (.bi .len [(.var 1)]) (.glob (.int 40)))]) [.ret (.bin .add (.var 2) (.lit (.int 1)))] [],
  .ite (.cmp .lt (.bi .len [(.var 1)]) (.bi .len [(.var 0)])) [.tupl [0,1] [(.var 1),(.var 0)]] [],
  .ite (.cmp .gt (.bin .mul (.bin .sub (.bi .len [(.var 1)]) (.bi .len [(.var 0)])) (.glob (.int 2))) (.var 2)) [.ret (.bin .add (.var 2) (.lit (.int 1)))] []]
theorem tail2_ok (h21:P.lookup 21=some G2.f_substitution_cost) {a b:List Nat} {m:Int} {p q:Int} (ha:∀ x∈a,x < 128) (hb:∀ x∈b,x < 128) (hla:a.length≤100) (hlb:b.length≤100) :
    ∃ σ',exs (Ev P (n+12)) (tail2++tail3) (σ2 a b m p q)=some (.ret (.int (lv2 m a b)),σ')∧σ'.get 2=some (.sh,.int m):=by
  have st1:(Ev P (n+12)).ex (.ite (.or [(.not (.var 0)),(.not (.var 1))]) [.ret (.bin .mul (.glob (.int 2)) (.bin .add (.bi .len [(.var 0)]) (.bi .len [(.var 1)])))] []) (σ2 a b m p q) =
      if a=[]∨b=[] then some (.ret (.int (2 * ((a.length:Int)+b.length))),σ2 a b m p q) else some (.next,σ2 a b m p q):=by
    have hm:binD .mul (.int 2) (.int ((a.length:Int)+b.length))=some (.int (2 * ((a.length:Int)+b.length))):=b_mul rfl (sml_of (show a.length+b.length < 2 ^ 60 from Nat.lt_of_le_of_lt (Nat.add_le_add hla hlb) (by decide)))
    by_cases h1:a=[]
    · subst h1
      rw [if_pos (.inl rfl)]
      exact r_if (r_or (y_g (t_n (t_v (r_sh rfl) rfl rfl)) (i_n (i_n (i_ct (of_decide_eq_true (id rfl)) rfl))))) (i_t (xs_r (r_bin r_glob (r_bin (r_len (r_p rfl) rfl) (r_len (r_p rfl) rfl) rfl) hm)))
    · have t0:=tru_s (List.isEmpty_eq_false_iff.mpr h1)
      by_cases h2:b=[]
      · subst h2
        rw [if_pos (.inr rfl)]
        exact r_if (r_or (y_g (t_n (t_v (r_sh rfl) t0 rfl)) (i_n (i_n (i_f (y_1 (t_n (t_v (r_sh rfl) rfl rfl)))))))) (i_n (i_n (i_ct (of_decide_eq_true (id rfl)) (xs_r (r_bin r_glob (r_bin (r_len (r_p rfl) rfl) (r_len (r_p rfl) rfl) rfl) hm)))))
      · have t1:=tru_s (List.isEmpty_eq_false_iff.mpr h2)
        rw [if_neg (fun q=>q.elim h1 h2)]
        exact r_if (r_or (y_g (t_n (t_v (r_sh rfl) t0 rfl)) (i_n (i_n (i_f (y_1 (t_n (t_v (r_sh rfl) t1 rfl)))))))) (i_n (i_n (i_f rfl)))
  have st2:(Ev P (n+12)).ex (.ite (.or [(.cmp .gt (.bi .len [(.var 0)]) (.glob (.int 40))),(.cmp .gt (.bi .len [(.var 1)]) (.glob (.int 40)))]) [.ret (.bin .add (.var 2) (.lit (.int 1)))] []) (σ2 a b m p q) =
      if 40 < a.length∨40 < b.length then some (.ret (.int (m+1)),σ2 a b m p q) else some (.next,σ2 a b m p q):=by
    by_cases h1:40 < a.length
    · have h1':(40:Int) < a.length:=by exact Int.lt_of_toNat_lt h1
      rw [if_pos (.inl h1)]
      exact r_if (r_or (y_g (t_v (r_gt (r_len (r_p rfl) rfl) r_glob rfl) rfl rfl) (i_dt h1' rfl))) (i_t (xs_r (r_bin (r_sh rfl) r_lit rfl)))
    · have h1':¬ (40:Int) < a.length:=fun q=>h1 (Int.ofNat_lt.mp q)
      by_cases h2:40 < b.length
      · have h2':(40:Int) < b.length:=by exact Int.lt_of_toNat_lt h2
        rw [if_pos (.inr h2)]
        exact r_if (r_or (y_g (t_v (r_gt (r_len (r_p rfl) rfl) r_glob rfl) rfl rfl) (i_df h1' (y_1 (t_v (r_gt (r_len (r_p rfl) rfl) r_glob rfl) rfl rfl))))) (i_dt h2' (xs_r (r_bin (r_sh rfl) r_lit rfl)))
      · have h2':¬ (40:Int) < b.length:=fun q=>h2 (Int.ofNat_lt.mp q)
        rw [if_neg (fun q=>q.elim h1 h2)]
        exact r_if (r_or (y_g (t_v (r_gt (r_len (r_p rfl) rfl) r_glob rfl) rfl rfl) (i_df h1' (y_1 (t_v (r_gt (r_len (r_p rfl) rfl) r_glob rfl) rfl rfl))))) (i_df h2' rfl)
  have st3:(Ev P (n+12)).ex (.ite (.cmp .lt (.bi .len [(.var 1)]) (.bi .len [(.var 0)])) [.tupl [0,1] [(.var 1),(.var 0)]] []) (σ2 a b m p q) =
      if b.length < a.length then some (.next,σ2 b a m p q) else some (.next,σ2 a b m p q):=by
    by_cases h1:b.length < a.length
    · have h1':(b.length:Int) < a.length:=by exact Int.ofNat_lt.mpr h1
      rw [if_pos h1]
      exact r_if (t_v (r_lt (r_len (r_p rfl) rfl) (r_len (r_p rfl) rfl) rfl) rfl rfl) (i_dt h1' (xs_c (r_tupl (r_os (o_v (r_sh rfl) rfl) (r_os (o_v (r_sh rfl) rfl) rfl)) rfl) rfl))
    · have h1':¬ (b.length:Int) < a.length:=fun q=>h1 (Int.ofNat_lt.mp q)
      rw [if_neg h1]
      exact r_if (t_v (r_lt (r_len (r_p rfl) rfl) (r_len (r_p rfl) rfl) rfl) rfl rfl) (i_df h1' rfl)
  have st4:∀ a b:List Nat,a.length≤100→b.length≤100→(Ev P (n+12)).ex (.ite (.cmp .gt (.bin .mul (.bin .sub (.bi .len [(.var 1)]) (.bi .len [(.var 0)])) (.glob (.int 2))) (.var 2)) [.ret (.bin .add (.var 2) (.lit (.int 1)))] []) (σ2 a b m p q) =
      if m < ((b.length:Int) - a.length) * 2 then some (.ret (.int (m+1)),σ2 a b m p q) else some (.next,σ2 a b m p q):=by
    intro a b hla hlb
    have hm:binD .mul (.int ((b.length:Int) - a.length)) (.int 2)=some (.int (((b.length:Int) - a.length) * 2)):=b_mul (sml_of (na_sub (Nat.lt_of_le_of_lt hlb (by decide)) (Nat.lt_of_le_of_lt hla (by decide)))) rfl
    by_cases h1:m < ((b.length:Int) - a.length) * 2
    · rw [if_pos h1]
      exact r_if (t_v (r_gt (r_bin (r_bin (r_len (r_p rfl) rfl) (r_len (r_p rfl) rfl) rfl) r_glob hm) (r_sh rfl) rfl) rfl rfl) (i_dt h1 (xs_r (r_bin (r_sh rfl) r_lit rfl)))
    · rw [if_neg h1]
      exact r_if (t_v (r_gt (r_bin (r_bin (r_len (r_p rfl) rfl) (r_len (r_p rfl) rfl) rfl) r_glob hm) (r_sh rfl) rfl) rfl rfl) (i_df h1 rfl)
  have fin:∀ a b:List Nat,(∀ x∈a,x < 128)→(∀ x∈b,x < 128)→a.length≤40→b.length≤40→a≠[]→∃ σ',exs (Ev P (n+12)) ([.ite (.cmp .gt (.bin .mul (.bin .sub (.bi .len [(.var 1)]) (.bi .len [(.var 0)])) (.glob (.int 2))) (.var 2)) [.ret (.bin .add (.var 2) (.lit (.int 1)))] []]++tail3) (σ2 a b m p q)=some (.ret (.int (lv3 m a b)),σ')∧σ'.get 2=some (.sh,.int m):=by
    intro a b ha hb hla hlb h0
    rw [List.singleton_append,xs_cons,st4 a b (by lia) (by lia)]
    delta lv3
    by_cases h1:m < ((b.length:Int) - a.length) * 2
    · rw [if_pos h1,if_pos h1]; exact ⟨_,rfl,rfl⟩
    · rw [if_neg h1,if_neg h1,then_next]
      exact tail3_ok h21 ha hb hla hlb (List.length_pos_iff.mpr h0)
  delta tail2 lv2
  rw [List.cons_append,xs_cons,st1]
  by_cases h1:a=[]∨b=[]
  · rw [if_pos h1,if_pos h1]; exact ⟨_,rfl,rfl⟩
  · rw [if_neg h1,if_neg h1,then_next,List.cons_append,xs_cons,st2]
    by_cases h2:40 < a.length∨40 < b.length
    · rw [if_pos h2,if_pos h2]; exact ⟨_,rfl,rfl⟩
    · rw [if_neg h2,if_neg h2,then_next,List.cons_append,xs_cons,st3]
      by_cases h3:b.length < a.length
      · rw [if_pos h3,if_pos h3,then_next]
        exact fin b a hb ha (by lia) (by lia) (fun q=>h1 (.inr q))
      · rw [if_neg h3,if_neg h3,then_next]
        exact fin a b ha hb (by lia) (by lia) (fun q=>h1 (.inl q))
theorem tl_le (l:List Nat) (q:Nat):(tl l q).length≤l.length:=by delta tl; rw [List.length_take]; exact Nat.min_le_right _ _
theorem drop_le (q:Nat) (l:List Nat):(l.drop q).length≤l.length:=by rw [List.length_drop]; exact Nat.sub_le _ _
theorem c28 (h21:P.lookup 21=some G2.f_substitution_cost) (h28:P.lookup 28=some G2.f_levenshtein_distance) {a b:List Nat} {m:Int} (ha:∀ x∈a,x < 128) (hb:∀ x∈b,x < 128) (hla:a.length≤50) (hlb:b.length≤50) :
    (Ev P (n+70)).call 28 [(.sh,.str a),(.sh,.str b),(.sh,.int m)]=some (.int (lv a b m),some (.sh,.int m)):=by
  suffices h:∃ σ',exs (Ev P (n+69)) G2.b_levenshtein_distance (start G2.f_levenshtein_distance [(.sh,.str a),(.sh,.str b),(.sh,.int m)])=some (.ret (.int (lv a b m)),σ')∧σ'.get 2=some (.sh,.int m) by
    obtain ⟨σ',e,g⟩:=h
    have:=call_of h28 rfl e (by rw [show G2.f_levenshtein_distance.np - 1=2 from rfl,g]; rfl)
    rw [show G2.f_levenshtein_distance.np - 1=2 from rfl,g] at this
    exact this
  rw [show G2.b_levenshtein_distance=[.ite (.cmp .eq (.var 0) (.var 1)) [.ret (.lit (.int 0))] [],.asg 3 (.lit (.int 0)),w1,.asg 0 (.slc (.var 0) (some (.var 3)) none false),.asg 1 (.slc (.var 1) (some (.var 3)) none false),.asg 4 (.lit (.int 0)),w2,
    .asg 0 (.slc (.var 0) none (some pe) false),.asg 1 (.slc (.var 1) none (some pe) false)]++(tail2++tail3) from rfl]
  rw [show start G2.f_levenshtein_distance [(.sh,.str a),(.sh,.str b),(.sh,.int m)]=σ0 a b m none none from rfl]
  delta lv
  by_cases h0:a=b
  · subst h0
    rw [if_pos rfl]
    refine ⟨σ0 a a m none none,?_,rfl⟩
    exact xs_if (t_v (r_eq (r_sh rfl) (r_sh rfl) rfl) rfl rfl) (i_ct (beq_self_eq_true a) (tx_r r_lit))
  · rw [if_neg h0]
    have st0:(Ev P (n+69)).ex (.ite (.cmp .eq (.var 0) (.var 1)) [.ret (.lit (.int 0))] []) (σ0 a b m none none)=some (.next,σ0 a b m none none):=by
      have n0:(a == b)=false:=beq_false_of_ne h0
      exact r_if (t_v (r_eq (r_sh rfl) (r_sh rfl) rfl) rfl rfl) (i_cf n0 rfl)
    have st1:(Ev P (n+69)).ex (.asg 3 (.lit (.int 0))) (σ0 a b m none none)=some (.next,σ1 a b m 0):=by
      exact r_asg' (o_v r_lit rfl) rfl
    have l1:=cpl_le1 a b
    obtain ⟨k1,hk1⟩ : ∃ k1,n+69=k1+6+cpl a b:=⟨n+63 - cpl a b,fuel (f:=6) (Nat.le_trans l1 (Nat.le_trans hla (Nat.le_trans (by decide) (Nat.le_add_left 63 n))))⟩
    have st2:=w1_ok (P:=P) (n:=k1) (a:=a) (b:=b) (m:=m) (cpl a b) 0 (by lia) (by simp)
    rw [← hk1] at st2
    generalize hp:cpl a b=p at *
    have hp60:p < 2 ^ 60:=by lia
    have st3:(Ev P (n+69)).ex (.asg 0 (.slc (.var 0) (some (.var 3)) none false)) (σ1 a b m (p:Nat))=some (.next,σ1 (a.drop p) b m (p:Nat)):=by
      have s0:=@slc_drop a _ hp60
      have s1:=@slc_drop b _ hp60
      exact r_asg' (o_v (r_slc (r_p rfl) (op_s (r_sh rfl)) rfl (r_ag rfl) s0) rfl) rfl
    have st4:(Ev P (n+69)).ex (.asg 1 (.slc (.var 1) (some (.var 3)) none false)) (σ1 (a.drop p) b m (p:Nat))=some (.next,σ1 (a.drop p) (b.drop p) m (p:Nat)):=by
      have s0:=@slc_drop a _ hp60
      have s1:=@slc_drop b _ hp60
      exact r_asg' (o_v (r_slc (r_p rfl) (op_s (r_sh rfl)) rfl (r_ag rfl) s1) rfl) rfl
    generalize ha1:a.drop p=a1 at *
    generalize hb1:b.drop p=b1 at *
    have la1:a1.length≤50:=by rw [← ha1]; exact Nat.le_trans (drop_le _ _) hla
    have lb1:b1.length≤50:=by rw [← hb1]; exact Nat.le_trans (drop_le _ _) hlb
    have ma1:∀ x∈a1,x < 128:=fun x hx=>ha x (List.mem_of_mem_drop (ha1 ▸ hx))
    have mb1:∀ x∈b1,x < 128:=fun x hx=>hb x (List.mem_of_mem_drop (hb1 ▸ hx))
    have st5:(Ev P (n+69)).ex (.asg 4 (.lit (.int 0))) (σ1 a1 b1 m (p:Nat))=some (.next,σ2 a1 b1 m (p:Nat) (-((0:Nat):Int))):=by
      exact r_asg' (o_v r_lit rfl) rfl
    have l2:=cpl_le1 a1.reverse b1.reverse
    rw [List.length_reverse] at l2
    obtain ⟨k2,hk2⟩ : ∃ k2,n+69=k2+7+cpl a1.reverse b1.reverse:=⟨n+62 - cpl a1.reverse b1.reverse,fuel (f:=7) (Nat.le_trans l2 (Nat.le_trans la1 (Nat.le_trans (by decide) (Nat.le_add_left 62 n))))⟩
    have st6:=w2_ok (P:=P) (n:=k2) (a:=a1) (b:=b1) (m:=m) (p:=(p:Nat)) (cpl a1.reverse b1.reverse) 0 (by lia) (by simp)
    rw [← hk2] at st6
    generalize hq:cpl a1.reverse b1.reverse=q at *
    simp only [Nat.zero_add] at st2 st6
    have hq59:q < 2 ^ 59:=by lia
    have st7:(Ev P (n+69)).ex (.asg 0 (.slc (.var 0) none (some pe) false)) (σ2 a1 b1 m (p:Nat) (-(q:Int)))=some (.next,σ2 (tl a1 q) b1 m (p:Nat) (-(q:Int))):=by
      have h:=sl2 (P:=P) (n:=n+64) (x:=0) (a:=a1) (b:=b1) (c:=a1) (m:=m) (p:=(p:Nat)) hq59 rfl
      exact r_asg (o_v h rfl)
    have st8:(Ev P (n+69)).ex (.asg 1 (.slc (.var 1) none (some pe) false)) (σ2 (tl a1 q) b1 m (p:Nat) (-(q:Int)))=some (.next,σ2 (tl a1 q) (tl b1 q) m (p:Nat) (-(q:Int))):=by
      have h:=sl2 (P:=P) (n:=n+64) (x:=1) (a:=tl a1 q) (b:=b1) (c:=b1) (m:=m) (p:=(p:Nat)) hq59 rfl
      exact r_asg (o_v h rfl)
    have fin:=tail2_ok (n:=n+57) h21 (a:=tl a1 q) (b:=tl b1 q) (m:=m) (p:=(p:Nat)) (q:=-(q:Int)) (fun x hx=>ma1 x (List.mem_of_mem_take hx)) (fun x hx=>mb1 x (List.mem_of_mem_take hx)) (Nat.le_trans (tl_le _ _) (Nat.le_trans la1 (by decide))) (Nat.le_trans (tl_le _ _) (Nat.le_trans lb1 (by decide)))
    obtain ⟨σ',e,g⟩:=fin
    refine ⟨σ',?_,g⟩
    exact xs_c st0 (xs_c st1 (xs_c st2 (xs_c st3 (xs_c st4 (xs_c st5 (xs_c st6 (xs_c st7 (xs_c st8 e))))))))
end
end Mine
end
section
set_option autoImplicit false
namespace Mine
theorem subC_self (x:Nat):subC x x=0:=by simp [subC]
theorem subC_nonneg (x y:Nat):0≤subC x y:=by delta subC; split; exact Int.le_refl _; split <;> decide
theorem subC_le (x y:Nat):subC x y≤2:=by delta subC; split; decide; split <;> decide
theorem subC_comm (x y:Nat):subC x y=subC y x:=by
  delta subC
  by_cases h:x=y
  · subst h; rfl
  · rw [if_neg h,if_neg (Ne.symm h)]
    by_cases h':lowC x=lowC y
    · rw [if_pos h',if_pos h'.symm]
    · rw [if_neg h',if_neg (Ne.symm h')]
theorem subC_pos {x y:Nat} (h:x≠y):1≤subC x y:=by delta subC; rw [if_neg h]; split <;> decide
class inductive Al:List Nat→List Nat→Int→Prop
  | nil:Al [] [] 0
  | sub {x y a b c}:Al a b c→Al (x :: a) (y :: b) (c+subC x y)
  | del {x a b c}:Al a b c→Al (x :: a) b (c+2)
  | ins {y a b c}:Al a b c→Al a (y :: b) (c+2)
theorem Al.symm {a b:List Nat} {c:Int} (h:Al a b c):Al b a c:=by
  induction h with
  | nil=>exact .nil
  | sub _ ih=>rw [subC_comm]; exact .sub ih
  | del _ ih=>exact .ins ih
  | ins _ ih=>exact .del ih
theorem Al.snoc_sub {a b:List Nat} {c:Int} (h:Al a b c) (x y:Nat):Al (a++[x]) (b++[y]) (c+subC x y):=by
  induction h with
  | nil=>exact .sub .nil
  | @sub x' y' a b c _ ih=>rw [Int.add_right_comm]; exact .sub ih
  | @del x' a b c _ ih=>rw [Int.add_right_comm]; exact .del ih
  | @ins y' a b c _ ih=>rw [Int.add_right_comm]; exact .ins ih
theorem Al.snoc_del {a b:List Nat} {c:Int} (h:Al a b c) (x:Nat):Al (a++[x]) b (c+2):=by
  induction h with
  | nil=>exact .del .nil
  | @sub x' y' a b c _ ih=>rw [Int.add_right_comm]; exact .sub ih
  | @del x' a b c _ ih=>exact .del ih
  | @ins y' a b c _ ih=>exact .ins ih
theorem Al.rev {a b:List Nat} {c:Int} (h:Al a b c):Al a.reverse b.reverse c:=by
  induction h with
  | nil=>exact .nil
  | sub _ ih=>rw [List.reverse_cons,List.reverse_cons]; exact ih.snoc_sub _ _
  | del _ ih=>rw [List.reverse_cons]; exact ih.snoc_del _
  | ins _ ih=>rw [List.reverse_cons]; exact (ih.symm.snoc_del _).symm
noncomputable def dmR (x n:Nat) (f:List Nat→Int):List Nat→Int
  | []=>2 * (n:Int)
  | y :: b=>min (min (f (y :: b)+2) (dmR x n f b+2)) (f b+subC x y)
noncomputable def dm:List Nat→List Nat→Int
  | []=>fun b=>2 * (b.length:Int)
  | x :: a=>dmR x (a.length+1) (dm a)
theorem dm_nil_left (b:List Nat):dm [] b=2 * (b.length:Int):=rfl
theorem dm_nil_right (a:List Nat):dm a []=2 * (a.length:Int):=by induction a using List.casesOn <;> rfl
theorem dm_cons (x y:Nat) (a b:List Nat):dm (x :: a) (y :: b)=min (min (dm a (y :: b)+2) (dm (x :: a) b+2)) (dm a b+subC x y):=rfl
theorem Al.nilb:∀ (b:List Nat),Al [] b (2 * (b.length:Int))
  | []=>.nil
  | y :: b=>by
    have:=(Al.nilb b).ins (y:=y)
    rw [show (2 * (((y :: b).length:Nat):Int))=2 * (b.length:Int)+2 by simp; exact Int.neg_inj.mp rfl]
    exact this
theorem al_dm:∀ (n:Nat) (a b:List Nat),a.length+b.length≤n→Al a b (dm a b)
  | _,[],b,_=>by rw [dm_nil_left]; exact Al.nilb b
  | _,x :: a,[],_=>by rw [dm_nil_right]; exact (Al.nilb (x :: a)).symm
  | n+1,x :: a,y :: b,h=>by
    simp only [List.length_cons] at h
    rw [dm_cons]
    have h1:=al_dm n a (y :: b) (by simp; lia)
    have h2:=al_dm n (x :: a) b (by simp; exact Nat.le_of_lt_succ h)
    have h3:=al_dm n a b (by lia)
    rcases Int.le_total (min (dm a (y :: b)+2) (dm (x :: a) b+2)) (dm a b+subC x y) with q | q
    · rw [Int.min_eq_left q]
      rcases Int.le_total (dm a (y :: b)+2) (dm (x :: a) b+2) with q' | q'
      · rw [Int.min_eq_left q']; exact .del h1
      · rw [Int.min_eq_right q']; exact .ins h2
    · rw [Int.min_eq_right q]; exact .sub h3
  | 0,x :: a,y :: b,h=>by simp at h
theorem dm_al (a b:List Nat):Al a b (dm a b):=al_dm _ a b (Nat.le_refl _)
theorem min1 {a b c k:Int} (h:a≤k):min (min a b) c≤k:=Int.le_trans (Int.min_le_left _ _) (Int.le_trans (Int.min_le_left _ _) h)
theorem min2 {a b c k:Int} (h:b≤k):min (min a b) c≤k:=Int.le_trans (Int.min_le_left _ _) (Int.le_trans (Int.min_le_right _ _) h)
theorem min3 {a b c k:Int} (h:c≤k):min (min a b) c≤k:=Int.le_trans (Int.min_le_right _ _) h
theorem lmin3 {a b c k:Int} (h1:k < a) (h2:k < b) (h3:k < c):k < min (min a b) c:=Int.lt_min.mpr ⟨Int.lt_min.mpr ⟨h1,h2⟩,h3⟩
theorem len2 (l:Nat):2 * ((l+1:Nat):Int)=2 * (l:Int)+2:=Int.mul_add 2 l 1
theorem dm_le {a b:List Nat} {c:Int} (h:Al a b c):dm a b≤c:=by
  induction h with
  | nil=>rw [dm_nil_left]; decide
  | @sub x y a b c _ ih=>rw [dm_cons]; exact min3 (Int.add_le_add_right ih _)
  | @del x a b c _ ih=>
    induction b using List.casesOn with
    | nil=>rw [dm_nil_right] at ih ⊢; rw [List.length_cons,len2]; exact Int.add_le_add_right ih 2
    | cons y b=>rw [dm_cons]; exact min1 (Int.add_le_add_right ih 2)
  | @ins y a b c _ ih=>
    induction a using List.casesOn with
    | nil=>rw [dm_nil_left] at ih ⊢; rw [List.length_cons,len2]; exact Int.add_le_add_right ih 2
    | cons x a=>rw [dm_cons]; exact min2 (Int.add_le_add_right ih 2)
theorem dm_symm (a b:List Nat):dm a b=dm b a:=Int.le_antisymm (dm_le (dm_al b a).symm) (dm_le (dm_al a b).symm)
theorem dm_rev (a b:List Nat):dm a.reverse b.reverse=dm a b:=by
  refine Int.le_antisymm (dm_le (dm_al a b).rev) ?_
  have:=dm_le (dm_al a.reverse b.reverse).rev
  simpa using this
theorem al_drop {x:Nat} {a' b:List Nat} {c:Int} (h:Al a' b c):∀ a,a'=x :: a→∃ c',c'≤c+2∧Al a b c':=by
  induction h with
  | nil=>intro a e; cases e
  | @sub x' y a0 b c h ih=>intro a e; cases e; exact ⟨c+2,by have:=subC_nonneg x y; lia,.ins h⟩
  | @del x' a0 b c h ih=>intro a e; cases e; exact ⟨c,by lia,h⟩
  | @ins y a0 b c h ih=>
    intro a e
    obtain ⟨c',h1,h2⟩:=ih a e
    exact ⟨c'+2,by exact (Int.add_le_add_iff_right 2).mpr h1,.ins h2⟩
theorem dm_lip (x:Nat) (a b:List Nat):dm a b≤dm (x :: a) b+2:=by
  obtain ⟨c',h1,h2⟩:=al_drop (dm_al (x :: a) b) a rfl
  exact Int.le_trans (dm_le h2) h1
theorem dm_same (x:Nat) (a b:List Nat):dm (x :: a) (x :: b)=dm a b:=by
  rw [dm_cons,subC_self]
  have h1:=dm_lip x a b
  have h2:=dm_lip x b a
  rw [dm_symm b a,dm_symm (x :: b) a] at h2
  rw [Int.add_zero]; exact Int.min_eq_right (Int.le_min.mpr ⟨h2,h1⟩)
theorem dm_pre (u a b:List Nat):dm (u++a) (u++b)=dm a b:=by
  induction u with
  | nil=>rfl
  | cons x u ih=>rw [List.cons_append,List.cons_append,dm_same,ih]
theorem dm_post (a b v:List Nat):dm (a++v) (b++v)=dm a b:=by
  rw [← dm_rev,List.reverse_append,List.reverse_append,dm_pre,dm_rev]
noncomputable def rowOf:List Nat→List Nat→List Nat→List Int
  | _,_,[]=>[]
  | A,B,x :: a=>dm (x :: A) B :: rowOf (x :: A) B a
theorem rO_n {A B:List Nat}:rowOf A B []=[]:=rfl
theorem rO_c {A B a:List Nat} {x:Nat}:rowOf A B (x :: a)=dm (x :: A) B :: rowOf (x :: A) B a:=rfl
theorem mn2_eq (a b:Int):mn2 a b=min a b:=by delta mn2; split <;> lia
theorem rs_dm (c:Nat):∀ (a A B:List Nat) (mn:Int),(rs c (dm A B) (dm A (c :: B)) mn a (rowOf A B a)).1=rowOf A (c :: B) a∧(rs c (dm A B) (dm A (c :: B)) mn a (rowOf A B a)).2.1=dm (a.reverse++A) (c :: B)∧
    ((rs c (dm A B) (dm A (c :: B)) mn a (rowOf A B a)).2.2.2≤mn∧(∀ w∈rowOf A (c :: B) a,(rs c (dm A B) (dm A (c :: B)) mn a (rowOf A B a)).2.2.2≤w))
  | [],A,B,mn=>by simp [rs_n,rO_n]
  | x :: a,A,B,mn=>by
    have e:mn2 (mn2 (dm A (c :: B)) (dm (x :: A) B)+2) (dm A B+subC c x)=dm (x :: A) (c :: B):=by
      rw [dm_cons,mn2_eq,mn2_eq,subC_comm c x]; lia
    have ih:=rs_dm c a (x :: A) B (if dm (x :: A) (c :: B) < mn then dm (x :: A) (c :: B) else mn)
    obtain ⟨h1,h2,h3,h4⟩:=ih
    simp only [rs_c,rO_c,e]
    refine ⟨by rw [h1],by rw [h2]; simp,?_,?_⟩
    · refine Int.le_trans h3 ?_
      split <;> lia
    · intro w hw
      rcases List.mem_cons.mp hw with q | q
      · rw [q]; refine Int.le_trans h3 ?_; split <;> lia
      · exact h4 w q
theorem mn_abs {x y z:Int} (h:z≤x+2):mn2 (mn2 x y+2) z=mn2 (y+2) z:=by
  rw [mn2_eq,mn2_eq,mn2_eq]
  rcases Int.le_total x y with q | q
  · rw [Int.min_eq_left q,Int.min_eq_right h,Int.min_eq_right (Int.le_trans h (Int.add_le_add_right q 2))]
  · rw [Int.min_eq_right q]
theorem rs_first (c:Nat) (a B:List Nat) (mn:Int) (h:a≠[]):rs c ((B.length:Int) * 2) ((B.length:Int) * 2) mn a (rowOf [] B a)=rs c (dm [] B) (dm [] (c :: B)) mn a (rowOf [] B a):=by
  induction a using List.casesOn with
  | nil=>exact absurd rfl h
  | cons x a=>
    have e:mn2 (mn2 ((B.length:Int) * 2) (dm [x] B)+2) ((B.length:Int) * 2+subC c x)=mn2 (mn2 (dm [] (c :: B)) (dm [x] B)+2) (dm [] B+subC c x):=by
      have h2:=Int.add_le_add_left (subC_le c x)
      rw [mn_abs (h2 _),mn_abs (by rw [dm_nil_left,dm_nil_left,List.length_cons,len2]; exact Int.le_trans (h2 _) (Int.le_add_of_nonneg_right (by decide))),dm_nil_left,Int.mul_comm]
    simp only [rs_c,rO_c,e]
theorem above {m:Int} {B:List Nat}:∀ (A:List Nat),(∀ A',A' <:+ A→m < dm A' B)→∀ y,∀ A',A' <:+ A→m < dm A' (y :: B)
  | A,h,y,[],hs=>by
    have:=h [] (List.nil_suffix)
    rw [dm_nil_left] at this ⊢; rw [List.length_cons,len2]; exact Int.lt_of_lt_of_le this (Int.le_add_of_nonneg_right (by decide))
  | A,h,y,x :: A',hs=>by
    have h1:=h (x :: A') hs
    have hs':A' <:+ A:=(List.suffix_cons x A').trans hs
    have h2:=h A' hs'
    have h3:=above A h y A' hs'
    rw [dm_cons]
    exact lmin3 (Int.lt_of_lt_of_le h3 (Int.le_add_of_nonneg_right (by decide))) (Int.lt_of_lt_of_le h1 (Int.le_add_of_nonneg_right (by decide))) (Int.lt_of_lt_of_le h2 (Int.le_add_of_nonneg_right (subC_nonneg x y)))
theorem above_all {m:Int} {A B:List Nat} (h:∀ A',A' <:+ A→m < dm A' B):∀ (R:List Nat),∀ A',A' <:+ A→m < dm A' (R++B)
  | []=>h
  | y :: R=>above A (above_all h R) y
theorem suffix_row {B:List Nat}:∀ (a A A':List Nat),A' <:+ (a.reverse++A)→A' <:+ A∨dm A' B∈rowOf A B a
  | [],A,A',h=>.inl (by simpa using h)
  | x :: a,A,A',h=>by
    rw [List.reverse_cons,List.append_assoc] at h
    rcases suffix_row (B:=B) a (x :: A) A' h with q | q
    · rcases List.suffix_cons_iff.mp q with q | q
      · subst q; exact .inr List.mem_cons_self
      · exact .inl q
    · exact .inr (List.mem_cons_of_mem _ q)
theorem lvDP_spec {m:Int} {a:List Nat} (ha:a≠[]):∀ (rest B:List Nat) (res:Int),(rest=[]→res=dm a.reverse B)→
    lvDP m a rest B.length (rowOf [] B a) res=dm a.reverse (rest.reverse++B)∨(lvDP m a rest B.length (rowOf [] B a) res=m+1∧m < dm a.reverse (rest.reverse++B))
  | [],B,res,h=>.inl (h rfl)
  | c :: rest,B,res,h=>by
    rw [lv_c,rs_first c a B big ha]
    obtain ⟨h1,h2,h3,h4⟩:=rs_dm c a [] B big
    rw [h1,h2]
    split
    · rename_i hm
      right
      refine ⟨rfl,?_⟩
      rw [List.reverse_cons,List.append_assoc]
      have hrow:∀ w∈rowOf [] (c :: B) a,m < w:=fun w hw=>Int.lt_of_lt_of_le hm (h4 w hw)
      refine above_all (A:=a.reverse) (B:=c :: B) (fun A' hA=>?_) rest.reverse a.reverse (List.suffix_refl _)
      rcases suffix_row (B:=c :: B) a [] A' (by simpa using hA) with q | q
      · have:A'=[]:=List.suffix_nil.mp q
        subst this
        induction a using List.casesOn with
        | nil=>exact absurd rfl ha
        | cons x a=>
          have h5:=hrow (dm [x] (c :: B)) List.mem_cons_self
          have h6:dm [x] (c :: B)≤dm [] B+subC x c:=by rw [dm_cons]; exact Int.min_le_right (min (dm [] (c :: B)+2) (dm [x] B+2)) (dm [] B+subC x c)
          rw [dm_nil_left] at h6 ⊢
          have:=subC_le x c
          simp; lia
      · exact hrow _ q
    · have ih:=lvDP_spec (m:=m) ha rest (c :: B) (dm (a.reverse++[]) (c :: B)) (fun _=>by simp)
      rw [List.length_cons] at ih
      rw [List.reverse_cons,List.append_assoc]
      exact ih
theorem row0_is:∀ (a A:List Nat),rowOf A [] a=(List.range' A.length a.length).map fun i:Nat=>2+(i:Int) * 2
  | [],A=>rfl
  | x :: a,A=>by
    rw [rO_c,row0_is a (x :: A),List.length_cons,List.length_cons,List.range'_succ,List.map_cons,dm_nil_right]
    congr 1
    simp; lia
theorem lv3_spec {m:Int} {a b:List Nat} (ha:a≠[]) (hb:b≠[]):lv3 m a b=dm a b∨(lv3 m a b=m+1∧m < dm a b):=by
  delta lv3
  split
  · rename_i h
    refine .inr ⟨rfl,?_⟩
    have:((b.length:Int) - a.length) * 2≤dm a b:=by
      have key:∀ {a b:List Nat} {c:Int},Al a b c→((b.length:Int) - a.length) * 2≤c:=by
        intro a b c h
        induction h with
        | nil=>decide
        | @sub x y a b c _ ih=>have:=subC_nonneg x y; simp; lia
        | del _ ih=>simp; lia
        | ins _ ih=>simp; lia
      exact key (dm_al a b)
    exact Int.lt_of_lt_of_le h this
  · have:=lvDP_spec (m:=m) ha b [] 0 (fun q=>absurd q hb)
    rw [List.append_nil,dm_rev,row0_is] at this
    simp only [List.length_nil] at this
    delta row0
    rw [List.range_eq_range']
    exact this
theorem lv2_spec {m:Int} {a b:List Nat} (h1:a.length≤40) (h2:b.length≤40):lv2 m a b=dm a b∨(lv2 m a b=m+1∧m < dm a b):=by
  delta lv2
  split
  · rename_i h
    left
    rcases h with rfl | rfl
    · rw [dm_nil_left]; simp
    · rw [dm_nil_right]; simp
  · rename_i h
    rw [not_or] at h
    rw [if_neg (by lia)]
    split
    · have:=lv3_spec (m:=m) h.2 h.1
      rw [dm_symm b a] at this
      exact this
    · exact lv3_spec h.1 h.2
theorem trim_post (a b:List Nat):dm (tl a (cpl a.reverse b.reverse)) (tl b (cpl a.reverse b.reverse))=dm a b:=by
  have h:=cpl_take a.reverse b.reverse
  have l1:=cpl_le1 a.reverse b.reverse
  have l2:=cpl_le2 a.reverse b.reverse
  rw [List.length_reverse] at l1 l2
  generalize cpl a.reverse b.reverse=q at *
  have e:a.drop (a.length - q)=b.drop (b.length - q):=by
    have h':=congrArg List.reverse h
    rw [List.reverse_take,List.reverse_take,List.reverse_reverse,List.reverse_reverse,List.length_reverse,List.length_reverse] at h'
    exact h'
  have:=dm_post (tl a q) (tl b q) (a.drop (a.length - q))
  unfold tl at *
  rw [List.take_append_drop,e,List.take_append_drop] at this
  exact this.symm
theorem trim_pre (a b:List Nat):dm (a.drop (cpl a b)) (b.drop (cpl a b))=dm a b:=by
  have h:=cpl_take a b
  have:=dm_pre (a.take (cpl a b)) (a.drop (cpl a b)) (b.drop (cpl a b))
  rw [List.take_append_drop,h,List.take_append_drop] at this
  exact this.symm
theorem dm_self (a:List Nat):dm a a=0:=by
  have:=dm_pre a [] []
  rw [List.append_nil,dm_nil_left] at this
  simpa using this
theorem lv_spec {m:Int} {a b:List Nat} (h1:a.length≤40) (h2:b.length≤40):lv a b m=dm a b∨(lv a b m=m+1∧m < dm a b):=by
  delta lv
  split
  · rename_i h; subst h; exact .inl (dm_self a).symm
  · have:=lv2_spec (m:=m) (a:=tl (a.drop (cpl a b)) (cpl (a.drop (cpl a b)).reverse (b.drop (cpl a b)).reverse)) (b:=tl (b.drop (cpl a b)) (cpl (a.drop (cpl a b)).reverse (b.drop (cpl a b)).reverse))
      (Nat.le_trans (tl_le _ _) (Nat.le_trans (drop_le _ _) h1)) (Nat.le_trans (tl_le _ _) (Nat.le_trans (drop_le _ _) h2))
    rw [trim_post,trim_pre] at this
    exact this
theorem al_ge {a b:List Nat} {c:Int} (h:Al a b c):2 * ((b.length:Int) - a.length)≤c:=by
  induction h with
  | nil=>decide
  | @sub x y a b c _ ih=>have:=subC_nonneg x y; simp; lia
  | del _ ih=>simp; lia
  | ins _ ih=>simp; lia
theorem al_sub {a b:List Nat} {c:Int} (h:Al a b c):c≤2 * ((b.length:Int) - a.length)→a.Sublist b:=by
  induction h with
  | nil=>intro _; exact List.Sublist.slnil
  | @sub x y a b c h ih=>
    intro hc
    have h1:=al_ge h
    simp only [List.length_cons] at hc
    by_cases e:x=y
    · subst e; rw [subC_self] at hc; exact (ih (by lia)).cons_cons x
    · have:=subC_pos e; lia
  | @del x a b c h ih=>
    intro hc
    have h1:=al_ge h
    simp only [List.length_cons] at hc
    lia
  | @ins y a b c h ih=>
    intro hc
    simp only [List.length_cons] at hc
    exact (ih (by lia)).cons y
theorem sub_al {a b:List Nat} (h:a.Sublist b):Al a b (2 * ((b.length:Int) - a.length)):=by
  induction h with
  | slnil=>exact .nil
  | @cons a b y _ ih=>
    have:=ih.ins (y:=y)
    rw [show (2 * ((((y :: b).length:Nat):Int) - a.length))=2 * ((b.length:Int) - a.length)+2 by simp; lia]
    exact this
  | @cons_cons a b x _ ih=>
    have:=ih.sub (x:=x) (y:=x)
    rw [subC_self] at this
    rw [show (2 * ((((x :: b).length:Nat):Int) - ((x :: a).length:Nat)))=2 * ((b.length:Int) - a.length)+0 by simp; lia]
    exact this
theorem dm_ge (a b:List Nat):2 * ((b.length:Int) - a.length)≤dm a b:=al_ge (dm_al a b)
theorem dm_eq {a b:List Nat}:dm a b=2 * ((b.length:Int) - a.length) ↔ a.Sublist b:=
  ⟨fun h=>al_sub (dm_al a b) (by exact Int.le_of_eq h),fun h=>Int.le_antisymm (dm_le (sub_al h)) (dm_ge a b)⟩
theorem told_spec {a b:List Nat} {e:Int} (he:0≤e) (h1:a.length≤40) (h2:b.length≤40) (t:Int) (ht:t=lv a b (2 * ((b.length:Int) - a.length)+e)∨t=lv b a (2 * ((b.length:Int) - a.length)+e)) :
    2 * ((b.length:Int) - a.length)≤t∧(t=2 * ((b.length:Int) - a.length) ↔ a.Sublist b):=by
  have key:t=dm a b∨(t=2 * ((b.length:Int) - a.length)+e+1∧2 * ((b.length:Int) - a.length)+e < dm a b):=by
    rcases ht with rfl | rfl
    · exact lv_spec h1 h2
    · rw [dm_symm]; exact lv_spec h2 h1
  have g:=dm_ge a b
  rw [← dm_eq]
  rcases key with rfl | ⟨rfl,h⟩
  · exact ⟨g,Iff.rfl⟩
  · exact ⟨by lia,by constructor <;> intro q <;> lia⟩
end Mine
end
section
set_option autoImplicit false
namespace Mine
structure Near (T:List Nat) (σ τ:St):Prop where
  len:τ.length=σ.length
  get:∀ j,j ∉ T→τ.get j=σ.get j
theorem Near.refl (T:List Nat) (σ:St):Near T σ σ:=⟨rfl,fun _ _=>rfl⟩
theorem Near.trans {T:List Nat} {σ τ υ:St} (h:Near T σ τ) (h':Near T τ υ):Near T σ υ:=⟨h'.len.trans h.len,fun j hj=>(h'.get j hj).trans (h.get j hj)⟩
theorem Near.mono {T T':List Nat} {σ τ:St} (h:Near T σ τ) (hs:∀ j∈T,j∈T'):Near T' σ τ:=⟨h.len,fun j hj=>h.get j fun q=>hj (hs j q)⟩
theorem Near.put {T:List Nat} {σ τ:St} (h:Near T σ τ) {i:Nat} (hi:i∈T) (s:Slot):Near T σ (τ.put i s):=by
  refine ⟨(len_put ..).trans h.len,fun j hj=>?_⟩
  have ne:j≠i:=fun q=>hj (q ▸ hi)
  delta St.get St.put
  rw [List.getElem?_set_ne (Ne.symm ne)]
  exact h.get j hj
theorem get_del (σ:St) (i j:Nat):(σ.del i).get j=if j=i then none else σ.get j:=by
  delta St.get St.del
  by_cases e:j=i
  · subst e; rw [if_pos rfl,List.getElem?_set]; simp; split <;> rfl
  · rw [if_neg e,List.getElem?_set_ne (Ne.symm e)]
theorem len_del (σ:St) (i:Nat):(σ.del i).length=σ.length:=List.length_set
theorem Near.del {T:List Nat} {σ τ:St} (h:Near T σ τ) {i:Nat} (hi:σ.get i=none):Near (T.filter (·≠i)) σ (τ.del i):=by
  refine ⟨(len_del ..).trans h.len,fun j hj=>?_⟩
  rw [get_del]
  split
  · rename_i e; rw [e,hi]
  · rename_i e
    exact h.get j fun q=>hj (List.mem_filter.mpr ⟨q,by simpa using e⟩)
theorem Near.eq {σ τ:St} (h:Near [] σ τ):τ=σ:=by
  apply List.ext_getElem?
  intro j
  have hg:=h.get j (by simp)
  unfold St.get at hg
  by_cases hj:j < σ.length
  · have hj':j < τ.length:=by rw [h.len]; exact hj
    rw [List.getElem?_eq_getElem hj,List.getElem?_eq_getElem hj'] at hg ⊢
    simpa using hg
  · have hl:=h.len
    rw [List.getElem?_eq_none (Nat.not_lt.mp hj),List.getElem?_eq_none (by rw [hl]; exact Nat.not_lt.mp hj)]
theorem Near.del1 {σ τ:St} {i:Nat} (h:Near [i] σ τ) (hi:σ.get i=none):τ.del i=σ:=by
  have:=h.del hi
  rw [show [i].filter (·≠i)=[] by simp] at this
  exact this.eq
section
variable {F:Funs} {σ σ₁ τ:St}
theorem lc_true {tg:Tg} {cs:List E} {body:St→List D→Option (List D × St)} {d:D} {r:List D} {τ τ₁ τ₂ τ₃:St} {acc acc':List D} (e1:bindT tg d τ=some τ₁) (e2:allT F cs τ₁=some (true,τ₂)) (e3:body τ₂ acc=some (acc',τ₃)) :
    loopC F tg cs body (d :: r) τ acc=loopC F tg cs body r τ₃ acc':=by
  show (bindT tg d τ).bind _=_
  rw [e1,Option.bind_some,e2]
  show (body τ₂ acc).bind _=_
  rw [e3]; rfl
theorem lc_false {tg:Tg} {cs:List E} {body:St→List D→Option (List D × St)} {d:D} {r:List D} {τ τ₁ τ₂:St} {acc:List D} (e1:bindT tg d τ=some τ₁) (e2:allT F cs τ₁=some (false,τ₂)) :
    loopC F tg cs body (d :: r) τ acc=loopC F tg cs body r τ₂ acc:=by
  show (bindT tg d τ).bind _=_
  rw [e1,Option.bind_some,e2]; rfl
theorem loopC_near {T:List Nat} {tg:Tg} {conds:List E} {body:St→List D→Option (List D × St)} {Bd:D→St→Prop} {p:D→Bool} {g:D→List D}:∀ {ds:List D},
    (∀ d∈ds,∀ τ,Near T σ τ→∃ τ',bindT tg d τ=some τ'∧Near T σ τ'∧Bd d τ')→(∀ d∈ds,∀ τ,Near T σ τ→Bd d τ→allT F conds τ=some (p d,τ))→
    (∀ d∈ds,p d=true→∀ τ acc,Near T σ τ→Bd d τ→acc.length+(g d).length≤line→∃ τ',body τ acc=some (acc++g d,τ')∧Near T σ τ')→
    ∀ τ acc,Near T σ τ→acc.length+((ds.filter p).flatMap g).length≤line→∃ τ',loopC F tg conds body ds τ acc=some (acc++(ds.filter p).flatMap g,τ')∧Near T σ τ'
  | [],_,_,_,τ,acc,hn,_=>⟨τ,by simp [lC_n],hn⟩
  | d :: ds,h1,h2,h3,τ,acc,hn,hl=>by
    obtain ⟨τ₁,e1,n1,b1⟩:=h1 d List.mem_cons_self τ hn
    have e2:=h2 d List.mem_cons_self τ₁ n1 b1
    have ih:=fun (τ:St) (acc:List D)=>loopC_near (ds:=ds) (fun d hd=>h1 d (List.mem_cons_of_mem _ hd)) (fun d hd=>h2 d (List.mem_cons_of_mem _ hd)) (fun d hd=>h3 d (List.mem_cons_of_mem _ hd)) τ acc
    cases hp:p d with
    | true=>
      rw [hp] at e2
      rw [List.filter_cons_of_pos hp,List.flatMap_cons,List.length_append] at hl
      obtain ⟨τ₂,e3,n3⟩:=h3 d List.mem_cons_self hp τ₁ acc n1 b1 (by lia)
      obtain ⟨τ',e4,n4⟩:=ih τ₂ (acc++g d) n3 (by rw [List.length_append]; lia)
      refine ⟨τ',?_,n4⟩
      rw [List.filter_cons_of_pos hp,List.flatMap_cons,← List.append_assoc]
      exact (lc_true e1 e2 e3).trans e4
    | false=>
      rw [hp] at e2
      rw [List.filter_cons_of_neg (by simp [hp])] at hl ⊢
      obtain ⟨τ',e4,n4⟩:=ih τ₁ acc n1 hl
      refine ⟨τ',?_,n4⟩
      exact (lc_false e1 e2).trans e4
theorem compG_nil {elt:E} {d:D} {acc:List D} (h:F.ev elt τ=some (d,τ)) (hl:acc.length < line):compG F elt [] τ acc=some (acc++[d],τ):=by
  show (F.ev elt τ).bind _=_
  rw [h]; exact if_pos hl
theorem compG_cons {elt:E} {tg:Tg} {it:E} {cs:List E} {gs:List (Tg × E × List E)} {ds:List D} {acc:List D} (h:items F it σ=some (ds,σ₁)):compG F elt ((tg,it,cs) :: gs) σ acc=loopC F tg cs (compG F elt gs) ds σ₁ acc:=by
  show (items F it σ).bind _=_
  rw [h]; rfl
theorem bind_v {T:List Nat} {i:Nat} (hi:i∈T) (hl:i < σ.length) (d:D) (τ:St) (h:Near T σ τ):∃ τ',bindT (.v i) d τ=some τ'∧Near T σ τ'∧τ'.get i=some (.sh,d):=
  ⟨τ.put i (.sh,d),rfl,h.put hi _,by rw [get_put _ _ _ _ (by rw [h.len]; exact hl),if_pos rfl]⟩
theorem flatMap_single {α β:Type} (f:α→β) (l:List α):(l.flatMap fun a=>[f a])=l.map f:=by
  induction l with
  | nil=>rfl
  | cons a l ih=>simp [List.flatMap_cons,ih]
theorem comp_if {elt it:E} {i:Nat} {cs:List E} {ds:List D} {p:D→Bool} {g:D→D} (hi:σ.get i=none) (hl:i < σ.length) (hit:items F it σ₁=some (ds,σ))
    (hc:∀ d∈ds,∀ τ,Near [i] σ τ→τ.get i=some (.sh,d)→allT F cs τ=some (p d,τ))
    (he:∀ d∈ds,p d=true→∀ τ,Near [i] σ τ→τ.get i=some (.sh,d)→F.ev elt τ=some (g d,τ)) (hz:ds.length≤line) :
    stepO F (.comp elt [(.v i,it,cs)]) σ₁=some (.own,.list ((ds.filter p).map g),σ):=by
  have hlen:(ds.filter p).length≤line:=Nat.le_trans (List.length_filter_le ..) hz
  have:=loopC_near (F:=F) (σ:=σ) (T:=[i]) (tg:=.v i) (conds:=cs) (body:=compG F elt []) (Bd:=fun d τ=>τ.get i=some (.sh,d)) (p:=p) (g:=fun d=>[g d]) (ds:=ds)
    (fun d _ τ h=>bind_v (by simp) hl d τ h) hc (fun d hd hp τ acc hn hb hz=>⟨τ,compG_nil (he d hd hp τ hn hb) (by simp at hz; assumption),hn⟩) σ [] (.refl ..) (by rw [flatMap_single]; simpa using hlen)
  obtain ⟨τ,e,hn⟩:=this
  rw [flatMap_single,List.nil_append] at e
  rw [o_comp,compG_cons hit,e]
  simp only [Option.map_some,dG_n,dG_c,dT_v,dT_t]
  rw [hn.del1 hi]
theorem comp_map {elt it:E} {i:Nat} {ds:List D} {g:D→D} (hi:σ.get i=none) (hl:i < σ.length) (hit:items F it σ₁=some (ds,σ))
    (he:∀ d∈ds,∀ τ,Near [i] σ τ→τ.get i=some (.sh,d)→F.ev elt τ=some (g d,τ)) (hz:ds.length≤line) :
    stepO F (.comp elt [(.v i,it,[])]) σ₁=some (.own,.list (ds.map g),σ):=by
  have:=comp_if (F:=F) (σ:=σ) (σ₁:=σ₁) (elt:=elt) (it:=it) (i:=i) (cs:=[]) (ds:=ds) (p:=fun _=>true) (g:=g) hi hl hit (fun d _ τ _ _=>rfl) (fun d hd _=>he d hd) hz
  rw [show ds.filter (fun _=>true)=ds from List.filter_eq_self.mpr fun _ _=>rfl] at this
  exact this
end
end Mine
end
section
set_option autoImplicit false
namespace Mine
section
variable {P:List (Nat × FnDef)} {n:Nat} {F:Funs} {σ:St}
theorem c38 (h:P.lookup 38=some G2.f_ISTERMINAL) {x:Int}:(Ev P (n+5)).call 38 [(.sh,.int x)]=some (.bool (decide (x < 256)),some (.sh,.int x)):=by
  refine call_of (ss:=[(.sh,.int x)]) (d:=.bool (decide (x < 256))) (σ:=[some (.sh,.int x)]) h rfl ?_ rfl
  delta G2.f_ISTERMINAL G2.b_ISTERMINAL start
  exact xs_r (r_lt (r_sh rfl) rfl rfl)
theorem c45 (h:P.lookup 45=some G2.f_ISNONTERMINAL) {x:Int}:(Ev P (n+5)).call 45 [(.sh,.int x)]=some (.bool (decide (256≤x)),some (.sh,.int x)):=by
  refine call_of (ss:=[(.sh,.int x)]) (d:=.bool (decide (256≤x))) (σ:=[some (.sh,.int x)]) h rfl ?_ rfl
  delta G2.f_ISNONTERMINAL G2.b_ISNONTERMINAL start
  exact xs_r (r_ge (r_sh rfl) rfl rfl)
theorem c52 (h:P.lookup 52=some G2.f_ISEOF) {x:Int}:(Ev P (n+5)).call 52 [(.sh,.int x)]=some (.bool (decide (x=0)),some (.sh,.int x)):=by
  refine call_of (ss:=[(.sh,.int x)]) (d:=.bool (decide (x=0))) (σ:=[some (.sh,.int x)]) h rfl ?_ rfl
  delta G2.f_ISEOF G2.b_ISEOF start
  exact xs_r (r_eq (r_sh rfl) rfl rfl)
noncomputable def escS (p:Nat × List Nat):S:=.ite (.cmp .isIn (.lit (.str [p.1])) (.var 0)) [.asg 0 (.repl (.var 0) (.tlit [p.1]) p.2)] []
noncomputable def chain (l:List (Nat × List Nat)) (t:List Nat):List Nat:=l.foldl (fun t p=>replC p.1 p.2 t) t
theorem replC_cons {c x:Nat} {w t:List Nat}:replC c w (x :: t)=(if x=c then w else [x])++replC c w t:=by simp [replC]
theorem replC_id {c:Nat} {w:List Nat}:∀ {t:List Nat},t.contains c=false→replC c w t=t
  | [],_=>rfl
  | x :: t,h=>by
    simp only [List.contains_cons,Bool.or_eq_false_iff] at h
    rw [replC_cons,replC_id h.2,if_neg (fun q=>by subst q; simp at h)]; rfl
theorem replC_ge {c:Nat} {w:List Nat} (hw:0 < w.length):∀ (t:List Nat),t.length≤(replC c w t).length
  | []=>Nat.le_refl _
  | x :: t=>by
    have:=replC_ge (c:=c) hw t
    rw [replC_cons,List.length_append,List.length_cons]
    split
    · lia
    · simp; exact Nat.sub_le_iff_le_add'.mp this
theorem chain_len:∀ (l:List (Nat × List Nat)),(∀ p∈l,0 < p.2.length)→∀ t,t.length≤(chain l t).length
  | [],_,t=>Nat.le_refl _
  | p :: l,h,t=>Nat.le_trans (replC_ge (h p List.mem_cons_self) t) (chain_len l (fun q hq=>h q (List.mem_cons_of_mem _ hq)) _)
theorem replC_flat {c:Nat} {w:List Nat} {f:Nat→List Nat}:∀ (t:List Nat),replC c w (t.flatMap f)=t.flatMap fun x=>replC c w (f x)
  | []=>rfl
  | x :: t=>by
    rw [List.flatMap_cons,List.flatMap_cons,← replC_flat t]
    simp [replC]
theorem chain_flat:∀ (l:List (Nat × List Nat)) (t:List Nat) (f:Nat→List Nat),chain l (t.flatMap f)=t.flatMap fun x=>chain l (f x)
  | [],_,_=>rfl
  | p :: l,t,f=>by
    show chain l (replC p.1 p.2 (t.flatMap f))=_
    rw [replC_flat,chain_flat l]; rfl
noncomputable def code (l:List (Nat × List Nat)) (x:Nat):List Nat:=chain l [x]
theorem chain_is (l:List (Nat × List Nat)) (t:List Nat):chain l t=t.flatMap (code l):=by
  have:=chain_flat l t (fun x=>[x])
  rw [show t.flatMap (fun x=>[x])=t by induction t <;> simp_all] at this
  exact this
noncomputable def okE (l:List (Nat × List Nat)):Bool:=l.all fun p=>decide (0 < p.2.length) && decide (p.2.length≤64) && decide (p.2≠[p.1]) && decide (p.1 < 256)
theorem escs_ok:∀ (l:List (Nat × List Nat)) (t:List Nat),okE l=true→(chain l t).length≤4096→exs (Ev P (n+6)) (l.map escS++[.ret (.var 0)]) [some (.sh,.str t)]=some (.ret (.str (chain l t)),[some (.sh,.str (chain l t))])
  | [],t,_,_=>by simp [chain]
  | p :: l,t,h,hz=>by
    obtain ⟨c,w⟩:=p
    have h':okE l=true∧0 < w.length∧w.length≤64∧w≠[c]∧c < 256:=by
      simp only [okE,List.all_cons,Bool.and_eq_true,decide_eq_true_eq] at h ⊢
      obtain ⟨⟨⟨⟨a,b⟩,c'⟩,d⟩,e⟩:=h
      exact ⟨e,a,b,c',d⟩
    obtain ⟨hl,h1,h2,h3,h4⟩:=h'
    have hpos:∀ p∈l,0 < p.2.length:=fun p hp=>by
      have:=List.all_eq_true.mp hl p hp
      simp only [Bool.and_eq_true,decide_eq_true_eq] at this
      exact this.1.1.1
    have hz':(chain l (replC c w t)).length≤4096:=hz
    have ht:t.length≤4096:=Nat.le_trans (Nat.le_trans (replC_ge h1 t) (chain_len l hpos _)) hz'
    have st:(Ev P (n+6)).ex (escS (c,w)) [some (.sh,.str t)]=some (.next,[some (.sh,.str (replC c w t))]):=by
      delta escS
      by_cases hc:t.contains c=true
      · have hc':c∈t:=by simpa using hc
        simp [iE1,iE2,iE3,iE4,iE5,iE6,iE7,iE8,iE9,cmpD,hc',ht,h2,h3,h4]
      · have hc2:t.contains c=false:=by simpa using hc
        have hc':c ∉ t:=by simpa using hc
        simp [iE1,iE2,iE3,iE4,iE5,iE6,iE7,iE8,iE9,cmpD,hc',replC_id hc2]
    rw [List.map_cons,List.cons_append,xs_cons,st,then_next]
    exact escs_ok l (replC c w t) hl hz'
theorem esc_call {a:Nat} {f:FnDef} {l:List (Nat × List Nat)} (hf:P.lookup a=some f) (he:f=⟨1,1,[.tryb (l.map escS++[.ret (.var 0)])]⟩) (ho:okE l=true) {t:List Nat} (hz:(t.flatMap (code l)).length≤4096) :
    (Ev P (n+8)).call a [(.sh,.str t)]=some (.str (t.flatMap (code l)),some (.sh,.str (t.flatMap (code l)))):=by
  subst he
  rw [← chain_is] at hz ⊢
  refine call_of (σ:=[some (.sh,.str (chain l t))]) (d:=.str (chain l t)) hf rfl ?_ rfl
  have e:=escs_ok (P:=P) (n:=n) l t ho hz
  delta start
  simp only [xs_cons,ex_s,s_tryb]
  show thenX _ (exs _ _ [some (.sh,.str t)])=_
  rw [e]
  rfl
noncomputable def esc0:List (Nat × List Nat):=[(38,[38,97,109,112,59]),(60,[38,108,116,59]),(62,[38,103,116,59])]
noncomputable def esc1:List (Nat × List Nat):=esc0++[(34,[38,113,117,111,116,59]),(13,[38,35,49,51,59]),(10,[38,35,49,48,59]),(9,[38,35,48,57,59])]
noncomputable def esc2:List (Nat × List Nat):=[(38,[38,97,109,112,59]),(62,[38,103,116,59]),(34,[38,113,117,111,116,59])]
noncomputable def esc3:List (Nat × List Nat):=esc0++[(13,[38,35,120,68,59])]
noncomputable def esc4:List (Nat × List Nat):=[(38,[38,97,109,112,59]),(60,[38,108,116,59]),(34,[38,113,117,111,116,59]),(9,[38,35,120,57,59]),(10,[38,35,120,65,59]),(13,[38,35,120,68,59])]
noncomputable def escOf:Nat→List (Nat × List Nat)
  | 0=>esc0 | 1=>esc1 | 2=>esc2 | 3=>esc3 | _=>esc4
noncomputable def stepM (o:List Int) (g:Nat):List Int:=match o,g with
  | [a,b,c,d],0=>if a < b then [b,a,c,d] else [a,b,c,d]
  | [a,b,c,d],1=>if b < c then [a,c,b,d] else [a,b,c,d]
  | [a,b,c,d],2=>if c < d then [a,b,d,c] else [a,b,c,d]
  | o,_=>o
theorem len4 {α:Type} {P:List α→Prop} (h:∀ a b c d,P [a,b,c,d]) {o:List α} (e:o.length=4):P o:=by
  obtain ⟨a,o,rfl⟩:=List.exists_cons_of_length_eq_add_one e
  obtain ⟨b,o,rfl⟩:=List.exists_cons_of_length_eq_add_one (Nat.succ.inj e)
  obtain ⟨c,o,rfl⟩:=List.exists_cons_of_length_eq_add_one (Nat.succ.inj (Nat.succ.inj e))
  obtain ⟨d,rfl⟩:=List.length_eq_one_iff.mp (Nat.succ.inj (Nat.succ.inj (Nat.succ.inj e)))
  exact h a b c d
theorem if_len {p:Prop} [Decidable p] {a b:List Int} {n:Nat} (ha:a.length=n) (hb:b.length=n):(if p then a else b).length=n:=by
  by_cases h:p
  · rw [if_pos h]; exact ha
  · rw [if_neg h]; exact hb
theorem stepM_len {o:List Int} (h:o.length=4) (g:Nat):(stepM o g).length=4:=
  len4 (P:=fun o=>(stepM o g).length=4) (fun a b c d=>by
    induction g using Nat.casesAuxOn with
    | zero=>exact if_len rfl rfl
    | succ g=>induction g using Nat.casesAuxOn with
      | zero=>exact if_len rfl rfl
      | succ g=>induction g using Nat.casesAuxOn with
        | zero=>exact if_len rfl rfl
        | succ g=>rfl) h
theorem sM0 {a b c d:Int}:stepM [a,b,c,d] 0=if a < b then [b,a,c,d] else [a,b,c,d]:=rfl
theorem sM1 {a b c d:Int}:stepM [a,b,c,d] 1=if b < c then [a,c,b,d] else [a,b,c,d]:=rfl
theorem sM2 {a b c d:Int}:stepM [a,b,c,d] 2=if c < d then [a,b,d,c] else [a,b,c,d]:=rfl
noncomputable def madeF (gs:List Nat):List Int:=gs.foldl stepM [0,1,2,3]
noncomputable def bM:List S:=[.ite (.call (.glob (.fn 38)) [(.bin .sub (.bin .add (.lit (.int 256)) (.idx (.var 1) (.var 2))) (.idx (.var 1) (.bin .add (.var 2) (.lit (.int 1)))))] false) [.swp 1 [(.var 2),(.bin .add (.var 2) (.lit (.int 1)))] [(.idx (.var 1) (.bin .add (.var 2) (.lit (.int 1)))),(.idx (.var 1) (.var 2))]] []]
noncomputable def σM (gs:List Nat) (o:List Int) (x:Option Slot):St:=[some (.sh,.list (gs.map fun g:Nat=>D.int g)),some (.own,.list (o.map .int)),x]
theorem weak1_ints (l:List Int):(l.map D.int).map weak1=l.map D.int:=by
  rw [List.map_map]; rfl
theorem bM_ok (h38:P.lookup 38=some G2.f_ISTERMINAL) {gs:List Nat} {o:List Int} {g:Nat} (ho:o.length=4) (hg:g < 3):exs (Ev P (n+10)) bM (σM gs o (some (.sh,.int g)))=some (.next,σM gs (stepM o g) (some (.sh,.int g))):=by
  refine len4 (P:=fun o=>exs (Ev P (n+10)) bM (σM gs o (some (.sh,.int g)))=some (.next,σM gs (stepM o g) (some (.sh,.int g)))) (fun a b c d=>?_) ho
  have k:∀ x,(Ev P (n+5+2)).call 38 [(.sh,.int x)]=some (.bool (decide (x < 256)),some (.sh,.int x)):=fun x=>c38 (n:=n+2) h38
  delta bM σM
  have hg3:g=0∨g=1∨g=2:=lt3 (P:=fun r=>r=0∨r=1∨r=2) (.inl rfl) (.inr (.inl rfl)) (.inr (.inr rfl)) hg
  rcases hg3 with rfl | rfl | rfl
  · skip
    have e0:idxD (.list [.int a,.int b,.int c,.int d]) (.int 0)=some (.int a):=rfl
    have e1:idxD (.list [.int a,.int b,.int c,.int d]) (.int 1)=some (.int b):=rfl
    have s0:setD (.list [.int a,.int b,.int c,.int d]) (.int 0) (.int b)=some (.list [.int b,.int b,.int c,.int d]):=rfl
    have s1:setD (.list [.int b,.int b,.int c,.int d]) (.int 1) (.int a)=some (.list [.int b,.int a,.int c,.int d]):=rfl
    by_cases q:a < b
    · have q':256+a - b < 256:=by lia
      simp [e0,e1,s0,s1,k,sM0,sM1,sM2,q,q']
    · have q':¬ 256+a - b < 256:=by lia
      simp [e0,e1,s0,s1,k,sM0,sM1,sM2,q,q']
  · skip
    have e0:idxD (.list [.int a,.int b,.int c,.int d]) (.int 1)=some (.int b):=rfl
    have e1:idxD (.list [.int a,.int b,.int c,.int d]) (.int 2)=some (.int c):=rfl
    have s0:setD (.list [.int a,.int b,.int c,.int d]) (.int 1) (.int c)=some (.list [.int a,.int c,.int c,.int d]):=rfl
    have s1:setD (.list [.int a,.int c,.int c,.int d]) (.int 2) (.int b)=some (.list [.int a,.int c,.int b,.int d]):=rfl
    by_cases q:b < c
    · have q':256+b - c < 256:=by lia
      simp [e0,e1,s0,s1,k,sM0,sM1,sM2,q,q']
    · have q':¬ 256+b - c < 256:=by lia
      simp [e0,e1,s0,s1,k,sM0,sM1,sM2,q,q']
  · skip
    have e0:idxD (.list [.int a,.int b,.int c,.int d]) (.int 2)=some (.int c):=rfl
    have e1:idxD (.list [.int a,.int b,.int c,.int d]) (.int 3)=some (.int d):=rfl
    have s0:setD (.list [.int a,.int b,.int c,.int d]) (.int 2) (.int d)=some (.list [.int a,.int b,.int d,.int d]):=rfl
    have s1:setD (.list [.int a,.int b,.int d,.int d]) (.int 3) (.int c)=some (.list [.int a,.int b,.int d,.int c]):=rfl
    by_cases q:c < d
    · have q':256+c - d < 256:=by lia
      simp [e0,e1,s0,s1,k,sM0,sM1,sM2,q,q']
    · have q':¬ 256+c - d < 256:=by lia
      simp [e0,e1,s0,s1,k,sM0,sM1,sM2,q,q']
theorem forM_ok (h38:P.lookup 38=some G2.f_ISTERMINAL) {gs:List Nat}:∀ (r:List Nat) (o:List Int) (x:Option Slot),(∀ g∈r,g < 3)→o.length=4→
    ∃ y,forL (Ev P (n+10)) (.v 2) bM (r.map fun g:Nat=>D.int g) (σM gs o x)=some (.next,σM gs (r.foldl stepM o) y)
  | [],o,x,_,_=>⟨x,rfl⟩
  | g :: r,o,x,h,ho=>by
    obtain ⟨y,e⟩:=forM_ok h38 (gs:=gs) r (stepM o g) (some (.sh,.int g)) (fun g hg=>h g (List.mem_cons_of_mem _ hg)) (stepM_len ho g)
    refine ⟨y,?_⟩
    rw [List.map_cons,f_cons]
    simp only [bt_v,Option.bind_some]
    rw [show St.put (σM gs o x) 2 (.sh,.int (g:Nat))=σM gs o (some (.sh,.int g)) from rfl,bM_ok h38 ho (h g List.mem_cons_self),then_next]
    exact e
theorem c113 (h38:P.lookup 38=some G2.f_ISTERMINAL) (h:P.lookup 113=some G2.f_law_made) {gs:List Nat} (hg:∀ g∈gs,g < 3) :
    (Ev P (n+12)).call 113 [(.sh,.list (gs.map fun g:Nat=>D.int g))]=some (.list ((madeF gs).map .int),some (.sh,.list (gs.map fun g:Nat=>D.int g))):=by
  obtain ⟨y,e⟩:=forM_ok (n:=n) h38 (gs:=gs) gs [0,1,2,3] none hg rfl
  have:=call_of (P:=P) (n:=n+11) (a:=113) (f:=G2.f_law_made) (ss:=[(.sh,.list (gs.map fun g:Nat=>D.int g))]) (d:=.list ((madeF gs).map .int)) (σ:=(σM gs (madeF gs) y).put 1 (.sh,.list ((madeF gs).map .int))) h rfl ?_ rfl
  · rw [this]
    simp only [wk_l,weak1_ints]; rfl
  · rw [show G2.f_law_made.body=[.asg 1 (.list [(.lit (.int 0)),(.lit (.int 1)),(.lit (.int 2)),(.lit (.int 3))]),.for (.v 2) (.var 0) bM,.ret (.var 1)] from rfl,
      show start G2.f_law_made [(.sh,.list (gs.map fun g:Nat=>D.int g))]=[some (.sh,.list (gs.map fun g:Nat=>D.int g)),none,none] from rfl]
    have e':forL (Ev P (n+10)) (.v 2) bM (gs.map fun g:Nat=>D.int g) [some (.sh,.list (gs.map fun g:Nat=>D.int g)),some (.own,.list [.int 0,.int 1,.int 2,.int 3]),none]=some (.next,σM gs (madeF gs) y):=e
    simp [line,its_l,its_t,its_s,its_r,e']
    rfl
end
end Mine
end
section
set_option autoImplicit false
namespace Mine
abbrev Steps:=List (List (Nat × Nat))
noncomputable def rowsL (φ:Nat→Option (List (List Nat))):List (Nat × Nat)→Option (List (List Nat))
  | []=>some []
  | p :: ws=>(φ p.2).bind fun rs=>(rowsL φ ws).map fun R=>rs.map (·++[p.1])++R
noncomputable def rowsW (φ:Nat→Option (List (List Nat))) (ws:List (Nat × Nat)):Option (List (List Nat)):=List.casesOn ws (some [[]]) fun w ws=>rowsL φ (w :: ws)
noncomputable def rowsP (st:Steps):Nat→Nat→Option (List (List Nat))
  | 0,_=>none
  | f+1,k=>(st[k]?).bind (rowsW (rowsP st f))
set_option tactic.hygienic true in
theorem rowsL_is {φ:Nat→Option (List (List Nat))}:∀ {ws:List (Nat × Nat)} {R:List (List Nat)},rowsL φ ws=some R→(∀ p∈ws,∃ rs,φ p.2=some rs)∧R=ws.flatMap fun p=>((φ p.2).getD []).map (·++[p.1])
  | [],R,h=>by obtain rfl:=some1 h; exact ⟨by simp,rfl⟩
  | p :: ws,R,h=>by
    obtain ⟨rs,h1,h⟩:=bs h
    obtain ⟨R',h2,rfl⟩:=ms h
    obtain ⟨a,b⟩:=rowsL_is h2
    refine ⟨fun q hq=>?_,by rw [List.flatMap_cons,h1,← b]; rfl⟩
    rcases List.mem_cons.mp hq with e | e
    · exact ⟨rs,by rw [e]; exact h1⟩
    · exact a q e
theorem rowsP_len {st:Steps}:∀ {f k:Nat} {R:List (List Nat)},rowsP st f k=some R→∀ r∈R,r.length < f
  | 0,_,_,h,_,_=>by exact nos h
  | f+1,k,R,h,r,hr=>by
    obtain ⟨ws,_,h⟩:=bs h
    induction ws using List.casesOn with
    | nil=>
      obtain rfl:=some1 h
      have:r=[]:=by simpa using hr
      subst this; simp
    | cons w ws=>
      obtain ⟨h1,h2⟩:=rowsL_is h
      rw [h2] at hr
      obtain ⟨p,hp,hr⟩:=List.mem_flatMap.mp hr
      obtain ⟨rs,e⟩:=h1 p hp
      rw [e] at hr
      obtain ⟨r',hr',rfl⟩:=List.mem_map.mp hr
      have:=rowsP_len e r' hr'
      rw [List.length_append,List.length_singleton]; exact Nat.add_lt_add_right this 1
noncomputable def numD (num:Nat→Int) (g:Nat):D:=.int (num g)
noncomputable def sideOf (num:Nat→Int) (ws:List (Nat × Nat)):List D:=ws.flatMap fun p=>[.int (256+(p.2:Nat)),numD num p.1]
noncomputable def sidesFrom (num:Nat→Int):Nat→Steps→List (Int × D)
  | _,[]=>[]
  | k,w :: st=>(256+(k:Nat),.list (sideOf num w)) :: sidesFrom num (k+1) st
theorem sF_n {num:Nat→Int} {k:Nat}:sidesFrom num k []=[]:=rfl
theorem sF_c {num:Nat→Int} {k:Nat} {w:List (Nat × Nat)} {st:Steps}:sidesFrom num k (w :: st)=((256+(k:Nat):Int),D.list (sideOf num w)) :: sidesFrom num (k+1) st:=rfl
noncomputable def sidesD (num:Nat→Int) (st:Steps):D:=.idict (sidesFrom num 0 st)
theorem sides_get {num:Nat→Int}:∀ (st:Steps) (j k:Nat),getKey (sidesFrom num j st) (256+((j+k:Nat):Int))=(st[k]?).map fun w=>.list (sideOf num w)
  | [],j,k=>by simp [sF_n,sF_c,getKey]
  | w :: st,j,0=>by simp [sF_n,sF_c,getKey]
  | w :: st,j,k+1=>by
    have ih:=sides_get (num:=num) st (j+1) k
    rw [show j+1+k=j+(k+1) by exact Nat.succ_add_eq_add_succ j k] at ih
    rw [List.getElem?_cons_succ,← ih]
    simp only [sF_n,sF_c,getKey]
    rw [List.find?_cons_of_neg (by simp; lia)]
theorem side_len {num:Nat→Int}:∀ (ws:List (Nat × Nat)),(sideOf num ws).length=2 * ws.length
  | []=>rfl
  | p :: ws=>by
    have:=side_len (num:=num) ws
    unfold sideOf at this ⊢
    rw [List.flatMap_cons,List.length_append,this]; simp; lia
theorem side_cut {num:Nat→Int}:∀ (ws:List (Nat × Nat)) (j:Nat) (p:Nat × Nat),ws[j]? = some p→((sideOf num ws).take (2 * j+2)).drop (2 * j)=[.int (256+(p.2:Nat)),numD num p.1]
  | [],j,p,h=>by simp at h
  | w :: ws,0,p,h=>by
    simp at h; subst h
    simp [sideOf]
  | w :: ws,j+1,p,h=>by
    have ih:=side_cut (num:=num) ws j p (by simpa using h)
    rw [← ih]
    delta sideOf
    rw [List.flatMap_cons,show 2 * (j+1)+2=2 * j+2+2 by exact Nat.add_left_inj.mpr rfl,show 2 * (j+1)=2 * j+2 by exact Nat.mul_succ 2 j]
    simp
theorem range2 (k:Nat):rangeL 0 (2 * (k:Int)) 2=(List.range k).map fun i:Nat=>2 * (i:Int):=by
  delta rangeL rsz
  rw [if_pos (by decide)]
  by_cases h:k=0
  · subst h; rfl
  · rw [if_pos (by lia),show ((2 * (k:Int) - 0 - 1) / 2+1).toNat=k by lia]
    congr 1
    funext i; lia
noncomputable def rowD (num:Nat→Int) (r:List Nat):D:=.list (r.map (numD num))
noncomputable def rowsD (num:Nat→Int) (rs:List (List Nat)):List D:=rs.map (rowD num)
noncomputable def wayD (num:Nat→Int) (p:Nat × Nat):D:=.list [.int (256+(p.2:Nat)),numD num p.1]
section
variable {P:List (Nat × FnDef)} {n:Nat} {F:Funs} {σ:St}
theorem weak_rows (num:Nat→Int) (rs:List (List Nat)):weak (.list (rowsD num rs))=.list (rowsD num rs):=by
  show D.list ((rs.map (rowD num)).map weak1)=.list (rs.map (rowD num))
  rw [List.map_map]; rfl
theorem slc_list {xs:List D} {a b:Nat} (ha:a < 2 ^ 60) (hb:b < 2 ^ 60) (h:a≤b):slcD (.list xs) (.int a) (.int b) false=some (.list ((xs.take b).drop a)):=by
  simp only [slcD,sl_l,sl_w,sl_s,oi_n,oi_i,Option.bind_some,sml_nat ha,sml_nat hb,if_true,cut,bnd]
  rw [if_pos (by exact Int.natCast_nonneg a),if_pos (by exact Int.natCast_nonneg b),Int.toNat_natCast,Int.toNat_natCast]
  rw [show a.min xs.length=min a xs.length from rfl,show b.min xs.length=min b xs.length from rfl]
  congr 2
  by_cases h1:b≤xs.length
  · rw [Nat.min_eq_left h1,Nat.min_eq_left (by exact Nat.le_trans h h1)]
  · rw [Nat.min_eq_right (by exact Nat.le_of_not_ge h1:xs.length≤b),List.take_length,List.take_of_length_le (by exact Nat.le_of_not_ge h1)]
    by_cases h2:a≤xs.length
    · rw [Nat.min_eq_left h2]
    · rw [Nat.min_eq_right (by exact Nat.le_of_not_ge h2),List.drop_length,List.drop_eq_nil_of_le (by exact Nat.le_of_not_ge h2)]
noncomputable def eWays:E:=.comp (.slc (.idx (.var 0) (.var 1)) (some (.var 4)) (some (.bin .add (.var 4) (.lit (.int 2)))) false) [(.v 4,(.bi .range [(.lit (.int 0)),(.bi .len [(.idx (.var 0) (.var 1))]),(.lit (.int 2))]),[])]
noncomputable def eRows:E:=.comp (.bin .add (.var 6) (.var 7)) [(.v 5,(.var 2),[]),(.v 6,(.call (.glob (.fn 125)) [(.var 0),(.idx (.var 5) (.lit (.int 0)))] false),[]),(.v 7,(.call (.glob (.fn 125)) [(.var 0),(.idx (.var 5) (.lit (.int 1)))] false),[])]
noncomputable def σR (S:D) (k:Int) (x2 x3:Option Slot):St:=[some (.sh,S),some (.sh,.int k),x2,x3,none,none,none,none]
theorem ways_ok {num:Nat→Int} {es:List (Int × D)} {k:Int} {ws:List (Nat × Nat)} (hg:getKey es k=some (.list (sideOf num ws))) (hw:ws.length < 2 ^ 18) :
    stepO (Ev P (n+5)) eWays (σR (.idict es) k none none)=some (.own,.list (ws.map (wayD num)),σR (.idict es) k none none):=by
  have hi:idxD (.idict es) (.int k)=some (.list (sideOf num ws)):=by simp only [idxD]; exact hg
  have hr:biD .range [.int 0,.int (2 * (ws.length:Int)),.int 2]=some (.rng 0 (2 * (ws.length:Int)) 2):=by
    simp only [biD,one_one,two_two,onLst_list,rangeD_1,rangeD_2,rangeD_3,int2_int,minD,Option.bind_some,Option.map_some]; rw [if_pos (by simp [sml_of (show (2 * (ws.length:Int)).natAbs < 2 ^ 60 by lia)]; exact ⟨rfl,rfl⟩)]
  have hit:itemsD (.rng 0 (2 * (ws.length:Int)) 2)=some ((List.range ws.length).map fun i:Nat=>D.int (2 * (i:Int))):=by
    simp only [its_l,its_t,its_s,its_r]
    rw [if_pos (by simp [tiny]; lia),range2,List.map_map]; rfl
  have it:items (Ev P (n+5)) (.bi .range [(.lit (.int 0)),(.bi .len [(.idx (.var 0) (.var 1))]),(.lit (.int 2))]) (σR (.idict es) k none none)=some ((List.range ws.length).map fun i:Nat=>D.int (2 * (i:Int)),σR (.idict es) k none none):=by
    rw [it_plain rfl]
    delta σR
    simp [hi,side_len,hr,hit,peek]
  have key:=comp_map (F:=Ev P (n+5)) (i:=4) (elt:=.slc (.idx (.var 0) (.var 1)) (some (.var 4)) (some (.bin .add (.var 4) (.lit (.int 2)))) false) (g:=fun d=>match d with
      | .int j=>(match ws[(j / 2).toNat]? with | some p=>wayD num p | none=>.none)
      | _=>.none) (σ:=σR (.idict es) k none none) rfl (by show 4 < 8; decide) it (fun d hd τ hn hb=>?_) (by rw [List.length_map,List.length_range]; delta line; lia)
  · delta eWays
    rw [key,List.map_map]
    congr 4
    apply List.ext_getElem?
    intro j
    rw [List.getElem?_map,List.getElem?_map]
    by_cases hj:j < ws.length
    · rw [List.getElem?_range hj]
      simp only [Option.map_some,Function.comp]
      rw [show ((2 * (j:Int)) / 2).toNat=j by lia,List.getElem?_eq_getElem hj]
      rfl
    · rw [List.getElem?_eq_none (by simpa using hj),List.getElem?_eq_none (by simpa using hj)]; rfl
  · obtain ⟨j,hj,rfl⟩:=List.mem_map.mp hd
    have hj':j < ws.length:=List.mem_range.mp hj
    dsimp only
    rw [show ((2 * (j:Int)) / 2).toNat=j by lia,List.getElem?_eq_getElem hj']
    have g0:τ.get 0=some (.sh,.idict es):=hn.get 0 (by decide)
    have g1:τ.get 1=some (.sh,.int k):=hn.get 1 (by decide)
    have sc:=slc_list (xs:=sideOf num ws) (a:=2 * j) (b:=2 * j+2) (by lia) (by lia) (by exact Nat.le_add_right (2 * j) 2)
    rw [side_cut ws j ws[j] (List.getElem?_eq_getElem hj')] at sc
    have sc':slcD (.list (sideOf num ws)) (.int (2 * (j:Int))) (.int (2 * (j:Int)+2)) false=some (wayD num ws[j]):=by
      rw [show (2 * (j:Int))=((2 * j:Nat):Int) by exact Eq.symm (Nat.ToInt.mul_congr rfl rfl),show (((2 * j:Nat):Int)+2)=((2 * j+2:Nat):Int) by lia]
      exact sc
    exact r_slc (r_pe (r_idxv g0 (r_sh g1) hi) rfl) (op_s (r_sh hb)) (op_s (r_bin (r_sh hb) r_lit rfl)) (r_ae rfl) sc'
theorem term_ok (h38:P.lookup 38=some G2.f_ISTERMINAL) (h125:P.lookup 125=some G2.f_law_rows) {S:D} {x:Int} (hx:x < 256):(Ev P (n+11)).call 125 [(.sh,S),(.sh,.int x)]=some (.list [.list [.int x]],some (.sh,.int x)):=by
  have k:=c38 (P:=P) (n:=n+2) h38 (x:=x)
  have hx':decide (x < 256)=true:=decide_eq_true hx
  rw [hx'] at k
  have e:exs (Ev P (n+10)) G2.f_law_rows.body (start G2.f_law_rows [(.sh,S),(.sh,.int x)])=some (.ret (.list [.list [.int x]]),σR S x none none):=by
    rw [show start G2.f_law_rows [(.sh,S),(.sh,.int x)]=σR S x none none from rfl]
    delta G2.f_law_rows G2.b_law_rows σR
    simp [k,line]
  exact call_of (P:=P) (n:=n+10) (a:=125) (f:=G2.f_law_rows) (d:=.list [.list [.int x]]) (σ:=σR S x none none) h125 rfl e rfl
theorem head_ok {num:Nat→Int} {p:Nat × Nat}:idxD (wayD num p) (.int 0)=some (.int (256+(p.2:Nat)))∧idxD (wayD num p) (.int 1)=some (numD num p.1):=⟨rfl,rfl⟩
theorem rows3_ok {num:Nat→Int} {S:D} {k:Int} {ws:List (Nat × Nat)} {φ:Nat→Option (List (List Nat))} {R:List (List Nat)} {x3:Option Slot}
    (hR:rowsL φ ws=some R) (hz:R.length≤line) (hlen:∀ p∈ws,∀ rs,φ p.2=some rs→∀ r∈rs,r.length < 1000)
    (hc:∀ p∈ws,∀ rs,φ p.2=some rs→(Ev P (n+2)).call 125 [(.sh,S),(.sh,.int (256+(p.2:Nat)))]=some (.list (rowsD num rs),some (.sh,.int (256+(p.2:Nat)))))
    (ht:∀ p∈ws,(Ev P (n+2)).call 125 [(.sh,S),(.sh,numD num p.1)]=some (.list [.list [numD num p.1]],some (.sh,numD num p.1))) :
    stepO (Ev P (n+3)) eRows (σR S k (some (.own,.list (ws.map (wayD num)))) x3)=some (.own,.list (rowsD num R),σR S k (some (.sh,.list (ws.map (wayD num)))) x3):=by
  obtain ⟨h1,h2⟩:=rowsL_is hR
  generalize hσ:σR S k (some (.sh,.list (ws.map (wayD num)))) x3=σ at *
  have l0:σ.length=8:=by rw [← hσ]; rfl
  have g0:σ.get 0=some (.sh,S):=by rw [← hσ]; rfl
  have it1:items (Ev P (n+3)) (.var 2) (σR S k (some (.own,.list (ws.map (wayD num)))) x3)=some (ws.map (wayD num),σ):=by
    rw [← hσ,it_plain rfl]; delta σR; simp [its_l,its_t,its_s,its_r]
  let g:D→List D:=fun d=>(ws.filter fun p=>decide (256+(p.2:Int)=(match d with | .list (.int a :: _)=>a | _=>0))).flatMap fun _=>[]
  have main:∀ (us:List (Nat × Nat)),(∀ p∈us,p∈ws)→∀ (acc:List D) (τ:St),Near [5,6,7] σ τ→acc.length+(us.flatMap fun p=>((φ p.2).getD []).map (·++[p.1])).length≤line→
      ∃ τ',loopC (Ev P (n+3)) (.v 5) [] (compG (Ev P (n+3)) (.bin .add (.var 6) (.var 7)) [(.v 6,(.call (.glob (.fn 125)) [(.var 0),(.idx (.var 5) (.lit (.int 0)))] false),[]),(.v 7,(.call (.glob (.fn 125)) [(.var 0),(.idx (.var 5) (.lit (.int 1)))] false),[])])
        (us.map (wayD num)) τ acc=some (acc++rowsD num (us.flatMap fun p=>((φ p.2).getD []).map (·++[p.1])),τ')∧Near [5,6,7] σ τ':=by
    intro us
    induction us with
    | nil=>intro _ acc τ hn _; exact ⟨τ,by simp [lC_n,rowsD],hn⟩
    | cons p us ih=>
      intro hus acc τ hn hl
      have hp:=hus p List.mem_cons_self
      obtain ⟨rs,er⟩:=h1 p hp
      obtain ⟨τ₁,e1,n1,b1⟩:=bind_v (σ:=σ) (T:=[5,6,7]) (i:=5) (by simp) (by rw [l0]; decide) (wayD num p) τ hn
      rw [List.flatMap_cons,List.length_append,er] at hl
      simp only [Option.getD_some,List.length_map] at hl
      have g0':τ₁.get 0=some (.sh,S):=(n1.get 0 (by decide)).trans g0
      have it2:items (Ev P (n+3)) (.call (.glob (.fn 125)) [(.var 0),(.idx (.var 5) (.lit (.int 0)))] false) τ₁=some (rowsD num rs,τ₁):=by
        rw [it_plain rfl]
        have hc':=hc p hp rs er
        simp [g0',b1,head_ok.1,hc',its_l,its_t,its_s,its_r,peek,again]
      have lp:=loopC_near (F:=Ev P (n+3)) (σ:=τ₁) (T:=[6,7]) (tg:=.v 6) (conds:=[]) (body:=compG (Ev P (n+3)) (.bin .add (.var 6) (.var 7)) [(.v 7,(.call (.glob (.fn 125)) [(.var 0),(.idx (.var 5) (.lit (.int 1)))] false),[])])
        (Bd:=fun d τ=>τ.get 6=some (.sh,d)) (p:=fun _=>true) (g:=fun d=>match d with | .list l=>[.list (l++[numD num p.1])] | _=>[]) (ds:=rowsD num rs)
        (fun d _ τ h=>bind_v (by simp) (by rw [n1.len,l0]; decide) d τ h) (fun _ _ _ _ _=>rfl) (fun d hd _ τ acc hn' hb hz'=>?_) τ₁ acc (.refl ..) ?_
      · obtain ⟨τ₂,e2,n2⟩:=lp
        have n2':Near [5,6,7] σ τ₂:=n1.trans (n2.mono (by simp))
        rw [show (rowsD num rs).filter (fun _=>true)=rowsD num rs from List.filter_eq_self.mpr fun _ _=>rfl] at e2
        have ef:((rowsD num rs).flatMap fun d=>match d with | .list l=>[.list (l++[numD num p.1])] | _=>[])=rowsD num (rs.map (·++[p.1])):=by
          delta rowsD
          rw [List.flatMap_map]
          show (rs.flatMap fun r=>[D.list (r.map (numD num)++[numD num p.1])])=_
          rw [flatMap_single,List.map_map]
          congr 1
          funext r
          simp [rowD]
        rw [ef] at e2
        obtain ⟨τ',e3,n3⟩:=ih (fun q hq=>hus q (List.mem_cons_of_mem _ hq)) (acc++rowsD num (rs.map (·++[p.1]))) τ₂ n2' (by rw [List.length_append]; delta rowsD; rw [List.length_map,List.length_map]; lia)
        refine ⟨τ',?_,n3⟩
        rw [List.map_cons,List.flatMap_cons,er]
        rw [lc_true e1 all_nil ((compG_cons it2).trans e2),e3]
        simp [rowsD]
      · obtain ⟨r,hr,rfl⟩:=List.mem_map.mp hd
        have n0:Near [5,6,7] σ τ:=n1.trans (hn'.mono (by simp))
        have g0'':τ.get 0=some (.sh,S):=(n0.get 0 (by decide)).trans g0
        have b1':τ.get 5=some (.sh,wayD num p):=(hn'.get 5 (by decide)).trans b1
        have it3:items (Ev P (n+3)) (.call (.glob (.fn 125)) [(.var 0),(.idx (.var 5) (.lit (.int 1)))] false) τ=some ([.list [numD num p.1]],τ):=by
          rw [it_plain rfl]
          have ht':=ht p hp
          simp [g0'',b1',head_ok.2,ht',its_l,its_t,its_s,its_r,peek,again]
        rw [compG_cons it3]
        obtain ⟨τ₃,e4,n4,b4⟩:=bind_v (σ:=τ₁) (T:=[6,7]) (i:=7) (by simp) (by rw [n1.len,l0]; decide) (.list [numD num p.1]) τ hn'
        have b6:τ₃.get 6=some (.sh,rowD num r):=by
          have e5:τ₃=τ.put 7 (.sh,.list [numD num p.1]):=by simpa [bindT] using e4.symm
          rw [e5,get_put _ _ _ _ (by rw [n0.len,l0]; decide),if_neg (by decide)]; exact hb
        have hrl:=hlen p hp rs er r hr
        refine ⟨τ₃,?_,n4⟩
        have ev:(Ev P (n+3)).ev (.bin .add (.var 6) (.var 7)) τ₃=some (.list (r.map (numD num)++[numD num p.1]),τ₃):=by
          have bd:binD .add (rowD num r) (.list [numD num p.1])=some (.list (r.map (numD num)++[numD num p.1])):=by
            simp only [binD,addD_int,addD_str,addD_list,addD_tup,mulD_int,mulD_str,mulD_list,int2_int,rowD]
            rw [if_pos (by simp [line]; lia)]
          simp [b6,b4,bd]
        exact lc_true e4 all_nil (compG_nil ev (by have:acc.length+1≤line:=hz'; assumption))
      · rw [show (rowsD num rs).filter (fun _=>true)=rowsD num rs from List.filter_eq_self.mpr fun _ _=>rfl]
        have:((rowsD num rs).flatMap fun d=>match d with | .list l=>[D.list (l++[numD num p.1])] | _=>[]).length=rs.length:=by
          delta rowsD
          rw [List.flatMap_map]
          show (rs.flatMap fun r=>[D.list (r.map (numD num)++[numD num p.1])]).length=_
          rw [flatMap_single,List.length_map]
        lia
  obtain ⟨τ,e,hn⟩:=main ws (fun p hp=>hp) [] σ (.refl ..) (by rw [List.length_nil,← h2]; lia)
  delta eRows
  rw [o_comp,compG_cons it1,e,← h2]
  simp only [Option.map_some,List.nil_append,dG_n,dG_c,dT_v,dT_t]
  have n5:=hn.del (i:=5) (by rw [← hσ]; rfl)
  have n6:=n5.del (i:=6) (by rw [← hσ]; rfl)
  have n7:=n6.del (i:=7) (by rw [← hσ]; rfl)
  rw [show List.filter (fun x=>decide (x≠7)) (List.filter (fun x=>decide (x≠6)) (List.filter (fun x=>decide (x≠5)) [5,6,7]))=[] from rfl] at n7
  rw [n7.eq]
set_option tactic.hygienic true in
theorem c125 (h38:P.lookup 38=some G2.f_ISTERMINAL) (h125:P.lookup 125=some G2.f_law_rows) {num:Nat→Int} {st:Steps} (hnum:∀ g,num g < 256) (hst:∀ ws∈st,ws.length < 1000):∀ (f k:Nat) (R:List (List Nat)) (n:Nat),f < 1000→rowsP st f k=some R→R.length≤line→
    (Ev P (n+4 * f+12)).call 125 [(.sh,sidesD num st),(.sh,.int (256+(k:Nat)))]=some (.list (rowsD num R),some (.sh,.int (256+(k:Nat))))
  | 0,k,R,n,_,h,_=>by exact nos h
  | f+1,k,R,n,hf,h,hz=>by
    have hk:∃ ws,st[k]? = some ws∧((ws=[]∧R=[[]])∨(ws≠[]∧rowsL (rowsP st f) ws=some R)):=by
      obtain ⟨ws,e,h⟩:=bs h
      induction ws using List.casesOn with
      | nil=>obtain rfl:=some1 h; exact ⟨[],e,.inl ⟨rfl,rfl⟩⟩
      | cons w ws=>exact ⟨_,e,.inr ⟨nofun,h⟩⟩
    obtain ⟨ws,ek,hcase⟩:=hk
    have hw:=hst ws (List.mem_of_getElem? ek)
    have gk:getKey (sidesFrom num 0 st) (256+((k:Nat):Int))=some (.list (sideOf num ws)):=by
      have:=sides_get (num:=num) st 0 k
      rw [Nat.zero_add,ek] at this
      exact this
    have kt:=c38 (P:=P) (n:=n+4 * f+7) h38 (x:=256+((k:Nat):Int))
    rw [decide_eq_false (by lia:¬ (256+((k:Nat):Int) < 256))] at kt
    have st1:(Ev P (n+4 * f+15)).ex (.ite (.call (.glob (.fn 38)) [(.var 1)] false) [.ret (.list [(.list [(.var 1)])])] []) (σR (sidesD num st) (256+(k:Nat)) none none)=some (.next,σR (sidesD num st) (256+(k:Nat)) none none):=by
      delta σR; simp [kt]
    have st2:=ways_ok (P:=P) (n:=n+4 * f+8) (num:=num) gk (by lia)
    have st2':(Ev P (n+4 * f+15)).ex (.asg 2 eWays) (σR (sidesD num st) (256+(k:Nat)) none none)=some (.next,σR (sidesD num st) (256+(k:Nat)) (some (.own,.list (ws.map (wayD num)))) none):=by
      rw [show n+4 * f+15=n+4 * f+14+1 from rfl,ex_s,s_asg,evO_s]
      have e:=ways_ok (P:=P) (n:=n+4 * f+8) (num:=num) gk (by lia)
      rw [show n+4 * f+8+5=n+4 * f+13 from rfl] at e
      show Option.map _ (stepO (Ev P (n+4 * f+13)) eWays (σR (.idict (sidesFrom num 0 st)) (256+(k:Nat)) none none))=_
      rw [e]; rfl
    have hRL:∃ R',rowsL (rowsP st f) ws=some R'∧(ws=[]→R'=[])∧(ws≠[]→R'=R):=by
      rcases hcase with ⟨rfl,_⟩ | ⟨hne,e⟩
      · exact ⟨[],rfl,fun _=>rfl,fun q=>absurd rfl q⟩
      · exact ⟨R,e,fun q=>absurd q hne,fun _=>rfl⟩
    obtain ⟨R',eR',hR0,hR1⟩:=hRL
    have hz':R'.length≤line:=by
      by_cases q:ws=[]
      · rw [hR0 q]; simp
      · rw [hR1 q]; exact hz
    have sub:∀ p∈ws,∀ rs,rowsP st f p.2=some rs→rs.length≤R'.length:=fun p hp rs e=>by
      obtain ⟨_,h2⟩:=rowsL_is eR'
      rw [h2]
      obtain ⟨l1,l2,rfl⟩:=List.append_of_mem hp
      rw [List.flatMap_append,List.flatMap_cons,List.length_append,List.length_append,e]
      simp; lia
    have st3:=rows3_ok (P:=P) (n:=n+4 * f+10) (num:=num) (S:=sidesD num st) (k:=256+((k:Nat):Int)) (ws:=ws) (φ:=rowsP st f) (R:=R') (x3:=none) eR' hz' (fun p hp rs e r hr=>by have:=rowsP_len e r hr; lia)
      (fun p hp rs e=>c125 h38 h125 hnum hst f p.2 rs n (by exact Nat.lt_of_succ_lt hf) e (Nat.le_trans (sub p hp rs e) hz'))
      (fun p hp=>by
        have:=term_ok (P:=P) (n:=n+4 * f+1) h38 h125 (S:=sidesD num st) (x:=num p.1) (hnum p.1)
        exact this)
    have st3':(Ev P (n+4 * f+15)).ex (.asg 3 eRows) (σR (sidesD num st) (256+(k:Nat)) (some (.own,.list (ws.map (wayD num)))) none)=some (.next,σR (sidesD num st) (256+(k:Nat)) (some (.sh,.list (ws.map (wayD num)))) (some (.own,.list (rowsD num R')))):=by
      rw [show n+4 * f+15=n+4 * f+14+1 from rfl,ex_s,s_asg,evO_s]
      show Option.map _ (stepO (Ev P (n+4 * f+13)) eRows (σR (sidesD num st) (256+(k:Nat)) (some (.own,.list (ws.map (wayD num)))) none))=_
      rw [st3]; rfl
    have st4:∃ σ',(Ev P (n+4 * f+15)).ex (.ret (.ite (.cmp .ne (.var 2) (.list [])) (.var 3) (.list [(.list [])]))) (σR (sidesD num st) (256+(k:Nat)) (some (.sh,.list (ws.map (wayD num)))) (some (.own,.list (rowsD num R'))))=some (.ret (.list (rowsD num R)),σ')∧σ'.get 1=some (.sh,.int (256+(k:Nat))):=by
      delta σR
      rcases hcase with ⟨rfl,rfl⟩ | ⟨hne,e⟩
      · refine ⟨σR (sidesD num st) (256+(k:Nat)) (some (.sh,.list [])) (some (.own,.list (rowsD num R'))),?_,rfl⟩
        simp [iE1,iE2,iE3,iE4,iE5,iE6,iE7,iE8,iE9,cmpD,line,rowsD,rowD,σR]
      · have hne':(ws.map (wayD num)).isEmpty=false:=by induction ws using List.casesOn with | nil=>exact absurd rfl hne | cons _ _=>rfl
        have hnil:ws≠[]:=hne
        refine ⟨σR (sidesD num st) (256+(k:Nat)) (some (.sh,.list (ws.map (wayD num)))) (some (.sh,.list (rowsD num R))),?_,rfl⟩
        rw [hR1 hne]
        simp [iE1,iE2,iE3,iE4,iE5,iE6,iE7,iE8,iE9,cmpD,line,σR,hnil]
    obtain ⟨σ',e4,g4⟩:=st4
    have e:exs (Ev P (n+4 * f+15)) G2.f_law_rows.body (start G2.f_law_rows [(.sh,sidesD num st),(.sh,.int (256+(k:Nat)))])=some (.ret (.list (rowsD num R)),σ'):=by
      rw [show start G2.f_law_rows [(.sh,sidesD num st),(.sh,.int (256+(k:Nat)))]=σR (sidesD num st) (256+(k:Nat)) none none from rfl]
      rw [show G2.f_law_rows.body=[.ite (.call (.glob (.fn 38)) [(.var 1)] false) [.ret (.list [(.list [(.var 1)])])] [],.asg 2 eWays,.asg 3 eRows,.ret (.ite (.cmp .ne (.var 2) (.list [])) (.var 3) (.list [(.list [])]))] from rfl]
      exact xs_c st1 (xs_c st2' (xs_c st3' (xs_e e4)))
    have:=call_of (P:=P) (n:=n+4 * f+15) (a:=125) (f:=G2.f_law_rows) (ss:=[(.sh,sidesD num st),(.sh,.int (256+(k:Nat)))]) (d:=.list (rowsD num R)) (σ:=σ') h125 rfl e (by rw [show G2.f_law_rows.np - 1=1 from rfl,g4]; rfl)
    rw [show G2.f_law_rows.np - 1=1 from rfl,g4,weak_rows] at this
    exact this
end
end Mine
end
section
set_option autoImplicit false
namespace Mine
section
variable {P:List (Nat × FnDef)} {n:Nat} {F:Funs} {σ:St}
@[simp] theorem s_augput {o:Op} {x:Nat} {i e:E}:stepX F (.augput o x i e) σ=if (σ.get x).isSome=true then (F.ev i σ).bind fun p=>(ownGet (p.2.get x)).bind fun xs=>(idxD xs p.1).bind fun old=>(F.ev e p.2).bind fun q=>
    ((binD o old q.1).bind intD).bind fun r=>(ownGet (q.2.get x)).bind fun xs=>(setD xs p.1 (.int r)).map fun xs=>(.next,q.2.put x (.own,xs)) else none:=rfl
@[simp] theorem lstD_list {l:List D}:lstD (.list l)=some l:=rfl
theorem it_enum {e:E}:items F (.enum e) σ=(F.ev e σ).bind fun p=>(lstD p.1).map fun l=>(enumL 0 l,p.2):=rfl
theorem slc_wl {xs:List D}:slcD (.wlist xs) .none (.int 60) false=some (.list (xs.take 60)):=by
  simp only [slcD,sl_l,sl_w,sl_s,oi_n,oi_i,Option.bind_some,show sml 60=true from rfl,if_true,cut,bnd]
  rw [if_pos (by decide),show (60:Int).toNat=60 from rfl,List.drop_zero,show Nat.min 60 xs.length=min 60 xs.length from rfl]
  congr 2
  by_cases h:60≤xs.length
  · rw [Nat.min_eq_left h]
  · rw [Nat.min_eq_right (by exact Nat.le_of_not_ge h),List.take_length,List.take_of_length_le (by exact Nat.le_of_not_ge h)]
noncomputable def bC:List S:=[.augput .add 1 (.bin .mod (.var 2) (.lit (.int 4))) (.bin .mod (.var 3) (.bin .pow (.lit (.int 10)) (.lit (.int 6))))]
structure Cells (σ:St) (a b c d:Int) (k:Nat) (x y z u:Int):Prop where
  get:σ.get 1=some (.own,.list [.int x,.int y,.int z,.int u])
  x0:a≤x
  x1:x≤a+k * 1000000
  y0:b≤y
  y1:y≤b+k * 1000000
  z0:c≤z
  z1:z≤c+k * 1000000
  u0:d≤u
  u1:u≤d+k * 1000000
theorem fmod_nat (k m:Nat):Int.fmod (k:Int) (m:Int)=((k % m:Nat):Int):=by
  rw [Int.fmod_eq_emod_of_nonneg _ (Int.natCast_nonneg m)]; rfl
theorem bC_ok {a b c d:Int} {k:Nat} {i:Nat} {v:Int} (hl:4≤σ.length) (h:∃ x y z u,Cells σ a b c d k x y z u) (g2:σ.get 2=some (.sh,.int (i:Nat))) (g3:σ.get 3=some (.sh,.int v)) :
    ∃ σ',exs (Ev P (n+6)) bC σ=some (.next,σ')∧Near [1] σ σ'∧∃ x y z u,Cells σ' a b c d (k+1) x y z u:=by
  obtain ⟨x,y,z,u,h⟩:=h
  have hm:binD .mod (.int (i:Nat)) (.int 4)=some (.int ((i % 4:Nat):Int)):=by
    rw [b_mod (by decide),show ((4:Int))=((4:Nat):Int) from rfl,fmod_nat]
  have hp:binD .pow (.int 10) (.int 6)=some (.int 1000000):=rfl
  have hv:binD .mod (.int v) (.int 1000000)=some (.int (v.fmod 1000000)):=b_mod (by decide)
  have v0:0≤v.fmod 1000000:=Int.fmod_nonneg_of_pos v (by decide)
  have v1:v.fmod 1000000 < 1000000:=Int.fmod_lt_of_pos v (by decide)
  generalize v.fmod 1000000=w at *
  have g1:=h.get
  have h4:i % 4 < 4:=Nat.mod_lt _ (by decide)
  have l1:1 < σ.length:=by exact Nat.lt_of_add_left_lt hl
  unfold bC
  have hk:((k+1:Nat):Int) * 1000000=(k:Int) * 1000000+1000000:=by lia
  have hi4:i % 4=0∨i % 4=1∨i % 4=2∨i % 4=3:=by lia
  rcases hi4 with hi | hi | hi | hi
  · skip
    have e:idxD (.list [.int x,.int y,.int z,.int u]) (.int 0)=some (.int x):=rfl
    have f:setD (.list [.int x,.int y,.int z,.int u]) (.int 0) (.int (x+w))=some (.list [.int (x+w),.int y,.int z,.int u]):=rfl
    rw [hi] at hm
    refine ⟨σ.put 1 (.own,.list [.int (x+w),.int y,.int z,.int u]),by simp [g1,g2,g3,hm,hp,hv,e,f],(Near.refl _ _).put (by simp) _,x+w,y,z,u,?_⟩
    exact ⟨by rw [get_put _ _ _ _ l1,if_pos rfl],by have:=h.x0; lia,by have:=h.x1; rw [hk]; lia,h.y0,by have:=h.y1; rw [hk]; lia,h.z0,by have:=h.z1; rw [hk]; lia,h.u0,by have:=h.u1; rw [hk]; lia⟩
  · skip
    have e:idxD (.list [.int x,.int y,.int z,.int u]) (.int 1)=some (.int y):=rfl
    have f:setD (.list [.int x,.int y,.int z,.int u]) (.int 1) (.int (y+w))=some (.list [.int x,.int (y+w),.int z,.int u]):=rfl
    rw [hi] at hm
    refine ⟨σ.put 1 (.own,.list [.int x,.int (y+w),.int z,.int u]),by simp [g1,g2,g3,hm,hp,hv,e,f],(Near.refl _ _).put (by simp) _,x,y+w,z,u,?_⟩
    exact ⟨by rw [get_put _ _ _ _ l1,if_pos rfl],h.x0,by have:=h.x1; rw [hk]; lia,by have:=h.y0; lia,by have:=h.y1; rw [hk]; lia,h.z0,by have:=h.z1; rw [hk]; lia,h.u0,by have:=h.u1; rw [hk]; lia⟩
  · skip
    have e:idxD (.list [.int x,.int y,.int z,.int u]) (.int 2)=some (.int z):=rfl
    have f:setD (.list [.int x,.int y,.int z,.int u]) (.int 2) (.int (z+w))=some (.list [.int x,.int y,.int (z+w),.int u]):=rfl
    rw [hi] at hm
    refine ⟨σ.put 1 (.own,.list [.int x,.int y,.int (z+w),.int u]),by simp [g1,g2,g3,hm,hp,hv,e,f],(Near.refl _ _).put (by simp) _,x,y,z+w,u,?_⟩
    exact ⟨by rw [get_put _ _ _ _ l1,if_pos rfl],h.x0,by have:=h.x1; rw [hk]; lia,h.y0,by have:=h.y1; rw [hk]; lia,by have:=h.z0; lia,by have:=h.z1; rw [hk]; lia,h.u0,by have:=h.u1; rw [hk]; lia⟩
  · skip
    have e:idxD (.list [.int x,.int y,.int z,.int u]) (.int 3)=some (.int u):=rfl
    have f:setD (.list [.int x,.int y,.int z,.int u]) (.int 3) (.int (u+w))=some (.list [.int x,.int y,.int z,.int (u+w)]):=rfl
    rw [hi] at hm
    refine ⟨σ.put 1 (.own,.list [.int x,.int y,.int z,.int (u+w)]),by simp [g1,g2,g3,hm,hp,hv,e,f],(Near.refl _ _).put (by simp) _,x,y,z,u+w,?_⟩
    exact ⟨by rw [get_put _ _ _ _ l1,if_pos rfl],h.x0,by have:=h.x1; rw [hk]; lia,h.y0,by have:=h.y1; rw [hk]; lia,h.z0,by have:=h.z1; rw [hk]; lia,by have:=h.u0; lia,by have:=h.u1; rw [hk]; lia⟩
theorem forC_ok {a b c d:Int} {σ₀:St} (hl:4≤σ₀.length):∀ (vs:List Int) (i k:Nat) (σ:St),Near [1,2,3] σ₀ σ→(∃ x y z u,Cells σ a b c d k x y z u)→
    ∃ σ',forL (Ev P (n+6)) (.t [2,3]) bC (enumL i (vs.map D.int)) σ=some (.next,σ')∧Near [1,2,3] σ₀ σ'∧∃ x y z u,Cells σ' a b c d (k+vs.length) x y z u
  | [],i,k,σ,hn,h=>⟨σ,rfl,hn,h⟩
  | v :: vs,i,k,σ,hn,h=>by
    have l:=hn.len
    have n2:Near [1,2,3] σ₀ ((σ.put 2 (.sh,.int (i:Nat))).put 3 (.sh,.int v)):=(hn.put (by simp) _).put (by simp) _
    have h':∃ x y z u,Cells ((σ.put 2 (.sh,.int (i:Nat))).put 3 (.sh,.int v)) a b c d k x y z u:=by
      obtain ⟨x,y,z,u,h⟩:=h
      refine ⟨x,y,z,u,{ h with get:=?_ }⟩
      rw [get_put _ _ _ _ (by rw [len_put,l]; assumption),if_neg (by decide),get_put _ _ _ _ (by rw [l]; exact Nat.lt_of_add_left_lt hl),if_neg (by decide)]
      exact h.get
    obtain ⟨σ₁,e1,n1,h1⟩:=bC_ok (P:=P) (n:=n) (i:=i) (v:=v) (by rw [n2.len]; exact hl) h' (by rw [get_put _ _ _ _ (by rw [len_put,l]; assumption),if_neg (by decide),get_put _ _ _ _ (by rw [l]; exact Nat.lt_of_add_left_lt hl),if_pos rfl]) (by rw [get_put _ _ _ _ (by rw [len_put,l]; assumption),if_pos rfl])
    obtain ⟨σ₂,e2,n3,h2⟩:=forC_ok hl vs (i+1) (k+1) σ₁ (n2.trans (n1.mono (by simp))) h1
    refine ⟨σ₂,?_,n3,by rw [List.length_cons,show k+(vs.length+1)=k+1+vs.length by exact Eq.symm (Nat.succ_add_eq_add_succ k vs.length)]; exact h2⟩
    rw [List.map_cons,en_c,f_cons]
    have hb:bindT (.t [2,3]) (.tup [.int (i:Nat),.int v]) σ=some ((σ.put 2 (.sh,.int (i:Nat))).put 3 (.sh,.int v)):=by simp [bT_v,bT_t,pA_n,pA_c]
    rw [hb]
    simp only [Option.bind_some,e1,then_next]
    exact e2
theorem cells_ok {a b c d:Int} {ns:List Int} {rest:List S} (hl:4≤σ.length) (g0:σ.get 0=some (.sh,.wlist (ns.map .int))) :
    ∃ σ',exs (Ev P (n+8)) (.asg 1 (.list [(.lit (.int a)),(.lit (.int b)),(.lit (.int c)),(.lit (.int d))]) :: .for (.t [2,3]) (.enum (.slc (.var 0) none (some (.lit (.int 60))) false)) bC :: rest) σ=exs (Ev P (n+8)) rest σ'∧
      Near [1,2,3] σ σ'∧∃ x y z u,Cells σ' a b c d 60 x y z u:=by
  have l1:1 < σ.length:=by exact Nat.lt_of_add_left_lt hl
  have s0:(Ev P (n+8)).ex (.asg 1 (.list [(.lit (.int a)),(.lit (.int b)),(.lit (.int c)),(.lit (.int d))])) σ=some (.next,σ.put 1 (.own,.list [.int a,.int b,.int c,.int d])):=by simp [line]
  have g0':(σ.put 1 (.own,.list [.int a,.int b,.int c,.int d])).get 0=some (.sh,.wlist (ns.map .int)):=by rw [get_put _ _ _ _ l1,if_neg (by decide)]; exact g0
  have it:items (Ev P (n+7)) (.enum (.slc (.var 0) none (some (.lit (.int 60))) false)) (σ.put 1 (.own,.list [.int a,.int b,.int c,.int d]))=some (enumL 0 ((ns.take 60).map D.int),σ.put 1 (.own,.list [.int a,.int b,.int c,.int d])):=by
    rw [it_enum]
    simp [g0',slc_wl]
  have hN:Near [1,2,3] σ (σ.put 1 (.own,.list [.int a,.int b,.int c,.int d])):=(Near.refl _ _).put (by simp) _
  obtain ⟨σ',e,hn,x,y,z,u,hc⟩:=forC_ok (P:=P) (n:=n+1) (a:=a) (b:=b) (c:=c) (d:=d) (σ₀:=σ) hl (ns.take 60) 0 0 _ hN ⟨a,b,c,d,⟨by rw [get_put _ _ _ _ l1,if_pos rfl],by exact Int.le_refl a,by exact Int.le.intro (0 * 1000000) rfl,by exact Int.le_refl b,by exact Int.le.intro (0 * 1000000) rfl,by exact Int.le_refl c,by exact Int.le.intro (0 * 1000000) rfl,by exact Int.le_refl d,by exact Int.le.intro (0 * 1000000) rfl⟩⟩
  have hlen:(ns.take 60).length≤60:=List.length_take_le ..
  refine ⟨σ',?_,hn,x,y,z,u,{ hc with x1:=by have:=hc.x1; lia,y1:=by have:=hc.y1; lia,z1:=by have:=hc.z1; lia,u1:=by have:=hc.u1; lia }⟩
  rw [xs_cons,s0,then_next,xs_cons]
  simp only [ex_s,s_for]
  rw [it]
  simp only [Option.bind_some]
  rw [e,then_next]
end
end Mine
end
section
set_option autoImplicit false
namespace Mine
noncomputable def ALPH:List Nat:=[40,41,91,93,58,44,43,45,42,47,124,38,60,62,61,46,37,123,125]
noncomputable def LEAD:List Nat:=[38,60,62]
noncomputable def PLAIN:List Nat:=[40,41,91,93,58,44,43,45,42,47,124,61,46,37,123,125]
theorem replC_filter {c:Nat}:∀ (l:List Nat),replC c [] l=l.filter (·≠c)
  | []=>rfl
  | x :: l=>by
    rw [replC_cons,replC_filter l]
    by_cases h:x=c
    · subst h; simp
    · simp [h]
theorem fmod_ex (x:Int) {m:Nat} (hm:0 < m):∃ i:Nat,i < m∧x.fmod (m:Int)=(i:Int):=by
  have h0:0≤x.fmod (m:Int):=Int.fmod_nonneg_of_pos x (by exact Int.natCast_pos.mpr hm)
  have h1:x.fmod (m:Int) < m:=Int.fmod_lt_of_pos x (by exact Int.natCast_pos.mpr hm)
  exact ⟨(x.fmod (m:Int)).toNat,by exact (Int.toNat_lt h0).mpr h1,by exact Int.eq_natCast_toNat.mpr h0⟩
theorem dm_ex {c:Int} {m k:Nat} (h0:0≤c) (h1:c < 2 ^ 40) (hm:0 < m) (hm':m < 2 ^ 40) (hk:0 < k):∃ i:Nat,i < k∧(c.fdiv (m:Int)).fmod (k:Int)=(i:Int)∧binD .fdiv (.int c) (.int (m:Int))=some (.int (c.fdiv (m:Int)))∧binD .mod (.int (c.fdiv (m:Int))) (.int (k:Int))=some (.int (i:Int)):=by
  obtain ⟨i,h2,h3⟩:=fmod_ex (c.fdiv (m:Int)) hk
  exact ⟨i,h2,h3,b_fdiv (sml_of (by lia)) (sml_of (by lia)) (by exact Int.natCast_ne_zero_iff_pos.mpr hm),by rw [b_mod (by exact Int.natCast_ne_zero_iff_pos.mpr hk),h3]⟩
theorem m_ex {c:Int} {k:Nat} (hk:0 < k):∃ i:Nat,i < k∧c.fmod (k:Int)=(i:Int)∧binD .mod (.int c) (.int (k:Int))=some (.int (i:Int)):=by
  obtain ⟨i,h2,h3⟩:=fmod_ex c hk
  exact ⟨i,h2,h3,by rw [b_mod (by exact Int.natCast_ne_zero_iff_pos.mpr hk),h3]⟩
section
variable {P:List (Nat × FnDef)} {n:Nat} {F:Funs} {σ:St}
theorem idx_at {l:List Nat} {k:Nat} (h:k < l.length) (hk:k < 2 ^ 60):idxD (.str l) (.int (k:Int))=some (.str [l[k]]):=by
  rw [idx_str hk,List.getElem?_eq_getElem h]; rfl
noncomputable def strsL (l:List Nat):List D:=l.map fun x=>.str [x]
noncomputable def tstrsL (l:List Nat):List D:=l.map fun x=>.tstr [x]
theorem weak_tstrsL (l:List Nat):weak (.list (tstrsL l))=.list (strsL l):=by
  show D.list ((l.map fun x=>D.tstr [x]).map weak1)=.list (l.map fun x=>.str [x])
  rw [List.map_map]; rfl
end
end Mine
end
section
set_option autoImplicit false
namespace Mine
noncomputable def STR:List Nat:=[40,41,91,93,58,44,59,43,45,42,47,124,38,60,62,61,46,37,123,125]
noncomputable def numOf (x:Nat):Int:=7+((idxOf x STR).getD 0:Nat)
noncomputable def isInt (d:Option D) (i:Int):Bool:=match d with
  | some (.int j)=>decide (j=i)
  | _=>false
theorem isInt_eq {d:Option D} {i:Int} (h:isInt d i=true):d=some (.int i):=by
  delta isInt at h
  split at h
  · rw [of_decide_eq_true h]
  · cases h
theorem tok_num:∀ x∈ALPH,isInt (idxD G2.tokD (.str [x])) (numOf x)=true:=by decide +kernel
theorem num_facts:∀ x∈ALPH,7≤numOf x∧numOf x≤26:=by decide +kernel
theorem num_inj:∀ x∈ALPH,∀ y∈ALPH,numOf x=numOf y→x=y:=by decide +kernel
theorem num_str:∀ x∈ALPH,(idxOf x STR).isSome=true:=by decide +kernel
noncomputable def sideI (num:Nat→Int) (ws:List (Nat × Nat)):List Int:=ws.flatMap fun p=>[256+(p.2:Nat),num p.1]
theorem sideI_is (num:Nat→Int):∀ (ws:List (Nat × Nat)),(sideI num ws).map D.int=sideOf num ws
  | []=>rfl
  | p :: ws=>by
    have:=sideI_is num ws
    unfold sideI sideOf at *
    rw [List.flatMap_cons,List.flatMap_cons,List.map_append,this]; rfl
noncomputable def rulesI (num:Nat→Int):Nat→Steps→List Int
  | _,[]=>[]
  | k,ws :: st=>(256+(k:Nat)) :: (sideI num ws++0 :: rulesI num (k+1) st)
noncomputable def rulesFrom (num:Nat→Int):Nat→Steps→List D
  | _,[]=>[]
  | k,ws :: st=>.int (256+(k:Nat)) :: (sideOf num ws++.int 0 :: rulesFrom num (k+1) st)
theorem rI_n {num:Nat→Int} {k:Nat}:rulesI num k []=[]:=rfl
theorem rI_c {num:Nat→Int} {k:Nat} {ws:List (Nat × Nat)} {st:Steps}:rulesI num k (ws :: st)=(256+(k:Nat):Int) :: (sideI num ws++0 :: rulesI num (k+1) st):=rfl
theorem rF_c {num:Nat→Int} {k:Nat} {ws:List (Nat × Nat)} {st:Steps}:rulesFrom num k (ws :: st)=D.int (256+(k:Nat)) :: (sideOf num ws++.int 0 :: rulesFrom num (k+1) st):=rfl
theorem rulesI_is (num:Nat→Int):∀ (st:Steps) (k:Nat),(rulesI num k st).map D.int=rulesFrom num k st
  | [],_=>rfl
  | ws :: st,k=>by simp [rI_c,rF_c,rulesI_is num st,sideI_is]
section
variable {P:List (Nat × FnDef)} {n:Nat} {F:Funs} {σ:St}
theorem numbers_ok {sg v:Nat} {l:List Nat} (h:σ.get sg=some (.sh,.list (strsL l))) (hv:σ.get v=none) (hl:v < σ.length) (hA:∀ w∈l,w∈ALPH) (hz:l.length≤10) :
    stepO (Ev P (n+4)) (.comp (.idx (.glob G2.tokD) (.var v)) [(.v v,(.var sg),[])]) σ=some (.own,.list (l.map fun w=>D.int (numOf w)),σ):=by
  have it:items (Ev P (n+4)) (.var sg) σ=some (strsL l,σ):=by
    rw [it_plain rfl]; simp [h,its_l,its_t,its_s,its_r]
  have:=comp_map (F:=Ev P (n+4)) (σ:=σ) (σ₁:=σ) (i:=v) (elt:=.idx (.glob G2.tokD) (.var v)) (g:=fun d=>match d with | .str [x]=>.int (numOf x) | _=>.none) hv hl it (fun d hd τ hn hb=>?_) (by delta strsL line; rw [List.length_map]; lia)
  · rw [this]
    delta strsL
    rw [List.map_map]; rfl
  · obtain ⟨x,hx,rfl⟩:=List.mem_map.mp hd
    have e:=isInt_eq (tok_num x (hA x hx))
    exact r_idx (r_pe r_glob rfl) (r_sh hb) (r_ae rfl) e
noncomputable def bS (s p y:Nat):List S:=[.ite (.or [(.cmp .isNot (.call (.glob (.fn 38)) [(.var y)] false) (.cmp .lt (.var y) (.lit (.int 256)))),(.cmp .isNot (.call (.glob (.fn 45)) [(.var y)] false) (.cmp .gt (.var y) (.lit (.int 255)))),(.cmp .isNot (.call (.glob (.fn 52)) [(.var y)] false) (.cmp .eq (.var y) (.lit (.int 0))))]) [.ret (.lit (.bool false))] [],.app p (.var y),
  .ite (.call (.glob (.fn 52)) [(.var y)] false) [.put s (.idx (.var p) (.lit (.int 0))) (.slc (.var p) (some (.lit (.int 1))) (some (.neg (.lit (.int 1)))) false),.asg p (.list [])] []]
structure SymI (s p:Nat) (σ:St) (es:List (Int × D)) (part:List Int):Prop where
  sides:σ.get s=some (.own,.idict es)
  part:σ.get p=some (.own,.list (part.map .int))
theorem sym_ok (h38:P.lookup 38=some G2.f_ISTERMINAL) (h45:P.lookup 45=some G2.f_ISNONTERMINAL) (h52:P.lookup 52=some G2.f_ISEOF) {s p y:Nat} (hs:s < σ.length) (hp:p < σ.length) (hy:y < σ.length) (h1:s≠p) (h2:s≠y) (h3:p≠y)
    {es:List (Int × D)} {part:List Int} (I:SymI s p σ es part) {v:Int} (gy:σ.get y=some (.sh,.int v)) (hlen:part.length < 1000) (hes:es.length≤1000) :
    ∃ σ',exs (Ev P (n+12)) (bS s p y) σ=some (.next,σ')∧Near [s,p,y] σ σ'∧
      (if v=0 then SymI s p σ' (setKey es ((part++[0]).headD 0) (.list (((part++[0]).dropLast.drop 1).map .int))) [] else SymI s p σ' es (part++[v])):=by
  have k38:∀ m,(Ev P (m+5)).call 38 [(.sh,.int v)]=some (.bool (decide (v < 256)),some (.sh,.int v)):=fun m=>c38 h38
  have k45:∀ m,(Ev P (m+5)).call 45 [(.sh,.int v)]=some (.bool (decide (256≤v)),some (.sh,.int v)):=fun m=>c45 h45
  have k52:∀ m,(Ev P (m+5)).call 52 [(.sh,.int v)]=some (.bool (decide (v=0)),some (.sh,.int v)):=fun m=>c52 h52
  have e45:decide (256≤v)=decide (255 < v):=by rw [decide_eq_decide]; exact Eq.to_iff rfl
  have e3:decide (v=0)=decide (v=(0:Int)):=rfl
  have gs:=I.sides
  have gp:=I.part
  have st1:(Ev P (n+12)).ex (.ite (.or [(.cmp .isNot (.call (.glob (.fn 38)) [(.var y)] false) (.cmp .lt (.var y) (.lit (.int 256)))),(.cmp .isNot (.call (.glob (.fn 45)) [(.var y)] false) (.cmp .gt (.var y) (.lit (.int 255)))),(.cmp .isNot (.call (.glob (.fn 52)) [(.var y)] false) (.cmp .eq (.var y) (.lit (.int 0))))]) [.ret (.lit (.bool false))] []) σ=some (.next,σ):=by
    have a:=k38 (n+2); have b:=k45 (n+2); have c:=k52 (n+2)
    rw [e45] at b
    exact r_if (r_or (y_g (t_v (r_isNot (r_call (r_a1 (r_sh gy)) a) (r_lt (r_sh gy) r_lit rfl) rfl) rfl rfl) (i_n (i_ct (beq_self_eq_true (decide (v < 256))) (y_g (t_v (r_isNot (r_call (r_a1 (r_sh gy)) b) (r_gt (r_sh gy) r_lit rfl) rfl) rfl rfl) (i_n (i_ct (beq_self_eq_true (decide (255 < v))) (y_g (t_v (r_isNot (r_call (r_a1 (r_sh gy)) c) (r_eq (r_sh gy) r_lit rfl) rfl) rfl rfl) (i_n (i_ct (beq_self_eq_true (decide (v=0))) rfl)))))))))) (i_f rfl)
  have hz:(part.map D.int).length < line:=by rw [List.length_map]; delta line; lia
  have st2:(Ev P (n+12)).ex (.app p (.var y)) σ=some (.next,σ.put p (.own,.list ((part++[v]).map .int))):=by
    simp [gp,gy,isL_o,ap_o,ap_b]
    delta line; lia
  have g1y:(σ.put p (.own,.list ((part++[v]).map .int))).get y=some (.sh,.int v):=by rw [get_put _ _ _ _ hp,if_neg (Ne.symm h3)]; exact gy
  have g1s:(σ.put p (.own,.list ((part++[v]).map .int))).get s=some (.own,.idict es):=by rw [get_put _ _ _ _ hp,if_neg h1]; exact gs
  have g1p:(σ.put p (.own,.list ((part++[v]).map .int))).get p=some (.own,.list ((part++[v]).map .int)):=by rw [get_put _ _ _ _ hp,if_pos rfl]
  have n1:Near [s,p,y] σ (σ.put p (.own,.list ((part++[v]).map .int))):=(Near.refl _ _).put (by simp) _
  generalize hτ:σ.put p (.own,.list ((part++[v]).map .int))=τ at *
  have c:=k52 (n+4)
  by_cases hv:v=0
  · subst hv
    rw [decide_eq_true rfl] at c
    obtain ⟨q0,q,hq⟩ : ∃ q0 q,part++[(0:Int)]=q0 :: q:=by induction part using List.casesOn with | nil=>exact ⟨0,[],rfl⟩ | cons a r=>exact ⟨a,r++[0],rfl⟩
    have hql:q.length < 1001:=by have:=congrArg List.length hq; simp at this; lia
    have i0:idxD (.list ((q0 :: q).map .int)) (.int 0)=some (.int q0):=rfl
    have sl:slcD (.list ((q0 :: q).map .int)) (.int 1) (.int (-1)) false=some (.list (((q0 :: q).dropLast.drop 1).map .int)):=by
      simp only [slcD,sl_l,sl_w,sl_s,oi_n,oi_i,Option.bind_some,show sml 1=true from rfl,show sml (-1)=true from rfl,if_true,cut,bnd]
      rw [if_pos (by decide:(0:Int)≤1),if_neg (by decide:¬ (0:Int)≤-1),List.map_drop,List.map_dropLast,List.dropLast_eq_take]
      congr 2
      have hlen':((q0 :: q).map D.int).length=q.length+1:=by simp
      rw [hlen',show (-1+((q.length+1:Nat):Int)).toNat=q.length+1 - 1 by lia]
      by_cases hq0:q=[]
      · subst hq0; rfl
      · rw [show Nat.min (1:Int).toNat (q.length+1)=1 from by show min 1 (q.length+1)=1; exact Nat.min_add_left_self]
    have sd:setD (.idict es) (.int q0) (.list (((q0 :: q).dropLast.drop 1).map .int))=some (.idict (setKey es q0 (.list (((q0 :: q).dropLast.drop 1).map .int)))):=by
      simp only [set_l,set_i]; rw [if_pos (by lia)]
    rw [hq] at g1p
    have st3:(Ev P (n+12)).ex (.ite (.call (.glob (.fn 52)) [(.var y)] false) [.put s (.idx (.var p) (.lit (.int 0))) (.slc (.var p) (some (.lit (.int 1))) (some (.neg (.lit (.int 1)))) false),.asg p (.list [])] []) τ =
        some (.next,(τ.put s (.own,.idict (setKey es q0 (.list (((q0 :: q).dropLast.drop 1).map .int))))).put p (.own,.list [])):=by
      rw [show n+12=n+4+5+3 by lia]
      generalize List.map D.int (List.drop 1 (q0 :: q).dropLast)=bd at sl sd ⊢
      generalize List.map D.int (q0 :: q)=L at g1p i0 sl
      simp [g1y,c,g1s,g1p,i0,sl,sd,peek,again,negD,line]
    refine ⟨_,by delta bS; exact xs_c st1 (xs_c st2 (xs_c st3 rfl)),(n1.put (by simp) _).put (by simp) _,?_⟩
    rw [if_pos rfl,hq]
    have lt:τ.length=σ.length:=n1.len
    refine ⟨?_,?_⟩
    · rw [get_put _ _ _ _ (by rw [len_put,lt]; exact hp),if_neg h1,get_put _ _ _ _ (by rw [lt]; exact hs),if_pos rfl]; rfl
    · rw [get_put _ _ _ _ (by rw [len_put,lt]; exact hp),if_pos rfl]; rfl
  · rw [decide_eq_false hv] at c
    have st3:(Ev P (n+12)).ex (.ite (.call (.glob (.fn 52)) [(.var y)] false) [.put s (.idx (.var p) (.lit (.int 0))) (.slc (.var p) (some (.lit (.int 1))) (some (.neg (.lit (.int 1)))) false),.asg p (.list [])] []) τ=some (.next,τ):=by
      rw [show n+12=n+4+5+3 by lia]
      simp [g1y,c]
    refine ⟨τ,by delta bS; exact xs_c st1 (xs_c st2 (xs_c st3 rfl)),n1,?_⟩
    rw [if_neg hv]
    exact ⟨g1s,g1p⟩
noncomputable def symF:List Int→List (Int × D)→List Int→List (Int × D) × List Int
  | [],es,part=>(es,part)
  | v :: vs,es,part=>if v=0 then symF vs (setKey es ((part++[0]).headD 0) (.list (((part++[0]).dropLast.drop 1).map .int))) [] else symF vs es (part++[v])
theorem sy_n {es:List (Int × D)} {part:List Int}:symF [] es part=(es,part):=rfl
theorem sy_c {v:Int} {vs:List Int} {es:List (Int × D)} {part:List Int}:symF (v :: vs) es part=if v=0 then symF vs (setKey es ((part++[0]).headD 0) (.list (((part++[0]).dropLast.drop 1).map .int))) [] else symF vs es (part++[v]):=rfl
theorem setKey_len {es:List (Int × D)} {k:Int} {v:D}:(setKey es k v).length≤es.length+1:=by
  delta setKey; split <;> simp
theorem forS_ok (h38:P.lookup 38=some G2.f_ISTERMINAL) (h45:P.lookup 45=some G2.f_ISNONTERMINAL) (h52:P.lookup 52=some G2.f_ISEOF) {s p y:Nat} {σ₀:St} (hs:s < σ₀.length) (hp:p < σ₀.length) (hy:y < σ₀.length) (h1:s≠p) (h2:s≠y) (h3:p≠y) :
    ∀ (vs:List Int) (σ:St) (es:List (Int × D)) (part:List Int),Near [s,p,y] σ₀ σ→SymI s p σ es part→vs.length+part.length < 1000→vs.length+es.length≤1000→
      ∃ σ',forL (Ev P (n+12)) (.v y) (bS s p y) (vs.map D.int) σ=some (.next,σ')∧Near [s,p,y] σ₀ σ'∧SymI s p σ' (symF vs es part).1 (symF vs es part).2
  | [],σ,es,part,hn,I,_,_=>⟨σ,rfl,hn,I⟩
  | v :: vs,σ,es,part,hn,I,hl,hl'=>by
    have l:=hn.len
    rw [List.length_cons] at hl hl'
    have I':SymI s p (σ.put y (.sh,.int v)) es part:=⟨by rw [get_put _ _ _ _ (by rw [l]; exact hy),if_neg h2]; exact I.sides,by rw [get_put _ _ _ _ (by rw [l]; exact hy),if_neg h3]; exact I.part⟩
    have n1:Near [s,p,y] σ₀ (σ.put y (.sh,.int v)):=hn.put (by simp) _
    obtain ⟨σ₁,e1,n2,I1⟩:=sym_ok (P:=P) (n:=n) h38 h45 h52 (by rw [n1.len]; exact hs) (by rw [n1.len]; exact hp) (by rw [n1.len]; exact hy) h1 h2 h3 I' (by rw [get_put _ _ _ _ (by rw [l]; exact hy),if_pos rfl]) (by exact Nat.lt_of_add_left_lt hl) (by exact Nat.le_of_add_left_le hl')
    rw [List.map_cons,f_cons]
    simp only [bt_v,Option.bind_some,e1,then_next,sy_c]
    by_cases hv:v=0
    · rw [if_pos hv] at I1 ⊢
      exact forS_ok h38 h45 h52 hs hp hy h1 h2 h3 vs σ₁ _ [] (n1.trans n2) I1 (by simp; lia) (by have:=setKey_len (es:=es) (k:=(part++[0]).headD 0) (v:=.list (((part++[0]).dropLast.drop 1).map .int)); lia)
    · rw [if_neg hv] at I1 ⊢
      exact forS_ok h38 h45 h52 hs hp hy h1 h2 h3 vs σ₁ es (part++[v]) (n1.trans n2) I1 (by simp; lia) (by lia)
theorem symF_nz:∀ (vs:List Int) (rest:List Int) (es:List (Int × D)) (part:List Int),(∀ v∈vs,v≠0)→symF (vs++rest) es part=symF rest es (part++vs)
  | [],rest,es,part,_=>by simp
  | v :: vs,rest,es,part,h=>by
    rw [List.cons_append,sy_c,if_neg (h v List.mem_cons_self),symF_nz vs rest es (part++[v]) fun w hw=>h w (List.mem_cons_of_mem _ hw)]
    simp
theorem symF_rules {num:Nat→Int} (hnum:∀ g,num g≠0):∀ (st:Steps) (k:Nat) (es:List (Int × D)) (rest:List Int),(∀ e∈es,e.1 < 256+(k:Int))→symF (rulesI num k st++rest) es []=symF rest (es++sidesFrom num k st) []
  | [],k,es,rest,_=>by simp [rI_n,sF_n]
  | ws :: st,k,es,rest,h=>by
    have hz:∀ v∈(256+((k:Nat):Int)) :: sideI num ws,v≠0:=fun v hv=>by
      rcases List.mem_cons.mp hv with q | q
      · rw [q]; lia
      · delta sideI at q
        obtain ⟨p,_,hp⟩:=List.mem_flatMap.mp q
        simp only [List.mem_cons,List.mem_nil_iff,or_false] at hp
        rcases hp with q | q
        · rw [q]; lia
        · rw [q]; exact hnum _
    have e0:rulesI num k (ws :: st)++rest=((256+((k:Nat):Int)) :: sideI num ws)++(0 :: (rulesI num (k+1) st++rest)):=by simp [rI_c]
    rw [e0,symF_nz _ _ _ _ hz,List.nil_append,sy_c,if_pos rfl]
    have e1:(((256+((k:Nat):Int)) :: sideI num ws)++[0]).headD 0=256+((k:Nat):Int):=rfl
    have e2:((((256+((k:Nat):Int)) :: sideI num ws)++[0]).dropLast.drop 1).map D.int=sideOf num ws:=by
      rw [List.dropLast_concat,← sideI_is]; rfl
    rw [e1,e2]
    have e3:setKey es (256+((k:Nat):Int)) (.list (sideOf num ws))=es++[(256+((k:Nat):Int),D.list (sideOf num ws))]:=by
      delta setKey
      rw [if_neg]
      simp only [List.any_eq_true,decide_eq_true_eq,not_exists,not_and]
      intro e he q
      have:=h e he
      lia
    rw [e3,symF_rules hnum st (k+1) _ rest]
    · simp [sF_c]
    · intro e he
      rcases List.mem_append.mp he with q | q
      · have:=h e q; lia
      · simp at q; rw [q]; simp; exact Int.lt_succ ↑k
end
end Mine
end
section
set_option autoImplicit false
namespace Mine
noncomputable def swapA (o:List Int) (g:Nat):List Int:=match o,g with
  | [a,b,c,d],0=>[b,a,c,d]
  | [a,b,c,d],1=>[a,c,b,d]
  | [a,b,c,d],_=>[a,b,d,c]
  | o,_=>o
noncomputable def lessA (o:List Int) (g:Nat):Bool:=match o,g with
  | [a,b,c,d],0=>decide (b < a)
  | [a,b,c,d],1=>decide (c < b)
  | [a,b,c,d],_=>decide (d < c)
  | _,_=>false
noncomputable def idxL (o:List Int):List (List Int)→Nat
  | []=>0
  | x :: r=>if x == o then 0 else idxL o r+1
noncomputable def gramStep (o:List Int):List Nat→List (List Int) × List (Nat × Nat)→List (List Int) × List (Nat × Nat)
  | [],x=>x
  | g :: gs,(os,ws)=>if lessA o g then
      let l:=swapA o g
      let os':=if os.contains l then os else os++[l]
      gramStep o gs (os',ws++[(g,idxL l os')])
    else gramStep o gs (os,ws)
noncomputable def gramL:Nat→List (List Int)→Steps→Steps
  | 0,_,st=>st
  | f+1,os,st=>match os[st.length]? with
    | none=>st
    | some o=>let (os',ws):=gramStep o [0,1,2] (os,[]); gramL f os' (st++[ws])
noncomputable def gramF (goal:List Int):Steps:=gramL 30 [goal] []
noncomputable def num3 (a b c:Int):Nat→Int
  | 0=>a | 1=>b | _=>c
noncomputable def perms:List (List Int):=[[0,1,2,3],[0,1,3,2],[0,2,1,3],[0,2,3,1],[0,3,1,2],[0,3,2,1],[1,0,2,3],[1,0,3,2],[1,2,0,3],[1,2,3,0],[1,3,0,2],[1,3,2,0],[2,0,1,3],[2,0,3,1],[2,1,0,3],[2,1,3,0],[2,3,0,1],[2,3,1,0],[3,0,1,2],[3,0,2,1],[3,1,0,2],[3,1,2,0],[3,2,0,1],[3,2,1,0]]
end Mine
end
section
set_option autoImplicit false
namespace Mine
noncomputable def S3 (x y z:Nat):Nat→Nat
  | 0=>x | 1=>y | _=>z
noncomputable def N3 (x y z:Nat) (g:Nat):Int:=numOf (S3 x y z g)
theorem toStrs_map:∀ (l:List (List Nat)),toStrs (l.map D.str)=some l
  | []=>rfl
  | a :: l=>by simp [tS_n,tS_c,toStrs_map l]
theorem joinL_nil:∀ (l:List Nat),joinL [] (l.map fun x=>[x])=l
  | []=>rfl
  | [a]=>rfl
  | a :: b :: r=>by
    have:=joinL_nil (b :: r)
    simp only [List.map_cons,jL_n,jL_1,jL_c] at this ⊢
    rw [this]; simp
theorem joinL_lenS (sep:List Nat):∀ (l:List (List Nat)),(joinL sep l).length≤(l.map fun a=>a.length+sep.length).sum
  | []=>by simp [jL_n,jL_1,jL_c]
  | [a]=>by simp [jL_n,jL_1,jL_c]
  | a :: b :: r=>by
    have:=joinL_lenS sep (b :: r)
    simp only [jL_n,jL_1,jL_c,List.length_append,List.map_cons,List.sum_cons] at this ⊢
    exact Nat.add_le_add_iff_left.mpr this
theorem toInts_ints:∀ (l:List Int),toInts (l.map D.int)=some l
  | []=>rfl
  | a :: l=>by simp [tI_n,tI_c,toInts_ints l]
section
variable {P:List (Nat × FnDef)} {n:Nat} {F:Funs} {σ:St}
theorem join_ok {l:List (List Nat)} {sep:List Nat} (h:(joinL sep l).length≤line):methD .join (.str sep) [.list (l.map D.str)]=some (.str (joinL sep l)):=by
  simp only [methD,onStr_str,onLst_list,caseD_nil,one_one,two_two,splitD_cons,indexD_str,indexD_list,indexS_one,indexL_int,getDD_d,Option.bind_some,Option.map_some,toStrs_map,if_pos h]
theorem join_chars {l:List Nat} (h:l.length≤line):methD .join (.str []) [.list (l.map fun x=>D.str [x])]=some (.str l):=by
  have:=join_ok (l:=l.map fun x=>[x]) (sep:=[]) (by rw [joinL_nil]; exact h)
  rw [joinL_nil,List.map_map] at this
  exact this
theorem x_join {s:List Nat} {e:E}:stepEv F (.meth .join (.lit (.str s)) [e]) σ=(F.ev (.lit (.str s)) σ).bind fun p=>(F.ev e p.2).bind fun q=>if kd p.1=kd p.1 then (methD .join p.1 [q.1]).map fun d=>(d,q.2) else none:=by
  rw [x_meth]
  simp only [peek,evs_cons,evs_nil,Option.map_some,again]
  cases F.ev (.lit (.str s)) σ with
  | none=>rfl
  | some p=>
    simp only [Option.bind_some]
    cases F.ev e p.2 with
    | none=>rfl
    | some q=>simp
theorem idx3 {x y z g:Nat} (hg:g < 3):idxD (.list (strsL [x,y,z])) (.int (g:Int))=some (.str [S3 x y z g]):=by
  match g,hg with
  | 0,_=>rfl
  | 1,_=>rfl
  | 2,_=>rfl
theorem index3 {x y z g:Nat} (hg:g < 3) (hA:∀ w∈[x,y,z],w∈ALPH) (hn:[x,y,z].Nodup):methD .index (.list ([x,y,z].map fun w=>D.int (numOf w))) [.int (N3 x y z g)]=some (.int (g:Int)):=by
  simp only [List.nodup_cons,List.mem_cons,List.mem_nil_iff,or_false,not_or] at hn
  have hx:=hA x (by simp); have hy:=hA y (by simp); have hz:=hA z (by simp)
  have xy:numOf x≠numOf y:=fun q=>hn.1.1 (num_inj x hx y hy q)
  have xz:numOf x≠numOf z:=fun q=>hn.1.2 (num_inj x hx z hz q)
  have yz:numOf y≠numOf z:=fun q=>hn.2.1 (num_inj y hy z hz q)
  match g,hg with
  | 0,_=>simp [methD,tI_n,tI_c,io_n,io_c,N3,S3]
  | 1,_=>simp [methD,tI_n,tI_c,io_n,io_c,N3,S3,xy]
  | 2,_=>simp [methD,tI_n,tI_c,io_n,io_c,N3,S3,xz,yz]
theorem idx_num {x y z g:Nat} (hg:g < 3) (hA:∀ w∈[x,y,z],w∈ALPH) (hn:[x,y,z].Nodup):idxOf (N3 x y z g) ([x,y,z].map numOf)=some g:=by
  simp only [List.nodup_cons,List.mem_cons,List.mem_nil_iff,or_false,not_or] at hn
  have hx:=hA x (by simp); have hy:=hA y (by simp); have hz:=hA z (by simp)
  have xy:numOf x≠numOf y:=fun q=>hn.1.1 (num_inj x hx y hy q)
  have xz:numOf x≠numOf z:=fun q=>hn.1.2 (num_inj x hx z hz q)
  have yz:numOf y≠numOf z:=fun q=>hn.2.1 (num_inj y hy z hz q)
  match g,hg with
  | 0,_=>simp [io_n,io_c,N3,S3]
  | 1,_=>simp [io_n,io_c,N3,S3,xy]
  | 2,_=>simp [io_n,io_c,N3,S3,xz,yz]
noncomputable def eWords (a b s o i:Nat):E:=.comp (.meth .join (.lit (.str [])) [(.comp (.idx (.var a) (.meth .index (.var b) [(.var i)])) [(.v i,(.var o),[])])]) [(.v o,(.call (.glob (.fn 125)) [(.var s),(.lit (.int 256))] false),[])]
theorem words_ok (h38:P.lookup 38=some G2.f_ISTERMINAL) (h125:P.lookup 125=some G2.f_law_rows) {a b s o i:Nat} {ob:Own} {x y z:Nat} {st:Steps} {R:List (List Nat)}
    (hA:∀ w∈[x,y,z],w∈ALPH) (hn:[x,y,z].Nodup) (hst:∀ ws∈st,ws.length < 1000) (hR:rowsP st 8 0=some R) (hz:R.length≤100) (hg:∀ r∈R,∀ g∈r,g < 3)
    (ga:σ.get a=some (.sh,.list (strsL [x,y,z]))) (gb:σ.get b=some (ob,.list ([x,y,z].map fun w=>D.int (numOf w)))) (gs:σ.get s=some (.own,sidesD (N3 x y z) st)) (go:σ.get o=none) (gi:σ.get i=none)
    (ls:s < σ.length) (lo:o < σ.length) (li:i < σ.length) (nd:[a,b,s,o,i].Nodup) :
    stepO (Ev P (n+50)) (eWords a b s o i) σ=some (.own,.list (R.map fun r=>D.str (r.map (S3 x y z))),σ.put s (.sh,sidesD (N3 x y z) st)):=by
  simp only [List.nodup_cons,List.mem_cons,List.mem_nil_iff,or_false,not_or,List.not_mem_nil,not_false_eq_true,List.nodup_nil,and_true] at nd
  obtain ⟨⟨ab,as,ao,ai⟩,⟨bs,bo,bi⟩,⟨so,si⟩,oi⟩:=nd
  have hnum:∀ g,N3 x y z g < 256:=fun g=>by
    have hm:S3 x y z g∈[x,y,z]:=by match g with | 0=>simp [S3] | 1=>simp [S3] | _+2=>simp [S3]
    have:=(num_facts _ (hA _ hm)).2
    delta N3; lia
  have c:=c125 (P:=P) h38 h125 (num:=N3 x y z) hnum hst 8 0 R (n+4) (by decide) hR (by delta line; lia)
  have c':(Ev P (n+48)).call 125 [(.sh,sidesD (N3 x y z) st),(.sh,.int 256)]=some (.list (rowsD (N3 x y z) R),some (.sh,.int 256)):=c
  generalize hσ:σ.put s (.sh,sidesD (N3 x y z) st)=σ' at *
  have l':σ'.length=σ.length:=by rw [← hσ]; exact len_put ..
  have g':∀ j,j≠s→σ'.get j=σ.get j:=fun j hj=>by rw [← hσ,get_put _ _ _ _ ls,if_neg hj]
  have it:items (Ev P (n+50)) (.call (.glob (.fn 125)) [(.var s),(.lit (.int 256))] false) σ=some (rowsD (N3 x y z) R,σ'):=by
    rw [it_plain rfl,show n+50=n+48+2 from rfl]
    simp only [ev_s,x_call,x_glob,Option.bind_some,fn_a,a_cons,a_one,x_var,gs,rd_own,x_lit,Option.map_some,hσ]
    rw [show n+48+1=n+49 from rfl] at *
    have c2:(Ev P (n+49)).call 125 [(.sh,sidesD (N3 x y z) st),(.sh,.int 256)]=some (.list (rowsD (N3 x y z) R),some (.sh,.int 256)):=by
      have:=c125 (P:=P) h38 h125 (num:=N3 x y z) hnum hst 8 0 R (n+5) (by decide) hR (by delta line; lia)
      exact this
    rw [c2]; rfl
  have key:=comp_map (F:=Ev P (n+50)) (σ:=σ') (σ₁:=σ) (i:=o) (elt:=.meth .join (.lit (.str [])) [(.comp (.idx (.var a) (.meth .index (.var b) [(.var i)])) [(.v i,(.var o),[])])])
    (g:=fun d=>match d with | .list l=>.str (l.map fun d=>match d with | .int v=>S3 x y z (match idxOf v ([x,y,z].map numOf) with | some k=>k | none=>0) | _=>0) | _=>.none) (by rw [g' o (Ne.symm so)]; exact go) (by rw [l']; exact lo) it (fun d hd τ hn' hb=>?_) (by delta rowsD line; rw [List.length_map]; lia)
  · delta eWords
    rw [key]
    delta rowsD
    rw [List.map_map]
    congr 4
    apply List.map_congr_left
    intro r hr
    simp only [Function.comp,rowD,List.map_map]
    congr 1
    apply List.map_congr_left
    intro g hg'
    simp only [Function.comp,numD,idx_num (hg r hr g hg') hA hn]
  · obtain ⟨r,hr,rfl⟩:=List.mem_map.mp hd
    have ta:τ.get a=some (.sh,.list (strsL [x,y,z])):=(hn'.get a (by simp [ao])).trans ((g' a as).trans ga)
    have tb:τ.get b=some (ob,.list ([x,y,z].map fun w=>D.int (numOf w))):=(hn'.get b (by simp [bo])).trans ((g' b bs).trans gb)
    have ti:τ.get i=none:=(hn'.get i (by simp [Ne.symm oi])).trans ((g' i (Ne.symm si)).trans gi)
    have lt:i < τ.length:=by rw [hn'.len,l']; exact li
    have it2:items (Ev P (n+47)) (.var o) τ=some (r.map (numD (N3 x y z)),τ):=by
      rw [it_plain rfl]; simp [hb,rowD,its_l,its_t,its_s,its_r]
    have hrl:=rowsP_len hR r hr
    have inner:=comp_map (F:=Ev P (n+47)) (σ:=τ) (σ₁:=τ) (i:=i) (elt:=.idx (.var a) (.meth .index (.var b) [(.var i)])) (ds:=r.map (numD (N3 x y z)))
      (g:=fun d=>match d with | .int v=>.str [S3 x y z (match idxOf v ([x,y,z].map numOf) with | some k=>k | none=>0)] | _=>.none) ti lt it2 (fun d hd υ hn2 hb2=>?_) (by rw [List.length_map]; delta line; lia)
    · rw [List.map_map] at inner
      have hj:(r.map ((fun d=>match d with | .int v=>.str [S3 x y z (match idxOf v ([x,y,z].map numOf) with | some k=>k | none=>0)] | _=>.none) ∘ numD (N3 x y z)))=(r.map fun g=>S3 x y z (match idxOf (N3 x y z g) ([x,y,z].map numOf) with | some k=>k | none=>0)).map fun w=>D.str [w]:=by
        rw [List.map_map]; rfl
      rw [hj] at inner
      have jc:=join_chars (l:=r.map fun g=>S3 x y z (match idxOf (N3 x y z g) ([x,y,z].map numOf) with | some k=>k | none=>0)) (by rw [List.length_map]; delta line; lia)
      rw [show n+50=n+47+1+1+1 from rfl]
      simp only [ev_s,x_join,x_lit,Option.bind_some,x_comp,evO_s,inner,noO_some,jc,if_true,Option.map_some]
      simp only [rowD,List.map_map]
      rfl
    · obtain ⟨g,hg',rfl⟩:=List.mem_map.mp hd
      have ua:υ.get a=some (.sh,.list (strsL [x,y,z])):=(hn2.get a (by simp [ai])).trans ta
      have ub:υ.get b=some (ob,.list ([x,y,z].map fun w=>D.int (numOf w))):=(hn2.get b (by simp [bi])).trans tb
      have e:=index3 (hg r hr g hg') hA hn
      have e3:=idx3 (x:=x) (y:=y) (z:=z) (hg r hr g hg')
      have hq:=idx_num (hg r hr g hg') hA hn
      simp only [numD,hq]
      generalize List.map (fun w=>D.int (numOf w)) [x,y,z]=L at *
      simp [ua,ub,hb2,numD,e,e3,peek,again]
end
end Mine
end
section
set_option autoImplicit false
namespace Mine
theorem S3_inj {x y z:Nat} (hn:[x,y,z].Nodup) {g h:Nat} (hg:g < 3) (hh:h < 3) (e:S3 x y z g=S3 x y z h):g=h:=by
  simp only [List.nodup_cons,List.mem_cons,List.mem_nil_iff,or_false,not_or] at hn
  exact lt3 (P:=fun g=>∀ h,h < 3→S3 x y z g=S3 x y z h→g=h)
    (fun h hh=>lt3 (P:=fun h=>S3 x y z 0=S3 x y z h→0=h) (fun _=>rfl) (fun e=>absurd e hn.1.1) (fun e=>absurd e hn.1.2) hh)
    (fun h hh=>lt3 (P:=fun h=>S3 x y z 1=S3 x y z h→1=h) (fun e=>absurd e.symm hn.1.1) (fun _=>rfl) (fun e=>absurd e hn.2.1) hh)
    (fun h hh=>lt3 (P:=fun h=>S3 x y z 2=S3 x y z h→2=h) (fun e=>absurd e.symm hn.1.2) (fun e=>absurd e.symm hn.2.1) (fun _=>rfl) hh) hg h hh e
theorem sub_map {x y z:Nat} (hn:[x,y,z].Nodup):∀ {a b:List Nat},(∀ g∈a,g < 3)→(∀ g∈b,g < 3)→((a.map (S3 x y z)).Sublist (b.map (S3 x y z)) ↔ a.Sublist b):=by
  intro a b ha hb
  refine ⟨fun h=>?_,fun h=>h.map _⟩
  rw [List.sublist_map_iff] at h
  obtain ⟨c,hc,e⟩:=h
  have:a=c:=by
    have hc':∀ g∈c,g < 3:=fun g hg=>hb g (hc.subset hg)
    clear hc hb
    induction a generalizing c with
    | nil=>induction c using List.casesOn with
      | nil=>rfl
      | cons _ _=>cases e
    | cons g a ih=>induction c using List.casesOn with
      | nil=>cases e
      | cons h c=>
        rw [List.map_cons,List.map_cons] at e
        injection e with e1 e2
        rw [S3_inj hn (ha g List.mem_cons_self) (hc' h List.mem_cons_self) e1,ih (fun g hg=>ha g (List.mem_cons_of_mem _ hg)) c e2 fun g hg=>hc' g (List.mem_cons_of_mem _ hg)]
  rw [this]; exact hc
theorem S3_mem (x y z g:Nat):S3 x y z g∈[x,y,z]:=by match g with | 0=>simp [S3] | 1=>simp [S3] | _+2=>simp [S3]
theorem alph128:∀ x∈ALPH,x < 128:=by decide
theorem map128 {x y z:Nat} (hA:∀ w∈[x,y,z],w∈ALPH) (r:List Nat):∀ w∈r.map (S3 x y z),w < 128:=fun w hw=>by
  obtain ⟨g,_,rfl⟩:=List.mem_map.mp hw
  exact alph128 _ (hA _ (S3_mem ..))
section
variable {P:List (Nat × FnDef)} {n:Nat} {F:Funs} {σ:St}
theorem asg_of {x:Nat} {e:E} {o:Own} {d:D} {τ:St} (h:stepO (Ev P n) e σ=some (o,d,τ)):(Ev P (n+2)).ex (.asg x e) σ=some (.next,τ.put x (o,d)):=by
  rw [ex_s,s_asg,evO_s,h]; rfl
end
end Mine
end
section
set_option autoImplicit false
namespace Mine
section
variable {P:List (Nat × FnDef)} {n:Nat} {F:Funs} {σ σ₁:St}
theorem put_same {i:Nat} {s:Slot} (h:σ.get i=some s) (hl:i < σ.length):σ.put i s=σ:=by
  refine Near.eq ⟨len_put ..,fun j _=>?_⟩
  rw [get_put _ _ _ _ hl]
  split
  · rename_i e; rw [e,h]
  · rfl
theorem rd_any {i:Nat} {o:Own} {d:D} (h:σ.get i=some (o,d)) (ho:o≠.bor) (hl:i < σ.length):rdVar σ i (some (o,d))=some (d,σ.put i (.sh,d)):=by
  induction o using Own.casesOn with
  | bor=>exact absurd rfl ho
  | own=>rfl
  | sh=>rw [put_same h hl]; rfl
end
end Mine
end
section
set_option autoImplicit false
namespace Mine
section
variable {P:List (Nat × FnDef)} {n:Nat} {F:Funs} {σ:St}
theorem s_ext {x:Nat} {e:E}:stepX F (.ext x e) σ=if isLst (σ.get x)=true then (F.ev e σ).bind fun p=>(lstD p.1).bind fun ys=>extSlot p.2 x ys (p.2.get x) else none:=rfl
end
end Mine
end
section
set_option autoImplicit false
namespace Mine
noncomputable def dec (c:Nat):Option Nat:=
  if c=109 then some 38 else if c=108 then some 60 else if c=103 then some 62 else if c=38∨c=97∨c=112∨c=59∨c=116 then none else some c
theorem dec_code:∀ k∈[0,1,2,3,4],∀ c∈ALPH,(code (escOf k) c).filterMap dec=[c]:=by decide +kernel
theorem flatMap_sub {f:Nat→List Nat} {a b:List Nat} (h:a.Sublist b):(a.flatMap f).Sublist (b.flatMap f):=by
  induction h with
  | slnil=>exact List.Sublist.slnil
  | @cons a b y _ ih=>rw [List.flatMap_cons]; exact ih.trans (List.sublist_append_right _ _)
  | @cons_cons a b x _ ih=>rw [List.flatMap_cons,List.flatMap_cons]; exact (List.Sublist.refl _).append ih
theorem dec_flat {k:Nat} (hk:k∈[0,1,2,3,4]):∀ {a:List Nat},(∀ c∈a,c∈ALPH)→(a.flatMap (code (escOf k))).filterMap dec=a
  | [],_=>rfl
  | x :: a,h=>by
    rw [List.flatMap_cons,List.filterMap_append,dec_code k hk x (h x List.mem_cons_self),dec_flat hk fun c hc=>h c (List.mem_cons_of_mem _ hc)]; rfl
theorem esc_sub {k:Nat} (hk:k∈[0,1,2,3,4]) {a b:List Nat} (ha:∀ c∈a,c∈ALPH) (hb:∀ c∈b,c∈ALPH):(a.flatMap (code (escOf k))).Sublist (b.flatMap (code (escOf k))) ↔ a.Sublist b:=by
  refine ⟨fun h=>?_,flatMap_sub⟩
  have:=h.filterMap dec
  rw [dec_flat hk ha,dec_flat hk hb] at this
  exact this
theorem split_walk {sep:List Nat}:∀ (a t acc:List Nat),(∀ (u v:List Nat),a=u++v→v≠[]→sep.isPrefixOf (v++t)=false)→splitGo sep (a++t) acc 0=splitGo sep t (a.reverse++acc) 0
  | [],t,acc,_=>rfl
  | x :: a,t,acc,h=>by
    have h0:=h [] (x :: a) rfl nofun
    rw [List.cons_append] at h0 ⊢
    rw [splitGo_c,h0]
    simp only [Bool.false_eq_true,if_false]
    rw [split_walk a t (x :: acc) fun u v e hv=>h (x :: u) v (by rw [e]; rfl) hv]
    simp
theorem split_skip {sep:List Nat}:∀ (u t acc:List Nat),splitGo sep (u++t) acc u.length=splitGo sep t acc 0
  | [],t,acc=>rfl
  | x :: u,t,acc=>by rw [List.cons_append,List.length_cons,splitGo_s]; exact split_skip u t acc
theorem prefix_self (sep t:List Nat):sep.isPrefixOf (sep++t)=true:=by
  rw [List.isPrefixOf_iff_prefix]; exact List.prefix_append _ _
theorem split_join {sep:List Nat} (hs:sep≠[]):∀ (l:List (List Nat)),l≠[]→(∀ a∈l,∀ (t:List Nat),(t=[]∨∃ r,t=sep++r)→∀ (u v:List Nat),a=u++v→v≠[]→sep.isPrefixOf (v++t)=false)→splitGo sep (joinL sep l) [] 0=l
  | [],h,_=>absurd rfl h
  | [a],_,h=>by
    have:=split_walk (sep:=sep) a [] [] (h a (by simp) [] (.inl rfl))
    rw [List.append_nil,List.append_nil] at this
    rw [jL_1,this,splitGo_n,List.reverse_reverse]
  | a :: b :: r,_,h=>by
    have ih:=split_join hs (b :: r) nofun fun c hc=>h c (List.mem_cons_of_mem _ hc)
    rw [jL_c,List.append_assoc,split_walk a _ [] (h a (by simp) _ (.inr ⟨_,rfl⟩)),List.append_nil]
    obtain ⟨c,s,rfl⟩ : ∃ c s,sep=c :: s:=List.exists_cons_of_ne_nil hs
    rw [List.cons_append,splitGo_c]
    have:=prefix_self (c :: s) (joinL (c :: s) (b :: r))
    rw [List.cons_append] at this
    rw [this]
    simp only [if_true,List.reverse_reverse,List.length_cons,Nat.add_sub_cancel]
    rw [split_skip s,ih]
theorem clean1 {c:Nat} {a:List Nat} (h:c ∉ a):∀ (t:List Nat) (u v:List Nat),a=u++v→v≠[]→[c].isPrefixOf (v++t)=false:=by
  intro t u v e hv
  obtain ⟨x,w,rfl⟩:=List.exists_cons_of_ne_nil hv
  have:x≠c:=fun q=>h (by rw [e,q]; simp)
  simp [List.isPrefixOf,Ne.symm this]
theorem clean2 {c q:Nat} {s a:List Nat} (h:q ∉ a) (hq:c≠q):∀ (t:List Nat),(t=[]∨∃ r,t=(c :: q :: s)++r)→∀ (u v:List Nat),a=u++v→v≠[]→(c :: q :: s).isPrefixOf (v++t)=false:=by
  intro t ht u v e hv
  obtain ⟨x,w,rfl⟩:=List.exists_cons_of_ne_nil hv
  induction w using List.casesOn with
  | nil=>
    rcases ht with rfl | ⟨r,rfl⟩
    · simp [List.isPrefixOf]
    · simp [List.isPrefixOf,Ne.symm hq]
  | cons y w=>
    have:y≠q:=fun k=>h (by rw [e,k]; simp)
    simp [List.isPrefixOf,Ne.symm this]
theorem joinL_flatS {f:Nat→List Nat} {m:Nat}:∀ (l:List (List Nat)),(joinL [m] l).flatMap f=joinL (f m) (l.map fun a=>a.flatMap f)
  | []=>rfl
  | [a]=>rfl
  | a :: b :: r=>by
    have ih:=joinL_flatS (f:=f) (m:=m) (b :: r)
    simp only [jL_n,jL_1,jL_c,List.map_cons] at ih ⊢
    rw [List.flatMap_append,List.flatMap_append,ih]
    simp
noncomputable def MARKS:List Nat:=[34,13,10,9,32]
theorem mark_code:∀ k∈[0,1,2,3,4],∀ m∈MARKS,(match code (escOf k) m with
    | [c]=>ALPH.all fun x=>!(code (escOf k) x).contains c
    | c :: q :: _=>decide (c≠q) && ALPH.all fun x=>!(code (escOf k) x).contains q
    | []=>false)=true:=by decide +kernel
set_option tactic.hygienic true in
theorem pieces_ok {k m:Nat} (hk:k∈[0,1,2,3,4]) (hm:m∈MARKS) {l:List (List Nat)} (hl:l≠[]) (hA:∀ a∈l,∀ c∈a,c∈ALPH) :
    splitGo (code (escOf k) m) ((joinL [m] l).flatMap (code (escOf k))) [] 0=l.map fun a=>a.flatMap (code (escOf k)):=by
  rw [joinL_flatS]
  have h:=mark_code k hk m hm
  have notin:∀ (c:Nat),(ALPH.all fun x=>!(code (escOf k) x).contains c)=true→∀ b∈l.map (fun a=>a.flatMap (code (escOf k))),c ∉ b:=fun c hc b hb=>by
    obtain ⟨a,ha,rfl⟩:=List.mem_map.mp hb
    intro q
    obtain ⟨x,hx,hxc⟩:=List.mem_flatMap.mp q
    have:=List.all_eq_true.mp hc x (hA a ha x hx)
    simp at this
    exact this hxc
  split at h
  · rename_i c e
    rw [e]
    exact split_join (by simp) _ (by simpa using hl) fun b hb t _=>clean1 (notin c h b hb) t
  · rename_i c q s e
    rw [e]
    rw [Bool.and_eq_true,decide_eq_true_eq] at h
    exact split_join (by simp) _ (by simpa using hl) fun b hb=>clean2 (notin q h.2 b hb) h.1
  · cases h
noncomputable def handFn:Nat→Nat
  | 0=>66 | 1=>73 | 2=>80 | 3=>87 | _=>94
noncomputable def spellOf:Nat→List Nat
  | 0=>[38,60,62] | 1=>[38,60,62,34,13,10,9] | 2=>[38,62,34] | 3=>[38,60,62,13] | _=>[38,60,34,13,10,9]
noncomputable def tabD (k:Nat):List (List Nat × D):=(spellOf k).map fun c=>([c],.str (code (escOf k) c))
noncomputable def isStr (d:Option D) (s:Option (List Nat)):Bool:=match s with
  | some b=>match d with
    | some d=>match d with
      | .str a=>decide (a=b)
      | _=>false
    | none=>false
  | none=>d.isNone
theorem tab_code:∀ k∈[0,1,2,3,4],∀ c∈ALPH++MARKS,isStr (some ((getKey (tabD k) [c]).getD (.str [c]))) (some (code (escOf k) c))=true:=by decide +kernel
theorem isStr_eq {d:D} {s:List Nat} (h:isStr (some d) (some s)=true):d=.str s:=by
  induction d using D.casesOn with | str a=>rw [of_decide_eq_true h] | _=>exact absurd h Bool.false_ne_true
theorem code_len:∀ k∈[0,1,2,3,4],∀ c∈ALPH++MARKS,0 < (code (escOf k) c).length∧(code (escOf k) c).length≤6∧∀ x∈code (escOf k) c,x < 128:=by decide +kernel
theorem okE_all:∀ k∈[0,1,2,3,4],okE (escOf k)=true:=by decide +kernel
end Mine
end
section
set_option autoImplicit false
set_option maxRecDepth 100000
namespace Mine
noncomputable def KS:List Nat:=[0,1,2,3,4]
section
variable {P:List (Nat × FnDef)} {n:Nat} {F:Funs} {σ:St}
noncomputable def handD (k:Nat):D:=.tup [.fn (handFn k),.sdict (tabD k)]
theorem hand_run (k:Nat) (hk:k∈KS):(exs (Ev P (n+20)) G2.b_law_hand (start G2.f_law_hand [(.sh,.int (k:Nat))])).map (fun p=>(match p.1 with | .ret d=>some d | _=>none,p.2.get 0))=some (some (handD k),some (.sh,.int (k:Nat))):=by
  simp only [KS,List.mem_cons,List.mem_nil_iff,or_false] at hk
  rcases hk with rfl | rfl | rfl | rfl | rfl <;> rfl
theorem c106 (h:P.lookup 106=some G2.f_law_hand) {k:Nat} (hk:k∈KS):(Ev P (n+21)).call 106 [(.sh,.int (k:Nat))]=some (handD k,some (.sh,.int (k:Nat))):=by
  have r:=hand_run (P:=P) (n:=n) k hk
  cases e:exs (Ev P (n+20)) G2.b_law_hand (start G2.f_law_hand [(.sh,.int (k:Nat))]) with
  | none=>rw [e] at r; exact nos r
  | some p=>
    obtain ⟨fl,τ⟩:=p
    rw [e] at r
    induction fl using Fl.casesOn with
    | next=>simp at r
    | ret d=>
      simp only [Option.map_some,Option.some.injEq,Prod.mk.injEq] at r
      obtain ⟨rfl,g0⟩:=r
      have:=call_of (P:=P) (n:=n+20) (a:=106) (f:=G2.f_law_hand) (ss:=[(.sh,.int (k:Nat))]) h rfl e (by rw [show G2.f_law_hand.np - 1=0 from rfl,g0]; rfl)
      rw [show G2.f_law_hand.np - 1=0 from rfl,g0] at this
      exact this
theorem ks_of {k:Nat} (h:k < 5):k∈KS:=(by decide:∀ k < 5,k∈KS) k h
theorem hand_ok (h:P.lookup 106=some G2.f_law_hand) {c wr tb:Nat} {i:Int} {oc:Own} {cs:D} {v:Int} {k:Nat} (gc:σ.get c=some (oc,cs)) (hi:idxD cs (.int i)=some (.int v)) (hk:k < 5) (hv:binD .mod (.int v) (.int 5)=some (.int (k:Nat))) :
    (Ev P (n+30)).ex (.unpk [wr,tb] (.call (.glob (.fn 106)) [(.bin .mod (.idx (.var c) (.lit (.int i))) (.lit (.int 5)))] false)) σ=some (.next,(σ.put wr (.sh,.fn (handFn k))).put tb (.sh,.sdict (tabD k))):=by
  have cl:=c106 (P:=P) (n:=n+7) h (ks_of hk)
  exact r_unpk (r_call (r_a1 (r_bin (r_idxv gc r_lit hi) r_lit hv)) cl) rfl
theorem mark_ok {c:Nat} {i:Int} {oc:Own} {cs:D} {v w:Int} {k:Nat} (gc:σ.get c=some (oc,cs)) (hi:idxD cs (.int i)=some (.int v)) (hk:k < 5) (hf:binD .fdiv (.int v) (.int 5)=some (.int w)) (hv:binD .mod (.int w) (.int 5)=some (.int (k:Nat))) :
    stepO (Ev P (n+6)) (.idx (.lit (.str [34,13,10,9,32])) (.bin .mod (.bin .fdiv (.idx (.var c) (.lit (.int i))) (.lit (.int 5))) (.lit (.int 5)))) σ=some (.sh,.str [MARKS.getD k 0],σ):=by
  have e:idxD (.str [34,13,10,9,32]) (.int (k:Nat))=some (.str [MARKS.getD k 0]):=by
    exact lt5 (P:=fun k:Nat=>idxD (.str [34,13,10,9,32]) (.int k)=some (.str [MARKS.getD k 0])) rfl rfl rfl rfl rfl hk
  exact st_o (o_v (r_idx (r_pe r_lit rfl) (r_bin (r_bin (r_idxv gc r_lit hi) r_lit hf) r_lit hv) (r_ae rfl) e) rfl)
theorem marks_mem {k:Nat} (h:k < 5):MARKS.getD k 0∈MARKS:=(by decide:∀ k < 5,MARKS.getD k 0∈MARKS) k h
theorem line_ok {mk p w:Nat} {ow:Own} {m:Nat} {part:List Nat} {W:List (List Nat)} (ho:ow≠.bor) (gm:σ.get mk=some (.sh,.str [m])) (gp:σ.get p=some (.sh,.str part)) (gw:σ.get w=some (ow,.list (W.map D.str))) (lw:w < σ.length) (mw:mk≠w)
    (hW:W.length≤1000) (hz:(joinL [m] (part :: W)).length≤line) :
    stepO (Ev P (n+7)) (.meth .join (.var mk) [(.bin .add (.list [(.var p)]) (.var w))]) σ=some (.sh,.str (joinL [m] (part :: W)),σ.put w (.sh,.list (W.map D.str))):=by
  have ad:binD .add (.list [.str part]) (.list (W.map D.str))=some (.list ((part :: W).map D.str)):=by
    simp only [binD,addD_int,addD_str,addD_list,addD_tup,mulD_int,mulD_str,mulD_list,int2_int]; rw [if_pos (by simp [line]; lia)]; rfl
  have jn:=join_ok hz
  have gm':(σ.put w (.sh,.list (W.map D.str))).get mk=some (.sh,.str [m]):=by rw [get_put _ _ _ _ lw,if_neg mw]; exact gm
  simp only [List.map_cons] at ad jn
  simp [gm,gp,gw,rd_any gw ho lw,ad,jn,line,peek,again,gm']
theorem esc_fn {k:Nat} (hk:k∈KS) (hP:∀ j∈KS,P.lookup (handFn j)=some ⟨1,1,[.tryb ((escOf j).map escS++[.ret (.var 0)])]⟩) {t:List Nat} (hz:(t.flatMap (code (escOf k))).length≤4096) :
    (Ev P (n+8)).call (handFn k) [(.sh,.str t)]=some (.str (t.flatMap (code (escOf k))),some (.sh,.str (t.flatMap (code (escOf k))))):=
  esc_call (hP k hk) rfl (okE_all k hk) hz
theorem flat_len {f:Nat→List Nat} {b:Nat}:∀ {t:List Nat},(∀ c∈t,(f c).length≤b)→(t.flatMap f).length≤b * t.length
  | [],_=>by simp
  | c :: t,h=>by
    have h1:=h c List.mem_cons_self
    have h2:=flat_len (t:=t) fun c hc=>h c (List.mem_cons_of_mem _ hc)
    rw [List.flatMap_cons,List.length_append,List.length_cons,Nat.mul_add]; lia
theorem page_ok {wr ln:Nat} {k:Nat} {t:List Nat} (hk:k∈KS) (hP:∀ j∈KS,P.lookup (handFn j)=some ⟨1,1,[.tryb ((escOf j).map escS++[.ret (.var 0)])]⟩) (gw:σ.get wr=some (.sh,.fn (handFn k))) (gl:σ.get ln=some (.sh,.str t)) (hz:(t.flatMap (code (escOf k))).length≤4096) :
    stepO (Ev P (n+12)) (.call (.var wr) [(.var ln)] false) σ=some (.sh,.str (t.flatMap (code (escOf k))),σ):=by
  have e:=esc_fn (P:=P) (n:=n+3) hk hP hz
  simp [gw,gl,e]
theorem tabs_ok {pg tb ln s:Nat} {k:Nat} {t:List Nat} (hk:k∈KS) (hA:∀ c∈t,c∈ALPH++MARKS) (hz:t.length≤4096) (hz2:(t.flatMap (code (escOf k))).length≤4096) (gp:σ.get pg=some (.sh,.str (t.flatMap (code (escOf k))))) (gt:σ.get tb=some (.sh,.sdict (tabD k))) (gl:σ.get ln=some (.sh,.str t)) (gs:σ.get s=none) (ls:s < σ.length) (ts:tb≠s) (rt:List S) :
    (Ev P (n+14)).ex (.ite (.cmp .ne (.var pg) (.meth .join (.lit (.str [])) [(.comp (.meth .get (.var tb) [(.var s),(.var s)]) [(.v s,(.var ln),[])])])) rt []) σ=some (.next,σ):=by
  have asc:ascii t=true:=by
    unfold ascii; rw [List.all_eq_true]; intro c hc
    exact decide_eq_true ((by decide +kernel:∀ c∈ALPH++MARKS,c < 128) c (hA c hc))
  have it:items (Ev P (n+8)) (.var ln) σ=some (t.map fun c=>D.str [c],σ):=by
    rw [it_plain rfl]; simp [gl,its_l,its_t,its_s,its_r,asc]
  have key:=comp_map (F:=Ev P (n+8)) (σ:=σ) (σ₁:=σ) (i:=s) (elt:=.meth .get (.var tb) [(.var s),(.var s)]) (g:=fun d=>match d with | .str [c]=>.str (code (escOf k) c) | _=>.none) gs ls it (fun d hd τ hn hb=>?_) (by rw [List.length_map]; unfold line; lia)
  · rw [List.map_map] at key
    have hj:(t.map ((fun d=>match d with | .str [c]=>D.str (code (escOf k) c) | _=>.none) ∘ fun c=>D.str [c]))=(t.map (code (escOf k))).map D.str:=by rw [List.map_map]; rfl
    rw [hj] at key
    have jf:∀ l:List Nat,joinL [] (l.map (code (escOf k)))=l.flatMap (code (escOf k)):=by
      intro l
      induction l with
      | nil=>rfl
      | cons a l ih=>induction l using List.casesOn with
        | nil=>simp [jL_n,jL_1,jL_c]
        | cons b l=>simp only [List.map_cons,jL_n,jL_1,jL_c] at ih ⊢; rw [ih]; simp
    have jn:=join_ok (l:=t.map (code (escOf k))) (sep:=[]) (by rw [jf]; unfold line; lia)
    rw [jf] at jn
    rw [show n+14=n+8+1+1+1+1+1+1 from rfl]
    simp only [ex_s,s_ite,evT_s,t_cmp,ev_s,x_cmp,x_var,gp,rd_sh,Option.bind_some,iE1,iE2,iE3,iE4,iE5,iE6,iE7,iE8,iE9,Bool.false_eq_true,if_false,x_join,x_lit,x_comp,evO_s,key,noO_some,jn,if_true,Option.map_some,c_nes,beq_self_eq_true,Bool.not_true,r_bool,xs_nil]
  · obtain ⟨c,hc,rfl⟩:=List.mem_map.mp hd
    have tt:τ.get tb=some (.sh,.sdict (tabD k)):=(hn.get tb (by simpa using ts)).trans gt
    have e:=isStr_eq (tab_code k hk c (hA c hc))
    have md:methD .get (.sdict (tabD k)) [.str [c],.str [c]]=some (.str (code (escOf k) c)):=by simp only [methD,onStr_str,onLst_list,caseD_nil,one_one,two_two,splitD_cons,indexD_str,indexD_list,indexS_one,indexL_int,getDD_d,Option.bind_some,Option.map_some]; rw [e]
    exact r_meth (r_p tt) (r_es (r_sh hb) (r_es (r_sh hb) rfl)) (r_ag tt) md rfl
theorem pieces_st {pg tb mk:Nat} {k m:Nat} {l:List (List Nat)} (hk:k∈KS) (hm:m∈MARKS) (hl:l≠[]) (hA:∀ a∈l,∀ c∈a,c∈ALPH) (gp:σ.get pg=some (.sh,.str ((joinL [m] l).flatMap (code (escOf k))))) (hz:((joinL [m] l).flatMap (code (escOf k))).length≤4096) (gt:σ.get tb=some (.sh,.sdict (tabD k))) (gm:σ.get mk=some (.sh,.str [m])) :
    stepO (Ev P (n+7)) (.meth .split (.var pg) [(.meth .get (.var tb) [(.var mk),(.var mk)])]) σ=some (.sh,.list ((l.map fun a=>a.flatMap (code (escOf k))).map D.str),σ):=by
  have e:=isStr_eq (tab_code k hk m (List.mem_append_right _ hm))
  have md:methD .get (.sdict (tabD k)) [.str [m],.str [m]]=some (.str (code (escOf k) m)):=by simp only [methD,onStr_str,onLst_list,caseD_nil,one_one,two_two,splitD_cons,indexD_str,indexD_list,indexS_one,indexL_int,getDD_d,Option.bind_some,Option.map_some]; rw [e]
  obtain ⟨q1,q2,q3⟩:=code_len k hk m (List.mem_append_right _ hm)
  obtain ⟨c,r,hcr⟩ : ∃ c r,code (escOf k) m=c :: r:=List.exists_cons_of_ne_nil (fun q=>by rw [q] at q1; simp at q1)
  have sp:=pieces_ok hk hm hl hA
  have ms:methD .split (.str ((joinL [m] l).flatMap (code (escOf k)))) [.str (code (escOf k) m)]=some (.list ((l.map fun a=>a.flatMap (code (escOf k))).map D.str)):=by
    have hall:((code (escOf k) m).all fun x=>decide (x < 256))=true:=by
      rw [List.all_eq_true]
      intro x hx
      exact decide_eq_true (Nat.lt_trans (q3 x hx) (by decide))
    rw [← sp]
    rw [hcr] at hall ⊢
    simp only [methD,onStr_str,onLst_list,caseD_nil,one_one,two_two,splitD_cons,indexD_str,indexD_list,indexS_one,indexL_int,getDD_d,Option.bind_some,Option.map_some]
    rw [if_pos ⟨hz,hall⟩]
  exact st_o (o_v (r_meth (r_p gp) (r_es (r_meth (r_p gt) (r_es (r_sh gm) (r_es (r_sh gm) rfl)) (r_ag gt) md rfl) rfl) (r_ag gp) ms rfl) rfl)
end
end Mine
end
section
set_option autoImplicit false
namespace Mine
section
variable {P:List (Nat × FnDef)} {n:Nat} {F:Funs} {σ:St}
theorem idx_last {A:List Int} {t:Int}:idxD (.list ((A++[t]).map D.int)) (.int (-1))=some (.int t):=by
  simp only [idxD,show sml (-1)=true from rfl,if_true,nth]
  rw [if_neg (by decide),if_pos (by simp; exact (PySem.W.Z.leB_iff 1 (↑A.length+1)).mp rfl),List.getElem?_map]
  have:((-1:Int)+(((A++[t]).map D.int).length:Nat)).toNat=A.length:=by simp; lia
  rw [this]; simp
end
end Mine
end
section
set_option autoImplicit false
namespace Mine
section
variable {P:List (Nat × FnDef)} {n:Nat} {F:Funs} {σ:St}
noncomputable def okSt (st:Steps):Prop:=∀ (p:Nat) (ws:List (Nat × Nat)),st[p]? = some ws→ws.length≤10∧∀ q∈ws,p < q.2∧q.2 < st.length
end
end Mine
end
section
set_option autoImplicit false
namespace Mine
open G2 (tokD)
noncomputable def s2_2:S:=.asg 4 (.call (.glob (.fn 101)) [(.idx (.var 1) (.lit (.int 1)))] false)
noncomputable def s2_3:S:=.asg 5 (.comp (.idx (.glob tokD) (.var 27)) [(.v 27,(.var 4),[])])
noncomputable def s2_4:S:=.asg 6 (.call (.glob (.fn 113)) [(.comp (.var 29) [(.v 29,(.comp (.bin .mod (.bin .fdiv (.idx (.var 1) (.lit (.int 0))) (.bin .pow (.lit (.int 4)) (.var 28))) (.lit (.int 4))) [(.v 28,(.bi .range [(.lit (.int 4))]),[])]),[(.cmp .lt (.var 29) (.lit (.int 3)))])])] false)
noncomputable def s2_5:S:=.tupl [7,8] [.edict,(.list [])]
noncomputable def s2_6:S:=.for (.v 9) (.bin .add (.bin .add (.call (.glob (.fn 120)) [(.var 6),(.var 5)] false) (.bi .list [(.bi .range [(.lit (.int 252)),(.lit (.int 260))])])) (.list [(.neg (.lit (.int 1))),(.bi .sum [(.var 1)]),(.neg (.bi .sum [(.var 1)]))])) [.ite (.or [(.cmp .isNot (.call (.glob (.fn 38)) [(.var 9)] false) (.cmp .lt (.var 9) (.lit (.int 256)))),(.cmp .isNot (.call (.glob (.fn 45)) [(.var 9)] false) (.cmp .gt (.var 9) (.lit (.int 255)))),(.cmp .isNot (.call (.glob (.fn 52)) [(.var 9)] false) (.cmp .eq (.var 9) (.lit (.int 0))))]) [.ret (.lit (.bool false))] [],.app 8 (.var 9),.ite (.call (.glob (.fn 52)) [(.var 9)] false) [.put 7 (.idx (.var 8) (.lit (.int 0))) (.slc (.var 8) (some (.lit (.int 1))) (some (.neg (.lit (.int 1)))) false),.asg 8 (.list [])] []]
noncomputable def s2_7:S:=.asg 10 (.comp (.meth .join (.lit (.str [])) [(.comp (.idx (.var 4) (.meth .index (.var 5) [(.var 31)])) [(.v 31,(.var 30),[])])]) [(.v 30,(.call (.glob (.fn 125)) [(.var 7),(.lit (.int 256))] false),[])])
noncomputable def s2_8:S:=.tupl [11,12] [(.bi .len [(.idx (.var 10) (.lit (.int 0)))]),(.list [])]
noncomputable def s2_9:S:=.asg 13 (.bin .add (.bin .add (.idx (.var 4) (.lit (.int 2))) (.idx (.var 4) (.lit (.int 1)))) (.idx (.var 4) (.lit (.int 0))))
noncomputable def s2_10:S:=.asg 14 (.comp (.call (.glob (.fn 132)) [(.var 32),(.var 13),(.bin .mod (.bin .fdiv (.idx (.var 1) (.lit (.int 2))) (.lit (.int 125))) (.lit (.int 3))),(.var 12)] true) [(.v 32,(.var 10),[])])
noncomputable def s2_11:S:=.asg 15 (.slc (.bi .sorted [(.comp (.bi .len [(.comp (.var 34) [(.v 34,(.slc (.var 6) (some (.bin .add (.var 33) (.lit (.int 1)))) none false),[(.cmp .lt (.var 34) (.idx (.var 6) (.var 33)))])])]) [(.v 33,(.bi .range [(.lit (.int 4))]),[])])]) none none true)
noncomputable def s2_12:S:=.for (.v 16) (.bi .range [(.bin .add (.var 11) (.lit (.int 1)))]) [.asg 17 (.bi .sum [(.comp (.call (.glob (.fn 139)) [(.bin .sub (.bin .add (.var 16) (.var 11)) (.var 35)),(.var 11)] false) [(.v 35,(.var 14),[])])]),.ite (.cmp .ne (.var 17) (.ite (.cmp .eq (.var 6) (.list [(.lit (.int 1)),(.lit (.int 0)),(.lit (.int 3)),(.lit (.int 2))])) (.bin .mul (.var 16) (.var 16)) (.call (.glob (.fn 144)) [(.var 15),(.var 16)] false))) [.ret (.lit (.bool false))] []]
noncomputable def s2_19:S:=.tupl [24,16,25] [(.bin .mod (.bin .fdiv (.idx (.var 1) (.lit (.int 2))) (.lit (.int 25))) (.bi .len [(.var 10)])),(.bin .mod (.idx (.var 1) (.lit (.int 3))) (.lit (.int 4))),(.bin .mul (.var 20) (.bin .mod (.bin .fdiv (.idx (.var 1) (.lit (.int 3))) (.lit (.int 4))) (.lit (.int 8))))]
noncomputable def s2_20:S:=.asg 26 (.bin .mul (.lit (.int 2)) (.bin .sub (.bin .mul (.bi .len [(.idx (.var 23) (.lit (.int 0)))]) (.var 16)) (.bi .len [(.idx (.var 23) (.bin .add (.lit (.int 1)) (.var 24)))])))
noncomputable def s2_21:S:=.app 12 (.call (.glob (.fn 28)) [(.idx (.var 23) (.bin .add (.lit (.int 1)) (.var 24))),(.bin .mul (.idx (.var 23) (.lit (.int 0))) (.var 16)),(.var 26)] false)
noncomputable def s2_22:S:=.ite (.cmp .ne (.cmp .eq (.idx (.var 12) (.neg (.lit (.int 1)))) (.var 26)) (.cmp .le (.idx (.var 14) (.var 24)) (.var 16))) [.ret (.lit (.bool false))] []
noncomputable def s2_23:S:=.asg 26 (.bin .mul (.lit (.int 2)) (.bi .max [(.var 11),(.bi .len [(.var 25)])]))
noncomputable def s2_24:S:=.ext 12 (.list [(.call (.glob (.fn 28)) [(.idx (.var 10) (.var 24)),(.var 25),(.var 26)] false),(.call (.glob (.fn 28)) [(.var 25),(.idx (.var 10) (.var 24)),(.bin .sub (.var 26) (.lit (.int 1)))] false)])
noncomputable def s2_25:S:=.ext 12 (.list [(.call (.glob (.fn 28)) [(.idx (.var 4) (.lit (.int 0))),(.bin .mul (.var 20) (.lit (.int 40))),(.lit (.int 80))] false),(.call (.glob (.fn 28)) [(.bin .mul (.var 20) (.lit (.int 41))),(.idx (.var 4) (.lit (.int 0))),(.lit (.int 82))] false)])
noncomputable def s2_26:S:=.ite (.or [(.cmp .ne (.slc (.var 12) (some (.neg (.lit (.int 4)))) none false) (.list [(.var 26),(.var 26),(.lit (.int 80)),(.lit (.int 83))])),(.cmp .ne (.var 5) (.comp (.bin .add (.lit (.int 7)) (.meth .index (.lit (.str [40,41,91,93,58,44,59,43,45,42,47,124,38,60,62,61,46,37,123,125])) [(.var 37)])) [(.v 37,(.var 4),[])]))]) [.ret (.lit (.bool false))] []
noncomputable def s2_27:S:=.ret (.cmp .eq (.comp (.var 38) [(.v 38,(.bin .add (.var 12) (.var 5)),[(.or [(.bi .isBool [(.var 38)]),(.not (.bi .isInt [(.var 38)]))])])]) (.list []))
end Mine
end
section
set_option autoImplicit false
set_option maxRecDepth 100000
namespace Mine
noncomputable def TAB:List (List Int × Steps × List (List Nat)):=[
  ⟨[0,1,2,3],[[]],[[]]⟩,
  ⟨[0,1,3,2],[[(2,1)],[]],[[2]]⟩,
  ⟨[0,2,1,3],[[(1,1)],[]],[[1]]⟩,
  ⟨[0,2,3,1],[[(2,1)],[(1,2)],[]],[[1,2]]⟩,
  ⟨[0,3,1,2],[[(1,1)],[(2,2)],[]],[[2,1]]⟩,
  ⟨[0,3,2,1],[[(1,1),(2,2)],[(2,3)],[(1,4)],[(1,5)],[(2,5)],[]],[[1,2,1],[2,1,2]]⟩,
  ⟨[1,0,2,3],[[(0,1)],[]],[[0]]⟩,
  ⟨[1,0,3,2],[[(0,1),(2,2)],[(2,3)],[(0,3)],[]],[[2,0],[0,2]]⟩,
  ⟨[1,2,0,3],[[(1,1)],[(0,2)],[]],[[0,1]]⟩,
  ⟨[1,2,3,0],[[(2,1)],[(1,2)],[(0,3)],[]],[[0,1,2]]⟩,
  ⟨[1,3,0,2],[[(1,1)],[(0,2),(2,3)],[(2,4)],[(0,4)],[]],[[2,0,1],[0,2,1]]⟩,
  ⟨[1,3,2,0],[[(1,1),(2,2)],[(2,3)],[(1,4)],[(1,5)],[(0,6),(2,5)],[(0,7)],[(2,7)],[]],[[0,1,2,1],[2,0,1,2],[0,2,1,2]]⟩,
  ⟨[2,0,1,3],[[(0,1)],[(1,2)],[]],[[1,0]]⟩,
  ⟨[2,0,3,1],[[(0,1),(2,2)],[(2,3)],[(0,3)],[(1,4)],[]],[[1,2,0],[1,0,2]]⟩,
  ⟨[2,1,0,3],[[(0,1),(1,2)],[(1,3)],[(0,4)],[(0,5)],[(1,5)],[]],[[0,1,0],[1,0,1]]⟩,
  ⟨[2,1,3,0],[[(0,1),(2,2)],[(2,3)],[(0,3),(1,4)],[(1,5)],[(0,6)],[(0,7)],[(1,7)],[]],[[0,1,2,0],[0,1,0,2],[1,0,1,2]]⟩,
  ⟨[2,3,0,1],[[(1,1)],[(0,2),(2,3)],[(2,4)],[(0,4)],[(1,5)],[]],[[1,2,0,1],[1,0,2,1]]⟩,
  ⟨[2,3,1,0],[[(1,1),(2,2)],[(0,3),(2,4)],[(1,5)],[(2,6)],[(0,6),(1,7)],[(0,8),(2,7)],[(1,9)],[(0,10)],[(2,10)],[(0,11)],[(1,11)],[]],[[0,1,2,0,1],[0,1,0,2,1],[1,0,1,2,1],[1,2,0,1,2],[1,0,2,1,2]]⟩,
  ⟨[3,0,1,2],[[(0,1)],[(1,2)],[(2,3)],[]],[[2,1,0]]⟩,
  ⟨[3,0,2,1],[[(0,1),(2,2)],[(1,3),(2,4)],[(0,4)],[(2,5)],[(1,6)],[(1,7)],[(2,7)],[]],[[1,2,1,0],[2,1,2,0],[2,1,0,2]]⟩,
  ⟨[3,1,0,2],[[(0,1),(1,2)],[(1,3)],[(0,4)],[(0,5),(2,6)],[(1,5)],[(2,7)],[(0,7)],[]],[[2,0,1,0],[0,2,1,0],[2,1,0,1]]⟩,
  ⟨[3,1,2,0],[[(0,1),(2,2)],[(1,3),(2,4)],[(0,4),(1,5)],[(2,6)],[(1,7)],[(0,8)],[(1,9)],[(0,10),(2,9)],[(1,10)],[(0,11)],[(2,11)],[]],[[0,1,2,1,0],[2,0,1,2,0],[0,2,1,2,0],[2,0,1,0,2],[0,2,1,0,2],[2,1,0,1,2]]⟩,
  ⟨[3,2,0,1],[[(0,1),(1,2)],[(1,3)],[(0,4),(2,5)],[(0,6),(2,7)],[(1,6),(2,8)],[(0,8)],[(2,9)],[(0,9)],[(1,10)],[(1,11)],[(2,11)],[]],[[1,2,0,1,0],[1,0,2,1,0],[1,2,1,0,1],[2,1,2,0,1],[2,1,0,2,1]]⟩,
  ⟨[3,2,1,0],[[(0,1),(1,2),(2,3)],[(1,4),(2,5)],[(0,6),(2,7)],[(0,5),(1,8)],[(0,9),(2,10)],[(1,11)],[(1,9),(2,12)],[(0,12),(1,13)],[(0,14),(2,13)],[(2,15)],[(0,15),(1,16)],[(0,17),(2,16)],[(1,18)],[(0,19)],[(1,17),(2,19)],[(1,20)],[(0,21)],[(2,21)],[(0,22),(2,20)],[(1,22)],[(0,23)],[(1,23)],[(2,23)],[]],[[0,1,2,0,1,0],[0,1,0,2,1,0],[1,0,1,2,1,0],[1,2,0,1,2,0],[1,0,2,1,2,0],[0,1,2,1,0,1],[2,0,1,2,0,1],[0,2,1,2,0,1],[2,0,1,0,2,1],[0,2,1,0,2,1],[2,1,0,1,2,1],[1,2,0,1,0,2],[1,0,2,1,0,2],[1,2,1,0,1,2],[2,1,2,0,1,2],[2,1,0,2,1,2]]⟩]
noncomputable def szF (R:List (List Nat)):Nat:=(R.headD []).length
noncomputable def stLen (st:Steps):Nat:=(st.map fun ws=>2 * ws.length+2).sum
noncomputable def okStB (st:Steps):Bool:=(List.range st.length).all fun p=>decide ((st.getD p []).length≤10) && (st.getD p []).all fun q=>decide (p < q.2) && decide (q.2 < st.length)
theorem okStB_ok {st:Steps} (h:okStB st=true):okSt st:=by
  intro p ws hp
  have hl:p < st.length:=(List.getElem?_eq_some_iff.mp hp).1
  have h1:=List.all_eq_true.mp h p (List.mem_range.mpr hl)
  rw [show st.getD p []=ws by simp [List.getD,hp]] at h1
  simp only [Bool.and_eq_true,decide_eq_true_eq,List.all_eq_true] at h1
  exact ⟨h1.1,fun q hq=>h1.2 q hq⟩
noncomputable def tabB (e:List Int × Steps × List (List Nat)):Bool:=
  decide (gramF e.1=e.2.1) && decide (rowsP e.2.1 8 0=some e.2.2) && decide (e.2.2≠[]) && decide (e.2.2.length≤16) && (e.2.2.all fun r=>decide (r.length=szF e.2.2) && r.all fun g=>decide (g < 3)) && decide (szF e.2.2≤6) && okStB e.2.1 && decide (stLen e.2.1≤400) && decide (e.2.1.length≤24) && decide (e.2.1≠[]) && decide (e.1.length=4)
theorem tab_all:TAB.all tabB=true:=by decide +kernel
theorem tab_perms:∀ g∈perms,∃ e∈TAB,e.1=g:=by decide +kernel
structure TabOK (goal:List Int) (st:Steps) (R:List (List Nat)):Prop where
  gram:gramF goal=st
  rows:rowsP st 8 0=some R
  ne:R≠[]
  len:R.length≤16
  row:∀ r∈R,r.length=szF R∧∀ g∈r,g < 3
  sz:szF R≤6
  ok:okSt st
  stl:stLen st≤400
  st24:st.length≤24
  st0:st≠[]
  goal4:goal.length=4
theorem tab_of {e:List Int × Steps × List (List Nat)} (h:e∈TAB):TabOK e.1 e.2.1 e.2.2:=by
  have h1:=List.all_eq_true.mp tab_all e h
  simp only [tabB,Bool.and_eq_true,decide_eq_true_eq,List.all_eq_true] at h1
  obtain ⟨⟨⟨⟨⟨⟨⟨⟨⟨⟨a,b⟩,c⟩,d⟩,f⟩,g⟩,i⟩,j⟩,k⟩,l⟩,m⟩:=h1
  exact ⟨a,b,c,d,f,g,okStB_ok i,j,k,l,m⟩
theorem stepM_perms:∀ o∈perms,∀ g∈[0,1,2],stepM o g∈perms:=by decide +kernel
theorem madeF_perms':∀ (gs:List Nat) (o:List Int),o∈perms→(∀ g∈gs,g < 3)→gs.foldl stepM o∈perms
  | [],o,h,_=>h
  | g :: gs,o,h,hg=>madeF_perms' gs _ (stepM_perms o h g (by have:=hg g List.mem_cons_self; simp; lia)) fun x hx=>hg x (List.mem_cons_of_mem _ hx)
theorem madeF_perms {gs:List Nat} (hg:∀ g∈gs,g < 3):madeF gs∈perms:=madeF_perms' gs _ (by decide) hg
theorem rulesI_len (num:Nat→Int):∀ (st:Steps) (k:Nat),(rulesI num k st).length=stLen st
  | [],_=>rfl
  | ws :: st,k=>by
    have h2:∀ ws:List (Nat × Nat),(sideI num ws).length=2 * ws.length:=fun ws=>by
      induction ws with
      | nil=>rfl
      | cons a ws ih=>rw [sideI,List.flatMap_cons,List.length_append,← sideI,ih]; simp; lia
    rw [rI_c,List.length_cons,List.length_append,List.length_cons,rulesI_len num st (k+1),h2]
    unfold stLen
    rw [List.map_cons,List.sum_cons]; exact Eq.symm (Nat.add_right_comm (2 * ws.length) 2 (List.map (fun ws=>2 * ws.length+2) st).sum)
noncomputable def lists:Nat→List (List Nat)
  | 0=>[[]]
  | n+1=>(lists n).flatMap fun s=>[0 :: s,1 :: s,2 :: s]
end Mine
end
section
set_option autoImplicit false
namespace Mine
section
variable {P:List (Nat × FnDef)} {n:Nat} {F:Funs} {σ:St}
noncomputable def natsD (l:List Nat):List D:=l.map fun g:Nat=>D.int g
noncomputable def eDigits (c i b k m:Nat):E:=.comp (.bin .mod (.bin .fdiv (.idx (.var c) (.lit (.int (i:Nat)))) (.bin .pow (.lit (.int (b:Nat))) (.var k))) (.lit (.int (b:Nat)))) [(.v k,(.bi .range [(.lit (.int (m:Nat)))]),[])]
theorem digits_ok {c i b k m:Nat} {oc:Own} {cs:D} {v:Int} (gc:σ.get c=some (oc,cs)) (hi:idxD cs (.int (i:Nat))=some (.int v)) (h0:0≤v) (h1:v < 2 ^ 40) (hb:0 < b) (hpow:∀ j < m,binD .pow (.int (b:Nat)) (.int (j:Nat))=some (.int ((b ^ j:Nat):Int))∧0 < b ^ j∧b ^ j < 2 ^ 40)
    (hm:m < 100) (gk:σ.get k=none) (lk:k < σ.length) (ck:c≠k) :
    ∃ row:List Nat,row.length=m∧(∀ g∈row,g < b)∧stepO (Ev P (n+8)) (eDigits c i b k m) σ=some (.own,.list (natsD row),σ):=by
  have it:items (Ev P (n+8)) (.bi .range [(.lit (.int (m:Nat)))]) σ=some ((List.range' 0 m).map fun i:Nat=>D.int i,σ):=by
    rw [it_plain rfl]
    have h1:=items_range (k:=m) (by lia)
    have hb:biD .range [.int (m:Nat)]=some (.rng 0 (m:Nat) 1):=by
      simp only [biD,one_one,two_two,onLst_list,rangeD_1,rangeD_2,rangeD_3,int2_int,minD,Option.bind_some,Option.map_some]; rw [if_pos (sml_of (by lia))]
    simp [hb]; exact h1
  have key:=comp_map (F:=Ev P (n+8)) (σ:=σ) (σ₁:=σ) (i:=k) (elt:=.bin .mod (.bin .fdiv (.idx (.var c) (.lit (.int (i:Nat)))) (.bin .pow (.lit (.int (b:Nat))) (.var k))) (.lit (.int (b:Nat))))
    (g:=fun d=>match d with | .int j=>.int (((v.fdiv ((b ^ j.toNat:Nat):Int)).fmod (b:Nat)).toNat:Nat) | _=>.none) gk lk it (fun d hd τ hn hbd=>?_) (by rw [List.length_map,List.length_range']; delta line; lia)
  · refine ⟨(List.range' 0 m).map fun j=>((v.fdiv ((b ^ j:Nat):Int)).fmod (b:Nat)).toNat,by simp,fun g hg=>?_,?_⟩
    · obtain ⟨j,_,rfl⟩:=List.mem_map.mp hg
      have a:=Int.fmod_nonneg_of_pos (v.fdiv ((b ^ j:Nat):Int)) (show (0:Int) < (b:Nat) by exact Int.natCast_pos.mpr hb)
      have b:=Int.fmod_lt_of_pos (v.fdiv ((b ^ j:Nat):Int)) (show (0:Int) < (b:Nat) by exact Int.natCast_pos.mpr hb)
      exact (Int.toNat_lt a).mpr b
    · delta eDigits natsD
      rw [key,List.map_map,List.map_map]; rfl
  · obtain ⟨j,hj,rfl⟩:=List.mem_map.mp hd
    have hj4:j < m:=by simpa using hj
    obtain ⟨hp,p0,p1⟩:=hpow j hj4
    obtain ⟨r,hr,e1,e2,e3⟩:=dm_ex (c:=v) (m:=b ^ j) (k:=b) h0 h1 p0 p1 hb
    have tc:τ.get c=some (oc,cs):=(hn.get c (by simpa using ck)).trans gc
    dsimp only
    rw [Int.toNat_natCast,e1]
    generalize b ^ j=q at *
    simp [tc,hbd,hi,hp,e2,e3,peek,again]
theorem num3_N3 (x y z:Nat):num3 (numOf x) (numOf y) (numOf z)=N3 x y z:=by
  funext g; match g with | 0=>rfl | 1=>rfl | _+2=>rfl
theorem pow4_ok:∀ j < 5,binD .pow (.int ((4:Nat):Int)) (.int (j:Nat))=some (.int ((4 ^ j:Nat):Int))∧0 < 4 ^ j∧4 ^ j < 2 ^ 40:=by
  intro j hj
  match j,hj with
  | 0,_=>exact ⟨rfl,by decide,by decide⟩
  | 1,_=>exact ⟨rfl,by decide,by decide⟩
  | 2,_=>exact ⟨rfl,by decide,by decide⟩
  | 3,_=>exact ⟨rfl,by decide,by decide⟩
  | 4,_=>exact ⟨rfl,by decide,by decide⟩
theorem filt_ok {k w:Nat} {ow:Own} {l:List Nat} {e:E} {τ:St} (hz:l.length≤1000) (it:items (Ev P (n+6)) e σ=some (natsD l,τ)) (gk:τ.get k=none) (lk:k < τ.length) :
    stepO (Ev P (n+6)) (.comp (.var k) [(.v k,e,[(.cmp .lt (.var k) (.lit (.int 3)))])]) σ=some (.own,.list (natsD (l.filter fun g=>decide (g < 3))),τ):=by
  have key:=comp_if (F:=Ev P (n+6)) (σ:=τ) (σ₁:=σ) (i:=k) (elt:=.var k) (cs:=[(.cmp .lt (.var k) (.lit (.int 3)))]) (p:=fun d=>match d with | .int j=>decide (j < 3) | _=>false) (g:=fun d=>d) gk lk it (fun d hd υ hn hb=>?_) (fun d hd _ υ hn hb=>?_) (by delta natsD; rw [List.length_map]; delta line; lia)
  · rw [key]
    delta natsD
    rw [List.filter_map,List.map_id']
    congr 5
    apply List.filter_congr
    intro g _
    simp only [Function.comp,decide_eq_decide]
    lia
  · obtain ⟨j,hj,rfl⟩:=List.mem_map.mp hd
    rw [show n+6=n+5+1 from rfl]
    by_cases q:((j:Nat):Int) < 3
    · simp [hb,iE1,iE2,iE3,iE4,iE5,iE6,iE7,iE8,iE9,q]
    · simp [hb,iE1,iE2,iE3,iE4,iE5,iE6,iE7,iE8,iE9,q]
  · simp [hb]
theorem it_list {k:Nat} {o:Own} {l:List D} (ho:o≠.bor) (h:σ.get k=some (o,.list l)) (lk:k < σ.length):items (Ev P (n+1)) (.var k) σ=some (l,σ.put k (.sh,.list l)):=by
  rw [it_plain rfl,ev_s,x_var,h,rd_any h ho lk]; rfl
end
section
variable {n:Nat} {σ:St}
end
end Mine
end
section
set_option autoImplicit false
namespace Mine
section
variable {n:Nat} {σ:St} {P:List (Nat × FnDef)}
theorem add_lists {A B:List D} (h:A.length+B.length≤line):binD .add (.list A) (.list B)=some (.list (A++B)):=by
  simp only [binD,addD_int,addD_str,addD_list,addD_tup,mulD_int,mulD_str,mulD_list,int2_int]; rw [if_pos h]
noncomputable def tailV (s:Int):List Int:=[252,253,254,255,256,257,258,259,-1,s,-s]
theorem syms_ok {X:E} {σ':St} {R:List Int} {c0 c1 c2 c3:Int} {oc:Own} (ho:oc≠.bor) (hX:stepEv (Ev P (n+17)) X σ=some (.list (R.map .int),σ')) (hl:1 < σ'.length) (g1:σ'.get 1=some (oc,.list [.int c0,.int c1,.int c2,.int c3])) (hR:R.length≤1000) :
    items (Ev P (n+20)) (.bin .add (.bin .add X (.bi .list [(.bi .range [(.lit (.int 252)),(.lit (.int 260))])])) (.list [(.neg (.lit (.int 1))),(.bi .sum [(.var 1)]),(.neg (.bi .sum [(.var 1)]))])) σ =
      some ((R++tailV (c0+(c1+(c2+c3)))).map .int,σ'.put 1 (.sh,.list [.int c0,.int c1,.int c2,.int c3])):=by
  have r1:biD .range [.int 252,.int 260]=some (.rng 252 260 1):=rfl
  have r2:biD .list [.rng 252 260 1]=some (.list ([252,253,254,255,256,257,258,259].map .int)):=rfl
  have r3:biD .sum [.list [.int c0,.int c1,.int c2,.int c3]]=some (.int (c0+(c1+(c2+c3)))):=by
    have:=toInts_ints [c0,c1,c2,c3]
    simp only [List.map_cons,List.map_nil] at this
    simp only [biD,one_one,two_two,onLst_list,rangeD_1,rangeD_2,rangeD_3,int2_int,minD,Option.bind_some,Option.map_some,this]
    simp [sumL]
  have a1:binD .add (.list (R.map .int)) (.list ([252,253,254,255,256,257,258,259].map .int))=some (.list (R.map .int++[252,253,254,255,256,257,258,259].map .int)):=add_lists (by simp [line]; lia)
  have a2:∀ s:Int,binD .add (.list (R.map .int++[252,253,254,255,256,257,258,259].map .int)) (.list [.int (-1),.int s,.int (-s)])=some (.list ((R++tailV s).map .int)):=fun s=>by
    rw [add_lists (by simp [line]; lia)]
    simp [tailV]
  have q1:=rd_any g1 ho hl
  have q2:(σ'.put 1 (.sh,.list [.int c0,.int c1,.int c2,.int c3])).get 1=some (.sh,.list [.int c0,.int c1,.int c2,.int c3]):=by rw [get_put _ _ _ _ hl,if_pos rfl]
  rw [it_plain rfl]
  simp only [ev_s,x_bin,hX,Option.bind_some,x_blist,evO_s,o_blist,x_bi (show Bi.range≠.len from nofun) (show Bi.range≠.list from nofun),evs_cons,evs_nil,x_lit,Option.map_some,r1,r2,noO_some,a1,x_list,o_list,x_neg,negD,x_bi (show Bi.sum≠.len from nofun) (show Bi.sum≠.list from nofun),x_var,g1,q1,r3,q2,rd_sh]
  rw [if_pos (show [D.int (-1),D.int (c0+(c1+(c2+c3))),D.int (-(c0+(c1+(c2+c3))))].length≤line from (by decide:3≤line))]
  simp only [noO_some,Option.bind_some,a2,Option.map_some,its_l,its_t,its_s,its_r]
theorem loopS_ok (h38:P.lookup 38=some G2.f_ISTERMINAL) (h45:P.lookup 45=some G2.f_ISNONTERMINAL) (h52:P.lookup 52=some G2.f_ISEOF) {s p y:Nat} {x w z:Nat} {st:Steps} {v:Int} (hv:0 < v) (hs:s < σ.length) (hp:p < σ.length) (hy:y < σ.length) (h1:s≠p) (h2:s≠y) (h3:p≠y)
    (hA:∀ u∈[x,w,z],u∈ALPH) (hst:stLen st≤400) (gs:σ.get s=some (.own,.idict [])) (gp:σ.get p=some (.own,.list [])) :
    ∃ σ',forL (Ev P (n+12)) (.v y) (bS s p y) ((rulesI (N3 x w z) 0 st++tailV v).map D.int) σ=some (.next,σ')∧Near [s,p,y] σ σ'∧σ'.get s=some (.own,sidesD (N3 x w z) st)∧∃ l:List Int,l.length=11∧σ'.get p=some (.own,.list (l.map .int)):=by
  have hl:=rulesI_len (N3 x w z) st 0
  have hnum:∀ g,N3 x w z g≠0:=fun g=>by
    have:=(num_facts _ (hA _ (S3_mem x w z g))).1
    unfold N3; lia
  have hz:∀ u∈tailV v,u≠0:=by unfold tailV; simp; exact Int.ne_of_gt hv
  obtain ⟨σ',e,hn,I⟩:=forS_ok (P:=P) (n:=n) h38 h45 h52 (σ₀:=σ) hs hp hy h1 h2 h3 (rulesI (N3 x w z) 0 st++tailV v) σ [] [] (.refl _ _) ⟨gs,gp⟩ (by rw [List.length_append,hl]; simp [tailV]; lia) (by rw [List.length_append,hl]; simp [tailV]; lia)
  have e2:symF (rulesI (N3 x w z) 0 st++tailV v) [] []=(sidesFrom (N3 x w z) 0 st,tailV v):=by
    rw [symF_rules hnum st 0 [] (tailV v) (by simp)]
    have:=symF_nz (tailV v) [] ([]++sidesFrom (N3 x w z) 0 st) [] hz
    rw [List.append_nil] at this
    rw [this]; simp [sy_n]
  rw [e2] at I
  exact ⟨σ',e,hn,I.sides,tailV v,rfl,I.part⟩
end
end Mine
end
section
set_option autoImplicit false
namespace Mine
section
variable {n:Nat}
theorem start_none {f:FnDef} {s:Slot} {k:Nat} (h:f.nv - f.np=k):∀ j,1≤j→(start f [s]).get j=none:=by
  intro j hj
  obtain ⟨i,rfl⟩ : ∃ i,j=i+1:=⟨j - 1,by exact (Nat.sub_eq_iff_eq_add hj).mp rfl⟩
  delta start St.get
  rw [List.map_cons,List.map_nil,List.singleton_append,List.getElem?_cons_succ,List.getElem?_replicate]
  split <;> rfl
end
end Mine
end
section
set_option autoImplicit false
namespace Mine
section
variable {n:Nat} {σ:St} {P:List (Nat × FnDef)}
theorem ne_ints {a b:List Int} (hb:b≠[]):cmpD .ne (.list (a.map .int)) (.list (b.map .int))=some (decide (a≠b)):=by
  match b,hb with
  | c :: r,_=>
    show (((toInts (a.map D.int)).bind fun u=>(toInts ((c :: r).map D.int)).map fun v=>u == v).map (!·))=_
    rw [toInts_ints,toInts_ints]
    show some (!(a == c :: r))=some (decide (a≠c :: r))
    congr 1
    rw [Bool.eq_iff_iff,Bool.not_eq_true',beq_eq_false_iff_ne,decide_eq_true_eq]
noncomputable def eNums (k sg:Nat):E:=.comp (.bin .add (.lit (.int 7)) (.meth .index (.lit (.str [40,41,91,93,58,44,59,43,45,42,47,124,38,60,62,61,46,37,123,125])) [(.var k)])) [(.v k,(.var sg),[])]
theorem nums_ok {k sg:Nat} {l:List Nat} (h:σ.get sg=some (.sh,.list (strsL l))) (gk:σ.get k=none) (lk:k < σ.length) (hA:∀ w∈l,w∈ALPH) (hz:l.length≤10) :
    stepO (Ev P (n+6)) (eNums k sg) σ=some (.own,.list ((l.map numOf).map .int),σ):=by
  have it:items (Ev P (n+6)) (.var sg) σ=some (strsL l,σ):=by
    rw [it_plain rfl]; simp [h,its_l,its_t,its_s,its_r]
  have key:=comp_map (F:=Ev P (n+6)) (σ:=σ) (σ₁:=σ) (i:=k) (elt:=.bin .add (.lit (.int 7)) (.meth .index (.lit (.str [40,41,91,93,58,44,59,43,45,42,47,124,38,60,62,61,46,37,123,125])) [(.var k)])) (g:=fun d=>match d with | .str [x]=>.int (numOf x) | _=>.none) gk lk it (fun d hd τ hn hb=>?_) (by delta strsL line; rw [List.length_map]; lia)
  · delta eNums
    rw [key]
    delta strsL
    rw [List.map_map,List.map_map]; rfl
  · obtain ⟨x,hx,rfl⟩:=List.mem_map.mp hd
    have hs:=num_str x (hA x hx)
    obtain ⟨j,hj⟩:=Option.isSome_iff_exists.mp hs
    have m:methD .index (.str [40,41,91,93,58,44,59,43,45,42,47,124,38,60,62,61,46,37,123,125]) [.str [x]]=some (.int (j:Nat)):=by
      have hj':idxOf x [40,41,91,93,58,44,59,43,45,42,47,124,38,60,62,61,46,37,123,125]=some j:=hj
      simp only [methD,onStr_str,onLst_list,caseD_nil,one_one,two_two,splitD_cons,indexD_str,indexD_list,indexS_one,indexL_int,getDD_d,Option.bind_some,Option.map_some,hj']
    have nm:numOf x=7+(j:Int):=by delta numOf; rw [hj]; rfl
    dsimp only
    rw [nm]
    simp [hb,m,peek,again]
end
end Mine
end
section
set_option autoImplicit false
namespace Mine
theorem joinL_mem {sep:List Nat} {c:Nat}:∀ {l:List (List Nat)},c∈joinL sep l→c∈sep∨∃ a∈l,c∈a
  | [],h=>by simp [jL_n,jL_1,jL_c] at h
  | [a],h=>.inr ⟨a,by simp,by simpa [jL_1] using h⟩
  | a :: b :: r,h=>by
    rw [jL_c] at h
    rcases List.mem_append.mp h with q | q
    · rcases List.mem_append.mp q with q | q
      · exact .inr ⟨a,by simp,q⟩
      · exact .inl q
    · rcases joinL_mem q with q | ⟨a',h1,h2⟩
      · exact .inl q
      · exact .inr ⟨a',List.mem_cons_of_mem _ h1,h2⟩
theorem sum_le {b:Nat}:∀ {l:List (List Nat)},(∀ a∈l,a.length≤b)→((l.map fun a=>a.length+1).sum)≤(b+1) * l.length
  | [],_=>by simp
  | a :: l,h=>by
    have h1:=h a List.mem_cons_self
    have h2:=sum_le (l:=l) fun c hc=>h c (List.mem_cons_of_mem _ hc)
    rw [List.map_cons,List.sum_cons,List.length_cons,Nat.mul_add]; lia
section
variable {P:List (Nat × FnDef)} {n:Nat} {F:Funs} {σ:St}
noncomputable def escP (k:Nat) (a:List Nat):List Nat:=a.flatMap (code (escOf k))
structure Page (σ:St) (k m:Nat) (wr tb mk pc w:Nat) (part:List Nat) (W:List (List Nat)):Prop where
  gw:σ.get wr=some (.sh,.fn (handFn k))
  gt:σ.get tb=some (.sh,.sdict (tabD k))
  gm:σ.get mk=some (.sh,.str [m])
  gp:σ.get pc=some (.sh,.list (((part :: W).map (escP k)).map D.str))
  gW:σ.get w=some (.sh,.list (W.map D.str))
noncomputable def pageS (c i p w wr tb mk ln pg s pc:Nat):List S:=[.unpk [wr,tb] (.call (.glob (.fn 106)) [(.bin .mod (.idx (.var c) (.lit (.int (i:Nat)))) (.lit (.int 5)))] false),
  .asg mk (.idx (.lit (.str [34,13,10,9,32])) (.bin .mod (.bin .fdiv (.idx (.var c) (.lit (.int (i:Nat)))) (.lit (.int 5))) (.lit (.int 5)))),
  .asg ln (.meth .join (.var mk) [(.bin .add (.list [(.var p)]) (.var w))]),.asg pg (.call (.var wr) [(.var ln)] false),
  .ite (.cmp .ne (.var pg) (.meth .join (.lit (.str [])) [(.comp (.meth .get (.var tb) [(.var s),(.var s)]) [(.v s,(.var ln),[])])])) [.ret (.lit (.bool false))] [],
  .asg pc (.meth .split (.var pg) [(.meth .get (.var tb) [(.var mk),(.var mk)])])]
theorem idx_strs {L:List (List Nat)} {k:Nat} (h:k < L.length) (hk:k < 1000):idxD (.list (L.map D.str)) (.int (k:Nat))=some (.str L[k]):=by
  simp only [idxD,sml_nat (show k < 2 ^ 60 by lia),if_true,nth]
  rw [if_pos (by exact Int.natCast_nonneg k),Int.toNat_natCast,List.getElem?_map,List.getElem?_eq_getElem h]; rfl
theorem escP_len {k:Nat} (hk:k∈KS) {a:List Nat} (h:∀ x∈a,x∈ALPH):(escP k a).length≤6 * a.length∧∀ x∈escP k a,x < 128:=by
  refine ⟨flat_len fun c hc=>(code_len k hk c (List.mem_append_left _ (h c hc))).2.1,fun x hx=>?_⟩
  obtain ⟨c,hc,hx⟩:=List.mem_flatMap.mp hx
  exact (code_len k hk c (List.mem_append_left _ (h c hc))).2.2 x hx
end
end Mine
end
section
set_option autoImplicit false
set_option maxRecDepth 100000
namespace Mine
noncomputable def mx2 (a b:Int):Int:=if a < b then b else a
section
variable {n:Nat} {σ:St} {P:List (Nat × FnDef)} {F:Funs}
theorem last_k {L M:List D} {k:Nat} (hM:M.length=k) (hk:0 < k) (hk2:k < 100):slcD (.list (L++M)) (.int (-(k:Int))) .none false=some (.list M):=by
  have hs:sml (-(k:Int))=true:=sml_of (by lia)
  simp only [slcD,sl_l,sl_w,sl_s,oi_n,oi_i,Option.bind_some,hs,if_true,cut,bnd]
  rw [if_neg (by lia),List.take_length,show (-(k:Int)+((L++M).length:Nat)).toNat=L.length by rw [List.length_append]; lia,List.drop_left]
theorem mx_int {a b:Int}:biD .max [.int a,.int b]=some (.int (mx2 a b)):=rfl
end
end Mine
end
section
set_option autoImplicit false
namespace Mine
section
variable {n:Nat} {σ:St} {P:List (Nat × FnDef)} {F:Funs}
theorem all_ints {k:Nat} {e:E} {L:List Int} {τ:St} (it:items (Ev P (n+8)) e σ=some (L.map .int,τ)) (gk:τ.get k=none) (lk:k < τ.length) (hz:L.length≤10000) :
    stepO (Ev P (n+8)) (.comp (.var k) [(.v k,e,[(.or [(.bi .isBool [(.var k)]),(.not (.bi .isInt [(.var k)]))])])]) σ=some (.own,.list [],τ):=by
  have key:=comp_if (F:=Ev P (n+8)) (σ:=τ) (σ₁:=σ) (i:=k) (elt:=.var k) (cs:=[(.or [(.bi .isBool [(.var k)]),(.not (.bi .isInt [(.var k)]))])]) (p:=fun _=>false) (g:=fun d=>d) gk lk it (fun d hd υ hn hb=>?_) (fun d hd _ υ hn hb=>?_) (by rw [List.length_map]; unfold line; lia)
  · rw [key]; simp
  · obtain ⟨j,hj,rfl⟩:=List.mem_map.mp hd
    have b1:biD .isBool [.int j]=some (.bool false):=rfl
    have b2:biD .isInt [.int j]=some (.bool true):=rfl
    rw [show n+8=n+5+1+1+1 from rfl]
    simp only [all_cons,all_nil,evT_s,t_or,any_cons,any_nil,t_biisBool,t_biisInt,t_not,ev_s,x_bi (show Bi.isBool≠.len from nofun) (show Bi.isBool≠.list from nofun),x_bi (show Bi.isInt≠.len from nofun) (show Bi.isInt≠.list from nofun),evs_cons,evs_nil,x_var,hb,rd_sh,Option.bind_some,Option.map_some,b1,b2,r_bool,Bool.false_eq_true,if_false,Bool.not_true]
  · simp [hb]
end
end Mine
end
section
set_option autoImplicit false
namespace Mine
section
variable {P:List (Nat × FnDef)} {n:Nat} {F:Funs} {σ:St}
theorem signs2_ok (h:P.lookup 101=some G2.f_law_signs) {c:Int} (h0:0≤c) (h1:c < 2 ^ 40):∃ x y z,(∀ w∈[x,y,z],w∈ALPH)∧[x,y,z].Nodup∧
    (Ev P (n+12)).call 101 [(.sh,.int c)]=some (.list (strsL [x,y,z]),some (.sh,.int c)):=by
  obtain ⟨i,hi,_,ei⟩:=m_ex (c:=c) (k:=3) (by decide)
  obtain ⟨j,hj,_,ej1,ej2⟩:=dm_ex (m:=3) (k:=18) h0 h1 (by decide) (by decide) (by decide)
  have hx:LEAD[i]∈ALPH:=(by decide:∀ w∈LEAD,w∈ALPH) _ (List.getElem_mem _)
  have hxp:LEAD[i] ∉ PLAIN:=(by decide:∀ w∈LEAD,w ∉ PLAIN) _ (List.getElem_mem _)
  have hl1:(replC LEAD[i] [] ALPH).length=18:=(by decide:∀ w∈LEAD,(replC w [] ALPH).length=18) _ (List.getElem_mem _)
  generalize hA:LEAD[i]=a at *
  have hj':j < (replC a [] ALPH).length:=by exact Nat.lt_of_lt_of_eq hj (id (Eq.symm hl1))
  have hy:=List.getElem_mem hj'
  generalize hB:(replC a [] ALPH)[j]=b at *
  have yb:b∈ALPH∧b≠a:=by
    rw [replC_filter] at hy
    have:=List.mem_filter.mp hy
    exact ⟨this.1,by simpa using this.2⟩
  have hl2:0 < (replC b [] PLAIN).length∧(replC b [] PLAIN).length≤16:=(by decide:∀ w∈ALPH,0 < (replC w [] PLAIN).length∧(replC w [] PLAIN).length≤16) _ yb.1
  obtain ⟨k,hk,_,ek1,ek2⟩:=dm_ex (m:=54) (k:=(replC b [] PLAIN).length) h0 h1 (by decide) (by decide) hl2.1
  obtain ⟨r,hr,_,er1,er2⟩:=dm_ex (m:=918) (k:=3) h0 h1 (by decide) (by decide) (by decide)
  generalize c.fdiv ((3:Nat):Int)=c3 at *
  generalize c.fdiv ((54:Nat):Int)=c54 at *
  generalize c.fdiv ((918:Nat):Int)=c918 at *
  have hz:=List.getElem_mem hk
  generalize hC:(replC b [] PLAIN)[k]=d at *
  have zd:d∈ALPH∧d≠a∧d≠b:=by
    rw [replC_filter] at hz
    have h2:=List.mem_filter.mp hz
    exact ⟨(by decide:∀ w∈PLAIN,w∈ALPH) _ h2.1,fun q=>hxp (q ▸ h2.1),by simpa using h2.2⟩
  have e0:idxD (.str [38,60,62]) (.int (i:Int))=some (.str [a]):=by
    have:=idx_at (l:=LEAD) (k:=i) hi (by lia)
    rw [hA] at this; exact this
  have e1:idxD (.str (replC a [] ALPH)) (.int (j:Int))=some (.str [b]):=by
    rw [idx_at hj' (by lia),hB]
  have e2:idxD (.str (replC b [] PLAIN)) (.int (k:Int))=some (.str [d]):=by
    rw [idx_at hk (by lia),hC]
  have a256:a < 256:=(by decide:∀ w∈ALPH,w < 256) _ hx
  have b256:b < 256:=(by decide:∀ w∈ALPH,w < 256) _ yb.1
  have e0':idxD (.str [38,60,62]) (.int i)=some (.str [a]):=e0
  have ei':binD .mod (.int c) (.int 3)=some (.int i):=ei
  have ej1':binD .fdiv (.int c) (.int 3)=some (.int c3):=ej1
  have ej2':binD .mod (.int c3) (.int 18)=some (.int j):=ej2
  have ek1':binD .fdiv (.int c) (.int 54)=some (.int c54):=ek1
  have er1':binD .fdiv (.int c) (.int 918)=some (.int c918):=er1
  have er2':binD .mod (.int c918) (.int 3)=some (.int r):=er2
  have i0:idxD (.list [.tstr [a]]) (.int 0)=some (.tstr [a]):=rfl
  have i1:idxD (.list [.tstr [a],.tstr [b]]) (.int 1)=some (.tstr [b]):=rfl
  have al:ALPH=[40,41,91,93,58,44,43,45,42,47,124,38,60,62,61,46,37,123,125]:=rfl
  have pl:PLAIN=[40,41,91,93,58,44,43,45,42,47,124,61,46,37,123,125]:=rfl
  rw [al] at e1 hl1
  rw [pl] at e2 hl2 ek2
  have fin:∀ (l:List Nat) (s1 s2:List D),slcD (.list [.tstr [a],.tstr [b],.tstr [d]]) (.int r) .none false=some (.list s1)→slcD (.list [.tstr [a],.tstr [b],.tstr [d]]) .none (.int r) false=some (.list s2)→binD .add (.list s1) (.list s2)=some (.list (tstrsL l))→
      (Ev P (n+12)).call 101 [(.sh,.int c)]=some (.list (strsL l),some (.sh,.int c)):=by
    intro l s1 s2 q1 q2 q3
    have e:exs (Ev P (n+11)) G2.f_law_signs.body (start G2.f_law_signs [(.sh,.int c)])=some (.ret (.list (tstrsL l)),[some (.sh,.int c),some (.own,.list [.tstr [a],.tstr [b],.tstr [d]]),some (.sh,.str (replC b [] [40,41,91,93,58,44,43,45,42,47,124,61,46,37,123,125])),some (.sh,.int r)]):=by
      delta G2.f_law_signs G2.b_law_signs start
      simp [ei',ej1',ej2',ek1',ek2,er1',er2',e0',e1,e2,i0,i1,a256,b256,line,isL_o,ap_o,ap_b,hl1,q1,q2,q3,peek,again]
    have:=call_of (P:=P) (n:=n+11) (a:=101) (f:=G2.f_law_signs) (ss:=[(.sh,.int c)]) h rfl e rfl
    rw [weak_tstrsL] at this
    exact this
  have hr3:r=0∨r=1∨r=2:=lt3 (P:=fun r=>r=0∨r=1∨r=2) (.inl rfl) (.inr (.inl rfl)) (.inr (.inr rfl)) hr
  rcases hr3 with rfl | rfl | rfl
  · exact ⟨a,b,d,by simp [hx,yb.1,zd.1],by simp [Ne.symm yb.2,Ne.symm zd.2.1,Ne.symm zd.2.2],fin [a,b,d] _ _ rfl rfl rfl⟩
  · exact ⟨b,d,a,by simp [hx,yb.1,zd.1],by simp [yb.2,zd.2.1,Ne.symm zd.2.2],fin [b,d,a] _ _ rfl rfl rfl⟩
  · exact ⟨d,a,b,by simp [hx,yb.1,zd.1],by simp [Ne.symm yb.2,zd.2.1,zd.2.2],fin [d,a,b] _ _ rfl rfl rfl⟩
end
set_option maxRecDepth 100000 in
theorem gram2 (n:Nat) (a b c:Int) {goal:List Int} (hg:goal∈perms):(Ev G2.P (n+60)).call 120 [(.sh,.list (goal.map .int)),(.sh,.list [.int a,.int b,.int c])] =
    some (.list (rulesFrom (num3 a b c) 0 (gramF goal)),some (.sh,.list [.int a,.int b,.int c])):=by
  simp only [perms,List.mem_cons,List.mem_nil_iff,or_false] at hg
  rcases hg with rfl | rfl | rfl | rfl | rfl | rfl | rfl | rfl | rfl | rfl | rfl | rfl | rfl | rfl | rfl | rfl | rfl | rfl | rfl | rfl | rfl | rfl | rfl | rfl <;> kernel_rfl
end Mine
end
section
set_option autoImplicit false
namespace Mine
section
variable {F:Funs} {σ τ:St}
theorem put_eq {i:Nat} {s:Slot} (h:i < σ.length):(σ.put i s).get i=some s:=(get_put σ i i s h).trans (if_pos rfl)
theorem put_ne {i j:Nat} {s:Slot} (h:j≠i):(σ.put i s).get j=σ.get j:=congrArg Option.join (List.getElem?_set_ne (Ne.symm h))
theorem put_eq' {i:Nat} {s:Slot} (e:σ.put i s=τ) (h:i < σ.length):τ.get i=some s:=e ▸ put_eq h
theorem put_ne' {i j:Nat} {s:Slot} (e:σ.put i s=τ) (h:j≠i):τ.get j=σ.get j:=e ▸ put_ne h
theorem put_len' {i:Nat} {s:Slot} (e:σ.put i s=τ):τ.length=σ.length:=e ▸ len_put ..
theorem xs_step {s:S} {r:List S} {σ₁:St} (h:F.ex s σ=some (.next,σ₁)):exs F (s :: r) σ=exs F r σ₁:=by rw [xs_cons,h]; rfl
end
end Mine
end
section
set_option autoImplicit false
namespace Mine
structure Base2 (σ:St) (c0 c1 c2 c3:Int) (x y z:Nat) (goal:List Int) (R:List (List Nat)) (sz:Nat):Prop where
  len:σ.length=39
  g1:σ.get 1=some (.sh,.list [.int c0,.int c1,.int c2,.int c3])
  g4:σ.get 4=some (.sh,.list (strsL [x,y,z]))
  g5:σ.get 5=some (.sh,.list (([x,y,z].map numOf).map .int))
  g6:σ.get 6=some (.sh,.list (goal.map .int))
  g10:∃ o,o≠Own.bor∧σ.get 10=some (o,.list ((R.map fun r=>r.map (S3 x y z)).map D.str))
  g11:σ.get 11=some (.sh,.int (sz:Nat))
  g13:σ.get 13=some (.sh,.str ([2,1,0].map (S3 x y z)))
  free:∀ j,27≤j→σ.get j=none
section
variable {n:Nat} {σ:St}
theorem head4 {c0 c1 c2 c3:Int} (hl:σ.length=39) (g1:σ.get 1=some (.own,.list [.int c0,.int c1,.int c2,.int c3])) (h:0 < c0∧c0 < 2 ^ 40) (g28:σ.get 28=none) (g29:σ.get 29=none) :
    ∃ goal∈perms,(Ev G2.P (n+100)).ex s2_4 σ=some (.next,σ.put 6 (.sh,.list (goal.map .int))):=by
  have i0:idxD (.list [.int c0,.int c1,.int c2,.int c3]) (.int ((0:Nat):Int))=some (.int c0):=rfl
  obtain ⟨lead,hll,hlg,hd⟩:=digits_ok (P:=G2.P) (n:=n+85) (σ:=σ) (c:=1) (i:=0) (b:=4) (k:=28) (m:=4) g1 i0 (by lia) h.2 (by decide) (fun j hj=>pow4_ok j (by exact Nat.lt_succ_of_lt hj)) (by decide) g28 (by rw [hl]; decide) (by decide)
  have hd':stepO (Ev G2.P (n+93)) (.comp (.bin .mod (.bin .fdiv (.idx (.var 1) (.lit (.int 0))) (.bin .pow (.lit (.int 4)) (.var 28))) (.lit (.int 4))) [(.v 28,(.bi .range [(.lit (.int 4))]),[])]) σ=some (.own,.list (natsD lead),σ):=hd
  have hg:∀ g∈lead.filter (fun g=>decide (g < 3)),g < 3:=fun g hg=>by simpa using (List.mem_filter.mp hg).2
  refine ⟨madeF (lead.filter fun g=>decide (g < 3)),madeF_perms hg,?_⟩
  have it:items (Ev G2.P (n+95)) (.comp (.bin .mod (.bin .fdiv (.idx (.var 1) (.lit (.int 0))) (.bin .pow (.lit (.int 4)) (.var 28))) (.lit (.int 4))) [(.v 28,(.bi .range [(.lit (.int 4))]),[])]) σ=some (natsD lead,σ):=by
    rw [it_plain rfl,show n+95=n+93+1+1 from rfl]
    simp only [ev_s,x_comp,evO_s,hd',noO_some]; rfl
  have f:=filt_ok (P:=G2.P) (n:=n+89) (σ:=σ) (k:=29) (w:=0) (ow:=.own) (l:=lead) (by lia) it g29 (by rw [hl]; decide)
  have c:=c113 (P:=G2.P) (n:=n+85) rfl rfl hg
  unfold s2_4
  simp only [ex_s,s_asg,evO_s,o_call,ev_s,x_call,x_glob,Option.bind_some,fn_a,a_one,x_comp]
  rw [f]
  simp only [noO_some,Option.map_some,Option.bind_some]
  rw [show n+97=n+85+12 from rfl]
  unfold natsD at c ⊢
  rw [c]
  rfl
end
end Mine
end
section
set_option autoImplicit false
namespace Mine
section
variable {n:Nat}
theorem strs_add {a b:List Nat} (h:a.length+b.length≤4096):binD .add (.str a) (.str b)=some (.str (a++b)):=by
  simp only [binD,addD_int,addD_str,addD_list,addD_tup,mulD_int,mulD_str,mulD_list,int2_int]; rw [if_pos (by unfold line; lia)]
theorem prolog2 (ns:List Int):∃ σ c0 c1 c2 c3 x y z e,exs (Ev G2.P (n+100)) G2.b_law (start G2.f_law [(.sh,.wlist (ns.map D.int))])=exs (Ev G2.P (n+100)) (G2.b_law.drop 10) σ∧
    Base2 σ c0 c1 c2 c3 x y z e.1 e.2.2 (szF e.2.2)∧σ.get 12=some (.own,.list [])∧e∈TAB∧(∀ w∈[x,y,z],w∈ALPH)∧[x,y,z].Nodup∧(0≤c2∧c2 < 2 ^ 40)∧(0≤c3∧c3 < 2 ^ 40):=by
  have hs0:=start_none (f:=G2.f_law) (s:=(.sh,.wlist (ns.map D.int))) (k:=38) rfl
  have hl0:(start G2.f_law [(.sh,.wlist (ns.map D.int))]).length=39:=rfl
  have hg0:(start G2.f_law [(.sh,.wlist (ns.map D.int))]).get 0=some (.sh,.wlist (ns.map D.int)):=rfl
  generalize start G2.f_law [(.sh,.wlist (ns.map D.int))]=σ0 at *
  obtain ⟨σ1,e1,n1,c0,c1,c2,c3,C⟩:=cells_ok (P:=G2.P) (n:=n+92) (σ:=σ0) (a:=97) (b:=1591) (c:=33) (d:=22) (ns:=ns) (rest:=G2.b_law.drop 2) (by lia) hg0
  have e1':exs (Ev G2.P (n+100)) G2.b_law σ0=exs (Ev G2.P (n+100)) (G2.b_law.drop 2) σ1:=e1
  have b0:0 < c0∧c0 < 2 ^ 40:=by have:=C.x0; have:=C.x1; lia
  have b1:0 < c1∧c1 < 2 ^ 40:=by have:=C.y0; have:=C.y1; lia
  have b2:0 < c2∧c2 < 2 ^ 40:=by have:=C.z0; have:=C.z1; lia
  have b3:0 < c3∧c3 < 2 ^ 40:=by have:=C.u0; have:=C.u1; lia
  have g1:=C.get
  have hl1:σ1.length=39:=n1.len.trans hl0
  have fr1:∀ j,4≤j→σ1.get j=none:=fun j hj=>(n1.get j (by simp; lia)).trans (hs0 j (by exact Nat.one_le_of_lt hj))
  clear C n1 e1
  obtain ⟨x,y,z,hA,hn,es⟩:=signs2_ok (P:=G2.P) (n:=n+85) rfl (c:=c1) (by lia) b1.2
  have e2:(Ev G2.P (n+100)).ex s2_2 σ1=some (.next,σ1.put 4 (.sh,.list (strsL [x,y,z]))):=by
    have i1:idxD (.list [.int c0,.int c1,.int c2,.int c3]) (.int 1)=some (.int c1):=rfl
    unfold s2_2
    exact r_asg (o_v (r_call (r_a1 (r_idxv g1 r_lit i1)) es) rfl)
  generalize hσ2:σ1.put 4 (.sh,.list (strsL [x,y,z]))=σ2 at e2
  have hl2:σ2.length=39:=(put_len' hσ2).trans hl1
  have k2:∀ j,j≠4→σ2.get j=σ1.get j:=fun j h=>put_ne' hσ2 h
  have g4:σ2.get 4=some (.sh,.list (strsL [x,y,z])):=put_eq' hσ2 (by rw [hl1]; decide)
  have e3:(Ev G2.P (n+100)).ex s2_3 σ2=some (.next,σ2.put 5 (.own,.list ([x,y,z].map fun w=>D.int (numOf w)))):=
    asg_of (numbers_ok (P:=G2.P) (n:=n+94) (sg:=4) (v:=27) g4 ((k2 27 (by decide)).trans (fr1 27 (by decide))) (by rw [hl2]; decide) hA (by simp))
  generalize hσ3:σ2.put 5 (.own,.list ([x,y,z].map fun w=>D.int (numOf w)))=σ3 at e3
  have hl3:σ3.length=39:=(put_len' hσ3).trans hl2
  have k3:∀ j,j≠5→σ3.get j=σ2.get j:=fun j h=>put_ne' hσ3 h
  have g5:σ3.get 5=some (.own,.list ([x,y,z].map fun w=>D.int (numOf w))):=put_eq' hσ3 (by rw [hl2]; decide)
  have g1':σ3.get 1=some (.own,.list [.int c0,.int c1,.int c2,.int c3]):=(k3 1 (by decide)).trans ((k2 1 (by decide)).trans g1)
  have fr3:∀ j,6≤j→σ3.get j=none:=fun j hj=>by rw [k3 j (by exact Ne.symm (Nat.ne_of_lt hj)),k2 j (by lia)]; exact fr1 j (by exact Nat.le_of_add_left_le hj)
  obtain ⟨goal,hgp,e4⟩:=head4 (n:=n) hl3 g1' b0 (fr3 28 (by decide)) (fr3 29 (by decide))
  obtain ⟨e,he,rfl⟩:=tab_perms goal hgp
  have T:=tab_of he
  generalize hσ4:σ3.put 6 (.sh,.list (e.1.map .int))=σ4 at e4
  have hl4:σ4.length=39:=(put_len' hσ4).trans hl3
  have k4:∀ j,j≠6→σ4.get j=σ3.get j:=fun j h=>put_ne' hσ4 h
  have g6:σ4.get 6=some (.sh,.list (e.1.map .int)):=put_eq' hσ4 (by rw [hl3]; decide)
  have e5:(Ev G2.P (n+100)).ex s2_5 σ4=some (.next,(σ4.put 7 (.own,.idict [])).put 8 (.own,.list [])):=by
    unfold s2_5; exact r_tupl (r_os o_e (r_os (o_l rfl (ll rfl)) rfl)) rfl
  generalize hσ5:(σ4.put 7 (.own,.idict [])).put 8 (.own,.list [])=σ5 at e5
  have hl5:σ5.length=39:=(put_len' hσ5).trans ((len_put ..).trans hl4)
  have k5:∀ j,j≠7→j≠8→σ5.get j=σ4.get j:=fun j h h'=>(put_ne' hσ5 h').trans (put_ne h)
  have q7:σ5.get 7=some (.own,.idict []):=(put_ne' hσ5 (by decide)).trans (put_eq (by rw [hl4]; decide))
  have q8:σ5.get 8=some (.own,.list []):=put_eq' hσ5 (by rw [len_put,hl4]; decide)
  have q1:σ5.get 1=some (.own,.list [.int c0,.int c1,.int c2,.int c3]):=by rw [k5 1 (by decide) (by decide),k4 1 (by decide)]; exact g1'
  have q6:σ5.get 6=some (.sh,.list (e.1.map .int)):=(k5 6 (by decide) (by decide)).trans g6
  have q5:σ5.get 5=some (.own,.list ([x,y,z].map fun w=>D.int (numOf w))):=by rw [k5 5 (by decide) (by decide),k4 5 (by decide)]; exact g5
  generalize hσ6:σ5.put 5 (.sh,.list ([x,y,z].map fun w=>D.int (numOf w)))=σ6
  have hl6:σ6.length=39:=(put_len' hσ6).trans hl5
  have k6:∀ j,j≠5→σ6.get j=σ5.get j:=fun j h=>put_ne' hσ6 h
  have p5:σ6.get 5=some (.sh,.list (([x,y,z].map numOf).map .int)):=put_eq' hσ6 (by rw [hl5]; decide)
  have hX:stepEv (Ev G2.P (n+79+17)) (.call (.glob (.fn 120)) [(.var 6),(.var 5)] false) σ5=some (.list ((rulesI (N3 x y z) 0 e.2.1).map .int),σ6):=by
    have g:=gram2 (n+36) (numOf x) (numOf y) (numOf z) hgp
    rw [num3_N3,← rulesI_is,T.gram] at g
    have ra:=rd_any q5 (by decide) (show 5 < σ5.length by rw [hl5]; decide)
    simp only [x_call,x_glob,ev_s,Option.bind_some,fn_a,a_cons,a_one,x_var,q6,rd_sh,q5,ra,Option.map_some]
    rw [show n+79+17=n+36+60 from rfl]
    simp only [List.map_cons,List.map_nil]
    rw [g,← hσ6]; rfl
  have it6:=syms_ok (P:=G2.P) (n:=n+79) (σ:=σ5) (oc:=.own) (by decide) hX (by rw [hl6]; decide) ((k6 1 (by decide)).trans q1) (by rw [rulesI_len]; have:=T.stl; lia)
  obtain ⟨σ7,e6,n7,s7,l7,hl7',s8⟩:=loopS_ok (P:=G2.P) (n:=n+87) (σ:=σ6.put 1 (.sh,.list [.int c0,.int c1,.int c2,.int c3])) (s:=7) (p:=8) (y:=9) (x:=x) (w:=y) (z:=z) (st:=e.2.1) (v:=c0+(c1+(c2+c3))) rfl rfl rfl (by lia) (by rw [len_put,hl6]; decide) (by rw [len_put,hl6]; decide) (by rw [len_put,hl6]; decide) (by decide) (by decide) (by decide) hA T.stl
    (by simp [get_put,hl6,k6,q7]) (by simp [get_put,hl6,k6,q8])
  have e6':(Ev G2.P (n+100)).ex s2_6 σ5=some (.next,σ7):=by
    unfold s2_6
    rw [show n+100=n+99+1 from rfl,ex_s,s_for]
    have it6':items (Ev G2.P (n+99)) _ σ5=_:=it6
    rw [it6']
    exact e6
  have hl7:σ7.length=39:=by rw [n7.len,len_put,hl6]
  have k7:∀ j,j ∉ [1,5,7,8,9]→σ7.get j=σ4.get j:=fun j h=>by
    simp only [List.mem_cons,List.mem_nil_iff,or_false,not_or] at h
    rw [n7.get j (by simp [h]),get_put _ _ _ _ (by rw [hl6]; decide),if_neg h.1,k6 j h.2.1,k5 j (by simp [h]) (by simp [h])]
  have r1:σ7.get 1=some (.sh,.list [.int c0,.int c1,.int c2,.int c3]):=by rw [n7.get 1 (by decide),get_put _ _ _ _ (by rw [hl6]; decide),if_pos rfl]
  have r5:σ7.get 5=some (.sh,.list (([x,y,z].map numOf).map .int)):=by rw [n7.get 5 (by decide),get_put _ _ _ _ (by rw [hl6]; decide),if_neg (by decide)]; exact p5
  have r4:σ7.get 4=some (.sh,.list (strsL [x,y,z])):=by rw [k7 4 (by decide),k4 4 (by decide),k3 4 (by decide)]; exact g4
  have r6:σ7.get 6=some (.sh,.list (e.1.map .int)):=(k7 6 (by decide)).trans g6
  have fr7:∀ j,27≤j→σ7.get j=none:=fun j hj=>by rw [k7 j (by simp; lia),k4 j (by lia)]; exact fr3 j (by lia)
  have w7:=words_ok (P:=G2.P) (n:=n+48) (σ:=σ7) rfl rfl (a:=4) (b:=5) (s:=7) (o:=30) (i:=31) (ob:=.sh) (x:=x) (y:=y) (z:=z) (st:=e.2.1) (R:=e.2.2) hA hn (fun ws hws=>by
      obtain ⟨p,hp⟩:=List.mem_iff_getElem?.mp hws
      have:=(T.ok p ws hp).1; lia) T.rows (by have:=T.len; lia) (fun r hr=>(T.row r hr).2) r4 r5 s7 (fr7 30 (by decide)) (fr7 31 (by decide)) (by rw [hl7]; decide) (by rw [hl7]; decide) (by rw [hl7]; decide) (by decide)
  have e7:(Ev G2.P (n+100)).ex s2_7 σ7=some (.next,(σ7.put 7 (.sh,sidesD (N3 x y z) e.2.1)).put 10 (.own,.list (e.2.2.map fun r=>D.str (r.map (S3 x y z))))):=asg_of w7
  generalize hσ8:(σ7.put 7 (.sh,sidesD (N3 x y z) e.2.1)).put 10 (.own,.list (e.2.2.map fun r=>D.str (r.map (S3 x y z))))=σ8 at e7
  have hl8:σ8.length=39:=(put_len' hσ8).trans ((len_put ..).trans hl7)
  have k8:∀ j,j≠7→j≠10→σ8.get j=σ7.get j:=fun j h h'=>(put_ne' hσ8 h').trans (put_ne h)
  have r10:σ8.get 10=some (.own,.list (e.2.2.map fun r=>D.str (r.map (S3 x y z)))):=put_eq' hσ8 (by rw [len_put,hl7]; decide)
  obtain ⟨w0,ws,hw⟩:=List.exists_cons_of_ne_nil T.ne
  have hsz:szF e.2.2=w0.length:=by rw [hw]; rfl
  have i0:idxD (.list (e.2.2.map fun r=>D.str (r.map (S3 x y z)))) (.int 0)=some (.str (w0.map (S3 x y z))):=by rw [hw]; rfl
  have e8:(Ev G2.P (n+100)).ex s2_8 σ8=some (.next,(σ8.put 11 (.sh,.int (szF e.2.2:Nat))).put 12 (.own,.list [])):=by
    rw [hsz]
    unfold s2_8
    generalize (e.2.2.map fun r=>D.str (r.map (S3 x y z)))=L at *
    simp [r10,i0,pA_n,pA_c,line,peek,again]
  generalize hσ9:(σ8.put 11 (.sh,.int (szF e.2.2:Nat))).put 12 (.own,.list [])=σ9 at e8
  have hl9:σ9.length=39:=(put_len' hσ9).trans ((len_put ..).trans hl8)
  have k9:∀ j,j≠11→j≠12→σ9.get j=σ8.get j:=fun j h h'=>(put_ne' hσ9 h').trans (put_ne h)
  have t11:σ9.get 11=some (.sh,.int (szF e.2.2:Nat)):=(put_ne' hσ9 (by decide)).trans (put_eq (by rw [hl8]; decide))
  have t12:σ9.get 12=some (.own,.list []):=put_eq' hσ9 (by rw [len_put,hl8]; decide)
  have t4:σ9.get 4=some (.sh,.list (strsL [x,y,z])):=by rw [k9 4 (by decide) (by decide),k8 4 (by decide) (by decide)]; exact r4
  have e9:(Ev G2.P (n+100)).ex s2_9 σ9=some (.next,σ9.put 13 (.sh,.str [z,y,x])):=by
    have i0:idxD (.list (strsL [x,y,z])) (.int 0)=some (.str [x]):=rfl
    have i1:idxD (.list (strsL [x,y,z])) (.int 1)=some (.str [y]):=rfl
    have i2:idxD (.list (strsL [x,y,z])) (.int 2)=some (.str [z]):=rfl
    have a1:=strs_add (a:=[z]) (b:=[y]) (by simp)
    have a2:=strs_add (a:=[z]++[y]) (b:=[x]) (by simp)
    simp only [List.cons_append,List.nil_append] at a1 a2
    unfold s2_9
    generalize strsL [x,y,z]=L at *
    exact r_asg (o_v (r_bin (r_bin (r_idxv t4 r_lit i2) (r_idxv t4 r_lit i1) a1) (r_idxv t4 r_lit i0) a2) rfl)
  refine ⟨σ9.put 13 (.sh,.str [z,y,x]),c0,c1,c2,c3,x,y,z,e,?_,?_,?_,he,hA,hn,⟨by lia,b2.2⟩,⟨by lia,b3.2⟩⟩
  · rw [e1',show G2.b_law.drop 2=s2_2 :: s2_3 :: s2_4 :: s2_5 :: s2_6 :: s2_7 :: s2_8 :: s2_9 :: G2.b_law.drop 10 from rfl]
    exact xs_c e2 (xs_c e3 (xs_c e4 (xs_c e5 (xs_c e6' (xs_c e7 (xs_c e8 (xs_c e9 rfl)))))))
  · refine ⟨by simp [hl9],?_,?_,?_,?_,⟨.own,by decide,?_⟩,?_,?_,fun j hj=>?_⟩
    · simp [get_put,hl9,k9,k8,r1]
    · simp [get_put,hl9,t4]
    · rw [get_put _ _ _ _ (by simp [hl9]),if_neg (by decide),k9 5 (by decide) (by decide),k8 5 (by decide) (by decide)]; exact r5
    · simp [get_put,hl9,k9,k8,r6]
    · rw [get_put _ _ _ _ (by simp [hl9]),if_neg (by decide),k9 10 (by decide) (by decide),r10,List.map_map]; rfl
    · simp [get_put,hl9,t11]
    · rw [get_put _ _ _ _ (by simp [hl9]),if_pos rfl]; rfl
    · rw [get_put _ _ _ _ (by simp [hl9]),if_neg (by lia),k9 j (by lia) (by lia),k8 j (by lia) (by lia)]; exact fr7 j hj
  · simp [get_put,hl9,t12]
end
end Mine
end
section
set_option autoImplicit false
namespace Mine
noncomputable def firstW (w o:List Nat):Nat→Nat→Option Nat
  | 0,_=>none
  | f+1,k=>if w.Sublist (reps k o) then some k else firstW w o f (k+1)
theorem fW_c {w o:List Nat} {f k:Nat}:firstW w o (f+1) k=if w.Sublist (reps k o) then some k else firstW w o f (k+1):=rfl
theorem reps_len {α:Type} (k:Nat) (l:List α):(reps k l).length=k * l.length:=by
  unfold reps; rw [List.length_flatten,List.map_replicate,List.sum_replicate_nat]
theorem reps_mem {α:Type} {k:Nat} {l:List α} {x:α} (h:x∈reps k l):x∈l:=by
  unfold reps at h
  obtain ⟨a,ha,hx⟩:=List.mem_flatten.mp h
  rw [(List.mem_replicate.mp ha).2] at hx; exact hx
noncomputable def bF:List S:=[.asg 5 (.bin .mul (.lit (.int 2)) (.bin .sub (.bin .mul (.bi .len [(.var 1)]) (.var 4)) (.bi .len [(.var 0)]))),.unpk [6,7] (.ite (.cmp .eq (.bin .mod (.var 4) (.lit (.int 2))) (.lit (.int 1))) (.tup [(.var 0),(.bin .mul (.var 1) (.var 4))]) (.tup [(.bin .mul (.var 1) (.var 4)),(.var 0)])),.app 3 (.call (.glob (.fn 28)) [(.var 6),(.var 7),(.bin .add (.var 5) (.var 2))] false),.ite (.cmp .le (.idx (.var 3) (.neg (.lit (.int 1)))) (.var 5)) [.ret (.var 4)] []]
section
variable {P:List (Nat × FnDef)} {n:Nat} {σ:St}
structure First (σ:St) (w o:List Nat) (e:Nat) (A:List Int):Prop where
  len:σ.length=8
  g0:σ.get 0=some (.sh,.str w)
  g1:σ.get 1=some (.sh,.str o)
  g2:σ.get 2=some (.sh,.int (e:Nat))
  g3:σ.get 3=some (.bor,.list (A.map D.int))
theorem bF_ok (h21:P.lookup 21=some G2.f_substitution_cost) (h28:P.lookup 28=some G2.f_levenshtein_distance) {w o:List Nat} {e k:Nat} {A:List Int} (I:First σ w o e A) (hA:A.length≤1000) (gk:σ.get 4=some (.sh,.int (k:Nat)))
    (hw:∀ c∈w,c < 128) (hwl:w.length≤6) (ho:∀ c∈o,c < 128) (hol:o.length=3) (hk:k≤6) (he:e < 3) :
    ∃ σ' t,exs (Ev P (n+72)) bF σ=some (if w.Sublist (reps k o) then .ret (.int (k:Nat)) else .next,σ')∧First σ' w o e (A++[t]):=by
  have hl:=I.len
  have rl:=reps_len k o
  have rl3:(reps k o).length≤18:=by rw [rl,hol]; exact Nat.mul_le_of_le_div 3 k 18 hk
  have rm:∀ c∈reps k o,c < 128:=fun c hc=>ho c (reps_mem hc)
  have m1:binD .mul (.int (o.length:Nat)) (.int (k:Nat))=some (.int ((o.length:Int) * k)):=b_mul (sml_of (show o.length < 2 ^ 60 from Nat.lt_of_le_of_lt (Nat.le_of_eq hol) (by decide))) (sml_of (show k < 2 ^ 60 from Nat.lt_of_le_of_lt hk (by decide)))
  have kl:(o.length:Int) * k=((reps k o).length:Nat):=by rw [rl,Nat.mul_comm]; simp
  rw [kl] at m1
  have m2:binD .mul (.int 2) (.int (((reps k o).length:Int) - w.length))=some (.int (2 * (((reps k o).length:Int) - w.length))):=b_mul rfl (sml_of (na_sub (Nat.lt_of_le_of_lt rl3 (by decide)) (Nat.lt_of_le_of_lt hwl (by decide))))
  have m3:binD .mul (.str o) (.int (k:Nat))=some (.str (reps k o)):=by
    simp only [binD,addD_int,addD_str,addD_list,addD_tup,mulD_int,mulD_str,mulD_list,int2_int]
    rw [if_pos]
    · simp
    · rw [Bool.and_eq_true]
      exact ⟨sml_of (show k < 2 ^ 60 from Nat.lt_of_le_of_lt hk (by decide)),decide_eq_true (Nat.le_trans (Nat.le_of_eq ((Nat.mul_comm _ _).trans rl.symm)) (Nat.le_trans rl3 (by decide)))⟩
  generalize hb:reps k o=b at *
  generalize hd:2 * ((b.length:Int) - w.length)=due at *
  have s1:(Ev P (n+72)).ex (.asg 5 (.bin .mul (.lit (.int 2)) (.bin .sub (.bin .mul (.bi .len [(.var 1)]) (.var 4)) (.bi .len [(.var 0)])))) σ=some (.next,σ.put 5 (.sh,.int due)):=by
    simp [I.g0,I.g1,gk,m1,m2,peek,again]
  generalize hσ1:σ.put 5 (.sh,.int due)=σ1 at s1
  have hl1:σ1.length=8:=(put_len' hσ1).trans hl
  have k1:∀ j,j≠5→σ1.get j=σ.get j:=fun j h=>put_ne' hσ1 h
  have a5:σ1.get 5=some (.sh,.int due):=put_eq' hσ1 (by rw [hl]; decide)
  have a0:=(k1 0 (by decide)).trans I.g0
  have a1:=(k1 1 (by decide)).trans I.g1
  have a2:=(k1 2 (by decide)).trans I.g2
  have a3:=(k1 3 (by decide)).trans I.g3
  have a4:=(k1 4 (by decide)).trans gk
  obtain ⟨i,hi,_,ei⟩:=m_ex (c:=(k:Int)) (k:=2) (by decide)
  have ei':binD .mod (.int (k:Nat)) (.int 2)=some (.int (i:Nat)):=ei
  have s2:∃ p q,((p=w∧q=b)∨(p=b∧q=w))∧(Ev P (n+72)).ex (.unpk [6,7] (.ite (.cmp .eq (.bin .mod (.var 4) (.lit (.int 2))) (.lit (.int 1))) (.tup [(.var 0),(.bin .mul (.var 1) (.var 4))]) (.tup [(.bin .mul (.var 1) (.var 4)),(.var 0)]))) σ1=some (.next,(σ1.put 6 (.sh,.str p)).put 7 (.sh,.str q)):=by
    match i,hi with
    | 0,_=>
      refine ⟨b,w,.inr ⟨rfl,rfl⟩,?_⟩
      simp [a0,a1,a4,ei',m3,iE1,iE2,iE3,iE4,iE5,iE6,iE7,iE8,iE9,bindTup,bT_v,bT_t,pA_n,pA_c,line]
    | 1,_=>
      refine ⟨w,b,.inl ⟨rfl,rfl⟩,?_⟩
      simp [a0,a1,a4,ei',m3,iE1,iE2,iE3,iE4,iE5,iE6,iE7,iE8,iE9,bindTup,bT_v,bT_t,pA_n,pA_c,line]
  obtain ⟨p,q,hpq,s2⟩:=s2
  generalize hσ2:(σ1.put 6 (.sh,.str p)).put 7 (.sh,.str q)=σ2 at s2
  have hl2:σ2.length=8:=(put_len' hσ2).trans ((len_put ..).trans hl1)
  have k2:∀ j,j≠6→j≠7→σ2.get j=σ1.get j:=fun j h h'=>(put_ne' hσ2 h').trans (put_ne h)
  have b6:σ2.get 6=some (.sh,.str p):=(put_ne' hσ2 (by decide)).trans (put_eq (by rw [hl1]; decide))
  have b7:σ2.get 7=some (.sh,.str q):=put_eq' hσ2 (by rw [len_put,hl1]; decide)
  have b5:=(k2 5 (by decide) (by decide)).trans a5
  have b2:=(k2 2 (by decide) (by decide)).trans a2
  have b3:=(k2 3 (by decide) (by decide)).trans a3
  have b4:=(k2 4 (by decide) (by decide)).trans a4
  have pq:(∀ c∈p,c < 128)∧(∀ c∈q,c < 128)∧p.length≤50∧q.length≤50:=by
    rcases hpq with ⟨rfl,rfl⟩ | ⟨rfl,rfl⟩
    · exact ⟨hw,rm,by lia,by lia⟩
    · exact ⟨rm,hw,by lia,by lia⟩
  have cl:=c28 (P:=P) (n:=n) h21 h28 (a:=p) (b:=q) (m:=due+e) pq.1 pq.2.1 pq.2.2.1 pq.2.2.2
  let t:Int:=lv p q (due+e)
  have ts:=told_spec (a:=w) (b:=b) (e:=(e:Int)) (by lia) (by lia) (by lia) t (by
    rw [hd]
    rcases hpq with ⟨rfl,rfl⟩ | ⟨rfl,rfl⟩
    · exact .inl rfl
    · exact .inr rfl)
  rw [hd] at ts
  have s3:(Ev P (n+72)).ex (.app 3 (.call (.glob (.fn 28)) [(.var 6),(.var 7),(.bin .add (.var 5) (.var 2))] false)) σ2=some (.next,σ2.put 3 (.bor,.list ((A++[t]).map D.int))):=by
    have hz:(A.map D.int).length < line:=by rw [List.length_map]; unfold line; lia
    have fin:(A.map D.int)++[D.int t]=(A++[t]).map D.int:=by simp
    rw [← fin]
    generalize A.map D.int=AL at *
    simp [b3,b5,b6,b7,b2,cl,isL_o,ap_o,ap_b,hz]
    rfl
  generalize hσ3:σ2.put 3 (.bor,.list ((A++[t]).map D.int))=σ3 at s3
  have hl3:σ3.length=8:=(put_len' hσ3).trans hl2
  have k3:∀ j,j≠3→σ3.get j=σ2.get j:=fun j h=>put_ne' hσ3 h
  have d3:σ3.get 3=some (.bor,.list ((A++[t]).map D.int)):=put_eq' hσ3 (by rw [hl2]; decide)
  have d5:=(k3 5 (by decide)).trans b5
  have d4:=(k3 4 (by decide)).trans b4
  have il:=idx_last (A:=A) (t:=t)
  have s4:(Ev P (n+72)).ex (.ite (.cmp .le (.idx (.var 3) (.neg (.lit (.int 1)))) (.var 5)) [.ret (.var 4)] []) σ3=some (if w.Sublist b then .ret (.int (k:Nat)) else .next,σ3):=by
    generalize (A++[t]).map D.int=AL at *
    by_cases h:w.Sublist b
    · have:t≤due:=by have:=ts.2.mpr h; lia
      rw [if_pos h]
      simp [d3,d4,d5,il,this,iE1,iE2,iE3,iE4,iE5,iE6,iE7,iE8,iE9,negD,peek,again]
    · have:¬ t≤due:=fun h'=>h (ts.2.mp (by lia))
      rw [if_neg h]
      simp [d3,d4,d5,il,this,iE1,iE2,iE3,iE4,iE5,iE6,iE7,iE8,iE9,negD,peek,again]
  refine ⟨σ3,t,?_,⟨hl3,?_,?_,?_,d3⟩⟩
  · unfold bF
    rw [xs_cons,s1,then_next,xs_cons,s2,then_next,xs_cons,s3,then_next,xs_cons,s4]
    by_cases h:w.Sublist b
    · rw [if_pos h]; rfl
    · rw [if_neg h]; rfl
  · rw [k3 0 (by decide),k2 0 (by decide) (by decide)]; exact a0
  · rw [k3 1 (by decide),k2 1 (by decide) (by decide)]; exact a1
  · rw [k3 2 (by decide)]; exact b2
theorem forF_ok (h21:P.lookup 21=some G2.f_substitution_cost) (h28:P.lookup 28=some G2.f_levenshtein_distance) {w o:List Nat} {e:Nat} (hw:∀ c∈w,c < 128) (hwl:w.length≤6) (ho:∀ c∈o,c < 128) (hol:o.length=3) (he:e < 3):∀ (f k:Nat) (A:List Int) (σ:St) (j:Nat),First σ w o e A→A.length+f≤1000→k+f≤7→firstW w o f k=some j→
    ∃ (σ':St) (A':List Int),forL (Ev P (n+72)) (.v 4) bF ((List.range' k f).map fun i:Nat=>D.int i) σ=some (.ret (.int (j:Nat)),σ')∧A'.length≤A.length+f∧σ'.get 3=some (.bor,.list (A'.map D.int))
  | 0,k,A,σ,j,_,_,_,hj=>by exact nos hj
  | f+1,k,A,σ,j,I,hA,hk,hj=>by
    have hl:=I.len
    have I1:First (σ.put 4 (.sh,.int (k:Nat))) w o e A:=⟨by rw [len_put,hl],by simp [get_put,hl,I.g0],by simp [get_put,hl,I.g1],by simp [get_put,hl,I.g2],by simp [get_put,hl,I.g3]⟩
    obtain ⟨σ1,t,e1,I2⟩:=bF_ok (P:=P) (n:=n) h21 h28 I1 (by exact Nat.le_of_add_right_le hA) (k:=k) (by simp [get_put,hl]) hw hwl ho hol (by lia) he
    rw [List.range'_succ,List.map_cons,f_cons]
    simp only [bT_v,bT_t,Option.bind_some,e1]
    rw [fW_c] at hj
    by_cases h:w.Sublist (reps k o)
    · rw [if_pos h] at hj ⊢
      obtain rfl:=some1 hj
      exact ⟨σ1,A++[t],rfl,by simp,I2.g3⟩
    · rw [if_neg h] at hj ⊢
      obtain ⟨σ2,A',e2,h1,h2⟩:=forF_ok h21 h28 hw hwl ho hol he f (k+1) (A++[t]) σ1 j I2 (by simp; lia) (by lia) hj
      refine ⟨σ2,A',?_,by simp at h1; lia,h2⟩
      rw [then_next]; exact e2
theorem c132' (h21:P.lookup 21=some G2.f_substitution_cost) (h28:P.lookup 28=some G2.f_levenshtein_distance) (h132:P.lookup 132=some G2.f_law_first) {w o:List Nat} {e j:Nat} {A:List Int} (hw:∀ c∈w,c < 128) (hwl:w.length≤6) (ho:∀ c∈o,c < 128) (hol:o.length=3) (he:e < 3) (hA:A.length≤900) (hj:firstW w o (w.length+1) 0=some j) :
    ∃ A':List Int,A'.length≤A.length+7∧(Ev P (n+74)).call 132 [(.sh,.str w),(.sh,.str o),(.sh,.int (e:Nat)),(.bor,.list (A.map D.int))]=some (.int (j:Nat),some (.bor,.list (A'.map D.int))):=by
  have I:First (start G2.f_law_first [(.sh,.str w),(.sh,.str o),(.sh,.int (e:Nat)),(.bor,.list (A.map D.int))]) w o e A:=⟨rfl,rfl,rfl,rfl,rfl⟩
  obtain ⟨σ',A',e1,h1,h2⟩:=forF_ok (P:=P) (n:=n) h21 h28 hw hwl ho hol he (w.length+1) 0 A _ j I (by lia) (by lia) hj
  refine ⟨A',by lia,?_⟩
  have it:items (Ev P (n+72)) (.bi .range [(.bin .add (.bi .len [(.var 0)]) (.lit (.int 1)))]) (start G2.f_law_first [(.sh,.str w),(.sh,.str o),(.sh,.int (e:Nat)),(.bor,.list (A.map D.int))])=some ((List.range' 0 (w.length+1)).map fun i:Nat=>D.int i,start G2.f_law_first [(.sh,.str w),(.sh,.str o),(.sh,.int (e:Nat)),(.bor,.list (A.map D.int))]):=by
    have g0:=I.g0
    generalize start G2.f_law_first [(.sh,.str w),(.sh,.str o),(.sh,.int (e:Nat)),(.bor,.list (A.map D.int))]=τ at *
    rw [it_plain rfl]
    have hi:=items_range (k:=w.length+1) (by lia)
    have hb:biD .range [.int ((w.length:Int)+1)]=some (.rng 0 ((w.length+1:Nat):Int) 1):=by
      simp only [biD,one_one,two_two,onLst_list,rangeD_1,rangeD_2,rangeD_3,int2_int,minD,Option.bind_some,Option.map_some]
      rw [if_pos (sml_of (by lia))]; rfl
    simp [g0,hb,peek]
    exact hi
  have ex:exs (Ev P (n+73)) G2.f_law_first.body (start G2.f_law_first [(.sh,.str w),(.sh,.str o),(.sh,.int (e:Nat)),(.bor,.list (A.map D.int))])=some (.ret (.int (j:Nat)),σ'):=by
    rw [show G2.f_law_first.body=[.for (.v 4) (.bi .range [(.bin .add (.bi .len [(.var 0)]) (.lit (.int 1)))]) bF,.ret (.neg (.lit (.int 1)))] from rfl]
    rw [xs_cons,show n+73=n+72+1 from rfl,ex_s,s_for,it]
    have e1':forL (Ev P (n+72)) (.v 4) bF _ _=_:=e1
    simp only [Option.bind_some,e1']; rfl
  have:=call_of (P:=P) (n:=n+73) h132 rfl ex (by rw [show G2.f_law_first.np - 1=3 from rfl,h2]; rfl)
  rw [show G2.f_law_first.np - 1=3 from rfl,h2] at this
  exact this
end
end Mine
end
section
set_option autoImplicit false
namespace Mine
noncomputable def TAB2:List (List Int × List Nat × List Nat × Nat × Nat × Own):=[
  ⟨[0,1,2,3],[0],[0,0,0,0],0,1,.sh⟩,
  ⟨[0,1,3,2],[1],[1,0,0,0],1,1,.sh⟩,
  ⟨[0,2,1,3],[1],[1,0,0,0],1,1,.sh⟩,
  ⟨[0,2,3,1],[2],[1,1,0,0],2,1,.sh⟩,
  ⟨[0,3,1,2],[1],[2,0,0,0],2,3,.sh⟩,
  ⟨[0,3,2,1],[2,2],[2,1,0,0],3,8,.sh⟩,
  ⟨[1,0,2,3],[1],[1,0,0,0],1,1,.sh⟩,
  ⟨[1,0,3,2],[1,2],[1,1,0,0],2,4,.sh⟩,
  ⟨[1,2,0,3],[2],[1,1,0,0],2,1,.sh⟩,
  ⟨[1,2,3,0],[3],[1,1,1,0],3,1,.sh⟩,
  ⟨[1,3,0,2],[2,2],[2,1,0,0],3,8,.sh⟩,
  ⟨[1,3,2,0],[3,3,3],[2,1,1,0],4,15,.sh⟩,
  ⟨[2,0,1,3],[1],[2,0,0,0],2,3,.sh⟩,
  ⟨[2,0,3,1],[2,2],[2,1,0,0],3,8,.sh⟩,
  ⟨[2,1,0,3],[2,2],[2,1,0,0],3,8,.sh⟩,
  ⟨[2,1,3,0],[3,3,3],[2,1,1,0],4,15,.sh⟩,
  ⟨[2,3,0,1],[3,2],[2,2,0,0],4,20,.sh⟩,
  ⟨[2,3,1,0],[4,3,3,4,3],[2,2,1,0],5,75,.sh⟩,
  ⟨[3,0,1,2],[1],[3,0,0,0],3,10,.sh⟩,
  ⟨[3,0,2,1],[2,2,2],[3,1,0,0],4,45,.sh⟩,
  ⟨[3,1,0,2],[2,2,2],[3,1,0,0],4,45,.sh⟩,
  ⟨[3,1,2,0],[3,3,3,3,3,3],[3,1,1,0],5,126,.sh⟩,
  ⟨[3,2,0,1],[3,2,3,3,2],[3,2,0,0],5,175,.sh⟩,
  ⟨[3,2,1,0],[4,3,3,4,3,4,4,4,3,3,3,4,3,4,4,3],[3,2,1,0],6,896,.sh⟩]
theorem reps_map {α β:Type} (f:α→β) (k:Nat) (l:List α):reps k (l.map f)=(reps k l).map f:=by
  unfold reps; rw [List.map_flatten,List.map_replicate]
theorem firstW_map {x y z:Nat} (hn:[x,y,z].Nodup) {r o:List Nat} (hr:∀ g∈r,g < 3) (ho:∀ g∈o,g < 3):∀ f k:Nat,firstW (r.map (S3 x y z)) (o.map (S3 x y z)) f k=firstW r o f k
  | 0,_=>rfl
  | f+1,k=>by
    have h:=sub_map hn hr (b:=reps k o) (fun g hg=>ho g (reps_mem hg))
    rw [fW_c,fW_c,firstW_map hn hr ho f (k+1),reps_map]
    by_cases q:r.Sublist (reps k o)
    · rw [if_pos q,if_pos (h.mpr q)]
    · rw [if_neg q,if_neg (fun q'=>q (h.mp q'))]
theorem q21:G2.P.lookup 21=some G2.f_substitution_cost:=by kernel_rfl
theorem q28:G2.P.lookup 28=some G2.f_levenshtein_distance:=by kernel_rfl
theorem q132:G2.P.lookup 132=some G2.f_law_first:=by kernel_rfl
noncomputable def tab2B (e:List Int × Steps × List (List Nat)) (t:List Int × List Nat × List Nat × Nat × Nat × Own):Bool:=decide (t.1=e.1) && decide (e.2.2.map (fun r=>firstW r [2,1,0] (r.length+1) 0)=t.2.1.map some) && decide (t.2.2.2.1=szF e.2.2)
theorem tab2_all:(TAB.all fun e=>TAB2.any fun t=>tab2B e t)=true:=by decide +kernel
theorem tab2_of {e:List Int × Steps × List (List Nat)} (h:e∈TAB):∃ t∈TAB2,t.1=e.1∧e.2.2.map (fun r=>firstW r [2,1,0] (r.length+1) 0)=t.2.1.map some∧t.2.2.2.1=szF e.2.2:=by
  have h1:=List.all_eq_true.mp tab2_all e h
  obtain ⟨t,ht,hb⟩:=List.any_eq_true.mp h1
  simp only [tab2B,Bool.and_eq_true,decide_eq_true_eq] at hb
  exact ⟨t,ht,hb.1.1,hb.1.2,hb.2⟩
section
variable {n:Nat} {σ:St}
theorem a_io {F:Funs} {i:Nat} {d:D} {τ:St} (h:τ.get i=some (.own,d)):argsE F true [.var i] τ=some ([(.bor,d)],τ):=by
  show (ownGet (τ.get i)).map _=_
  rw [h]; rfl
noncomputable def eFirst:E:=.call (.glob (.fn 132)) [(.var 32),(.var 13),(.bin .mod (.bin .fdiv (.idx (.var 1) (.lit (.int 2))) (.lit (.int 125))) (.lit (.int 3))),(.var 12)] true
theorem elFirst_ok {P:List (Nat × FnDef)} (h21:P.lookup 21=some G2.f_substitution_cost) (h28:P.lookup 28=some G2.f_levenshtein_distance) (h132:P.lookup 132=some G2.f_law_first) {c0 c1 c2 c3:Int} (h0:0≤c2) (h1:c2 < 2 ^ 40) {w o:List Nat} {j:Nat} {A:List Int} (hl:σ.length=39)
    (g1:σ.get 1=some (.sh,.list [.int c0,.int c1,.int c2,.int c3])) (g13:σ.get 13=some (.sh,.str o)) (g12:σ.get 12=some (.own,.list (A.map D.int))) (g32:σ.get 32=some (.sh,.str w)) (hw:∀ c∈w,c < 128) (hwl:w.length≤6) (ho:∀ c∈o,c < 128) (hol:o.length=3) (hA:A.length≤900) (hj:firstW w o (w.length+1) 0=some j) :
    ∃ A':List Int,A'.length≤A.length+7∧stepEv (Ev P (n+74)) eFirst σ=some (.int (j:Nat),σ.put 12 (.own,.list (A'.map D.int))):=by
  obtain ⟨e,he,_,f1,f2⟩:=dm_ex (c:=c2) (m:=125) (k:=3) h0 h1 (by decide) (by decide) (by decide)
  have f1':binD .fdiv (.int c2) (.int 125)=some (.int (c2.fdiv 125)):=f1
  have f2':binD .mod (.int (c2.fdiv 125)) (.int 3)=some (.int (e:Nat)):=f2
  have i2:idxD (.list [.int c0,.int c1,.int c2,.int c3]) (.int 2)=some (.int c2):=rfl
  obtain ⟨A',hA',cl⟩:=c132' (P:=P) (n:=n) h21 h28 h132 (A:=A) hw hwl ho hol he hA hj
  refine ⟨A',hA',?_⟩
  unfold eFirst
  have ai:=a_io (F:=Ev P (n+74)) g12
  simp [g1,g13,g32,ai,i2,f1',f2',cl,peek,again,bE_1,bE_c,b1_v]
theorem loopFirst {P:List (Nat × FnDef)} (h21:P.lookup 21=some G2.f_substitution_cost) (h28:P.lookup 28=some G2.f_levenshtein_distance) (h132:P.lookup 132=some G2.f_law_first) {c0 c1 c2 c3:Int} (h0:0≤c2) (h1:c2 < 2 ^ 40) {o:List Nat} (hl:σ.length=39)
    (g1:σ.get 1=some (.sh,.list [.int c0,.int c1,.int c2,.int c3])) (g13:σ.get 13=some (.sh,.str o)) (ho:∀ c∈o,c < 128) (hol:o.length=3):∀ (L:List (List Nat × Nat)) (A:List Int) (acc:List D) (τ:St),(∀ p∈L,(∀ c∈p.1,c < 128)∧p.1.length≤6∧firstW p.1 o (p.1.length+1) 0=some p.2)→Near [12,32] σ τ→τ.get 12=some (.own,.list (A.map D.int))→A.length+7 * L.length≤900→acc.length+L.length≤1000→
    ∃ (τ':St) (A':List Int),loopC (Ev P (n+75)) (.v 32) [] (compG (Ev P (n+75)) eFirst []) (L.map fun p=>D.str p.1) τ acc=some (acc++L.map (fun p=>D.int (p.2:Nat)),τ')∧Near [12,32] σ τ'∧τ'.get 12=some (.own,.list (A'.map D.int))∧A'.length≤A.length+7 * L.length
  | [],A,acc,τ,_,hn,g,_,_=>⟨τ,A,by simp [lC_n],hn,g,by simp⟩
  | p :: L,A,acc,τ,hp,hn,g,hA,hz=>by
    rw [List.length_cons] at hA hz
    have lt:τ.length=39:=hn.len.trans hl
    obtain ⟨p1,p2,p3⟩:=hp p List.mem_cons_self
    have n1:Near [12,32] σ (τ.put 32 (.sh,.str p.1)):=hn.put (by simp) _
    obtain ⟨A1,hA1,e1⟩:=elFirst_ok (P:=P) (n:=n) h21 h28 h132 h0 h1 (σ:=τ.put 32 (.sh,.str p.1)) (w:=p.1) (o:=o) (j:=p.2) (A:=A) (by rw [len_put,lt]) ((n1.get 1 (by decide)).trans g1) ((n1.get 13 (by decide)).trans g13) (by simp [get_put,lt,g]) (by simp [get_put,lt]) p1 p2 ho hol (by exact Nat.le_of_add_right_le hA) p3
    have n2:Near [12,32] σ ((τ.put 32 (.sh,.str p.1)).put 12 (.own,.list (A1.map D.int))):=n1.put (by simp) _
    obtain ⟨τ',A',e2,n3,g3,h3⟩:=loopFirst h21 h28 h132 h0 h1 hl g1 g13 ho hol L A1 (acc++[D.int (p.2:Nat)]) _ (fun q hq=>hp q (List.mem_cons_of_mem _ hq)) n2 (by simp [get_put,lt]) (by lia) (by simp; lia)
    refine ⟨τ',A',?_,n3,g3,by rw [List.length_cons]; lia⟩
    rw [List.map_cons,List.map_cons]
    have cg:compG (Ev P (n+75)) eFirst [] (τ.put 32 (.sh,.str p.1)) acc=some (acc++[D.int (p.2:Nat)],(τ.put 32 (.sh,.str p.1)).put 12 (.own,.list (A1.map D.int))):=by
      show ((Ev P (n+75)).ev eFirst _).bind _=_
      rw [ev_s,e1]
      exact if_pos (by unfold line; lia)
    rw [lc_true rfl all_nil cg,e2]; simp
theorem firsts_ok {c0 c1 c2 c3:Int} {x y z:Nat} {goal:List Int} {R:List (List Nat)} {sz:Nat} {fs:List Nat} (B:Base2 σ c0 c1 c2 c3 x y z goal R sz) (g12:σ.get 12=some (.own,.list [])) (hA:∀ w∈[x,y,z],w∈ALPH) (hn:[x,y,z].Nodup) (h0:0≤c2) (h1:c2 < 2 ^ 40)
    (hR:R.length≤16) (hr:∀ r∈R,r.length≤6∧∀ g∈r,g < 3) (hf:R.map (fun r=>firstW r [2,1,0] (r.length+1) 0)=fs.map some) :
    ∃ (σ':St) (A:List Int),(Ev G2.P (n+100)).ex s2_10 σ=some (.next,σ')∧Base2 σ' c0 c1 c2 c3 x y z goal R sz∧σ'.get 14=some (.own,.list (fs.map fun f:Nat=>D.int f))∧σ'.get 12=some (.own,.list (A.map D.int))∧A.length≤112:=by
  have hl:=B.len
  obtain ⟨o10,ho10,g10⟩:=B.g10
  have hlen:fs.length=R.length:=by have:=congrArg List.length hf; simpa using this.symm
  let L:List (List Nat × Nat):=(R.map fun r=>r.map (S3 x y z)).zip fs
  have L1:L.map (fun p=>D.str p.1)=(R.map fun r=>r.map (S3 x y z)).map D.str:=by
    rw [show (fun p:List Nat × Nat=>D.str p.1)=D.str ∘ Prod.fst from rfl,← List.map_map,List.map_fst_zip (by rw [List.length_map]; exact Nat.le_of_eq (id (Eq.symm hlen)))]
  have L2:L.map (fun p=>D.int (p.2:Nat))=fs.map fun f:Nat=>D.int f:=by
    rw [show (fun p:List Nat × Nat=>D.int (p.2:Nat))=(fun f:Nat=>D.int f) ∘ Prod.snd from rfl,← List.map_map,List.map_snd_zip (by rw [List.length_map]; exact Nat.le_of_eq hlen)]
  have Ll:L.length=R.length:=by show ((R.map fun r=>r.map (S3 x y z)).zip fs).length=_; rw [List.length_zip,List.length_map]; lia
  have it:=it_list (P:=G2.P) (n:=n+97) (σ:=σ) ho10 g10 (by rw [hl]; decide)
  have nb:Near [10] σ (σ.put 10 (.sh,.list ((R.map fun r=>r.map (S3 x y z)).map D.str))):=(Near.refl _ _).put (by simp) _
  have q12:(σ.put 10 (.sh,.list ((R.map fun r=>r.map (S3 x y z)).map D.str))).get 12=some (.own,.list (([]:List Int).map D.int)):=(nb.get 12 (by decide)).trans g12
  have q10:(σ.put 10 (.sh,.list ((R.map fun r=>r.map (S3 x y z)).map D.str))).get 10=some (.sh,.list ((R.map fun r=>r.map (S3 x y z)).map D.str)):=by rw [get_put _ _ _ _ (by rw [hl]; decide),if_pos rfl]
  generalize σ.put 10 (.sh,.list ((R.map fun r=>r.map (S3 x y z)).map D.str))=σ1 at *
  have hl1:σ1.length=39:=nb.len.trans hl
  obtain ⟨τ,A,e1,n1,a12,hA'⟩:=loopFirst (P:=G2.P) (n:=n+23) (σ:=σ1) q21 q28 q132 h0 h1 (o:=[2,1,0].map (S3 x y z)) hl1 ((nb.get 1 (by decide)).trans B.g1) ((nb.get 13 (by decide)).trans B.g13) (map128 hA _) rfl L [] [] σ1 (fun p hp=>by
      obtain ⟨i,hi⟩:=List.mem_iff_getElem?.mp hp
      obtain ⟨a1,a2⟩:=List.getElem?_zip_eq_some.mp hi
      rw [List.getElem?_map] at a1
      cases hr1:R[i]? with
      | none=>rw [hr1] at a1; exact nos a1
      | some r=>
        rw [hr1] at a1
        have pe:p.1=r.map (S3 x y z):=(Option.some.inj a1).symm
        have hm:=hr r (List.mem_of_getElem? hr1)
        rw [pe,List.length_map]
        refine ⟨map128 hA r,hm.1,?_⟩
        rw [firstW_map hn hm.2 (by decide)]
        have h3:=congrArg (fun l=>l[i]?) hf
        simp only [List.getElem?_map,hr1,a2,Option.map_some] at h3
        exact Option.some.inj h3) (.refl _ _) q12 (by rw [Ll]; simp; lia) (by rw [Ll]; simp; lia)
  rw [L1,L2,List.nil_append] at e1
  have g32:σ1.get 32=none:=(nb.get 32 (by decide)).trans (B.free 32 (by decide))
  have n2:Near [12] σ1 (τ.del 32):=by
    have:=n1.del (i:=32) g32
    rwa [show List.filter (fun x=>decide (x≠32)) [12,32]=[12] from rfl] at this
  have a12':(τ.del 32).get 12=some (.own,.list (A.map D.int)):=by rw [St.get_del,if_neg (by decide)]; exact a12
  have hl2:(τ.del 32).length=39:=n2.len.trans hl1
  have st:stepO (Ev G2.P (n+98)) (.comp eFirst [(.v 32,.var 10,[])]) σ=some (.own,.list (fs.map fun f:Nat=>D.int f),τ.del 32):=by
    rw [o_comp,compG_cons it,e1]; rfl
  have e10:(Ev G2.P (n+100)).ex s2_10 σ=some (.next,(τ.del 32).put 14 (.own,.list (fs.map fun f:Nat=>D.int f))):=asg_of st
  have n3:Near [12,10,14] σ ((τ.del 32).put 14 (.own,.list (fs.map fun f:Nat=>D.int f))):=((nb.mono (by simp)).trans (n2.mono (by simp))).put (by simp) _
  refine ⟨_,A,e10,?_,?_,?_,by rw [Ll] at hA'; simp at hA'; lia⟩
  · have hq:((τ.del 32).put 14 (.own,.list (fs.map fun f:Nat=>D.int f))).get 10=some (.sh,.list ((R.map fun r=>r.map (S3 x y z)).map D.str)):=by
      rw [get_put _ _ _ _ (by rw [hl2]; decide),if_neg (by decide),n2.get 10 (by decide)]; exact q10
    have g:∀ j,j ∉ [12,10,14]→_=σ.get j:=fun j h=>n3.get j h
    exact ⟨n3.len.trans hl,(g 1 (by decide)).trans B.g1,(g 4 (by decide)).trans B.g4,(g 5 (by decide)).trans B.g5,(g 6 (by decide)).trans B.g6,⟨.sh,by decide,hq⟩,(g 11 (by decide)).trans B.g11,(g 13 (by decide)).trans B.g13,fun j hj=>(g j (by simp; lia)).trans (B.free j hj)⟩
  · rw [get_put _ _ _ _ (by rw [hl2]; decide),if_pos rfl]
  · rw [get_put _ _ _ _ (by rw [hl2]; decide),if_neg (by decide)]; exact a12'
end
end Mine
end
section
set_option autoImplicit false
set_option maxRecDepth 100000
namespace Mine
noncomputable def stR (a:Nat→Option Slot) (t:List Int × List Nat × List Nat × Nat × Nat × Own):St:=[a 0,a 1,a 2,a 3,a 4,a 5,some (.sh,.list (t.1.map .int)),a 7,a 8,a 9,a 10,some (.sh,.int (t.2.2.2.1:Nat)),a 12,a 13,some (.own,.list (t.2.1.map fun f:Nat=>D.int f)),a 15,a 16,a 17,a 18,a 19,a 20,a 21,a 22,a 23,a 24,a 25,a 26,a 27,a 28,a 29,a 30,a 31,a 32,none,none,none,a 36,a 37,a 38]
noncomputable def stR' (a:Nat→Option Slot) (t:List Int × List Nat × List Nat × Nat × Nat × Own):St:=[a 0,a 1,a 2,a 3,a 4,a 5,some (.sh,.list (t.1.map .int)),a 7,a 8,a 9,a 10,some (.sh,.int (t.2.2.2.1:Nat)),a 12,a 13,some (.sh,.list (t.2.1.map fun f:Nat=>D.int f)),some (t.2.2.2.2.2,.list (t.2.2.1.map fun f:Nat=>D.int f)),some (.sh,.int (t.2.2.2.1:Nat)),some (.sh,.int (t.2.2.2.2.1:Nat)),a 18,a 19,a 20,a 21,a 22,a 23,a 24,a 25,a 26,a 27,a 28,a 29,a 30,a 31,a 32,none,none,none,a 36,a 37,a 38]
theorem rounds_k (n:Nat) (a:Nat→Option Slot):∀ t∈TAB2,exs (Ev G2.P (n+100)) [s2_11,s2_12] (stR a t)=some (.next,stR' a t):=by
  intro t ht
  simp only [TAB2,List.mem_cons,List.mem_nil_iff,or_false] at ht
  rcases ht with rfl | rfl | rfl | rfl | rfl | rfl | rfl | rfl | rfl | rfl | rfl | rfl | rfl | rfl | rfl | rfl | rfl | rfl | rfl | rfl | rfl | rfl | rfl | rfl <;> kernel_rfl
end Mine
end
section
set_option autoImplicit false
namespace Mine
theorem explode (σ:St):σ=(List.range σ.length).map σ.get:=by
  apply List.ext_getElem
  · simp
  · intro i h1 h2
    rw [List.getElem_map,List.getElem_range]
    unfold St.get
    rw [List.getElem?_eq_getElem h1]
    cases σ[i] <;> rfl
structure Mid2 (σ:St) (c0 c1 c2 c3:Int) (x y z:Nat) (goal:List Int) (R:List (List Nat)) (sz:Nat) (fs:List Nat):Prop where
  base:Base2 σ c0 c1 c2 c3 x y z goal R sz
  g12:∃ A:List Int,A.length≤112∧σ.get 12=some (.own,.list (A.map D.int))
  g14:σ.get 14=some (.sh,.list (fs.map fun f:Nat=>D.int f))
section
variable {n:Nat} {σ:St}
theorem mid2_ok {c0 c1 c2 c3:Int} {x y z:Nat} {e:List Int × Steps × List (List Nat)} (B:Base2 σ c0 c1 c2 c3 x y z e.1 e.2.2 (szF e.2.2)) (g12:σ.get 12=some (.own,.list [])) (he:e∈TAB) (hA:∀ w∈[x,y,z],w∈ALPH) (hn:[x,y,z].Nodup) (h0:0≤c2) (h1:c2 < 2 ^ 40) :
    ∃ (σ':St) (fs:List Nat),exs (Ev G2.P (n+100)) (G2.b_law.drop 10) σ=exs (Ev G2.P (n+100)) (G2.b_law.drop 13) σ'∧Mid2 σ' c0 c1 c2 c3 x y z e.1 e.2.2 (szF e.2.2) fs∧e.2.2.map (fun r=>firstW r [2,1,0] (r.length+1) 0)=fs.map some:=by
  have T:=tab_of he
  obtain ⟨t,ht,q1,q2,q3⟩:=tab2_of he
  obtain ⟨σ1,A,e10,B1,a14,a12,hAl⟩:=firsts_ok (n:=n) B g12 hA hn h0 h1 T.len (fun r hr=>⟨by rw [(T.row r hr).1]; exact T.sz,(T.row r hr).2⟩) q2
  have hl:=B1.len
  have e1:σ1=stR σ1.get t:=by
    have h:=explode σ1
    have l:(List.range σ1.length).map σ1.get=(List.range 39).map σ1.get:=by rw [hl]
    rw [l] at h
    have u:stR σ1.get t=(List.range 39).map σ1.get:=by
      have h6:=B1.g6
      have h11:=B1.g11
      have h33:=B1.free 33 (by decide)
      have h34:=B1.free 34 (by decide)
      have h35:=B1.free 35 (by decide)
      rw [← q1] at h6
      rw [← q3] at h11
      unfold stR
      rw [← h6,← h11,← a14]
      show _=[_,_,_,_,_,_,_,_,_,_,_,_,_,_,_,_,_,_,_,_,_,_,_,_,_,_,_,_,_,_,_,_,_,_,_,_,_,_,_]
      rw [h33,h34,h35]
    exact h.trans u.symm
  have k:=rounds_k n σ1.get t ht
  rw [← e1] at k
  refine ⟨stR' σ1.get t,t.2.1,?_,⟨⟨rfl,B1.g1,B1.g4,B1.g5,?_,B1.g10,?_,B1.g13,fun j hj=>?_⟩,⟨A,hAl,a12⟩,rfl⟩,q2⟩
  · rw [show G2.b_law.drop 10=s2_10 :: s2_11 :: s2_12 :: G2.b_law.drop 13 from rfl]
    rw [xs_cons,e10,then_next]
    rw [xs_cons] at k ⊢
    cases h:(Ev G2.P (n+100)).ex s2_11 σ1 with
    | none=>rw [h] at k; exact nos k
    | some p=>
      obtain ⟨f,τ⟩:=p
      rw [h] at k
      induction f using Fl.casesOn with
      | ret d=>cases k
      | next=>
        rw [then_next] at k ⊢
        rw [xs_cons] at k ⊢
        cases h2:(Ev G2.P (n+100)).ex s2_12 τ with
        | none=>rw [h2] at k; exact nos k
        | some p=>
          obtain ⟨f,τ2⟩:=p
          rw [h2] at k
          induction f using Fl.casesOn with
          | ret d=>cases k
          | next=>
            rw [then_next] at k ⊢
            rw [xs_nil] at k
            cases k; rfl
  · show some (Own.sh,D.list (t.1.map .int))=_
    rw [q1]
  · show some (Own.sh,D.int (t.2.2.2.1:Nat))=_
    rw [q3]
  · by_cases h:j < 39
    · have f:=B1.free j hj
      rcases (by lia:j=27∨j=28∨j=29∨j=30∨j=31∨j=32∨j=33∨j=34∨j=35∨j=36∨j=37∨j=38) with q | q | q | q | q | q | q | q | q | q | q | q <;> subst q <;> first | rfl | exact f
    · unfold St.get
      rw [List.getElem?_eq_none (by show 39≤j; exact Nat.le_of_not_lt h)]
      rfl
end
end Mine
end
section
set_option autoImplicit false
namespace Mine
section
variable {P:List (Nat × FnDef)} {n:Nat} {F:Funs} {σ:St}
theorem pageS_ok2 (h106:P.lookup 106=some G2.f_law_hand) (hP:∀ j∈KS,P.lookup (handFn j)=some ⟨1,1,[.tryb ((escOf j).map escS++[.ret (.var 0)])]⟩) {oc ow:Own} {cs:D} {v:Int} {part:List Nat} {W:List (List Nat)} {rest:List S}
    (gc:σ.get 1=some (oc,cs)) (hi:idxD cs (.int 2)=some (.int v)) (h0:0≤v) (h1:v < 2 ^ 40) (ho:ow≠.bor) (gp:σ.get 13=some (.sh,.str part)) (gw:σ.get 10=some (ow,.list (W.map D.str))) (gs:σ.get 36=none)
    (hA:∀ a∈part :: W,(∀ x∈a,x∈ALPH)∧a.length≤10) (hW:W.length≤16) (hl:σ.length=39) :
    ∃ σ' k m,exs (Ev P (n+60)) (pageS 1 2 13 10 18 19 20 21 22 36 23++rest) σ=exs (Ev P (n+60)) rest σ'∧Near [18,19,20,21,10,22,23] σ σ'∧k∈KS∧m∈MARKS∧Page σ' k m 18 19 20 23 10 part W:=by
  obtain ⟨k,hk,_,ek⟩:=m_ex (c:=v) (k:=5) (by decide)
  obtain ⟨q,hq,_,eq1,eq2⟩:=dm_ex (c:=v) (m:=5) (k:=5) h0 h1 (by decide) (by decide) (by decide)
  have hks:=ks_of hk
  have hm:=marks_mem hq
  have e1:=hand_ok (P:=P) (n:=n+30) (σ:=σ) h106 (wr:=18) (tb:=19) gc hi hk ek
  have l1:(σ.put 18 (.sh,.fn (handFn k))).length=39:=(len_put ..).trans hl
  have n1:Near [18,19] σ ((σ.put 18 (.sh,.fn (handFn k))).put 19 (.sh,.sdict (tabD k))):=((Near.refl _ _).put (by decide) _).put (by decide) _
  have a1:((σ.put 18 (.sh,.fn (handFn k))).put 19 (.sh,.sdict (tabD k))).get 18=some (.sh,.fn (handFn k)):=(put_ne (by decide)).trans (put_eq (by rw [hl]; decide))
  have a2:((σ.put 18 (.sh,.fn (handFn k))).put 19 (.sh,.sdict (tabD k))).get 19=some (.sh,.sdict (tabD k)):=put_eq (by rw [l1]; decide)
  generalize (σ.put 18 (.sh,.fn (handFn k))).put 19 (.sh,.sdict (tabD k))=σ1 at e1 n1 a1 a2
  clear l1
  have l1:=n1.len.trans hl
  have e2:=asg_of (x:=20) (mark_ok (P:=P) (n:=n+52) (σ:=σ1) ((n1.get 1 (by decide)).trans gc) hi hq eq1 eq2)
  generalize MARKS.getD q 0=m at hm e2
  have n2:Near [20] σ1 (σ1.put 20 (.sh,.str [m])):=(Near.refl _ _).put (by decide) _
  have b1:(σ1.put 20 (.sh,.str [m])).get 20=some (.sh,.str [m]):=put_eq (by rw [l1]; decide)
  generalize σ1.put 20 (.sh,.str [m])=σ2 at e2 n2 b1
  have l2:=n2.len.trans l1
  have jl:(joinL [m] (part :: W)).length≤187:=by
    refine Nat.le_trans (joinL_lenS _ _) ?_
    have:=sum_le (b:=10) (l:=part :: W) fun a ha=>(hA a ha).2
    rw [List.length_cons] at this
    show ((part :: W).map fun a=>a.length+1).sum≤187
    lia
  have jm:∀ c∈joinL [m] (part :: W),c∈ALPH++MARKS:=fun c hc=>by
    rcases joinL_mem hc with q | ⟨a,h2,h3⟩
    · rw [List.mem_singleton] at q; rw [q]; exact List.mem_append_right _ hm
    · exact List.mem_append_left _ ((hA a h2).1 c h3)
  have fl:((joinL [m] (part :: W)).flatMap (code (escOf k))).length≤4096:=by
    have:=flat_len (f:=code (escOf k)) (b:=6) (t:=joinL [m] (part :: W)) fun c hc=>(code_len k hks c (jm c hc)).2.1
    lia
  have e3:=asg_of (x:=21) (line_ok (P:=P) (n:=n+51) (σ:=σ2) (mk:=20) (p:=13) (w:=10) (ow:=ow) ho b1 ((n2.get 13 (by decide)).trans ((n1.get 13 (by decide)).trans gp)) ((n2.get 10 (by decide)).trans ((n1.get 10 (by decide)).trans gw)) (by rw [l2]; decide) (by decide) (by lia) (Nat.le_trans jl (by decide)))
  have hA':∀ a∈part :: W,∀ c∈a,c∈ALPH:=fun a ha=>(hA a ha).1
  have n3:Near [10,21] σ2 ((σ2.put 10 (.sh,.list (W.map D.str))).put 21 (.sh,.str (joinL [m] (part :: W)))):=((Near.refl _ _).put (by decide) _).put (by decide) _
  have c1:((σ2.put 10 (.sh,.list (W.map D.str))).put 21 (.sh,.str (joinL [m] (part :: W)))).get 21=some (.sh,.str (joinL [m] (part :: W))):=put_eq (by rw [len_put,l2]; decide)
  have c2:((σ2.put 10 (.sh,.list (W.map D.str))).put 21 (.sh,.str (joinL [m] (part :: W)))).get 10=some (.sh,.list (W.map D.str)):=(put_ne (by decide)).trans (put_eq (by rw [l2]; decide))
  generalize (σ2.put 10 (.sh,.list (W.map D.str))).put 21 (.sh,.str (joinL [m] (part :: W)))=σ3 at e3 n3 c1 c2
  have l3:=n3.len.trans l2
  have e4:=asg_of (x:=22) (page_ok (P:=P) (n:=n+46) (σ:=σ3) hks hP ((n3.get 18 (by decide)).trans ((n2.get 18 (by decide)).trans a1)) c1 fl)
  have n4:Near [22] σ3 (σ3.put 22 (.sh,.str ((joinL [m] (part :: W)).flatMap (code (escOf k))))):=(Near.refl _ _).put (by decide) _
  have d1:(σ3.put 22 (.sh,.str ((joinL [m] (part :: W)).flatMap (code (escOf k))))).get 22=some (.sh,.str ((joinL [m] (part :: W)).flatMap (code (escOf k)))):=put_eq (by rw [l3]; decide)
  generalize σ3.put 22 (.sh,.str ((joinL [m] (part :: W)).flatMap (code (escOf k))))=σ4 at e4 n4 d1
  have l4:=n4.len.trans l3
  have n14:Near [18,19,20,21,10,22,23] σ σ4:=(((n1.mono (by decide)).trans (n2.mono (by decide))).trans (n3.mono (by decide))).trans (n4.mono (by decide))
  have d2:σ4.get 19=some (.sh,.sdict (tabD k)):=(n4.get 19 (by decide)).trans ((n3.get 19 (by decide)).trans ((n2.get 19 (by decide)).trans a2))
  have d5:σ4.get 20=some (.sh,.str [m]):=(n4.get 20 (by decide)).trans ((n3.get 20 (by decide)).trans b1)
  have e5:=tabs_ok (P:=P) (n:=n+46) (σ:=σ4) (pg:=22) (tb:=19) (ln:=21) (s:=36) hks jm (by lia) fl d1 d2 ((n4.get 21 (by decide)).trans c1) ((n14.get 36 (by decide)).trans gs) (by rw [l4]; decide) (by decide) [.ret (.lit (.bool false))]
  have e6:=asg_of (x:=23) (pieces_st (P:=P) (n:=n+51) (σ:=σ4) (l:=part :: W) (pg:=22) (tb:=19) (mk:=20) hks hm (List.cons_ne_nil _ _) hA' d1 fl d2 d5)
  have n5:Near [23] σ4 (σ4.put 23 (.sh,.list (((part :: W).map (escP k)).map D.str))):=(Near.refl _ _).put (by decide) _
  refine ⟨σ4.put 23 (.sh,.list (((part :: W).map (escP k)).map D.str)),k,m,?_,n14.trans (n5.mono (by decide)),hks,hm,⟨?_,(n5.get 19 (by decide)).trans d2,(n5.get 20 (by decide)).trans d5,put_eq (by rw [l4]; decide),?_⟩⟩
  · exact (xs_step e1).trans ((xs_step e2).trans ((xs_step e3).trans ((xs_step e4).trans ((xs_step e5).trans (xs_step e6)))))
  · exact (n5.get 18 (by decide)).trans ((n4.get 18 (by decide)).trans ((n3.get 18 (by decide)).trans ((n2.get 18 (by decide)).trans a1)))
  · exact (n5.get 10 (by decide)).trans ((n4.get 10 (by decide)).trans c2)
end
end Mine
end
section
set_option autoImplicit false
namespace Mine
theorem hands2:∀ j∈KS,G2.P.lookup (handFn j)=some ⟨1,1,[.tryb ((escOf j).map escS++[.ret (.var 0)])]⟩:=by
  intro j hj
  simp only [KS,List.mem_cons,List.mem_nil_iff,or_false] at hj
  rcases hj with rfl | rfl | rfl | rfl | rfl <;> rfl
theorem reps_add {α:Type} (i j:Nat) (l:List α):reps (i+j) l=reps i l++reps j l:=by
  delta reps; rw [← List.replicate_append_replicate,List.flatten_append]
theorem reps_mono {α:Type} {i j:Nat} (h:i≤j) (l:List α):(reps i l).Sublist (reps j l):=by
  obtain ⟨k,rfl⟩ : ∃ k,j=i+k:=⟨j - i,by exact Eq.symm (Nat.add_sub_of_le h)⟩
  rw [reps_add]; exact List.sublist_append_left ..
theorem firstW_spec {w o:List Nat}:∀ (f k j:Nat),firstW w o f k=some j→k≤j∧w.Sublist (reps j o)∧∀ m,k≤m→m < j→¬ w.Sublist (reps m o)
  | 0,_,_,h=>by exact nos h
  | f+1,k,j,h=>by
    rw [fW_c] at h
    by_cases q:w.Sublist (reps k o)
    · rw [if_pos q] at h; obtain rfl:=some1 h
      exact ⟨Nat.le_refl _,q,fun m h1 h2=>absurd h2 (by exact Nat.not_lt.mpr h1)⟩
    · rw [if_neg q] at h
      obtain ⟨a,b,c⟩:=firstW_spec f (k+1) j h
      refine ⟨by exact Nat.le_of_succ_le a,b,fun m h1 h2=>?_⟩
      by_cases e:m=k
      · rw [e]; exact q
      · exact c m (by lia) h2
theorem first_le {w o:List Nat} {f j m:Nat} (h:firstW w o f 0=some j):j≤m ↔ w.Sublist (reps m o):=by
  obtain ⟨_,b,c⟩:=firstW_spec f 0 j h
  constructor
  · intro hm; exact b.trans (reps_mono hm o)
  · intro hs
    by_cases q:j≤m
    · exact q
    · exact absurd hs (c m (by exact Nat.zero_le m) (by exact Nat.lt_of_not_le q))
theorem escP_reps (k m:Nat) (a:List Nat):escP k (reps m a)=reps m (escP k a):=by
  delta escP reps
  induction m with
  | zero=>rfl
  | succ m ih=>rw [List.replicate_succ,List.replicate_succ,List.flatten_cons,List.flatten_cons,List.flatMap_append,ih]
theorem code5:∀ k∈KS,∀ c∈ALPH,(code (escOf k) c).length≤if c=38 then 5 else 4:=by decide +kernel
theorem once_len {k x y z:Nat} (hk:k∈KS) (hA:∀ w∈[x,y,z],w∈ALPH) (hn:[x,y,z].Nodup):(escP k [z,y,x]).length≤13:=by
  have hx:=code5 k hk x (hA x (by simp))
  have hy:=code5 k hk y (hA y (by simp))
  have hz:=code5 k hk z (hA z (by simp))
  simp only [List.nodup_cons,List.mem_cons,List.mem_nil_iff,or_false,not_or] at hn
  delta escP
  simp only [List.flatMap_cons,List.flatMap_nil,List.length_append,List.length_nil]
  split at hx <;> split at hy <;> split at hz <;> lia
structure End2 (σ:St) (x y z:Nat) (R:List (List Nat)) (sz p m q:Nat):Prop where
  len:σ.length=39
  g4:σ.get 4=some (.sh,.list (strsL [x,y,z]))
  g5:σ.get 5=some (.sh,.list (([x,y,z].map numOf).map .int))
  g10:σ.get 10=some (.sh,.list ((R.map fun r=>r.map (S3 x y z)).map D.str))
  g11:σ.get 11=some (.sh,.int (sz:Nat))
  g12:∃ A:List Int,A.length≤113∧σ.get 12=some (.own,.list (A.map D.int))
  g20:σ.get 20=some (.sh,.str [m])
  g24:σ.get 24=some (.sh,.int (p:Nat))
  g25:σ.get 25=some (.sh,.str (reps q [m]))
  free:∀ j,37≤j→σ.get j=none
section
variable {n:Nat} {σ:St}
theorem str_mul {a:List Nat} {q:Nat} (h:a.length * q≤4096) (hq:q < 1000):binD .mul (.str a) (.int (q:Nat))=some (.str (reps q a)):=by
  simp only [binD,addD_int,addD_str,addD_list,addD_tup,mulD_int,mulD_str,mulD_list,int2_int]
  rw [if_pos]
  · simp
  · rw [Bool.and_eq_true]
    exact ⟨sml_of (show q < 2 ^ 60 from Nat.lt_trans hq (by decide)),decide_eq_true (Nat.le_trans h (by decide))⟩
theorem end2_ok {c0 c1 c2 c3:Int} {x y z:Nat} {goal:List Int} {R:List (List Nat)} {fs:List Nat} (M:Mid2 σ c0 c1 c2 c3 x y z goal R (szF R) fs) (hA:∀ w∈[x,y,z],w∈ALPH) (hn:[x,y,z].Nodup) (h0:0≤c2) (h1:c2 < 2 ^ 40) (h2:0≤c3) (h3:c3 < 2 ^ 40)
    (hR0:R≠[]) (hRl:R.length≤16) (hRr:∀ r∈R,r.length=szF R∧∀ g∈r,g < 3) (hsz:szF R≤6) (hf:R.map (fun r=>firstW r [2,1,0] (r.length+1) 0)=fs.map some) :
    ∃ σ' p m q,exs (Ev G2.P (n+100)) (G2.b_law.drop 13) σ=exs (Ev G2.P (n+100)) (G2.b_law.drop 23) σ'∧p < R.length∧m∈MARKS∧q < 8∧End2 σ' x y z R (szF R) p m q:=by
  have B:=M.base
  obtain ⟨o10,ho10,g10⟩:=B.g10
  have hl:=B.len
  have rA:∀ r:List Nat,∀ w∈r.map (S3 x y z),w∈ALPH:=fun r w hw=>by
    obtain ⟨g,_,rfl⟩:=List.mem_map.mp hw
    exact hA _ (S3_mem ..)
  have hW:∀ a∈[2,1,0].map (S3 x y z) :: (R.map fun r=>r.map (S3 x y z)),(∀ u∈a,u∈ALPH)∧a.length≤6:=fun a ha=>by
    rcases List.mem_cons.mp ha with rfl | q
    · exact ⟨rA _,by simp⟩
    · obtain ⟨r,hr,rfl⟩:=List.mem_map.mp q
      exact ⟨rA r,by rw [List.length_map,(hRr r hr).1]; exact hsz⟩
  obtain ⟨σ1,k,m,e1,n1,hk,hm,Pg⟩:=pageS_ok2 (P:=G2.P) (n:=n+40) (σ:=σ) rfl hands2 (rest:=G2.b_law.drop 19) B.g1 (v:=c2) rfl h0 h1 ho10 B.g13 g10 (B.free 36 (by decide)) (fun a ha=>⟨(hW a ha).1,by have:=(hW a ha).2; lia⟩) (by rw [List.length_map]; exact hRl) hl
  have e1':exs (Ev G2.P (n+100)) (G2.b_law.drop 13) σ=exs (Ev G2.P (n+100)) (G2.b_law.drop 19) σ1:=e1
  have hl1:σ1.length=39:=n1.len.trans hl
  have kp:∀ j,j ∉ [18,19,20,21,10,22,23]→σ1.get j=σ.get j:=fun j h=>n1.get j h
  have q1:σ1.get 1=some (.sh,.list [.int c0,.int c1,.int c2,.int c3]):=(kp 1 (by decide)).trans B.g1
  have gW:=Pg.gW
  have gP:=Pg.gp
  have gm:=Pg.gm
  obtain ⟨p,hp,_,f1,f2⟩:=dm_ex (c:=c2) (m:=25) (k:=R.length) h0 h1 (by decide) (by decide) (List.length_pos_iff.mpr hR0)
  obtain ⟨u,hu,_,fu⟩:=m_ex (c:=c3) (k:=4) (by decide)
  obtain ⟨q,hq,_,v1,v2⟩:=dm_ex (c:=c3) (m:=4) (k:=8) h2 h3 (by decide) (by decide) (by decide)
  have i2:idxD (.list [.int c0,.int c1,.int c2,.int c3]) (.int 2)=some (.int c2):=rfl
  have i3:idxD (.list [.int c0,.int c1,.int c2,.int c3]) (.int 3)=some (.int c3):=rfl
  have e19:(Ev G2.P (n+100)).ex s2_19 σ1=some (.next,((σ1.put 24 (.sh,.int (p:Nat))).put 16 (.sh,.int (u:Nat))).put 25 (.sh,.str (reps q [m]))):=by
    have f1':binD .fdiv (.int c2) (.int 25)=some (.int (c2.fdiv 25)):=f1
    have f2':binD .mod (.int (c2.fdiv 25)) (.int (R.length:Nat))=some (.int p):=f2
    have fu':binD .mod (.int c3) (.int 4)=some (.int u):=fu
    have v1':binD .fdiv (.int c3) (.int 4)=some (.int (c3.fdiv 4)):=v1
    have v2':binD .mod (.int (c3.fdiv 4)) (.int 8)=some (.int q):=v2
    have sm:=str_mul (a:=[m]) (q:=q) (by simp; lia) (by lia)
    have hlen:((R.map fun r=>r.map (S3 x y z)).map D.str).length=R.length:=by rw [List.length_map,List.length_map]
    delta s2_19
    generalize (R.map fun r=>r.map (S3 x y z)).map D.str=L at *
    simp [q1,i2,i3,f1',gW,hlen,f2',fu',v1',v2',gm,sm,peek,again,pA_n,pA_c]
  generalize hσ2:((σ1.put 24 (.sh,.int (p:Nat))).put 16 (.sh,.int (u:Nat))).put 25 (.sh,.str (reps q [m]))=σ2 at e19
  have n2:Near [24,16,25] σ1 σ2:=by rw [← hσ2]; exact (((Near.refl _ _).put (by simp) _).put (by simp) _).put (by simp) _
  have hl2:σ2.length=39:=n2.len.trans hl1
  have u24:σ2.get 24=some (.sh,.int (p:Nat)):=(put_ne' hσ2 (by decide)).trans ((put_ne (by decide)).trans (put_eq (by rw [hl1]; decide)))
  have u16:σ2.get 16=some (.sh,.int (u:Nat)):=(put_ne' hσ2 (by decide)).trans (put_eq (by rw [len_put,hl1]; decide))
  have u25:σ2.get 25=some (.sh,.str (reps q [m])):=put_eq' hσ2 (by rw [len_put,len_put,hl1]; decide)
  have u23:=(n2.get 23 (by decide)).trans gP
  have hLl:(([2,1,0].map (S3 x y z) :: (R.map fun r=>r.map (S3 x y z))).map (escP k)).length=R.length+1:=by rw [List.length_map,List.length_cons,List.length_map]
  have p0:(([2,1,0].map (S3 x y z) :: (R.map fun r=>r.map (S3 x y z))).map (escP k))[0]'(by exact Nat.zero_lt_succ (List.map (escP k) (List.map (fun r=>List.map (S3 x y z) r) R)).length)=escP k ([2,1,0].map (S3 x y z)):=rfl
  have p1:(([2,1,0].map (S3 x y z) :: (R.map fun r=>r.map (S3 x y z))).map (escP k))[1+p]'(by lia)=escP k (R[p].map (S3 x y z)):=by
    rw [List.getElem_map]
    congr 1
    simp [Nat.add_comm 1 p]
  have x0:=idx_strs (L:=([2,1,0].map (S3 x y z) :: (R.map fun r=>r.map (S3 x y z))).map (escP k)) (k:=0) (by exact Nat.zero_lt_succ (List.map (escP k) (List.map (fun r=>List.map (S3 x y z) r) R)).length) (by decide)
  have x1:=idx_strs (L:=([2,1,0].map (S3 x y z) :: (R.map fun r=>r.map (S3 x y z))).map (escP k)) (k:=1+p) (by lia) (by lia)
  rw [p0] at x0
  rw [p1] at x1
  have hr:=hRr R[p] (List.getElem_mem hp)
  obtain ⟨a1,a2⟩:=escP_len hk (rA [2,1,0])
  obtain ⟨b1,b2⟩:=escP_len hk (rA R[p])
  rw [List.length_map] at b1
  have a13:(escP k ([2,1,0].map (S3 x y z))).length≤13:=once_len hk hA hn
  have hsub:(escP k (R[p].map (S3 x y z))).Sublist (reps u (escP k ([2,1,0].map (S3 x y z)))) ↔ R[p].Sublist (reps u [2,1,0]):=by
    rw [← escP_reps,reps_map]
    exact (esc_sub hk (rA R[p]) (rA _)).trans (sub_map hn hr.2 (fun g hg=>(by decide:∀ g∈[2,1,0],g < 3) g (reps_mem hg)))
  generalize escP k ([2,1,0].map (S3 x y z))=A at *
  generalize escP k (R[p].map (S3 x y z))=Bq at *
  generalize hPL:(([2,1,0].map (S3 x y z) :: (R.map fun r=>r.map (S3 x y z))).map (escP k)).map D.str=PL at *
  have x1':idxD (.list PL) (.int (1+(p:Int)))=some (.str Bq):=by rw [← x1]; congr 2
  have x0':idxD (.list PL) (.int 0)=some (.str A):=x0
  have rl:=reps_len u A
  have lC:(reps u A).length≤39:=by rw [rl]; exact Nat.le_trans (Nat.mul_le_mul (show u≤3 by lia) a13) (by decide)
  have lB:Bq.length≤40:=by have:=hr.1; lia
  have rm:∀ c∈reps u A,c < 128:=fun c hc=>a2 c (reps_mem hc)
  have m1:binD .mul (.int (A.length:Nat)) (.int (u:Nat))=some (.int ((A.length:Int) * u)):=b_mul (sml_of (show A.length < 2 ^ 60 from Nat.lt_of_le_of_lt a13 (by decide))) (sml_of (show u < 2 ^ 60 from Nat.lt_trans hu (by decide)))
  have kl:(A.length:Int) * u=((reps u A).length:Nat):=by rw [rl,Nat.mul_comm]; simp
  rw [kl] at m1
  have m3:=str_mul (a:=A) (q:=u) (by rw [Nat.mul_comm,← rl]; lia) (by lia)
  generalize reps u A=C at *
  let lg:Int:=2 * ((C.length:Int) - Bq.length)
  have mu:binD .mul (.int 2) (.int ((C.length:Int) - Bq.length))=some (.int lg):=b_mul rfl (sml_of (na_sub (Nat.lt_of_le_of_lt lC (by decide)) (Nat.lt_of_le_of_lt lB (by decide))))
  have e20:(Ev G2.P (n+100)).ex s2_20 σ2=some (.next,σ2.put 26 (.sh,.int lg)):=by
    delta s2_20
    simp [u23,u24,u16,x0',x1',m1,mu,peek,again]
  generalize hσ3:σ2.put 26 (.sh,.int lg)=σ3 at e20
  have hl3:σ3.length=39:=(put_len' hσ3).trans hl2
  have k3:∀ j,j≠26→σ3.get j=σ2.get j:=fun j h=>put_ne' hσ3 h
  have v26:σ3.get 26=some (.sh,.int lg):=put_eq' hσ3 (by rw [hl2]; decide)
  have v23:=(k3 23 (by decide)).trans u23
  have v24:=(k3 24 (by decide)).trans u24
  have v16:=(k3 16 (by decide)).trans u16
  obtain ⟨An,hAn,g12⟩:=M.g12
  have v12:σ3.get 12=some (.own,.list (An.map D.int)):=by rw [k3 12 (by decide),n2.get 12 (by decide),kp 12 (by decide)]; exact g12
  have cl:=c28 (P:=G2.P) (n:=n+28) q21 q28 (a:=Bq) (b:=C) (m:=lg) b2 rm (by lia) (by lia)
  let t:Int:=lv Bq C lg
  have e21:(Ev G2.P (n+100)).ex s2_21 σ3=some (.next,σ3.put 12 (.own,.list ((An++[t]).map D.int))):=by
    have hz:(An.map D.int).length < line:=by rw [List.length_map]; delta line; lia
    have fin:(An.map D.int)++[D.int t]=(An++[t]).map D.int:=by simp
    rw [← fin]
    generalize An.map D.int=AL at *
    delta s2_21
    simp [v12,v23,v24,v26,v16,x0',x1',m3,cl,isL_o,ap_o,ap_b,hz,peek,again]
    rfl
  generalize hσ4:σ3.put 12 (.own,.list ((An++[t]).map D.int))=σ4 at e21
  have hl4:σ4.length=39:=(put_len' hσ4).trans hl3
  have k4:∀ j,j≠12→σ4.get j=σ3.get j:=fun j h=>put_ne' hσ4 h
  have w12:σ4.get 12=some (.own,.list ((An++[t]).map D.int)):=put_eq' hσ4 (by rw [hl3]; decide)
  have w26:=(k4 26 (by decide)).trans v26
  have w24:=(k4 24 (by decide)).trans v24
  have w16:=(k4 16 (by decide)).trans v16
  have w14:σ4.get 14=some (.sh,.list (fs.map fun f:Nat=>D.int f)):=by rw [k4 14 (by decide),k3 14 (by decide),n2.get 14 (by decide),kp 14 (by decide)]; exact M.g14
  have hfl:fs.length=R.length:=by have:=congrArg List.length hf; simpa using this.symm
  have hpf:p < fs.length:=Nat.lt_of_lt_of_eq hp hfl.symm
  have hfp:firstW R[p] [2,1,0] (R[p].length+1) 0=some (fs[p]'hpf):=by
    have h3:=congrArg (fun l=>l[p]?) hf
    simp only [List.getElem?_map,List.getElem?_eq_getElem hp,List.getElem?_eq_getElem (hpf),Option.map_some] at h3
    exact Option.some.inj h3
  have ts:=(told_spec (a:=Bq) (b:=C) (e:=0) (Int.le_refl 0) lB (by lia) t (by left; show lv Bq C lg=_; congr 1; show lg=_; lia)).2
  have heq:decide (t=lg)=decide ((fs[p]'hpf:Int)≤(u:Nat)):=by
    rw [decide_eq_decide]
    have a:=first_le (m:=u) hfp
    have b:((fs[p]'hpf:Int)≤(u:Nat)) ↔ fs[p]'hpf≤u:=Int.ofNat_le
    rw [b,a]
    exact (show t=lg ↔ _ from ts).trans hsub
  have il:=idx_last (A:=An) (t:=t)
  have it':idxD (.list (fs.map fun f:Nat=>D.int f)) (.int (p:Nat))=some (.int (fs[p]'hpf:Nat)):=by
    have:=idx_ints (xs:=fs.map fun f:Nat=>(f:Int)) (k:=p) (by lia)
    rw [List.map_map] at this
    rw [show (fun f:Nat=>D.int f)=D.int ∘ fun f:Nat=>(f:Int) from rfl,this,List.getElem?_map,List.getElem?_eq_getElem (hpf)]; rfl
  have e22:(Ev G2.P (n+100)).ex s2_22 σ4=some (.next,σ4):=by
    have cc:∀ b:Bool,cmpD .ne (.bool b) (.bool b)=some false:=by decide
    delta s2_22
    generalize (An++[t]).map D.int=L1 at *
    generalize (fs.map fun f:Nat=>D.int f)=L2 at *
    simp only [ex_s,s_ite,evT_s,t_cmp,ev_s,x_cmp,x_idx,peek,pk_var,w12,w26,w24,w16,w14,Option.map_some,Option.bind_some,x_neg,x_lit,negD,again,ag_var,il,it',iE1,iE2,iE3,iE4,iE5,iE6,iE7,iE8,iE9,Bool.false_eq_true,if_false,x_var,rd_sh,c_eqi,c_lei,heq,cc,r_bool,xs_nil]
  have kk:∀ j,j ∉ [12,26,24,16,25]→σ4.get j=σ1.get j:=fun j h=>by
    simp only [List.mem_cons,List.mem_nil_iff,or_false,not_or] at h
    rw [k4 j h.1,k3 j h.2.1,n2.get j (by simp [h])]
  refine ⟨σ4,p,m,q,?_,hp,hm,hq,⟨hl4,?_,?_,?_,?_,⟨An++[t],by simp; lia,w12⟩,?_,w24,?_,fun j hj=>?_⟩⟩
  · rw [e1',show G2.b_law.drop 19=s2_19 :: s2_20 :: s2_21 :: s2_22 :: G2.b_law.drop 23 from rfl]
    exact xs_c e19 (xs_c e20 (xs_c e21 (xs_c e22 rfl)))
  · rw [kk 4 (by decide),kp 4 (by decide)]; exact B.g4
  · rw [kk 5 (by decide),kp 5 (by decide)]; exact B.g5
  · rw [kk 10 (by decide)]; exact gW
  · rw [kk 11 (by decide),kp 11 (by decide)]; exact B.g11
  · rw [kk 20 (by decide)]; exact gm
  · rw [k4 25 (by decide),k3 25 (by decide)]; exact u25
  · rw [kk j (by simp; lia),kp j (by simp; lia)]; exact B.free j (by lia)
end
end Mine
end
section
set_option autoImplicit false
namespace Mine
theorem mx_ss (p q:Int):mx2 (p+1) (q+1)=mx2 p q+1:=by
  delta mx2
  by_cases h:p < q
  · rw [if_pos (Int.add_lt_add_right h 1),if_pos h]
  · rw [if_neg fun q=>h (Int.lt_of_add_lt_add_right q),if_neg h]
theorem mx_r (p q:Int):mx2 p q≤mx2 p (q+1):=by
  delta mx2
  by_cases h:p < q
  · rw [if_pos (Int.lt_add_one_of_le (Int.le_of_lt h)),if_pos h]; exact Int.le_add_one (Int.le_refl q)
  · rw [if_neg h]; split
    · rename_i h2; exact Int.le_of_lt h2
    · exact Int.le_refl _
theorem mx_l (p q:Int):mx2 p q≤mx2 (p+1) q:=by
  delta mx2
  by_cases h:p < q
  · rw [if_pos h]; split
    · exact Int.le_refl _
    · rename_i h2; exact Int.not_lt.mp h2
  · rw [if_neg h,if_neg fun q=>h (Int.lt_trans (Int.lt_add_one_of_le (Int.le_refl p)) q)]; exact Int.le_add_one (Int.le_refl p)
theorem dm_apart:∀ (k:Nat) (a b:List Nat),a.length+b.length≤k→(∀ c∈a,∀ d∈b,subC c d=2)→dm a b=2 * mx2 a.length b.length
  | _,[],b,_,_=>by
    rw [dm_nil_left]; unfold mx2; simp only [List.length_nil]; split <;> lia
  | _,a :: as,[],_,_=>by
    rw [dm_nil_right]; unfold mx2; rw [if_neg (by simp; exact Int.zero_le_ofNat (as.length+1))]
  | 0,_ :: _,_ :: _,h,_=>by simp at h
  | k+1,a :: as,b :: bs,h,hs=>by
    simp only [List.length_cons] at h
    rw [dm_cons,hs a List.mem_cons_self b List.mem_cons_self]
    rw [dm_apart k as (b :: bs) (by simp; lia) (fun c hc d hd=>hs c (List.mem_cons_of_mem _ hc) d hd)]
    rw [dm_apart k (a :: as) bs (by simp; exact Nat.le_of_lt_succ h) (fun c hc d hd=>hs c hc d (List.mem_cons_of_mem _ hd))]
    rw [dm_apart k as bs (by lia) (fun c hc d hd=>hs c (List.mem_cons_of_mem _ hc) d (List.mem_cons_of_mem _ hd))]
    have c1:∀ l:Nat,((l+1:Nat):Int)=(l:Int)+1:=fun _=>rfl
    rw [List.length_cons,List.length_cons,c1,c1]
    rw [Int.min_eq_right (Int.le_min.mpr ⟨Int.add_le_add_right (Int.mul_le_mul_of_nonneg_left (mx_r _ _) (by decide)) 2,Int.add_le_add_right (Int.mul_le_mul_of_nonneg_left (mx_l _ _) (by decide)) 2⟩)]
    exact ((congrArg (2 * ·) (mx_ss as.length bs.length)).trans (Int.mul_add 2 _ 1)).symm
theorem sub_am:∀ c∈ALPH,∀ d∈MARKS,subC c d=2:=by decide +kernel
theorem marks41:∀ m∈MARKS,∀ x∈ALPH,lv (reps 41 [m]) [x] 82=83:=by decide +kernel
theorem marks128:∀ m∈MARKS,m < 128:=by decide
theorem alphLt:∀ m∈ALPH,m < 128:=by decide
theorem apart_marks {m q:Nat} {w:List Nat} (hm:m∈MARKS) (hw:∀ c∈w,c∈ALPH):dm w (reps q [m])=2 * mx2 w.length q:=by
  have:=dm_apart _ w (reps q [m]) (Nat.le_refl _) (fun c hc d hd=>by
    have:=reps_mem hd
    rw [List.mem_singleton] at this
    rw [this]; exact sub_am c (hw c hc) m hm)
  rw [this,reps_len]; simp
section
variable {n:Nat} {σ:St}
theorem ext_two {P:List (Nat × FnDef)} {e1 e2:E} {A:List Int} {a b:Int} (g:σ.get 12=some (.own,.list (A.map D.int))) (hA:A.length≤1000) (h1:stepEv (Ev P n) e1 σ=some (.int a,σ)) (h2:stepEv (Ev P n) e2 σ=some (.int b,σ)) :
    (Ev P (n+4)).ex (.ext 12 (.list [e1,e2])) σ=some (.next,σ.put 12 (.own,.list ((A++[a,b]).map D.int))):=by
  have hz:(A.map D.int).length+2≤line:=by rw [List.length_map]; unfold line; lia
  have fin:(A++[a,b]).map D.int=A.map D.int++[.int a,.int b]:=by simp
  rw [fin]
  generalize A.map D.int=L at *
  rw [ex_s,s_ext,g,if_pos (show isLst (some (Own.own,D.list L))=true from rfl)]
  simp [h1,h2,line,kd,g,xs_o,peek,again]
  unfold line at hz
  exact Nat.add_le_add_iff_right.mp hz
theorem fin2_ok {x y z:Nat} {R:List (List Nat)} {p m q:Nat} (E2:End2 σ x y z R (szF R) p m q) (hp:p < R.length) (hm:m∈MARKS) (hq:q < 8) (hA:∀ w∈[x,y,z],w∈ALPH) (hRl:R.length≤16) (hRr:∀ r∈R,r.length=szF R∧∀ g∈r,g < 3) (hsz:szF R≤6) :
    ∃ σ',exs (Ev G2.P (n+100)) (G2.b_law.drop 23) σ=some (.ret (.bool true),σ'):=by
  have hl:=E2.len
  have rm:=marks128 m hm
  have rA:∀ w∈R[p].map (S3 x y z),w∈ALPH:=fun w hw=>by
    obtain ⟨g,_,rfl⟩:=List.mem_map.mp hw
    exact hA _ (S3_mem ..)
  have rl:=reps_len q [m]
  rw [List.length_singleton,Nat.mul_one] at rl
  let due:Int:=2 * mx2 (szF R:Nat) (q:Nat)
  have dl:0≤due∧due≤100:=by show 0≤2 * mx2 (szF R:Nat) (q:Nat)∧2 * mx2 (szF R:Nat) (q:Nat)≤100; unfold mx2; split <;> lia
  have mu:binD .mul (.int 2) (.int (mx2 (szF R:Nat) (q:Nat)))=some (.int due):=b_mul rfl (sml_of (by unfold mx2; split <;> lia))
  have e23:(Ev G2.P (n+100)).ex s2_23 σ=some (.next,σ.put 26 (.sh,.int due)):=by
    have g25:=E2.g25
    unfold s2_23
    generalize reps q [m]=M at *
    simp [E2.g11,g25,rl,x_bi (show Bi.max≠.len from nofun) (show Bi.max≠.list from nofun),mx_int,mu,peek]
  generalize hd:due=d at *
  have hdue:d=2 * mx2 (szF R:Nat) (q:Nat):=hd.symm
  generalize hσ1:σ.put 26 (.sh,.int d)=σ1 at e23
  have hl1:σ1.length=39:=(put_len' hσ1).trans hl
  have k1:∀ j,j≠26→σ1.get j=σ.get j:=fun j h=>put_ne' hσ1 h
  have a26:σ1.get 26=some (.sh,.int d):=put_eq' hσ1 (by rw [hl]; decide)
  have a10:=(k1 10 (by decide)).trans E2.g10
  have a24:=(k1 24 (by decide)).trans E2.g24
  have a25:=(k1 25 (by decide)).trans E2.g25
  have a20:=(k1 20 (by decide)).trans E2.g20
  have a4:=(k1 4 (by decide)).trans E2.g4
  obtain ⟨A,hAl,g12⟩:=E2.g12
  have a12:=(k1 12 (by decide)).trans g12
  have x1:=idx_strs (L:=R.map fun r=>r.map (S3 x y z)) (k:=p) (by rw [List.length_map]; exact hp) (by lia)
  rw [List.getElem_map] at x1
  have wl:(R[p].map (S3 x y z)).length=szF R:=by rw [List.length_map]; exact (hRr _ (List.getElem_mem hp)).1
  have dmw:=apart_marks (q:=q) hm rA
  rw [wl,← hdue] at dmw
  have m128:∀ c∈reps q [m],c < 128:=fun c hc=>by
    have:=reps_mem hc; rw [List.mem_singleton] at this; exact lt_of_eq_of_lt this rm
  have w128:∀ c∈R[p].map (S3 x y z),c < 128:=fun c hc=>alphLt c (rA c hc)
  have c1:=c28 (P:=G2.P) (n:=n+26) q21 q28 (a:=R[p].map (S3 x y z)) (b:=reps q [m]) (m:=d) w128 m128 (by lia) (by lia)
  have c2:=c28 (P:=G2.P) (n:=n+26) q21 q28 (a:=reps q [m]) (b:=R[p].map (S3 x y z)) (m:=d - 1) m128 w128 (by lia) (by lia)
  have t1:lv (R[p].map (S3 x y z)) (reps q [m]) d=d:=by
    rcases lv_spec (m:=d) (a:=R[p].map (S3 x y z)) (b:=reps q [m]) (by lia) (by lia) with h | h
    · lia
    · lia
  have t2:lv (reps q [m]) (R[p].map (S3 x y z)) (d - 1)=d:=by
    rcases lv_spec (m:=d - 1) (a:=reps q [m]) (b:=R[p].map (S3 x y z)) (by lia) (by lia) with h | h
    · rw [dm_symm] at h; lia
    · lia
  rw [t1] at c1
  rw [t2] at c2
  generalize R[p].map (S3 x y z)=w at *
  have e24:(Ev G2.P (n+100)).ex s2_24 σ1=some (.next,σ1.put 12 (.own,.list ((A++[d,d]).map D.int))):=by
    unfold s2_24
    refine ext_two (n:=n+96) a12 (by lia) ?_ ?_
    · generalize (R.map fun r=>r.map (S3 x y z)).map D.str=L at *
      exact st_e (r_call (r_ac (r_idxv a10 (r_sh a24) x1) (r_ac (r_sh a25) (r_a1 (r_sh a26)))) c1)
    · generalize (R.map fun r=>r.map (S3 x y z)).map D.str=L at *
      exact st_e (r_call (r_ac (r_sh a25) (r_ac (r_idxv a10 (r_sh a24) x1) (r_a1 (r_bin (r_sh a26) r_lit rfl)))) c2)
  generalize hσ2:σ1.put 12 (.own,.list ((A++[d,d]).map D.int))=σ2 at e24
  have hl2:σ2.length=39:=(put_len' hσ2).trans hl1
  have k2:∀ j,j≠12→σ2.get j=σ1.get j:=fun j h=>put_ne' hσ2 h
  have b12:σ2.get 12=some (.own,.list ((A++[d,d]).map D.int)):=put_eq' hσ2 (by rw [hl1]; decide)
  have b20:=(k2 20 (by decide)).trans a20
  have b4:=(k2 4 (by decide)).trans a4
  have i0:idxD (.list (strsL [x,y,z])) (.int 0)=some (.str [x]):=rfl
  have s40:=str_mul (a:=[m]) (q:=40) (by simp) (by decide)
  have s41:=str_mul (a:=[m]) (q:=41) (by simp) (by decide)
  have l40:(reps 40 [m]).length=40:=by rw [reps_len]; rfl
  have l41:(reps 41 [m]).length=41:=by rw [reps_len]; rfl
  have hxA:=hA x (by simp)
  have x128:∀ c∈[x],c < 128:=fun c hc=>by rw [List.mem_singleton] at hc; rw [hc]; exact alphLt x hxA
  have mm:∀ j,∀ c∈reps j [m],c < 128:=fun j c hc=>by
    have:=reps_mem hc; rw [List.mem_singleton] at this; lia
  have c3:=c28 (P:=G2.P) (n:=n+26) q21 q28 (a:=[x]) (b:=reps 40 [m]) (m:=80) x128 (mm 40) (by simp) (by lia)
  have c4:=c28 (P:=G2.P) (n:=n+26) q21 q28 (a:=reps 41 [m]) (b:=[x]) (m:=82) (mm 41) x128 (by lia) (by simp)
  have t3:lv [x] (reps 40 [m]) 80=80:=by
    have h0:=apart_marks (m:=m) (q:=40) (w:=[x]) hm (fun c hc=>by rw [List.mem_singleton] at hc; rw [hc]; exact hxA)
    have h0':dm [x] (reps 40 [m])=80:=by rw [h0]; rfl
    rcases lv_spec (m:=80) (a:=[x]) (b:=reps 40 [m]) (by simp) (by lia) with h | h
    · lia
    · lia
  rw [t3] at c3
  rw [marks41 m hm x hxA] at c4
  have e25:(Ev G2.P (n+100)).ex s2_25 σ2=some (.next,σ2.put 12 (.own,.list (((A++[d,d])++[80,83]).map D.int))):=by
    have s40':binD .mul (.str [m]) (.int 40)=some (.str (reps 40 [m])):=s40
    have s41':binD .mul (.str [m]) (.int 41)=some (.str (reps 41 [m])):=s41
    unfold s2_25
    refine ext_two (n:=n+96) b12 (by simp; lia) ?_ ?_
    · generalize strsL [x,y,z]=L at *
      generalize reps 40 [m]=M40 at *
      exact st_e (r_call (r_ac (r_idxv b4 r_lit i0) (r_ac (r_bin (r_sh b20) r_lit s40') (r_a1 r_lit))) c3)
    · generalize strsL [x,y,z]=L at *
      generalize reps 41 [m]=M41 at *
      exact st_e (r_call (r_ac (r_bin (r_sh b20) r_lit s41') (r_ac (r_idxv b4 r_lit i0) (r_a1 r_lit))) c4)
  generalize hσ3:σ2.put 12 (.own,.list (((A++[d,d])++[80,83]).map D.int))=σ3 at e25
  have hl3:σ3.length=39:=(put_len' hσ3).trans hl2
  have k3:∀ j,j≠12→σ3.get j=σ2.get j:=fun j h=>put_ne' hσ3 h
  have d12:σ3.get 12=some (.own,.list ((A++[d,d,80,83]).map D.int)):=by rw [← hσ3]; simp [get_put,hl2]
  have kk:∀ j,j≠12→j≠26→σ3.get j=σ.get j:=fun j h h'=>by rw [k3 j h,k2 j h,k1 j h']
  have d26:σ3.get 26=some (.sh,.int d):=by rw [k3 26 (by decide),k2 26 (by decide)]; exact a26
  have d5:=(kk 5 (by decide) (by decide)).trans E2.g5
  have d4:=(kk 4 (by decide) (by decide)).trans E2.g4
  have nm:=nums_ok (P:=G2.P) (n:=n+88) (σ:=σ3) (k:=37) (sg:=4) d4 ((kk 37 (by decide) (by decide)).trans (E2.free 37 (by decide))) (by rw [hl3]; decide) hA (by simp)
  have nm':stepO (Ev G2.P (n+94)) (.comp (.bin .add (.lit (.int 7)) (.meth .index (.lit (.str [40,41,91,93,58,44,59,43,45,42,47,124,38,60,62,61,46,37,123,125])) [(.var 37)])) [(.v 37,(.var 4),[])]) σ3=some (.own,.list (([x,y,z].map numOf).map .int),σ3):=nm
  have cn:=ne_ints (a:=[x,y,z].map numOf) (b:=[x,y,z].map numOf) (by simp)
  have sl:=last_k (L:=A.map D.int) (M:=[.int d,.int d,.int 80,.int 83]) (k:=4) rfl (by decide) (by decide)
  have sl':slcD (.list ((A++[d,d,80,83]).map D.int)) (.int (-4)) .none false=some (.list [.int d,.int d,.int 80,.int 83]):=by
    rw [List.map_append]; exact sl
  have nn:cmpD .ne (.list [.int d,.int d,.int 80,.int 83]) (.list [.int d,.int d,.int 80,.int 83])=some false:=by
    have:=ne_ints (a:=[d,d,80,83]) (b:=[d,d,80,83]) (by simp)
    simp only [ne_eq,not_true_eq_false,decide_false] at this
    exact this
  have e26:(Ev G2.P (n+100)).ex s2_26 σ3=some (.next,σ3):=by
    have i4:([D.int d,D.int d,D.int 80,D.int 83]:List D).length≤line:=by unfold line; simp
    unfold s2_26
    generalize (A++[d,d,80,83]).map D.int=L at *
    simp only [ex_s,s_ite,evT_s,t_or,any_cons,any_nil,t_cmp,ev_s,x_cmp,x_slc,peek,pk_var,d12,Option.map_some,Option.bind_some,optE,x_neg,x_lit,negD,again,ag_var,sl',iE1,iE2,iE3,iE4,iE5,iE6,iE7,iE8,iE9,Bool.false_eq_true,if_false,x_list,evO_s,o_list,evs_cons,evs_nil,x_var,d26,rd_sh,i4,if_true,noO_some,nn,r_bool,d5,x_comp,nm',cn,ne_eq,not_true_eq_false,decide_false,xs_nil]
  have ad:binD .add (.list ((A++[d,d,80,83]).map .int)) (.list (([x,y,z].map numOf).map .int))=some (.list (((A++[d,d,80,83])++[x,y,z].map numOf).map .int)):=by
    rw [add_lists (by rw [List.length_map,List.length_map]; simp [line]; lia)]; simp
  have it27:items (Ev G2.P (n+96)) (.bin .add (.var 12) (.var 5)) σ3=some (((A++[d,d,80,83])++[x,y,z].map numOf).map .int,σ3.put 12 (.sh,.list ((A++[d,d,80,83]).map .int))):=by
    have q5':(σ3.put 12 (.sh,.list ((A++[d,d,80,83]).map .int))).get 5=some (.sh,.list (([x,y,z].map numOf).map .int)):=by rw [get_put _ _ _ _ (by rw [hl3]; decide),if_neg (by decide)]; exact d5
    rw [it_plain rfl]
    simp only [ev_s,x_bin,x_var,d12,rd_own,Option.bind_some,q5',rd_sh,ad,Option.map_some,its_l,its_t,its_s,its_r]
  have ai:=all_ints (P:=G2.P) (n:=n+88) (σ:=σ3) (k:=38) it27 (by rw [get_put _ _ _ _ (by rw [hl3]; decide),if_neg (by decide),kk 38 (by decide) (by decide)]; exact E2.free 38 (by decide)) (by rw [len_put,hl3]; decide) (by simp; lia)
  have ai':stepO (Ev G2.P (n+96)) (.comp (.var 38) [(.v 38,(.bin .add (.var 12) (.var 5)),[(.or [(.bi .isBool [(.var 38)]),(.not (.bi .isInt [(.var 38)]))])])]) σ3=some (.own,.list [],σ3.put 12 (.sh,.list ((A++[d,d,80,83]).map .int))):=ai
  have e27:(Ev G2.P (n+100)).ex s2_27 σ3=some (.ret (.bool true),σ3.put 12 (.sh,.list ((A++[d,d,80,83]).map .int))):=by
    unfold s2_27
    rw [show n+100=n+96+1+1+1+1 from rfl]
    simp only [ex_s,s_ret,ev_s,x_cmp,x_comp,evO_s,ai',noO_some,Option.bind_some,iE1,iE2,iE3,iE4,iE5,iE6,iE7,iE8,iE9,Bool.false_eq_true,if_false,x_list,o_list,evs_nil]
    rfl
  refine ⟨σ3.put 12 (.sh,.list ((A++[d,d,80,83]).map .int)),?_⟩
  rw [show G2.b_law.drop 23=[s2_23,s2_24,s2_25,s2_26,s2_27] from rfl]
  exact xs_c e23 (xs_c e24 (xs_c e25 (xs_c e26 (xs_e e27))))
end
end Mine
end
section
set_option autoImplicit false
open Mine
namespace G2
theorem law_true (ns:List Int) (h:ns.length≤63):∃ back,(Ev P 120).call 149 [(.sh,.wlist (ns.map D.int))]=some (.bool true,back):=by
  obtain ⟨σ,c0,c1,c2,c3,x,y,z,e,e1,B,g12,he,hA,hn,h2,h3⟩:=prolog2 (n:=19) ns
  have K:=tab_of he
  obtain ⟨σ1,fs,e2,M,hf⟩:=mid2_ok (n:=19) B g12 he hA hn h2.1 h2.2
  obtain ⟨σ2,p,m,q,e3,hp,hm,hq,E2⟩:=end2_ok (n:=19) M hA hn h2.1 h2.2 h3.1 h3.2 K.ne K.len K.row K.sz hf
  obtain ⟨σ3,e4⟩:=fin2_ok (n:=19) E2 hp hm hq hA K.len K.row K.sz
  have e:exs (Ev P 119) G2.f_law.body (start G2.f_law [(.sh,.wlist (ns.map D.int))])=some (.ret (.bool true),σ3):=by
    have:=e1.trans (e2.trans (e3.trans e4))
    exact this
  refine ⟨σ3.get 0,?_⟩
  refine call_of (P:=P) (n:=119) (a:=149) (f:=G2.f_law) (ss:=[(.sh,.wlist (ns.map D.int))]) (d:=.bool true) (σ:=σ3) rfl rfl e ?_
  show okBack (some (.sh,.wlist (ns.map D.int))) (σ3.get 0)=true
  cases σ3.get 0 with
  | none=>rfl
  | some s=>obtain ⟨o,d⟩:=s; cases o <;> rfl
end G2
end
set_option tactic.hygienic true
open PySem PySem.W PyProof.Rows Mine
set_option maxRecDepth 100000
set_option maxHeartbeats 8000000
namespace G2
theorem fn_ok:FnOK P:=by
  intro hT H a f h
  obtain ⟨p,loose,mean,mg,mb,K,T⟩:=H
  obtain ⟨S,ps,o,fd,body,t⟩:=allP_mem (trs T K) _ (mem_lk h)
  exact ⟨o,fd,S,body,ps,t⟩
theorem biTop:biL.map (fun q=>bootBuiltins q.1)=biL.map (fun q=>some q.2):=by kernel_rfl
theorem biNe:∀ q∈biL,q.1 ≠ "__name__" := by decide +kernel
theorem biNone (p:Params):biL.map (fun q=>nsIn (KF2 p) mainGlobals q.1)=biL.map (fun _=>some none):=by kernel_rfl
theorem bi_top {mb:Str→Option Value} (hb:∀ x:Str,x ≠ "__name__" → mb x=bootBuiltins x) (x:Str) (v:Value) (h:biL.lookup x=some v):mb x=some v:=
  (hb x (biNe (x,v) (mem_lk h))).trans (List.map_inj_left.mp biTop (x,v) (mem_lk h))
theorem bi_none {p:Params} {mg:Str→Option Value} {h:Heap} (K:(KF2 p).In h) (g:h.Ns mainGlobals mg) (x:Str) (v:Value) (hx:biL.lookup x=some v):mg x=none:=
  mg_none_of K g (List.map_inj_left.mp (biNone p) (x,v) (mem_lk hx))
theorem fnsEq (p:Params):fnsG.map (fun q=>nsIn (KF2 p) mainGlobals q.1)=fnsG.map (fun q=>some (some (.ref q.2))):=by kernel_rfl
theorem intsEq (p:Params):intsG.map (fun q=>nsIn (KF2 p) mainGlobals q.1)=intsG.map (fun q=>some (some (.int q.2.1 q.2.2))):=by kernel_rfl
theorem fnsP:∀ q∈fnsG,(P.lookup q.2).isSome=true∨q=(Str.ofString "_raise_serialization_error",59):=by decide +kernel
theorem tok_top {h:Heap} (K:(KF2 w.params).In h):Real h 0 (fun _=>False) (.ref 29) tokD:=by
  refine tok_real (by decide +kernel) (K 29 _ rfl) ?_ (by kernel_rfl)
  repeat' first
    | exact trivial
    | refine ⟨by kernel_rfl,by kernel_rfl,by kernel_rfl,?_⟩
theorem gl_top {loose:List Str} {mean:ExcName→Option Value} {mg mb:Str→Option Value} {h:Heap} (K:(KF2 w.params).In h) (T:Top vw2 loose mean mg mb h):Gl h:=by
  refine ⟨T.nolimit,⟨_,_,_,_,_,K,T⟩,mg,mb,T.g,T.b,fun x d hx=>?_,fun x v hx=>⟨bi_none K T.g x v hx,bi_top T.builtins x v hx⟩⟩
  rcases List.mem_append.mp (mem_lk hx) with m | m
  · obtain ⟨q,hq,e⟩:=List.mem_map.mp m
    obtain ⟨rfl,rfl⟩:=Prod.mk.inj e
    have m1:=mg_of K T.g (List.map_inj_left.mp (fnsEq _) q hq)
    have ex:∃ o,h.get? q.2=some o:=by
      rcases fnsP q hq with e | rfl
      · obtain ⟨f,hf⟩:=Option.isSome_iff_exists.mp e
        obtain ⟨_,_,o,_,_,t,_⟩:=allP_mem (trs T K) _ (mem_lk hf)
        exact ⟨o,t⟩
      · obtain ⟨a',o,pm,code,doc,h1,h2,_⟩:=T.fn _ (rc_mem (i:=5) (by decide))
        obtain rfl:=Value.ref.inj (some1 (h1.symm.trans m1))
        exact ⟨o,h2⟩
    obtain ⟨o,e⟩:=ex
    exact ⟨_,m1,.fn (fun f=>f) e⟩
  · rcases List.mem_append.mp m with m | m
    · obtain ⟨q,hq,e⟩:=List.mem_map.mp m
      obtain ⟨rfl,rfl⟩:=Prod.mk.inj e
      exact ⟨_,mg_of K T.g (List.map_inj_left.mp (intsEq _) q hq),.int _ _⟩
    · obtain ⟨rfl,rfl⟩:=Prod.mk.inj (List.mem_singleton.mp m)
      exact ⟨.ref 29,mg_of K T.g (by kernel_rfl),tok_top K⟩
end G2
open G2
theorem Mine.said2:PySem.Challenge.rw_tc0041_02.wellSaid=true:=by decide +kernel
theorem Mine.ok2:(chainsOk vw2 && opensWell rr2.prog && (frees rr2.toRowW && rr2.within.isEmpty))=true:=by decide +kernel
theorem PySem.Challenge.cw_tc0041_02_holds : PySem.Challenge.rw_tc0041_02.Holds := by
  refine holds_law said2 fun said=>?_
  refine holds_open (d:=rc 19) (kwd:=[]) (q:=vw2) (loose:=[Str.ofString "EXACT_TOKEN_TYPES"]) (Xt:=fun s=>xlAt vw2 [] s && recOk rr2.records s) (XP:=XL vw2 []) (Yf:=H2.obs) (Ya:=H2.val) (YP:=H2.says) (N:=4318) left2 H2.of H2.keeps (fun s e=>xl_of s (Bool.and_eq_true_iff.mp e).1) XL.keeps (by kernel_rfl) (by kernel_rfl) (by kernel_rfl) (fun s e=>recFacts_of (Bool.and_eq_true_iff.mp e).2) (by rfl) said ok2 ⟨rfl,rfl,rfl,rfl,rfl,by decide +kernel⟩ ?hw ?hc
  case hw=>w_witness2
  refine w_all (fun d₀ kwd₀ hd₀=>?_) (by kernel_rfl)
  intro w' s₀ s₁ mg mb G Y fa o pm cd doc dV kV ho hd hcd hD hmg hg args vals as hpre hlay hrd hwl hlo
  obtain ⟨Y,hw⟩:=Y
  subst hw
  have KX:=kIn_of Y
  refine Ground.open G ?_
  intro T B D TE TW
  wrow_args hpre hlay hrd hwl hlo
  rename_i ns _ _ _ _ _ _ _ l vs _ hL _ _ _ hI _ hlen _
  have hfa:mg "law" = some (.ref fa):=(congrArg mg (show d₀.name = "law" from defOf_name hd₀)).symm.trans hmg
  rw [mg_of KX T.g (show nsIn (KF2 w.params) mainGlobals "law" = some (some (.ref 149)) by kernel_rfl)] at hfa
  obtain rfl:=Value.ref.inj (some1 hfa)
  have GX:=gl_top KX T
  obtain ⟨back,hev⟩:=law_true ns (by lia)
  obtain ⟨oL,eL,cL,nL,dL⟩:=hL
  have good:=good_all fn_ok 119
  refine call_core (P:=P) (F:=Ev P 119) (F':=Ev P 120) rfl good.ex fn_ok (M:=fun _=>False) (X:=fun _=>False) GX ⟨rfl,by decide,by decide⟩ (.inr ?_) (fun b o e=>e) (fun b m=>m.elim) (fun b m=>m.elim) (fun b m=>m.elim) (fun b m=>m.elim)
    (.cons (.wlist (fun f=>f) ⟨oL,eL,cL,nL,dL⟩ (IntsAre.real hI) ?_) .nil) hev fun v s' M' st tk gn os stay S' up rv hb=>?_
  · intro f fd S body ps o' hf ho' hd' tf
    have hf':P.lookup 149=some f_law:=by rfl
    obtain rfl:=some1 (hf'.symm.trans hf)
    obtain ⟨a',o2,pm2,code2,doc2,h1,h2,h3,h4⟩:=T.fn _ (rc_mem (i:=19) (by decide))
    have h6:=h1.symm.trans (show mg "law" = some (.ref 149) from mg_of KX T.g (by kernel_rfl))
    obtain rfl:=Value.ref.inj (some1 h6)
    obtain rfl:=some1 (h2.symm.trans ho')
    obtain rfl:=Data.func.inj (h3.symm.trans hd')
    exact one_local tf rfl (x:= "script") rfl (by kernel_rfl)
  · rw [List.length_map,line_is]; lia
  · obtain rfl:=(show Real _ _ _ v (.bool true) from rv).inv
    refine PySem.W.GoodW.toG ⟨.inl ⟨.bool true,.bool true,[],rfl,fun cls=>rfl,.bool true,?_,fun _=>⟨List.nodup_nil,fun a h=>nomatch h⟩⟩,fun b o e=>st.keep b o (fun f=>f) e,os,gn.trans hg⟩
    first | rfl | (with_unfolding_all rfl)
