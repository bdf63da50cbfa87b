import PyProof.Rows.All
import Wide.All
import OpenK.AllK
import Wide.FinOn
import PySem.Challenge.RW_is0013_01
open PySem PySem.W PyProof.Rows PySem.Calls PySem.Spec
set_option Elab.async false
set_option maxRecDepth 100000
set_option maxHeartbeats 4000000
set_option linter.all false
noncomputable section
namespace Mine
inductive SV where
 |int (n:Int) |str (s:List Nat) |bool (b:Bool) |none
 deriving DecidableEq
theorem ob1 {α β:Type} {x:Option α} {f:α→Option β} {b:β} {G:Prop} (h:x.bind f=some b) (k:∀ a,x=some a→f a=some b→G):G:=by
 cases x with
 |none=>cases h
 |some a=>exact k a rfl h
theorem ob2 {α α' β:Type} {x:Option (α×α')} {f:α×α'→Option β} {b:β} {G:Prop} (h:x.bind f=some b) (k:∀ a a',x=some (a,a')→f (a,a')=some b→G):G:=
 ob1 h fun a=>k a.1 a.2
theorem ob3 {α α' α'' β:Type} {x:Option (α×α'×α'')} {f:α×α'×α''→Option β} {b:β} {G:Prop} (h:x.bind f=some b) (k:∀ a a' a'',x=some (a,a',a'')→f (a,a',a'')=some b→G):G:=
 ob1 h fun a=>k a.1 a.2.1 a.2.2
theorem om1 {α β:Type} {x:Option α} {f:α→β} {b:β} {G:Prop} (h:x.map f=some b) (k:∀ a,x=some a→f a=b→G):G:=by
 cases x with
 |none=>cases h
 |some a=>cases h;exact k a rfl rfl
theorem om2 {α α' β:Type} {x:Option (α×α')} {f:α×α'→β} {b:β} {G:Prop} (h:x.map f=some b) (k:∀ a a',x=some (a,a')→f (a,a')=b→G):G:=
 om1 h fun a=>k a.1 a.2
theorem om3 {α α' α'' β:Type} {x:Option (α×α'×α'')} {f:α×α'×α''→β} {b:β} {G:Prop} (h:x.map f=some b) (k:∀ a a' a'',x=some (a,a',a'')→f (a,a',a'')=b→G):G:=
 om1 h fun a=>k a.1 a.2.1 a.2.2
@[elab_as_elim] theorem op1 {α β γ:Type} {x:Option α} {f:α→β×γ} {r:β} {a:γ} {G:β→γ→Prop} (h:x.map f=some (r,a)) (k:∀ p,x=some p→G (f p).1 (f p).2):G r a:=by
 cases x with
 |none=>cases h
 |some p=>
  have e:f p=(r,a):=Option.some.inj h
  have:=k p rfl
  rw[e] at this
  exact this
@[elab_as_elim] theorem op2 {α α' β γ:Type} {x:Option (α×α')} {f:α×α'→β×γ} {r:β} {a:γ} {G:β→γ→Prop} (h:x.map f=some (r,a)) (k:∀ p p',x=some (p,p')→G (f (p,p')).1 (f (p,p')).2):G r a:=
 op1 h fun p=>k p.1 p.2
@[elab_as_elim] theorem oe2 {β γ:Type} {b:β} {c:γ} {r:β} {a:γ} {G:β→γ→Prop} (h:some (b,c)=some (r,a)) (k:G b c):G r a:=by
 cases h
 exact k
@[elab_as_elim] theorem oe3 {β γ δ:Type} {b:β} {c:γ} {d:δ} {r:β} {a:γ} {e:δ} {G:β→γ→δ→Prop} (h:some (b,c,d)=some (r,a,e)) (k:G b c d):G r a e:=by
 cases h
 exact k
theorem nn {α:Type} {a:α} {G:Prop} (h:(none:Option α)=some a):G:=by cases h
theorem ff {G:Prop} (h:false=true):G:=by cases h
theorem if_of {α:Type} {c:Prop} [Decidable c] {x r:α} {G:Prop} (h:(if c then some x else none)=some r) (k:c→x=r→G):G:=by
 by_cases q:c
 ·rw[if_pos q] at h;exact k q (Option.some.inj h)
 ·rw[if_neg q] at h;exact nn h
theorem if_on {α:Type} {c:Prop} [Decidable c] {x:Option α} {r:α} {G:Prop} (h:(if c then x else none)=some r) (k:c→x=some r→G):G:=by
 by_cases q:c
 ·rw[if_pos q] at h;exact k q h
 ·rw[if_neg q] at h;exact nn h
theorem if_or {α:Type} {c:Prop} [Decidable c] {x r:α} {y:Option α} {G:Prop} (h:(if c then some x else y)=some r) (k:c→x=r→G) (n:y=some r→G):G:=by
 by_cases q:c
 ·rw[if_pos q] at h;exact k q (Option.some.inj h)
 ·rw[if_neg q] at h;exact n h
theorem if_un {α:Type} {c:Prop} [Decidable c] {x:Option α} {r:α} {G:Prop} (h:(if c then none else x)=some r) (k:¬c→x=some r→G):G:=by
 by_cases q:c
 ·rw[if_pos q] at h;exact nn h
 ·rw[if_neg q] at h;exact k q h
theorem and_tt {a b:Bool} {G:Prop} (h:(a&&b)=true) (k:a=true→b=true→G):G:=k (Bool.and_eq_true_iff.mp h).1 (Bool.and_eq_true_iff.mp h).2
theorem len0 {α:Type} {P:List α→Prop} (k:P []):∀ l:List α,l.length=0→P l
 | [],_=>k
theorem len1 {α:Type} {P:List α→Prop} (k:∀ a,P [a]):∀ l:List α,l.length=1→P l
 | [a],_=>k a
theorem len2 {α:Type} {P:List α→Prop} (k:∀ a b,P [a,b]):∀ l:List α,l.length=2→P l
 | [a,b],_=>k a b
theorem len3 {α:Type} {P:List α→Prop} (k:∀ a b c,P [a,b,c]):∀ l:List α,l.length=3→P l
 | [a,b,c],_=>k a b c
theorem len4 {α:Type} {P:List α→Prop} (k:∀ a b c d,P [a,b,c,d]):∀ l:List α,l.length=4→P l
 | [a,b,c,d],_=>k a b c d
theorem wit2 {t0 t1:Type} {P:t0→t1→Prop} {y0 y1} (h:P y0 y1):∃ x0 x1,P x0 x1:=⟨y0,y1,h⟩
theorem wit3 {t0 t1 t2:Type} {P:t0→t1→t2→Prop} {y0 y1 y2} (h:P y0 y1 y2):∃ x0 x1 x2,P x0 x1 x2:=⟨y0,y1,y2,h⟩
theorem wit4 {t0 t1 t2 t3:Type} {P:t0→t1→t2→t3→Prop} {y0 y1 y2 y3} (h:P y0 y1 y2 y3):∃ x0 x1 x2 x3,P x0 x1 x2 x3:=⟨y0,y1,y2,y3,h⟩
theorem wit5 {t0 t1 t2 t3 t4:Type} {P:t0→t1→t2→t3→t4→Prop} {y0 y1 y2 y3 y4} (h:P y0 y1 y2 y3 y4):∃ x0 x1 x2 x3 x4,P x0 x1 x2 x3 x4:=⟨y0,y1,y2,y3,y4,h⟩
theorem wit6 {t0 t1 t2 t3 t4 t5:Type} {P:t0→t1→t2→t3→t4→t5→Prop} {y0 y1 y2 y3 y4 y5} (h:P y0 y1 y2 y3 y4 y5):∃ x0 x1 x2 x3 x4 x5,P x0 x1 x2 x3 x4 x5:=⟨y0,y1,y2,y3,y4,y5,h⟩
theorem wit7 {t0 t1 t2 t3 t4 t5 t6:Type} {P:t0→t1→t2→t3→t4→t5→t6→Prop} {y0 y1 y2 y3 y4 y5 y6} (h:P y0 y1 y2 y3 y4 y5 y6):∃ x0 x1 x2 x3 x4 x5 x6,P x0 x1 x2 x3 x4 x5 x6:=⟨y0,y1,y2,y3,y4,y5,y6,h⟩
theorem wit8 {t0 t1 t2 t3 t4 t5 t6 t7:Type} {P:t0→t1→t2→t3→t4→t5→t6→t7→Prop} {y0 y1 y2 y3 y4 y5 y6 y7} (h:P y0 y1 y2 y3 y4 y5 y6 y7):∃ x0 x1 x2 x3 x4 x5 x6 x7,P x0 x1 x2 x3 x4 x5 x6 x7:=⟨y0,y1,y2,y3,y4,y5,y6,y7,h⟩
theorem wit9 {t0 t1 t2 t3 t4 t5 t6 t7 t8:Type} {P:t0→t1→t2→t3→t4→t5→t6→t7→t8→Prop} {y0 y1 y2 y3 y4 y5 y6 y7 y8} (h:P y0 y1 y2 y3 y4 y5 y6 y7 y8):∃ x0 x1 x2 x3 x4 x5 x6 x7 x8,P x0 x1 x2 x3 x4 x5 x6 x7 x8:=⟨y0,y1,y2,y3,y4,y5,y6,y7,y8,h⟩
theorem inj1 {α:Type} {a x:α} {G:Prop} (h:some a=some x) (k:a=x→G):G:=k (Option.some.inj h)
theorem inj2 {α β:Type} {a x:α} {b y:β} {G:Prop} (h:some (a,b)=some (x,y)) (k:a=x→b=y→G):G:=by cases h;exact k rfl rfl
theorem inj3 {α β γ:Type} {a x:α} {b y:β} {c z:γ} {G:Prop} (h:some (a,b,c)=some (x,y,z)) (k:a=x→b=y→c=z→G):G:=by cases h;exact k rfl rfl rfl
theorem inp2 {α β:Type} {a x:α} {b y:β} {G:Prop} (h:(a,b)=(x,y)) (k:a=x→b=y→G):G:=by cases h;exact k rfl rfl
theorem inp3 {α β γ:Type} {a x:α} {b y:β} {c z:γ} {G:Prop} (h:(a,b,c)=(x,y,z)) (k:a=x→b=y→c=z→G):G:=by cases h;exact k rfl rfl rfl
theorem an2 {A B G:Prop} (h:A∧B) (k:A→B→G):G:=k h.1 h.2
theorem an3 {A B C G:Prop} (h:A∧B∧C) (k:A→B→C→G):G:=k h.1 h.2.1 h.2.2
noncomputable def allB (P:Nat→Prop):Nat→Prop
 |0=>True
 |n+1=>allB P n∧P n
theorem below {P:Nat→Prop}:∀ (n:Nat),allB P n→∀ j,j<n→P j
 |0,_,j,h=>absurd h (Nat.not_lt_zero j)
 |n+1,h,j,hj=>(Nat.lt_succ_iff_lt_or_eq.mp hj).elim (below n h.1 j) fun e=>e▸h.2
theorem nat_of {m:Int} {n:Nat} (h1:0≤m) (h2:m<n) {P:Int→Prop} (h:∀ j:Nat,j<n→P j):P m:=by
 have:=h m.toNat (by lia)
 rw[Int.toNat_of_nonneg h1] at this
 exact this
local macro_rules
 | `(tactic|injection $h:ident)=> `(tactic|first
   |(refine Mine.inj3 $h fun e1 e2 e3=> ?_;(first |subst e1 |cases e1);(first |subst e2 |cases e2);(first |subst e3 |cases e3))
   |(refine Mine.inj2 $h fun e1 e2=> ?_;(first |subst e1 |cases e1);(first |subst e2 |cases e2))
   |(refine Mine.inp3 $h fun e1 e2 e3=> ?_;(first |subst e1 |cases e1);(first |subst e2 |cases e2);(first |subst e3 |cases e3))
   |(refine Mine.inp2 $h fun e1 e2=> ?_;(first |subst e1 |cases e1);(first |subst e2 |cases e2))
   |(refine Mine.inj1 $h fun e1=> ?_;(first |subst e1 |cases e1)) |cases $h:ident)
section
noncomputable abbrev pw:=PySem.Challenge.pw_is0013_01
noncomputable abbrev kH:=PyData.keyHash
structure SetD where
 e:Array (Int×Value)
 n:Nat
 t:SetTable
noncomputable def SetD.obj (x:SetD):Obj:=⟨.type "set",none,.set x.e x.n x.t,#[]⟩
noncomputable def upd:BT→List (Nat×Obj)→BT
 |t,[]=>t
 |t,(a,o)::r=>upd (t.ins a o) r
noncomputable def lifeB:Life:={}
noncomputable def drawnB:Drawn:={}
noncomputable def tS (i:Nat):Stmt:=pw.main.body.getD i (.Pass ⟨0,0,0,0⟩)
noncomputable def clsBody:Stmt→List Stmt | .ClassDef _ _ _ b _ _ _ _ _ _ _=>b |_=>[]
noncomputable def clsScope:Stmt→Scope | .ClassDef _ _ _ _ _ _ s _ _ _ _=>s |_=>⟨.module,[],false,false,[]⟩
noncomputable def cS (i j:Nat):Stmt:=(clsBody (tS i)).getD j (.Pass ⟨0,0,0,0⟩)
noncomputable def fnParams:Stmt→Arguments | .FunctionDef _ a _ _ _ _ _ _ _ _=>a |_=>⟨[],[],none,[],[],none,[]⟩
noncomputable def fnBody:Stmt→List Stmt | .FunctionDef _ _ b _ _ _ _ _ _ _=>b |_=>[]
noncomputable def fnScope:Stmt→Scope | .FunctionDef _ _ _ _ _ _ s _ _ _=>s |_=>⟨.module,[],false,false,[]⟩
noncomputable def fnD (name qual:Str) (st:Stmt) (dV kV doc pm:Value) (an:Option Addr) (cdv ct:Value) (gl bl:Addr):Data:=
 .func { name:=name,qualname:=qual,params:=fnParams st,body:=.stmts (fnBody st),scope:=fnScope st,globals:=gl,closure:=[],defaults:=dV,kwdefaults:=kV,doc:=doc,pyModule:=pm,annotations:=an,code:=cdv,closureTuple:=ct,builtins:=bl }
noncomputable def trB (P:Params):BT:=upd .nil [(0,boot_o_0 P),(1,boot_o_1 P),(2,boot_o_2 P),(3,boot_o_3 P),(4,boot_o_4 P),(5,boot_o_5 P),(6,boot_o_6 P),(7,boot_o_7 P),(8,boot_o_8 P),(9,boot_o_9 P),(10,boot_o_10 P)]
noncomputable def q (s:String) (n:Nat):Value:=.str (.ofString s) n
noncomputable def z (n:Int):Value:=.int n 0
noncomputable def kd (P:Params) (s:String) (n:Nat) (v:Value):DictEntry:=⟨kH P (.ofString s),.str (.ofString s) n,v⟩
noncomputable def tO (a:Array Value) (n:Nat):Obj:=⟨.type "tuple",none,.seq a n,#[]⟩
noncomputable def cO (a:Array Value):Obj:=⟨.type "code",none,.fields a,#[]⟩
noncomputable def fO (a:Array Value):Obj:=⟨.none,none,.fields a,#[]⟩
noncomputable def dO (a:Array DictEntry) (n:Nat):Obj:=⟨.type "dict",none,.dict a n,#[]⟩
noncomputable def o11 (P:Params):Obj:=tO #[] 0
noncomputable def o12 (P:Params):Obj:=fO #[]
noncomputable def o13 (P:Params):Obj:=cO #[(q "<module>" 182),(q "<module>" 183),(q "/claim/cut.py" 184),(z 1),(z 0),(z 0),(z 0),(z 0),(.ref 11),(.bool false),(z 181),(.ref 12),.none,.none,.none,.none,(z 185),(z 1),(q "/claim/cut.py" 186)]
noncomputable def o14 (P:Params):Obj:=⟨(.type "frame"),none,.plain,#[(some (.ref 13)),(some (.ref 3)),(some (.ref 3)),none,(some (q "__main__" 164)),none,(some (.ref 0))]⟩
noncomputable def tr0 (P:Params):BT:=upd (trB P) [(11,o11 P),(12,o12 P),(13,o13 P),(14,o14 P)]
noncomputable def S0 (w:World) (os:OsState):SharedT:=⟨tr0 w.params ,15,lifeB,#[],drawnB,187,os⟩
noncomputable def o3v1 (P:Params):Obj:=dO #[kd P "__name__" 165 (q "snowballstemmer.basestemmer" 194),kd P "__doc__" 166 .none,kd P "__package__" 167 .none,kd P "__loader__" 168 (.builtin "__main__.__loader__#opaque"),kd P "__spec__" 169 .none,kd P "__annotations__" 170 (.ref 6),kd P "__builtins__" 171 (.ref 4),kd P "__file__" 173 (q "/claim/cut.py" 172),kd P "__cached__" 174 .none,kd P "_wall" 193 (.ref 21)] 10
noncomputable def o12v1 (P:Params):Obj:=fO #[(z 1),(z 0),(.ref 20)]
noncomputable def o15 (P:Params):Obj:=tO #[] 0
noncomputable def o16 (P:Params):Obj:=fO #[]
noncomputable def o17 (P:Params):Obj:=tO #[(q "k" 190)] 0
noncomputable def o18 (P:Params):Obj:=tO #[] 0
noncomputable def o19 (P:Params):Obj:=⟨.none,none,(fnD (.ofString "_wall") (.ofString "_wall") (tS 0) .none .none .none .none none .none .none 0 0),#[]⟩
noncomputable def o20 (P:Params):Obj:=cO #[(q "_wall" 187),(q "_wall" 188),(q "/claim/cut.py" 189),(z 1),(z 1),(z 0),(z 0),(z 3),(.ref 15),(.bool true),(z 181),(.ref 16),.none,(.ref 17),(.ref 18),(.ref 19),(z 191),(z 1),(q "/claim/cut.py" 192)]
noncomputable def o21 (P:Params):Obj:=⟨(.type "function"),none,(fnD (.ofString "_wall") (.ofString "_wall") (tS 0) .none .none .none (q "__main__" 164) none (.ref 20) .none 3 0),#[]⟩
noncomputable def tr1 (P:Params):BT:=upd (tr0 P ) [(3,o3v1 P),(12,o12v1 P),(15,o15 P),(16,o16 P),(17,o17 P),(18,o18 P),(19,o19 P),(20,o20 P),(21,o21 P)]
noncomputable def S1 (w:World) (os:OsState):SharedT:=⟨tr1 w.params ,22,lifeB,#[],drawnB,196,os⟩
noncomputable def o3v2 (P:Params):Obj:=dO #[kd P "__name__" 165 (q "snowballstemmer.basestemmer" 194),kd P "__doc__" 166 .none,kd P "__package__" 167 .none,kd P "__loader__" 168 (.builtin "__main__.__loader__#opaque"),kd P "__spec__" 169 .none,kd P "__annotations__" 170 (.ref 6),kd P "__builtins__" 171 (.ref 4),kd P "__file__" 173 (q "/claim/cut.py" 172),kd P "__cached__" 174 .none,kd P "_wall" 193 (.ref 21),kd P "BaseStemmer" 437 (.ref 199)] 11
noncomputable def o12v2 (P:Params):Obj:=fO #[(z 1),(z 0),(.ref 20),(z 5),(z 0),(.ref 27)]
noncomputable def o22 (P:Params):Obj:=tO #[] 0
noncomputable def o23 (P:Params):Obj:=⟨(.type "builtin_function_or_method"),none,(.fields #[(.builtin "type.__prepare__"),(.type "type")]),#[]⟩
noncomputable def o24 (P:Params):Obj:=dO #[kd P "__module__" 203 (q "snowballstemmer.basestemmer" 194),kd P "__qualname__" 205 (q "BaseStemmer" 204),kd P "__firstlineno__" 207 (.int 5 206),kd P "__init__" 214 (.ref 35),kd P "set_current" 222 (.ref 42),kd P "get_current" 229 (.ref 49),kd P "copy_from" 237 (.ref 56),kd P "in_grouping" 245 (.ref 63),kd P "go_in_grouping" 253 (.ref 70),kd P "in_grouping_b" 261 (.ref 77),kd P "go_in_grouping_b" 269 (.ref 84),kd P "out_grouping" 277 (.ref 91),kd P "go_out_grouping" 285 (.ref 98),kd P "out_grouping_b" 293 (.ref 105),kd P "go_out_grouping_b" 301 (.ref 112),kd P "eq_s" 309 (.ref 119),kd P "eq_s_b" 317 (.ref 126),kd P "find_among" 337 (.ref 133),kd P "find_among_b" 357 (.ref 140),kd P "replace_s" 368 (.ref 147),kd P "slice_from" 376 (.ref 154),kd P "slice_del" 383 (.ref 161),kd P "insert" 393 (.ref 168),kd P "slice_to" 400 (.ref 175),kd P "assign_to" 407 (.ref 182),kd P "stemWord" 415 (.ref 189),kd P "stemWords" 423 (.ref 196),kd P "__static_attributes__" 430 (.ref 197)] 28
noncomputable def o25 (P:Params):Obj:=tO #[] 0
noncomputable def o26 (P:Params):Obj:=fO #[(z 7),(z 4),(.ref 34),(z 10),(z 4),(.ref 41),(z 18),(z 4),(.ref 48),(z 21),(z 4),(.ref 55),(z 24),(z 4),(.ref 62),(z 32),(z 4),(.ref 69),(z 39),(z 4),(.ref 76),(z 42),(z 4),(.ref 83),(z 45),(z 4),(.ref 90),(z 48),(z 4),(.ref 97),(z 55),(z 4),(.ref 104),(z 63),(z 4),(.ref 111),(z 66),(z 4),(.ref 118),(z 69),(z 4),(.ref 125),(z 75),(z 4),(.ref 132),(z 120),(z 4),(.ref 139),(z 165),(z 4),(.ref 146),(z 175),(z 4),(.ref 153),(z 183),(z 4),(.ref 160),(z 186),(z 4),(.ref 167),(z 189),(z 4),(.ref 174),(z 192),(z 4),(.ref 181),(z 195),(z 4),(.ref 188),(z 200),(z 4),(.ref 195)]
noncomputable def o27 (P:Params):Obj:=cO #[(q "BaseStemmer" 198),(q "BaseStemmer" 199),(q "/claim/cut.py" 200),(z 5),(z 0),(z 0),(z 0),(z 0),(.ref 25),(.bool false),(z 181),(.ref 26),.none,.none,.none,.none,(z 201),(z 5),(q "/claim/cut.py" 202)]
noncomputable def o28 (P:Params):Obj:=⟨(.type "frame"),none,.plain,#[(some (.ref 27)),(some (.ref 3)),(some (.ref 24)),none,(some (q "snowballstemmer.basestemmer" 194)),none,(some (.ref 0))]⟩
noncomputable def o29 (P:Params):Obj:=tO #[] 0
noncomputable def o30 (P:Params):Obj:=fO #[]
noncomputable def o31 (P:Params):Obj:=tO #[(q "self" 211)] 0
noncomputable def o32 (P:Params):Obj:=tO #[] 0
noncomputable def o33 (P:Params):Obj:=⟨.none,none,(fnD (.ofString "__init__") (.ofString "BaseStemmer.__init__") (cS 2 0) .none .none .none .none none .none .none 0 0),#[]⟩
noncomputable def o34 (P:Params):Obj:=cO #[(q "__init__" 208),(q "BaseStemmer.__init__" 209),(q "/claim/cut.py" 210),(z 7),(z 1),(z 0),(z 0),(z 3),(.ref 29),(.bool true),(z 181),(.ref 30),.none,(.ref 31),(.ref 32),(.ref 33),(z 212),(z 7),(q "/claim/cut.py" 213)]
noncomputable def o35 (P:Params):Obj:=⟨(.type "function"),none,(fnD (.ofString "__init__") (.ofString "BaseStemmer.__init__") (cS 2 0) .none .none .none (q "snowballstemmer.basestemmer" 194) none (.ref 34) .none 3 0),#[]⟩
noncomputable def o36 (P:Params):Obj:=tO #[] 0
noncomputable def o37 (P:Params):Obj:=fO #[]
noncomputable def o38 (P:Params):Obj:=tO #[(q "self" 218),(q "value" 219)] 0
noncomputable def o39 (P:Params):Obj:=tO #[] 0
noncomputable def o40 (P:Params):Obj:=⟨.none,none,(fnD (.ofString "set_current") (.ofString "BaseStemmer.set_current") (cS 2 1) .none .none .none .none none .none .none 0 0),#[]⟩
noncomputable def o41 (P:Params):Obj:=cO #[(q "set_current" 215),(q "BaseStemmer.set_current" 216),(q "/claim/cut.py" 217),(z 10),(z 2),(z 0),(z 0),(z 3),(.ref 36),(.bool true),(z 181),(.ref 37),.none,(.ref 38),(.ref 39),(.ref 40),(z 220),(z 10),(q "/claim/cut.py" 221)]
noncomputable def o42 (P:Params):Obj:=⟨(.type "function"),none,(fnD (.ofString "set_current") (.ofString "BaseStemmer.set_current") (cS 2 1) .none .none .none (q "snowballstemmer.basestemmer" 194) none (.ref 41) .none 3 0),#[]⟩
noncomputable def o43 (P:Params):Obj:=tO #[] 0
noncomputable def o44 (P:Params):Obj:=fO #[]
noncomputable def o45 (P:Params):Obj:=tO #[(q "self" 226)] 0
noncomputable def o46 (P:Params):Obj:=tO #[] 0
noncomputable def o47 (P:Params):Obj:=⟨.none,none,(fnD (.ofString "get_current") (.ofString "BaseStemmer.get_current") (cS 2 2) .none .none .none .none none .none .none 0 0),#[]⟩
noncomputable def o48 (P:Params):Obj:=cO #[(q "get_current" 223),(q "BaseStemmer.get_current" 224),(q "/claim/cut.py" 225),(z 18),(z 1),(z 0),(z 0),(z 3),(.ref 43),(.bool true),(z 181),(.ref 44),.none,(.ref 45),(.ref 46),(.ref 47),(z 227),(z 18),(q "/claim/cut.py" 228)]
noncomputable def o49 (P:Params):Obj:=⟨(.type "function"),none,(fnD (.ofString "get_current") (.ofString "BaseStemmer.get_current") (cS 2 2) .none .none .none (q "snowballstemmer.basestemmer" 194) none (.ref 48) .none 3 0),#[]⟩
noncomputable def o50 (P:Params):Obj:=tO #[] 0
noncomputable def o51 (P:Params):Obj:=fO #[]
noncomputable def o52 (P:Params):Obj:=tO #[(q "self" 233),(q "other" 234)] 0
noncomputable def o53 (P:Params):Obj:=tO #[] 0
noncomputable def o54 (P:Params):Obj:=⟨.none,none,(fnD (.ofString "copy_from") (.ofString "BaseStemmer.copy_from") (cS 2 3) .none .none .none .none none .none .none 0 0),#[]⟩
noncomputable def o55 (P:Params):Obj:=cO #[(q "copy_from" 230),(q "BaseStemmer.copy_from" 231),(q "/claim/cut.py" 232),(z 21),(z 2),(z 0),(z 0),(z 3),(.ref 50),(.bool true),(z 181),(.ref 51),.none,(.ref 52),(.ref 53),(.ref 54),(z 235),(z 21),(q "/claim/cut.py" 236)]
noncomputable def o56 (P:Params):Obj:=⟨(.type "function"),none,(fnD (.ofString "copy_from") (.ofString "BaseStemmer.copy_from") (cS 2 3) .none .none .none (q "snowballstemmer.basestemmer" 194) none (.ref 55) .none 3 0),#[]⟩
noncomputable def o57 (P:Params):Obj:=tO #[] 0
noncomputable def o58 (P:Params):Obj:=fO #[]
noncomputable def o59 (P:Params):Obj:=tO #[(q "self" 241),(q "s" 242)] 0
noncomputable def o60 (P:Params):Obj:=tO #[] 0
noncomputable def o61 (P:Params):Obj:=⟨.none,none,(fnD (.ofString "in_grouping") (.ofString "BaseStemmer.in_grouping") (cS 2 4) .none .none .none .none none .none .none 0 0),#[]⟩
noncomputable def o62 (P:Params):Obj:=cO #[(q "in_grouping" 238),(q "BaseStemmer.in_grouping" 239),(q "/claim/cut.py" 240),(z 24),(z 2),(z 0),(z 0),(z 3),(.ref 57),(.bool true),(z 181),(.ref 58),.none,(.ref 59),(.ref 60),(.ref 61),(z 243),(z 24),(q "/claim/cut.py" 244)]
noncomputable def o63 (P:Params):Obj:=⟨(.type "function"),none,(fnD (.ofString "in_grouping") (.ofString "BaseStemmer.in_grouping") (cS 2 4) .none .none .none (q "snowballstemmer.basestemmer" 194) none (.ref 62) .none 3 0),#[]⟩
noncomputable def o64 (P:Params):Obj:=tO #[] 0
noncomputable def o65 (P:Params):Obj:=fO #[]
noncomputable def o66 (P:Params):Obj:=tO #[(q "self" 249),(q "s" 250)] 0
noncomputable def o67 (P:Params):Obj:=tO #[] 0
noncomputable def o68 (P:Params):Obj:=⟨.none,none,(fnD (.ofString "go_in_grouping") (.ofString "BaseStemmer.go_in_grouping") (cS 2 5) .none .none .none .none none .none .none 0 0),#[]⟩
noncomputable def o69 (P:Params):Obj:=cO #[(q "go_in_grouping" 246),(q "BaseStemmer.go_in_grouping" 247),(q "/claim/cut.py" 248),(z 32),(z 2),(z 0),(z 0),(z 3),(.ref 64),(.bool true),(z 181),(.ref 65),.none,(.ref 66),(.ref 67),(.ref 68),(z 251),(z 32),(q "/claim/cut.py" 252)]
noncomputable def o70 (P:Params):Obj:=⟨(.type "function"),none,(fnD (.ofString "go_in_grouping") (.ofString "BaseStemmer.go_in_grouping") (cS 2 5) .none .none .none (q "snowballstemmer.basestemmer" 194) none (.ref 69) .none 3 0),#[]⟩
noncomputable def o71 (P:Params):Obj:=tO #[] 0
noncomputable def o72 (P:Params):Obj:=fO #[]
noncomputable def o73 (P:Params):Obj:=tO #[(q "self" 257),(q "s" 258)] 0
noncomputable def o74 (P:Params):Obj:=tO #[] 0
noncomputable def o75 (P:Params):Obj:=⟨.none,none,(fnD (.ofString "in_grouping_b") (.ofString "BaseStemmer.in_grouping_b") (cS 2 6) .none .none .none .none none .none .none 0 0),#[]⟩
noncomputable def o76 (P:Params):Obj:=cO #[(q "in_grouping_b" 254),(q "BaseStemmer.in_grouping_b" 255),(q "/claim/cut.py" 256),(z 39),(z 2),(z 0),(z 0),(z 3),(.ref 71),(.bool true),(z 181),(.ref 72),.none,(.ref 73),(.ref 74),(.ref 75),(z 259),(z 39),(q "/claim/cut.py" 260)]
noncomputable def o77 (P:Params):Obj:=⟨(.type "function"),none,(fnD (.ofString "in_grouping_b") (.ofString "BaseStemmer.in_grouping_b") (cS 2 6) .none .none .none (q "snowballstemmer.basestemmer" 194) none (.ref 76) .none 3 0),#[]⟩
noncomputable def o78 (P:Params):Obj:=tO #[] 0
noncomputable def o79 (P:Params):Obj:=fO #[]
noncomputable def o80 (P:Params):Obj:=tO #[(q "self" 265),(q "s" 266)] 0
noncomputable def o81 (P:Params):Obj:=tO #[] 0
noncomputable def o82 (P:Params):Obj:=⟨.none,none,(fnD (.ofString "go_in_grouping_b") (.ofString "BaseStemmer.go_in_grouping_b") (cS 2 7) .none .none .none .none none .none .none 0 0),#[]⟩
noncomputable def o83 (P:Params):Obj:=cO #[(q "go_in_grouping_b" 262),(q "BaseStemmer.go_in_grouping_b" 263),(q "/claim/cut.py" 264),(z 42),(z 2),(z 0),(z 0),(z 3),(.ref 78),(.bool true),(z 181),(.ref 79),.none,(.ref 80),(.ref 81),(.ref 82),(z 267),(z 42),(q "/claim/cut.py" 268)]
noncomputable def o84 (P:Params):Obj:=⟨(.type "function"),none,(fnD (.ofString "go_in_grouping_b") (.ofString "BaseStemmer.go_in_grouping_b") (cS 2 7) .none .none .none (q "snowballstemmer.basestemmer" 194) none (.ref 83) .none 3 0),#[]⟩
noncomputable def o85 (P:Params):Obj:=tO #[] 0
noncomputable def o86 (P:Params):Obj:=fO #[]
noncomputable def o87 (P:Params):Obj:=tO #[(q "self" 273),(q "s" 274)] 0
noncomputable def o88 (P:Params):Obj:=tO #[] 0
noncomputable def o89 (P:Params):Obj:=⟨.none,none,(fnD (.ofString "out_grouping") (.ofString "BaseStemmer.out_grouping") (cS 2 8) .none .none .none .none none .none .none 0 0),#[]⟩
noncomputable def o90 (P:Params):Obj:=cO #[(q "out_grouping" 270),(q "BaseStemmer.out_grouping" 271),(q "/claim/cut.py" 272),(z 45),(z 2),(z 0),(z 0),(z 3),(.ref 85),(.bool true),(z 181),(.ref 86),.none,(.ref 87),(.ref 88),(.ref 89),(z 275),(z 45),(q "/claim/cut.py" 276)]
noncomputable def o91 (P:Params):Obj:=⟨(.type "function"),none,(fnD (.ofString "out_grouping") (.ofString "BaseStemmer.out_grouping") (cS 2 8) .none .none .none (q "snowballstemmer.basestemmer" 194) none (.ref 90) .none 3 0),#[]⟩
noncomputable def o92 (P:Params):Obj:=tO #[] 0
noncomputable def o93 (P:Params):Obj:=fO #[]
noncomputable def o94 (P:Params):Obj:=tO #[(q "self" 281),(q "s" 282)] 0
noncomputable def o95 (P:Params):Obj:=tO #[] 0
noncomputable def o96 (P:Params):Obj:=⟨.none,none,(fnD (.ofString "go_out_grouping") (.ofString "BaseStemmer.go_out_grouping") (cS 2 9) .none .none .none .none none .none .none 0 0),#[]⟩
noncomputable def o97 (P:Params):Obj:=cO #[(q "go_out_grouping" 278),(q "BaseStemmer.go_out_grouping" 279),(q "/claim/cut.py" 280),(z 48),(z 2),(z 0),(z 0),(z 3),(.ref 92),(.bool true),(z 181),(.ref 93),.none,(.ref 94),(.ref 95),(.ref 96),(z 283),(z 48),(q "/claim/cut.py" 284)]
noncomputable def o98 (P:Params):Obj:=⟨(.type "function"),none,(fnD (.ofString "go_out_grouping") (.ofString "BaseStemmer.go_out_grouping") (cS 2 9) .none .none .none (q "snowballstemmer.basestemmer" 194) none (.ref 97) .none 3 0),#[]⟩
noncomputable def o99 (P:Params):Obj:=tO #[] 0
noncomputable def o100 (P:Params):Obj:=fO #[]
noncomputable def o101 (P:Params):Obj:=tO #[(q "self" 289),(q "s" 290)] 0
noncomputable def o102 (P:Params):Obj:=tO #[] 0
noncomputable def o103 (P:Params):Obj:=⟨.none,none,(fnD (.ofString "out_grouping_b") (.ofString "BaseStemmer.out_grouping_b") (cS 2 10) .none .none .none .none none .none .none 0 0),#[]⟩
noncomputable def o104 (P:Params):Obj:=cO #[(q "out_grouping_b" 286),(q "BaseStemmer.out_grouping_b" 287),(q "/claim/cut.py" 288),(z 55),(z 2),(z 0),(z 0),(z 3),(.ref 99),(.bool true),(z 181),(.ref 100),.none,(.ref 101),(.ref 102),(.ref 103),(z 291),(z 55),(q "/claim/cut.py" 292)]
noncomputable def o105 (P:Params):Obj:=⟨(.type "function"),none,(fnD (.ofString "out_grouping_b") (.ofString "BaseStemmer.out_grouping_b") (cS 2 10) .none .none .none (q "snowballstemmer.basestemmer" 194) none (.ref 104) .none 3 0),#[]⟩
noncomputable def o106 (P:Params):Obj:=tO #[] 0
noncomputable def o107 (P:Params):Obj:=fO #[]
noncomputable def o108 (P:Params):Obj:=tO #[(q "self" 297),(q "s" 298)] 0
noncomputable def o109 (P:Params):Obj:=tO #[] 0
noncomputable def o110 (P:Params):Obj:=⟨.none,none,(fnD (.ofString "go_out_grouping_b") (.ofString "BaseStemmer.go_out_grouping_b") (cS 2 11) .none .none .none .none none .none .none 0 0),#[]⟩
noncomputable def o111 (P:Params):Obj:=cO #[(q "go_out_grouping_b" 294),(q "BaseStemmer.go_out_grouping_b" 295),(q "/claim/cut.py" 296),(z 63),(z 2),(z 0),(z 0),(z 3),(.ref 106),(.bool true),(z 181),(.ref 107),.none,(.ref 108),(.ref 109),(.ref 110),(z 299),(z 63),(q "/claim/cut.py" 300)]
noncomputable def o112 (P:Params):Obj:=⟨(.type "function"),none,(fnD (.ofString "go_out_grouping_b") (.ofString "BaseStemmer.go_out_grouping_b") (cS 2 11) .none .none .none (q "snowballstemmer.basestemmer" 194) none (.ref 111) .none 3 0),#[]⟩
noncomputable def o113 (P:Params):Obj:=tO #[] 0
noncomputable def o114 (P:Params):Obj:=fO #[]
noncomputable def o115 (P:Params):Obj:=tO #[(q "self" 305),(q "s" 306)] 0
noncomputable def o116 (P:Params):Obj:=tO #[] 0
noncomputable def o117 (P:Params):Obj:=⟨.none,none,(fnD (.ofString "eq_s") (.ofString "BaseStemmer.eq_s") (cS 2 12) .none .none .none .none none .none .none 0 0),#[]⟩
noncomputable def o118 (P:Params):Obj:=cO #[(q "eq_s" 302),(q "BaseStemmer.eq_s" 303),(q "/claim/cut.py" 304),(z 66),(z 2),(z 0),(z 0),(z 3),(.ref 113),(.bool true),(z 181),(.ref 114),.none,(.ref 115),(.ref 116),(.ref 117),(z 307),(z 66),(q "/claim/cut.py" 308)]
noncomputable def o119 (P:Params):Obj:=⟨(.type "function"),none,(fnD (.ofString "eq_s") (.ofString "BaseStemmer.eq_s") (cS 2 12) .none .none .none (q "snowballstemmer.basestemmer" 194) none (.ref 118) .none 3 0),#[]⟩
noncomputable def o120 (P:Params):Obj:=tO #[] 0
noncomputable def o121 (P:Params):Obj:=fO #[]
noncomputable def o122 (P:Params):Obj:=tO #[(q "self" 313),(q "s" 314)] 0
noncomputable def o123 (P:Params):Obj:=tO #[] 0
noncomputable def o124 (P:Params):Obj:=⟨.none,none,(fnD (.ofString "eq_s_b") (.ofString "BaseStemmer.eq_s_b") (cS 2 13) .none .none .none .none none .none .none 0 0),#[]⟩
noncomputable def o125 (P:Params):Obj:=cO #[(q "eq_s_b" 310),(q "BaseStemmer.eq_s_b" 311),(q "/claim/cut.py" 312),(z 69),(z 2),(z 0),(z 0),(z 3),(.ref 120),(.bool true),(z 181),(.ref 121),.none,(.ref 122),(.ref 123),(.ref 124),(z 315),(z 69),(q "/claim/cut.py" 316)]
noncomputable def o126 (P:Params):Obj:=⟨(.type "function"),none,(fnD (.ofString "eq_s_b") (.ofString "BaseStemmer.eq_s_b") (cS 2 13) .none .none .none (q "snowballstemmer.basestemmer" 194) none (.ref 125) .none 3 0),#[]⟩
noncomputable def o127 (P:Params):Obj:=tO #[] 0
noncomputable def o128 (P:Params):Obj:=fO #[]
noncomputable def o129 (P:Params):Obj:=tO #[(q "self" 321),(q "v" 322),(q "i" 323),(q "j" 324),(q "c" 325),(q "l" 326),(q "common_i" 327),(q "common_j" 328),(q "first_key_inspected" 329),(q "k" 330),(q "diff" 331),(q "common" 332),(q "w" 333),(q "i2" 334)] 0
noncomputable def o130 (P:Params):Obj:=tO #[] 0
noncomputable def o131 (P:Params):Obj:=⟨.none,none,(fnD (.ofString "find_among") (.ofString "BaseStemmer.find_among") (cS 2 14) .none .none .none .none none .none .none 0 0),#[]⟩
noncomputable def o132 (P:Params):Obj:=cO #[(q "find_among" 318),(q "BaseStemmer.find_among" 319),(q "/claim/cut.py" 320),(z 75),(z 2),(z 0),(z 0),(z 3),(.ref 127),(.bool true),(z 181),(.ref 128),.none,(.ref 129),(.ref 130),(.ref 131),(z 335),(z 75),(q "/claim/cut.py" 336)]
noncomputable def o133 (P:Params):Obj:=⟨(.type "function"),none,(fnD (.ofString "find_among") (.ofString "BaseStemmer.find_among") (cS 2 14) .none .none .none (q "snowballstemmer.basestemmer" 194) none (.ref 132) .none 3 0),#[]⟩
noncomputable def o134 (P:Params):Obj:=tO #[] 0
noncomputable def o135 (P:Params):Obj:=fO #[]
noncomputable def o136 (P:Params):Obj:=tO #[(q "self" 341),(q "v" 342),(q "i" 343),(q "j" 344),(q "c" 345),(q "lb" 346),(q "common_i" 347),(q "common_j" 348),(q "first_key_inspected" 349),(q "k" 350),(q "diff" 351),(q "common" 352),(q "w" 353),(q "i2" 354)] 0
noncomputable def o137 (P:Params):Obj:=tO #[] 0
noncomputable def o138 (P:Params):Obj:=⟨.none,none,(fnD (.ofString "find_among_b") (.ofString "BaseStemmer.find_among_b") (cS 2 15) .none .none .none .none none .none .none 0 0),#[]⟩
noncomputable def o139 (P:Params):Obj:=cO #[(q "find_among_b" 338),(q "BaseStemmer.find_among_b" 339),(q "/claim/cut.py" 340),(z 120),(z 2),(z 0),(z 0),(z 3),(.ref 134),(.bool true),(z 181),(.ref 135),.none,(.ref 136),(.ref 137),(.ref 138),(z 355),(z 120),(q "/claim/cut.py" 356)]
noncomputable def o140 (P:Params):Obj:=⟨(.type "function"),none,(fnD (.ofString "find_among_b") (.ofString "BaseStemmer.find_among_b") (cS 2 15) .none .none .none (q "snowballstemmer.basestemmer" 194) none (.ref 139) .none 3 0),#[]⟩
noncomputable def o141 (P:Params):Obj:=tO #[] 0
noncomputable def o142 (P:Params):Obj:=fO #[]
noncomputable def o143 (P:Params):Obj:=tO #[(q "self" 361),(q "c_bra" 362),(q "c_ket" 363),(q "s" 364),(q "adjustment" 365)] 0
noncomputable def o144 (P:Params):Obj:=tO #[] 0
noncomputable def o145 (P:Params):Obj:=⟨.none,none,(fnD (.ofString "replace_s") (.ofString "BaseStemmer.replace_s") (cS 2 16) .none .none .none .none none .none .none 0 0),#[]⟩
noncomputable def o146 (P:Params):Obj:=cO #[(q "replace_s" 358),(q "BaseStemmer.replace_s" 359),(q "/claim/cut.py" 360),(z 165),(z 4),(z 0),(z 0),(z 3),(.ref 141),(.bool true),(z 181),(.ref 142),.none,(.ref 143),(.ref 144),(.ref 145),(z 366),(z 165),(q "/claim/cut.py" 367)]
noncomputable def o147 (P:Params):Obj:=⟨(.type "function"),none,(fnD (.ofString "replace_s") (.ofString "BaseStemmer.replace_s") (cS 2 16) .none .none .none (q "snowballstemmer.basestemmer" 194) none (.ref 146) .none 3 0),#[]⟩
noncomputable def o148 (P:Params):Obj:=tO #[] 0
noncomputable def o149 (P:Params):Obj:=fO #[]
noncomputable def o150 (P:Params):Obj:=tO #[(q "self" 372),(q "s" 373)] 0
noncomputable def o151 (P:Params):Obj:=tO #[] 0
noncomputable def o152 (P:Params):Obj:=⟨.none,none,(fnD (.ofString "slice_from") (.ofString "BaseStemmer.slice_from") (cS 2 17) .none .none .none .none none .none .none 0 0),#[]⟩
noncomputable def o153 (P:Params):Obj:=cO #[(q "slice_from" 369),(q "BaseStemmer.slice_from" 370),(q "/claim/cut.py" 371),(z 175),(z 2),(z 0),(z 0),(z 3),(.ref 148),(.bool true),(z 181),(.ref 149),.none,(.ref 150),(.ref 151),(.ref 152),(z 374),(z 175),(q "/claim/cut.py" 375)]
noncomputable def o154 (P:Params):Obj:=⟨(.type "function"),none,(fnD (.ofString "slice_from") (.ofString "BaseStemmer.slice_from") (cS 2 17) .none .none .none (q "snowballstemmer.basestemmer" 194) none (.ref 153) .none 3 0),#[]⟩
noncomputable def o155 (P:Params):Obj:=tO #[] 0
noncomputable def o156 (P:Params):Obj:=fO #[]
noncomputable def o157 (P:Params):Obj:=tO #[(q "self" 380)] 0
noncomputable def o158 (P:Params):Obj:=tO #[] 0
noncomputable def o159 (P:Params):Obj:=⟨.none,none,(fnD (.ofString "slice_del") (.ofString "BaseStemmer.slice_del") (cS 2 18) .none .none .none .none none .none .none 0 0),#[]⟩
noncomputable def o160 (P:Params):Obj:=cO #[(q "slice_del" 377),(q "BaseStemmer.slice_del" 378),(q "/claim/cut.py" 379),(z 183),(z 1),(z 0),(z 0),(z 3),(.ref 155),(.bool true),(z 181),(.ref 156),.none,(.ref 157),(.ref 158),(.ref 159),(z 381),(z 183),(q "/claim/cut.py" 382)]
noncomputable def o161 (P:Params):Obj:=⟨(.type "function"),none,(fnD (.ofString "slice_del") (.ofString "BaseStemmer.slice_del") (cS 2 18) .none .none .none (q "snowballstemmer.basestemmer" 194) none (.ref 160) .none 3 0),#[]⟩
noncomputable def o162 (P:Params):Obj:=tO #[] 0
noncomputable def o163 (P:Params):Obj:=fO #[]
noncomputable def o164 (P:Params):Obj:=tO #[(q "self" 387),(q "c_bra" 388),(q "c_ket" 389),(q "s" 390)] 0
noncomputable def o165 (P:Params):Obj:=tO #[] 0
noncomputable def o166 (P:Params):Obj:=⟨.none,none,(fnD (.ofString "insert") (.ofString "BaseStemmer.insert") (cS 2 19) .none .none .none .none none .none .none 0 0),#[]⟩
noncomputable def o167 (P:Params):Obj:=cO #[(q "insert" 384),(q "BaseStemmer.insert" 385),(q "/claim/cut.py" 386),(z 186),(z 4),(z 0),(z 0),(z 3),(.ref 162),(.bool true),(z 181),(.ref 163),.none,(.ref 164),(.ref 165),(.ref 166),(z 391),(z 186),(q "/claim/cut.py" 392)]
noncomputable def o168 (P:Params):Obj:=⟨(.type "function"),none,(fnD (.ofString "insert") (.ofString "BaseStemmer.insert") (cS 2 19) .none .none .none (q "snowballstemmer.basestemmer" 194) none (.ref 167) .none 3 0),#[]⟩
noncomputable def o169 (P:Params):Obj:=tO #[] 0
noncomputable def o170 (P:Params):Obj:=fO #[]
noncomputable def o171 (P:Params):Obj:=tO #[(q "self" 397)] 0
noncomputable def o172 (P:Params):Obj:=tO #[] 0
noncomputable def o173 (P:Params):Obj:=⟨.none,none,(fnD (.ofString "slice_to") (.ofString "BaseStemmer.slice_to") (cS 2 20) .none .none .none .none none .none .none 0 0),#[]⟩
noncomputable def o174 (P:Params):Obj:=cO #[(q "slice_to" 394),(q "BaseStemmer.slice_to" 395),(q "/claim/cut.py" 396),(z 189),(z 1),(z 0),(z 0),(z 3),(.ref 169),(.bool true),(z 181),(.ref 170),.none,(.ref 171),(.ref 172),(.ref 173),(z 398),(z 189),(q "/claim/cut.py" 399)]
noncomputable def o175 (P:Params):Obj:=⟨(.type "function"),none,(fnD (.ofString "slice_to") (.ofString "BaseStemmer.slice_to") (cS 2 20) .none .none .none (q "snowballstemmer.basestemmer" 194) none (.ref 174) .none 3 0),#[]⟩
noncomputable def o176 (P:Params):Obj:=tO #[] 0
noncomputable def o177 (P:Params):Obj:=fO #[]
noncomputable def o178 (P:Params):Obj:=tO #[(q "self" 404)] 0
noncomputable def o179 (P:Params):Obj:=tO #[] 0
noncomputable def o180 (P:Params):Obj:=⟨.none,none,(fnD (.ofString "assign_to") (.ofString "BaseStemmer.assign_to") (cS 2 21) .none .none .none .none none .none .none 0 0),#[]⟩
noncomputable def o181 (P:Params):Obj:=cO #[(q "assign_to" 401),(q "BaseStemmer.assign_to" 402),(q "/claim/cut.py" 403),(z 192),(z 1),(z 0),(z 0),(z 3),(.ref 176),(.bool true),(z 181),(.ref 177),.none,(.ref 178),(.ref 179),(.ref 180),(z 405),(z 192),(q "/claim/cut.py" 406)]
noncomputable def o182 (P:Params):Obj:=⟨(.type "function"),none,(fnD (.ofString "assign_to") (.ofString "BaseStemmer.assign_to") (cS 2 21) .none .none .none (q "snowballstemmer.basestemmer" 194) none (.ref 181) .none 3 0),#[]⟩
noncomputable def o183 (P:Params):Obj:=tO #[] 0
noncomputable def o184 (P:Params):Obj:=fO #[]
noncomputable def o185 (P:Params):Obj:=tO #[(q "self" 411),(q "word" 412)] 0
noncomputable def o186 (P:Params):Obj:=tO #[] 0
noncomputable def o187 (P:Params):Obj:=⟨.none,none,(fnD (.ofString "stemWord") (.ofString "BaseStemmer.stemWord") (cS 2 22) .none .none .none .none none .none .none 0 0),#[]⟩
noncomputable def o188 (P:Params):Obj:=cO #[(q "stemWord" 408),(q "BaseStemmer.stemWord" 409),(q "/claim/cut.py" 410),(z 195),(z 2),(z 0),(z 0),(z 3),(.ref 183),(.bool true),(z 181),(.ref 184),.none,(.ref 185),(.ref 186),(.ref 187),(z 413),(z 195),(q "/claim/cut.py" 414)]
noncomputable def o189 (P:Params):Obj:=⟨(.type "function"),none,(fnD (.ofString "stemWord") (.ofString "BaseStemmer.stemWord") (cS 2 22) .none .none .none (q "snowballstemmer.basestemmer" 194) none (.ref 188) .none 3 0),#[]⟩
noncomputable def o190 (P:Params):Obj:=tO #[] 0
noncomputable def o191 (P:Params):Obj:=fO #[]
noncomputable def o192 (P:Params):Obj:=tO #[(q "self" 419),(q "words" 420)] 0
noncomputable def o193 (P:Params):Obj:=tO #[] 0
noncomputable def o194 (P:Params):Obj:=⟨.none,none,(fnD (.ofString "stemWords") (.ofString "BaseStemmer.stemWords") (cS 2 23) .none .none .none .none none .none .none 0 0),#[]⟩
noncomputable def o195 (P:Params):Obj:=cO #[(q "stemWords" 416),(q "BaseStemmer.stemWords" 417),(q "/claim/cut.py" 418),(z 200),(z 2),(z 0),(z 0),(z 3),(.ref 190),(.bool true),(z 181),(.ref 191),.none,(.ref 192),(.ref 193),(.ref 194),(z 421),(z 200),(q "/claim/cut.py" 422)]
noncomputable def o196 (P:Params):Obj:=⟨(.type "function"),none,(fnD (.ofString "stemWords") (.ofString "BaseStemmer.stemWords") (cS 2 23) .none .none .none (q "snowballstemmer.basestemmer" 194) none (.ref 195) .none 3 0),#[]⟩
noncomputable def o197 (P:Params):Obj:=tO #[(q "bra" 424),(q "current" 425),(q "cursor" 426),(q "ket" 427),(q "limit" 428),(q "limit_backward" 429)] 0
noncomputable def o198 (P:Params):Obj:=dO #[kd P "__module__" 203 (q "snowballstemmer.basestemmer" 194),kd P "__firstlineno__" 207 (.int 5 206),kd P "__init__" 214 (.ref 35),kd P "set_current" 222 (.ref 42),kd P "get_current" 229 (.ref 49),kd P "copy_from" 237 (.ref 56),kd P "in_grouping" 245 (.ref 63),kd P "go_in_grouping" 253 (.ref 70),kd P "in_grouping_b" 261 (.ref 77),kd P "go_in_grouping_b" 269 (.ref 84),kd P "out_grouping" 277 (.ref 91),kd P "go_out_grouping" 285 (.ref 98),kd P "out_grouping_b" 293 (.ref 105),kd P "go_out_grouping_b" 301 (.ref 112),kd P "eq_s" 309 (.ref 119),kd P "eq_s_b" 317 (.ref 126),kd P "find_among" 337 (.ref 133),kd P "find_among_b" 357 (.ref 140),kd P "replace_s" 368 (.ref 147),kd P "slice_from" 376 (.ref 154),kd P "slice_del" 383 (.ref 161),kd P "insert" 393 (.ref 168),kd P "slice_to" 400 (.ref 175),kd P "assign_to" 407 (.ref 182),kd P "stemWord" 415 (.ref 189),kd P "stemWords" 423 (.ref 196),kd P "__static_attributes__" 430 (.ref 197),kd P "__dict__" 432 (.ref 200),kd P "__weakref__" 434 (.ref 201),kd P "__doc__" 435 .none] 4
noncomputable def o199 (P:Params):Obj:=⟨(.type "type"),none,(.cls ⟨(.ofString "BaseStemmer"),[(.type "object")],[(.ref 199),(.type "object")],198,(.ofString "BaseStemmer"),true,[],[],false,none,false⟩),#[none,none,(some (q "BaseStemmer" 196)),(some (q "BaseStemmer" 204)),(some (.builtin "object.__new__")),(some (.bool true))]⟩
noncomputable def o200 (P:Params):Obj:=⟨(.type "getset_descriptor"),none,(.fields #[(q "__dict__" 431),(.ref 199),(.builtin "function.__dict__"),(.builtin "function.__dict__#set")]),#[]⟩
noncomputable def o201 (P:Params):Obj:=⟨(.type "getset_descriptor"),none,(.fields #[(q "__weakref__" 433),(.ref 199),(.builtin "ExceptionGroup.__weakref__"),.none]),#[]⟩
noncomputable def o202 (P:Params):Obj:=⟨(.type "super"),none,(.fields #[(.ref 199),(.ref 199),(.ref 199)]),#[]⟩
noncomputable def o203 (P:Params):Obj:=⟨(.type "builtin_function_or_method"),none,(.fields #[(.builtin "object.__init_subclass__"),(.ref 199)]),#[]⟩
noncomputable def tr2 (P:Params):BT:=upd (tr1 P ) [(3,o3v2 P),(12,o12v2 P),(22,o22 P),(23,o23 P),(24,o24 P),(25,o25 P),(26,o26 P),(27,o27 P),(28,o28 P),(29,o29 P),(30,o30 P),(31,o31 P),(32,o32 P),(33,o33 P),(34,o34 P),(35,o35 P),(36,o36 P),(37,o37 P),(38,o38 P),(39,o39 P),(40,o40 P),(41,o41 P),(42,o42 P),(43,o43 P),(44,o44 P),(45,o45 P),(46,o46 P),(47,o47 P),(48,o48 P),(49,o49 P),(50,o50 P),(51,o51 P),(52,o52 P),(53,o53 P),(54,o54 P),(55,o55 P),(56,o56 P),(57,o57 P),(58,o58 P),(59,o59 P),(60,o60 P),(61,o61 P),(62,o62 P),(63,o63 P),(64,o64 P),(65,o65 P),(66,o66 P),(67,o67 P),(68,o68 P),(69,o69 P),(70,o70 P),(71,o71 P),(72,o72 P),(73,o73 P),(74,o74 P),(75,o75 P),(76,o76 P),(77,o77 P),(78,o78 P),(79,o79 P),(80,o80 P),(81,o81 P),(82,o82 P),(83,o83 P),(84,o84 P),(85,o85 P),(86,o86 P),(87,o87 P),(88,o88 P),(89,o89 P),(90,o90 P),(91,o91 P),(92,o92 P),(93,o93 P),(94,o94 P),(95,o95 P),(96,o96 P),(97,o97 P),(98,o98 P),(99,o99 P),(100,o100 P),(101,o101 P),(102,o102 P),(103,o103 P),(104,o104 P),(105,o105 P),(106,o106 P),(107,o107 P),(108,o108 P),(109,o109 P),(110,o110 P),(111,o111 P),(112,o112 P),(113,o113 P),(114,o114 P),(115,o115 P),(116,o116 P),(117,o117 P),(118,o118 P),(119,o119 P),(120,o120 P),(121,o121 P),(122,o122 P),(123,o123 P),(124,o124 P),(125,o125 P),(126,o126 P),(127,o127 P),(128,o128 P),(129,o129 P),(130,o130 P),(131,o131 P),(132,o132 P),(133,o133 P),(134,o134 P),(135,o135 P),(136,o136 P),(137,o137 P),(138,o138 P),(139,o139 P),(140,o140 P),(141,o141 P),(142,o142 P),(143,o143 P),(144,o144 P),(145,o145 P),(146,o146 P),(147,o147 P),(148,o148 P),(149,o149 P),(150,o150 P),(151,o151 P),(152,o152 P),(153,o153 P),(154,o154 P),(155,o155 P),(156,o156 P),(157,o157 P),(158,o158 P),(159,o159 P),(160,o160 P),(161,o161 P),(162,o162 P),(163,o163 P),(164,o164 P),(165,o165 P),(166,o166 P),(167,o167 P),(168,o168 P),(169,o169 P),(170,o170 P),(171,o171 P),(172,o172 P),(173,o173 P),(174,o174 P),(175,o175 P),(176,o176 P),(177,o177 P),(178,o178 P),(179,o179 P),(180,o180 P),(181,o181 P),(182,o182 P),(183,o183 P),(184,o184 P),(185,o185 P),(186,o186 P),(187,o187 P),(188,o188 P),(189,o189 P),(190,o190 P),(191,o191 P),(192,o192 P),(193,o193 P),(194,o194 P),(195,o195 P),(196,o196 P),(197,o197 P),(198,o198 P),(199,o199 P),(200,o200 P),(201,o201 P),(202,o202 P),(203,o203 P)]
noncomputable def S2 (w:World) (os:OsState):SharedT:=⟨tr2 w.params ,204,lifeB,#[],drawnB,438,os⟩
noncomputable def o3v3 (P:Params):Obj:=dO #[kd P "__name__" 165 (q "snowballstemmer.among" 438),kd P "__doc__" 166 .none,kd P "__package__" 167 .none,kd P "__loader__" 168 (.builtin "__main__.__loader__#opaque"),kd P "__spec__" 169 .none,kd P "__annotations__" 170 (.ref 6),kd P "__builtins__" 171 (.ref 4),kd P "__file__" 173 (q "/claim/cut.py" 172),kd P "__cached__" 174 .none,kd P "_wall" 193 (.ref 21),kd P "BaseStemmer" 437 (.ref 199)] 11
noncomputable def tr3 (P:Params):BT:=upd (tr2 P ) [(3,o3v3 P)]
noncomputable def S3 (w:World) (os:OsState):SharedT:=⟨tr3 w.params ,204,lifeB,#[],drawnB,440,os⟩
noncomputable def o3v4 (P:Params):Obj:=dO #[kd P "__name__" 165 (q "snowballstemmer.among" 438),kd P "__doc__" 166 .none,kd P "__package__" 167 .none,kd P "__loader__" 168 (.builtin "__main__.__loader__#opaque"),kd P "__spec__" 169 .none,kd P "__annotations__" 170 (.ref 6),kd P "__builtins__" 171 (.ref 4),kd P "__file__" 173 (q "/claim/cut.py" 172),kd P "__cached__" 174 .none,kd P "_wall" 193 (.ref 21),kd P "BaseStemmer" 437 (.ref 199),kd P "Among" 472 (.ref 220)] 12
noncomputable def o12v3 (P:Params):Obj:=fO #[(z 1),(z 0),(.ref 20),(z 5),(z 0),(.ref 27),(z 203),(z 0),(.ref 209)]
noncomputable def o204 (P:Params):Obj:=tO #[] 0
noncomputable def o205 (P:Params):Obj:=⟨(.type "builtin_function_or_method"),none,(.fields #[(.builtin "type.__prepare__"),(.type "type")]),#[]⟩
noncomputable def o206 (P:Params):Obj:=dO #[kd P "__module__" 447 (q "snowballstemmer.among" 438),kd P "__qualname__" 449 (q "Among" 448),kd P "__firstlineno__" 451 (.int 203 450),kd P "__init__" 461 (.ref 217),kd P "__static_attributes__" 465 (.ref 218)] 5
noncomputable def o207 (P:Params):Obj:=tO #[] 0
noncomputable def o208 (P:Params):Obj:=fO #[(z 205),(z 4),(.ref 216)]
noncomputable def o209 (P:Params):Obj:=cO #[(q "Among" 442),(q "Among" 443),(q "/claim/cut.py" 444),(z 203),(z 0),(z 0),(z 0),(z 0),(.ref 207),(.bool false),(z 181),(.ref 208),.none,.none,.none,.none,(z 445),(z 203),(q "/claim/cut.py" 446)]
noncomputable def o210 (P:Params):Obj:=⟨(.type "frame"),none,.plain,#[(some (.ref 209)),(some (.ref 3)),(some (.ref 206)),none,(some (q "snowballstemmer.among" 438)),none,(some (.ref 0))]⟩
noncomputable def o211 (P:Params):Obj:=tO #[] 0
noncomputable def o212 (P:Params):Obj:=fO #[]
noncomputable def o213 (P:Params):Obj:=tO #[(q "self" 455),(q "s" 456),(q "substring_i" 457),(q "result" 458)] 0
noncomputable def o214 (P:Params):Obj:=tO #[] 0
noncomputable def o215 (P:Params):Obj:=⟨.none,none,(fnD (.ofString "__init__") (.ofString "Among.__init__") (cS 4 0) .none .none .none .none none .none .none 0 0),#[]⟩
noncomputable def o216 (P:Params):Obj:=cO #[(q "__init__" 452),(q "Among.__init__" 453),(q "/claim/cut.py" 454),(z 205),(z 4),(z 0),(z 0),(z 3),(.ref 211),(.bool true),(z 181),(.ref 212),.none,(.ref 213),(.ref 214),(.ref 215),(z 459),(z 205),(q "/claim/cut.py" 460)]
noncomputable def o217 (P:Params):Obj:=⟨(.type "function"),none,(fnD (.ofString "__init__") (.ofString "Among.__init__") (cS 4 0) .none .none .none (q "snowballstemmer.among" 438) none (.ref 216) .none 3 0),#[]⟩
noncomputable def o218 (P:Params):Obj:=tO #[(q "result" 462),(q "s" 463),(q "substring_i" 464)] 0
noncomputable def o219 (P:Params):Obj:=dO #[kd P "__module__" 447 (q "snowballstemmer.among" 438),kd P "__firstlineno__" 451 (.int 203 450),kd P "__init__" 461 (.ref 217),kd P "__static_attributes__" 465 (.ref 218),kd P "__dict__" 467 (.ref 221),kd P "__weakref__" 469 (.ref 222),kd P "__doc__" 470 .none] 4
noncomputable def o220 (P:Params):Obj:=⟨(.type "type"),none,(.cls ⟨(.ofString "Among"),[(.type "object")],[(.ref 220),(.type "object")],219,(.ofString "Among"),true,[],[],false,none,false⟩),#[none,none,(some (q "Among" 440)),(some (q "Among" 448)),(some (.builtin "object.__new__")),(some (.bool true))]⟩
noncomputable def o221 (P:Params):Obj:=⟨(.type "getset_descriptor"),none,(.fields #[(q "__dict__" 466),(.ref 220),(.builtin "function.__dict__"),(.builtin "function.__dict__#set")]),#[]⟩
noncomputable def o222 (P:Params):Obj:=⟨(.type "getset_descriptor"),none,(.fields #[(q "__weakref__" 468),(.ref 220),(.builtin "ExceptionGroup.__weakref__"),.none]),#[]⟩
noncomputable def o223 (P:Params):Obj:=⟨(.type "super"),none,(.fields #[(.ref 220),(.ref 220),(.ref 220)]),#[]⟩
noncomputable def o224 (P:Params):Obj:=⟨(.type "builtin_function_or_method"),none,(.fields #[(.builtin "object.__init_subclass__"),(.ref 220)]),#[]⟩
noncomputable def tr4 (P:Params):BT:=upd (tr3 P ) [(3,o3v4 P),(12,o12v3 P),(204,o204 P),(205,o205 P),(206,o206 P),(207,o207 P),(208,o208 P),(209,o209 P),(210,o210 P),(211,o211 P),(212,o212 P),(213,o213 P),(214,o214 P),(215,o215 P),(216,o216 P),(217,o217 P),(218,o218 P),(219,o219 P),(220,o220 P),(221,o221 P),(222,o222 P),(223,o223 P),(224,o224 P)]
noncomputable def S4 (w:World) (os:OsState):SharedT:=⟨tr4 w.params ,225,lifeB,#[],drawnB,473,os⟩
noncomputable def o3v5 (P:Params):Obj:=dO #[kd P "__name__" 165 (q "snowballstemmer.dutch_porter_stemmer" 473),kd P "__doc__" 166 .none,kd P "__package__" 167 .none,kd P "__loader__" 168 (.builtin "__main__.__loader__#opaque"),kd P "__spec__" 169 .none,kd P "__annotations__" 170 (.ref 6),kd P "__builtins__" 171 (.ref 4),kd P "__file__" 173 (q "/claim/cut.py" 172),kd P "__cached__" 174 .none,kd P "_wall" 193 (.ref 21),kd P "BaseStemmer" 437 (.ref 199),kd P "Among" 472 (.ref 220)] 12
noncomputable def tr5 (P:Params):BT:=upd (tr4 P ) [(3,o3v5 P)]
noncomputable def S5 (w:World) (os:OsState):SharedT:=⟨tr5 w.params ,225,lifeB,#[],drawnB,475,os⟩
noncomputable def o12v4 (P:Params):Obj:=fO #[(z 1),(z 0),(.ref 20),(z 5),(z 0),(.ref 27),(z 203),(z 0),(.ref 209),(z 210),(z 0),(.ref 230)]
noncomputable def o225 (P:Params):Obj:=tO #[(.ref 199)] 0
noncomputable def o226 (P:Params):Obj:=⟨(.type "builtin_function_or_method"),none,(.fields #[(.builtin "type.__prepare__"),(.type "type")]),#[]⟩
noncomputable def o227 (P:Params):Obj:=dO #[kd P "__module__" 482 (q "snowballstemmer.dutch_porter_stemmer" 473),kd P "__qualname__" 484 (q "DutchPorterStemmer" 483),kd P "__firstlineno__" 486 (.int 210 485)] 3
noncomputable def o228 (P:Params):Obj:=tO #[] 0
noncomputable def o229 (P:Params):Obj:=fO #[]
noncomputable def o230 (P:Params):Obj:=cO #[(q "DutchPorterStemmer" 477),(q "DutchPorterStemmer" 478),(q "/claim/cut.py" 479),(z 210),(z 0),(z 0),(z 0),(z 0),(.ref 228),(.bool false),(z 181),(.ref 229),.none,.none,.none,.none,(z 480),(z 210),(q "/claim/cut.py" 481)]
noncomputable def o231 (P:Params):Obj:=⟨(.type "frame"),none,.plain,#[(some (.ref 230)),(some (.ref 3)),(some (.ref 227)),none,(some (q "snowballstemmer.dutch_porter_stemmer" 473)),none,(some (.ref 0))]⟩
noncomputable def tr6 (P:Params):BT:=upd (tr5 P ) [(12,o12v4 P),(225,o225 P),(226,o226 P),(227,o227 P),(228,o228 P),(229,o229 P),(230,o230 P),(231,o231 P)]
noncomputable def S6 (w:World) (os:OsState):SharedT:=⟨tr6 w.params ,232,lifeB,#[],drawnB,487,os⟩
noncomputable def o227v1 (P:Params):Obj:=dO #[kd P "__module__" 482 (q "snowballstemmer.dutch_porter_stemmer" 473),kd P "__qualname__" 484 (q "DutchPorterStemmer" 483),kd P "__firstlineno__" 486 (.int 210 485),kd P "g_v" 501 (.ref 232)] 4
noncomputable def tr7 (P:Params) (x0:SetD):BT:=upd (tr6 P ) [(227,o227v1 P),(232,x0.obj)]
noncomputable def S7 (w:World) (os:OsState) (x0:SetD):SharedT:=⟨tr7 w.params x0,233,lifeB,#[],drawnB,502,os⟩
noncomputable def o227v2 (P:Params):Obj:=dO #[kd P "__module__" 482 (q "snowballstemmer.dutch_porter_stemmer" 473),kd P "__qualname__" 484 (q "DutchPorterStemmer" 483),kd P "__firstlineno__" 486 (.int 210 485),kd P "g_v" 501 (.ref 232),kd P "g_v_I" 518 (.ref 233)] 5
noncomputable def tr8 (P:Params) (x0 x1:SetD):BT:=upd (tr7 P x0) [(227,o227v2 P),(233,x1.obj)]
noncomputable def S8 (w:World) (os:OsState) (x0 x1:SetD):SharedT:=⟨tr8 w.params x0 x1,234,lifeB,#[],drawnB,519,os⟩
noncomputable def o227v3 (P:Params):Obj:=dO #[kd P "__module__" 482 (q "snowballstemmer.dutch_porter_stemmer" 473),kd P "__qualname__" 484 (q "DutchPorterStemmer" 483),kd P "__firstlineno__" 486 (.int 210 485),kd P "g_v" 501 (.ref 232),kd P "g_v_I" 518 (.ref 233),kd P "g_v_j" 535 (.ref 234)] 6
noncomputable def tr9 (P:Params) (x0 x1 x2:SetD):BT:=upd (tr8 P x0 x1) [(227,o227v3 P),(234,x2.obj)]
noncomputable def S9 (w:World) (os:OsState) (x0 x1 x2:SetD):SharedT:=⟨tr9 w.params x0 x1 x2,235,lifeB,#[],drawnB,536,os⟩
noncomputable def o227v4 (P:Params):Obj:=dO #[kd P "__module__" 482 (q "snowballstemmer.dutch_porter_stemmer" 473),kd P "__qualname__" 484 (q "DutchPorterStemmer" 483),kd P "__firstlineno__" 486 (.int 210 485),kd P "g_v" 501 (.ref 232),kd P "g_v_I" 518 (.ref 233),kd P "g_v_j" 535 (.ref 234),kd P "I_p2" 537 (.int 0 536),kd P "I_p1" 539 (.int 0 538),kd P "B_e_found" 540 (.bool false)] 9
noncomputable def tr10 (P:Params) (x0 x1 x2:SetD):BT:=upd (tr9 P x0 x1 x2) [(227,o227v4 P)]
noncomputable def S10 (w:World) (os:OsState) (x0 x1 x2:SetD):SharedT:=⟨tr10 w.params x0 x1 x2,235,lifeB,#[],drawnB,541,os⟩
noncomputable def o227v5 (P:Params):Obj:=dO #[kd P "__module__" 482 (q "snowballstemmer.dutch_porter_stemmer" 473),kd P "__qualname__" 484 (q "DutchPorterStemmer" 483),kd P "__firstlineno__" 486 (.int 210 485),kd P "g_v" 501 (.ref 232),kd P "g_v_I" 518 (.ref 233),kd P "g_v_j" 535 (.ref 234),kd P "I_p2" 537 (.int 0 536),kd P "I_p1" 539 (.int 0 538),kd P "B_e_found" 540 (.bool false),kd P "r_prelude" 555 (.ref 241),kd P "r_mark_regions" 564 (.ref 248),kd P "r_postlude" 573 (.ref 255),kd P "r_R1" 580 (.ref 262),kd P "r_R2" 587 (.ref 269),kd P "r_undouble" 595 (.ref 276),kd P "r_e_ending" 603 (.ref 283),kd P "r_en_ending" 611 (.ref 290),kd P "r_standard_suffix" 626 (.ref 297)] 18
noncomputable def o229v1 (P:Params):Obj:=fO #[(z 218),(z 4),(.ref 240),(z 301),(z 4),(.ref 247),(z 332),(z 4),(.ref 254),(z 354),(z 4),(.ref 261),(z 357),(z 4),(.ref 268),(z 360),(z 4),(.ref 275),(z 373),(z 4),(.ref 282),(z 390),(z 4),(.ref 289),(z 406),(z 4),(.ref 296)]
noncomputable def o235 (P:Params):Obj:=tO #[] 0
noncomputable def o236 (P:Params):Obj:=fO #[]
noncomputable def o237 (P:Params):Obj:=tO #[(q "self" 544),(q "v_1" 545),(q "v_2" 546),(q "among_var" 547),(q "v_3" 548),(q "v_4" 549),(q "v_5" 550),(q "v_6" 551),(q "v_7" 552)] 0
noncomputable def o238 (P:Params):Obj:=tO #[] 0
noncomputable def o239 (P:Params):Obj:=⟨.none,none,(fnD (.ofString "r_prelude") (.ofString "DutchPorterStemmer.r_prelude") (cS 6 6) .none .none .none .none none .none .none 0 0),#[]⟩
noncomputable def o240 (P:Params):Obj:=cO #[(q "r_prelude" 541),(q "DutchPorterStemmer.r_prelude" 542),(q "/claim/cut.py" 543),(z 218),(z 1),(z 0),(z 0),(z 3),(.ref 235),(.bool true),(z 181),(.ref 236),.none,(.ref 237),(.ref 238),(.ref 239),(z 553),(z 218),(q "/claim/cut.py" 554)]
noncomputable def o241 (P:Params):Obj:=⟨(.type "function"),none,(fnD (.ofString "r_prelude") (.ofString "DutchPorterStemmer.r_prelude") (cS 6 6) .none .none .none (q "snowballstemmer.dutch_porter_stemmer" 473) none (.ref 240) .none 3 0),#[]⟩
noncomputable def o242 (P:Params):Obj:=tO #[] 0
noncomputable def o243 (P:Params):Obj:=fO #[]
noncomputable def o244 (P:Params):Obj:=tO #[(q "self" 559),(q "v_1" 560),(q "I_x" 561)] 0
noncomputable def o245 (P:Params):Obj:=tO #[] 0
noncomputable def o246 (P:Params):Obj:=⟨.none,none,(fnD (.ofString "r_mark_regions") (.ofString "DutchPorterStemmer.r_mark_regions") (cS 6 7) .none .none .none .none none .none .none 0 0),#[]⟩
noncomputable def o247 (P:Params):Obj:=cO #[(q "r_mark_regions" 556),(q "DutchPorterStemmer.r_mark_regions" 557),(q "/claim/cut.py" 558),(z 301),(z 1),(z 0),(z 0),(z 3),(.ref 242),(.bool true),(z 181),(.ref 243),.none,(.ref 244),(.ref 245),(.ref 246),(z 562),(z 301),(q "/claim/cut.py" 563)]
noncomputable def o248 (P:Params):Obj:=⟨(.type "function"),none,(fnD (.ofString "r_mark_regions") (.ofString "DutchPorterStemmer.r_mark_regions") (cS 6 7) .none .none .none (q "snowballstemmer.dutch_porter_stemmer" 473) none (.ref 247) .none 3 0),#[]⟩
noncomputable def o249 (P:Params):Obj:=tO #[] 0
noncomputable def o250 (P:Params):Obj:=fO #[]
noncomputable def o251 (P:Params):Obj:=tO #[(q "self" 568),(q "v_1" 569),(q "among_var" 570)] 0
noncomputable def o252 (P:Params):Obj:=tO #[] 0
noncomputable def o253 (P:Params):Obj:=⟨.none,none,(fnD (.ofString "r_postlude") (.ofString "DutchPorterStemmer.r_postlude") (cS 6 8) .none .none .none .none none .none .none 0 0),#[]⟩
noncomputable def o254 (P:Params):Obj:=cO #[(q "r_postlude" 565),(q "DutchPorterStemmer.r_postlude" 566),(q "/claim/cut.py" 567),(z 332),(z 1),(z 0),(z 0),(z 3),(.ref 249),(.bool true),(z 181),(.ref 250),.none,(.ref 251),(.ref 252),(.ref 253),(z 571),(z 332),(q "/claim/cut.py" 572)]
noncomputable def o255 (P:Params):Obj:=⟨(.type "function"),none,(fnD (.ofString "r_postlude") (.ofString "DutchPorterStemmer.r_postlude") (cS 6 8) .none .none .none (q "snowballstemmer.dutch_porter_stemmer" 473) none (.ref 254) .none 3 0),#[]⟩
noncomputable def o256 (P:Params):Obj:=tO #[] 0
noncomputable def o257 (P:Params):Obj:=fO #[]
noncomputable def o258 (P:Params):Obj:=tO #[(q "self" 577)] 0
noncomputable def o259 (P:Params):Obj:=tO #[] 0
noncomputable def o260 (P:Params):Obj:=⟨.none,none,(fnD (.ofString "r_R1") (.ofString "DutchPorterStemmer.r_R1") (cS 6 9) .none .none .none .none none .none .none 0 0),#[]⟩
noncomputable def o261 (P:Params):Obj:=cO #[(q "r_R1" 574),(q "DutchPorterStemmer.r_R1" 575),(q "/claim/cut.py" 576),(z 354),(z 1),(z 0),(z 0),(z 3),(.ref 256),(.bool true),(z 181),(.ref 257),.none,(.ref 258),(.ref 259),(.ref 260),(z 578),(z 354),(q "/claim/cut.py" 579)]
noncomputable def o262 (P:Params):Obj:=⟨(.type "function"),none,(fnD (.ofString "r_R1") (.ofString "DutchPorterStemmer.r_R1") (cS 6 9) .none .none .none (q "snowballstemmer.dutch_porter_stemmer" 473) none (.ref 261) .none 3 0),#[]⟩
noncomputable def o263 (P:Params):Obj:=tO #[] 0
noncomputable def o264 (P:Params):Obj:=fO #[]
noncomputable def o265 (P:Params):Obj:=tO #[(q "self" 584)] 0
noncomputable def o266 (P:Params):Obj:=tO #[] 0
noncomputable def o267 (P:Params):Obj:=⟨.none,none,(fnD (.ofString "r_R2") (.ofString "DutchPorterStemmer.r_R2") (cS 6 10) .none .none .none .none none .none .none 0 0),#[]⟩
noncomputable def o268 (P:Params):Obj:=cO #[(q "r_R2" 581),(q "DutchPorterStemmer.r_R2" 582),(q "/claim/cut.py" 583),(z 357),(z 1),(z 0),(z 0),(z 3),(.ref 263),(.bool true),(z 181),(.ref 264),.none,(.ref 265),(.ref 266),(.ref 267),(z 585),(z 357),(q "/claim/cut.py" 586)]
noncomputable def o269 (P:Params):Obj:=⟨(.type "function"),none,(fnD (.ofString "r_R2") (.ofString "DutchPorterStemmer.r_R2") (cS 6 10) .none .none .none (q "snowballstemmer.dutch_porter_stemmer" 473) none (.ref 268) .none 3 0),#[]⟩
noncomputable def o270 (P:Params):Obj:=tO #[] 0
noncomputable def o271 (P:Params):Obj:=fO #[]
noncomputable def o272 (P:Params):Obj:=tO #[(q "self" 591),(q "v_1" 592)] 0
noncomputable def o273 (P:Params):Obj:=tO #[] 0
noncomputable def o274 (P:Params):Obj:=⟨.none,none,(fnD (.ofString "r_undouble") (.ofString "DutchPorterStemmer.r_undouble") (cS 6 11) .none .none .none .none none .none .none 0 0),#[]⟩
noncomputable def o275 (P:Params):Obj:=cO #[(q "r_undouble" 588),(q "DutchPorterStemmer.r_undouble" 589),(q "/claim/cut.py" 590),(z 360),(z 1),(z 0),(z 0),(z 3),(.ref 270),(.bool true),(z 181),(.ref 271),.none,(.ref 272),(.ref 273),(.ref 274),(z 593),(z 360),(q "/claim/cut.py" 594)]
noncomputable def o276 (P:Params):Obj:=⟨(.type "function"),none,(fnD (.ofString "r_undouble") (.ofString "DutchPorterStemmer.r_undouble") (cS 6 11) .none .none .none (q "snowballstemmer.dutch_porter_stemmer" 473) none (.ref 275) .none 3 0),#[]⟩
noncomputable def o277 (P:Params):Obj:=tO #[] 0
noncomputable def o278 (P:Params):Obj:=fO #[]
noncomputable def o279 (P:Params):Obj:=tO #[(q "self" 599),(q "v_1" 600)] 0
noncomputable def o280 (P:Params):Obj:=tO #[] 0
noncomputable def o281 (P:Params):Obj:=⟨.none,none,(fnD (.ofString "r_e_ending") (.ofString "DutchPorterStemmer.r_e_ending") (cS 6 12) .none .none .none .none none .none .none 0 0),#[]⟩
noncomputable def o282 (P:Params):Obj:=cO #[(q "r_e_ending" 596),(q "DutchPorterStemmer.r_e_ending" 597),(q "/claim/cut.py" 598),(z 373),(z 1),(z 0),(z 0),(z 3),(.ref 277),(.bool true),(z 181),(.ref 278),.none,(.ref 279),(.ref 280),(.ref 281),(z 601),(z 373),(q "/claim/cut.py" 602)]
noncomputable def o283 (P:Params):Obj:=⟨(.type "function"),none,(fnD (.ofString "r_e_ending") (.ofString "DutchPorterStemmer.r_e_ending") (cS 6 12) .none .none .none (q "snowballstemmer.dutch_porter_stemmer" 473) none (.ref 282) .none 3 0),#[]⟩
noncomputable def o284 (P:Params):Obj:=tO #[] 0
noncomputable def o285 (P:Params):Obj:=fO #[]
noncomputable def o286 (P:Params):Obj:=tO #[(q "self" 607),(q "v_1" 608)] 0
noncomputable def o287 (P:Params):Obj:=tO #[] 0
noncomputable def o288 (P:Params):Obj:=⟨.none,none,(fnD (.ofString "r_en_ending") (.ofString "DutchPorterStemmer.r_en_ending") (cS 6 13) .none .none .none .none none .none .none 0 0),#[]⟩
noncomputable def o289 (P:Params):Obj:=cO #[(q "r_en_ending" 604),(q "DutchPorterStemmer.r_en_ending" 605),(q "/claim/cut.py" 606),(z 390),(z 1),(z 0),(z 0),(z 3),(.ref 284),(.bool true),(z 181),(.ref 285),.none,(.ref 286),(.ref 287),(.ref 288),(z 609),(z 390),(q "/claim/cut.py" 610)]
noncomputable def o290 (P:Params):Obj:=⟨(.type "function"),none,(fnD (.ofString "r_en_ending") (.ofString "DutchPorterStemmer.r_en_ending") (cS 6 13) .none .none .none (q "snowballstemmer.dutch_porter_stemmer" 473) none (.ref 289) .none 3 0),#[]⟩
noncomputable def o291 (P:Params):Obj:=tO #[] 0
noncomputable def o292 (P:Params):Obj:=fO #[]
noncomputable def o293 (P:Params):Obj:=tO #[(q "self" 615),(q "v_1" 616),(q "among_var" 617),(q "v_2" 618),(q "v_3" 619),(q "v_4" 620),(q "v_5" 621),(q "v_6" 622),(q "v_7" 623)] 0
noncomputable def o294 (P:Params):Obj:=tO #[] 0
noncomputable def o295 (P:Params):Obj:=⟨.none,none,(fnD (.ofString "r_standard_suffix") (.ofString "DutchPorterStemmer.r_standard_suffix") (cS 6 14) .none .none .none .none none .none .none 0 0),#[]⟩
noncomputable def o296 (P:Params):Obj:=cO #[(q "r_standard_suffix" 612),(q "DutchPorterStemmer.r_standard_suffix" 613),(q "/claim/cut.py" 614),(z 406),(z 1),(z 0),(z 0),(z 3),(.ref 291),(.bool true),(z 181),(.ref 292),.none,(.ref 293),(.ref 294),(.ref 295),(z 624),(z 406),(q "/claim/cut.py" 625)]
noncomputable def o297 (P:Params):Obj:=⟨(.type "function"),none,(fnD (.ofString "r_standard_suffix") (.ofString "DutchPorterStemmer.r_standard_suffix") (cS 6 14) .none .none .none (q "snowballstemmer.dutch_porter_stemmer" 473) none (.ref 296) .none 3 0),#[]⟩
noncomputable def tr11 (P:Params) (x0 x1 x2:SetD):BT:=upd (tr10 P x0 x1 x2) [(227,o227v5 P),(229,o229v1 P),(235,o235 P),(236,o236 P),(237,o237 P),(238,o238 P),(239,o239 P),(240,o240 P),(241,o241 P),(242,o242 P),(243,o243 P),(244,o244 P),(245,o245 P),(246,o246 P),(247,o247 P),(248,o248 P),(249,o249 P),(250,o250 P),(251,o251 P),(252,o252 P),(253,o253 P),(254,o254 P),(255,o255 P),(256,o256 P),(257,o257 P),(258,o258 P),(259,o259 P),(260,o260 P),(261,o261 P),(262,o262 P),(263,o263 P),(264,o264 P),(265,o265 P),(266,o266 P),(267,o267 P),(268,o268 P),(269,o269 P),(270,o270 P),(271,o271 P),(272,o272 P),(273,o273 P),(274,o274 P),(275,o275 P),(276,o276 P),(277,o277 P),(278,o278 P),(279,o279 P),(280,o280 P),(281,o281 P),(282,o282 P),(283,o283 P),(284,o284 P),(285,o285 P),(286,o286 P),(287,o287 P),(288,o288 P),(289,o289 P),(290,o290 P),(291,o291 P),(292,o292 P),(293,o293 P),(294,o294 P),(295,o295 P),(296,o296 P),(297,o297 P)]
noncomputable def S11 (w:World) (os:OsState) (x0 x1 x2:SetD):SharedT:=⟨tr11 w.params x0 x1 x2,298,lifeB,#[],drawnB,627,os⟩
noncomputable def o227v6 (P:Params):Obj:=dO #[kd P "__module__" 482 (q "snowballstemmer.dutch_porter_stemmer" 473),kd P "__qualname__" 484 (q "DutchPorterStemmer" 483),kd P "__firstlineno__" 486 (.int 210 485),kd P "g_v" 501 (.ref 232),kd P "g_v_I" 518 (.ref 233),kd P "g_v_j" 535 (.ref 234),kd P "I_p2" 537 (.int 0 536),kd P "I_p1" 539 (.int 0 538),kd P "B_e_found" 540 (.bool false),kd P "r_prelude" 555 (.ref 241),kd P "r_mark_regions" 564 (.ref 248),kd P "r_postlude" 573 (.ref 255),kd P "r_R1" 580 (.ref 262),kd P "r_R2" 587 (.ref 269),kd P "r_undouble" 595 (.ref 276),kd P "r_e_ending" 603 (.ref 283),kd P "r_en_ending" 611 (.ref 290),kd P "r_standard_suffix" 626 (.ref 297),kd P "_stem" 636 (.ref 304)] 19
noncomputable def o229v2 (P:Params):Obj:=fO #[(z 218),(z 4),(.ref 240),(z 301),(z 4),(.ref 247),(z 332),(z 4),(.ref 254),(z 354),(z 4),(.ref 261),(z 357),(z 4),(.ref 268),(z 360),(z 4),(.ref 275),(z 373),(z 4),(.ref 282),(z 390),(z 4),(.ref 289),(z 406),(z 4),(.ref 296),(z 544),(z 4),(.ref 303)]
noncomputable def o298 (P:Params):Obj:=tO #[] 0
noncomputable def o299 (P:Params):Obj:=fO #[]
noncomputable def o300 (P:Params):Obj:=tO #[(q "self" 630),(q "v_1" 631),(q "v_2" 632),(q "v_3" 633)] 0
noncomputable def o301 (P:Params):Obj:=tO #[] 0
noncomputable def o302 (P:Params):Obj:=⟨.none,none,(fnD (.ofString "_stem") (.ofString "DutchPorterStemmer._stem") (cS 6 15) .none .none .none .none none .none .none 0 0),#[]⟩
noncomputable def o303 (P:Params):Obj:=cO #[(q "_stem" 627),(q "DutchPorterStemmer._stem" 628),(q "/claim/cut.py" 629),(z 544),(z 1),(z 0),(z 0),(z 3),(.ref 298),(.bool true),(z 181),(.ref 299),.none,(.ref 300),(.ref 301),(.ref 302),(z 634),(z 544),(q "/claim/cut.py" 635)]
noncomputable def o304 (P:Params):Obj:=⟨(.type "function"),none,(fnD (.ofString "_stem") (.ofString "DutchPorterStemmer._stem") (cS 6 15) .none .none .none (q "snowballstemmer.dutch_porter_stemmer" 473) none (.ref 303) .none 3 0),#[]⟩
noncomputable def tr12 (P:Params) (x0 x1 x2:SetD):BT:=upd (tr11 P x0 x1 x2) [(227,o227v6 P),(229,o229v2 P),(298,o298 P),(299,o299 P),(300,o300 P),(301,o301 P),(302,o302 P),(303,o303 P),(304,o304 P)]
noncomputable def S12 (w:World) (os:OsState) (x0 x1 x2:SetD):SharedT:=⟨tr12 w.params x0 x1 x2,305,lifeB,#[],drawnB,637,os⟩
noncomputable def o227v7 (P:Params):Obj:=dO #[kd P "__module__" 482 (q "snowballstemmer.dutch_porter_stemmer" 473),kd P "__qualname__" 484 (q "DutchPorterStemmer" 483),kd P "__firstlineno__" 486 (.int 210 485),kd P "g_v" 501 (.ref 232),kd P "g_v_I" 518 (.ref 233),kd P "g_v_j" 535 (.ref 234),kd P "I_p2" 537 (.int 0 536),kd P "I_p1" 539 (.int 0 538),kd P "B_e_found" 540 (.bool false),kd P "r_prelude" 555 (.ref 241),kd P "r_mark_regions" 564 (.ref 248),kd P "r_postlude" 573 (.ref 255),kd P "r_R1" 580 (.ref 262),kd P "r_R2" 587 (.ref 269),kd P "r_undouble" 595 (.ref 276),kd P "r_e_ending" 603 (.ref 283),kd P "r_en_ending" 611 (.ref 290),kd P "r_standard_suffix" 626 (.ref 297),kd P "_stem" 636 (.ref 304),kd P "a_0" 781 (.ref 338)] 20
noncomputable def o305 (P:Params):Obj:=dO #[kd P "s" 646 (q "" 637),kd P "substring_i" 648 (.int (-1) 639),kd P "result" 650 (.int 6 640)] 3
noncomputable def o306 (P:Params):Obj:=⟨(.ref 220),(some 305),.plain,#[]⟩
noncomputable def o307 (P:Params):Obj:=⟨(.type "frame"),none,(.dict #[kd P "self" 641 (.ref 306),kd P "s" 642 (q "" 637),kd P "substring_i" 643 (.int (-1) 639),kd P "result" 644 (.int 6 640)] 4),#[]⟩
noncomputable def o308 (P:Params):Obj:=dO #[kd P "s" 659 (q "á" 651),kd P "substring_i" 661 (.int 0 652),kd P "result" 663 (.int 1 653)] 3
noncomputable def o309 (P:Params):Obj:=⟨(.ref 220),(some 308),.plain,#[]⟩
noncomputable def o310 (P:Params):Obj:=⟨(.type "frame"),none,(.dict #[kd P "self" 654 (.ref 309),kd P "s" 655 (q "á" 651),kd P "substring_i" 656 (.int 0 652),kd P "result" 657 (.int 1 653)] 4),#[]⟩
noncomputable def o311 (P:Params):Obj:=dO #[kd P "s" 672 (q "ä" 664),kd P "substring_i" 674 (.int 0 665),kd P "result" 676 (.int 1 666)] 3
noncomputable def o312 (P:Params):Obj:=⟨(.ref 220),(some 311),.plain,#[]⟩
noncomputable def o313 (P:Params):Obj:=⟨(.type "frame"),none,(.dict #[kd P "self" 667 (.ref 312),kd P "s" 668 (q "ä" 664),kd P "substring_i" 669 (.int 0 665),kd P "result" 670 (.int 1 666)] 4),#[]⟩
noncomputable def o314 (P:Params):Obj:=dO #[kd P "s" 685 (q "é" 677),kd P "substring_i" 687 (.int 0 678),kd P "result" 689 (.int 2 679)] 3
noncomputable def o315 (P:Params):Obj:=⟨(.ref 220),(some 314),.plain,#[]⟩
noncomputable def o316 (P:Params):Obj:=⟨(.type "frame"),none,(.dict #[kd P "self" 680 (.ref 315),kd P "s" 681 (q "é" 677),kd P "substring_i" 682 (.int 0 678),kd P "result" 683 (.int 2 679)] 4),#[]⟩
noncomputable def o317 (P:Params):Obj:=dO #[kd P "s" 698 (q "ë" 690),kd P "substring_i" 700 (.int 0 691),kd P "result" 702 (.int 2 692)] 3
noncomputable def o318 (P:Params):Obj:=⟨(.ref 220),(some 317),.plain,#[]⟩
noncomputable def o319 (P:Params):Obj:=⟨(.type "frame"),none,(.dict #[kd P "self" 693 (.ref 318),kd P "s" 694 (q "ë" 690),kd P "substring_i" 695 (.int 0 691),kd P "result" 696 (.int 2 692)] 4),#[]⟩
noncomputable def o320 (P:Params):Obj:=dO #[kd P "s" 711 (q "í" 703),kd P "substring_i" 713 (.int 0 704),kd P "result" 715 (.int 3 705)] 3
noncomputable def o321 (P:Params):Obj:=⟨(.ref 220),(some 320),.plain,#[]⟩
noncomputable def o322 (P:Params):Obj:=⟨(.type "frame"),none,(.dict #[kd P "self" 706 (.ref 321),kd P "s" 707 (q "í" 703),kd P "substring_i" 708 (.int 0 704),kd P "result" 709 (.int 3 705)] 4),#[]⟩
noncomputable def o323 (P:Params):Obj:=dO #[kd P "s" 724 (q "ï" 716),kd P "substring_i" 726 (.int 0 717),kd P "result" 728 (.int 3 718)] 3
noncomputable def o324 (P:Params):Obj:=⟨(.ref 220),(some 323),.plain,#[]⟩
noncomputable def o325 (P:Params):Obj:=⟨(.type "frame"),none,(.dict #[kd P "self" 719 (.ref 324),kd P "s" 720 (q "ï" 716),kd P "substring_i" 721 (.int 0 717),kd P "result" 722 (.int 3 718)] 4),#[]⟩
noncomputable def o326 (P:Params):Obj:=dO #[kd P "s" 737 (q "ó" 729),kd P "substring_i" 739 (.int 0 730),kd P "result" 741 (.int 4 731)] 3
noncomputable def o327 (P:Params):Obj:=⟨(.ref 220),(some 326),.plain,#[]⟩
noncomputable def o328 (P:Params):Obj:=⟨(.type "frame"),none,(.dict #[kd P "self" 732 (.ref 327),kd P "s" 733 (q "ó" 729),kd P "substring_i" 734 (.int 0 730),kd P "result" 735 (.int 4 731)] 4),#[]⟩
noncomputable def o329 (P:Params):Obj:=dO #[kd P "s" 750 (q "ö" 742),kd P "substring_i" 752 (.int 0 743),kd P "result" 754 (.int 4 744)] 3
noncomputable def o330 (P:Params):Obj:=⟨(.ref 220),(some 329),.plain,#[]⟩
noncomputable def o331 (P:Params):Obj:=⟨(.type "frame"),none,(.dict #[kd P "self" 745 (.ref 330),kd P "s" 746 (q "ö" 742),kd P "substring_i" 747 (.int 0 743),kd P "result" 748 (.int 4 744)] 4),#[]⟩
noncomputable def o332 (P:Params):Obj:=dO #[kd P "s" 763 (q "ú" 755),kd P "substring_i" 765 (.int 0 756),kd P "result" 767 (.int 5 757)] 3
noncomputable def o333 (P:Params):Obj:=⟨(.ref 220),(some 332),.plain,#[]⟩
noncomputable def o334 (P:Params):Obj:=⟨(.type "frame"),none,(.dict #[kd P "self" 758 (.ref 333),kd P "s" 759 (q "ú" 755),kd P "substring_i" 760 (.int 0 756),kd P "result" 761 (.int 5 757)] 4),#[]⟩
noncomputable def o335 (P:Params):Obj:=dO #[kd P "s" 776 (q "ü" 768),kd P "substring_i" 778 (.int 0 769),kd P "result" 780 (.int 5 770)] 3
noncomputable def o336 (P:Params):Obj:=⟨(.ref 220),(some 335),.plain,#[]⟩
noncomputable def o337 (P:Params):Obj:=⟨(.type "frame"),none,(.dict #[kd P "self" 771 (.ref 336),kd P "s" 772 (q "ü" 768),kd P "substring_i" 773 (.int 0 769),kd P "result" 774 (.int 5 770)] 4),#[]⟩
noncomputable def o338 (P:Params):Obj:=⟨(.type "list"),none,(.seq #[(.ref 306),(.ref 309),(.ref 312),(.ref 315),(.ref 318),(.ref 321),(.ref 324),(.ref 327),(.ref 330),(.ref 333),(.ref 336)] 0),#[]⟩
noncomputable def tr13 (P:Params) (x0 x1 x2:SetD):BT:=upd (tr12 P x0 x1 x2) [(227,o227v7 P),(305,o305 P),(306,o306 P),(307,o307 P),(308,o308 P),(309,o309 P),(310,o310 P),(311,o311 P),(312,o312 P),(313,o313 P),(314,o314 P),(315,o315 P),(316,o316 P),(317,o317 P),(318,o318 P),(319,o319 P),(320,o320 P),(321,o321 P),(322,o322 P),(323,o323 P),(324,o324 P),(325,o325 P),(326,o326 P),(327,o327 P),(328,o328 P),(329,o329 P),(330,o330 P),(331,o331 P),(332,o332 P),(333,o333 P),(334,o334 P),(335,o335 P),(336,o336 P),(337,o337 P),(338,o338 P)]
noncomputable def S13 (w:World) (os:OsState) (x0 x1 x2:SetD):SharedT:=⟨tr13 w.params x0 x1 x2,339,lifeB,#[],drawnB,782,os⟩
noncomputable def o227v8 (P:Params):Obj:=dO #[kd P "__module__" 482 (q "snowballstemmer.dutch_porter_stemmer" 473),kd P "__qualname__" 484 (q "DutchPorterStemmer" 483),kd P "__firstlineno__" 486 (.int 210 485),kd P "g_v" 501 (.ref 232),kd P "g_v_I" 518 (.ref 233),kd P "g_v_j" 535 (.ref 234),kd P "I_p2" 537 (.int 0 536),kd P "I_p1" 539 (.int 0 538),kd P "B_e_found" 540 (.bool false),kd P "r_prelude" 555 (.ref 241),kd P "r_mark_regions" 564 (.ref 248),kd P "r_postlude" 573 (.ref 255),kd P "r_R1" 580 (.ref 262),kd P "r_R2" 587 (.ref 269),kd P "r_undouble" 595 (.ref 276),kd P "r_e_ending" 603 (.ref 283),kd P "r_en_ending" 611 (.ref 290),kd P "r_standard_suffix" 626 (.ref 297),kd P "_stem" 636 (.ref 304),kd P "a_0" 781 (.ref 338),kd P "a_1" 822 (.ref 348)] 21
noncomputable def o339 (P:Params):Obj:=dO #[kd P "s" 791 (q "" 782),kd P "substring_i" 793 (.int (-1) 784),kd P "result" 795 (.int 3 785)] 3
noncomputable def o340 (P:Params):Obj:=⟨(.ref 220),(some 339),.plain,#[]⟩
noncomputable def o341 (P:Params):Obj:=⟨(.type "frame"),none,(.dict #[kd P "self" 786 (.ref 340),kd P "s" 787 (q "" 782),kd P "substring_i" 788 (.int (-1) 784),kd P "result" 789 (.int 3 785)] 4),#[]⟩
noncomputable def o342 (P:Params):Obj:=dO #[kd P "s" 804 (q "I" 796),kd P "substring_i" 806 (.int 0 797),kd P "result" 808 (.int 2 798)] 3
noncomputable def o343 (P:Params):Obj:=⟨(.ref 220),(some 342),.plain,#[]⟩
noncomputable def o344 (P:Params):Obj:=⟨(.type "frame"),none,(.dict #[kd P "self" 799 (.ref 343),kd P "s" 800 (q "I" 796),kd P "substring_i" 801 (.int 0 797),kd P "result" 802 (.int 2 798)] 4),#[]⟩
noncomputable def o345 (P:Params):Obj:=dO #[kd P "s" 817 (q "Y" 809),kd P "substring_i" 819 (.int 0 810),kd P "result" 821 (.int 1 811)] 3
noncomputable def o346 (P:Params):Obj:=⟨(.ref 220),(some 345),.plain,#[]⟩
noncomputable def o347 (P:Params):Obj:=⟨(.type "frame"),none,(.dict #[kd P "self" 812 (.ref 346),kd P "s" 813 (q "Y" 809),kd P "substring_i" 814 (.int 0 810),kd P "result" 815 (.int 1 811)] 4),#[]⟩
noncomputable def o348 (P:Params):Obj:=⟨(.type "list"),none,(.seq #[(.ref 340),(.ref 343),(.ref 346)] 0),#[]⟩
noncomputable def tr14 (P:Params) (x0 x1 x2:SetD):BT:=upd (tr13 P x0 x1 x2) [(227,o227v8 P),(339,o339 P),(340,o340 P),(341,o341 P),(342,o342 P),(343,o343 P),(344,o344 P),(345,o345 P),(346,o346 P),(347,o347 P),(348,o348 P)]
noncomputable def S14 (w:World) (os:OsState) (x0 x1 x2:SetD):SharedT:=⟨tr14 w.params x0 x1 x2,349,lifeB,#[],drawnB,823,os⟩
noncomputable def o227v9 (P:Params):Obj:=dO #[kd P "__module__" 482 (q "snowballstemmer.dutch_porter_stemmer" 473),kd P "__qualname__" 484 (q "DutchPorterStemmer" 483),kd P "__firstlineno__" 486 (.int 210 485),kd P "g_v" 501 (.ref 232),kd P "g_v_I" 518 (.ref 233),kd P "g_v_j" 535 (.ref 234),kd P "I_p2" 537 (.int 0 536),kd P "I_p1" 539 (.int 0 538),kd P "B_e_found" 540 (.bool false),kd P "r_prelude" 555 (.ref 241),kd P "r_mark_regions" 564 (.ref 248),kd P "r_postlude" 573 (.ref 255),kd P "r_R1" 580 (.ref 262),kd P "r_R2" 587 (.ref 269),kd P "r_undouble" 595 (.ref 276),kd P "r_e_ending" 603 (.ref 283),kd P "r_en_ending" 611 (.ref 290),kd P "r_standard_suffix" 626 (.ref 297),kd P "_stem" 636 (.ref 304),kd P "a_0" 781 (.ref 338),kd P "a_1" 822 (.ref 348),kd P "a_2" 868 (.ref 358)] 22
noncomputable def o349 (P:Params):Obj:=dO #[kd P "s" 833 (q "dd" 823),kd P "substring_i" 835 (.int (-1) 825),kd P "result" 837 (.int (-1) 827)] 3
noncomputable def o350 (P:Params):Obj:=⟨(.ref 220),(some 349),.plain,#[]⟩
noncomputable def o351 (P:Params):Obj:=⟨(.type "frame"),none,(.dict #[kd P "self" 828 (.ref 350),kd P "s" 829 (q "dd" 823),kd P "substring_i" 830 (.int (-1) 825),kd P "result" 831 (.int (-1) 827)] 4),#[]⟩
noncomputable def o352 (P:Params):Obj:=dO #[kd P "s" 848 (q "kk" 838),kd P "substring_i" 850 (.int (-1) 840),kd P "result" 852 (.int (-1) 842)] 3
noncomputable def o353 (P:Params):Obj:=⟨(.ref 220),(some 352),.plain,#[]⟩
noncomputable def o354 (P:Params):Obj:=⟨(.type "frame"),none,(.dict #[kd P "self" 843 (.ref 353),kd P "s" 844 (q "kk" 838),kd P "substring_i" 845 (.int (-1) 840),kd P "result" 846 (.int (-1) 842)] 4),#[]⟩
noncomputable def o355 (P:Params):Obj:=dO #[kd P "s" 863 (q "tt" 853),kd P "substring_i" 865 (.int (-1) 855),kd P "result" 867 (.int (-1) 857)] 3
noncomputable def o356 (P:Params):Obj:=⟨(.ref 220),(some 355),.plain,#[]⟩
noncomputable def o357 (P:Params):Obj:=⟨(.type "frame"),none,(.dict #[kd P "self" 858 (.ref 356),kd P "s" 859 (q "tt" 853),kd P "substring_i" 860 (.int (-1) 855),kd P "result" 861 (.int (-1) 857)] 4),#[]⟩
noncomputable def o358 (P:Params):Obj:=⟨(.type "list"),none,(.seq #[(.ref 350),(.ref 353),(.ref 356)] 0),#[]⟩
noncomputable def tr15 (P:Params) (x0 x1 x2:SetD):BT:=upd (tr14 P x0 x1 x2) [(227,o227v9 P),(349,o349 P),(350,o350 P),(351,o351 P),(352,o352 P),(353,o353 P),(354,o354 P),(355,o355 P),(356,o356 P),(357,o357 P),(358,o358 P)]
noncomputable def S15 (w:World) (os:OsState) (x0 x1 x2:SetD):SharedT:=⟨tr15 w.params x0 x1 x2,359,lifeB,#[],drawnB,869,os⟩
noncomputable def o227v10 (P:Params):Obj:=dO #[kd P "__module__" 482 (q "snowballstemmer.dutch_porter_stemmer" 473),kd P "__qualname__" 484 (q "DutchPorterStemmer" 483),kd P "__firstlineno__" 486 (.int 210 485),kd P "g_v" 501 (.ref 232),kd P "g_v_I" 518 (.ref 233),kd P "g_v_j" 535 (.ref 234),kd P "I_p2" 537 (.int 0 536),kd P "I_p1" 539 (.int 0 538),kd P "B_e_found" 540 (.bool false),kd P "r_prelude" 555 (.ref 241),kd P "r_mark_regions" 564 (.ref 248),kd P "r_postlude" 573 (.ref 255),kd P "r_R1" 580 (.ref 262),kd P "r_R2" 587 (.ref 269),kd P "r_undouble" 595 (.ref 276),kd P "r_e_ending" 603 (.ref 283),kd P "r_en_ending" 611 (.ref 290),kd P "r_standard_suffix" 626 (.ref 297),kd P "_stem" 636 (.ref 304),kd P "a_0" 781 (.ref 338),kd P "a_1" 822 (.ref 348),kd P "a_2" 868 (.ref 358),kd P "a_3" 938 (.ref 374)] 23
noncomputable def o359 (P:Params):Obj:=dO #[kd P "s" 878 (q "ene" 869),kd P "substring_i" 880 (.int (-1) 871),kd P "result" 882 (.int 2 872)] 3
noncomputable def o360 (P:Params):Obj:=⟨(.ref 220),(some 359),.plain,#[]⟩
noncomputable def o361 (P:Params):Obj:=⟨(.type "frame"),none,(.dict #[kd P "self" 873 (.ref 360),kd P "s" 874 (q "ene" 869),kd P "substring_i" 875 (.int (-1) 871),kd P "result" 876 (.int 2 872)] 4),#[]⟩
noncomputable def o362 (P:Params):Obj:=dO #[kd P "s" 892 (q "se" 883),kd P "substring_i" 894 (.int (-1) 885),kd P "result" 896 (.int 3 886)] 3
noncomputable def o363 (P:Params):Obj:=⟨(.ref 220),(some 362),.plain,#[]⟩
noncomputable def o364 (P:Params):Obj:=⟨(.type "frame"),none,(.dict #[kd P "self" 887 (.ref 363),kd P "s" 888 (q "se" 883),kd P "substring_i" 889 (.int (-1) 885),kd P "result" 890 (.int 3 886)] 4),#[]⟩
noncomputable def o365 (P:Params):Obj:=dO #[kd P "s" 906 (q "en" 897),kd P "substring_i" 908 (.int (-1) 899),kd P "result" 910 (.int 2 900)] 3
noncomputable def o366 (P:Params):Obj:=⟨(.ref 220),(some 365),.plain,#[]⟩
noncomputable def o367 (P:Params):Obj:=⟨(.type "frame"),none,(.dict #[kd P "self" 901 (.ref 366),kd P "s" 902 (q "en" 897),kd P "substring_i" 903 (.int (-1) 899),kd P "result" 904 (.int 2 900)] 4),#[]⟩
noncomputable def o368 (P:Params):Obj:=dO #[kd P "s" 919 (q "heden" 911),kd P "substring_i" 921 (.int 2 912),kd P "result" 923 (.int 1 913)] 3
noncomputable def o369 (P:Params):Obj:=⟨(.ref 220),(some 368),.plain,#[]⟩
noncomputable def o370 (P:Params):Obj:=⟨(.type "frame"),none,(.dict #[kd P "self" 914 (.ref 369),kd P "s" 915 (q "heden" 911),kd P "substring_i" 916 (.int 2 912),kd P "result" 917 (.int 1 913)] 4),#[]⟩
noncomputable def o371 (P:Params):Obj:=dO #[kd P "s" 933 (q "s" 924),kd P "substring_i" 935 (.int (-1) 926),kd P "result" 937 (.int 3 927)] 3
noncomputable def o372 (P:Params):Obj:=⟨(.ref 220),(some 371),.plain,#[]⟩
noncomputable def o373 (P:Params):Obj:=⟨(.type "frame"),none,(.dict #[kd P "self" 928 (.ref 372),kd P "s" 929 (q "s" 924),kd P "substring_i" 930 (.int (-1) 926),kd P "result" 931 (.int 3 927)] 4),#[]⟩
noncomputable def o374 (P:Params):Obj:=⟨(.type "list"),none,(.seq #[(.ref 360),(.ref 363),(.ref 366),(.ref 369),(.ref 372)] 0),#[]⟩
noncomputable def tr16 (P:Params) (x0 x1 x2:SetD):BT:=upd (tr15 P x0 x1 x2) [(227,o227v10 P),(359,o359 P),(360,o360 P),(361,o361 P),(362,o362 P),(363,o363 P),(364,o364 P),(365,o365 P),(366,o366 P),(367,o367 P),(368,o368 P),(369,o369 P),(370,o370 P),(371,o371 P),(372,o372 P),(373,o373 P),(374,o374 P)]
noncomputable def S16 (w:World) (os:OsState) (x0 x1 x2:SetD):SharedT:=⟨tr16 w.params x0 x1 x2,375,lifeB,#[],drawnB,939,os⟩
noncomputable def o227v11 (P:Params):Obj:=dO #[kd P "__module__" 482 (q "snowballstemmer.dutch_porter_stemmer" 473),kd P "__qualname__" 484 (q "DutchPorterStemmer" 483),kd P "__firstlineno__" 486 (.int 210 485),kd P "g_v" 501 (.ref 232),kd P "g_v_I" 518 (.ref 233),kd P "g_v_j" 535 (.ref 234),kd P "I_p2" 537 (.int 0 536),kd P "I_p1" 539 (.int 0 538),kd P "B_e_found" 540 (.bool false),kd P "r_prelude" 555 (.ref 241),kd P "r_mark_regions" 564 (.ref 248),kd P "r_postlude" 573 (.ref 255),kd P "r_R1" 580 (.ref 262),kd P "r_R2" 587 (.ref 269),kd P "r_undouble" 595 (.ref 276),kd P "r_e_ending" 603 (.ref 283),kd P "r_en_ending" 611 (.ref 290),kd P "r_standard_suffix" 626 (.ref 297),kd P "_stem" 636 (.ref 304),kd P "a_0" 781 (.ref 338),kd P "a_1" 822 (.ref 348),kd P "a_2" 868 (.ref 358),kd P "a_3" 938 (.ref 374),kd P "a_4" 1023 (.ref 393)] 24
noncomputable def o375 (P:Params):Obj:=dO #[kd P "s" 948 (q "end" 939),kd P "substring_i" 950 (.int (-1) 941),kd P "result" 952 (.int 1 942)] 3
noncomputable def o376 (P:Params):Obj:=⟨(.ref 220),(some 375),.plain,#[]⟩
noncomputable def o377 (P:Params):Obj:=⟨(.type "frame"),none,(.dict #[kd P "self" 943 (.ref 376),kd P "s" 944 (q "end" 939),kd P "substring_i" 945 (.int (-1) 941),kd P "result" 946 (.int 1 942)] 4),#[]⟩
noncomputable def o378 (P:Params):Obj:=dO #[kd P "s" 962 (q "ig" 953),kd P "substring_i" 964 (.int (-1) 955),kd P "result" 966 (.int 2 956)] 3
noncomputable def o379 (P:Params):Obj:=⟨(.ref 220),(some 378),.plain,#[]⟩
noncomputable def o380 (P:Params):Obj:=⟨(.type "frame"),none,(.dict #[kd P "self" 957 (.ref 379),kd P "s" 958 (q "ig" 953),kd P "substring_i" 959 (.int (-1) 955),kd P "result" 960 (.int 2 956)] 4),#[]⟩
noncomputable def o381 (P:Params):Obj:=dO #[kd P "s" 976 (q "ing" 967),kd P "substring_i" 978 (.int (-1) 969),kd P "result" 980 (.int 1 970)] 3
noncomputable def o382 (P:Params):Obj:=⟨(.ref 220),(some 381),.plain,#[]⟩
noncomputable def o383 (P:Params):Obj:=⟨(.type "frame"),none,(.dict #[kd P "self" 971 (.ref 382),kd P "s" 972 (q "ing" 967),kd P "substring_i" 973 (.int (-1) 969),kd P "result" 974 (.int 1 970)] 4),#[]⟩
noncomputable def o384 (P:Params):Obj:=dO #[kd P "s" 990 (q "lijk" 981),kd P "substring_i" 992 (.int (-1) 983),kd P "result" 994 (.int 3 984)] 3
noncomputable def o385 (P:Params):Obj:=⟨(.ref 220),(some 384),.plain,#[]⟩
noncomputable def o386 (P:Params):Obj:=⟨(.type "frame"),none,(.dict #[kd P "self" 985 (.ref 385),kd P "s" 986 (q "lijk" 981),kd P "substring_i" 987 (.int (-1) 983),kd P "result" 988 (.int 3 984)] 4),#[]⟩
noncomputable def o387 (P:Params):Obj:=dO #[kd P "s" 1004 (q "baar" 995),kd P "substring_i" 1006 (.int (-1) 997),kd P "result" 1008 (.int 4 998)] 3
noncomputable def o388 (P:Params):Obj:=⟨(.ref 220),(some 387),.plain,#[]⟩
noncomputable def o389 (P:Params):Obj:=⟨(.type "frame"),none,(.dict #[kd P "self" 999 (.ref 388),kd P "s" 1000 (q "baar" 995),kd P "substring_i" 1001 (.int (-1) 997),kd P "result" 1002 (.int 4 998)] 4),#[]⟩
noncomputable def o390 (P:Params):Obj:=dO #[kd P "s" 1018 (q "bar" 1009),kd P "substring_i" 1020 (.int (-1) 1011),kd P "result" 1022 (.int 5 1012)] 3
noncomputable def o391 (P:Params):Obj:=⟨(.ref 220),(some 390),.plain,#[]⟩
noncomputable def o392 (P:Params):Obj:=⟨(.type "frame"),none,(.dict #[kd P "self" 1013 (.ref 391),kd P "s" 1014 (q "bar" 1009),kd P "substring_i" 1015 (.int (-1) 1011),kd P "result" 1016 (.int 5 1012)] 4),#[]⟩
noncomputable def o393 (P:Params):Obj:=⟨(.type "list"),none,(.seq #[(.ref 376),(.ref 379),(.ref 382),(.ref 385),(.ref 388),(.ref 391)] 0),#[]⟩
noncomputable def tr17 (P:Params) (x0 x1 x2:SetD):BT:=upd (tr16 P x0 x1 x2) [(227,o227v11 P),(375,o375 P),(376,o376 P),(377,o377 P),(378,o378 P),(379,o379 P),(380,o380 P),(381,o381 P),(382,o382 P),(383,o383 P),(384,o384 P),(385,o385 P),(386,o386 P),(387,o387 P),(388,o388 P),(389,o389 P),(390,o390 P),(391,o391 P),(392,o392 P),(393,o393 P)]
noncomputable def S17 (w:World) (os:OsState) (x0 x1 x2:SetD):SharedT:=⟨tr17 w.params x0 x1 x2,394,lifeB,#[],drawnB,1024,os⟩
noncomputable def o227v12 (P:Params):Obj:=dO #[kd P "__module__" 482 (q "snowballstemmer.dutch_porter_stemmer" 473),kd P "__qualname__" 484 (q "DutchPorterStemmer" 483),kd P "__firstlineno__" 486 (.int 210 485),kd P "g_v" 501 (.ref 232),kd P "g_v_I" 518 (.ref 233),kd P "g_v_j" 535 (.ref 234),kd P "I_p2" 537 (.int 0 536),kd P "I_p1" 539 (.int 0 538),kd P "B_e_found" 540 (.bool false),kd P "r_prelude" 555 (.ref 241),kd P "r_mark_regions" 564 (.ref 248),kd P "r_postlude" 573 (.ref 255),kd P "r_R1" 580 (.ref 262),kd P "r_R2" 587 (.ref 269),kd P "r_undouble" 595 (.ref 276),kd P "r_e_ending" 603 (.ref 283),kd P "r_en_ending" 611 (.ref 290),kd P "r_standard_suffix" 626 (.ref 297),kd P "_stem" 636 (.ref 304),kd P "a_0" 781 (.ref 338),kd P "a_1" 822 (.ref 348),kd P "a_2" 868 (.ref 358),kd P "a_3" 938 (.ref 374),kd P "a_4" 1023 (.ref 393),kd P "a_5" 1084 (.ref 406)] 25
noncomputable def o394 (P:Params):Obj:=dO #[kd P "s" 1034 (q "aa" 1024),kd P "substring_i" 1036 (.int (-1) 1026),kd P "result" 1038 (.int (-1) 1028)] 3
noncomputable def o395 (P:Params):Obj:=⟨(.ref 220),(some 394),.plain,#[]⟩
noncomputable def o396 (P:Params):Obj:=⟨(.type "frame"),none,(.dict #[kd P "self" 1029 (.ref 395),kd P "s" 1030 (q "aa" 1024),kd P "substring_i" 1031 (.int (-1) 1026),kd P "result" 1032 (.int (-1) 1028)] 4),#[]⟩
noncomputable def o397 (P:Params):Obj:=dO #[kd P "s" 1049 (q "ee" 1039),kd P "substring_i" 1051 (.int (-1) 1041),kd P "result" 1053 (.int (-1) 1043)] 3
noncomputable def o398 (P:Params):Obj:=⟨(.ref 220),(some 397),.plain,#[]⟩
noncomputable def o399 (P:Params):Obj:=⟨(.type "frame"),none,(.dict #[kd P "self" 1044 (.ref 398),kd P "s" 1045 (q "ee" 1039),kd P "substring_i" 1046 (.int (-1) 1041),kd P "result" 1047 (.int (-1) 1043)] 4),#[]⟩
noncomputable def o400 (P:Params):Obj:=dO #[kd P "s" 1064 (q "oo" 1054),kd P "substring_i" 1066 (.int (-1) 1056),kd P "result" 1068 (.int (-1) 1058)] 3
noncomputable def o401 (P:Params):Obj:=⟨(.ref 220),(some 400),.plain,#[]⟩
noncomputable def o402 (P:Params):Obj:=⟨(.type "frame"),none,(.dict #[kd P "self" 1059 (.ref 401),kd P "s" 1060 (q "oo" 1054),kd P "substring_i" 1061 (.int (-1) 1056),kd P "result" 1062 (.int (-1) 1058)] 4),#[]⟩
noncomputable def o403 (P:Params):Obj:=dO #[kd P "s" 1079 (q "uu" 1069),kd P "substring_i" 1081 (.int (-1) 1071),kd P "result" 1083 (.int (-1) 1073)] 3
noncomputable def o404 (P:Params):Obj:=⟨(.ref 220),(some 403),.plain,#[]⟩
noncomputable def o405 (P:Params):Obj:=⟨(.type "frame"),none,(.dict #[kd P "self" 1074 (.ref 404),kd P "s" 1075 (q "uu" 1069),kd P "substring_i" 1076 (.int (-1) 1071),kd P "result" 1077 (.int (-1) 1073)] 4),#[]⟩
noncomputable def o406 (P:Params):Obj:=⟨(.type "list"),none,(.seq #[(.ref 395),(.ref 398),(.ref 401),(.ref 404)] 0),#[]⟩
noncomputable def tr18 (P:Params) (x0 x1 x2:SetD):BT:=upd (tr17 P x0 x1 x2) [(227,o227v12 P),(394,o394 P),(395,o395 P),(396,o396 P),(397,o397 P),(398,o398 P),(399,o399 P),(400,o400 P),(401,o401 P),(402,o402 P),(403,o403 P),(404,o404 P),(405,o405 P),(406,o406 P)]
noncomputable def S18 (w:World) (os:OsState) (x0 x1 x2:SetD):SharedT:=⟨tr18 w.params x0 x1 x2,407,lifeB,#[],drawnB,1085,os⟩
noncomputable def o3v6 (P:Params):Obj:=dO #[kd P "__name__" 165 (q "snowballstemmer.dutch_porter_stemmer" 473),kd P "__doc__" 166 .none,kd P "__package__" 167 .none,kd P "__loader__" 168 (.builtin "__main__.__loader__#opaque"),kd P "__spec__" 169 .none,kd P "__annotations__" 170 (.ref 6),kd P "__builtins__" 171 (.ref 4),kd P "__file__" 173 (q "/claim/cut.py" 172),kd P "__cached__" 174 .none,kd P "_wall" 193 (.ref 21),kd P "BaseStemmer" 437 (.ref 199),kd P "Among" 472 (.ref 220),kd P "DutchPorterStemmer" 1095 (.ref 409)] 13
noncomputable def o199v1 (P:Params):Obj:=⟨(.type "type"),none,(.cls ⟨(.ofString "BaseStemmer"),[(.type "object")],[(.ref 199),(.type "object")],198,(.ofString "BaseStemmer"),true,[],[(.ref 409)],false,none,false⟩),#[none,none,(some (q "BaseStemmer" 196)),(some (q "BaseStemmer" 204)),(some (.builtin "object.__new__")),(some (.bool true))]⟩
noncomputable def o227v13 (P:Params):Obj:=dO #[kd P "__module__" 482 (q "snowballstemmer.dutch_porter_stemmer" 473),kd P "__qualname__" 484 (q "DutchPorterStemmer" 483),kd P "__firstlineno__" 486 (.int 210 485),kd P "g_v" 501 (.ref 232),kd P "g_v_I" 518 (.ref 233),kd P "g_v_j" 535 (.ref 234),kd P "I_p2" 537 (.int 0 536),kd P "I_p1" 539 (.int 0 538),kd P "B_e_found" 540 (.bool false),kd P "r_prelude" 555 (.ref 241),kd P "r_mark_regions" 564 (.ref 248),kd P "r_postlude" 573 (.ref 255),kd P "r_R1" 580 (.ref 262),kd P "r_R2" 587 (.ref 269),kd P "r_undouble" 595 (.ref 276),kd P "r_e_ending" 603 (.ref 283),kd P "r_en_ending" 611 (.ref 290),kd P "r_standard_suffix" 626 (.ref 297),kd P "_stem" 636 (.ref 304),kd P "a_0" 781 (.ref 338),kd P "a_1" 822 (.ref 348),kd P "a_2" 868 (.ref 358),kd P "a_3" 938 (.ref 374),kd P "a_4" 1023 (.ref 393),kd P "a_5" 1084 (.ref 406),kd P "__static_attributes__" 1092 (.ref 407)] 26
noncomputable def o407 (P:Params):Obj:=tO #[(q "B_e_found" 1085),(q "I_p1" 1086),(q "I_p2" 1087),(q "bra" 1088),(q "cursor" 1089),(q "ket" 1090),(q "limit_backward" 1091)] 0
noncomputable def o408 (P:Params):Obj:=dO #[kd P "__module__" 482 (q "snowballstemmer.dutch_porter_stemmer" 473),kd P "__firstlineno__" 486 (.int 210 485),kd P "g_v" 501 (.ref 232),kd P "g_v_I" 518 (.ref 233),kd P "g_v_j" 535 (.ref 234),kd P "I_p2" 537 (.int 0 536),kd P "I_p1" 539 (.int 0 538),kd P "B_e_found" 540 (.bool false),kd P "r_prelude" 555 (.ref 241),kd P "r_mark_regions" 564 (.ref 248),kd P "r_postlude" 573 (.ref 255),kd P "r_R1" 580 (.ref 262),kd P "r_R2" 587 (.ref 269),kd P "r_undouble" 595 (.ref 276),kd P "r_e_ending" 603 (.ref 283),kd P "r_en_ending" 611 (.ref 290),kd P "r_standard_suffix" 626 (.ref 297),kd P "_stem" 636 (.ref 304),kd P "a_0" 781 (.ref 338),kd P "a_1" 822 (.ref 348),kd P "a_2" 868 (.ref 358),kd P "a_3" 938 (.ref 374),kd P "a_4" 1023 (.ref 393),kd P "a_5" 1084 (.ref 406),kd P "__static_attributes__" 1092 (.ref 407),kd P "__doc__" 1093 .none] 2
noncomputable def o409 (P:Params):Obj:=⟨(.type "type"),none,(.cls ⟨(.ofString "DutchPorterStemmer"),[(.ref 199)],[(.ref 409),(.ref 199),(.type "object")],408,(.ofString "DutchPorterStemmer"),true,[],[],false,none,false⟩),#[(some (.ref 225)),none,(some (q "DutchPorterStemmer" 475)),(some (q "DutchPorterStemmer" 483)),(some (.builtin "object.__new__")),(some (.bool true))]⟩
noncomputable def o410 (P:Params):Obj:=⟨(.type "super"),none,(.fields #[(.ref 409),(.ref 409),(.ref 409)]),#[]⟩
noncomputable def o411 (P:Params):Obj:=⟨(.type "builtin_function_or_method"),none,(.fields #[(.builtin "object.__init_subclass__"),(.ref 409)]),#[]⟩
noncomputable def tr19 (P:Params) (x0 x1 x2:SetD):BT:=upd (tr18 P x0 x1 x2) [(3,o3v6 P),(199,o199v1 P),(227,o227v13 P),(407,o407 P),(408,o408 P),(409,o409 P),(410,o410 P),(411,o411 P)]
noncomputable def S19 (w:World) (os:OsState) (x0 x1 x2:SetD):SharedT:=⟨tr19 w.params x0 x1 x2,412,lifeB,#[],drawnB,1096,os⟩
noncomputable def o2v1 (P:Params):Obj:=⟨.none,none,(.dict #[kd P "type.__subclasses__.Exception.0" 1112 (z 421),kd P "type.__subclasses__.Exception.n" 1113 (z 4),kd P "type.__subclasses__.Exception.1" 1132 (z 434),kd P "type.__subclasses__.Exception.2" 1152 (z 447),kd P "type.__subclasses__.Exception.3" 1172 (z 460)] 5),#[]⟩
noncomputable def o3v7 (P:Params):Obj:=dO #[kd P "__name__" 165 (q "snowballstemmer.dutch_porter_stemmer" 473),kd P "__doc__" 166 .none,kd P "__package__" 167 .none,kd P "__loader__" 168 (.builtin "__main__.__loader__#opaque"),kd P "__spec__" 169 .none,kd P "__annotations__" 170 (.ref 6),kd P "__builtins__" 171 (.ref 4),kd P "__file__" 173 (q "/claim/cut.py" 172),kd P "__cached__" 174 .none,kd P "_wall" 193 (.ref 21),kd P "BaseStemmer" 437 (.ref 199),kd P "Among" 472 (.ref 220),kd P "DutchPorterStemmer" 1095 (.ref 409),kd P "lab0" 1115 (.ref 421),kd P "lab1" 1135 (.ref 434),kd P "lab2" 1155 (.ref 447),kd P "lab3" 1175 (.ref 460)] 17
noncomputable def o12v5 (P:Params):Obj:=fO #[(z 1),(z 0),(.ref 20),(z 5),(z 0),(.ref 27),(z 203),(z 0),(.ref 209),(z 210),(z 0),(.ref 230),(z 565),(z 0),(.ref 417),(z 567),(z 0),(.ref 430),(z 569),(z 0),(.ref 443),(z 571),(z 0),(.ref 456)]
noncomputable def o412 (P:Params):Obj:=tO #[(.type "Exception")] 0
noncomputable def o413 (P:Params):Obj:=⟨(.type "builtin_function_or_method"),none,(.fields #[(.builtin "type.__prepare__"),(.type "type")]),#[]⟩
noncomputable def o414 (P:Params):Obj:=dO #[kd P "__module__" 1103 (q "snowballstemmer.dutch_porter_stemmer" 473),kd P "__qualname__" 1105 (q "lab0" 1104),kd P "__firstlineno__" 1107 (.int 565 1106),kd P "__static_attributes__" 1108 (.ref 419)] 4
noncomputable def o415 (P:Params):Obj:=tO #[] 0
noncomputable def o416 (P:Params):Obj:=fO #[]
noncomputable def o417 (P:Params):Obj:=cO #[(q "lab0" 1098),(q "lab0" 1099),(q "/claim/cut.py" 1100),(z 565),(z 0),(z 0),(z 0),(z 0),(.ref 415),(.bool false),(z 181),(.ref 416),.none,.none,.none,.none,(z 1101),(z 565),(q "/claim/cut.py" 1102)]
noncomputable def o418 (P:Params):Obj:=⟨(.type "frame"),none,.plain,#[(some (.ref 417)),(some (.ref 3)),(some (.ref 414)),none,(some (q "snowballstemmer.dutch_porter_stemmer" 473)),none,(some (.ref 0))]⟩
noncomputable def o419 (P:Params):Obj:=tO #[] 0
noncomputable def o420 (P:Params):Obj:=dO #[kd P "__module__" 1103 (q "snowballstemmer.dutch_porter_stemmer" 473),kd P "__firstlineno__" 1107 (.int 565 1106),kd P "__static_attributes__" 1108 (.ref 419),kd P "__weakref__" 1110 (.ref 422),kd P "__doc__" 1111 .none] 3
noncomputable def o421 (P:Params):Obj:=⟨(.type "type"),none,(.cls ⟨(.ofString "lab0"),[(.type "Exception")],[(.ref 421),(.type "Exception"),(.type "BaseException"),(.type "object")],420,(.ofString "lab0"),true,[],[],false,none,false⟩),#[(some (.ref 412)),none,(some (q "lab0" 1096)),(some (q "lab0" 1104)),(some (.builtin "Exception.__new__")),(some (.bool true))]⟩
noncomputable def o422 (P:Params):Obj:=⟨(.type "getset_descriptor"),none,(.fields #[(q "__weakref__" 1109),(.ref 421),(.builtin "ExceptionGroup.__weakref__"),.none]),#[]⟩
noncomputable def o423 (P:Params):Obj:=⟨(.type "super"),none,(.fields #[(.ref 421),(.ref 421),(.ref 421)]),#[]⟩
noncomputable def o424 (P:Params):Obj:=⟨(.type "builtin_function_or_method"),none,(.fields #[(.builtin "object.__init_subclass__"),(.ref 421)]),#[]⟩
noncomputable def o425 (P:Params):Obj:=tO #[(.type "Exception")] 0
noncomputable def o426 (P:Params):Obj:=⟨(.type "builtin_function_or_method"),none,(.fields #[(.builtin "type.__prepare__"),(.type "type")]),#[]⟩
noncomputable def o427 (P:Params):Obj:=dO #[kd P "__module__" 1123 (q "snowballstemmer.dutch_porter_stemmer" 473),kd P "__qualname__" 1125 (q "lab1" 1124),kd P "__firstlineno__" 1127 (.int 567 1126),kd P "__static_attributes__" 1128 (.ref 432)] 4
noncomputable def o428 (P:Params):Obj:=tO #[] 0
noncomputable def o429 (P:Params):Obj:=fO #[]
noncomputable def o430 (P:Params):Obj:=cO #[(q "lab1" 1118),(q "lab1" 1119),(q "/claim/cut.py" 1120),(z 567),(z 0),(z 0),(z 0),(z 0),(.ref 428),(.bool false),(z 181),(.ref 429),.none,.none,.none,.none,(z 1121),(z 567),(q "/claim/cut.py" 1122)]
noncomputable def o431 (P:Params):Obj:=⟨(.type "frame"),none,.plain,#[(some (.ref 430)),(some (.ref 3)),(some (.ref 427)),none,(some (q "snowballstemmer.dutch_porter_stemmer" 473)),none,(some (.ref 0))]⟩
noncomputable def o432 (P:Params):Obj:=tO #[] 0
noncomputable def o433 (P:Params):Obj:=dO #[kd P "__module__" 1123 (q "snowballstemmer.dutch_porter_stemmer" 473),kd P "__firstlineno__" 1127 (.int 567 1126),kd P "__static_attributes__" 1128 (.ref 432),kd P "__weakref__" 1130 (.ref 435),kd P "__doc__" 1131 .none] 3
noncomputable def o434 (P:Params):Obj:=⟨(.type "type"),none,(.cls ⟨(.ofString "lab1"),[(.type "Exception")],[(.ref 434),(.type "Exception"),(.type "BaseException"),(.type "object")],433,(.ofString "lab1"),true,[],[],false,none,false⟩),#[(some (.ref 425)),none,(some (q "lab1" 1116)),(some (q "lab1" 1124)),(some (.builtin "Exception.__new__")),(some (.bool true))]⟩
noncomputable def o435 (P:Params):Obj:=⟨(.type "getset_descriptor"),none,(.fields #[(q "__weakref__" 1129),(.ref 434),(.builtin "ExceptionGroup.__weakref__"),.none]),#[]⟩
noncomputable def o436 (P:Params):Obj:=⟨(.type "super"),none,(.fields #[(.ref 434),(.ref 434),(.ref 434)]),#[]⟩
noncomputable def o437 (P:Params):Obj:=⟨(.type "builtin_function_or_method"),none,(.fields #[(.builtin "object.__init_subclass__"),(.ref 434)]),#[]⟩
noncomputable def o438 (P:Params):Obj:=tO #[(.type "Exception")] 0
noncomputable def o439 (P:Params):Obj:=⟨(.type "builtin_function_or_method"),none,(.fields #[(.builtin "type.__prepare__"),(.type "type")]),#[]⟩
noncomputable def o440 (P:Params):Obj:=dO #[kd P "__module__" 1143 (q "snowballstemmer.dutch_porter_stemmer" 473),kd P "__qualname__" 1145 (q "lab2" 1144),kd P "__firstlineno__" 1147 (.int 569 1146),kd P "__static_attributes__" 1148 (.ref 445)] 4
noncomputable def o441 (P:Params):Obj:=tO #[] 0
noncomputable def o442 (P:Params):Obj:=fO #[]
noncomputable def o443 (P:Params):Obj:=cO #[(q "lab2" 1138),(q "lab2" 1139),(q "/claim/cut.py" 1140),(z 569),(z 0),(z 0),(z 0),(z 0),(.ref 441),(.bool false),(z 181),(.ref 442),.none,.none,.none,.none,(z 1141),(z 569),(q "/claim/cut.py" 1142)]
noncomputable def o444 (P:Params):Obj:=⟨(.type "frame"),none,.plain,#[(some (.ref 443)),(some (.ref 3)),(some (.ref 440)),none,(some (q "snowballstemmer.dutch_porter_stemmer" 473)),none,(some (.ref 0))]⟩
noncomputable def o445 (P:Params):Obj:=tO #[] 0
noncomputable def o446 (P:Params):Obj:=dO #[kd P "__module__" 1143 (q "snowballstemmer.dutch_porter_stemmer" 473),kd P "__firstlineno__" 1147 (.int 569 1146),kd P "__static_attributes__" 1148 (.ref 445),kd P "__weakref__" 1150 (.ref 448),kd P "__doc__" 1151 .none] 3
noncomputable def o447 (P:Params):Obj:=⟨(.type "type"),none,(.cls ⟨(.ofString "lab2"),[(.type "Exception")],[(.ref 447),(.type "Exception"),(.type "BaseException"),(.type "object")],446,(.ofString "lab2"),true,[],[],false,none,false⟩),#[(some (.ref 438)),none,(some (q "lab2" 1136)),(some (q "lab2" 1144)),(some (.builtin "Exception.__new__")),(some (.bool true))]⟩
noncomputable def o448 (P:Params):Obj:=⟨(.type "getset_descriptor"),none,(.fields #[(q "__weakref__" 1149),(.ref 447),(.builtin "ExceptionGroup.__weakref__"),.none]),#[]⟩
noncomputable def o449 (P:Params):Obj:=⟨(.type "super"),none,(.fields #[(.ref 447),(.ref 447),(.ref 447)]),#[]⟩
noncomputable def o450 (P:Params):Obj:=⟨(.type "builtin_function_or_method"),none,(.fields #[(.builtin "object.__init_subclass__"),(.ref 447)]),#[]⟩
noncomputable def o451 (P:Params):Obj:=tO #[(.type "Exception")] 0
noncomputable def o452 (P:Params):Obj:=⟨(.type "builtin_function_or_method"),none,(.fields #[(.builtin "type.__prepare__"),(.type "type")]),#[]⟩
noncomputable def o453 (P:Params):Obj:=dO #[kd P "__module__" 1163 (q "snowballstemmer.dutch_porter_stemmer" 473),kd P "__qualname__" 1165 (q "lab3" 1164),kd P "__firstlineno__" 1167 (.int 571 1166),kd P "__static_attributes__" 1168 (.ref 458)] 4
noncomputable def o454 (P:Params):Obj:=tO #[] 0
noncomputable def o455 (P:Params):Obj:=fO #[]
noncomputable def o456 (P:Params):Obj:=cO #[(q "lab3" 1158),(q "lab3" 1159),(q "/claim/cut.py" 1160),(z 571),(z 0),(z 0),(z 0),(z 0),(.ref 454),(.bool false),(z 181),(.ref 455),.none,.none,.none,.none,(z 1161),(z 571),(q "/claim/cut.py" 1162)]
noncomputable def o457 (P:Params):Obj:=⟨(.type "frame"),none,.plain,#[(some (.ref 456)),(some (.ref 3)),(some (.ref 453)),none,(some (q "snowballstemmer.dutch_porter_stemmer" 473)),none,(some (.ref 0))]⟩
noncomputable def o458 (P:Params):Obj:=tO #[] 0
noncomputable def o459 (P:Params):Obj:=dO #[kd P "__module__" 1163 (q "snowballstemmer.dutch_porter_stemmer" 473),kd P "__firstlineno__" 1167 (.int 571 1166),kd P "__static_attributes__" 1168 (.ref 458),kd P "__weakref__" 1170 (.ref 461),kd P "__doc__" 1171 .none] 3
noncomputable def o460 (P:Params):Obj:=⟨(.type "type"),none,(.cls ⟨(.ofString "lab3"),[(.type "Exception")],[(.ref 460),(.type "Exception"),(.type "BaseException"),(.type "object")],459,(.ofString "lab3"),true,[],[],false,none,false⟩),#[(some (.ref 451)),none,(some (q "lab3" 1156)),(some (q "lab3" 1164)),(some (.builtin "Exception.__new__")),(some (.bool true))]⟩
noncomputable def o461 (P:Params):Obj:=⟨(.type "getset_descriptor"),none,(.fields #[(q "__weakref__" 1169),(.ref 460),(.builtin "ExceptionGroup.__weakref__"),.none]),#[]⟩
noncomputable def o462 (P:Params):Obj:=⟨(.type "super"),none,(.fields #[(.ref 460),(.ref 460),(.ref 460)]),#[]⟩
noncomputable def o463 (P:Params):Obj:=⟨(.type "builtin_function_or_method"),none,(.fields #[(.builtin "object.__init_subclass__"),(.ref 460)]),#[]⟩
noncomputable def tr20 (P:Params) (x0 x1 x2:SetD):BT:=upd (tr19 P x0 x1 x2) [(2,o2v1 P),(3,o3v7 P),(12,o12v5 P),(412,o412 P),(413,o413 P),(414,o414 P),(415,o415 P),(416,o416 P),(417,o417 P),(418,o418 P),(419,o419 P),(420,o420 P),(421,o421 P),(422,o422 P),(423,o423 P),(424,o424 P),(425,o425 P),(426,o426 P),(427,o427 P),(428,o428 P),(429,o429 P),(430,o430 P),(431,o431 P),(432,o432 P),(433,o433 P),(434,o434 P),(435,o435 P),(436,o436 P),(437,o437 P),(438,o438 P),(439,o439 P),(440,o440 P),(441,o441 P),(442,o442 P),(443,o443 P),(444,o444 P),(445,o445 P),(446,o446 P),(447,o447 P),(448,o448 P),(449,o449 P),(450,o450 P),(451,o451 P),(452,o452 P),(453,o453 P),(454,o454 P),(455,o455 P),(456,o456 P),(457,o457 P),(458,o458 P),(459,o459 P),(460,o460 P),(461,o461 P),(462,o462 P),(463,o463 P)]
noncomputable def S20 (w:World) (os:OsState) (x0 x1 x2:SetD):SharedT:=⟨tr20 w.params x0 x1 x2,464,lifeB,#[],drawnB,1176,os⟩
noncomputable def o3v8 (P:Params):Obj:=dO #[kd P "__name__" 165 (q "law_is0013_01" 1176),kd P "__doc__" 166 .none,kd P "__package__" 167 .none,kd P "__loader__" 168 (.builtin "__main__.__loader__#opaque"),kd P "__spec__" 169 .none,kd P "__annotations__" 170 (.ref 6),kd P "__builtins__" 171 (.ref 4),kd P "__file__" 173 (q "/claim/cut.py" 172),kd P "__cached__" 174 .none,kd P "_wall" 193 (.ref 21),kd P "BaseStemmer" 437 (.ref 199),kd P "Among" 472 (.ref 220),kd P "DutchPorterStemmer" 1095 (.ref 409),kd P "lab0" 1115 (.ref 421),kd P "lab1" 1135 (.ref 434),kd P "lab2" 1155 (.ref 447),kd P "lab3" 1175 (.ref 460),kd P "_law_signs" 1179 (q "enatirdoslgvhkmubpwjzcfxyqèáäéëíïóöúüAÉê'-IY" 1178)] 18
noncomputable def tr21 (P:Params) (x0 x1 x2:SetD):BT:=upd (tr20 P x0 x1 x2) [(3,o3v8 P)]
noncomputable def S21 (w:World) (os:OsState) (x0 x1 x2:SetD):SharedT:=⟨tr21 w.params x0 x1 x2,464,lifeB,#[],drawnB,1180,os⟩
noncomputable def o3v9 (P:Params):Obj:=dO #[kd P "__name__" 165 (q "law_is0013_01" 1176),kd P "__doc__" 166 .none,kd P "__package__" 167 .none,kd P "__loader__" 168 (.builtin "__main__.__loader__#opaque"),kd P "__spec__" 169 .none,kd P "__annotations__" 170 (.ref 6),kd P "__builtins__" 171 (.ref 4),kd P "__file__" 173 (q "/claim/cut.py" 172),kd P "__cached__" 174 .none,kd P "_wall" 193 (.ref 21),kd P "BaseStemmer" 437 (.ref 199),kd P "Among" 472 (.ref 220),kd P "DutchPorterStemmer" 1095 (.ref 409),kd P "lab0" 1115 (.ref 421),kd P "lab1" 1135 (.ref 434),kd P "lab2" 1155 (.ref 447),kd P "lab3" 1175 (.ref 460),kd P "_law_signs" 1179 (q "enatirdoslgvhkmubpwjzcfxyqèáäéëíïóöúüAÉê'-IY" 1178),kd P "_law_endings" 1185 (.ref 470),kd P "_law_ends" 1191 (.ref 477),kd P "_law_bare" 1197 (.ref 484),kd P "_law_vowels" 1203 (.ref 491),kd P "_law_small" 1209 (.ref 496),kd P "_law_pile" 1220 (.ref 503),kd P "_law_root" 1226 (.ref 508),kd P "_law_joined" 1236 (.ref 515),kd P "_law_left" 1242 (.ref 520),kd P "_law_short" 1248 (.ref 525),kd P "_law_turns" 1258 (.ref 532),kd P "_law_short_holds" 1269 (.ref 539),kd P "law" 1275 (.ref 544)] 31
noncomputable def o12v6 (P:Params):Obj:=fO #[(z 1),(z 0),(.ref 20),(z 5),(z 0),(.ref 27),(z 203),(z 0),(.ref 209),(z 210),(z 0),(.ref 230),(z 565),(z 0),(.ref 417),(z 567),(z 0),(.ref 430),(z 569),(z 0),(.ref 443),(z 571),(z 0),(.ref 456),(z 575),(z 0),(.ref 469),(z 577),(z 0),(.ref 476),(z 579),(z 0),(.ref 483),(z 581),(z 0),(.ref 490),(z 583),(z 0),(.ref 495),(z 585),(z 0),(.ref 502),(z 592),(z 0),(.ref 507),(z 596),(z 0),(.ref 514),(z 603),(z 0),(.ref 519),(z 607),(z 0),(.ref 524),(z 613),(z 0),(.ref 531),(z 620),(z 0),(.ref 538),(z 629),(z 0),(.ref 543)]
noncomputable def o464 (P:Params):Obj:=tO #[] 0
noncomputable def o465 (P:Params):Obj:=fO #[]
noncomputable def o466 (P:Params):Obj:=tO #[] 0
noncomputable def o467 (P:Params):Obj:=tO #[] 0
noncomputable def o468 (P:Params):Obj:=⟨.none,none,(fnD (.ofString "_law_endings") (.ofString "_law_endings") (tS 13) .none .none .none .none none .none .none 0 0),#[]⟩
noncomputable def o469 (P:Params):Obj:=cO #[(q "_law_endings" 1180),(q "_law_endings" 1181),(q "/claim/cut.py" 1182),(z 575),(z 0),(z 0),(z 0),(z 3),(.ref 464),(.bool true),(z 181),(.ref 465),.none,(.ref 466),(.ref 467),(.ref 468),(z 1183),(z 575),(q "/claim/cut.py" 1184)]
noncomputable def o470 (P:Params):Obj:=⟨(.type "function"),none,(fnD (.ofString "_law_endings") (.ofString "_law_endings") (tS 13) .none .none .none (q "law_is0013_01" 1176) none (.ref 469) .none 3 0),#[]⟩
noncomputable def o471 (P:Params):Obj:=tO #[] 0
noncomputable def o472 (P:Params):Obj:=fO #[]
noncomputable def o473 (P:Params):Obj:=tO #[] 0
noncomputable def o474 (P:Params):Obj:=tO #[] 0
noncomputable def o475 (P:Params):Obj:=⟨.none,none,(fnD (.ofString "_law_ends") (.ofString "_law_ends") (tS 14) .none .none .none .none none .none .none 0 0),#[]⟩
noncomputable def o476 (P:Params):Obj:=cO #[(q "_law_ends" 1186),(q "_law_ends" 1187),(q "/claim/cut.py" 1188),(z 577),(z 0),(z 0),(z 0),(z 3),(.ref 471),(.bool true),(z 181),(.ref 472),.none,(.ref 473),(.ref 474),(.ref 475),(z 1189),(z 577),(q "/claim/cut.py" 1190)]
noncomputable def o477 (P:Params):Obj:=⟨(.type "function"),none,(fnD (.ofString "_law_ends") (.ofString "_law_ends") (tS 14) .none .none .none (q "law_is0013_01" 1176) none (.ref 476) .none 3 0),#[]⟩
noncomputable def o478 (P:Params):Obj:=tO #[] 0
noncomputable def o479 (P:Params):Obj:=fO #[]
noncomputable def o480 (P:Params):Obj:=tO #[] 0
noncomputable def o481 (P:Params):Obj:=tO #[] 0
noncomputable def o482 (P:Params):Obj:=⟨.none,none,(fnD (.ofString "_law_bare") (.ofString "_law_bare") (tS 15) .none .none .none .none none .none .none 0 0),#[]⟩
noncomputable def o483 (P:Params):Obj:=cO #[(q "_law_bare" 1192),(q "_law_bare" 1193),(q "/claim/cut.py" 1194),(z 579),(z 0),(z 0),(z 0),(z 3),(.ref 478),(.bool true),(z 181),(.ref 479),.none,(.ref 480),(.ref 481),(.ref 482),(z 1195),(z 579),(q "/claim/cut.py" 1196)]
noncomputable def o484 (P:Params):Obj:=⟨(.type "function"),none,(fnD (.ofString "_law_bare") (.ofString "_law_bare") (tS 15) .none .none .none (q "law_is0013_01" 1176) none (.ref 483) .none 3 0),#[]⟩
noncomputable def o485 (P:Params):Obj:=tO #[] 0
noncomputable def o486 (P:Params):Obj:=fO #[]
noncomputable def o487 (P:Params):Obj:=tO #[] 0
noncomputable def o488 (P:Params):Obj:=tO #[] 0
noncomputable def o489 (P:Params):Obj:=⟨.none,none,(fnD (.ofString "_law_vowels") (.ofString "_law_vowels") (tS 16) .none .none .none .none none .none .none 0 0),#[]⟩
noncomputable def o490 (P:Params):Obj:=cO #[(q "_law_vowels" 1198),(q "_law_vowels" 1199),(q "/claim/cut.py" 1200),(z 581),(z 0),(z 0),(z 0),(z 3),(.ref 485),(.bool true),(z 181),(.ref 486),.none,(.ref 487),(.ref 488),(.ref 489),(z 1201),(z 581),(q "/claim/cut.py" 1202)]
noncomputable def o491 (P:Params):Obj:=⟨(.type "function"),none,(fnD (.ofString "_law_vowels") (.ofString "_law_vowels") (tS 16) .none .none .none (q "law_is0013_01" 1176) none (.ref 490) .none 3 0),#[]⟩
noncomputable def o492 (P:Params):Obj:=tO #[] 0
noncomputable def o493 (P:Params):Obj:=fO #[]
noncomputable def o494 (P:Params):Obj:=⟨.none,none,(fnD (.ofString "_law_small") (.ofString "_law_small") (tS 17) .none .none .none .none none .none .none 0 0),#[]⟩
noncomputable def o495 (P:Params):Obj:=cO #[(q "_law_small" 1204),(q "_law_small" 1205),(q "/claim/cut.py" 1206),(z 583),(z 1),(z 0),(z 0),(z 3),(.ref 492),(.bool true),(z 181),(.ref 493),.none,.none,.none,(.ref 494),(z 1207),(z 583),(q "/claim/cut.py" 1208)]
noncomputable def o496 (P:Params):Obj:=⟨(.type "function"),none,(fnD (.ofString "_law_small") (.ofString "_law_small") (tS 17) .none .none .none (q "law_is0013_01" 1176) none (.ref 495) .none 3 0),#[]⟩
noncomputable def o497 (P:Params):Obj:=tO #[] 0
noncomputable def o498 (P:Params):Obj:=fO #[]
noncomputable def o499 (P:Params):Obj:=tO #[(q "numbers" 1213),(q "most" 1214),(q "pile" 1215),(q "number" 1216),(q "piece" 1217)] 0
noncomputable def o500 (P:Params):Obj:=tO #[] 0
noncomputable def o501 (P:Params):Obj:=⟨.none,none,(fnD (.ofString "_law_pile") (.ofString "_law_pile") (tS 18) .none .none .none .none none .none .none 0 0),#[]⟩
noncomputable def o502 (P:Params):Obj:=cO #[(q "_law_pile" 1210),(q "_law_pile" 1211),(q "/claim/cut.py" 1212),(z 585),(z 2),(z 0),(z 0),(z 3),(.ref 497),(.bool true),(z 181),(.ref 498),.none,(.ref 499),(.ref 500),(.ref 501),(z 1218),(z 585),(q "/claim/cut.py" 1219)]
noncomputable def o503 (P:Params):Obj:=⟨(.type "function"),none,(fnD (.ofString "_law_pile") (.ofString "_law_pile") (tS 18) .none .none .none (q "law_is0013_01" 1176) none (.ref 502) .none 3 0),#[]⟩
noncomputable def o504 (P:Params):Obj:=tO #[] 0
noncomputable def o505 (P:Params):Obj:=fO #[]
noncomputable def o506 (P:Params):Obj:=⟨.none,none,(fnD (.ofString "_law_root") (.ofString "_law_root") (tS 19) .none .none .none .none none .none .none 0 0),#[]⟩
noncomputable def o507 (P:Params):Obj:=cO #[(q "_law_root" 1221),(q "_law_root" 1222),(q "/claim/cut.py" 1223),(z 592),(z 1),(z 0),(z 0),(z 3),(.ref 504),(.bool true),(z 181),(.ref 505),.none,.none,.none,(.ref 506),(z 1224),(z 592),(q "/claim/cut.py" 1225)]
noncomputable def o508 (P:Params):Obj:=⟨(.type "function"),none,(fnD (.ofString "_law_root") (.ofString "_law_root") (tS 19) .none .none .none (q "law_is0013_01" 1176) none (.ref 507) .none 3 0),#[]⟩
noncomputable def o509 (P:Params):Obj:=tO #[] 0
noncomputable def o510 (P:Params):Obj:=fO #[]
noncomputable def o511 (P:Params):Obj:=tO #[(q "rows" 1230),(q "last" 1231),(q "middle" 1232),(q "head" 1233)] 0
noncomputable def o512 (P:Params):Obj:=tO #[] 0
noncomputable def o513 (P:Params):Obj:=⟨.none,none,(fnD (.ofString "_law_joined") (.ofString "_law_joined") (tS 20) .none .none .none .none none .none .none 0 0),#[]⟩
noncomputable def o514 (P:Params):Obj:=cO #[(q "_law_joined" 1227),(q "_law_joined" 1228),(q "/claim/cut.py" 1229),(z 596),(z 0),(z 0),(z 0),(z 3),(.ref 509),(.bool true),(z 181),(.ref 510),.none,(.ref 511),(.ref 512),(.ref 513),(z 1234),(z 596),(q "/claim/cut.py" 1235)]
noncomputable def o515 (P:Params):Obj:=⟨(.type "function"),none,(fnD (.ofString "_law_joined") (.ofString "_law_joined") (tS 20) .none .none .none (q "law_is0013_01" 1176) none (.ref 514) .none 3 0),#[]⟩
noncomputable def o516 (P:Params):Obj:=tO #[] 0
noncomputable def o517 (P:Params):Obj:=fO #[]
noncomputable def o518 (P:Params):Obj:=⟨.none,none,(fnD (.ofString "_law_left") (.ofString "_law_left") (tS 21) .none .none .none .none none .none .none 0 0),#[]⟩
noncomputable def o519 (P:Params):Obj:=cO #[(q "_law_left" 1237),(q "_law_left" 1238),(q "/claim/cut.py" 1239),(z 603),(z 2),(z 0),(z 0),(z 3),(.ref 516),(.bool true),(z 181),(.ref 517),.none,.none,.none,(.ref 518),(z 1240),(z 603),(q "/claim/cut.py" 1241)]
noncomputable def o520 (P:Params):Obj:=⟨(.type "function"),none,(fnD (.ofString "_law_left") (.ofString "_law_left") (tS 21) .none .none .none (q "law_is0013_01" 1176) none (.ref 519) .none 3 0),#[]⟩
noncomputable def o521 (P:Params):Obj:=tO #[] 0
noncomputable def o522 (P:Params):Obj:=fO #[]
noncomputable def o523 (P:Params):Obj:=⟨.none,none,(fnD (.ofString "_law_short") (.ofString "_law_short") (tS 22) .none .none .none .none none .none .none 0 0),#[]⟩
noncomputable def o524 (P:Params):Obj:=cO #[(q "_law_short" 1243),(q "_law_short" 1244),(q "/claim/cut.py" 1245),(z 607),(z 1),(z 0),(z 0),(z 3),(.ref 521),(.bool true),(z 181),(.ref 522),.none,.none,.none,(.ref 523),(z 1246),(z 607),(q "/claim/cut.py" 1247)]
noncomputable def o525 (P:Params):Obj:=⟨(.type "function"),none,(fnD (.ofString "_law_short") (.ofString "_law_short") (tS 22) .none .none .none (q "law_is0013_01" 1176) none (.ref 524) .none 3 0),#[]⟩
noncomputable def o526 (P:Params):Obj:=tO #[] 0
noncomputable def o527 (P:Params):Obj:=fO #[]
noncomputable def o528 (P:Params):Obj:=tO #[(q "word" 1252),(q "first" 1253),(q "second" 1254),(q "third" 1255)] 0
noncomputable def o529 (P:Params):Obj:=tO #[] 0
noncomputable def o530 (P:Params):Obj:=⟨.none,none,(fnD (.ofString "_law_turns") (.ofString "_law_turns") (tS 23) .none .none .none .none none .none .none 0 0),#[]⟩
noncomputable def o531 (P:Params):Obj:=cO #[(q "_law_turns" 1249),(q "_law_turns" 1250),(q "/claim/cut.py" 1251),(z 613),(z 1),(z 0),(z 0),(z 3),(.ref 526),(.bool true),(z 181),(.ref 527),.none,(.ref 528),(.ref 529),(.ref 530),(z 1256),(z 613),(q "/claim/cut.py" 1257)]
noncomputable def o532 (P:Params):Obj:=⟨(.type "function"),none,(fnD (.ofString "_law_turns") (.ofString "_law_turns") (tS 23) .none .none .none (q "law_is0013_01" 1176) none (.ref 531) .none 3 0),#[]⟩
noncomputable def o533 (P:Params):Obj:=tO #[] 0
noncomputable def o534 (P:Params):Obj:=fO #[]
noncomputable def o535 (P:Params):Obj:=tO #[(q "numbers" 1262),(q "stemmer" 1263),(q "short" 1264),(q "stem" 1265),(q "again" 1266)] 0
noncomputable def o536 (P:Params):Obj:=tO #[] 0
noncomputable def o537 (P:Params):Obj:=⟨.none,none,(fnD (.ofString "_law_short_holds") (.ofString "_law_short_holds") (tS 24) .none .none .none .none none .none .none 0 0),#[]⟩
noncomputable def o538 (P:Params):Obj:=cO #[(q "_law_short_holds" 1259),(q "_law_short_holds" 1260),(q "/claim/cut.py" 1261),(z 620),(z 1),(z 0),(z 0),(z 3),(.ref 533),(.bool true),(z 181),(.ref 534),.none,(.ref 535),(.ref 536),(.ref 537),(z 1267),(z 620),(q "/claim/cut.py" 1268)]
noncomputable def o539 (P:Params):Obj:=⟨(.type "function"),none,(fnD (.ofString "_law_short_holds") (.ofString "_law_short_holds") (tS 24) .none .none .none (q "law_is0013_01" 1176) none (.ref 538) .none 3 0),#[]⟩
noncomputable def o540 (P:Params):Obj:=tO #[] 0
noncomputable def o541 (P:Params):Obj:=fO #[]
noncomputable def o542 (P:Params):Obj:=⟨.none,none,(fnD (.ofString "law") (.ofString "law") (tS 25) .none .none .none .none none .none .none 0 0),#[]⟩
noncomputable def o543 (P:Params):Obj:=cO #[(q "law" 1270),(q "law" 1271),(q "/claim/cut.py" 1272),(z 629),(z 1),(z 0),(z 0),(z 3),(.ref 540),(.bool true),(z 181),(.ref 541),.none,.none,.none,(.ref 542),(z 1273),(z 629),(q "/claim/cut.py" 1274)]
noncomputable def o544 (P:Params):Obj:=⟨(.type "function"),none,(fnD (.ofString "law") (.ofString "law") (tS 25) .none .none .none (q "law_is0013_01" 1176) none (.ref 543) .none 3 0),#[]⟩
noncomputable def tr22 (P:Params) (x0 x1 x2:SetD):BT:=upd (tr21 P x0 x1 x2) [(3,o3v9 P),(12,o12v6 P),(464,o464 P),(465,o465 P),(466,o466 P),(467,o467 P),(468,o468 P),(469,o469 P),(470,o470 P),(471,o471 P),(472,o472 P),(473,o473 P),(474,o474 P),(475,o475 P),(476,o476 P),(477,o477 P),(478,o478 P),(479,o479 P),(480,o480 P),(481,o481 P),(482,o482 P),(483,o483 P),(484,o484 P),(485,o485 P),(486,o486 P),(487,o487 P),(488,o488 P),(489,o489 P),(490,o490 P),(491,o491 P),(492,o492 P),(493,o493 P),(494,o494 P),(495,o495 P),(496,o496 P),(497,o497 P),(498,o498 P),(499,o499 P),(500,o500 P),(501,o501 P),(502,o502 P),(503,o503 P),(504,o504 P),(505,o505 P),(506,o506 P),(507,o507 P),(508,o508 P),(509,o509 P),(510,o510 P),(511,o511 P),(512,o512 P),(513,o513 P),(514,o514 P),(515,o515 P),(516,o516 P),(517,o517 P),(518,o518 P),(519,o519 P),(520,o520 P),(521,o521 P),(522,o522 P),(523,o523 P),(524,o524 P),(525,o525 P),(526,o526 P),(527,o527 P),(528,o528 P),(529,o529 P),(530,o530 P),(531,o531 P),(532,o532 P),(533,o533 P),(534,o534 P),(535,o535 P),(536,o536 P),(537,o537 P),(538,o538 P),(539,o539 P),(540,o540 P),(541,o541 P),(542,o542 P),(543,o543 P),(544,o544 P)]
noncomputable def S22 (w:World) (os:OsState) (x0 x1 x2:SetD):SharedT:=⟨tr22 w.params x0 x1 x2,545,lifeB,#[],drawnB,1276,os⟩
noncomputable abbrev goT:=PySem.W.Fast.tw10295753902157049106
noncomputable abbrev tbF:=PySem.W.Fast.tw14364793385576792824
noncomputable def topEnv:Env:={ scope:=pw.main.scope,locals:=3,globals:=3,cells:=[],code:=.ref 13,frame:=some 14 }
noncomputable def tCode:Code:=.body pw.main.body topEnv
noncomputable abbrev fr0:Frame:=topFrame ⟨0,0,0,0⟩
noncomputable def T (i:Nat) (pos:Pos):Thread:=restOf (pw.main.body.drop i) topEnv tCode pos [fr0]
end
section
noncomputable abbrev go (n:Nat) (w:World) (s:SharedT) (t:Thread):=goT tbF pw w 11 (some (.ref 6)) 0 n s t
theorem p0:∀ (w:World) (os:OsState),topGo treeTable pw w 11 (some (.ref 6)) 12 ⟨boot_heap w.params,#[],boot_drawn,boot_toks,os⟩ (topStub pw)=some ((S0 w os).abs,⟨denote treeTable tCode,tCode,⟨0,0,0,0⟩,[fr0]⟩):=by intro w os;kernel_rfl
theorem p1:∀ (w:World) (os:OsState),go 38 w (S0 w os) (T 0 ⟨0,0,0,0⟩)=some (S1 w os,T 2 ⟨4,0,4,8⟩):=by intro w os;kernel_rfl
theorem p2:∀ (w:World) (os:OsState),go 987 w (S1 w os) (T 2 ⟨4,0,4,8⟩)=some (S2 w os,T 3 ⟨5,0,201,16⟩):=by intro w os;kernel_rfl
theorem p3:∀ (w:World) (os:OsState),go 9 w (S2 w os) (T 3 ⟨5,0,201,16⟩)=some (S3 w os,T 4 ⟨202,0,202,8⟩):=by intro w os;kernel_rfl
theorem p4:∀ (w:World) (os:OsState),go 226 w (S3 w os) (T 4 ⟨202,0,202,8⟩)=some (S4 w os,T 5 ⟨203,0,208,28⟩):=by intro w os;kernel_rfl
theorem p5:∀ (w:World) (os:OsState),go 9 w (S4 w os) (T 5 ⟨203,0,208,28⟩)=some (S5 w os,T 6 ⟨209,0,209,8⟩):=by intro w os;kernel_rfl
noncomputable def clsT (w:World) (os:OsState):Thread:=match go 64 w (S5 w os) (T 6 ⟨209,0,209,8⟩) with |some (_,t)=>t |none=>⟨.pure (.done .next),tCode,⟨0,0,0,0⟩,[]⟩
noncomputable def clsK (w:World) (os:OsState):Result→Sem Fin:=match (clsT w os).stack with |(.ret k _ _ _ _ _ _)::_=>k |_=>fun _=>.pure (.done .next)
noncomputable def cEnv:Env:={ scope:=clsScope (tS 6),locals:=227,globals:=3,cells:=[],qual:="DutchPorterStemmer.",func:=none,code:=.ref 230,frame:=some 231,builtins:=0 }
noncomputable def cCode:Code:=.body (clsBody (tS 6)) cEnv
noncomputable abbrev cFr (w:World) (os:OsState):Frame:=.ret (clsK w os) none false [.ref 199,.ref 225,.ref 225,.ref 227,.ref 231] tCode ⟨210,0,564,94⟩ []
noncomputable def C (w:World) (os:OsState) (i:Nat) (pos:Pos):Thread:=restOf ((clsBody (tS 6)).drop i) cEnv cCode pos [cFr w os,fr0]
theorem p6:∀ (w:World) (os:OsState),go 64 w (S5 w os) (T 6 ⟨209,0,209,8⟩)=some (S6 w os,⟨PySem.W.Fast.tw11892475500146522536 tbF cCode,cCode,⟨210,0,564,94⟩,[cFr w os,fr0]⟩):=by intro w os;kernel_rfl
theorem p10:∀ (w:World) (os:OsState) (x0 x1 x2:SetD),go 29 w (S9 w os x0 x1 x2) (C w os 3 ⟨213,4,213,9⟩)=some (S10 w os x0 x1 x2,C w os 6 ⟨216,4,216,13⟩):=by intro w os x0 x1 x2;kernel_rfl
theorem p11:∀ (w:World) (os:OsState) (x0 x1 x2:SetD),go 293 w (S10 w os x0 x1 x2) (C w os 6 ⟨216,4,216,13⟩)=some (S11 w os x0 x1 x2,C w os 15 ⟨406,4,542,19⟩):=by intro w os x0 x1 x2;kernel_rfl
theorem p12:∀ (w:World) (os:OsState) (x0 x1 x2:SetD),go 33 w (S11 w os x0 x1 x2) (C w os 15 ⟨406,4,542,19⟩)=some (S12 w os x0 x1 x2,C w os 16 ⟨544,4,558,19⟩):=by intro w os x0 x1 x2;kernel_rfl
theorem p13:∀ (w:World) (os:OsState) (x0 x1 x2:SetD),go 1831 w (S12 w os x0 x1 x2) (C w os 16 ⟨544,4,558,19⟩)=some (S13 w os x0 x1 x2,C w os 17 ⟨559,4,559,7⟩):=by intro w os x0 x1 x2;kernel_rfl
theorem p14:∀ (w:World) (os:OsState) (x0 x1 x2:SetD),go 511 w (S13 w os x0 x1 x2) (C w os 17 ⟨559,4,559,7⟩)=some (S14 w os x0 x1 x2,C w os 18 ⟨560,4,560,7⟩):=by intro w os x0 x1 x2;kernel_rfl
theorem p15:∀ (w:World) (os:OsState) (x0 x1 x2:SetD),go 536 w (S14 w os x0 x1 x2) (C w os 18 ⟨560,4,560,7⟩)=some (S15 w os x0 x1 x2,C w os 19 ⟨561,4,561,7⟩):=by intro w os x0 x1 x2;kernel_rfl
theorem p16:∀ (w:World) (os:OsState) (x0 x1 x2:SetD),go 856 w (S15 w os x0 x1 x2) (C w os 19 ⟨561,4,561,7⟩)=some (S16 w os x0 x1 x2,C w os 20 ⟨562,4,562,7⟩):=by intro w os x0 x1 x2;kernel_rfl
theorem p17:∀ (w:World) (os:OsState) (x0 x1 x2:SetD),go 1031 w (S16 w os x0 x1 x2) (C w os 20 ⟨562,4,562,7⟩)=some (S17 w os x0 x1 x2,C w os 21 ⟨563,4,563,7⟩):=by intro w os x0 x1 x2;kernel_rfl
theorem p18:∀ (w:World) (os:OsState) (x0 x1 x2:SetD),go 711 w (S17 w os x0 x1 x2) (C w os 21 ⟨563,4,563,7⟩)=some (S18 w os x0 x1 x2,C w os 22 ⟨564,4,564,7⟩):=by intro w os x0 x1 x2;kernel_rfl
theorem p19:∀ (w:World) (os:OsState) (x0 x1 x2:SetD),go 174 w (S18 w os x0 x1 x2) (C w os 22 ⟨564,4,564,7⟩)=some (S19 w os x0 x1 x2,T 7 ⟨210,0,564,94⟩):=by intro w os x0 x1 x2;kernel_rfl
theorem p20:∀ (w:World) (os:OsState) (x0 x1 x2:SetD),go 784 w (S19 w os x0 x1 x2) (T 7 ⟨210,0,564,94⟩)=some (S20 w os x0 x1 x2,T 11 ⟨571,0,572,8⟩):=by intro w os x0 x1 x2;kernel_rfl
theorem p21:∀ (w:World) (os:OsState) (x0 x1 x2:SetD),go 18 w (S20 w os x0 x1 x2) (T 11 ⟨571,0,572,8⟩)=some (S21 w os x0 x1 x2,T 13 ⟨574,0,574,10⟩):=by intro w os x0 x1 x2;kernel_rfl
theorem p22:∀ (w:World) (os:OsState) (x0 x1 x2:SetD),go 372 w (S21 w os x0 x1 x2) (T 13 ⟨574,0,574,10⟩)=some (S22 w os x0 x1 x2,T 26 ⟨629,0,645,48⟩):=by intro w os x0 x1 x2;kernel_rfl
end
section
section
variable {tb:String→Option Builtin} {p:Program} {w:World} {n₀:Nat} {ann:Option Value} {α β:Type}
theorem go_add {b:Nat}:∀ {n m:Nat} {s s₁:Shared} {t t₁:Thread} {r},segGo tb p w n₀ ann b n s t=some (s₁,t₁)→segGo tb p w n₀ ann b m s₁ t₁=some r→segGo tb p w n₀ ann b (n+m) s t=some r
 |0,m,s,s₁,t,t₁,r,h,k=>by
  obtain⟨rfl,rfl⟩:s=s₁∧t=t₁:=by simpa[segGo] using h
  rw[Nat.zero_add];exact k
 |n+1,m,s,s₁,t,t₁,r,h,k=>by
  rw[show n+1+m=n+m+1 by lia]
  unfold segGo at h ⊢
  cases he:endAt b t with
  |some f=>rw[he] at h;cases h
  |none=>
   rw[he] at h
   cases hk:stepOk n₀ ann t with
   |false=>rw[hk] at h;cases h
   |true=>
    rw[hk] at h
    cases hs:step (denote tb) p w s t with
    |halt o s₂=>rw[hs] at h;cases h
    |go s₂ t₂=>rw[hs] at h;exact go_add h k
noncomputable def Goes (tb:String→Option Builtin) (p:Program) (w:World) (n₀:Nat) (ann:Option Value) (B:Nat) (m:Sem α) (s:Shared) (a:α) (s':Shared):Prop:=
 ∀ (K:α→Sem Fin) (H:Value→Sem Fin) (gd:Bool→Bool) (lv:List Value→List Value) (code:Code) (pos:Pos) (fr:Frame) (st:List Frame),
  ∃ n pos',n≤B∧segGo tb p w n₀ ann 0 n s ⟨m.wrap K H gd lv,code,pos,fr::st⟩=some (s',⟨K a,code,pos',fr::st⟩)
theorem goes_le {B B':Nat} {m:Sem α} {s s':Shared} {a:α} (h:Goes tb p w n₀ ann B m s a s') (hb:B≤B'):Goes tb p w n₀ ann B' m s a s':=fun K H gd lv code pos fr st=>by
 obtain⟨n,p1,l,e⟩:=h K H gd lv code pos fr st
 exact⟨n,p1,Nat.le_trans l hb,e⟩
theorem goes_pure {a:α} {s:Shared}:Goes tb p w n₀ ann 0 (Sem.pure a) s a s:=fun K H gd lv code pos fr st=>⟨0,pos,Nat.le_refl _,rfl⟩
theorem goes_bind {B1 B2:Nat} {m:Sem α} {f:α→Sem β} {s s₁ s₂:Shared} {a:α} {b:β} (h:Goes tb p w n₀ ann B1 m s a s₁) (k:Goes tb p w n₀ ann B2 (f a) s₁ b s₂):Goes tb p w n₀ ann (B1+B2) (m.bind f) s b s₂:=fun K H gd lv code pos fr st=>by
 obtain⟨n,p1,l1,e⟩:=h (fun a=>(f a).wrap K H gd lv) H gd lv code pos fr st
 obtain⟨n',p2,l2,e'⟩:=k K H gd lv code p1 fr st
 refine⟨n+n',p2,Nat.add_le_add l1 l2,go_add ?_ e'⟩
 rw[Sem.bind_eq_wrap,Sem.wrap_wrap]
 exact e
theorem goes_bind' {B1 B2:Nat} {m:Sem α} {f:α→Sem β} {s s₁ s₂:Shared} {a:α} {b:β} (h:Goes tb p w n₀ ann B1 m s a s₁) (k:Goes tb p w n₀ ann B2 (f a) s₁ b s₂):Goes tb p w n₀ ann (B1+B2) (m >>= f) s b s₂:=goes_bind h k
theorem goes_keep {B:Nat} {m:Sem α} {vs:List Value} {s s₁:Shared} {a:α} (h:Goes tb p w n₀ ann B m s a s₁):Goes tb p w n₀ ann B (m.keep vs) s a s₁:=fun K H gd lv code pos fr st=>by
 rw[Sem.keep_eq_wrap,Sem.wrap_wrap]
 exact h _ _ _ _ code pos fr st
theorem goes_holding {B:Nat} {m:Sem α} {vs:List Value} {s s₁:Shared} {a:α} (h:Goes tb p w n₀ ann B m s a s₁):Goes tb p w n₀ ann B (holding vs m) s a s₁:=by
 unfold holding
 split
 ·exact h
 ·exact goes_keep h
theorem one_step {s s':Shared} {t t':Thread} {n:Nat} {r} (he:endAt 0 t=none) (hk:stepOk n₀ ann t=true) (hs:step (denote tb) p w s t= .go s' t') (h:segGo tb p w n₀ ann 0 n s' t'=some r):segGo tb p w n₀ ann 0 (n+1) s t=some r:=by
 unfold segGo
 rw[he,hk,hs]
 exact h
theorem goes_load {B:Nat} {a:Addr} {q:Option Value} {o:Obj} {k:Obj→Sem α} {s s':Shared} {r:α} (ho:s.heap.get? a=some o) (h:Goes tb p w n₀ ann B (k o) s r s'):Goes tb p w n₀ ann (B+1) (.load a q k) s r s':=fun K H gd lv code pos fr st=>by
 obtain⟨n,p1,l,e⟩:=h K H gd lv code pos fr st
 refine⟨n+1,p1,Nat.add_le_add_right l 1,one_step (s':=s) (t':=⟨(k o).wrap K H gd lv,code,pos,fr::st⟩) ?_ rfl ?_ e⟩
 ·show (match ((fr::st).length==0),(Sem.load a q fun x=>(k x).wrap K H gd lv:Sem Fin) with |true,.pure (.done f)=>some f |_,_=>none)=none
  cases ((fr::st).length==0)<;>rfl
 ·obtain⟨heap,gens,drawn,toks,os⟩:=s
  show step _ _ _ _ ⟨.load a q fun x=>(k x).wrap K H gd lv,code,pos,fr::st⟩=_
  simp only[step]
  rw[show heap.get? a=some o from ho]
theorem goes_update {B:Nat} {a:Addr} {q:Option Value} {f:Obj→Obj} {k:Unit→Sem α} {s s':Shared} {r:α} (hn:Nat.ble n₀ a=true) (ho:(s.heap.get? a).isSome=true) (h:Goes tb p w n₀ ann B (k ()) { s with heap:=s.heap.update a f } r s'):Goes tb p w n₀ ann (B+1) (.update a q f k) s r s':=fun K H gd lv code pos fr st=>by
 obtain⟨n,p1,l,e⟩:=h K H gd lv code pos fr st
 refine⟨n+1,p1,Nat.add_le_add_right l 1,one_step (s':={ s with heap:=s.heap.update a f }) (t':=⟨(k ()).wrap K H gd lv,code,pos,fr::st⟩) ?_ ?_ ?_ e⟩
 ·show (match ((fr::st).length==0),(Sem.update a q f fun x=>(k x).wrap K H gd lv:Sem Fin) with |true,.pure (.done f)=>some f |_,_=>none)=none
  cases ((fr::st).length==0)<;>rfl
 ·show (true&&(Nat.ble n₀ a||a==mainNs||a==cStatics||ann==some (.ref a)))=true
  rw[hn];rfl
 ·obtain⟨heap,gens,drawn,toks,os⟩:=s
  show step _ _ _ _ ⟨.update a q f fun x=>(k x).wrap K H gd lv,code,pos,fr::st⟩=_
  simp only[step]
  rw[if_pos (show (heap.get? a).isSome=true from ho)]
theorem goes_rule {B:Nat} {tag:String} {k:Unit→Sem α} {s s':Shared} {r:α} (h:Goes tb p w n₀ ann B (k ()) s r s'):Goes tb p w n₀ ann (B+1) (.rule tag k) s r s':=fun K H gd lv code pos fr st=>by
 obtain⟨n,p1,l,e⟩:=h K H gd lv code pos fr st
 refine⟨n+1,p1,Nat.add_le_add_right l 1,one_step (s':=s) (t':=⟨(k ()).wrap K H gd lv,code,pos,fr::st⟩) ?_ rfl rfl e⟩
 show (match ((fr::st).length==0),(Sem.rule tag fun x=>(k x).wrap K H gd lv:Sem Fin) with |true,.pure (.done f)=>some f |_,_=>none)=none
 cases ((fr::st).length==0)<;>rfl
theorem goes_ask {B:Nat} {k:Setting→Sem α} {s s':Shared} {r:α} (h:Goes tb p w n₀ ann B (k ⟨p,w.params⟩) s r s'):Goes tb p w n₀ ann (B+1) (.ask k) s r s':=fun K H gd lv code pos fr st=>by
 obtain⟨n,p1,l,e⟩:=h K H gd lv code pos fr st
 refine⟨n+1,p1,Nat.add_le_add_right l 1,one_step (s':=s) (t':=⟨(k ⟨p,w.params⟩).wrap K H gd lv,code,pos,fr::st⟩) ?_ rfl rfl e⟩
 show (match ((fr::st).length==0),(Sem.ask fun x=>(k x).wrap K H gd lv:Sem Fin) with |true,.pure (.done f)=>some f |_,_=>none)=none
 cases ((fr::st).length==0)<;>rfl
theorem goes_at {B:Nat} {q:Pos} {k:Unit→Sem α} {s s':Shared} {r:α} (h:Goes tb p w n₀ ann B (k ()) s r s'):Goes tb p w n₀ ann (B+1) (.at q k) s r s':=fun K H gd lv code pos fr st=>by
 obtain⟨n,p1,l,e⟩:=h K H gd lv code q fr st
 refine⟨n+1,p1,Nat.add_le_add_right l 1,one_step (s':=s) (t':=⟨(k ()).wrap K H gd lv,code,q,fr::st⟩) ?_ rfl rfl e⟩
 show (match ((fr::st).length==0),(Sem.at q fun x=>(k x).wrap K H gd lv:Sem Fin) with |true,.pure (.done f)=>some f |_,_=>none)=none
 cases ((fr::st).length==0)<;>rfl
theorem goes_alloc {B:Nat} {o:Obj} {k:Addr→Sem α} {s s':Shared} {r:α} (h:Goes tb p w n₀ ann B (k s.heap.objs.size) { s with heap:=s.heap.push o } r s'):Goes tb p w n₀ ann (B+1) (.alloc o k) s r s':=fun K H gd lv code pos fr st=>by
 obtain⟨n,p1,l,e⟩:=h K H gd lv code pos fr st
 refine⟨n+1,p1,Nat.add_le_add_right l 1,one_step (s':={ s with heap:=s.heap.push o }) (t':=⟨(k s.heap.objs.size).wrap K H gd lv,code,pos,fr::st⟩) ?_ rfl rfl e⟩
 show (match ((fr::st).length==0),(Sem.alloc o fun x=>(k x).wrap K H gd lv:Sem Fin) with |true,.pure (.done f)=>some f |_,_=>none)=none
 cases ((fr::st).length==0)<;>rfl
theorem goes_fresh {B:Nat} {k:Tok→Sem α} {s s':Shared} {r:α} (h:Goes tb p w n₀ ann B (k s.toks) { s with toks:=s.toks+1 } r s'):Goes tb p w n₀ ann (B+1) (.fresh k) s r s':=fun K H gd lv code pos fr st=>by
 obtain⟨n,p1,l,e⟩:=h K H gd lv code pos fr st
 refine⟨n+1,p1,Nat.add_le_add_right l 1,one_step (s':={ s with toks:=s.toks+1 }) (t':=⟨(k s.toks).wrap K H gd lv,code,pos,fr::st⟩) ?_ rfl rfl e⟩
 show (match ((fr::st).length==0),(Sem.fresh fun x=>(k x).wrap K H gd lv:Sem Fin) with |true,.pure (.done f)=>some f |_,_=>none)=none
 cases ((fr::st).length==0)<;>rfl
theorem goes_run {m:Sem α} {s s':Shared} {a:α} {n:Nat} {pos':Pos→Pos} (h:∀ (K:α→Sem Fin) (H:Value→Sem Fin) (gd:Bool→Bool) (lv:List Value→List Value) (code:Code) (pos:Pos) (fr:Frame) (st:List Frame),segGo tb p w n₀ ann 0 n s ⟨m.wrap K H gd lv,code,pos,fr::st⟩=some (s',⟨K a,code,pos' pos,fr::st⟩)):
 Goes tb p w n₀ ann n m s a s':=fun K H gd lv code pos fr st=>⟨n,_,Nat.le_refl _,h K H gd lv code pos fr st⟩
theorem goes_hash {x:Str} {tok:Tok} {p:Program} {n₀:Nat} {ann:Option Value} (w:World):∀ (s:Shared),Goes treeTable p w n₀ ann 7 (pyHash (.str x tok)) s (PyData.keyHash w.params x) { s with toks:=s.toks+1 }:=by
 refine byRow2 "special-get-raises" (P:=fun w=>∀ (s:Shared),Goes treeTable p w n₀ ann 7 (pyHash (.str x tok)) s (PyData.keyHash w.params x) { s with toks:=s.toks+1 }) ?_ ?_ w
 ·intro w s
  obtain⟨heap,gens,drawn,toks,os⟩:=s
  refine goes_run (n:=7) (pos':=id) fun K H gd lv code pos fr st=> ?_
  kernel_rfl
 ·intro w s
  obtain⟨heap,gens,drawn,toks,os⟩:=s
  refine goes_run (n:=7) (pos':=id) fun K H gd lv code pos fr st=> ?_
  kernel_rfl
theorem push_update (h:Heap) (o:Obj) (f:Obj→Obj):(h.push o).update h.objs.size f=h.push (f o):=by
 obtain⟨objs,l⟩:=h
 show Heap.mk _ _=Heap.mk _ _
 congr 1
 apply Array.ext_getElem?
 intro i
 show ((objs.push o).modify objs.size f)[i]? =(objs.push (f o))[i]?
 rw[Array.getElem?_modify,Array.getElem?_push,Array.getElem?_push]
 by_cases e:objs.size=i
 ·subst e;simp
 ·simp[e,Ne.symm e]
variable {p:Program} {n₀:Nat} {ann:Option Value} {w:World}
theorem goes_state {a:Addr} {s:Shared} {es:Array (Int×Value)} {ep:Nat} {t:SetTable} {o:Obj} (ho:s.heap.get? a=some o) (hd:o.data= .set es ep t) (hf:t.fits es.size=true):Goes treeTable p w n₀ ann 1 (setState a) s (es,ep,t) s:=by
 unfold setState
 refine' goes_le (B:=0+1+0) ?_ (by decide)
 refine goes_bind' (goes_load ho goes_pure) ?_
 rw[hd]
 dsimp only
 have hc:(t.place.size !=es.size||decide (t.fill>t.mask))=false:=by
  simp only[SetTable.fits,Bool.and_eq_true,beq_iff_eq,decide_eq_true_eq] at hf
  simp[hf.1,Nat.not_lt.mpr hf.2]
 rw[hc]
 simp only[Bool.false_eq_true,↓reduceIte]
 exact goes_pure
theorem goes_store {h:Heap} {o:Obj} {g:Array GenState} {d:Drawn} {tk:Nat} {os:OsState} {es es':Array (Int×Value)} {ep:Nat} {t t':SetTable} (hd:o.data= .set es ep t) (hfr:o.isFreed=false) (hz:es'.size≤sizeLine) (hn:Nat.ble n₀ h.objs.size=true):
  Goes treeTable p w n₀ ann 2 (storeSet h.objs.size es' t') ⟨h.push o,g,d,tk,os⟩ () ⟨h.push { o with data:=.set es' (ep+1) t' },g,d,tk,os⟩:=by
 unfold storeSet
 have hg:=Heap.get?_push_size h hfr
 refine' goes_le (B:=0+1+(0+1)) ?_ (by decide)
 refine goes_bind' (goes_load hg goes_pure) ?_
 rw[hd]
 dsimp only
 rw[if_neg (Nat.not_lt.mpr hz)]
 refine goes_update hn (by rw[hg];rfl) ?_
 rw[push_update,putSet_of es' t' hd]
 exact goes_pure
theorem notFreed_set {o:Obj} {es:Array (Int×Value)} {ep:Nat} {t:SetTable} (hd:o.data= .set es ep t):o.isFreed=false:=by
 obtain⟨c,dd,dt,sl⟩:=o;cases dt<;>simp at hd;rfl
theorem goes_tail {gw:Bool→Sem Unit} (hgw:∀ b (s₁:Shared),Goes treeTable p w n₀ ann 1 (gw b) s₁ () s₁) {h:Heap} {o:Obj} {g:Array GenState} {d:Drawn} {tk:Nat} {os:OsState} {es:Array (Int×Value)} {ep:Nat} {t:SetTable} (hex:o.ExactSet) (hd:o.data= .set es ep t)
  {es1:Array (Int×Value)} {t2:SetTable} {S':Str→Bool} {n:Nat} (hel1:ElemsOf (strKind p w) es1.toList) (hmem1:∀ k',S' k'=true↔∃ e∈es1.toList,(strKind p w).is k' e.2=true)
  (hb1:es1.size<scanBound) (hf2:t2.fits es1.size=true) (hn:es1.size=n) (hble:Nat.ble n₀ h.objs.size=true) {wasDummy:Bool}:
  ∃ o':Obj,o'.SetObjOf (strKind p w) S' n∧Goes treeTable p w n₀ ann 5 (do
    storeSet h.objs.size es1 t2
    if (!wasDummy&&t2.tooFull)=true then do
      gw (relayAll t2 es1 (SetTable.grown es1.size)).2.2
      storeSet h.objs.size (relayAll t2 es1 (SetTable.grown es1.size)).1 (relayAll t2 es1 (SetTable.grown es1.size)).2.1
      pure (some true)
     else pure (some true)) ⟨h.push o,g,d,tk,os⟩ (some true) ⟨h.push o',g,d,tk,os⟩:=by
 by_cases hc:(!wasDummy&&t2.tooFull)=true
 ·have hp:=relayAll_perm t2 es1 (SetTable.grown es1.size)
  have hfr:=relayAll_fits t2 es1 (SetTable.grown es1.size)
  generalize hRl:relayAll t2 es1 (SetTable.grown es1.size)=Rl at hp hfr ⊢
  obtain⟨es2,t3,gave2⟩:=Rl
  dsimp only at hp hfr ⊢
  have hel2:ElemsOf (strKind p w) es2.toList:=hel1.perm hp
  have hmem2:∀ k',S' k'=true↔∃ e∈es2.toList,(strKind p w).is k' e.2=true:=fun k'=>(hmem1 k').trans ⟨fun⟨e,he,q⟩=>⟨e,hp.mem_iff.mpr he,q⟩,fun⟨e,he,q⟩=>⟨e,hp.mem_iff.mp he,q⟩⟩
  have hsz:es2.size=es1.size:=by rw[←Array.length_toList,hp.length_eq,Array.length_toList]
  have hb2:es2.size<scanBound:=by rw[hsz];exact hb1
  refine⟨{ o with data:=.set es2 (ep+1+1) t3 },⟨hex,es2,_,t3,rfl,hel2,hmem2,by rw[hsz];exact hn,hfr⟩,?_⟩
  refine' goes_le (B:=2+(1+(2+0))) ?_ (by decide)
  refine goes_bind' (goes_store hd (notFreed_set hd) (fits_of_scanBound hb1) hble) ?_
  rw[if_pos hc]
  refine goes_bind' (hgw _ _) ?_
  exact goes_bind' (goes_store (o:={ o with data:=.set es1 (ep+1) t2 }) rfl rfl (fits_of_scanBound hb2) hble) goes_pure
 ·refine⟨{ o with data:=.set es1 (ep+1) t2 },⟨hex,es1,_,t2,rfl,hel1,hmem1,hn,hf2⟩,?_⟩
  refine' goes_le (B:=2+0) ?_ (by decide)
  refine goes_bind' (goes_store hd (notFreed_set hd) (fits_of_scanBound hb1) hble) ?_
  rw[if_neg hc]
  exact goes_pure
theorem goes_add {h:Heap} {o:Obj} {g:Array GenState} {d:Drawn} {tk:Nat} {os:OsState} {S:Str→Bool} {n:Nat} {x:Str} {tok:Tok} (hs:o.SetObjOf (strKind p w) S n) (hx:S x=false) (hn:n+1<scanBound) (hble:Nat.ble n₀ h.objs.size=true):
  ∃ o':Obj,o'.SetObjOf (strKind p w) (fun k=>S k||decide (k=x)) (n+1)∧Goes treeTable p w n₀ ann 15 (setAdd h.objs.size (.str x tok)) ⟨h.push o,g,d,tk,os⟩ true ⟨h.push o',g,d,tk+1,os⟩:=by
 obtain⟨hex,es,ep,t,hd,hel,hmem,hsz,hf⟩:=hs
 have hkey:(strKind p w).is x (.str x tok)=true:=strKind_is p w x tok
 have hsc:(Value.str x tok).scannable=true:=rfl
 have hg:=Heap.get?_push_size h (notFreed_set hd)
 have hr:List.findIdx? (fun e=>(strKind p w).is x e.2) es.toList=none:=by
  cases hr:List.findIdx? (fun e=>(strKind p w).is x e.2) es.toList with
  |none=>rfl
  |some j=>
   obtain⟨hj,hpj,_⟩:=List.findIdx?_eq_some_iff_getElem.mp hr
   have:=(hmem x).mpr ⟨es.toList[j],List.getElem_mem hj,hpj⟩
   rw[hx] at this;cases this
 have hscan:∀ s:Shared,Goes treeTable p w n₀ ann 0 (setScan h.objs.size (.str x tok) ((strKind p w).hash x) true es) s .absent s:=fun s=>by
  unfold setScan
  dsimp only
  have hall:es.all (fun e=>isExactStrKey e.2)=true:=by
   rw[←Array.all_toList,List.all_eq_true]
   intro e he
   obtain⟨⟨k,hk,_⟩,_⟩:=hel e he
   obtain⟨t,ht⟩:=Value.isStrOf_shape hk
   rw[ht];rfl
  rw[if_pos hall]
  have hfun:(fun e:Int×Value=>e.2.isStr x)=fun e=>(strKind p w).is x e.2:=funext fun e=>((strKind p w).strs x x tok e.2 hkey).symm
  have hidx:es.findIdx? (fun e=>(strKind p w).is x e.2)=es.toList.findIdx? (fun e=>(strKind p w).is x e.2):=by cases es;simp
  unfold setScanStrs
  rw[hfun,hidx,hr]
  exact goes_pure
 have hperm:=layNew_perm t es ((strKind p w).hash x) (.str x tok)
 have hfits:=layNew_fits t es ((strKind p w).hash x) (.str x tok)
 generalize hL:layNew t es ((strKind p w).hash x) (.str x tok)=L at hperm hfits
 obtain⟨es1,t1,wasDummy,gave⟩:=L
 dsimp only at hperm hfits
 rw[Array.toList_push] at hperm
 have hel1:ElemsOf (strKind p w) es1.toList:=(hel.push hkey hsc).perm hperm
 have hmem1:∀ k',(S k'||decide (k'=x))=true↔∃ e∈es1.toList,(strKind p w).is k' e.2=true:=mem_push_iff hkey hmem hperm
 have hsz1:es1.size=n+1:=by rw[←Array.length_toList,hperm.length_eq,List.length_append,Array.length_toList,hsz];rfl
 have hb1':es1.size<scanBound:=by rw[hsz1];exact hn
 have main:∃ o':Obj,o'.SetObjOf (strKind p w) (fun k=>S k||decide (k=x)) (n+1)∧∀ gave:Bool,Goes treeTable p w n₀ ann 6 (do
   (match gave with |true=>rule "set.scan.the-table-gave-way" |false=>pure ():Sem Unit)
   let byValue ←if t1.plain then hashByValue 8 (.str x tok) else pure true
   let t2:SetTable:=if byValue then t1 else { t1 with plain:=false }
   storeSet h.objs.size es1 t2
   if !wasDummy&&t2.tooFull then
    (match (relayAll t2 es1 (SetTable.grown es1.size)).2.2 with |true=>rule "set.scan.the-table-gave-way" |false=>pure ():Sem Unit)
    storeSet h.objs.size (relayAll t2 es1 (SetTable.grown es1.size)).1 (relayAll t2 es1 (SetTable.grown es1.size)).2.1
    pure (some true)
   else pure (some true)) ⟨h.push o,g,d,tk+1,os⟩ (some true) ⟨h.push o',g,d,tk+1,os⟩:=by
  by_cases hp:t1.plain=true
  ·obtain⟨o',ho',hgo⟩:=goes_tail (p:=p) (w:=w) (n₀:=n₀) (ann:=ann) (gw:=fun b=>match b with |true=>rule "set.scan.the-table-gave-way" |false=>pure ()) (g:=g) (d:=d) (tk:=tk+1) (os:=os)
    (fun b s₁=>by cases b;exact goes_le goes_pure (by decide);exact goes_rule goes_pure) hex hd hel1 hmem1 hb1' (t2:={ t1 with plain:=false }) (SetTable.fits_plain_off hfits) hsz1 hble (wasDummy:=wasDummy)
   refine⟨o',ho',fun gave=>goes_le (B:=1+(0+5)) (goes_bind' (a:=()) (s₁:=⟨h.push o,g,d,tk+1,os⟩) (by cases gave;exact goes_le goes_pure (by decide);exact goes_rule goes_pure) ?_) (by decide)⟩
   rw[if_pos hp,show hashByValue 8 (.str x tok)=(pure false:Sem Bool) from rfl]
   exact goes_bind' goes_pure hgo
  ·obtain⟨o',ho',hgo⟩:=goes_tail (p:=p) (w:=w) (n₀:=n₀) (ann:=ann) (gw:=fun b=>match b with |true=>rule "set.scan.the-table-gave-way" |false=>pure ()) (g:=g) (d:=d) (tk:=tk+1) (os:=os)
    (fun b s₁=>by cases b;exact goes_le goes_pure (by decide);exact goes_rule goes_pure) hex hd hel1 hmem1 hb1' (t2:=t1) hfits hsz1 hble (wasDummy:=wasDummy)
   refine⟨o',ho',fun gave=>goes_le (B:=1+(0+5)) (goes_bind' (a:=()) (s₁:=⟨h.push o,g,d,tk+1,os⟩) (by cases gave;exact goes_le goes_pure (by decide);exact goes_rule goes_pure) ?_) (by decide)⟩
   rw[if_neg hp]
   exact goes_bind' goes_pure hgo
 obtain⟨o',ho',hgo⟩:=main
 refine⟨o',ho',?_⟩
 unfold setAdd
 refine' goes_le (B:=7+(1+(0+1+(0+6)+0))) ?_ (by decide)
 refine goes_holding (goes_bind' (goes_hash w _) ?_)
 unfold setAddHashed setAddHashedIn
 refine goes_holding (goes_bind' (goes_state hg hd hf) ?_)
 dsimp only
 have hbs:byScan (.str x tok) es=true:=byScan_of (knd:=strKind p w) hsc (by lia) hel
 rw[hbs]
 simp only[↓reduceIte]
 unfold setAddByScan
 refine goes_bind' (a:=some true) (s₁:=⟨h.push o',g,d,tk+1,os⟩) (goes_bind' (goes_rule goes_pure) (goes_bind' (hscan _) ?_)) goes_pure
 dsimp only
 rw[show PyData.keyHash w.params x=(strKind p w).hash x from rfl,hL]
 have:=hgo gave
 by_cases hp:t1.plain=true
 ·rw[if_pos hp] at this ⊢
  exact this
 ·rw[if_neg hp] at this ⊢
  exact this
theorem goes_unled {h:Heap} {o:Obj} {g:Array GenState} {d:Drawn} {tk:Nat} {os:OsState} {S:Str→Bool} {n:Nat} (hs:o.SetObjOf (strKind p w) S n) (hn:n<scanBound) (hble:Nat.ble n₀ h.objs.size=true):
  ∃ o':Obj,o'.SetObjOf (strKind p w) S n∧Goes treeTable p w n₀ ann 3 (setUnled h.objs.size) ⟨h.push o,g,d,tk,os⟩ () ⟨h.push o',g,d,tk,os⟩:=by
 obtain⟨hex,es,ep,t,hd,hel,hmem,hsz,hf⟩:=hs
 refine⟨{ o with data:=.set es (ep+1) { t with led:=false } },⟨hex,es,_,_,rfl,hel,hmem,hsz,by cases t;exact hf⟩,?_⟩
 unfold setUnled
 have hz:es.size≤sizeLine:=fits_of_scanBound (by lia)
 refine' goes_le (B:=1+2) ?_ (by decide)
 refine goes_bind' (goes_state (Heap.get?_push_size h (notFreed_set hd)) hd hf) ?_
 exact goes_store hd (notFreed_set hd) hz hble
theorem goes_new (w:World):∀ (s:Shared),∃ led:Bool,Goes treeTable p w n₀ ann 2 (newSet (.type "set")) s (.ref s.heap.objs.size) { s with heap:=s.heap.push { cls:=.type "set",dict:=none,data:=.set #[] 0 (.fresh 0 0 led) } }:=fun s=>by
 refine⟨!w.params.followText "set-order",?_⟩
 unfold newSet setsByText
 refine' goes_le (B:=0+1+0+(0+1+0)) ?_ (by decide)
 refine goes_bind' (goes_bind' (goes_ask goes_pure) goes_pure) ?_
 dsimp only
 simp only[newObj]
 exact goes_bind' (goes_alloc goes_pure) goes_pure
end
end
section
noncomputable abbrev Gs (w:World) (B:Nat) {α:Type} (m:Sem α) (s:Shared) (a:α) (s':Shared):=Goes treeTable pw w 11 (some (.ref 6)) B m s a s'
theorem fastGo: @segGoT= @goT:=PySem.W.Fast.te10295753902157049106
theorem fastTb:treeTable=tbF:=PySem.W.Fast.te14364793385576792824
theorem ofGo {n:Nat} {w:World} {s s':SharedT} {t t':Thread} (h:go n w s t=some (s',t')):segGo treeTable pw w 11 (some (.ref 6)) 0 n s.abs t=some (s'.abs,t'):=by
 refine segGo_of ?_
 rw[fastGo,fastTb]
 exact h
theorem gs_run {w:World} {α:Type} {m:Sem α} {s s':SharedT} {a:α} {n:Nat} {pos':Pos→Pos} (h:∀ (K:α→Sem Fin) (H:Value→Sem Fin) (gd:Bool→Bool) (lv:List Value→List Value) (code:Code) (pos:Pos) (fr:Frame) (st:List Frame),go n w s ⟨m.wrap K H gd lv,code,pos,fr::st⟩=some (s',⟨K a,code,pos' pos,fr::st⟩)):
  Gs w n m s.abs a s'.abs:=goes_run (n:=n) (pos':=pos') fun K H gd lv code pos fr st=>ofGo (h K H gd lv code pos fr st)
theorem goes_fill {w:World} {h:Heap} {g:Array GenState} {d:Drawn} {os:OsState} {f:Value→PUnit→Sem (ForInStep PUnit)} (hf:∀ x r,f x r=(setAdd h.objs.size x).bind fun _=>Sem.pure (.yield PUnit.unit)) (hble:Nat.ble 11 h.objs.size=true):
  ∀ (l:List (Str×Tok)) {o:Obj} {S:Str→Bool} {n tk:Nat},o.SetObjOf (strKind pw w) S n→(l.map (·.1)).Nodup→(∀ x∈l,S x.1=false)→n+l.length<scanBound→
  ∃ o':Obj,o'.SetObjOf (strKind pw w) (fun k=>S k||(l.map (·.1)).contains k) (n+l.length)∧Gs w (15*l.length) (forIn (m:=Sem) (l.map fun p=>Value.str p.1 p.2) PUnit.unit f) ⟨h.push o,g,d,tk,os⟩ PUnit.unit ⟨h.push o',g,d,tk+l.length,os⟩
 | [],o,S,n,tk,hs,_,_,_=>⟨o,by simpa using hs,by exact goes_pure⟩
 |(x,t)::l,o,S,n,tk,hs,hd,hS,hn=>by
  have hd':=List.nodup_cons.mp hd
  obtain⟨o1,ho1,h1⟩:=goes_add (p:=pw) (n₀:=11) (ann:=some (.ref 6)) (g:=g) (d:=d) (tk:=tk) (os:=os) (tok:=t) hs (hS _ (.head _)) (by simp only[List.length_cons] at hn;lia) hble
  obtain⟨o2,ho2,h2⟩:=goes_fill hf hble l (tk:=tk+1) ho1 hd'.2 (fun y hy=>by
   rw[Bool.or_eq_false_iff]
   refine⟨hS _ (.tail _ hy),decide_eq_false fun e=>hd'.1 ?_⟩
   have e':y.1=x:=e
   show x∈l.map (·.1)
   rw[←e']
   exact List.mem_map_of_mem hy) (by simp only[List.length_cons] at hn;lia)
  refine⟨o2,?_,?_⟩
  ·rw[show n+((x,t)::l).length=n+1+l.length by simp only[List.length_cons];lia]
   have e:(fun k=>S k||(((x,t)::l).map (·.1)).contains k)=fun k=>(S k||decide (k=x))||(l.map (·.1)).contains k:=by
    funext k
    show (S k||(List.contains (x::l.map (·.1)) k))=_
    rw[List.contains_cons,Bool.or_assoc]
    congr 2
   rw[e]
   exact ho2
  ·rw[show tk+((x,t)::l).length=tk+1+l.length by simp only[List.length_cons];lia]
   show Gs w _ (forIn (m:=Sem) (Value.str x t::l.map fun p=>Value.str p.1 p.2) PUnit.unit f) _ _ _
   rw[List.forIn_cons,hf]
   refine' goes_le (B:=15+0+15*l.length) ?_ (by simp only[List.length_cons];lia)
   exact goes_bind' (goes_bind h1 goes_pure) h2
noncomputable def asgT:Stmt→List Expr | .Assign t _ _=>t |_=>[]
noncomputable def asgV:Stmt→Expr | .Assign _ v _=>v |_=>.Constant .none 0 ⟨0,0,0,0⟩
noncomputable def asgP:Stmt→Pos | .Assign _ _ p=>p |_=>⟨0,0,0,0⟩
noncomputable def setE:Expr→List Expr | .Set l _ _=>l |_=>[]
noncomputable def setP:Expr→Pos | .Set _ _ p=>p |_=>⟨0,0,0,0⟩
noncomputable def setRun (e:Expr):Sem Value:=do
 standAt (setP e)
 setDisplay .unsure (←inMainModule cEnv) ((starEach (setE e) cEnv).map fun (star,t)=>(star,do let v ←t;standAt (setP e);pure v))
noncomputable def stores (st:Stmt) (v:Value):Sem Flow:=assignStores cEnv v none ((assignEach (asgT st) cEnv).map (·.2))
noncomputable def pre (st:Stmt):Sem Value:=(standAt (asgP st)).bind fun _=>setRun (asgV st)
theorem asg0:exec (cS 6 0) cEnv=(pre (cS 6 0)).bind (stores (cS 6 0)):=by kernel_rfl
theorem asg1:exec (cS 6 1) cEnv=(pre (cS 6 1)).bind (stores (cS 6 1)):=by kernel_rfl
theorem asg2:exec (cS 6 2) cEnv=(pre (cS 6 2)).bind (stores (cS 6 2)):=by kernel_rfl
noncomputable def eltsOf (e:Expr):List (Bool×Sem Value):=(starEach (setE e) cEnv).map fun (star,t)=>(star,do let v ←t;standAt (setP e);pure v)
theorem goes_disp {w:World} {h:Heap} {g:Array GenState} {d:Drawn} {tk:Nat} {os:OsState} {e:Expr} (l:List (Str×Tok)) (hm:Gs w 2 (inMainModule cEnv) ⟨h,g,d,tk,os⟩ true ⟨h,g,d,tk,os⟩) (hstar:(eltsOf e).findIdx? (·.1)=none) (hlen:(eltsOf e).length=l.length) (h30:l.length≤30)
  (hall:∀ h,Gs w (2*l.length) (evalAll ((eltsOf e).map (·.2))) ⟨h,g,d,tk,os⟩ (l.map fun p=>Value.str p.1 p.2) ⟨h,g,d,tk+l.length,os⟩) (hd:(l.map (·.1)).Nodup) (hble:Nat.ble 11 h.objs.size=true) {tk':Nat} (htk:tk+l.length+l.length=tk'):
  ∃ o':Obj,o'.SetObjOf (strKind pw w) (fun k=>(l.map (·.1)).contains k) l.length∧Gs w (20+17*l.length) (setRun e) ⟨h,g,d,tk,os⟩ (.ref h.objs.size) ⟨h.push o',g,d,tk',os⟩:=by
 subst htk
 obtain⟨led,hnew⟩:=goes_new (p:=pw) (n₀:=11) (ann:=some (.ref 6)) w ⟨h,g,d,tk,os⟩
 obtain⟨o1,ho1,h1⟩:=goes_fill (w:=w) (h:=h) (g:=g) (d:=d) (os:=os) (tk:=tk+l.length) (f:=fun x _=>(setAdd h.objs.size x).bind fun _=>Sem.pure (.yield PUnit.unit)) (fun _ _=>rfl) hble l (setObjOf_fresh led) hd (fun _ _=>rfl) (by have:scanBound=4096:=rfl;lia)
 simp only[Bool.false_or,Nat.zero_add] at ho1
 obtain⟨o2,ho2,h2⟩:=goes_unled (p:=pw) (n₀:=11) (ann:=some (.ref 6)) (g:=g) (d:=d) (tk:=tk+l.length+l.length) (os:=os) ho1 (by have:scanBound=4096:=rfl;lia) hble
 refine⟨o2,ho2,?_⟩
 unfold setRun
 refine' goes_le (B:=0+1+(2+(2+(2*l.length+(15*l.length+(0+1+3)+(0+0))+0)))) ?_ (by lia)
 refine goes_bind' (goes_at goes_pure) (goes_bind' hm ?_)
 show Gs w _ (setDisplay .unsure true (eltsOf e)) _ _ _
 unfold setDisplay
 rw[if_neg (by decide)]
 refine goes_bind' hnew ?_
 dsimp only
 have e1:(if (eltsOf e).length>30 then 0 else ((eltsOf e).findIdx? (·.1)).getD (eltsOf e).length)=l.length:=by
  rw[if_neg (by lia),hstar,hlen];rfl
 rw[e1,List.take_of_length_le (Nat.le_of_eq hlen),List.drop_of_length_le (Nat.le_of_eq hlen)]
 refine goes_bind' (s₁:=⟨h.push o2,g,d,tk+l.length+l.length,os⟩) (a:=PUnit.unit) (goes_holding (goes_bind' (hall _) ?_)) goes_pure
 refine goes_bind' (goes_holding (goes_bind' h1 (goes_bind' (goes_rule goes_pure) h2))) ?_
 exact goes_bind' goes_pure goes_pure
theorem objIs {w:World} {o:Obj} {S:Str→Bool} {n:Nat} (h:o.SetObjOf (strKind pw w) S n):∃ x:SetD,o=x.obj:=by
 obtain⟨⟨h1,h2,h3⟩,es,ep,t,hd,_⟩:=h
 refine⟨⟨es,ep,t⟩,?_⟩
 obtain⟨c,d,dt,sl⟩:=o
 simp only at h1 h2 h3 hd
 subst h1 h2 h3 hd
 rfl
noncomputable abbrev contK (i:Nat):Flow→Sem Fin:=fun f=>match f with | .next=>(execs ((clsBody (tS 6)).drop i) cEnv).wrap doneF (leaveH cEnv) id id |f=>doneF f
theorem main0:∀ (w:World) (os:OsState),Gs w 2 (inMainModule cEnv) (S6 w os).abs true (S6 w os).abs:=fun w os=>gs_run (n:=2) (pos':=id) fun K H gd lv code pos fr st=>by kernel_rfl
theorem all0 (w:World) (h:Heap) (g:Array GenState) (d:Drawn) (os:OsState):Gs w 14 (evalAll ((eltsOf (asgV (cS 6 0))).map (·.2))) ⟨h,g,d,487,os⟩ ([(("a":Str),487),("e",488),("i",489),("o",490),("u",491),("y",492),("è",493)].map fun p=>Value.str p.1 p.2) ⟨h,g,d,494,os⟩:=
 goes_run (n:=14) (pos':=fun _=>setP (asgV (cS 6 0))) fun K H gd lv code pos fr st=>by kernel_rfl
theorem st0:∀ (w:World) (os:OsState) (x0:SetD) (pos:Pos),go 8 w ⟨(tr6 w.params).ins 232 x0.obj,233,lifeB,#[],drawnB,501,os⟩ ⟨(stores (cS 6 0) (.ref 232)).wrap (contK 1) (leaveH cEnv) id id,cCode,pos,[cFr w os,fr0]⟩=some (S7 w os x0,C w os 1 ⟨211,4,211,7⟩):=by intro w os x0 pos;kernel_rfl
theorem main1:∀ (w:World) (os:OsState) (x0:SetD),Gs w 2 (inMainModule cEnv) (S7 w os x0).abs true (S7 w os x0).abs:=fun w os x0=>gs_run (n:=2) (pos':=id) fun K H gd lv code pos fr st=>by kernel_rfl
theorem all1 (w:World) (h:Heap) (g:Array GenState) (d:Drawn) (os:OsState):Gs w 16 (evalAll ((eltsOf (asgV (cS 6 1))).map (·.2))) ⟨h,g,d,502,os⟩ ([(("I":Str),502),("a",503),("e",504),("i",505),("o",506),("u",507),("y",508),("è",509)].map fun p=>Value.str p.1 p.2) ⟨h,g,d,510,os⟩:=
 goes_run (n:=16) (pos':=fun _=>setP (asgV (cS 6 1))) fun K H gd lv code pos fr st=>by kernel_rfl
theorem st1:∀ (w:World) (os:OsState) (x0:SetD) (x1:SetD) (pos:Pos),go 8 w ⟨(tr7 w.params x0).ins 233 x1.obj,234,lifeB,#[],drawnB,518,os⟩ ⟨(stores (cS 6 1) (.ref 233)).wrap (contK 2) (leaveH cEnv) id id,cCode,pos,[cFr w os,fr0]⟩=some (S8 w os x0 x1,C w os 2 ⟨212,4,212,9⟩):=by intro w os x0 x1 pos;kernel_rfl
theorem main2:∀ (w:World) (os:OsState) (x0 x1:SetD),Gs w 2 (inMainModule cEnv) (S8 w os x0 x1).abs true (S8 w os x0 x1).abs:=fun w os x0 x1=>gs_run (n:=2) (pos':=id) fun K H gd lv code pos fr st=>by kernel_rfl
theorem all2 (w:World) (h:Heap) (g:Array GenState) (d:Drawn) (os:OsState):Gs w 16 (evalAll ((eltsOf (asgV (cS 6 2))).map (·.2))) ⟨h,g,d,519,os⟩ ([(("a":Str),519),("e",520),("i",521),("j",522),("o",523),("u",524),("y",525),("è",526)].map fun p=>Value.str p.1 p.2) ⟨h,g,d,527,os⟩:=
 goes_run (n:=16) (pos':=fun _=>setP (asgV (cS 6 2))) fun K H gd lv code pos fr st=>by kernel_rfl
theorem st2:∀ (w:World) (os:OsState) (x0 x1:SetD) (x2:SetD) (pos:Pos),go 8 w ⟨(tr8 w.params x0 x1).ins 234 x2.obj,235,lifeB,#[],drawnB,535,os⟩ ⟨(stores (cS 6 2) (.ref 234)).wrap (contK 3) (leaveH cEnv) id id,cCode,pos,[cFr w os,fr0]⟩=some (S9 w os x0 x1 x2,C w os 3 ⟨213,4,213,9⟩):=by intro w os x0 x1 x2 pos;kernel_rfl
theorem set_row {w:World} {os:OsState} {s:Shared} (i j:Nat) (st:Stmt) {c:List Frame} {fr:Frame} {pos:Pos} {t':Thread} {s':Shared} {v:Value} {s₁:Shared} {n:Nat}
  (hrow:(clsBody (tS 6)).drop i=st::(clsBody (tS 6)).drop j) (hst:exec st cEnv=(pre st).bind (stores st)) {B:Nat} (hpre:Gs w B (setRun (asgV st)) s v s₁)
  (hgo:∀ pos,segGo treeTable pw w 11 (some (.ref 6)) 0 n s₁ ⟨(stores st v).wrap (contK j) (leaveH cEnv) id id,cCode,pos,fr::c⟩=some (s',t')):
  ∃ N,N≤B+1+n∧segGo treeTable pw w 11 (some (.ref 6)) 0 N s (restOf ((clsBody (tS 6)).drop i) cEnv cCode pos (fr::c))=some (s',t'):=by
 have hp:Gs w (0+1+B) (pre st) s v s₁:=goes_bind (goes_at goes_pure) hpre
 obtain⟨N,p1,l,e⟩:=hp (fun v=>(stores st v).wrap (contK j) (leaveH cEnv) id id) (leaveH cEnv) id id cCode pos fr c
 refine⟨N+n,by lia,go_add ?_ (hgo p1)⟩
 rw[hrow]
 unfold restOf
 rw[execs_cons_wrap,hst,Sem.bind_eq_wrap,Sem.wrap_wrap]
 exact e
theorem C_eq (w:World) (os:OsState) (i:Nat) (pos:Pos):C w os i pos=restOf ((clsBody (tS 6)).drop i) cEnv cCode pos (cFr w os::[fr0]):=rfl
theorem abs_mk (t:BT) (n:Nat) (l:Life) (g:Array GenState) (d:Drawn) (k:Nat) (os:OsState):SharedT.abs ⟨t,n,l,g,d,k,os⟩=⟨absHeap t n l,g,d,k,os⟩:=rfl
theorem abs6 (w:World) (os:OsState):(S6 w os).abs=⟨absHeap (tr6 w.params) 232 lifeB,#[],drawnB,487,os⟩:=by kernel_rfl
theorem set_piece0 (w:World) (os:OsState):∃ x0:SetD,x0.obj.SetObjOf (strKind pw w) (fun k=>List.contains (["a","e","i","o","u","y","è"]:List Str) k) 7∧∃ N,N≤200∧segGo treeTable pw w 11 (some (.ref 6)) 0 N (S6 w os).abs (C w os 0 ⟨210,0,564,94⟩)=some ((S7 w os x0).abs,C w os 1 ⟨211,4,211,7⟩):=by
 have hm:=main0 w os
 rw[abs6] at hm ⊢
 have h1:(eltsOf (asgV (cS 6 0))).findIdx? (·.1)=none:=by kernel_rfl
 have h2:(eltsOf (asgV (cS 6 0))).length=7:=by kernel_rfl
 have hsz:(absHeap (tr6 w.params) 232 lifeB).objs.size=232:=absHeap_size _ _ _
 obtain⟨o,ho,hg⟩:=goes_disp (w:=w) (h:=absHeap (tr6 w.params) 232 lifeB) (g:= #[]) (d:=drawnB) (tk:=487) (os:=os) (e:=asgV (cS 6 0)) [(("a":Str),487),("e",488),("i",489),("o",490),("u",491),("y",492),("è",493)]
  hm h1 h2 (by decide) (fun h=>all0 w h _ _ os) (by decide+kernel) (by rw[hsz];rfl) (tk':=501) rfl
 obtain⟨x0,rfl⟩:=objIs ho
 have hi:(((tr6 w.params).ins 232 x0.obj).get 232).isSome=true:=by kernel_rfl
 rw[hsz,←absHeap_ins hi,show (232+1:Nat)=233 from rfl] at hg
 have hrow:(clsBody (tS 6)).drop 0=cS 6 0::(clsBody (tS 6)).drop 1:=by kernel_rfl
 have key:=fun pos=>ofGo (st0 w os x0 pos)
 rw[C_eq w os 0]
 simp only[abs_mk] at key
 refine⟨x0,ho,?_⟩
 obtain⟨N,l,e⟩:=set_row (w:=w) (os:=os) 0 1 (cS 6 0) (fr:=cFr w os) (c:=[fr0]) (pos:=⟨210,0,564,94⟩) hrow asg0 hg key
 exact⟨N,Nat.le_trans l (by decide),e⟩
theorem abs7 (w:World) (os:OsState) (x0:SetD):(S7 w os x0).abs=⟨absHeap (tr7 w.params x0) 233 lifeB,#[],drawnB,502,os⟩:=by kernel_rfl
theorem set_piece1 (w:World) (os:OsState) (x0:SetD):∃ x1:SetD,x1.obj.SetObjOf (strKind pw w) (fun k=>List.contains (["I","a","e","i","o","u","y","è"]:List Str) k) 8∧∃ N,N≤200∧segGo treeTable pw w 11 (some (.ref 6)) 0 N (S7 w os x0).abs (C w os 1 ⟨211,4,211,7⟩)=some ((S8 w os x0 x1).abs,C w os 2 ⟨212,4,212,9⟩):=by
 have hm:=main1 w os x0
 rw[abs7] at hm ⊢
 have h1:(eltsOf (asgV (cS 6 1))).findIdx? (·.1)=none:=by kernel_rfl
 have h2:(eltsOf (asgV (cS 6 1))).length=8:=by kernel_rfl
 have hsz:(absHeap (tr7 w.params x0) 233 lifeB).objs.size=233:=absHeap_size _ _ _
 obtain⟨o,ho,hg⟩:=goes_disp (w:=w) (h:=absHeap (tr7 w.params x0) 233 lifeB) (g:= #[]) (d:=drawnB) (tk:=502) (os:=os) (e:=asgV (cS 6 1)) [(("I":Str),502),("a",503),("e",504),("i",505),("o",506),("u",507),("y",508),("è",509)]
  hm h1 h2 (by decide) (fun h=>all1 w h _ _ os) (by decide+kernel) (by rw[hsz];rfl) (tk':=518) rfl
 obtain⟨x1,rfl⟩:=objIs ho
 have hi:(((tr7 w.params x0).ins 233 x1.obj).get 233).isSome=true:=by kernel_rfl
 rw[hsz,←absHeap_ins hi,show (233+1:Nat)=234 from rfl] at hg
 have hrow:(clsBody (tS 6)).drop 1=cS 6 1::(clsBody (tS 6)).drop 2:=by kernel_rfl
 have key:=fun pos=>ofGo (st1 w os x0 x1 pos)
 rw[C_eq w os 1]
 simp only[abs_mk] at key
 refine⟨x1,ho,?_⟩
 obtain⟨N,l,e⟩:=set_row (w:=w) (os:=os) 1 2 (cS 6 1) (fr:=cFr w os) (c:=[fr0]) (pos:=⟨211,4,211,7⟩) hrow asg1 hg key
 exact⟨N,Nat.le_trans l (by decide),e⟩
theorem abs8 (w:World) (os:OsState) (x0 x1:SetD):(S8 w os x0 x1).abs=⟨absHeap (tr8 w.params x0 x1) 234 lifeB,#[],drawnB,519,os⟩:=by kernel_rfl
theorem set_piece2 (w:World) (os:OsState) (x0 x1:SetD):∃ x2:SetD,x2.obj.SetObjOf (strKind pw w) (fun k=>List.contains (["a","e","i","j","o","u","y","è"]:List Str) k) 8∧∃ N,N≤200∧segGo treeTable pw w 11 (some (.ref 6)) 0 N (S8 w os x0 x1).abs (C w os 2 ⟨212,4,212,9⟩)=some ((S9 w os x0 x1 x2).abs,C w os 3 ⟨213,4,213,9⟩):=by
 have hm:=main2 w os x0 x1
 rw[abs8] at hm ⊢
 have h1:(eltsOf (asgV (cS 6 2))).findIdx? (·.1)=none:=by kernel_rfl
 have h2:(eltsOf (asgV (cS 6 2))).length=8:=by kernel_rfl
 have hsz:(absHeap (tr8 w.params x0 x1) 234 lifeB).objs.size=234:=absHeap_size _ _ _
 obtain⟨o,ho,hg⟩:=goes_disp (w:=w) (h:=absHeap (tr8 w.params x0 x1) 234 lifeB) (g:= #[]) (d:=drawnB) (tk:=519) (os:=os) (e:=asgV (cS 6 2)) [(("a":Str),519),("e",520),("i",521),("j",522),("o",523),("u",524),("y",525),("è",526)]
  hm h1 h2 (by decide) (fun h=>all2 w h _ _ os) (by decide+kernel) (by rw[hsz];rfl) (tk':=535) rfl
 obtain⟨x2,rfl⟩:=objIs ho
 have hi:(((tr8 w.params x0 x1).ins 234 x2.obj).get 234).isSome=true:=by kernel_rfl
 rw[hsz,←absHeap_ins hi,show (234+1:Nat)=235 from rfl] at hg
 have hrow:(clsBody (tS 6)).drop 2=cS 6 2::(clsBody (tS 6)).drop 3:=by kernel_rfl
 have key:=fun pos=>ofGo (st2 w os x0 x1 x2 pos)
 rw[C_eq w os 2]
 simp only[abs_mk] at key
 refine⟨x2,ho,?_⟩
 obtain⟨N,l,e⟩:=set_row (w:=w) (os:=os) 2 3 (cS 6 2) (fr:=cFr w os) (c:=[fr0]) (pos:=⟨212,4,212,9⟩) hrow asg2 hg key
 exact⟨N,Nat.le_trans l (by decide),e⟩
end
section
noncomputable def keepL:List Nat:=[0,2,4,6,7,8,9,10,12,13,14,15,16,17,18,19,20,21,22,23,24,25]
noncomputable abbrev looseL:List Str:=["DutchPorterStemmer"]
noncomputable def qv:Program:=view pw keepL
noncomputable abbrev XtL:Shared→Bool:=fun s=>xlAt qv [] s&&recOk [] s
theorem lookA:∀ (w:World) (os:OsState) (x0 x1 x2:SetD),staticsOk (importedModules pw.main.body) (boot_heap w.params) (S22 w os x0 x1 x2).abs.heap=true:=by intro w os x0 x1 x2;kernel_rfl
theorem lookB:∀ (w:World) (os:OsState) (x0 x1 x2:SetD),namesBound pw (S22 w os x0 x1 x2).abs.heap=true:=by intro w os x0 x1 x2;kernel_rfl
theorem lookC:∀ (w:World) (os:OsState) (x0 x1 x2:SetD),gensDone (S22 w os x0 x1 x2).abs=true:=by intro w os x0 x1 x2;kernel_rfl
theorem lookD:∀ (w:World) (os:OsState) (x0 x1 x2:SetD),laidKept (boot_heap w.params) (S22 w os x0 x1 x2).abs.heap=true:=by intro w os x0 x1 x2;kernel_rfl
theorem sizeA:∀ (w:World),((boot_heap w.params).isNs mainGlobals&&(#[]:Array GenState).size==0,(boot_heap w.params).objs.size,(boot_heap w.params).nsMap mainGlobals "__annotations__")=(true,11,some (.ref 6)):=by intro w;kernel_rfl
theorem lookE:∀ (w:World) (os:OsState) (x0 x1 x2:SetD),openSeen qv looseL (importedModules pw.main.body) XtL true (S22 w os x0 x1 x2).abs=openGood qv looseL:=by intro w os x0 x1 x2;kernel_rfl
end
section
theorem through_of_end {t:Thread} (h:endAt 0 t=none):through t=false:=by
 obtain⟨cur,code,pos,stack⟩:=t
 cases stack with
 |nil=>
  cases cur with
  |pure f=>cases f with
   |done f=>simp[endAt] at h
   |again c=>rfl
  |_=>rfl
 |cons f r=>rfl
theorem seg0_top {tb:String→Option Builtin} {p:Program} {w:World} {n₀:Nat} {ann:Option Value}:∀ {n N:Nat} {s s' r:Shared} {t t':Thread},segGo tb p w n₀ ann 0 n s t=some (s',t')→topRun tb p w n₀ ann N s' t'=some r→topRun tb p w n₀ ann (n+N) s t=some r
 |0,N,s,s',r,t,t',h,k=>by
  obtain⟨rfl,rfl⟩:s=s'∧t=t':=by simpa[segGo] using h
  rw[Nat.zero_add];exact k
 |n+1,N,s,s',r,t,t',h,k=>by
  rw[show n+1+N=n+N+1 by lia]
  unfold segGo at h
  unfold topRun
  cases he:endAt 0 t with
  |some f=>rw[he] at h;cases h
  |none=>
   rw[he] at h
   rw[through_of_end he]
   cases hk:stepOk n₀ ann t with
   |false=>rw[hk] at h;cases h
   |true=>
    rw[hk] at h
    cases hs:step (denote tb) p w s t with
    |halt o s₂=>rw[hs] at h;cases h
    |go s₂ t₂=>rw[hs] at h;exact seg0_top h k
noncomputable abbrev TR (w:World) (N:Nat) (s:Shared) (t:Thread) (r:Shared):Prop:=topRun treeTable pw w 11 (some (.ref 6)) N s t=some r
theorem tr_go {n N:Nat} {w:World} {s s':SharedT} {t t':Thread} {r:Shared} (h:go n w s t=some (s',t')) (k:TR w N s'.abs t' r):TR w (n+N) s.abs t r:=seg0_top (ofGo h) k
theorem start0:(⟨denote treeTable tCode,tCode,⟨0,0,0,0⟩,[fr0]⟩:Thread)=T 0 ⟨0,0,0,0⟩:=by
 have hb:blockStart pw.main.body topEnv=Sem.pure ():=by kernel_rfl
 unfold tCode T restOf
 rw[body_wrap,hb]
 rfl
theorem start6 (w:World) (os:OsState):(⟨PySem.W.Fast.tw11892475500146522536 tbF cCode,cCode,⟨210,0,564,94⟩,[cFr w os,fr0]⟩:Thread)=C w os 0 ⟨210,0,564,94⟩:=by
 have hb:blockStart (clsBody (tS 6)) cEnv=Sem.pure ():=by kernel_rfl
 rw[←fastTb,←show denote=PySem.W.Fast.tw11892475500146522536 from PySem.W.Fast.te11892475500146522536]
 unfold cCode C restOf
 rw[body_wrap,hb]
 rfl
theorem last22 (w:World) (s:Shared):TR w 2 s (T 26 ⟨629,0,645,48⟩) s:=by
 have e:T 26 ⟨629,0,645,48⟩=⟨doneF .next,tCode,⟨629,0,645,48⟩,[fr0]⟩:=by kernel_rfl
 unfold TR
 rw[e]
 rfl
theorem top_ran (w:World) (os:OsState):∃ x0 x1 x2:SetD,
  (x0.obj.SetObjOf (strKind pw w) (fun k=>List.contains (["a","e","i","o","u","y","è"]:List Str) k) 7∧
     x1.obj.SetObjOf (strKind pw w) (fun k => List.contains (["I", "a", "e", "i", "o", "u", "y", "è"] : List Str) k) 8 ∧
     x2.obj.SetObjOf (strKind pw w) (fun k => List.contains (["a", "e", "i", "j", "o", "u", "y", "è"] : List Str) k) 8) ∧
  TR w 20000 ⟨boot_heap w.params,#[],boot_drawn,boot_toks,os⟩ (topStub pw) (S22 w os x0 x1 x2).abs:=by
 obtain⟨x0,h0,N0,l0,e0⟩:=set_piece0 w os
 obtain⟨x1,h1,N1,l1,e1⟩:=set_piece1 w os x0
 obtain⟨x2,h2,N2,l2,e2⟩:=set_piece2 w os x0 x1
 refine⟨x0,x1,x2,⟨h0,h1,h2⟩,?_⟩
 have k:=last22 w (S22 w os x0 x1 x2).abs
 have k:=tr_go (p22 w os x0 x1 x2) k
 have k:=tr_go (p21 w os x0 x1 x2) k
 have k:=tr_go (p20 w os x0 x1 x2) k
 have k:=tr_go (p19 w os x0 x1 x2) k
 have k:=tr_go (p18 w os x0 x1 x2) k
 have k:=tr_go (p17 w os x0 x1 x2) k
 have k:=tr_go (p16 w os x0 x1 x2) k
 have k:=tr_go (p15 w os x0 x1 x2) k
 have k:=tr_go (p14 w os x0 x1 x2) k
 have k:=tr_go (p13 w os x0 x1 x2) k
 have k:=tr_go (p12 w os x0 x1 x2) k
 have k:=tr_go (p11 w os x0 x1 x2) k
 have k:=tr_go (p10 w os x0 x1 x2) k
 have k:TR w _ _ _ _:=seg0_top e2 k
 have k:TR w _ _ _ _:=seg0_top e1 k
 have k:TR w _ _ _ _:=seg0_top e0 k
 rw[←start6] at k
 have k:=tr_go (p6 w os) k
 have k:=tr_go (p5 w os) k
 have k:=tr_go (p4 w os) k
 have k:=tr_go (p3 w os) k
 have k:=tr_go (p2 w os) k
 have k:=tr_go (p1 w os) k
 rw[←start0] at k
 have k:=go_top (p0 w os) k
 have m:=topRun_mono (20000-(12+(38+(987+(9+(226+(9+(64+(N0+(N1+(N2+(29+(293+(33+(1831+(511+(536+(856+(1031+(711+(174+(784+(18+(372+2)))))))))))))))))))))))) _ _ _ _ k
 unfold TR
 rw[show 20000=12+(38+(987+(9+(226+(9+(64+(N0+(N1+(N2+(29+(293+(33+(1831+(511+(536+(856+(1031+(711+(174+(784+(18+(372+2))))))))))))))))))))))+(20000-(12+(38+(987+(9+(226+(9+(64+(N0+(N1+(N2+(29+(293+(33+(1831+(511+(536+(856+(1031+(711+(174+(784+(18+(372+2)))))))))))))))))))))))) by lia]
 exact m
end
section
noncomputable def KV (P:Params):Frag:=[(2,o2v1 P),(3,o3v9 P),(20,o20 P),(21,o21 P),(34,o34 P),(35,o35 P),(41,o41 P),(42,o42 P),(48,o48 P),(49,o49 P),(55,o55 P),(56,o56 P),(62,o62 P),(63,o63 P),(69,o69 P),(70,o70 P),(76,o76 P),(77,o77 P),(83,o83 P),(84,o84 P),(90,o90 P),(91,o91 P),(97,o97 P),(98,o98 P),(104,o104 P),(105,o105 P),(111,o111 P),(112,o112 P),(118,o118 P),(119,o119 P),(125,o125 P),(126,o126 P),(132,o132 P),(133,o133 P),(139,o139 P),(140,o140 P),(146,o146 P),(147,o147 P),(153,o153 P),(154,o154 P),(160,o160 P),(161,o161 P),(167,o167 P),(168,o168 P),(174,o174 P),(175,o175 P),(181,o181 P),(182,o182 P),(188,o188 P),(189,o189 P),(195,o195 P),(196,o196 P),(198,o198 P),(199,o199v1 P),(216,o216 P),(217,o217 P),(219,o219 P),(220,o220 P),(240,o240 P),(241,o241 P),(247,o247 P),(248,o248 P),(254,o254 P),(255,o255 P),(261,o261 P),(262,o262 P),(268,o268 P),(269,o269 P),(275,o275 P),(276,o276 P),(282,o282 P),(283,o283 P),(289,o289 P),(290,o290 P),(296,o296 P),(297,o297 P),(303,o303 P),(304,o304 P),(305,o305 P),(306,o306 P),(308,o308 P),(309,o309 P),(311,o311 P),(312,o312 P),(314,o314 P),(315,o315 P),(317,o317 P),(318,o318 P),(320,o320 P),(321,o321 P),(323,o323 P),(324,o324 P),(326,o326 P),(327,o327 P),(329,o329 P),(330,o330 P),(332,o332 P),(333,o333 P),(335,o335 P),(336,o336 P),(338,o338 P),(339,o339 P),(340,o340 P),(342,o342 P),(343,o343 P),(345,o345 P),(346,o346 P),(348,o348 P),(349,o349 P),(350,o350 P),(352,o352 P),(353,o353 P),(355,o355 P),(356,o356 P),(358,o358 P),(359,o359 P),(360,o360 P),(362,o362 P),(363,o363 P),(365,o365 P),(366,o366 P),(368,o368 P),(369,o369 P),(371,o371 P),(372,o372 P),(374,o374 P),(375,o375 P),(376,o376 P),(378,o378 P),(379,o379 P),(381,o381 P),(382,o382 P),(384,o384 P),(385,o385 P),(387,o387 P),(388,o388 P),(390,o390 P),(391,o391 P),(393,o393 P),(394,o394 P),(395,o395 P),(397,o397 P),(398,o398 P),(400,o400 P),(401,o401 P),(403,o403 P),(404,o404 P),(406,o406 P),(408,o408 P),(409,o409 P),(420,o420 P),(421,o421 P),(433,o433 P),(434,o434 P),(446,o446 P),(447,o447 P),(459,o459 P),(460,o460 P),(469,o469 P),(470,o470 P),(476,o476 P),(477,o477 P),(483,o483 P),(484,o484 P),(490,o490 P),(491,o491 P),(495,o495 P),(496,o496 P),(502,o502 P),(503,o503 P),(507,o507 P),(508,o508 P),(514,o514 P),(515,o515 P),(519,o519 P),(520,o520 P),(524,o524 P),(525,o525 P),(531,o531 P),(532,o532 P),(538,o538 P),(539,o539 P),(543,o543 P),(544,o544 P)]
noncomputable abbrev kAs:List Addr:=[2,3,20,21,34,35,41,42,48,49,55,56,62,63,69,70,76,77,83,84,90,91,97,98,104,105,111,112,118,119,125,126,132,133,139,140,146,147,153,154,160,161,167,168,174,175,181,182,188,189,195,196,198,199,216,217,219,220,240,241,247,248,254,255,261,262,268,269,275,276,282,283,289,290,296,297,303,304,305,306,308,309,311,312,314,315,317,318,320,321,323,324,326,327,329,330,332,333,335,336,338,339,340,342,343,345,346,348,349,350,352,353,355,356,358,359,360,362,363,365,366,368,369,371,372,374,375,376,378,379,381,382,384,385,387,388,390,391,393,394,395,397,398,400,401,403,404,406,408,409,420,421,433,434,446,447,459,460,469,470,476,477,483,484,490,491,495,496,502,503,507,508,514,515,519,520,524,525,531,532,538,539,543,544]
noncomputable abbrev obsV (s:Shared):List (Option Obj)×Option Obj×Option Obj×Option Obj:=(kAs.map s.heap.get?,s.heap.get? 232,s.heap.get? 233,s.heap.get? 234)
theorem obsS:∀ (w:World) (os:OsState) (x0 x1 x2:SetD),obsV (S22 w os x0 x1 x2).abs=((KV w.params).map (fun p=>some p.2),some x0.obj,some x1.obj,some x2.obj):=by intro w os x0 x1 x2;kernel_rfl
theorem osS (w:World) (os:OsState) (x0 x1 x2:SetD):(S22 w os x0 x1 x2).abs.os=os:=rfl
noncomputable def vowA:List Str:=["a","e","i","o","u","y","è"]
noncomputable def vowI:List Str:=["I","a","e","i","o","u","y","è"]
noncomputable def vowJ:List Str:=["a","e","i","j","o","u","y","è"]
theorem setAt {w:World} {h:Heap} {a:Addr} {o:Obj} {S:Str→Bool} {n:Nat} (e:h.get? a=some o) (b:o.SetObjOf (strKind pw w) S n) (hn:n<scanBound:=by decide):h.SetOf (strKind pw w) a S n:=by
 obtain⟨b1,es,ep,t,b2,b3,b4,b5,b6⟩:=b
 exact⟨o,es,ep,t,e,b1,b2,b3,b4,by rw[b5];exact hn,b6,b5⟩
theorem setKeep {w:World} {h h':Heap} {a:Addr} {S:Str→Bool} {n:Nat} (k:∀ b o,h.get? b=some o→h'.get? b=some o) (x:h.SetOf (strKind pw w) a S n):h'.SetOf (strKind pw w) a S n:=by
 obtain⟨o,es,ep,t,e,b⟩:=x
 exact⟨o,es,ep,t,k _ _ e,b⟩
structure SetsAt (w:World) (h:Heap):Prop where
 a:h.SetOf (strKind pw w) 232 (fun k=>vowA.contains k) 7
 i:h.SetOf (strKind pw w) 233 (fun k=>vowI.contains k) 8
 j:h.SetOf (strKind pw w) 234 (fun k=>vowJ.contains k) 8
noncomputable def osAt (w:World):OsState:=match fencedOpening treeTable pw w 30000 with |some s=>s.os |none=>default
noncomputable abbrev Ex3 (w:World) (x:SetD×SetD×SetD):Prop:=
  (x.1.obj.SetObjOf (strKind pw w) (fun k=>vowA.contains k) 7∧x.2.1.obj.SetObjOf (strKind pw w) (fun k=>vowI.contains k) 8∧x.2.2.obj.SetObjOf (strKind pw w) (fun k=>vowJ.contains k) 8)∧
  TR w 20000 ⟨boot_heap w.params,#[],boot_drawn,boot_toks,osAt w⟩ (topStub pw) (S22 w (osAt w) x.1 x.2.1 x.2.2).abs
theorem ex3 (w:World):∃ x,Ex3 w x:=by
 obtain⟨x0,x1,x2,a,b⟩:=top_ran w (osAt w)
 exact⟨(x0,x1,x2),a,b⟩
noncomputable def xs (w:World):SetD×SetD×SetD:=Classical.choose (ex3 w)
theorem xs_ok (w:World):Ex3 w (xs w):=Classical.choose_spec (ex3 w)
noncomputable def valV (w:World):List (Option Obj)×Option Obj×Option Obj×Option Obj:=((KV w.params).map (fun p=>some p.2),some (xs w).1.obj,some (xs w).2.1.obj,some (xs w).2.2.obj)
theorem kAsE:∀ P,kAs=(KV P).map (·.1):=by intro P;kernel_rfl
noncomputable def hookV:Hook where
 α:=List (Option Obj)×Option Obj×Option Obj×Option Obj
 obs:=obsV
 val:=valV
 says w h:=InK KV w h∧SetsAt w h
 of w s e:=by
  have e1:=congrArg (fun x=>x.1) e
  have e2:=congrArg (fun x=>x.2.1) e
  have e3:=congrArg (fun x=>x.2.2.1) e
  have e4:=congrArg (fun x=>x.2.2.2) e
  obtain⟨⟨h1,h2,h3⟩,_⟩:=xs_ok w
  exact⟨InK.of kAsE w s e1,setAt e2 h1,setAt e3 h2,setAt e4 h3⟩
 keeps w h h' x k:=⟨InK.keeps w h h' x.1 k,setKeep k x.2.a,setKeep k x.2.i,setKeep k x.2.j⟩
theorem fence0:∀ s,fenceModules? pw s=some s:=by intro s;kernel_rfl
theorem open0:opening pw=plainProg pw.main.scope.names:=by kernel_rfl
theorem myLeft:LeftO pw qv looseL XtL hookV.obs hookV.val 30000:=fun w=>by
 obtain⟨⟨h,gs,d,k,os⟩,e,e'⟩:=Option.map_eq_some_iff.mp (boot_open open0 (N:=30000) (by rfl) fence0 w)
 obtain⟨rfl,rfl,rfl,rfl⟩:h=boot_heap w.params∧gs= #[]∧d=boot_drawn∧k=boot_toks:=by simpa using e'
 have ho:osAt w=os:=by unfold osAt;rw[e]
 obtain⟨z1,z2,z3⟩:_∧_∧_:=by simpa only[Prod.mk.injEq] using sizeA w
 obtain⟨_,tr⟩:=xs_ok w
 rw[ho] at tr
 have r:=topRun_mono (30000-20000) _ _ _ _ tr
 have t:topFrom treeTable pw w 30000 ⟨boot_heap w.params,#[],boot_drawn,boot_toks,os⟩=some (S22 w os (xs w).1 (xs w).2.1 (xs w).2.2).abs:=by
  unfold topFrom
  dsimp only
  rw[z1,z2,z3,r]
  show (match staticsOk (importedModules pw.main.body) (boot_heap w.params) (S22 w os (xs w).1 (xs w).2.1 (xs w).2.2).abs.heap&&namesBound pw (S22 w os (xs w).1 (xs w).2.1 (xs w).2.2).abs.heap&&gensDone (S22 w os (xs w).1 (xs w).2.1 (xs w).2.2).abs&&laidKept (boot_heap w.params) (S22 w os (xs w).1 (xs w).2.1 (xs w).2.2).abs.heap with |true=>_ |false=>_)=_
  rw[lookA,lookB,lookC,lookD]
  rfl
 unfold openEnds
 rw[e]
 show (topFrom treeTable pw w 30000 _).map _=_
 rw[t]
 exact congrArg some (Prod.ext (lookE w os _ _ _) (obsS w os _ _ _))
end
noncomputable abbrev Row:=List Nat×Int×Int
noncomputable def tabOf:List (Addr×List Addr):=[(338,[306,309,312,315,318,321,324,327,330,333,336]),(348,[340,343,346]),(358,[350,353,356]),(374,[360,363,366,369,372]),(393,[376,379,382,385,388,391]),(406,[395,398,401,404])]
noncomputable def amOf:List (Addr×(List Nat×Int×Int)):=[(306,([], -1,6)),(309,([225],0,1)),(312,([228],0,1)),(315,([233],0,2)),(318,([235],0,2)),(321,([237],0,3)),(324,([239],0,3)),(327,([243],0,4)),(330,([246],0,4)),(333,([250],0,5)),(336,([252],0,5)),(340,([], -1,3)),(343,([73],0,2)),(346,([89],0,1)),(350,([100,100], -1, -1)),(353,([107,107], -1, -1)),(356,([116,116], -1, -1)),(360,([101,110,101], -1,2)),(363,([115,101], -1,3)),(366,([101,110], -1,2)),(369,([104,101,100,101,110],2,1)),(372,([115], -1,3)),(376,([101,110,100], -1,1)),(379,([105,103], -1,2)),(382,([105,110,103], -1,1)),(385,([108,105,106,107], -1,3)),(388,([98,97,97,114], -1,4)),(391,([98,97,114], -1,5)),(395,([97,97], -1, -1)),(398,([101,101], -1, -1)),(401,([111,111], -1, -1)),(404,([117,117], -1, -1))]
noncomputable def tabRows:List (Addr×List Row):=tabOf.map fun p=>(p.1,p.2.map fun a=>(amOf.lookup a).getD ([],0,0))
inductive MV where
 |s (v:SV) |self |tab (rows:List Row) |am (r:Row) |list (xs:List SV) |set (xs:List (List Nat)) |dict (kv:List (List Nat×List Nat)) |ref (a:Addr)
noncomputable abbrev Loc:=List (Option MV)
noncomputable abbrev At:=List SV
noncomputable abbrev strL (l:List Nat):Str:=⟨l.toArray⟩
noncomputable def SRel:SV→Value→Prop
 | .int n,v=>∃ t,v= .int n t
 | .str x,v=>∃ t,v= .str (strL x) t
 | .bool b,v=>v= .bool b
 | .none,v=>v= .none
inductive SRels:List SV→List Value→Prop
 |nil:SRels [] []
 |cons {x xs v vs}:SRel x v→SRels xs vs→SRels (x::xs) (v::vs)
inductive DRels:List (List Nat×List Nat)→List (Str×Value)→Prop
 |nil:DRels [] []
 |cons {k x kv v kvs}:SRel (.str x) v→DRels kv kvs→DRels ((k,x)::kv) ((strL k,v)::kvs)
inductive LiR (ex:List Addr) (h:Heap) (xs:List SV) (v:Value):Prop
 |mk (a:Addr) (vs:List Value) (e:v= .ref a) (n:a∉ex) (l:h.IsList a vs.toArray) (r:SRels xs vs)
inductive SeR (w:World) (ex:List Addr) (h:Heap) (xs:List (List Nat)) (v:Value):Prop
 |mk (a:Addr) (k:Nat) (e:v= .ref a) (n:a∉ex) (s:h.SetOf (strKind pw w) a (fun k=>xs.contains k.cps.toList) k)
inductive DiR (w:World) (ex:List Addr) (h:Heap) (kv:List (List Nat×List Nat)) (v:Value):Prop
 |mk (a:Addr) (kvs:List (Str×Value)) (e:v= .ref a) (n:a∉ex) (d:h.DictOf (strKind pw w) a kvs) (r:DRels kv kvs) (y:(a==sysModules)=false)
noncomputable def VRel (w:World) (X:Option Addr) (ex:List Addr) (h:Heap):MV→Value→Prop
 | .s x,v=>SRel x v
 | .self,v=>∃ x,X=some x∧v= .ref x
 | .tab rows,v=>∃ t,v= .ref t∧(t,rows)∈tabRows
 | .am r,v=>∃ a,v= .ref a∧(a,r)∈amOf
 | .list xs,v=>LiR ex h xs v
 | .set xs,v=>SeR w ex h xs v
 | .dict kv,v=>DiR w ex h kv v
 | .ref a,v=>v= .ref a
noncomputable abbrev Nf (o:Obj):Prop:=∀ vs,o.data≠ .fields vs
noncomputable def Keep (ex:List Addr) (h h':Heap):Prop:=∀ b o,h.get? b=some o→b∉ex→h'.get? b=some o
theorem Keep.refl {ex:List Addr} {h:Heap}:Keep ex h h:=fun _ _ e _=>e
theorem Keep.trans {ex:List Addr} {h h' h'':Heap} (a:Keep ex h h') (b:Keep ex h' h''):Keep ex h h'':=fun x o e n=>b x o (a x o e n) n
theorem Keep.mono {ex ex':List Addr} {h h':Heap} (a:Keep ex h h') (s:∀ b∈ex,b∈ex'):Keep ex' h h':=fun x o e n=>a x o e fun m=>n (s x m)
theorem Keep.of_keeps {ex:List Addr} {h h':Heap} (k:∀ b o,h.get? b=some o→h'.get? b=some o):Keep ex h h':=fun b o e _=>k b o e
theorem Heap.ne_of_none {h:Heap} {a b:Addr} {o:Obj} (e:h.get? a=some o) (n:h.get? b=none):a≠b:=fun q=>nomatch (q▸e).symm.trans n
theorem nf_of {o:Obj} {d:Data} (e:o.data=d) (n:∀ vs,d≠ .fields vs):Nf o:=fun vs q=>n vs (e.symm.trans q)
theorem VRel.imp {w:World} {X X':Option Addr} {ex ex':List Addr} {h h':Heap} {mv:MV} {v:Value} (hX:mv= .self→X=X') (k:∀ a o,h.get? a=some o→Nf o→a∉ex→a∉ex'∧h'.get? a=some o) (x:VRel w X ex h mv v):VRel w X' ex' h' mv v:=by
 cases mv with
 |list _=>
  obtain⟨a,vs,e,n,⟨o,ho,hc,m,hd⟩,r⟩:=x
  have z:=k a o ho (nf_of hd nofun) n
  exact⟨a,vs,e,z.1,⟨o,z.2,hc,m,hd⟩,r⟩
 |set _=>
  obtain⟨a,m,e,n,⟨o,es,ep,t,ho,hc,hd,r⟩⟩:=x
  have z:=k a o ho (nf_of hd nofun) n
  exact⟨a,m,e,z.1,⟨o,es,ep,t,z.2,hc,hd,r⟩⟩
 |dict _=>
  obtain⟨a,kvs,e,n,⟨o,es,ep,ho,hc,hd,r⟩,r',y⟩:=x
  have z:=k a o ho (nf_of hd nofun) n
  exact⟨a,kvs,e,z.1,⟨o,es,ep,z.2,hc,hd,r⟩,r',y⟩
 |self=>exact hX rfl▸x
 |_=>exact x
theorem VRel.keep {w:World} {X:Option Addr} {ex:List Addr} {h h':Heap} (k:Keep ex h h') {mv:MV} {v:Value} (x:VRel w X ex h mv v):VRel w X ex h' mv v:=x.imp (fun _=>rfl) fun a o e _ n=>⟨n,k a o e n⟩
theorem VRel.less {w:World} {X:Option Addr} {ex ex':List Addr} {h:Heap} (s:∀ b∈ex',b∈ex) {mv:MV} {v:Value} (x:VRel w X ex h mv v):VRel w X ex' h mv v:=x.imp (fun _=>rfl) fun a _ e _ n=>⟨fun m=>n (s a m),e⟩
theorem VRel.keepS {w:World} {X:Option Addr} {ex:List Addr} {h h':Heap} {mv:MV} {v:Value} (x:VRel w X ex h mv v) (k:∀ b o,h.get? b=some o→h'.get? b=some o):VRel w X ex h' mv v:=x.keep (Keep.of_keeps k)
noncomputable abbrev atNames:List Str:=["current","cursor","limit","limit_backward","bra","ket","I_p1","I_p2","B_e_found"]
structure BaseOk (w:World) (base:Heap) (mg mb:Str→Option Value):Prop where
 K:(KV w.params).In base
 S:SetsAt w base
 T:TopRead qv (looseW qv looseL) mg mb base
structure Cx where
 w:World
 base:Heap
 mg:Str→Option Value
 mb:Str→Option Value
 X:Addr
 D:Addr
 slf:Bool
 exc:Bool
 outer:List Env
 fs:List Addr
 env:Env
 A:Around
 h0:Heap
 gens:Array GenState
 drawn:Drawn
 os:OsState
noncomputable def Cx.ex0 (c:Cx):List Addr:=(if c.slf then [c.D] else [])++c.fs
noncomputable def Cx.ex (c:Cx):List Addr:=c.env.locals::c.ex0
noncomputable def Cx.oX (c:Cx):Option Addr:=if c.slf then some c.X else none
noncomputable abbrev Cx.V (c:Cx) (h:Heap) (mv:MV) (v:Value):Prop:=VRel c.w c.oX c.ex h mv v
theorem oX_self {c:Cx} {x:Addr} (h:c.oX=some x):c.slf=true∧c.X=x:=by
 unfold Cx.oX at h
 split at h
 ·rename_i q;cases h;exact⟨q,rfl⟩
 ·cases h
structure Cx.Ok (c:Cx) (sc:Scope) (d:Nat):Prop where
 base:BaseOk c.w c.base c.mg c.mb
 scope:c.env.scope=sc
 kind:sc.kind= .function
 gl:c.env.globals=mainGlobals
 bl:c.env.builtins=builtinsNs
 hnd:c.A.handled=none
 room:c.A.depth+d<recursionLimit
 un:c.A.units+3*d<cLine
 se:c.slf=true→c.exc=true
 fr:c.exc=true→c.A.frames=some (c.env::c.outer)∧c.env.frame=some c.env.locals∧c.fs=c.outer.filterMap (·.frame)
inductive ER:List Str→At→List DictEntry→Prop
 |nil {ns}:ER ns [] []
 |cons {nm ns sv at_ e es t}:e.key= .str nm t→SRel sv e.val→ER ns at_ es→ER (nm::ns) (sv::at_) (e::es)
inductive DictR (D:Addr) (at_:At) (h:Heap):Prop
 |mk (es:List DictEntry) (n:Nat) (e:h.get? D=some (PySem.W.dictOf es n)) (r:ER atNames at_ es)
structure SelfAt (X D:Addr) (at_:At) (h:Heap):Prop where
 inst:h.get? X=some (instObj 409 D)
 dict:DictR D at_ h
 le:at_.length≤9
structure SelfR (c:Cx) (at_:At) (h:Heap):Prop where
 at_:SelfAt c.X c.D at_ h
 nx:c.X∉c.ex
 nl:c.D≠c.env.locals
 nb:c.base.get? c.D=none
inductive SlR (c:Cx) (h:Heap) (b:Addr) (o:Obj):Prop
 |mk (sl:Array (Option Value)) (e:h.get? b=some { o with slots:=sl }) (n:c.exc=false→sl=o.slots)
inductive CellR (c:Cx) (h:Heap) (x:Str) (v:Value):Prop
 |mk (cl:Addr) (e:c.env.cells.lookup x=some cl) (k:h.IsCell cl (some v)) (n:cl∉c.ex)
inductive LocR (c:Cx) (h:Heap) (m:Str→Option Value) (i:Nat) (mv:MV):Prop
 |mk (x:Str) (v:Value) (a:(c.env.scope.names.map (·.1))[i]? =some x) (b:c.V h mv v) (l:c.env.scope.names.lookup x=some .local→m x=some v) (k:c.env.scope.names.lookup x≠some .local→CellR c h x v)
inductive NsR (c:Cx) (loc:Loc) (h:Heap):Prop
 |mk (m:Str→Option Value) (n:h.Ns c.env.locals m) (r:∀ (i:Nat) (mv:MV),loc[i]? =some (some mv)→LocR c h m i mv)
inductive FdR (h:Heap) (b:Addr):Prop
 |mk (o:Obj) (es:Array DictEntry) (n:Nat) (e:h.get? b=some o) (d:o.data= .dict es n)
structure St (c:Cx) (loc:Loc) (at_:At) (s:Shared):Prop where
 gens:s.gens=c.gens
 drawn:s.drawn=c.drawn
 os:s.os=c.os
 stays:c.base.StaysIn s.heap
 keep:Keep c.ex0 c.h0 s.heap
 slots:∀ b∈c.fs,∀ o,c.h0.get? b=some o→SlR c s.heap b o
 fresh:c.h0.get? c.env.locals=none
 freshB:c.base.get? c.env.locals=none
 ns:NsR c loc s.heap
 self:c.slf=true→SelfR c at_ s.heap
 noself:c.slf=false→at_=[]
 fr:c.exc=true→s.heap.FunFrames c.base (c.env::c.outer)
 fdB:∀ b∈c.fs,c.base.get? b=none
 fd:∀ b∈c.fs,FdR s.heap b
 n1:c.env.locals∉c.fs
 n2:c.slf=true→c.D∉c.fs
theorem St.K {c:Cx} {sc:Scope} {d:Nat} {loc:Loc} {at_:At} {s:Shared} (O:c.Ok sc d) (S:St c loc at_ s):(KV c.w.params).In s.heap:=O.base.K.keeps S.stays
theorem St.TR {c:Cx} {sc:Scope} {d:Nat} {loc:Loc} {at_:At} {s:Shared} (O:c.Ok sc d) (S:St c loc at_ s):TopRead qv (looseW qv looseL) c.mg c.mb s.heap:=O.base.T.keeps S.stays
theorem Cx.ex0_sub {c:Cx}:∀ b∈c.ex0,b∈c.ex:=fun _ h=>.tail _ h
theorem Cx.loc_ex {c:Cx}:c.env.locals∈c.ex:=.head _
theorem Cx.D_ex0 {c:Cx} (h:c.slf=true):c.D∈c.ex0:=by
 unfold Cx.ex0
 rw[if_pos h]
 exact .head _
theorem Cx.D_ex {c:Cx} (h:c.slf=true):c.D∈c.ex:=.tail _ (Cx.D_ex0 h)
theorem Cx.fs_ex {c:Cx} {b:Addr} (h:b∈c.fs):b∈c.ex:=.tail _ (List.mem_append_right _ h)
theorem Cx.ex_cases {c:Cx} {b:Addr} (h:b∈c.ex) {P:Prop} (l:b=c.env.locals→P) (s:c.slf=true→b=c.D→P) (f:b∈c.fs→P):P:=by
 rcases List.mem_cons.mp h with q |q
 ·exact l q
 ·rcases List.mem_append.mp q with q |q
  ·by_cases z:c.slf=true
   ·rw[if_pos z] at q;exact s z (List.mem_singleton.mp q)
   ·rw[if_neg z] at q;cases q
  ·exact f q
theorem St.toks {c:Cx} {loc:Loc} {at_:At} {s:Shared} {tk:Tok} (S:St c loc at_ s):St c loc at_ { s with toks:=tk }:=⟨S.gens,S.drawn,S.os,S.stays,S.keep,S.slots,S.fresh,S.freshB,S.ns,S.self,S.noself,S.fr,S.fdB,S.fd,S.n1,S.n2⟩
theorem FdR.imp {h h':Heap} {b:Addr} (x:FdR h b) (k:∀ o,h.get? b=some o→Nf o→h'.get? b=some o):FdR h' b:=by
 obtain⟨o,es,n,e,d⟩:=x
 exact⟨o,es,n,k o e (nf_of d nofun),d⟩
theorem SelfAt.imp {X D:Addr} {at_:At} {h h':Heap} (S:SelfAt X D at_ h) (kX:∀ o,h.get? X=some o→Nf o→h'.get? X=some o) (kD:∀ o,h.get? D=some o→Nf o→h'.get? D=some o):SelfAt X D at_ h':=by
 obtain⟨a,⟨es,n,e,r⟩,l⟩:=S
 exact⟨kX _ a nofun,⟨es,n,kD _ e nofun,r⟩,l⟩
theorem SelfAt.keeps {X D:Addr} {at_:At} {h h':Heap} (S:SelfAt X D at_ h) (k:∀ b o,h.get? b=some o→h'.get? b=some o):SelfAt X D at_ h':=S.imp (fun o e _=>k _ o e) fun o e _=>k _ o e
theorem LocR.imp {c:Cx} {h h':Heap} {m m':Str→Option Value} {i:Nat} {mv:MV} (x:LocR c h m i mv) (k:∀ a o,h.get? a=some o→Nf o→a∉c.ex→h'.get? a=some o) (hm:∀ y,(c.env.scope.names.map (·.1))[i]? =some y→m' y=m y):LocR c h' m' i mv:=by
 obtain⟨x,v,a,b,l,z⟩:=x
 refine⟨x,v,a,b.imp (fun _=>rfl) fun a o e f n=>⟨n,k a o e f n⟩,fun q=>(hm x a).trans (l q),fun q=> ?_⟩
 obtain⟨cl,e,⟨o,e2,d⟩,n⟩:=z q
 exact⟨cl,e,⟨o,k cl o e2 (nf_of d nofun) n,d⟩,n⟩
theorem NsR.imp {c:Cx} {loc:Loc} {h h':Heap} (x:NsR c loc h) (k:∀ a o,h.get? a=some o→Nf o→a∉c.ex→h'.get? a=some o) (hn:∀ m,h.Ns c.env.locals m→h'.Ns c.env.locals m):NsR c loc h':=by
 obtain⟨m,n,r⟩:=x
 exact⟨m,hn m n,fun i mv e=>(r i mv e).imp k fun _ _=>rfl⟩
theorem Ns.kept {h h':Heap} {L:Addr} (k:∀ o,h.get? L=some o→Nf o→h'.get? L=some o) (m:Str→Option Value) (x:h.Ns L m):h'.Ns L m:=by
 obtain⟨o,es,ep,e,d,r⟩:=x
 exact⟨o,es,ep,k o e (nf_of d nofun),d,r⟩
theorem Ns.fd {h:Heap} {L:Addr} {m:Str→Option Value} (x:h.Ns L m):FdR h L:=by
 obtain⟨o,es,ep,e,d,r⟩:=x
 exact⟨o,es,ep,e,d⟩
theorem Ns.one {h:Heap} {L:Addr} {m m':Str→Option Value} (x:h.Ns L m) (x':h.Ns L m'):m=m':=by
 obtain⟨o,es,ep,e,d,_,r⟩:=x
 obtain⟨o',es',ep',e',d',_,r'⟩:=x'
 cases e.symm.trans e'
 cases d.symm.trans d'
 exact funext fun y=>(r y).symm.trans (r' y)
theorem frames_imp {h h' base:Heap} (k:∀ b o,h.get? b=some o→Nf o→∃ o',h'.get? b=some o'∧Nf o'):∀ l:List Env,h.FunFrames base l→h'.FunFrames base l:=by
 intro l
 induction l with
 |nil=>exact id
 |cons env rest ih=>
  rintro⟨h1,⟨L,o,h2,h3,h4,h5⟩,h6⟩
  obtain⟨o',e,n⟩:=k L o h4 h5
  exact⟨h1,⟨L,o',h2,h3,e,n⟩,ih h6⟩
theorem St.exFresh {c:Cx} {loc:Loc} {at_:At} {s:Shared} (S:St c loc at_ s) {b:Addr} (hb:b∈c.ex):c.base.get? b=none:=
 Cx.ex_cases hb (fun q=>q▸S.freshB) (fun z q=>q▸(S.self z).nb) (S.fdB b)
theorem St.apart {c:Cx} {loc:Loc} {at_:At} {s:Shared} {h':Heap} (S:St c loc at_ s) (k:Keep c.ex s.heap h'):c.base.StaysIn h'∧Keep c.ex0 c.h0 h':=
 ⟨fun b o e=>k b o (S.stays b o e) fun q=>Heap.ne_of_none e (S.exFresh q) rfl,fun b o e n=>k b o (S.keep b o e n) fun q=>(List.mem_cons.mp q).elim (Heap.ne_of_none e S.fresh) n⟩
theorem St.chg {c:Cx} {loc loc':Loc} {at_ at':At} {s:Shared} {h':Heap} {tk:Tok} (S:St c loc at_ s) (kb:c.base.StaysIn h'∧Keep c.ex0 c.h0 h') (hsl:∀ b∈c.fs,∀ o,c.h0.get? b=some o→SlR c s.heap b o→SlR c h' b o) (hns:NsR c loc' h') (hs:c.slf=true→SelfR c at_ s.heap→SelfR c at' h') (h0:c.slf=false→at'=[])
  (ff:∀ b o,s.heap.get? b=some o→Nf o→∃ o',h'.get? b=some o'∧Nf o') (hfd:∀ b∈c.fs,FdR s.heap b→FdR h' b):St c loc' at' { s with heap:=h',toks:=tk }:=
 ⟨S.gens,S.drawn,S.os,kb.1,kb.2,fun b hb o e=>hsl b hb o e (S.slots b hb o e),S.fresh,S.freshB,hns,fun q=>hs q (S.self q),h0,fun q=>frames_imp ff _ (S.fr q),S.fdB,fun b hb=>hfd b hb (S.fd b hb),S.n1,S.n2⟩
theorem SlR.kept {c:Cx} {h h':Heap} {b:Addr} {o:Obj} (x:SlR c h b o) (k:∀ o,h.get? b=some o→h'.get? b=some o):SlR c h' b o:=by
 obtain⟨sl,e,n⟩:=x
 exact⟨sl,k _ e,n⟩
theorem St.kept {c:Cx} {loc:Loc} {at_:At} {s:Shared} {h':Heap} {tk:Tok} (S:St c loc at_ s) (kb:c.base.StaysIn h'∧Keep c.ex0 c.h0 h') (hsl:∀ b∈c.fs,∀ o o',c.h0.get? b=some o→s.heap.get? b=some o'→h'.get? b=some o') (k:∀ b o,s.heap.get? b=some o→Nf o→h'.get? b=some o):St c loc at_ { s with heap:=h',toks:=tk }:=
 S.chg kb (fun b hb o e x=>x.kept fun o'=>hsl b hb o o' e) (S.ns.imp (fun a o e f _=>k a o e f) (Ns.kept (k _))) (fun _ x=>⟨x.at_.imp (k _) (k _),x.nx,x.nl,x.nb⟩) S.noself (fun b o e f=>⟨o,k b o e f,f⟩) fun b _ x=>x.imp (k b)
theorem St.grow {c:Cx} {loc:Loc} {at_:At} {s:Shared} {h':Heap} {tk:Tok} (S:St c loc at_ s) (k:∀ b o,s.heap.get? b=some o→h'.get? b=some o):St c loc at_ { s with heap:=h',toks:=tk }:=
 S.kept (S.apart (Keep.of_keeps k)) (fun b _ _ o' _=>k b o') fun b o e _=>k b o e
section
theorem isStr_self {x:Str} {t:Tok}:(Value.str x t).isStr x=true:=by simp[Value.isStr]
theorem isStr_ne {x y:Str} {t:Tok} (h:y≠x):(Value.str y t).isStr x=false:=by simp[Value.isStr,h]
theorem ER.len {ns:List Str} {at_:At} {es:List DictEntry} (x:ER ns at_ es):es.length=at_.length:=by
 induction x with
 |nil=>rfl
 |cons _ _ _ ih=>simp[ih]
theorem ER.noRef {ns:List Str} {at_:At} {es:List DictEntry} (x:ER ns at_ es):es.any (·.refKey)=false:=by
 induction x with
 |nil=>rfl
 |cons a _ _ ih=>rw[List.any_cons,ih,Bool.or_false];unfold DictEntry.refKey;rw[a]
theorem ER.absent {ns:List Str} {at_:At} {es:List DictEntry} (x:ER ns at_ es) {nm:Str} (h:nm∉ns):es.find? (·.key.isStr nm)=none:=by
 induction x with
 |nil=>rfl
 |cons a _ _ ih=>
  rw[List.find?_cons_of_neg]
  ·exact ih fun q=>h (.tail _ q)
  ·rw[a,isStr_ne (fun q=>h (by rw[q];exact .head _))];decide
theorem ER.getNone {ns:List Str} {at_:At} {es:List DictEntry} (x:ER ns at_ es) {nm:Str} (h:nm∉ns):getL nm es=some none:=by
 unfold getL
 rw[x.absent h,x.noRef]
 rfl
theorem ER.get {ns:List Str} {at_:At} {es:List DictEntry} (x:ER ns at_ es) (nd:ns.Nodup) {k:Nat} {nm:Str} {sv:SV} (hk:ns[k]? =some nm) (ha:at_[k]? =some sv):∃ v,getL nm es=some (some v)∧SRel sv v:=by
 suffices h:∃ e,es.find? (·.key.isStr nm)=some e∧SRel sv e.val by
  obtain⟨e,h1,h2⟩:=h
  exact⟨e.val,by unfold getL;rw[h1],h2⟩
 induction x generalizing k with
 |nil=>simp at ha
 | @cons nm' ns sv' at_ e es t a b c ih=>
  cases k with
  |zero=>
   simp only[List.getElem?_cons_zero,Option.some.injEq] at hk ha
   subst hk ha
   exact⟨e,by rw[List.find?_cons_of_pos];rw[a];exact isStr_self,b⟩
  |succ k=>
   simp only[List.getElem?_cons_succ] at hk ha
   obtain⟨n1,n2⟩:=List.nodup_cons.mp nd
   obtain⟨e',h1,h2⟩:=ih n2 hk ha
   refine⟨e',?_,h2⟩
   rw[List.find?_cons_of_neg]
   ·exact h1
   ·rw[a,isStr_ne (fun q=>n1 (by rw[q];exact List.mem_of_getElem? hk))];decide
noncomputable def setA (at_:At) (k:Nat) (v:SV):At:=if k<at_.length then at_.set k v else at_++[v]
theorem ER.put {ns:List Str} {at_:At} {es:List DictEntry} (x:ER ns at_ es) (nd:ns.Nodup) {k:Nat} {nm:Str} {sv:SV} {v:Value} {hs:Int} {t:Tok} (hk:ns[k]? =some nm) (hl:k≤at_.length) (hv:SRel sv v):
  ER ns (setA at_ k sv) (putL nm hs (.str nm t) v es):=by
 induction x generalizing k with
 | @nil ns=>
  cases k with
  |zero=>
   cases ns with
   |nil=>simp at hk
   |cons a r=>
    simp only[List.getElem?_cons_zero,Option.some.injEq] at hk
    subst hk
    exact .cons rfl hv .nil
  |succ k=>simp at hl
 | @cons nm' ns sv' at_ e es t' a b c ih=>
  cases k with
  |zero=>
   simp only[List.getElem?_cons_zero,Option.some.injEq] at hk
   subst hk
   unfold putL
   rw[a,if_pos isStr_self]
   exact .cons rfl hv c
  |succ k=>
   simp only[List.getElem?_cons_succ] at hk
   obtain⟨n1,n2⟩:=List.nodup_cons.mp nd
   unfold putL
   rw[a,if_neg (by rw[isStr_ne (fun q=>n1 (by rw[q];exact List.mem_of_getElem? hk))];decide)]
   have e1:setA (sv'::at_) (k+1) sv=sv'::setA at_ k sv:=by
    unfold setA
    by_cases q:k<at_.length
    ·rw[if_pos (by simpa using q),if_pos q];rfl
    ·rw[if_neg (by simpa using q),if_neg q];rfl
   rw[e1]
   exact .cons a b (ih n2 hk (by simpa using hl))
theorem atNodup:atNames.Nodup:=by decide
theorem setA_le {at_:At} {k:Nat} {v:SV} (h:at_.length≤9) (hk:k<9):(setA at_ k v).length≤9∨at_.length=9∧k≥at_.length:=by
 unfold setA
 split
 ·exact .inl (by simpa using h)
 ·rename_i q
  by_cases z:at_.length=9
  ·exact .inr ⟨z,by lia⟩
  ·exact .inl (by simp;lia)
theorem setA_len {at_:At} {k:Nat} {v:SV} (h:at_.length≤9) (hk:k<9) (hl:k≤at_.length):(setA at_ k v).length≤9:=by
 unfold setA
 split
 ·simpa using h
 ·simp;lia
theorem handed_SRel {sv:SV} {v:Value} (h:SRel sv v):handedIn v=true:=by
 cases sv with
 |int n=>obtain⟨t,rfl⟩:=h;rfl
 |str x=>obtain⟨t,rfl⟩:=h;rfl
 |bool b=>injection h;rfl
 |none=>injection h;rfl
noncomputable def getOk (K:Frag) (nm:Str):Bool:=plainGet K 409 nm&&hasDictIn K 409&&(match findIn K (.ref 409) nm with |some a=>noGet K a |none=>false)
noncomputable def setOk (K:Frag) (nm:Str):Bool:=plainOver K 409&&(takerIn K 409 nm==some none)&&(findIn K (.ref 409) "__setattr__"==some (some (.builtin "object.__setattr__")))
theorem getOk_all:∀ P,atNames.all (getOk (KV P))=true:=by intro P;kernel_rfl
theorem setOk_all:∀ P,atNames.all (setOk (KV P))=true:=by intro P;kernel_rfl
section
variable {c:Cx} {sc:Scope} {d:Nat} {loc:Loc} {at_:At} {s:Shared} {E:Value→Shared→Prop}
theorem SelfAt.instAt {X D:Addr} {at_:At} {h:Heap} (S:SelfAt X D at_ h):∃ es n,PySem.W.InstAt h X (instObj 409 D) 409 (some (PySem.W.dictOf es n))∧ER atNames at_ es:=by
 obtain⟨a,⟨es,n,e,r⟩,_⟩:=S
 exact⟨es,n,⟨a,rfl,rfl,e⟩,r⟩
theorem get_at {A:Around} {X D:Addr} {w:World} {k:Nat} {nm:Str} {sv:SV} {expr:Bool} {Q:Value→Shared→Prop} (K:(KV w.params).In s.heap) (S:SelfAt X D at_ s.heap) (hk:atNames[k]? =some nm) (ha:at_[k]? =some sv)
  (h:∀ v,SRel sv v→Q v { s with toks:=s.toks+1 }):wpAny (model pw w) A (getAttr (.ref X) nm expr) Q E s:=by
 obtain⟨es,n,I,R⟩:=S.instAt
 obtain⟨v,hg,hv⟩:=R.get atNodup hk ha
 have ok:=List.all_eq_true.mp (getOk_all w.params) nm (List.mem_of_getElem? hk)
 unfold getOk at ok
 simp only[Bool.and_eq_true] at ok
 obtain⟨⟨o1,o2⟩,o3⟩:=ok
 split at o3
 ·rename_i a q
  exact get_value K I (plainGet_of o1).1 (findObj_own o2 q o3 hg) (handed_SRel hv) (h v hv)
 ·cases o3
noncomputable def emptyH (h:Heap):Heap:={ h with objs:= #[] }
theorem emptyH_get {h:Heap} (b:Addr):(emptyH h).get? b=none:=by
 cases q:(emptyH h).get? b with
 |none=>rfl
 |some o=>exact absurd (Heap.lt_size q) (by simp[emptyH])
noncomputable def allBut (h:Heap) (L D:Addr):List (Addr×Obj):=(List.range h.objs.size).filterMap fun b=>if b=L∨b=D then none else (h.get? b).map fun o=>(b,o)
theorem mem_allBut {h:Heap} {L D b:Addr} {o:Obj}:(b,o)∈allBut h L D↔b≠L∧b≠D∧h.get? b=some o:=by
 unfold allBut
 simp only[List.mem_filterMap,List.mem_range]
 constructor
 ·rintro⟨x,hx,q⟩
  split at q
  ·cases q
  ·rename_i z
   refine op1 q fun o' ho=> ?_
   exact⟨fun y=>z (.inl y),fun y=>z (.inr y),ho⟩
 ·rintro⟨a1,a2,a3⟩
  refine⟨b,Heap.lt_size a3,?_⟩
  rw[if_neg (by rintro (y |y);exact a1 y;exact a2 y),a3]
  rfl
theorem set_at {A:Around} {X D L:Addr} {w:World} {m:Str→Option Value} {k:Nat} {nm:Str} {sv:SV} {v:Value} {Q:Unit→Shared→Prop} (K:(KV w.params).In s.heap) (S:SelfAt X D at_ s.heap) (hn:s.heap.Ns L m) (hD:D≠L) (hX:X≠L) (hXD:X≠D)
  (hk:atNames[k]? =some nm) (hl:k≤at_.length) (hv:SRel sv v)
  (h:∀ h' tk,h'.Ns L m→SelfAt X D (setA at_ k sv) h'→(∀ b o,b≠L→b≠D→s.heap.get? b=some o→h'.get? b=some o)→Q () { s with heap:=h',toks:=tk }):wpAny (model pw w) A (setAttr (.ref X) nm v) Q E s:=by
 obtain⟨a,⟨es,n,e,R⟩,le⟩:=S
 have I:PySem.W.InstAt s.heap X (instObj 409 D) 409 (some (PySem.W.dictOf es n)):=⟨a,rfl,rfl,e⟩
 have ok:=List.all_eq_true.mp (setOk_all w.params) nm (List.mem_of_getElem? hk)
 have ok2:=List.all_eq_true.mp (getOk_all w.params) nm (List.mem_of_getElem? hk)
 unfold setOk at ok
 unfold getOk at ok2
 simp only[Bool.and_eq_true] at ok ok2
 obtain⟨⟨o1,o2⟩,o3⟩:=ok
 have hk9:k<9:=by
  have:=(List.getElem?_eq_some_iff.mp hk).1
  simpa using this
 have R':=R.put (hs:=PyData.keyHash w.params nm) (t:=s.toks+1) atNodup hk hl hv
 refine set_plain K I (beq_iff_eq.mp o3) ?_
 refine osa_dict (s:={ s with toks:=s.toks+1 }) (h₀:=emptyH s.heap) (L:=L) (m:=m) (pre:=allBut s.heap L D) (post:=[]) (od':=PySem.W.dictOf (putL nm (PyData.keyHash w.params nm) (.str nm (s.toks+1)) v es) (putN nm es n))
  ⟨hn,(fun b o q=>by rw[emptyH_get] at q;cases q),Nat.zero_le _⟩ ?_ K I rfl o1 (beq_iff_eq.mp o2) ok2.1.2 ?_ ?_ (fun p hp=>nomatch hp) (by rw[putName_dict]) rfl ?_ fun h' F' N'=> ?_
 ·intro p hp
  rcases List.mem_append.mp hp with q |q
  ·obtain⟨b,o⟩:=p
   obtain⟨a1,a2,a3⟩:=mem_allBut.mp q
   exact⟨a3,a1,emptyH_get _⟩
  ·rcases List.mem_singleton.mp q with rfl
   exact⟨e,hD,emptyH_get _⟩
 ·rw[lookIn_dict]
  unfold getL
  rw[R.noRef]
  split<;>rfl
 ·intro p hp
  obtain⟨b,o⟩:=p
  exact (mem_allBut.mp hp).2.1
 ·rw[R'.len]
  have:=setA_len (v:=sv) le hk9 hl
  lia
 ·refine h h' _ F'.ns ⟨(N' (X,instObj 409 D) (List.mem_append_left _ (mem_allBut.mpr ⟨hX,hXD,a⟩))).1,⟨_,_,(N' (D,_) (List.mem_append_right _ (.head _))).1,R'⟩,setA_len le hk9 hl⟩ fun b o q1 q2 q3=> ?_
  exact (N' (b,o) (List.mem_append_left _ (mem_allBut.mpr ⟨q1,q2,q3⟩))).1
end
end
theorem St.setAt {c:Cx} {loc:Loc} {at_ at':At} {s:Shared} {h':Heap} {tk:Tok} {m:Str→Option Value} (S:St c loc at_ s) (hs:c.slf=true) (hm:s.heap.Ns c.env.locals m) (hn:h'.Ns c.env.locals m) (hS:SelfAt c.X c.D at' h')
  (k:∀ b o,b≠c.env.locals→b≠c.D→s.heap.get? b=some o→h'.get? b=some o):St c loc at' { s with heap:=h',toks:=tk }∧Keep c.ex s.heap h':=by
 have kp:Keep c.ex s.heap h':=fun b o e n=>k b o (fun q=>n (q▸Cx.loc_ex)) (fun q=>n (q▸Cx.D_ex hs)) e
 have kf:∀ b∈c.fs,∀ o,s.heap.get? b=some o→h'.get? b=some o:=fun b hb o=>k b o (fun z=>S.n1 (z▸hb)) fun z=>S.n2 hs (z▸hb)
 refine⟨S.chg (S.apart kp) (fun b hb o _ x=>x.kept (kf b hb)) (S.ns.imp (fun a o e _ n=>kp a o e n) fun m' x=>Ns.one hm x▸hn) (fun _ x=>⟨hS,x.nx,x.nl,x.nb⟩) (fun q=>nomatch hs.symm.trans q) (fun b o e f=> ?_) fun b hb x=>x.imp fun o e _=>kf b hb o e,kp⟩
 by_cases q1:b=c.env.locals
 ·obtain⟨o',es,n,e',d⟩:=Ns.fd hn
  exact⟨o',q1▸e',nf_of d nofun⟩
 ·by_cases q2:b=c.D
  ·obtain⟨es,n,e',_⟩:=hS.dict
   exact⟨PySem.W.dictOf es n,q2▸e',nofun⟩
  ·exact⟨o,k b o q1 q2 e,f⟩
theorem St.store {c:Cx} {loc:Loc} {at_:At} {s:Shared} {h':Heap} {tk:Tok} {i:Nat} {x:Str} {mv:MV} {v:Value} {m:Str→Option Value} (S:St c loc at_ s) (hnd:(c.env.scope.names.map (·.1)).Nodup) (hi:(c.env.scope.names.map (·.1))[i]? =some x) (hk:c.env.scope.names.lookup x=some .local)
  (hv:c.V s.heap mv v) (hm:s.heap.Ns c.env.locals m) (hn:h'.Ns c.env.locals (fun y=>if y=x then some v else m y)) (hs:Heap.SameBut c.env.locals s.heap h'):
  St c (loc.set i (some mv)) at_ { s with heap:=h',toks:=tk }∧Keep c.ex s.heap h':=by
 have k:∀ b o,b≠c.env.locals→s.heap.get? b=some o→h'.get? b=some o:=fun b o q e=>(hs.2 b q).trans e
 have kp:Keep c.ex s.heap h':=fun b o e n=>k b o (fun q=>n (q▸Cx.loc_ex)) e
 have kf:∀ b∈c.fs,∀ o,s.heap.get? b=some o→h'.get? b=some o:=fun b hb o=>k b o fun z=>S.n1 (z▸hb)
 refine⟨S.chg (S.apart kp) (fun b hb o _ x=>x.kept (kf b hb)) ⟨_,hn,fun j mv' e=> ?_⟩ (fun _ x=>⟨x.at_.imp (fun o e _=>k _ o (fun z=>x.nx (z▸Cx.loc_ex)) e) fun o e _=>k _ o x.nl e,x.nx,x.nl,x.nb⟩) S.noself (fun b o e f=> ?_) fun b hb x=>x.imp fun o e _=>kf b hb o e,kp⟩
 ·by_cases q:i=j
  ·subst q
   rw[List.getElem?_set_self'] at e
   cases hl:loc[i]? with
   |none=>rw[hl] at e;cases e
   |some z=>
    rw[hl] at e
    cases e
    exact⟨x,v,hi,hv.keep kp,fun _=>if_pos rfl,fun z=>absurd hk z⟩
  ·rw[List.getElem?_set_ne q] at e
   obtain⟨m',n',r⟩:=S.ns
   cases Ns.one hm n'
   exact (r j mv' e).imp (fun a o e _ n=>kp a o e n) fun y hy=>if_neg fun z=>q ((List.getElem?_inj (List.getElem?_eq_some_iff.mp hi).1 hnd).mp (hi.trans (z▸hy).symm))
 ·by_cases q1:b=c.env.locals
  ·obtain⟨o',es,n,e',d⟩:=Ns.fd hn
   exact⟨o',q1▸e',nf_of d nofun⟩
  ·exact⟨o,k b o q1 e,f⟩
noncomputable abbrev EF:=Loc→At→Option (MV×At)
noncomputable abbrev CF:=Loc→At→Option (Bool×At)
structure Post (q:Bool) (c:Cx) (loc:Loc) (at':At) (s:Shared) (s':Shared):Prop where
 st:St c loc at' s'
 kp:Keep c.ex s.heap s'.heap
 lx:q=true→c.exc=false→∀ o,s.heap.get? c.env.locals=some o→s'.heap.get? c.env.locals=some o
noncomputable abbrev QE (c:Cx) (loc:Loc) (r:MV) (at':At) (s:Shared):Value→Shared→Prop:=fun v s'=>c.V s'.heap r v∧Post true c loc at' s s'
noncomputable abbrev QC (c:Cx) (loc:Loc) (r:Bool) (at':At) (s:Shared):Bool→Shared→Prop:=fun v s'=>v=r∧Post true c loc at' s s'
noncomputable def SoundE (sc:Scope) (d:Nat) (e:Expr) (f:EF):Prop:=
 ∀ (c:Cx),c.Ok sc d→∀ (loc:Loc) (at_:At) (s:Shared) (r:MV) (at':At) (E:Value→Shared→Prop),St c loc at_ s→f loc at_=some (r,at')→
  wpAny (model pw c.w) c.A (eval e c.env) (QE c loc r at' s) E s
noncomputable def SoundC (sc:Scope) (d:Nat) (e:Expr) (f:CF):Prop:=
 ∀ (c:Cx),c.Ok sc d→∀ (loc:Loc) (at_:At) (s:Shared) (r:Bool) (at':At) (E:Value→Shared→Prop),St c loc at_ s→f loc at_=some (r,at')→
  wpAny (model pw c.w) c.A (isTrue e c.env (eval e c.env)) (QC c loc r at' s) E s
theorem Post.refl {q:Bool} {c:Cx} {loc:Loc} {at_:At} {s:Shared} (S:St c loc at_ s):Post q c loc at_ s s:=⟨S,Keep.refl,fun _ _ _ e=>e⟩
theorem Post.tok {q:Bool} {c:Cx} {loc:Loc} {at_:At} {s:Shared} {tk:Tok} (S:St c loc at_ s):Post q c loc at_ s { s with toks:=tk }:=⟨S.toks,Keep.refl,fun _ _ _ e=>e⟩
theorem Post.grow {q:Bool} {c:Cx} {loc:Loc} {at_:At} {s:Shared} {h':Heap} {tk:Tok} (S:St c loc at_ s) (k:∀ b o,s.heap.get? b=some o→h'.get? b=some o):Post q c loc at_ s { s with heap:=h',toks:=tk }:=⟨S.grow k,Keep.of_keeps k,fun _ _ o e=>k _ o e⟩
theorem Post.trans {q q':Bool} {c:Cx} {loc loc':Loc} {at' at'':At} {s s' s'':Shared} (a:Post q c loc at' s s') (b:Post q' c loc' at'' s' s''):Post (q&&q') c loc' at'' s s'':=⟨b.1,a.2.trans b.2,fun h x o e=>by
 obtain⟨h1,h2⟩:=Bool.and_eq_true_iff.mp h
 exact b.lx h2 x o (a.lx h1 x o e)⟩
theorem Post.weak {q:Bool} {c:Cx} {loc:Loc} {at':At} {s s':Shared} (a:Post q c loc at' s s'):Post false c loc at' s s':=⟨a.1,a.2,fun h=>by cases h⟩
theorem SoundE.use {sc:Scope} {d:Nat} {e:Expr} {f:EF} (h:SoundE sc d e f) {c:Cx} (O:c.Ok sc d) {loc:Loc} {at_ at':At} {s:Shared} {r:MV} {Q E:Value→Shared→Prop} (S:St c loc at_ s) (hf:f loc at_=some (r,at')) (k:∀ v s',c.V s'.heap r v→Post true c loc at' s s'→Q v s'):wpAny (model pw c.w) c.A (eval e c.env) Q E s:=
 wpAny_mono (h c O loc at_ s r at' E S hf) (fun v s' x=>k v s' x.1 x.2) fun _ _ x=>x
theorem SoundC.use {sc:Scope} {d:Nat} {e:Expr} {f:CF} (h:SoundC sc d e f) {c:Cx} (O:c.Ok sc d) {loc:Loc} {at_ at':At} {s:Shared} {r:Bool} {Q:Bool→Shared→Prop} {E:Value→Shared→Prop} (S:St c loc at_ s) (hf:f loc at_=some (r,at')) (k:∀ s',Post true c loc at' s s'→Q r s'):wpAny (model pw c.w) c.A (isTrue e c.env (eval e c.env)) Q E s:=
 wpAny_mono (h c O loc at_ s r at' E S hf) (fun v s' x=>x.1▸k s' x.2) fun _ _ x=>x
noncomputable def getLoc (loc:Loc) (i:Nat):Option MV:=match loc[i]? with |some (some v)=>some v |_=>none
theorem getLoc_eq {loc:Loc} {i:Nat} {mv:MV} (h:getLoc loc i=some mv):loc[i]? =some (some mv):=by
 unfold getLoc at h
 split at h
 ·rename_i v e;injection h;exact e
 ·injection h
theorem E_loc {sc:Scope} {d:Nat} {x:Str} {pos:Pos} (i:Nat) (hi:(sc.names.map (·.1))[i]? =some x) (hd:(x==("__debug__":Str))=false:=by decide) (hc:(x==("__classdict__":Str))=false:=by decide)
  (hk:sc.names.lookup x=some .local∨sc.names.lookup x=some .cell∨sc.names.lookup x=some .free):
  SoundE sc d (.Name x pos) (fun loc at_=>(getLoc loc i).map (·,at_)):=by
 intro c O loc at_ s r at' E S hf
 refine om1 hf fun mv hg e=> ?_
 cases e
 obtain⟨m,hn,R⟩:=S.ns
 obtain⟨y,v,h1,h2,h3,h4⟩:=R i r (getLoc_eq hg)
 have sco:=O.scope
 rw[sco] at h1 h3 h4
 cases hi.symm.trans h1
 rcases hk with hk |hk |hk
 ·exact wpAny_Name (wpAny_loadName_local (by rw[sco];exact O.kind) (by unfold Env.kindOf;rw[sco];exact hk) hn (h3 hk) ⟨h2,Post.refl S⟩) hd
 ·obtain⟨cl,d1,d2,d3⟩:=h4 (by rw[hk];decide)
  exact wpAny_Name (wpAny_loadName_cell (by rw[sco];exact O.kind) (by unfold Env.kindOf;rw[sco];exact hk) d1 d2 ⟨h2,Post.refl S⟩) hd
 ·obtain⟨cl,d1,d2,d3⟩:=h4 (by rw[hk];decide)
  exact wpAny_Name (wpAny_loadName_free (by rw[sco];exact O.kind) (by unfold Env.kindOf;rw[sco];exact hk) d1 d2 ⟨h2,Post.refl S⟩ hc) hd
theorem E_int {sc:Scope} {d:Nat} {n:Int} {k:Nat} {pos:Pos}:SoundE sc d (.Constant (.int n) k pos) (fun _ at_=>some (.s (.int n),at_)):=by
 intro c O loc at_ s r at' E S hf
 first |refine oe2 hf ?_ |refine oe3 hf ?_ |injection hf
 exact wpAny_Constant_int ⟨⟨_,rfl⟩,Post.tok S⟩
theorem E_str {sc:Scope} {d:Nat} {n:Str} {k:Nat} {pos:Pos}:SoundE sc d (.Constant (.str n) k pos) (fun _ at_=>some (.s (.str n.cps.toList),at_)):=by
 intro c O loc at_ s r at' E S hf
 first |refine oe2 hf ?_ |refine oe3 hf ?_ |injection hf
 exact wpAny_Constant_str ⟨⟨_,rfl⟩,Post.tok S⟩
theorem E_bool {sc:Scope} {d:Nat} {n:Bool} {k:Nat} {pos:Pos}:SoundE sc d (.Constant (.bool n) k pos) (fun _ at_=>some (.s (.bool n),at_)):=by
 intro c O loc at_ s r at' E S hf
 first |refine oe2 hf ?_ |refine oe3 hf ?_ |injection hf
 exact wpAny_Constant_bool ⟨rfl,Post.refl S⟩
theorem mSelf {α:Type} {m:MV} {x:Option α} {r:α} {G:Prop} (h:(match m with | .self=>x |_=>none)=some r) (k:m= .self→x=some r→G):G:=by
 cases m with
 |self=>exact k rfl h
 |_=>exact nn h
theorem E_at {sc:Scope} {d:Nat} {o:Expr} {fo:EF} {nm:Str} {pos:Pos} (k:Nat) (hk:atNames[k]? =some nm) (ho:SoundE sc d o fo)
  (he:∀ env,eval (.Attribute o nm pos) env=(do let ov ←eval o env;standAt pos.atName;let r ←holding [ov] (getAttr ov nm true);letTemporaryGo o ov r;pure r):=by intro env;rfl)
  (hlt:∀ ov r,letTemporaryGo o ov r=pure ():=by intro _ _;rfl):
  SoundE sc d (.Attribute o nm pos) (fun loc at_=>(fo loc at_).bind fun p=>match p.1 with | .self=>(p.2[k]?).map fun sv=>(.s sv,p.2) |_=>none):=by
 intro c O loc at_ s r at' E S hf
 refine ob2 hf fun mv at1 h1 h2=> ?_
 rw[he]
 refine mSelf h2 fun e h2=>op1 h2 fun sv h3=> ?_
 subst e
 refine wpAny_bind (ho.use O S h1 fun ov s₁ hv P=> ?_)
 obtain⟨x,ex,rfl⟩:=hv
 obtain⟨hs,rfl⟩:=oX_self ex
 refine wpAny_bind (wpAny_standAt (wpAny_bind (wpAny_holding ?_)))
 refine get_at (P.1.K O) (P.1.self hs).at_ hk h3 fun v hv=> ?_
 rw[hlt]
 exact wpAny_bind (wpAny_pure (wpAny_pure ⟨hv,P.trans (Post.tok P.1)⟩))
theorem eL {sc:Scope} {d:Nat} {x:Str} {pos:Pos} (i:Nat) (hi:(sc.names.map (·.1))[i]? =some x:=by kernel_rfl) (hl:sc.names.lookup x=some .local:=by kernel_rfl) (hd:(x==("__debug__":Str))=false:=by decide) (hc:(x==("__classdict__":Str))=false:=by decide):SoundE sc d (.Name x pos) (fun loc at_=>(getLoc loc i).map (·,at_)):=E_loc i hi hd hc (.inl hl)
section
theorem strL_app (x y:List Nat):strL x++strL y=strL (x++y):=by
 show Str.append _ _=_
 simp[Str.append,strL]
theorem strL_len (x:List Nat):(strL x).length=x.length:=by simp[Str.length,strL]
theorem strL_beq (x y:List Nat):(strL x==strL y)=(x==y):=by
 rw[Bool.eq_iff_iff]
 simp[strL]
noncomputable def binI (op:Operator) (a b:Int):Option SV:=match op with
 | .Add=>some (.int (a+b))
 | .Sub=>some (.int (a-b))
 | .Mod=>if b=0 then none else some (.int (a.fmod b))
 | .RShift=>if 0≤b then some (.int (a.fdiv (2^b.toNat))) else none
 |_=>none
noncomputable def binS (op:Operator) (x y:List Nat):Option SV:=match op with
 | .Add=>if x.length+y.length≤1000 then some (.str (x++y)) else none
 |_=>none
noncomputable def binop (op:Operator):SV→SV→Option SV
 | .int a,.int b=>binI op a b
 | .str x,.str y=>binS op x y
 |_,_=>none
noncomputable def cmpI (op:CmpOp) (a b:Int):Option Bool:=match op with
 | .Eq=>some (a==b)
 | .NotEq=>some (a !=b)
 | .Lt=>some (decide (a<b))
 | .LtE=>some (decide (a≤b))
 | .Gt=>some (decide (b<a))
 | .GtE=>some (decide (b≤a))
 |_=>none
noncomputable def cmpS (op:CmpOp) (a b:List Nat):Option Bool:=match op with
 | .Eq=>some (a==b)
 | .NotEq=>some (a !=b)
 |_=>none
noncomputable def cmpop (op:CmpOp):SV→SV→Option Bool
 | .int a,.int b=>cmpI op a b
 | .str a,.str b=>cmpS op a b
 |_,_=>none
noncomputable def truth:SV→Option Bool
 | .bool b=>some b
 |_=>none
section
variable {w:World} {A:Around} {E:Value→Shared→Prop} {s:Shared}
theorem mod_of {a b:Int} {r:SV} {G:Prop} (h:(if b=0 then none else some (SV.int (a.fmod b)))=some r) (k:b≠0→r= .int (a.fmod b)→G):G:=by
 by_cases q:b=0
 ·rw[if_pos q] at h;exact nn h
 ·rw[if_neg q] at h;exact k q (Option.some.inj h).symm
theorem binI_ok {op:Operator} {x y:Int} {r:SV} {a b:Value} {Q:Value→Shared→Prop} (hx:SRel (.int x) a) (hy:SRel (.int y) b) (h:binI op x y=some r) (hq:∀ v tk,SRel r v→Q v { s with toks:=tk }):wpAny (model pw w) A (binaryOp op a b) Q E s:=by
 obtain⟨t,rfl⟩:=hx;obtain⟨u,rfl⟩:=hy
 have q:∀ {n t tk},r= .int n→Q (.int n t) { s with toks:=tk }:=fun e=>hq _ _ (e▸⟨_,rfl⟩)
 cases op with
 |Add=>exact P.add_int (q (Option.some.inj h).symm)
 |Sub=>exact P.sub_int (q (Option.some.inj h).symm)
 |Mod=>exact mod_of h fun hb e=>mod_int' hb (q e)
 |RShift=>exact if_of h fun hb e=>rshift_int hb (q e.symm)
 |_=>exact nn h
theorem binS_ok {op:Operator} {x y:List Nat} {r:SV} {a b:Value} {Q:Value→Shared→Prop} (hx:SRel (.str x) a) (hy:SRel (.str y) b) (h:binS op x y=some r) (hq:∀ v tk,SRel r v→Q v { s with toks:=tk }):wpAny (model pw w) A (binaryOp op a b) Q E s:=by
 obtain⟨t,rfl⟩:=hx;obtain⟨u,rfl⟩:=hy
 cases op with
 |Add=>exact if_of h fun hb e=>SB.add (fun t' k=>strL_app x y▸hq _ _ (e▸⟨_,rfl⟩)) (by rw[strL_len,strL_len];unfold sizeLine;lia)
 |_=>exact nn h
theorem two_cases {α:Type} {f:Int→Int→Option α} {g:List Nat→List Nat→Option α} {x y:SV} {r:α} {G:Prop} (h:(match x,y with | .int a,.int b=>f a b | .str a,.str b=>g a b |_,_=>none)=some r) (i:∀ a b,x= .int a→y= .int b→f a b=some r→G) (j:∀ a b,x= .str a→y= .str b→g a b=some r→G):G:=by
 cases x with
 |int a=>cases y with
  |int b=>exact i a b rfl rfl h
  |_=>exact nn h
 |str a=>cases y with
  |str b=>exact j a b rfl rfl h
  |_=>exact nn h
 |_=>exact nn h
theorem binop_ok {op:Operator} {x y r:SV} {a b:Value} {Q:Value→Shared→Prop} (hx:SRel x a) (hy:SRel y b) (h:binop op x y=some r) (hq:∀ v tk,SRel r v→Q v { s with toks:=tk }):wpAny (model pw w) A (binaryOp op a b) Q E s:=by
 refine two_cases (f:=binI op) (g:=binS op) h (fun m n e1 e2 h=> ?_) fun m n e1 e2 h=> ?_
 ·exact binI_ok (e1▸hx) (e2▸hy) h hq
 ·exact binS_ok (e1▸hx) (e2▸hy) h hq
theorem inop_ok {op:Operator} {x y r:SV} {a b:Value} {Q:Value→Shared→Prop} (hop:op= .Add∨op= .Sub) (hx:SRel x a) (hy:SRel y b) (h:binop op x y=some r) (hi:∃ n,r= .int n) (hq:∀ v tk,SRel r v→Q v { s with toks:=tk }):wpAny (model pw w) A (inplaceOp op a b) Q E s:=by
 obtain⟨n,rfl⟩:=hi
 refine two_cases (f:=binI op) (g:=binS op) h (fun m n e1 e2 h=> ?_) fun m n e1 e2 h=> ?_
 ·subst e1 e2;obtain⟨t,rfl⟩:=hx;obtain⟨u,rfl⟩:=hy
  rcases hop with rfl |rfl
  ·exact P.iadd_int (hq _ _ ((Option.some.inj h:SV.int _=_)▸⟨_,rfl⟩))
  ·exact P.isub_int (hq _ _ ((Option.some.inj h:SV.int _=_)▸⟨_,rfl⟩))
 ·rcases hop with rfl |rfl
  ·exact if_of h fun _ e=>nomatch e
  ·exact nn h
theorem cmpop_ok {op:CmpOp} {x y:SV} {r:Bool} {a b:Value} {Q:Value→Shared→Prop} (hx:SRel x a) (hy:SRel y b) (h:cmpop op x y=some r) (hq:Q (.bool r) s):wpAny (model pw w) A (compareOp op a b) Q E s:=by
 refine two_cases (f:=cmpI op) (g:=cmpS op) h (fun m n e1 e2 h=> ?_) fun m n e1 e2 h=> ?_
 ·subst e1 e2;obtain⟨t,rfl⟩:=hx;obtain⟨u,rfl⟩:=hy
  have q:∀ {b},some b=some r→Q (.bool b) s:=fun e=>Option.some.inj e▸hq
  cases op with
  |Eq=>exact P.eq_int (q h)
  |NotEq=>exact P.ne_int (q h)
  |Lt=>exact P.lt_int (q h)
  |LtE=>exact P.le_int (q h)
  |Gt=>exact P.gt_int (q h)
  |GtE=>exact P.ge_int (q h)
  |_=>exact nn h
 ·subst e1 e2;obtain⟨t,rfl⟩:=hx;obtain⟨u,rfl⟩:=hy
  have q:∀ {b},some b=some r→Q (.bool b) s:=fun e=>Option.some.inj e▸hq
  cases op with
  |Eq=>exact PyProof.Rows.eq_str (by rw[strL_beq];exact q h)
  |NotEq=>exact PyProof.Rows.ne_str (by rw[bne,strL_beq];exact q h)
  |_=>exact nn h
theorem truth_ok {x:SV} {r:Bool} {a:Value} {Q:Bool→Shared→Prop} (hx:SRel x a) (h:truth x=some r) (hq:Q r s):wpAny (model pw w) A (truthy a) Q E s:=by
 cases x with
 |bool b=>exact (hx:a=_)▸wpAny_truthy_bool ((Option.some.inj h:b=r)▸hq)
 |_=>exact nn h
end
noncomputable def simp1:MV→Option SV
 | .s v=>some v
 |_=>none
section
variable {sc:Scope} {d:Nat}
noncomputable abbrev fBin (op:Operator) (fa fb:EF):EF:=fun loc at_=>(fa loc at_).bind fun p=>(fb loc p.2).bind fun q=>(simp1 p.1).bind fun x=>(simp1 q.1).bind fun y=>(binop op x y).map fun r=>(.s r,q.2)
theorem simp1_eq {m:MV} {x:SV} (h:simp1 m=some x):m= .s x:=by
 cases m with
 |s v=>exact congrArg MV.s (Option.some.inj h)
 |_=>exact nn h
theorem bin_inv {α β:Type} {fa fb:EF} {loc:Loc} {at_ at':At} {op:SV→SV→Option α} {k:α→β} {r:β} {G:β→At→Prop} (hf:((fa loc at_).bind fun p=>(fb loc p.2).bind fun q=>(simp1 p.1).bind fun x=>(simp1 q.1).bind fun y=>(op x y).map fun r=>(k r,q.2))=some (r,at')) (g:∀ x y at1 at2 z,fa loc at_=some (.s x,at1)→fb loc at1=some (.s y,at2)→op x y=some z→G (k z) at2):G r at':=by
 refine ob2 hf ?_;clear hf;intro m1 at1 h1 hf
 refine ob2 hf ?_;clear hf;intro m2 at2 h2 hf
 refine ob1 hf ?_;clear hf;intro x h3 hf
 refine ob1 hf ?_;clear hf;intro y h4 hf
 refine op1 hf ?_;clear hf;intro z h5
 exact g x y at1 at2 z (simp1_eq h3▸h1) (simp1_eq h4▸h2) h5
theorem E_bin {l r:Expr} {op:Operator} {pos:Pos} {fa fb:EF} (ha:SoundE sc d l fa) (hb:SoundE sc d r fb):SoundE sc d (.BinOp l op r pos) (fBin op fa fb):=by
 intro c O loc at_ s r' at' E S hf
 exact bin_inv (G:=fun r' at'=>wpAny _ _ _ (QE c loc r' at' s) E s) hf fun x y at1 at2 z h1 h2 h5=>wpAny_BinOp (ha.use O S h1 fun v s₁ hv P=>hb.use O P.1 h2 fun v' s₂ hv' P'=>binop_ok hv hv' h5 fun v tk hv=>⟨hv,P.trans (P'.trans (Post.tok P'.1))⟩)
noncomputable abbrev fCmp (op:CmpOp) (fa fb:EF):CF:=fun loc at_=>(fa loc at_).bind fun p=>(fb loc p.2).bind fun q=>(simp1 p.1).bind fun x=>(simp1 q.1).bind fun y=>(cmpop op x y).map fun r=>(r,q.2)
theorem cmp_core {l r:Expr} {op:CmpOp} {fa fb:EF} (ha:SoundE sc d l fa) (hb:SoundE sc d r fb) {c:Cx} (O:c.Ok sc d) {loc:Loc} {at_:At} {s:Shared} {z:Bool} {at':At} {E Q:Value→Shared→Prop} (S:St c loc at_ s) (hf:fCmp op fa fb loc at_=some (z,at'))
  (hq:∀ s',Post true c loc at' s s'→Q (.bool z) s'):wpAny (model pw c.w) c.A (eval l c.env) (fun a s₁=>wpAny (model pw c.w) c.A (eval r c.env) (fun b s₂=>wpAny (model pw c.w) c.A (compareOp op a b) Q E s₂) E s₁) E s:=
 bin_inv (G:=fun z at'=>(∀ s',Post true c loc at' s s'→Q (.bool z) s')→_) hf (fun x y at1 at2 z h1 h2 h5 hq=>ha.use O S h1 fun v s₁ hv P=>hb.use O P.1 h2 fun v' s₂ hv' P'=>cmpop_ok hv hv' h5 (hq _ (P.trans P'))) hq
theorem C_cmp {l r:Expr} {op:CmpOp} {pos:Pos} {fa fb:EF} (ha:SoundE sc d l fa) (hb:SoundE sc d r fb) (hm:behindInMarks op r=false:=by rfl):SoundC sc d (.Compare l [op] [r] pos) (fCmp op fa fb):=
 fun _ O _ _ _ _ _ _ S hf=>wpAny_isTrue_Compare1 (cmp_core ha hb O S hf fun _ P=>wpAny_truthy_bool ⟨rfl,P⟩) hm
noncomputable abbrev bool1 (f:CF):EF:=fun loc at_=>(f loc at_).map fun p=>(.s (.bool p.1),p.2)
theorem E_cmp {l r:Expr} {op:CmpOp} {pos:Pos} {fa fb:EF} (ha:SoundE sc d l fa) (hb:SoundE sc d r fb) (hm:behindInMarks op r=false:=by rfl):SoundE sc d (.Compare l [op] [r] pos) (bool1 (fCmp op fa fb)):=by
 intro c O loc at_ s r' at' E S hf
 refine op2 hf fun b at3 hg=>wpAny_Compare1 (cmp_core ha hb O S hg fun _ P=>⟨rfl,P⟩) hm
noncomputable abbrev fTruth (f:EF):CF:=fun loc at_=>(f loc at_).bind fun p=>(simp1 p.1).bind fun x=>(truth x).map fun b=>(b,p.2)
theorem obS {α:Type} {f:Option (MV×At)} {g:SV→At→Option α} {r:α} {G:Prop} (hf:(f.bind fun p=>(simp1 p.1).bind fun x=>g x p.2)=some r) (k:∀ x at1,f=some (.s x,at1)→g x at1=some r→G):G:=by
 refine ob2 hf ?_;clear hf;intro m1 at1 h1 hf
 refine ob1 hf ?_;clear hf;intro x h3 hf
 have e:m1= .s x:=simp1_eq h3
 exact k x at1 (e▸h1) hf
theorem C_val {e:Expr} {f:EF} (h:SoundE sc d e f) (he:∀ env whole,isTrue e env whole=(do let v ←whole;standAt e.pos;holding [v] (truthy v)):=by intro _ _;rfl):SoundC sc d e (fTruth f):=
 fun _ O _ _ _ _ _ _ S hf=>obS (g:=fun x a=>(truth x).map fun b=>(b,a)) hf fun _ _ h1 hf=>op1 hf fun _ h5=>wpAny_isTrue_value (h.use O S h1 fun _ _ hv P=>truth_ok hv h5 ⟨rfl,P⟩) (he _ _)
noncomputable abbrev fNot (f:CF):CF:=fun loc at_=>(f loc at_).map fun p=>(!p.1,p.2)
theorem C_not {e:Expr} {pos:Pos} {f:CF} (h:SoundC sc d e f):SoundC sc d (.UnaryOp .Not e pos) (fNot f):=by
 intro c O loc at_ s r' at' E S hf
 exact op2 hf fun b at1 h1=>wpAny_isTrue_Not (h.use O S h1 fun s₁ P=>⟨rfl,P⟩)
noncomputable abbrev fOr (f g:CF):CF:=fun loc at_=>(f loc at_).bind fun p=>if p.1 then some (true,p.2) else g loc p.2
noncomputable abbrev fAnd (f g:CF):CF:=fun loc at_=>(f loc at_).bind fun p=>if p.1 then g loc p.2 else some (false,p.2)
theorem tr_inv {α:Type} {f:CF} {loc:Loc} {at_:At} {x y:At→Option α} {r:α} {G:Prop} (hf:((f loc at_).bind fun p=>if p.1 then x p.2 else y p.2)=some r) (t:∀ at1,f loc at_=some (true,at1)→x at1=some r→G) (e:∀ at1,f loc at_=some (false,at1)→y at1=some r→G):G:=by
 refine ob2 hf ?_;clear hf;intro b at1 h1 hf
 cases b with
 |true=>exact t at1 h1 hf
 |false=>exact e at1 h1 hf
theorem C_or {x y:Expr} {pos:Pos} {f g:CF} (hx:SoundC sc d x f) (hy:SoundC sc d y g):SoundC sc d (.BoolOp .Or [x,y] pos) (fOr f g):=by
 intro c O loc at_ s r' at' E S hf
 refine tr_inv (x:=fun a=>some (true,a)) (y:=g loc) hf (fun at1 h1 hf=>oe2 hf (wpAny_isTrue_BoolOp (wpAny_allTrue_Or_cons (hx.use O S h1 fun s₁ P=>⟨rfl,P⟩)))) fun at1 h1 hf=>wpAny_isTrue_BoolOp (wpAny_allTrue_Or_cons (hx.use O S h1 fun s₁ P=>wpAny_allTrue_Or_cons (hy.use O P.1 hf fun s₂ P'=> ?_)))
 cases r' with
 |true=>exact⟨rfl,P.trans P'⟩
 |false=>exact wpAny_allTrue_Or_nil ⟨rfl,P.trans P'⟩
theorem C_and {x y:Expr} {pos:Pos} {f g:CF} (hx:SoundC sc d x f) (hy:SoundC sc d y g):SoundC sc d (.BoolOp .And [x,y] pos) (fAnd f g):=by
 intro c O loc at_ s r' at' E S hf
 refine tr_inv (x:=g loc) (y:=fun a=>some (false,a)) hf (fun at1 h1 hf=>wpAny_isTrue_BoolOp (wpAny_allTrue_And_cons (hx.use O S h1 fun s₁ P=>wpAny_allTrue_And_cons (hy.use O P.1 hf fun s₂ P'=> ?_)))) fun at1 h1 hf=>oe2 hf (wpAny_isTrue_BoolOp (wpAny_allTrue_And_cons (hx.use O S h1 fun s₁ P=>⟨rfl,P⟩)))
 cases r' with
 |false=>exact⟨rfl,P.trans P'⟩
 |true=>exact wpAny_allTrue_And_nil ⟨rfl,P.trans P'⟩
theorem obI {α:Type} {f:Option (MV×At)} {g:Int→At→Option α} {r:α} {G:Prop} (hf:(f.bind fun p=>match p.1 with | .s (.int n)=>g n p.2 |_=>none)=some r) (k:∀ n at1,f=some (.s (.int n),at1)→g n at1=some r→G):G:=by
 refine ob2 hf ?_;clear hf;intro m at1 h1 hf
 cases m with
 |s v=>cases v with
  |int n=>exact k n at1 h1 hf
  |_=>exact nn hf
 |_=>exact nn hf
theorem obB {α:Type} {f:Option (MV×At)} {x y:At→Option α} {r:α} {G:Prop} (hf:(f.bind fun p=>match p.1 with | .s (.bool true)=>x p.2 | .s (.bool false)=>y p.2 |_=>none)=some r) (t:∀ at1,f=some (.s (.bool true),at1)→x at1=some r→G) (e:∀ at1,f=some (.s (.bool false),at1)→y at1=some r→G):G:=by
 refine ob2 hf ?_;clear hf;intro m at1 h1 hf
 cases m with
 |s v=>cases v with
  |bool b=>cases b with
   |true=>exact t at1 h1 hf
   |false=>exact e at1 h1 hf
  |_=>exact nn hf
 |_=>exact nn hf
theorem obBb {α:Type} {f:Option (MV×At)} {g:Bool→At→Option α} {r:α} {G:Prop} (hf:(f.bind fun p=>match p.1 with | .s (.bool b)=>g b p.2 |_=>none)=some r) (k:∀ b at1,f=some (.s (.bool b),at1)→g b at1=some r→G):G:=by
 refine ob2 hf ?_;clear hf;intro m at1 h1 hf
 cases m with
 |s v=>cases v with
  |bool b=>exact k b at1 h1 hf
  |_=>exact nn hf
 |_=>exact nn hf
noncomputable abbrev fNeg (f:EF):EF:=fun loc at_=>(f loc at_).bind fun p=>match p.1 with | .s (.int n)=>some (.s (.int (-n)),p.2) |_=>none
theorem E_neg {e:Expr} {pos:Pos} {f:EF} (h:SoundE sc d e f):SoundE sc d (.UnaryOp .USub e pos) (fNeg f):=by
 intro c O loc at_ s r' at' E S hf
 refine obI (g:=fun n a=>some (MV.s (.int (-n)),a)) hf fun n at1 h1 hf=>oe2 hf (wpAny_UnaryOp (h.use O S h1 fun v s₁ hv P=> ?_))
 obtain⟨t,rfl⟩:=hv
 exact PySem.P.neg_int ⟨⟨_,rfl⟩,P.trans (Post.tok P.1)⟩
noncomputable abbrev fIf (t:CF) (f g:EF):EF:=fun loc at_=>(t loc at_).bind fun p=>if p.1 then f loc p.2 else g loc p.2
theorem E_ifexp {t x y:Expr} {pos:Pos} {ft:CF} {f g:EF} (ht:SoundC sc d t ft) (hx:SoundE sc d x f) (hy:SoundE sc d y g):SoundE sc d (.IfExp t x y pos) (fIf ft f g):=by
 intro c O loc at_ s r' at' E S hf
 exact tr_inv (x:=f loc) (y:=g loc) hf (fun at1 h1 hf=>wpAny_IfExp (ht.use O S h1 fun s₁ P=>hx.use O P.1 hf fun v s₂ hv P'=>⟨hv,P.trans P'⟩)) fun at1 h1 hf=>wpAny_IfExp (ht.use O S h1 fun s₁ P=>hy.use O P.1 hf fun v s₂ hv P'=>⟨hv,P.trans P'⟩)
theorem E_and {x y:Expr} {pos:Pos} {f g:EF} (hx:SoundE sc d x f) (hy:SoundE sc d y g):SoundE sc d (.BoolOp .And [x,y] pos) (fun loc at_=>(f loc at_).bind fun p=>match p.1 with | .s (.bool true)=>g loc p.2 | .s (.bool false)=>some (.s (.bool false),p.2) |_=>none):=by
 intro c O loc at_ s r' at' E S hf
 refine obB (x:=g loc) (y:=fun a=>some (MV.s (.bool false),a)) hf (fun at1 h1 hf=>wpAny_And2 (hx.use O S h1 fun v s₁ hv P=> ?_)) fun at1 h1 hf=>oe2 hf (wpAny_And2 (hx.use O S h1 fun v s₁ hv P=> ?_))
 ·cases hv
  exact wpAny_truthy_bool (hy.use O P.1 hf fun v s₂ hv P'=>⟨hv,P.trans P'⟩)
 ·cases hv
  exact wpAny_truthy_bool ⟨rfl,P⟩
theorem E_or {x y:Expr} {pos:Pos} {f g:EF} (hx:SoundE sc d x f) (hy:SoundE sc d y g):SoundE sc d (.BoolOp .Or [x,y] pos) (fun loc at_=>(f loc at_).bind fun p=>match p.1 with | .s (.bool true)=>some (.s (.bool true),p.2) | .s (.bool false)=>g loc p.2 |_=>none):=by
 intro c O loc at_ s r' at' E S hf
 refine obB (x:=fun a=>some (MV.s (.bool true),a)) (y:=g loc) hf (fun at1 h1 hf=>oe2 hf (wpAny_Or2 (hx.use O S h1 fun v s₁ hv P=> ?_))) fun at1 h1 hf=>wpAny_Or2 (hx.use O S h1 fun v s₁ hv P=> ?_)
 ·cases hv
  exact wpAny_truthy_bool (hy.use O P.1 hf fun v s₂ hv P'=>⟨hv,P.trans P'⟩)
 ·cases hv
  exact wpAny_truthy_bool ⟨rfl,P⟩
theorem E_not {e:Expr} {pos:Pos} {f:EF} (h:SoundE sc d e f):SoundE sc d (.UnaryOp .Not e pos) (fun loc at_=>(f loc at_).bind fun p=>match p.1 with | .s (.bool b)=>some (.s (.bool (!b)),p.2) |_=>none):=by
 intro c O loc at_ s r' at' E S hf
 refine obBb (g:=fun b a=>some (MV.s (.bool (!b)),a)) hf fun b at1 h1 hf=>oe2 hf (wpAny_UnaryOp (h.use O S h1 fun v s₁ hv P=> ?_))
 cases hv
 exact not_value (wpAny_truthy_bool ⟨rfl,P⟩)
end
end
section
noncomputable def clipN (n:Nat) (d:Nat):Option Int→Nat
 |none=>d
 |some i=>(max 0 (min (if i<0 then i+n else i) n)).toNat
noncomputable def sliceL (l:List Nat) (lo hi:Option Int):List Nat:=(l.drop (clipN l.length 0 lo)).take (clipN l.length l.length hi-clipN l.length 0 lo)
noncomputable def itemL (l:List Nat) (i:Int):Option (List Nat):=(seqIndex? i l.length).bind fun j=>(l[j]?).map fun c=>[c]
noncomputable def endsL (l m:List Nat):Bool:=m.isSuffixOf l
inductive VRels (w:World) (X:Option Addr) (ex:List Addr) (h:Heap):List MV→List Value→Prop
 |nil:VRels w X ex h [] []
 |cons {x xs v vs}:VRel w X ex h x v→VRels w X ex h xs vs→VRels w X ex h (x::xs) (v::vs)
noncomputable abbrev Cx.Vs (c:Cx) (h:Heap) (xs:List MV) (vs:List Value):Prop:=VRels c.w c.oX c.ex h xs vs
noncomputable abbrev AF:=Loc→At→Option (List MV×At)
noncomputable abbrev QA (c:Cx) (loc:Loc) (r:List MV) (at':At) (s:Shared):List Value→Shared→Prop:=fun vs s'=>c.Vs s'.heap r vs∧Post true c loc at' s s'
noncomputable def SoundA (sc:Scope) (d:Nat) (args:List Expr) (f:AF):Prop:=
 (∀ env,(starEach args env).any (·.1)=false)∧
 ∀ (c:Cx),c.Ok sc d→∀ (pos:Pos) (loc:Loc) (at_:At) (s:Shared) (r:List MV) (at':At) (E:Value→Shared→Prop),St c loc at_ s→f loc at_=some (r,at')→
  wpAny (model pw c.w) c.A (spliced (backTo pos (starEach args c.env))) (QA c loc r at' s) E s
theorem SoundA.use {sc:Scope} {d:Nat} {e:List Expr} {f:AF} (h:SoundA sc d e f) {c:Cx} (O:c.Ok sc d) {pos:Pos} {loc:Loc} {at_ at':At} {s:Shared} {r:List MV} {Q:List Value→Shared→Prop} {E:Value→Shared→Prop} (S:St c loc at_ s) (hf:f loc at_=some (r,at')) (k:∀ v s',c.Vs s'.heap r v→Post true c loc at' s s'→Q v s'):wpAny (model pw c.w) c.A (spliced (backTo pos (starEach e c.env))) Q E s:=
 wpAny_mono (h.2 c O pos loc at_ s r at' E S hf) (fun v s' x=>k v s' x.1 x.2) fun _ _ x=>x
theorem backTo_any {pos:Pos}:∀ {l:List (Bool×Sem Value)},(backTo pos l).any (·.1)=l.any (·.1)
 | []=>rfl
 |(b,t)::r=>by
  show (b||(backTo pos r).any (·.1))=(b||r.any (·.1))
  rw[backTo_any]
section
variable {sc:Scope} {d:Nat}
theorem A_nil:SoundA sc d [] (fun _ at_=>some ([],at_)):=⟨fun _=>rfl,by
 intro c O pos loc at_ s r at' E S hf
 first |refine oe2 hf ?_ |refine oe3 hf ?_ |injection hf
 exact spliced_nil ⟨.nil,Post.refl S⟩⟩
theorem A_cons {e:Expr} {rest:List Expr} {f:EF} {g:AF} (hx:SoundE sc d e f) (hr:SoundA sc d rest g) (he:∀ env,starEach (e::rest) env=(false,eval e env)::starEach rest env:=by intro _;rfl):
  SoundA sc d (e::rest) (fun loc at_=>(f loc at_).bind fun p=>(g loc p.2).map fun q=>(p.1::q.1,q.2)):=⟨fun env=>by rw[he,List.any_cons,hr.1 env];rfl,by
 intro c O pos loc at_ s r at' E S hf
 refine ob2 hf ?_;clear hf;intro m1 at1 h1 hf
 refine op2 hf ?_;clear hf;intro m2 at2 h2
 rw[he]
 exact spliced_cons (hx.use O S h1 fun v s₁ hv P=>hr.use O P.1 h2 fun vs s₂ hvs P'=>⟨.cons (hv.keep P'.2) hvs,P.trans P'⟩)⟩
theorem cps_inj {x k:Str} (e:x.cps.toList=k.cps.toList):x=k:=by
 cases x;cases k
 exact congrArg Str.mk (Array.toList_inj.mp e)
theorem cps_contains (l:List Str) (k:Str):(l.map (·.cps.toList)).contains k.cps.toList=l.contains k:=by
 rw[Bool.eq_iff_iff,List.contains_iff_mem,List.contains_iff_mem,List.mem_map]
 exact⟨fun⟨x,hx,e⟩=>cps_inj e▸hx,fun hk=>⟨k,hk,rfl⟩⟩
theorem St.baseSet {c:Cx} {loc:Loc} {at_:At} {s:Shared} (S:St c loc at_ s) {a:Addr} {l:List Str} {n:Nat} (h:c.base.SetOf (strKind pw c.w) a (fun k=>l.contains k) n):
  c.V s.heap (.set (l.map (·.cps.toList))) (.ref a):=by
 refine⟨a,n,rfl,fun q=> ?_,?_⟩
 ·obtain⟨o,_,_,_,e,_⟩:=h
  exact Heap.ne_of_none e (S.exFresh q) rfl
 ·rw[funext (cps_contains l)]
  exact setKeep S.stays h
noncomputable def vA:List (List Nat):=vowA.map (·.cps.toList)
noncomputable def vI:List (List Nat):=vowI.map (·.cps.toList)
noncomputable def vJ:List (List Nat):=vowJ.map (·.cps.toList)
noncomputable def tabVal:List (Str×Addr):=[("a_0",338),("a_1",348),("a_2",358),("a_3",374),("a_4",393),("a_5",406)]
theorem tab_ok:∀ P,tabVal.all (fun p=>match findCls (KV P) (.ref 409) (.type "type") p.1 with |some (.val v)=>v== .ref p.2 |_=>false)=true:=by intro P;kernel_rfl
theorem cls_reads:∀ P,readsIn (KV P) 409 (.type "type")=true:=by intro P;kernel_rfl
noncomputable abbrev setObj (es:Array (Int×Value)) (ep:Nat) (t:SetTable):Obj:=⟨.type "set",none,.set es ep t,#[]⟩
noncomputable def setVal:List (Str×Addr):=[("g_v",232),("g_v_I",233),("g_v_j",234)]
noncomputable def KS (P:Params) (a:Addr) (es:Array (Int×Value)) (ep:Nat) (t:SetTable):Frag:=(a,setObj es ep t)::KV P
theorem gv_ok:∀ P es ep t,(match findCls (KS P 232 es ep t) (.ref 409) (.type "type") "g_v" with |some (.val v)=>v== .ref 232 |_=>false)=true:=by intro P es ep t;kernel_rfl
theorem gvI_ok:∀ P es ep t,(match findCls (KS P 233 es ep t) (.ref 409) (.type "type") "g_v_I" with |some (.val v)=>v== .ref 233 |_=>false)=true:=by intro P es ep t;kernel_rfl
theorem gvj_ok:∀ P es ep t,(match findCls (KS P 234 es ep t) (.ref 409) (.type "type") "g_v_j" with |some (.val v)=>v== .ref 234 |_=>false)=true:=by intro P es ep t;kernel_rfl
theorem gv_reads:∀ P es ep t a,a=232∨a=233∨a=234→readsIn (KS P a es ep t) 409 (.type "type")=true:=by
 intro P es ep t a h
 rcases h with rfl |rfl |rfl<;>kernel_rfl
theorem glob_stem:∀ P,nsIn (KV P) mainGlobals "DutchPorterStemmer"=some (some (.ref 409)):=by intro P;kernel_rfl
theorem name_glob {A:Around} {c:Cx} (O:c.Ok sc d) {loc:Loc} {at_:At} {s:Shared} (S:St c loc at_ s) {x:Str} {pos:Pos} {v:Value} {E:Value→Shared→Prop} {Q:Value→Shared→Prop} (hk:sc.names.lookup x=some .globalImplicit) (hd:(x==("__debug__":Str))=false)
  (e:nsIn (KV c.w.params) mainGlobals x=some (some v)) (h:Q v s):wpAny (model pw c.w) A (eval (.Name x pos) c.env) Q E s:=by
 have T:=S.TR O
 have sco:=O.scope
 refine Name_function_global (by rw[sco];exact O.kind) (by unfold Env.kindOf;rw[sco];exact hk) (loadGlobal_global (by rw[O.gl];exact T.g) (mg_of (S.K O) T.g e) h) hd
theorem name_builtin {A:Around} {c:Cx} (O:c.Ok sc d) {loc:Loc} {at_:At} {s:Shared} (S:St c loc at_ s) {x:Str} {pos:Pos} {v:Value} {E:Value→Shared→Prop} {Q:Value→Shared→Prop} (hk:sc.names.lookup x=some .globalImplicit) (hd:(x==("__debug__":Str))=false)
  (e:nsIn (KV c.w.params) mainGlobals x=some none) (hv:bootBuiltins x=some v) (hn:x≠"__name__") (h:Q v s):wpAny (model pw c.w) A (eval (.Name x pos) c.env) Q E s:=by
 have T:=S.TR O
 have sco:=O.scope
 refine Name_function_global (by rw[sco];exact O.kind) (by unfold Env.kindOf;rw[sco];exact hk)
  (loadGlobal_builtin (by rw[O.gl];exact T.g) (mg_none_of (S.K O) T.g e) (by rw[O.bl];exact T.b) ((T.builtins x hn).trans hv) h) hd
theorem KS_in {P:Params} {h:Heap} {a:Addr} {es:Array (Int×Value)} {ep:Nat} {t:SetTable} (X:(KV P).In h) (e:h.get? a=some (setObj es ep t)):(KS P a es ep t).In h:=by
 intro b o q
 unfold KS at q
 rw[List.lookup_cons] at q
 cases z:b==a with
 |true=>
  rw[z] at q
  exact beq_iff_eq.mp z▸Option.some.inj q▸e
 |false=>
  rw[z] at q
  exact X b o q
theorem set_shape {h:Heap} {w:World} {a:Addr} {S:Str→Bool} {n:Nat} (x:h.SetOf (strKind pw w) a S n):∃ es ep t,h.get? a=some (setObj es ep t):=by
 obtain⟨o,es,ep,t,e,⟨h1,h2,h3⟩,h4,_⟩:=x
 have q:o=setObj es ep t:=by
  cases o
  cases h1;cases h2;cases h3;cases h4
  rfl
 exact⟨es,ep,t,q▸e⟩
theorem val_eq {o:Option CFound} {a:Addr} (h:(match o with |some (.val v)=>v== .ref a |_=>false)=true):o=some (.val (.ref a)):=by
 cases o with
 |none=>cases h
 |some f=>cases f with
  |val v=>exact congrArg (fun v=>some (CFound.val v)) (beq_iff_eq.mp h)
  |_=>cases h
theorem E_tab {nm:Str} {a:Addr} {np pos:Pos} {rows:List Row} (hm:(nm,a)∈tabVal) (hr:(a,rows)∈tabRows) (hk:sc.names.lookup ("DutchPorterStemmer":Str)=some .globalImplicit):
  SoundE sc d (.Attribute (.Name "DutchPorterStemmer" np) nm pos) (fun _ at_=>some (.tab rows,at_)):=by
 intro c O loc at_ s r at' E S hf
 first |refine oe2 hf ?_ |refine oe3 hf ?_ |injection hf
 refine Attribute_name (name_glob O S hk (by decide) (glob_stem _) ?_)
 have ok:=List.all_eq_true.mp (tab_ok c.w.params) _ hm
 dsimp only at ok
 exact cls_value (S.K O) (cls_reads _) (val_eq ok) rfl ⟨⟨a,rfl,hr⟩,Post.tok S⟩
theorem E_gvx {nm:Str} {a:Addr} {l:List Str} {n:Nat} {np pos:Pos} (hb:∀ w h,SetsAt w h→h.SetOf (strKind pw w) a (fun k=>l.contains k) n) (ha:a=232∨a=233∨a=234)
  (hf:∀ P es ep t,(match findCls (KS P a es ep t) (.ref 409) (.type "type") nm with |some (.val v)=>v== .ref a |_=>false)=true) (hk:sc.names.lookup ("DutchPorterStemmer":Str)=some .globalImplicit):
  SoundE sc d (.Attribute (.Name "DutchPorterStemmer" np) nm pos) (fun _ at_=>some (.set (l.map (·.cps.toList)),at_)):=by
 intro c O loc at_ s r at' E S h
 injection h
 refine Attribute_name (name_glob O S hk (by decide) (glob_stem _) ?_)
 have hB:=hb _ _ O.base.S
 obtain⟨es,ep,t,e⟩:=set_shape (setKeep S.stays hB)
 have ok:=hf c.w.params es ep t
 exact cls_value (KS_in (S.K O) e) (gv_reads _ _ _ _ _ ha) (val_eq ok) rfl ⟨S.baseSet hB,Post.tok S⟩
theorem E_gv {np pos:Pos} (hk:sc.names.lookup ("DutchPorterStemmer":Str)=some .globalImplicit):SoundE sc d (.Attribute (.Name "DutchPorterStemmer" np) "g_v" pos) (fun _ at_=>some (.set vA,at_)):=E_gvx (fun _ _ h=>h.a) (by decide) gv_ok hk
theorem E_gvI {np pos:Pos} (hk:sc.names.lookup ("DutchPorterStemmer":Str)=some .globalImplicit):SoundE sc d (.Attribute (.Name "DutchPorterStemmer" np) "g_v_I" pos) (fun _ at_=>some (.set vI,at_)):=E_gvx (fun _ _ h=>h.i) (by decide) gvI_ok hk
theorem E_gvj {np pos:Pos} (hk:sc.names.lookup ("DutchPorterStemmer":Str)=some .globalImplicit):SoundE sc d (.Attribute (.Name "DutchPorterStemmer" np) "g_v_j" pos) (fun _ at_=>some (.set vJ,at_)):=E_gvx (fun _ _ h=>h.j) (by decide) gvj_ok hk
theorem strKind_is' {w:World} {x:Str} {t:Tok}:(strKind pw w).is x (.str x t)=true:=strKind_is pw w x t
end
end
section
theorem endsL_eq (l m:List Nat):Txt.endswith (strL l) (strL m)=endsL l m:=by
 have e:Txt.endswith (strL l) (strL m)=(decide (0+m.length≤l.length)&&((l.drop (l.length-m.length)).take m.length==m)):=by
  show (decide (0+(strL m).length≤(strL l).length)&&Builtin.Str.subAt (strL l) (strL m) ((strL l).length-(strL m).length))=_
  rw[strL_len,strL_len]
  congr 1
  unfold Builtin.Str.subAt
  rw[strL_len,Bool.eq_iff_iff,beq_iff_eq,beq_iff_eq]
  have:((strL l).cps.extract (l.length-m.length) (l.length-m.length+m.length)).toList=(l.drop (l.length-m.length)).take m.length:=by
   simp[strL,List.extract_eq_drop_take]
  rw[←this]
  constructor
  ·intro h;rw[h]
  ·intro h
   apply Array.toList_inj.mp
   rw[h]
 rw[e]
 unfold endsL
 rw[Bool.eq_iff_iff]
 simp only[Bool.and_eq_true,decide_eq_true_eq,beq_iff_eq,List.isSuffixOf_iff_suffix]
 constructor
 ·rintro⟨h1,h2⟩
  rw[←h2]
  rw[List.take_of_length_le (by rw[List.length_drop,Nat.sub_sub_self (Nat.zero_add m.length▸h1)];exact Nat.le_refl _)]
  exact List.drop_suffix _ _
 ·rintro⟨t,rfl⟩
  simp
theorem sliceRange_nat (a b:Nat):sliceRange (a:Int) (b:Int) 1=(List.range (b-a)).map (fun k=>a+k):=by
 have e3:(((b:Int)-a+1-1) / 1).toNat=b-a:=by rw[Int.add_sub_cancel,Int.ediv_one,Int.toNat_sub]
 have e4:∀ k∈List.range (b-a),((a:Int)+1*(k:Int)).toNat=a+k:=fun k _=>by rw[Int.one_mul];exact Int.toNat_natCast (a+k)
 unfold sliceRange
 simp only[show ((1:Int)>0)=True from by simp,if_true]
 by_cases hlt:(a:Int)<b
 ·simp only[hlt,if_true,e3]
  exact List.map_congr_left e4
 ·have:b-a=0:=by lia
  simp[hlt,this]
theorem clip_cast (n dn:Nat) (v:Option Int):(match v with
  |none=>(dn:Int)
  |some i=>
   let i:=if i<0 then i+n else i
   if (1:Int)>0 then max 0 (min i n) else max (-1) (min i (n-1)))=((clipN n dn v:Nat):Int):=by
 cases v with
 |none=>rfl
 |some i=>exact (Int.toNat_of_nonneg (Int.le_max_left 0 _)).symm
theorem clipN_le {n dn:Nat} (h:dn≤n) (v:Option Int):clipN n dn v≤n:=by
 cases v with
 |none=>exact h
 |some i=>exact Int.toNat_le.mpr (Int.max_le.mpr ⟨Int.natCast_nonneg n,Int.min_le_right _ _⟩)
theorem indices_eq (lo hi:Option Int) (n:Nat):Builtin.Str.strSliceIndices lo hi 1 n=(List.range (clipN n n hi-clipN n 0 lo)).map (fun k=>clipN n 0 lo+k):=by
 rw[←sliceRange_nat]
 unfold Builtin.Str.strSliceIndices
 have h1:=clip_cast n 0 lo
 have h2:=clip_cast n n hi
 simp only[show ((1:Int)>0)=True from by simp,if_true] at h1 h2 ⊢
 congr 1
theorem clip_range (lo hi:Option Int) (l:List Nat):((Builtin.Str.strSliceIndices lo hi 1 l.length).filterMap ((strL l).cps[·]?))=sliceL l lo hi:=by
 rw[indices_eq]
 unfold sliceL
 have b2:clipN l.length l.length hi≤l.length:=clipN_le (Nat.le_refl _) hi
 by_cases h:clipN l.length 0 lo≤clipN l.length l.length hi
 ·have:=StrLaws.picks l (clipN l.length l.length hi-clipN l.length 0 lo) (clipN l.length 0 lo) (by lia)
  simpa[strL] using this
 ·have h':clipN l.length l.length hi-clipN l.length 0 lo=0:=by lia
  rw[h']
  simp
section
variable {sc:Scope} {d:Nat}
theorem tabObj_ok:∀ P,tabOf.map (fun p=>(KV P).lookup p.1)=tabOf.map (fun p=>some ⟨.type "list",none,.seq (p.2.map Value.ref).toArray 0,#[]⟩):=by intro P;kernel_rfl
theorem tab_get {P:Params} {h:Heap} (X:(KV P).In h) {t:Addr} {rows:List Row} (m:(t,rows)∈tabRows):∃ refs:List Addr,h.IsList t (refs.map Value.ref).toArray∧(t,refs)∈tabOf∧rows=refs.map fun a=>(amOf.lookup a).getD ([],0,0):=by
 unfold tabRows at m
 obtain⟨⟨t',refs⟩,hm,e⟩:=List.mem_map.mp m
 injection e
 refine⟨refs,?_,hm,rfl⟩
 have:=List.map_inj_left.mp (tabObj_ok P) _ hm
 exact⟨_,X _ _ this,rfl,0,rfl⟩
noncomputable def srB (x:SV) (v:Value):Bool:=match x with
 | .int n=>(match v with | .int m _=>n==m |_=>false)
 | .str x=>(match v with | .str y _=>y==strL x |_=>false)
 |_=>false
theorem val_str {v:Value} {f:Str→Bool} {G:Prop} (h:(match v with | .str y _=>f y |_=>false)=true) (k:∀ y t,v= .str y t→f y=true→G):G:=by
 cases v with
 |str y t=>exact k y t rfl h
 |_=>exact ff h
theorem val_int {v:Value} {f:Int→Bool} {G:Prop} (h:(match v with | .int y _=>f y |_=>false)=true) (k:∀ y t,v= .int y t→f y=true→G):G:=by
 cases v with
 |int y t=>exact k y t rfl h
 |_=>exact ff h
theorem srB_ok {x:SV} {v:Value} (h:srB x v=true):SRel x v:=by
 cases x with
 |int n=>exact val_int h fun y t e q=>⟨t,(beq_iff_eq.mp q:n=y)▸e⟩
 |str l=>exact val_str h fun y t e q=>⟨t,(beq_iff_eq.mp q:y=_)▸e⟩
 |_=>exact ff h
noncomputable def erB:List Str→At→List DictEntry→Bool
 | [],at_,es=>at_.isEmpty&&es.isEmpty
 |nm::ns,at_,es=>match at_ with
  | []=>es.isEmpty
  |sv::at_=>match es with
   | []=>false
   |e::es=>(match e.key with | .str y _=>y==nm |_=>false)&&(srB sv e.val&&erB ns at_ es)
theorem erB_ok:∀ {ns:List Str} {at_:At} {es:List DictEntry},erB ns at_ es=true→ER ns at_ es:=by
 intro ns
 induction ns with
 |nil=>
  intro at_ es h
  refine and_tt h fun h1 h2=> ?_
  rw[List.isEmpty_iff.mp h1,List.isEmpty_iff.mp h2]
  exact .nil
 |cons nm ns ih=>
  intro at_ es h
  cases at_ with
  |nil=>rw[List.isEmpty_iff.mp h];exact .nil
  |cons sv at_=>cases es with
   |nil=>exact ff h
   |cons e es=>exact and_tt h fun h1 h2=>and_tt h2 fun h2 h3=>val_str h1 fun y t q h1=>.cons (q.trans (congrArg (Value.str · t) (beq_iff_eq.mp h1))) (srB_ok h2) (ih h3)
noncomputable abbrev amNames:List Str:=["s","substring_i","result"]
noncomputable def amAt (r:Row):At:=[.str r.1,.int r.2.1,.int r.2.2]
theorem amObj_ok:∀ P,amOf.map (fun p=>(KV P).lookup p.1)=amOf.map (fun p=>some (⟨.ref 220,some (p.1-1),.plain,#[]⟩:Obj)):=by intro P;kernel_rfl
noncomputable def dictLook (o:Option Obj) (r:Row):Bool:=match o with
 |some o=>(o.cls== .type "dict"&&(o.dict==none&&o.slots== #[]))&&(match o.data with | .dict es _=>erB amNames (amAt r) es.toList |_=>false)
 |none=>false
theorem dat_dict {d:Data} {f:Array DictEntry→Bool} {G:Prop} (h:(match d with | .dict es _=>f es |_=>false)=true) (k:∀ es n,d= .dict es n→f es=true→G):G:=by
 cases d with
 |dict es n=>exact k es n rfl h
 |_=>exact ff h
theorem obj_eq {o:Obj} {T:Value} {d:Data} (h1:(o.cls==T)=true) (h2:(o.dict==none)=true) (h3:(o.slots== #[])=true) (h4:o.data=d):o=⟨T,none,d,#[]⟩:=by
 obtain⟨c,e,f,g⟩:=o
 cases beq_iff_eq.mp h1
 cases beq_iff_eq.mp h2
 cases beq_iff_eq.mp h3
 cases h4
 rfl
theorem dictLook_ok {o:Option Obj} {r:Row} (h:dictLook o r=true):∃ es n,o=some (PySem.W.dictOf es n)∧ER amNames (amAt r) es:=by
 cases o with
 |none=>exact ff h
 |some o=>exact and_tt h fun h1 h4=>and_tt h1 fun h1 h2=>and_tt h2 fun h2 h3=>dat_dict h4 fun es n e h4=>⟨es.toList,n,congrArg some (obj_eq h1 h2 h3 e),erB_ok h4⟩
theorem amDict_ok:∀ P,amOf.all (fun p=>dictLook ((KV P).lookup (p.1-1)) p.2)=true:=by intro P;kernel_rfl
theorem am_inst {P:Params} {h:Heap} (X:(KV P).In h) {a:Addr} {r:Row} (m:(a,r)∈amOf):∃ es n,PySem.W.InstAt h a ⟨.ref 220,some (a-1),.plain,#[]⟩ 220 (some (PySem.W.dictOf es n))∧ER amNames (amAt r) es:=by
 have h1:=X _ _ (List.map_inj_left.mp (amObj_ok P) _ m)
 obtain⟨es,n,e,R⟩:=dictLook_ok (List.all_eq_true.mp (amDict_ok P) _ m)
 exact⟨es,n,⟨h1,rfl,rfl,X _ _ e⟩,R⟩
noncomputable def amOk (K:Frag) (nm:Str):Bool:=plainGet K 220 nm&&hasDictIn K 220&&(match findIn K (.ref 220) nm with |some a=>noGet K a |none=>false)
theorem amOk_all:∀ P,((["s","substring_i","result"]:List Str).all (amOk (KV P)))=true:=by intro P;kernel_rfl
theorem tabs_in:tabOf.all (fun p=>decide (p.2.length≤100)&&p.2.all fun a=>match amOf.lookup a with |some r=>amOf.contains (a,r) |none=>false)=true:=by decide
noncomputable def amVal (nm:Str) (r:Row):Option SV:=if nm="s" then some (.str r.1) else if nm="substring_i" then some (.int r.2.1) else if nm="result" then some (.int r.2.2) else none
theorem amVal_at {r:Row} {nm:Str} {sv:SV} (hv:amVal nm r=some sv):∃ k:Nat,amNames[k]? =some nm∧(amAt r)[k]? =some sv:=
 if_or hv (fun e f=>⟨0,congrArg some e.symm,congrArg some f⟩) fun hv=>if_or hv (fun e f=>⟨1,congrArg some e.symm,congrArg some f⟩) fun hv=>if_of hv fun e f=>⟨2,congrArg some e.symm,congrArg some f⟩
theorem own_get {K:Frag} {c:Nat} {nm:Str} {G:Prop} (h:(plainGet K c nm&&hasDictIn K c&&(match findIn K (.ref c) nm with |some a=>noGet K a |none=>false))=true) (k:∀ a,plainGet K c nm=true→hasDictIn K c=true→findIn K (.ref c) nm=some a→noGet K a=true→G):G:=by
 refine and_tt h fun h1 h3=>and_tt h1 fun h1 h2=> ?_
 cases q:findIn K (.ref c) nm with
 |none=>rw[q] at h3;exact ff h3
 |some a=>rw[q] at h3;exact k a h1 h2 q h3
theorem am_get {w:World} {A:Around} {E:Value→Shared→Prop} {s:Shared} {a:Addr} {r:Row} {nm:Str} {sv:SV} {expr:Bool} {Q:Value→Shared→Prop} (X:(KV w.params).In s.heap) (m:(a,r)∈amOf) (hv:amVal nm r=some sv)
  (h:∀ v,SRel sv v→Q v { s with toks:=s.toks+1 }):wpAny (model pw w) A (getAttr (.ref a) nm expr) Q E s:=by
 obtain⟨k,hk,ha⟩:=amVal_at hv
 obtain⟨es,n,I,R⟩:=am_inst X m
 obtain⟨v,hg,hs⟩:=R.get (by decide) hk ha
 exact own_get (List.all_eq_true.mp (amOk_all w.params) _ (List.mem_of_getElem? hk)) fun at' o1 o2 q o3=>get_value X I (plainGet_of o1).1 (findObj_own o2 q o3 hg) (handed_SRel hs) (h v hs)
theorem obAm {α:Type} {f:Option (MV×At)} {g:Row→At→Option α} {r:α} {G:Prop} (hf:(f.bind fun p=>match p.1 with | .am n=>g n p.2 |_=>none)=some r) (k:∀ n at1,f=some (.am n,at1)→g n at1=some r→G):G:=by
 refine ob2 hf ?_;clear hf;intro m at1 h1 hf
 cases m with
 |am n=>exact k n at1 h1 hf
 |_=>exact nn hf
theorem E_am {n nm:Str} {np pos:Pos} {fo:EF} (ho:SoundE sc d (.Name n np) fo):SoundE sc d (.Attribute (.Name n np) nm pos) (fun loc at_=>(fo loc at_).bind fun p=>match p.1 with | .am r=>(amVal nm r).map fun sv=>(.s sv,p.2) |_=>none):=by
 intro c O loc at_ s r at' E S hf
 refine obAm (g:=fun r a=>(amVal nm r).map fun sv=>(MV.s sv,a)) hf fun r at1 h1 h2=>op1 h2 fun sv h3=>Attribute_name (ho.use O S h1 fun ov s₁ hv P=> ?_)
 obtain⟨a,rfl,hm⟩:=hv
 exact am_get (P.1.K O) hm h3 fun v hv=>⟨hv,P.trans (Post.tok P.1)⟩
noncomputable def idxV:MV→Int→Option MV
 | .tab rows,k=>if 0≤k then (rows[k.toNat]?).map .am else none
 | .list xs,k=>if 0≤k∧xs.length≤1000000 then (xs[k.toNat]?).map .s else none
 | .s (.str l),k=>if k< -(2^63)∨2^63≤k then none else (itemL l k).map fun c=>.s (.str c)
 |_,_=>none
theorem SRels.get {xs:List SV} {vs:List Value} (h:SRels xs vs):∀ {k:Nat} {x:SV},xs[k]? =some x→∃ v,vs[k]? =some v∧SRel x v:=by
 induction h with
 |nil=>intro k x e;simp at e
 |cons a b ih=>
  intro k x e
  cases k with
  |zero=>simp only[List.getElem?_cons_zero,Option.some.injEq] at e ⊢;subst e;exact⟨_,rfl,a⟩
  |succ k=>simp only[List.getElem?_cons_succ] at e ⊢;exact ih e
theorem SRels.len {xs:List SV} {vs:List Value} (h:SRels xs vs):xs.length=vs.length:=by
 induction h with
 |nil=>rfl
 |cons _ _ ih=>simp[ih]
theorem lt63 {k:Int} {n:Nat} (h:k.toNat<n) (hn:n≤1000000):k<2^63:=by lia
theorem idx_tab {w:World} {A:Around} {E:Value→Shared→Prop} {s:Shared} {rows:List Row} {r:MV} {ta:Addr} {k:Int} {t:Tok} {Q:Value→Shared→Prop} (X:(KV w.params).In s.heap) (hm:(ta,rows)∈tabRows) (h:idxV (.tab rows) k=some r)
  (hq:∀ row a,r= .am row→(a,row)∈amOf→Q (.ref a) s):wpAny (model pw w) A (getItem (.ref ta) (.int k t)) Q E s:=by
 refine if_on h fun h0 h=>om1 h fun row hr e=> ?_
 obtain⟨refs,hl,hmem,e1⟩:=tab_get X hm
 refine and_tt (List.all_eq_true.mp tabs_in _ hmem) fun hl1 hl2=> ?_
 rw[e1,List.getElem?_map] at hr
 refine om1 hr fun a ha e2=> ?_
 refine wpAny_getItem_list hl h0 (lt63 (List.getElem?_eq_some_iff.mp ha).1 (Nat.le_trans (of_decide_eq_true hl1) (by decide))) (x:=.ref a) (by rw[List.getElem?_toArray,List.getElem?_map,ha];rfl) (hq _ a e.symm ?_)
 have:=List.all_eq_true.mp hl2 a (List.mem_of_getElem? ha)
 cases q:amOf.lookup a with
 |none=>rw[q] at this;exact ff this
 |some r0=>
  rw[q] at this e2
  exact e2▸List.contains_iff_mem.mp this
theorem idx_ok {c:Cx} (O:c.Ok sc d) {loc:Loc} {at_:At} {s:Shared} (S:St c loc at_ s) {m r:MV} {ov:Value} {k:Int} {t:Tok} {E:Value→Shared→Prop} {Q:Value→Shared→Prop} (hv:c.V s.heap m ov) (h:idxV m k=some r)
  (hq:∀ v tk,c.V s.heap r v→Q v { s with toks:=tk }):wpAny (model pw c.w) c.A (getItem ov (.int k t)) Q E s:=by
 cases m with
 |tab rows=>
  obtain⟨ta,rfl,hm⟩:=hv
  exact idx_tab (S.K O) hm h fun row a e hm=>hq _ s.toks (e▸⟨a,rfl,hm⟩)
 |list xs=>
  obtain⟨a,vs,rfl,_,hl,hr⟩:=hv
  refine if_on h fun h0 h=>om1 h fun x hx e=> ?_
  obtain⟨v,hv,hs⟩:=hr.get hx
  exact wpAny_getItem_list hl h0.1 (lt63 (List.getElem?_eq_some_iff.mp hx).1 h0.2) (x:=v) (by rw[List.getElem?_toArray];exact hv) (hq _ s.toks (e▸hs))
 |s sv=>
  cases sv with
  |str l=>
   obtain⟨u,rfl⟩:=hv
   refine if_un h fun hk h=>om1 h fun ch hc e=>ob1 hc fun j hj hc=>om1 hc fun x hx e'=> ?_
   refine PySem.P.getItem_str (c:=x) ?_ ?_ (hq _ _ (e▸e'▸⟨_,rfl⟩))
   ·rw[Bool.or_eq_false_iff]
    exact⟨decide_eq_false fun z=>hk (.inl z),decide_eq_false fun z=>hk (.inr z)⟩
   ·rw[strL_len,hj]
    show (strL l).cps[j]? =some x
    rw[List.getElem?_toArray]
    exact hx
  |_=>exact nn h
 |_=>exact nn h
end
end
section
section
variable {sc:Scope} {d:Nat}
noncomputable abbrev fIdx (fo fi:EF):EF:=fun loc at_=>(fo loc at_).bind fun p=>(fi loc p.2).bind fun q=>match q.1 with
 | .s (.int k)=>(idxV p.1 k).map fun r=>(r,q.2)
 |_=>none
theorem letGo_ok {A:Around} {w:World} {base:Expr} {o r:Value} {E:Value→Shared→Prop} {Q:Unit→Shared→Prop} {s:Shared} (h:Q () s):wpAny (model pw w) A (letTemporaryGo base o r) Q E s:=by
 unfold letTemporaryGo
 split
 ·exact wpAny_pure h
 ·exact wpAny_bind (wpAny_holding (wpAny_runValue (codeAny_builtin entry_let_go (show wpAny _ _ (ret .none) _ _ s from wpAny_pure (wpAny_pure h)))))
 ·exact wpAny_pure h
theorem tail_any {A:Around} {w:World} {E:Value→Shared→Prop} {s:Shared} {value slice:Expr} {o i:Value} {T id:String} {Q:Value→Shared→Prop} (hT:s.TypeIs o T)
  (hl:typeLookup (.type T) "__getitem__"=pure (some (.builtin id))) (h:wpAny (model pw w) A (getItem o i) Q E s) (hs:∃ l,subscripted slice false o i=operate l (getItem o i)):
  wpAny (model pw w) A (subscriptTail value slice o i) Q E s:=by
 obtain⟨l,hs⟩:=hs
 unfold subscriptTail
 refine wpAny_bind ?_
 rw[getitemInPython_of_ne hT.not_modules]
 refine wpAny_bind (wpAny_specialOf hT hl ?_)
 have fin:wpAny (model pw w) A (subscripted slice false o i) (fun r s₃=>wpAny (model pw w) A (letTemporaryGo value o r >>= fun _=>pure r) Q E s₃) E s:=by
  rw[hs]
  exact wpAny_operating (wpAny_mono h (fun r s₃ h₃=>wpAny_bind (letGo_ok (wpAny_pure h₃))) fun _ _ x=>x)
 first
  |exact wpAny_pure (wpAny_bind fin)
  |exact wpAny_bind (wpAny_pure (wpAny_bind fin))
  |exact wpAny_bind fin
theorem idx_core {c:Cx} (O:c.Ok sc d) {loc:Loc} {at_:At} {s:Shared} (S:St c loc at_ s) {value slice:Expr} {m r:MV} {ov:Value} {k:Int} {t:Tok} {E:Value→Shared→Prop} {Q:Value→Shared→Prop} (hv:c.V s.heap m ov) (h:idxV m k=some r)
  (hs:∀ o i,subscripted slice false o i=operate [o,i] (getItem o i)) (hq:∀ v tk,c.V s.heap r v→Q v { s with toks:=tk }):wpAny (model pw c.w) c.A (subscriptTail value slice ov (.int k t)) Q E s:=by
 have g:wpAny (model pw c.w) c.A (getItem ov (.int k t)) Q E s:=idx_ok O S hv h hq
 cases m with
 |tab rows=>
  obtain⟨ta,rfl,hm⟩:=hv
  obtain⟨refs,hl,_⟩:=tab_get (S.K O) hm
  exact tail_any hl.typeIs list_getitem_lookup g ⟨_,hs _ _⟩
 |list xs=>
  obtain⟨a,vs,rfl,_,hl,hr⟩:=hv
  exact tail_any hl.typeIs list_getitem_lookup g ⟨_,hs _ _⟩
 |s sv=>
  cases sv with
  |str l=>
   obtain⟨u,rfl⟩:=hv
   exact tail_any (typeIs_str s _ u) F.slot_str_getitem.lookup g ⟨_,hs _ _⟩
  |_=>exact nn h
 |_=>exact nn h
theorem intM {α:Type} {m:MV} {g:Int→Option α} {r:α} {G:Prop} (h:(match m with | .s (.int k)=>g k |_=>none)=some r) (k:∀ n,m= .s (.int n)→g n=some r→G):G:=by
 cases m with
 |s v=>cases v with
  |int n=>exact k n rfl h
  |_=>exact nn h
 |_=>exact nn h
theorem strM {α:Type} {m:MV} {g:List Nat→Option α} {r:α} {G:Prop} (h:(match m with | .s (.str l)=>g l |_=>none)=some r) (k:∀ l,m= .s (.str l)→g l=some r→G):G:=by
 cases m with
 |s v=>cases v with
  |str n=>exact k n rfl h
  |_=>exact nn h
 |_=>exact nn h
theorem E_idx {value slice:Expr} {pos:Pos} {fo fi:EF} (ho:SoundE sc d value fo) (hi:SoundE sc d slice fi) (hs:∀ o i,subscripted slice false o i=operate [o,i] (getItem o i):=by intro _ _;with_unfolding_all rfl):
  SoundE sc d (.Subscript value slice pos) (fIdx fo fi):=by
 intro c O loc at_ s r at' E S hf
 refine ob2 hf ?_;clear hf;intro m1 at1 h1 hf
 refine ob2 hf ?_;clear hf;intro m2 at2 h2 hf
 refine intM (g:=fun k=>(idxV m1 k).map fun r=>(r,at2)) hf ?_;clear hf;intro k e hf
 refine op1 hf fun z h3=>Subscript_ (ho.use O S h1 fun v s₁ hv P=>hi.use O P.1 ((show m2=_ from e)▸h2) fun v' s₂ hv' P'=> ?_)
 obtain⟨t,rfl⟩:=hv'
 exact idx_core O P'.1 (hv.keep P'.2) h3 hs fun v tk hv=>⟨hv,P.trans (P'.trans (Post.tok P'.1))⟩
noncomputable abbrev PF:=Loc→At→Option (Option Int×At)
noncomputable def SoundP (sc:Scope) (d:Nat) (e:Option Expr) (f:PF):Prop:=
 ∀ (c:Cx),c.Ok sc d→∀ (loc:Loc) (at_:At) (s:Shared) (r:Option Int) (at':At) (E:Value→Shared→Prop),St c loc at_ s→f loc at_=some (r,at')→
  wpAny (model pw c.w) c.A (evalPart e c.env) (fun v s'=>(∃ p,v=partValue p∧p.map (·.1)=r)∧Post true c loc at' s s') E s
theorem SoundP.use {e:Option Expr} {f:PF} (h:SoundP sc d e f) {c:Cx} (O:c.Ok sc d) {loc:Loc} {at_ at':At} {s:Shared} {r:Option Int} {Q E:Value→Shared→Prop} (S:St c loc at_ s) (hf:f loc at_=some (r,at')) (k:∀ v s' p,v=partValue p→p.map (·.1)=r→Post true c loc at' s s'→Q v s'):wpAny (model pw c.w) c.A (evalPart e c.env) Q E s:=
 wpAny_mono (h c O loc at_ s r at' E S hf) (fun v s' x=>x.1.elim fun p y=>k v s' p y.1 y.2 x.2) fun _ _ x=>x
theorem P_none:SoundP sc d none (fun _ at_=>some (none,at_)):=by
 intro c O loc at_ s r at' E S hf
 exact oe2 hf (evalPart_none_step ⟨⟨none,rfl,rfl⟩,Post.refl S⟩)
theorem P_some {e:Expr} {f:EF} (h:SoundE sc d e f):SoundP sc d (some e) (fun loc at_=>(f loc at_).bind fun p=>match p.1 with | .s (.int k)=>some (some k,p.2) |_=>none):=by
 intro c O loc at_ s r at' E S hf
 refine obI (g:=fun k a=>some (some k,a)) hf fun k at1 h1 hf=>oe2 hf (evalPart_some_step (h.use O S h1 fun v s₁ hv P=> ?_))
 obtain⟨t,rfl⟩:=hv
 exact⟨⟨some (_,t),rfl,rfl⟩,P⟩
theorem sliceL_len (l:List Nat) (lo hi:Option Int):(sliceL l lo hi).length≤l.length:=
 Nat.le_trans (List.length_take_le' _ _) (List.length_drop▸Nat.sub_le _ _)
theorem sl_zero {n a b:Nat} (h:b-a=n) (hb:b≤n) (ha:a≤n):a=0:=by lia
theorem slice_post {l:List Nat} {t:Tok} {pl pu:Option (Int×Tok)} {lo hi:Option Int} {Q:Value→Shared→Prop} {s:Shared} (el:pl.map (·.1)=lo) (eu:pu.map (·.1)=hi) (hlen:l.length≤1000)
  (hq:∀ v tk,SRel (.str (sliceL l lo hi)) v→Q v { s with toks:=tk }):(sliceMade (strL l) t pl pu none).post Q s:=by
 have hp:slicePicked (strL l) pl pu none=Builtin.Str.strSliceIndices lo hi 1 l.length:=by
  unfold slicePicked
  rw[el,eu,strL_len]
  rfl
 unfold sliceMade
 rw[hp,clip_range]
 split
 ·rename_i hc
  have e:sliceL l lo hi=l:=by
   have h1:=beq_iff_eq.mp (Bool.and_eq_true_iff.mp hc).2
   rw[strL_len,indices_eq,List.length_map,List.length_range] at h1
   unfold sliceL
   rw[h1,sl_zero h1 (clipN_le (Nat.le_refl _) hi) (clipN_le (Nat.zero_le _) lo),List.drop_zero,List.take_length]
  exact hq (.str (strL l) t) s.toks (e.symm▸⟨t,rfl⟩)
 ·exact⟨Nat.le_trans (Nat.le_of_eq (strL_len _)) (Nat.le_trans (sliceL_len l lo hi) (Nat.le_trans hlen (by decide))),hq _ _ ⟨_,rfl⟩⟩
theorem E_slice {value:Expr} {lower upper:Option Expr} {p pos:Pos} {fo:EF} {fl fu:PF} (ho:SoundE sc d value fo) (hl:SoundP sc d lower fl) (hu:SoundP sc d upper fu):
  SoundE sc d (.Subscript value (.Slice lower upper none p) pos) (fun loc at_=>(fo loc at_).bind fun p=>(fl loc p.2).bind fun q=>(fu loc q.2).bind fun r=>match p.1 with
   | .s (.str l)=>if l.length≤1000 then some (.s (.str (sliceL l q.1 r.1)),r.2) else none
   |_=>none):=by
 intro c O loc at_ s r at' E S hf
 refine ob2 hf ?_;clear hf;intro m1 at1 h1 hf
 refine ob2 hf ?_;clear hf;intro m2 at2 h2 hf
 refine ob2 hf ?_;clear hf;intro m3 at3 h3 hf
 refine strM (g:=fun l=>if l.length≤1000 then some (MV.s (.str (sliceL l m2 m3)),at3) else none) hf ?_;clear hf;intro l e hf
 refine if_on hf ?_;clear hf;intro hlen hf
 refine oe2 hf ?_;clear hf
 refine Subscript_ (ho.use O S ((show m1=_ from e)▸h1) fun v s₁ hv P=>wpAny_Slice (hl.use O P.1 h2 fun v' s₂ pl hpl el P'=>hu.use O P'.1 h3 fun v'' s₃ pu hpu eu P''=> ?_))
 rw[evalPart_none]
 refine wpAny_pure ?_
 obtain⟨t,rfl⟩:=hv
 subst hpl hpu
 have G:∀ tk,Post true c loc _ s { s₃ with heap:=s₃.heap.push { cls:=.type "slice",data:=.fields #[partValue pl,partValue pu,.none] },toks:=tk }:=fun tk=>
  P.trans (P'.trans (P''.trans (Post.grow P''.1 fun b o e=>Heap.get?_push_of_some _ e)))
 exact tail_any (typeIs_str _ _ t) F.slot_str_getitem.lookup (wpAny_getItem_str_slice (l:=pl) (u:=pu) (st:=none) ⟨_,Heap.get?_push_size _ rfl,rfl,rfl⟩ rfl (slice_post (t:=t) el eu hlen (fun v tk hv=>⟨hv,G tk⟩))) ⟨_,rfl⟩
theorem E_builtin {fn:Str} {id:String} {np pos:Pos} {args:List Expr} {fa:AF} {op:List MV→Option MV} (ha:SoundA sc d args fa) (hne:∀ env,∃ t r,starEach args env=(false,t)::r) (hk:sc.names.lookup fn=some .globalImplicit) (hd:(fn==("__debug__":Str))=false) (hn:fn≠"__name__")
  (hm:∀ P,nsIn (KV P) mainGlobals fn=some none) (hb:bootBuiltins fn=some (.builtin id))
  (hop:∀ (c:Cx),c.Ok sc d→∀ (loc:Loc) (at_:At) (s:Shared) (xs:List MV) (vs:List Value) (r:MV) (E:Value→Shared→Prop) (Q:Value→Shared→Prop),St c loc at_ s→c.Vs s.heap xs vs→op xs=some r→
   (∀ v s',c.V s'.heap r v→Post true c loc at_ s s'→Q v s')→wpAny (model pw c.w) c.A (call (.builtin id) vs) Q E s):
  SoundE sc d (.Call (.Name fn np) args [] pos) (fun loc at_=>(fa loc at_).bind fun p=>(op p.1).map fun r=>(r,p.2)):=by
 intro c O loc at_ s r at' E S hf
 refine ob2 hf ?_;clear hf;intro xs at1 h1 hf
 refine op1 hf fun z h2=>wpAny_Call_NameR (name_builtin O S hk hd (hm _) hb hn ?_)
 obtain⟨t,rr,he⟩:=hne c.env
 have hx:=ha.2 c O pos loc at_ s _ _ E S h1
 have hp:=ha.1 c.env
 rw[he] at hx hp ⊢
 exact callWith_builtin (by rw[backTo_any];exact hp) (evalArgs_plain (wpAny_mono hx (fun vs s₁ x=>hop c O loc at1 s₁ xs vs _ E _ x.2.1 x.1 h2 fun v s' hv P'=>⟨hv,x.2.trans P'⟩) fun _ _ x=>x))
theorem arg1 {α:Type} {w:World} {X:Option Addr} {ex:List Addr} {h:Heap} {xs:List MV} {vs:List Value} {f:MV→Option α} {r:α} {P:List Value→Prop} (e:(match xs with | [m]=>f m |_=>none)=some r) (hv:VRels w X ex h xs vs) (k:∀ m v,VRel w X ex h m v→f m=some r→P [v]):P vs:=by
 cases hv with
 |nil=>exact nn e
 |cons a b=>cases b with
  |nil=>exact k _ _ a e
  |cons _ _=>exact nn e
theorem arg2 {α:Type} {w:World} {X:Option Addr} {ex:List Addr} {h:Heap} {xs:List MV} {vs:List Value} {f:MV→MV→Option α} {r:α} {P:List Value→Prop} (e:(match xs with | [m,n]=>f m n |_=>none)=some r) (hv:VRels w X ex h xs vs) (k:∀ m n v u,VRel w X ex h m v→VRel w X ex h n u→f m n=some r→P [v,u]):P vs:=by
 cases hv with
 |nil=>exact nn e
 |cons a b=>cases b with
  |nil=>exact nn e
  |cons b b'=>cases b' with
   |nil=>exact k _ _ _ _ a b e
   |cons _ _=>exact nn e
noncomputable def opLen (xs:List MV):Option MV:=match xs with
 | [m]=>(match m with
  | .s v=>(match v with | .str l=>if l.length≤1000 then some (.s (.int l.length)) else none |_=>none)
  | .tab rows=>some (.s (.int rows.length))
  | .list xs=>if xs.length≤1000000 then some (.s (.int xs.length)) else none
  |_=>none)
 |_=>none
noncomputable def opOrd (xs:List MV):Option MV:=match xs with
 | [m]=>(match m with
  | .s v=>(match v with | .str l=>(match l with | [x]=>some (.s (.int x)) |_=>none) |_=>none)
  |_=>none)
 |_=>none
noncomputable def opMin (xs:List MV):Option MV:=match xs with
 | [m,n]=>(match m with
  | .s (.int a)=>(match n with | .s (.int b)=>some (.s (.int (if b<a then b else a))) |_=>none)
  |_=>none)
 |_=>none
theorem tab_len {t:Addr} {rows:List Row} (m:(t,rows)∈tabRows):rows.length≤100:=by
 unfold tabRows at m
 obtain⟨p,hm,e⟩:=List.mem_map.mp m
 refine and_tt (List.all_eq_true.mp tabs_in p hm) fun h _=> ?_
 rw[←(Prod.mk.inj e).2,List.length_map]
 exact of_decide_eq_true h
theorem le_line {n k:Nat} (h:n≤k) (hk:k≤1000000):n≤sizeLine:=Nat.le_trans h (Nat.le_trans hk (by decide))
theorem E_len {np pos:Pos} {e:Expr} {fa:AF} (ha:SoundA sc d [e] fa) (hne:∀ env,∃ t r,starEach [e] env=(false,t)::r:=by intro _;exact (wit2 rfl)) (hk:sc.names.lookup ("len":Str)=some .globalImplicit):
  SoundE sc d (.Call (.Name "len" np) [e] [] pos) (fun loc at_=>(fa loc at_).bind fun p=>(opLen p.1).map fun r=>(r,p.2)):=by
 refine E_builtin (id:="len") ha hne hk (by decide) (by decide) (by intro P;kernel_rfl) (by decide+kernel) ?_
 intro c O loc at_ s xs vs r E Q S hv h hq
 refine arg1 (P:=fun vs=>wpAny _ _ (call _ vs) Q E s) h hv fun m v hv h=> ?_
 cases m with
 |s sv=>cases sv with
  |str l=>
   obtain⟨t,rfl⟩:=hv
   exact if_of h fun hl e=>PyProof.Rows.len_str (by rw[strL_len];lia) (hq _ _ (e▸⟨_,by rw[strL_len]⟩) (Post.tok S))
  |_=>exact nn h
 |tab rows=>
  obtain⟨ta,rfl,hm⟩:=hv
  have hl:=tab_len hm
  obtain⟨refs,hL,_,e⟩:=tab_get (S.K O) hm
  have el:(refs.map Value.ref).toArray.size=rows.length:=by rw[List.size_toArray,List.length_map,e,List.length_map]
  exact len_list hL (by rw[el];lia) (hq _ _ (Option.some.inj h▸⟨_,by rw[el]⟩) (Post.tok S))
 |list xs=>
  obtain⟨ad,vs,rfl,_,hL,hr⟩:=hv
  have el:vs.toArray.size=xs.length:=hr.len.symm
  exact if_of h fun hl e=>len_list hL (by rw[el];lia) (hq _ _ (e▸⟨s.toks+1,by rw[el]⟩) (Post.tok S))
 |_=>exact nn h
theorem E_ord {np pos:Pos} {e:Expr} {fa:AF} (ha:SoundA sc d [e] fa) (hne:∀ env,∃ t r,starEach [e] env=(false,t)::r:=by intro _;exact (wit2 rfl)) (hk:sc.names.lookup ("ord":Str)=some .globalImplicit):
  SoundE sc d (.Call (.Name "ord" np) [e] [] pos) (fun loc at_=>(fa loc at_).bind fun p=>(opOrd p.1).map fun r=>(r,p.2)):=by
 refine E_builtin (id:="ord") ha hne hk (by decide) (by decide) (by intro P;kernel_rfl) (by decide+kernel) ?_
 intro c O loc at_ s xs vs r E Q S hv h hq
 refine arg1 (P:=fun vs=>wpAny _ _ (call _ vs) Q E s) h hv fun m v hv h=> ?_
 cases m with
 |s sv=>cases sv with
  |str l=>
   obtain⟨t,rfl⟩:=hv
   cases l with
   |nil=>exact nn h
   |cons x l=>cases l with
    |nil=>exact PySem.P.ord_of_char (hq _ _ (Option.some.inj h▸⟨_,rfl⟩) (Post.tok S))
    |cons _ _=>exact nn h
  |_=>exact nn h
 |_=>exact nn h
theorem E_min {np pos:Pos} {e e':Expr} {fa:AF} (ha:SoundA sc d [e,e'] fa) (hne:∀ env,∃ t r,starEach [e,e'] env=(false,t)::r:=by intro _;exact (wit2 rfl)) (hk:sc.names.lookup ("min":Str)=some .globalImplicit):
  SoundE sc d (.Call (.Name "min" np) [e,e'] [] pos) (fun loc at_=>(fa loc at_).bind fun p=>(opMin p.1).map fun r=>(r,p.2)):=by
 refine E_builtin (id:="min") ha hne hk (by decide) (by decide) (by intro P;kernel_rfl) (by decide+kernel) ?_
 intro c O loc at_ s xs vs r E Q S hv h hq
 refine arg2 (P:=fun vs=>wpAny _ _ (call _ vs) Q E s) h hv fun m n v u hv hu h=> ?_
 refine intM h ?_;clear h;intro a e1 h
 refine intM h ?_;clear h;intro b e2 h
 rw[e1] at hv
 rw[e2] at hu
 obtain⟨t,rfl⟩:=hv
 obtain⟨u,rfl⟩:=hu
 refine min_two_ints O.hnd fun h' tk hk=>hq _ _ (Option.some.inj h▸ ?_) (Post.grow S hk)
 split
 ·exact⟨_,rfl⟩
 ·exact⟨_,rfl⟩
theorem E_ends {o e:Expr} {apos pos:Pos} {fo fe:EF} (ho:SoundE sc d o fo) (hx:SoundE sc d e fe) {pl:Env→Sem Bool}
  (he:∀ env,eval (.Call (.Attribute o "endswith" apos) [e] [] pos) env=(do
   let ov ←eval o env
   standAt apos.atName
   let (f,first) ←holding [ov] (getMethod ov "endswith" (pl env))
   callWith pos f first (backTo pos (starEach [e] env)) []))
  (hst:∀ env,starEach [e] env=[(false,eval e env)]):
  SoundE sc d (.Call (.Attribute o "endswith" apos) [e] [] pos) (fun loc at_=>(fo loc at_).bind fun p=>(fe loc p.2).bind fun q=>match p.1 with
   | .s (.str l)=>(match q.1 with | .s (.str m)=>some (.s (.bool (endsL l m)),q.2) |_=>none)
   |_=>none):=by
 intro c O loc at_ s r at' E S hf
 refine ob2 hf ?_;clear hf;intro m1 at1 h1 hf
 refine ob2 hf ?_;clear hf;intro m2 at2 h2 hf
 refine strM (g:=fun l=>match m2 with | .s (.str m)=>some (MV.s (.bool (endsL l m)),at2) |_=>none) hf ?_;clear hf;intro l e1 hf
 refine strM hf ?_;clear hf;intro m e2 hf
 refine oe2 hf ?_;clear hf
 refine MethodCall_ (ho.use O S ((show m1=_ from e1)▸h1) fun v s₁ hv P=> ?_) (he _)
 obtain⟨t,rfl⟩:=hv
 refine GM.endswith ?_
 rw[hst]
 refine callWith_builtin rfl (evalArgs_plain (spliced_cons (hx.use O P.1 ((show m2=_ from e2)▸h2) fun v' s₂ hv' P'=> ?_)))
 obtain⟨u,rfl⟩:=hv'
 refine spliced_nil (SC.endswith ?_)
 rw[endsL_eq]
 exact⟨rfl,P.trans P'⟩
end
end
section
noncomputable def labs:List (Str×Addr):=[("lab0",421),("lab1",434),("lab2",447),("lab3",460)]
inductive Out where
 |nxt |brk |cont |ret (v:MV) |exc (k:Addr)
noncomputable abbrev SF:=Loc→At→Option (Out×Loc×At)
noncomputable def FlRel (c:Cx) (h:Heap):Out→Flow→Prop
 | .nxt,fl=>fl= .next
 | .brk,fl=>fl= .brk
 | .cont,fl=>fl= .cont
 | .ret r,fl=>∃ v,fl= .ret v∧c.V h r v
 | .exc _,_=>False
noncomputable def Cx.fsA (c:Cx):List Addr:=(c.env::c.outer).filterMap (·.frame)
inductive ExcT (c:Cx) (loc:Loc) (at_:At) (k:Addr) (s:Shared) (fl:Value) (e:Value) (s':Shared):Prop
 |mk (s1:Shared) (x:Addr) (a0:Value) (he:e= .ref x) (P:Post false c loc at_ s s1) (hu:s1.heap.UpToSlots s'.heap) (hk:(hideAll s1.heap c.fsA).StaysIn s'.heap) (hn:(hideAll s1.heap c.fsA).get? x=none)
  (hff:s'.heap.FunFrames (hideAll s1.heap c.fsA) (c.env::c.outer)) (ht:s'.heap.TracedAtW (hideAll s1.heap c.fsA) x (.ref k) a0 fl) (g1:s'.gens=s1.gens) (g2:s'.drawn=s1.drawn) (g3:s'.os=s1.os)
inductive ExcM (c:Cx) (loc:Loc) (at_:At) (k:Addr) (s:Shared) (e:Value) (s':Shared):Prop
 |mk (s1:Shared) (x:Addr) (he:e= .ref x) (P:Post false c loc at_ s s1) (hm:Heap.MadeExcOf s1.heap s'.heap x (.ref k) []) (g1:s'.gens=s1.gens) (g2:s'.drawn=s1.drawn) (g3:s'.os=s1.os)
inductive ExcF (c:Cx) (loc:Loc) (at_:At) (k:Addr) (s:Shared) (e:Value) (s':Shared):Prop
 |mk (fl:Value) (h:fl= .none∨fl=rawInt c.env.locals) (x:ExcT c loc at_ k s fl e s')
noncomputable def ExcAt (c:Cx) (loc:Loc) (at_:At) (k:Addr) (s:Shared) (e:Value) (s':Shared):Prop:=c.exc=true∧(ExcM c loc at_ k s e s'∨ExcF c loc at_ k s e s')
noncomputable abbrev QS (c:Cx) (o:Out) (loc':Loc) (at':At) (s:Shared):Flow→Shared→Prop:=fun fl s'=>FlRel c s'.heap o fl∧Post false c loc' at' s s'
inductive ES (c:Cx) (o:Out) (loc':Loc) (at':At) (s:Shared) (e:Value) (s':Shared):Prop
 |mk (k:Addr) (ho:o= .exc k) (hy:∃ y,(y,k)∈labs) (x:ExcAt c loc' at' k s e s')
noncomputable def SoundS (sc:Scope) (d:Nat) (st:Stmt) (F:SF):Prop:=
 ∀ (c:Cx),c.Ok sc d→∀ (loc:Loc) (at_:At) (s:Shared) (o:Out) (loc':Loc) (at':At),St c loc at_ s→F loc at_=some (o,loc',at')→
  wpAny (model pw c.w) c.A (exec st c.env) (QS c o loc' at' s) (ES c o loc' at' s) s
noncomputable def SoundB (sc:Scope) (d:Nat) (body:List Stmt) (F:SF):Prop:=
 ∀ (c:Cx),c.Ok sc d→∀ (loc:Loc) (at_:At) (s:Shared) (o:Out) (loc':Loc) (at':At),St c loc at_ s→F loc at_=some (o,loc',at')→
  wpAny (model pw c.w) c.A (execs body c.env) (QS c o loc' at' s) (ES c o loc' at' s) s
theorem SoundS.use {sc:Scope} {d:Nat} {st:Stmt} {F:SF} (h:SoundS sc d st F) {c:Cx} (O:c.Ok sc d) {loc loc':Loc} {at_ at':At} {s:Shared} {o:Out} {Q:Flow→Shared→Prop} {E:Value→Shared→Prop} (S:St c loc at_ s) (hf:F loc at_=some (o,loc',at')) (k:∀ fl s',FlRel c s'.heap o fl→Post false c loc' at' s s'→Q fl s') (x:∀ k e s',o= .exc k→(∃ y,(y,k)∈labs)→ExcAt c loc' at' k s e s'→E e s'):wpAny (model pw c.w) c.A (exec st c.env) Q E s:=
 wpAny_mono (h c O loc at_ s o loc' at' S hf) (fun fl s' y=>k fl s' y.1 y.2) fun e s' ⟨k,ho,hy,z⟩=>x k e s' ho hy z
theorem SoundB.use {sc:Scope} {d:Nat} {st:List Stmt} {F:SF} (h:SoundB sc d st F) {c:Cx} (O:c.Ok sc d) {loc loc':Loc} {at_ at':At} {s:Shared} {o:Out} {Q:Flow→Shared→Prop} {E:Value→Shared→Prop} (S:St c loc at_ s) (hf:F loc at_=some (o,loc',at')) (k:∀ fl s',FlRel c s'.heap o fl→Post false c loc' at' s s'→Q fl s') (x:∀ k e s',o= .exc k→(∃ y,(y,k)∈labs)→ExcAt c loc' at' k s e s'→E e s'):wpAny (model pw c.w) c.A (execs st c.env) Q E s:=
 wpAny_mono (h c O loc at_ s o loc' at' S hf) (fun fl s' y=>k fl s' y.1 y.2) fun e s' ⟨k,ho,hy,z⟩=>x k e s' ho hy z
theorem ExcT.pre {c:Cx} {loc loc1:Loc} {at_ at1:At} {k:Addr} {s s1 s':Shared} {fl e:Value} {q:Bool} (P:Post q c loc1 at1 s s1) (x:ExcT c loc at_ k s1 fl e s'):ExcT c loc at_ k s fl e s':=by
 obtain⟨s2,x,a0,e,P',h1,h2,h3,h4,h5,h6,h7,h8⟩:=x
 exact⟨s2,x,a0,e,(P.trans P').weak,h1,h2,h3,h4,h5,h6,h7,h8⟩
theorem ExcAt.pre {c:Cx} {loc loc1:Loc} {at_ at1:At} {k:Addr} {s s1 s':Shared} {e:Value} {q:Bool} (P:Post q c loc1 at1 s s1) (x:ExcAt c loc at_ k s1 e s'):ExcAt c loc at_ k s e s':=by
 refine⟨x.1,x.2.imp (fun y=> ?_) fun y=> ?_⟩
 ·obtain⟨s2,x,e,P',h1,h2,h3,h4⟩:=y
  exact⟨s2,x,e,(P.trans P').weak,h1,h2,h3,h4⟩
 ·obtain⟨fl,hf,x⟩:=y
  exact⟨fl,hf,x.pre P⟩
theorem traced_el {h base:Heap} {e:Addr} {cls a0 fl:Value} {G:Prop} (x:h.TracedAtW base e cls a0 fl) (k:∀ (oe:Obj) (vs:Array Value) (T:Addr) (oT:Obj) (ts:Array Value),h.get? e=some oe→(oe.cls=cls∧vs[0]? =some a0)→oe.data= .fields vs→vs[1]? =some (.ref T)→base.get? T=none→T≠e→h.get? T=some oT→oT.data= .fields ts→ts[3]? =some fl→G):G:=by
 obtain⟨oe,vs,T,oT,ts,h1,h2,h3,h4,h5,h6,h7,h8,h9⟩:=x
 exact k oe vs T oT ts h1 h2 h3 h4 h5 h6 h7 h8 h9
section
variable {sc:Scope} {d:Nat}
theorem fsA_eq {c:Cx} (O:c.Ok sc d) (hx:c.exc=true):c.fsA=c.env.locals::c.fs:=by
 unfold Cx.fsA
 rw[List.filterMap_cons_some (O.fr hx).2.1,(O.fr hx).2.2]
theorem fsA_ex {c:Cx} (O:c.Ok sc d) (hx:c.exc=true) {b:Addr} (h:b∈c.fsA):b∈c.ex:=by
 rw[fsA_eq O hx] at h
 rcases List.mem_cons.mp h with q |q
 ·rw[q];exact Cx.loc_ex
 ·exact .tail _ (List.mem_append_right _ q)
theorem St.like {c:Cx} {loc:Loc} {at_:At} {s s':Shared} (h1:s'.gens=s.gens) (h2:s'.drawn=s.drawn) (h3:s'.os=s.os) (S:St c loc at_ { s with heap:=s'.heap,toks:=s'.toks }):St c loc at_ s':=
 ⟨h1.trans S.gens,h2.trans S.drawn,h3.trans S.os,S.stays,S.keep,S.slots,S.fresh,S.freshB,S.ns,S.self,S.noself,S.fr,S.fdB,S.fd,S.n1,S.n2⟩
theorem St.slotted {c:Cx} (O:c.Ok sc d) (hx:c.exc=true) {loc:Loc} {at_:At} {s s':Shared} (S:St c loc at_ s) (hk:(hideAll s.heap c.fsA).StaysIn s'.heap) (hu:s.heap.UpToSlots s'.heap)
  (h1:s'.gens=s.gens) (h2:s'.drawn=s.drawn) (h3:s'.os=s.os):Post false c loc at_ s s':=by
 have kp:∀ b o,s.heap.get? b=some o→b∉c.fsA→s'.heap.get? b=some o:=fun b o e n=>hk b o (hideAll_get _ e n)
 have kx:Keep c.ex s.heap s'.heap:=fun b o e n=>kp b o e fun q=>n (fsA_ex O hx q)
 refine⟨St.like h1 h2 h3 <| S.chg (S.apart kx) (fun b hb o _ x=> ?_) (S.ns.imp (fun a o e _ n=>kx a o e n) fun m n=>hu.ns n) (fun q x=>⟨x.at_.imp (fun o e _=>kx _ o e x.nx) fun o e _=>kp _ o e fun z=> ?_,x.nx,x.nl,x.nb⟩) S.noself (fun b o e f=> ?_) (fun b _ x=> ?_),kx,nofun⟩
 ·obtain⟨sl,x,_⟩:=x
  obtain⟨o',es,n,e',d'⟩:=S.fd b hb
  cases x.symm.trans e'
  obtain⟨sl',x'⟩:=hu b _ x (nf_of d' nofun)
  exact⟨sl',x',fun z=>nomatch hx.symm.trans z⟩
 ·rw[fsA_eq O hx] at z
  exact (List.mem_cons.mp z).elim x.nl (S.n2 q)
 ·obtain⟨sl,x⟩:=hu b o e f
  exact⟨_,x,f⟩
 ·obtain⟨o,es,n,e,d'⟩:=x
  obtain⟨sl,x⟩:=hu b o e (nf_of d' nofun)
  exact⟨_,es,n,x,d'⟩
theorem ExcT.post {c:Cx} (O:c.Ok sc d) (hx:c.exc=true) {loc:Loc} {at_:At} {k:Addr} {s s':Shared} {fl e:Value} (x:ExcT c loc at_ k s fl e s'):Post false c loc at_ s s':=by
 obtain⟨s1,x,a0,rfl,P,hu,hk,_,_,_,g1,g2,g3⟩:=x
 exact (P.trans (P.1.slotted O hx hk hu g1 g2 g3)).weak
theorem exc_note {c:Cx} (O:c.Ok sc d) {A:Around} (hA:A.frames=c.A.frames) {loc:Loc} {at_:At} {k:Addr} {s s':Shared} {e:Value} {E:Value→Shared→Prop} {Q:Unit→Shared→Prop} (x:ExcAt c loc at_ k s e s')
  (h:∀ s'',ExcT c loc at_ k s (rawInt c.env.locals) e s''→Q () s''):wpAny (model pw c.w) A (noteFrame e c.env) Q E s':=by
 obtain⟨hx,x⟩:=x
 obtain⟨f1,f2,_⟩:=O.fr hx
 rcases x with⟨s1,x,rfl,P,hm,g1,g2,g3⟩ |⟨fl,hfl,⟨s1,x,a0,rfl,P,hu,hk,hn,hff,ht,g1,g2,g3⟩⟩
 ·obtain⟨t,he,htn,hto⟩:=hm.there
  have ffB:s'.heap.FunFrames (hideAll s1.heap c.fsA) (c.env::c.outer):=(funFrames_hide (P.1.fr hx) fun env he a ha=>List.mem_filterMap.mpr ⟨env,he,ha⟩).of_keeps fun b o e _=>⟨o,hm.keeps b o e,rfl⟩
  have hkB:(hideAll s1.heap c.fsA).StaysIn s'.heap:=fun b o e=>hm.keeps b o (of_hideAll _ e)
  have hnB:(hideAll s1.heap c.fsA).get? x=none:=Option.eq_none_iff_forall_ne_some.mpr fun o q=>Heap.ne_of_none (of_hideAll _ q) hm.new rfl
  unfold noteFrame
  simp only[f2]
  refine wpAny_bind (wpAny_field he (x:=.none) rfl rfl ?_)
  rw[if_neg (by decide)]
  refine wpAny_entryW (a0:=.ref t) (hA.trans f1) ffB f2 he hkB hnB rfl (by simp) rfl fun h' hN=> ?_
  obtain⟨k1,k2,k3,k4⟩:=hN
  refine h _ ⟨s1,x,.ref t,rfl,P,?_,k1,hnB,k2,k3,g1,g2,g3⟩
  exact fun b o e nf=>k4 b o (hm.keeps b o e) nf
 ·rcases hfl with rfl |rfl
  ·refine wpAny_noteFrame_onW (hA.trans f1) hff f2 ht hk hn fun h' hN=> ?_
   obtain⟨k1,k2,k3,k4⟩:=hN
   exact h _ ⟨s1,x,a0,rfl,P,hu.trans k4,k1,hn,k2,k3,g1,g2,g3⟩
  ·exact wpAny_noteFrame_againW f2 ht (h _ ⟨s1,x,a0,rfl,P,hu,hk,hn,hff,ht,g1,g2,g3⟩)
theorem exc_land {c:Cx} (O:c.Ok sc d) {A:Around} {loc:Loc} {at_:At} {k:Addr} {s s':Shared} {fl e:Value} {E:Value→Shared→Prop} {Q:Unit→Shared→Prop} (x:ExcT c loc at_ k s fl e s')
  (h:∀ s'',ExcT c loc at_ k s .none e s''→Q () s''):wpAny (model pw c.w) A (setFlight e none) Q E s':=by
 obtain⟨s1,x,a0,rfl,P,hu,hk,hn,hff,ht,g1,g2,g3⟩:=x
 refine wpAny_setFlight_noneW hk hff ht fun h' k1 k2 k3 k4=> ?_
 exact h _ ⟨s1,x,a0,rfl,P,hu.trans fun b o e nf=>⟨o.slots,k4 b o e nf⟩,k1,hn,k2,k3,g1,g2,g3⟩
theorem exc_fly {c:Cx} (O:c.Ok sc d) {A:Around} {L:Addr} {loc:Loc} {at_:At} {k:Addr} {s s':Shared} {fl e:Value} {E:Value→Shared→Prop} {Q:Unit→Shared→Prop} (x:ExcT c loc at_ k s fl e s')
  (h:∀ s'',ExcT c loc at_ k s (rawInt L) e s''→Q () s''):wpAny (model pw c.w) A (setFlight e (some L)) Q E s':=by
 obtain⟨s1,x,a0,rfl,P,hu,hkb,hn,hff,ht,g1,g2,g3⟩:=x
 refine traced_el ht fun oe vs T oT ts he hcls hd h1 hnT hTe hT hdT h3=> ?_
 have hsz3:3<ts.size:=(Array.getElem?_eq_some_iff.mp h3).1
 have other:∀ b,b≠T→(s'.heap.update T (Obj.mapFields (·.setIfInBounds 3 ((some L).elim Value.none fun f=>rawInt f)))).get? b=s'.heap.get? b:=fun b hb=>Heap.get?_update_other _ _ (Ne.symm hb)
 have noRecord:∀ b o,s'.heap.get? b=some o→Nf o→b≠T:=fun b o hb hnf q=>hnf ts (Option.some.inj (hT.symm.trans (q▸hb))▸hdT)
 unfold setFlight
 refine wpAny_bind (wpAny_field he hd h1 ?_)
 rw[if_pos (show (Value.ref T !=Value.none)=true from by simp)]
 exact wpAny_setField hT hdT hsz3 (h _ ⟨s1,x,a0,rfl,P,hu.trans (fun b o hb nf=>⟨o.slots,(other b (noRecord b o hb nf)).trans hb⟩),(fun b o hbo=>(other b (Heap.ne_of_none hbo hnT)).trans (hkb b o hbo)),hn,
  (hff.of_keeps fun b o hb nf=>⟨o,(other b (noRecord b o hb nf)).trans hb,rfl⟩),⟨oe,vs,T,_,_,(other x (Ne.symm hTe)).trans he,hcls,hd,h1,hnT,hTe,Heap.get?_update_self _ hT (Obj.isFreed_of_fields (Obj.data_mapFields hdT _)),Obj.data_mapFields hdT _,by simp[hsz3]⟩,g1,g2,g3⟩)
theorem ExcT.field {c:Cx} {A:Around} {loc:Loc} {at_:At} {k:Addr} {s s':Shared} {fl e:Value} {E:Value→Shared→Prop} {Q:Value→Shared→Prop} (x:ExcT c loc at_ k s fl e s') (h:∀ T,Q (.ref T) s'):wpAny (model pw c.w) A (PySem.field e 1) Q E s':=by
 obtain⟨s1,x,a0,rfl,P,hu,hkb,hn,hff,ht,g1,g2,g3⟩:=x
 exact traced_el ht fun oe vs T oT ts he hcls hd h1 hnT hTe hT hdT h3=>wpAny_field he hd h1 (h T)
theorem exc_pass {c:Cx} (O:c.Ok sc d) {A:Around} (hA:A.frames=c.A.frames) {loc:Loc} {at_:At} {k:Addr} {s s':Shared} {e:Value} {E:Value→Shared→Prop} (x:ExcAt c loc at_ k s e s') (h:∀ s'',ExcAt c loc at_ k s e s''→E e s''):
  notedBy (model pw c.w) A c.env (cameBackBy (model pw c.w) c.A c.env E) e s':=by
 have hx:=x.1
 refine exc_note O hA x fun s₁ x₁=> ?_
 unfold cameBackBy
 refine wpAny_bind (x₁.field fun T=> ?_)
 rw[if_neg (show ¬((Value.ref T==Value.none)=true) from by simp)]
 rw[(O.fr hx).2.1]
 try refine wpAny_bind (wpAny_pure ?_)
 exact exc_fly O x₁ fun s₂ x₂=>h _ ⟨hx,.inr ⟨_,.inr rfl,x₂⟩⟩
end
end
section
section
variable {sc:Scope} {d:Nat}
theorem FlRel.keep {c:Cx} {h h':Heap} {o:Out} {fl:Flow} (x:FlRel c h o fl) (k:Keep c.ex h h'):FlRel c h' o fl:=by
 cases o<;>first |exact x |(obtain⟨v,e,hv⟩:=x;exact⟨v,e,hv.keep k⟩)
theorem B_nil:SoundB sc d [] (fun loc at_=>some (.nxt,loc,at_)):=by
 intro c O loc at_ s o loc' at' S hf
 exact oe3 hf (wpAny_execs_nil ⟨rfl,Post.refl S⟩)
noncomputable abbrev fSeq (F G:SF):SF:=fun loc at_=>(F loc at_).bind fun p=>match p.1 with
 | .nxt=>G p.2.1 p.2.2
 |o=>some (o,p.2)
theorem out_seq {o1:Out} {x:Option (Out×Loc×At)} {p:Loc×At} {r:Out×Loc×At} {G:Prop} (h:(match o1 with | .nxt=>x |o=>some (o,p))=some r) (n:o1= .nxt→x=some r→G) (g:o1≠ .nxt→some (o1,p)=some r→G):G:=by
 cases o1 with
 |nxt=>exact n rfl h
 |_=>exact g nofun h
theorem FlRel.nxt {c:Cx} {h:Heap} {o:Out} {fl:Flow} (x:FlRel c h o fl) (hn:o≠ .nxt):fl≠ .next:=by
 cases o with
 |nxt=>exact absurd rfl hn
 |ret r=>obtain⟨v,rfl,_⟩:=x;nofun
 |exc k=>exact x.elim
 |_=>cases x;nofun
theorem B_cons {st:Stmt} {rest:List Stmt} {F G:SF} (hF:SoundS sc d st F) (hG:SoundB sc d rest G):SoundB sc d (st::rest) (fSeq F G):=by
 intro c O loc at_ s o loc' at' S hf
 refine ob3 hf ?_;clear hf;intro o1 loc1 at1 h1 hf
 refine out_seq hf (fun e hf=> ?_) fun hn e=>oe3 e (wpAny_execs_cons (hF.use O S h1 (fun fl s₁ hfl P=> ?_) fun k e' s₁ ho hy x=>⟨k,ho,hy,x⟩))
 ·have h1:F loc at_=some (Out.nxt,loc1,at1):=(show o1=Out.nxt from e)▸h1
  refine wpAny_execs_cons (hF.use O S h1 (fun fl s₁ hfl P=> ?_) fun k e' s₁ ho=>nomatch ho)
  cases hfl
  exact hG.use O P.1 hf (fun fl s₂ hfl P'=>⟨hfl,P.trans P'⟩) fun k e s₂ ho hy x=>⟨k,ho,hy,x.pre P⟩
 ·have q:=hfl.nxt hn
  cases fl with
  |next=>exact absurd rfl q
  |_=>exact⟨hfl,P⟩
theorem noExc {α:Type} {M:Model} {A:Around} {t:Sem α} {Q:α→Shared→Prop} {E:Value→Shared→Prop} {s:Shared} (h:wpAny M A t Q (fun _ _=>False) s):wpAny M A t Q E s:=wpAny_noRaise h
theorem storeName_ok {c:Cx} (O:c.Ok sc d) {loc:Loc} {at_:At} {s:Shared} (S:St c loc at_ s) {x:Str} {i:Nat} {mv:MV} {v:Value} {E:Value→Shared→Prop} {Q:Unit→Shared→Prop} (hnd:(sc.names.map (·.1)).Nodup) (hi:(sc.names.map (·.1))[i]? =some x) (hk:sc.names.lookup x=some .local)
  (hv:c.V s.heap mv v) (h:∀ s',Post false c (loc.set i (some mv)) at_ s s'→Q () s'):wpAny (model pw c.w) c.A (storeName c.env x v) Q E s:=by
 cases O.scope
 obtain⟨m,hn,_⟩:=S.ns
 refine wpAny_storeName_local (m:=m) hk hn (fun h' hn' hsb=> ?_) (by rw[O.kind];rfl)
 have Z:=S.store (h':=h') (tk:=s.toks+1) (i:=i) (x:=x) (mv:=mv) (v:=v) hnd hi hk hv hn hn' hsb
 exact h _ ⟨Z.1,Z.2,nofun⟩
theorem setat_ok {c:Cx} (O:c.Ok sc d) {loc:Loc} {at_:At} {s:Shared} (S:St c loc at_ s) (hs:c.slf=true) {k:Nat} {nm:Str} {sv:SV} {v:Value} {E:Value→Shared→Prop} {Q:Unit→Shared→Prop} (hk:atNames[k]? =some nm) (hl:k≤at_.length) (hv:SRel sv v)
  (h:∀ s',Post false c loc (setA at_ k sv) s s'→Q () s'):wpAny (model pw c.w) c.A (setAttr (.ref c.X) nm v) Q E s:=by
 obtain⟨m,hn,_⟩:=S.ns
 have R:=S.self hs
 refine set_at (S.K O) R.at_ hn R.nl (fun z=>R.nx (z▸Cx.loc_ex)) (fun z=>R.nx (z▸Cx.D_ex hs)) hk hl hv fun h' tk hn' SA kk=> ?_
 have Z:=S.setAt (tk:=tk) hs hn hn' SA kk
 exact h _ ⟨Z.1,Z.2,nofun⟩
theorem S_assign {x:Str} {p pos:Pos} {value:Expr} {f:EF} (i:Nat) (h:SoundE sc d value f) (hnd:(sc.names.map (·.1)).Nodup) (hi:(sc.names.map (·.1))[i]? =some x) (hk:sc.names.lookup x=some .local)
  (hs:∀ env,swapsWith value (some (.Name x p)) pos.line env=pure false:=by intro _;rfl):
  SoundS sc d (.Assign [.Name x p] value pos) (fun loc at_=>(f loc at_).map fun q=>(.nxt,loc.set i (some q.1),q.2)):=by
 intro c O loc at_ s o loc' at' S hf
 exact om2 hf fun m at1 h1 e=>oe3 (congrArg some e) (wpAny_Assign_Name (h.use O S h1 fun v s₁ hv P=>storeName_ok O P.1 hnd hi hk hv fun s₂ P'=>⟨rfl,P.trans P'⟩) (hs _))
theorem V_self {c:Cx} {h:Heap} {v:Value} (x:c.V h .self v):c.slf=true∧v= .ref c.X:=by
 obtain⟨x,ex,rfl⟩:=x
 exact⟨(oX_self ex).1,congrArg Value.ref (oX_self ex).2.symm⟩
theorem sM {α:Type} {m:MV} {g:SV→Option α} {r:α} {G:Prop} (h:(match m with | .s l=>g l |_=>none)=some r) (k:∀ l,m= .s l→g l=some r→G):G:=by
 cases m with
 |s v=>exact k v rfl h
 |_=>exact nn h
theorem S_setat {o:Expr} {nm:Str} {p pos:Pos} {value:Expr} {f fo:EF} (k:Nat) (hk:atNames[k]? =some nm) (h:SoundE sc d value f) (ho:SoundE sc d o fo)
  (hs:∀ env,swapsWith value (some (.Attribute o nm p)) pos.line env=pure false:=by intro _;rfl):
  SoundS sc d (.Assign [.Attribute o nm p] value pos) (fun loc at_=>(f loc at_).bind fun q=>(fo loc q.2).bind fun r=>match r.1 with
   | .self=>(match q.1 with | .s sv=>if k≤r.2.length then some (.nxt,loc,setA r.2 k sv) else none |_=>none)
   |_=>none):=by
 intro c O loc at_ s o' loc' at' S hf
 refine ob2 hf ?_;clear hf;intro m1 at1 h1 hf
 refine ob2 hf ?_;clear hf;intro m2 at2 h2 hf
 refine mSelf hf ?_;clear hf;intro e2 hf
 refine sM (g:=fun sv=>if k≤at2.length then some (Out.nxt,loc,setA at2 k sv) else none) hf ?_;clear hf;intro sv e1 hf
 refine if_on hf ?_;clear hf;intro hl hf
 refine oe3 hf ?_;clear hf
 refine plainObj_wpAny_Assign_Attribute (h.use O S ((show m1=_ from e1)▸h1) fun v s₁ hv P=>ho.use O P.1 ((show m2=_ from e2)▸h2) fun ov s₂ hov P'=> ?_) (hs _)
 have V:=V_self hov
 rw[V.2]
 exact setat_ok O P'.1 V.1 hk hl hv fun s₃ P''=>⟨rfl,P.trans (P'.trans P'')⟩
end
end
section
theorem labs_glob:∀ P,labs.map (fun p=>nsIn (KV P) mainGlobals p.1)=labs.map (fun p=>some (some (.ref p.2))):=by intro P;kernel_rfl
theorem labs_exc:∀ P,labs.all (fun p=>excIn (KV P) p.2 [.type "Exception",.type "BaseException",.type "object"] "Exception.__new__")=true:=by intro P;kernel_rfl
theorem labs_exm:∀ P,labs.all (fun p=>labs.all fun q=>exmOne (KV P) (.ref p.2) (.ref q.2)==some (p.2==q.2))=true:=by intro P;kernel_rfl
section
variable {sc:Scope} {d:Nat}
theorem slf_of {c:Cx} {loc:Loc} {at_:At} {s:Shared} (S:St c loc at_ s) (h:at_≠[]):c.slf=true:=by
 cases q:c.slf with
 |true=>rfl
 |false=>exact absurd (S.noself q) h
theorem S_raise {x:Str} {np cpos pos:Pos} {k:Addr} (hm:(x,k)∈labs) (hk:sc.names.lookup x=some .globalImplicit) (hd:(x==("__debug__":Str))=false:=by decide):
  SoundS sc d (.Raise (some (.Call (.Name x np) [] [] cpos)) none pos) (fun loc at_=>if at_=[] then none else some (.exc k,loc,at_)):=by
 intro c O loc at_ s o loc' at' S hf
 refine if_un hf fun hne hf=>oe3 hf ?_
 have hg:=List.map_inj_left.mp (labs_glob c.w.params) _ hm
 obtain⟨tl,N,nm,q,bs,hdct,sn,sub,ab,col,dd,k0,k1,k2,k3,k5,mN,hC,hN,hni,TT⟩:=(own_of_in (S.K O) (S.TR O) hg (List.all_eq_true.mp (labs_exc c.w.params) _ hm):OwnCls x k [.type "Exception",.type "BaseException",.type "object"] "Exception.__new__" c.mg s.heap).obj
 refine wpAny_Raise_call_subT (C:=k) (nm:=nm) (q:=q) (N:=N) (bs:=bs) (bm:=tl) (hdct:=hdct) (sn:=sn) (sub:=sub) (ab:=ab) (col:=col) (dd:=dd) (k0:=k0) (k1:=k1) (k2:=k2) (k3:=k3) (k5:=k5)
  PySem.F.excBase_Exception (mN:=mN) (TT.hasType PySem.F.excBase_Exception.hasBase) O.hnd rfl hni (name_glob O S hk hd hg ⟨rfl,?_⟩)
 exact evalArgs_empty ⟨rfl,Nat.zero_le _,hC,hN,TT,fun h' e hmade=>⟨k,rfl,⟨x,hm⟩,O.se (slf_of S hne),.inl ⟨s,e,rfl,Post.refl S,hmade,rfl,rfl,rfl⟩⟩⟩
noncomputable abbrev fTry (k:Addr) (F:SF):SF:=fun loc at_=>(F loc at_).map fun p=>match p.1 with
 | .exc k'=>if k'=k then (.nxt,p.2) else (.exc k',p.2)
 |o=>(o,p.2)
theorem ExcT.ty {M:Model} {c:Cx} {loc:Loc} {at_:At} {k:Addr} {s s':Shared} {fl e:Value} (x:ExcT c loc at_ k s fl e s'):∃ a,e= .ref a∧Looks M s'.heap (typeOf (.ref a)) (.ref k):=by
 obtain⟨s1,x,a0,he,P,hu,hk,hn,hff,ht,g1,g2,g3⟩:=x
 obtain⟨ob,hob,hc⟩:=ht.there
 exact⟨x,he,hc▸(Looks.ld hob).andThen .now⟩
theorem try_hand {x:Str} {np hp pp:Pos} {k k':Addr} {y:Str} (hm:(x,k)∈labs) (hy:(y,k')∈labs) (hk:sc.names.lookup x=some .globalImplicit) (hd:(x==("__debug__":Str))=false) {c:Cx} (O:c.Ok sc d) {loc:Loc} {at_:At} {s s₁:Shared} {e':Value} {Q:Flow→Shared→Prop} {E:Value→Shared→Prop} (x':ExcAt c loc at_ k' s e' s₁)
  (hq:k'=k→∀ s',Post false c loc at_ s s'→Q .next s') (hE:k'≠k→∀ e s',ExcAt c loc at_ k' s e s'→E e s'):
  wpAny (model pw c.w) c.A (noteFrame e' c.env) (fun _ s₂=>wpAny (model pw c.w) c.A (setFlight e' none) (fun _ s₃=>wpAny (model pw c.w) c.A (handleBy e' c.env [.ExceptHandler (some (.Name x np)) none [.Pass pp] hp]) Q E s₃) E s₂) E s₁:=by
 have hx:=x'.1
 refine exc_note O rfl x' fun s₂ x₂=> ?_
 refine exc_land O x₂ fun s₃ x₃=> ?_
 have P₃:=x₃.post O hx
 have hg:=List.map_inj_left.mp (labs_glob c.w.params) _ hm
 have hex:exmOne (KV c.w.params) (.ref k') (.ref k)=some (k'==k):=beq_iff_eq.mp (List.all_eq_true.mp (List.all_eq_true.mp (labs_exm c.w.params) _ hy) _ hm)
 obtain⟨a,ea,LT⟩:=x₃.ty (M:=model pw c.w)
 rw[ea] at x₃ ⊢
 refine wpAny_handleBy_cons (codeAny_handlers_test (name_glob O P₃.1 hk hd hg ((exm_one (P₃.1.K O) LT hex).here ?_))) (by intro q;cases q)
 cases hkk:(k'==k) with
 |true=>
  simp only[if_true]
  exact codeAny_handlers_suite (exc_land O x₃ fun s₄ x₄=>wpAny_execs_cons (wpAny_Pass (wpAny_execs_nil (hq (beq_iff_eq.mp hkk) _ (x₄.post O hx)))))
 |false=>
  simp only[Bool.false_eq_true,if_false]
  refine wpAny_handleBy_nil ?_
  unfold PySem.passOn
  refine wpAny_bind (x₃.field fun T=> ?_)
  rw[if_neg (show ¬((Value.ref T==Value.none)=true) from by simp)]
  rw[(O.fr hx).2.1]
  have fin:wpAny (model pw c.w) c.A (setFlight (.ref a) (some c.env.locals) >>= fun _=>(throw (.ref a):Sem Flow)) Q E s₃:=
   wpAny_bind (exc_fly O x₃ fun s₄ x₄=>wpAny_throw (hE (fun q=>by rw[q,beq_self_eq_true] at hkk;cases hkk) _ _ ⟨hx,.inr ⟨_,.inr rfl,x₄⟩⟩))
  first
   |exact fin
   |exact wpAny_bind (wpAny_pure fin)
theorem try_out {k:Addr} {o1:Out} {p:Loc×At} {r:Out×Loc×At} {c:Cx} {h:Heap} {fl:Flow} {G:Prop} (e:(match o1 with | .exc k'=>if k'=k then (Out.nxt,p) else (.exc k',p) |o=>(o,p))=r) (hfl:FlRel c h o1 fl) (g:some (o1,p)=some r→FlRel c h o1 fl→G):G:=by
 cases o1 with
 |exc k=>exact hfl.elim
 |_=>exact g (congrArg some e) hfl
theorem try_exc {k k':Addr} {o1:Out} {p:Loc×At} {r:Out×Loc×At} {G:Prop} (e:(match o1 with | .exc k'=>if k'=k then (Out.nxt,p) else (.exc k',p) |o=>(o,p))=r) (ho:o1= .exc k') (y:k'=k→some (Out.nxt,p)=some r→G) (n:k'≠k→some (Out.exc k',p)=some r→G):G:=by
 cases ho
 by_cases q:k'=k
 ·exact y q (congrArg some ((if_pos q).symm.trans e))
 ·exact n q (congrArg some ((if_neg q).symm.trans e))
theorem S_try {x:Str} {np hp pos pp:Pos} {body:List Stmt} {F:SF} {k:Addr} (hb:SoundB sc d body F) (hm:(x,k)∈labs) (hk:sc.names.lookup x=some .globalImplicit) (hd:(x==("__debug__":Str))=false:=by decide):
  SoundS sc d (.Try body [.ExceptHandler (some (.Name x np)) none [.Pass pp] hp] [] [] pos) (fTry k F):=by
 intro c O loc at_ s o loc' at' S hf
 refine om3 hf ?_;clear hf;intro o1 loc1 at1 h1 e
 refine wpAny_Try_except (hb.use O S h1 (fun fl s₁ hfl P=> ?_) fun k' e' s₁ ho hy' x'=> ?_)
 ·refine try_out e hfl fun e hfl=>oe3 e ?_
  cases fl with
  |next=>exact wpAny_execs_nil ⟨hfl,P⟩
  |_=>exact⟨hfl,P⟩
 ·obtain⟨y,hy⟩:=hy'
  exact try_exc e ho (fun q e=>oe3 e (try_hand hm hy hk hd O x' (fun _ s' P=>⟨rfl,P⟩) fun z=>absurd q z)) fun q e=>oe3 e (try_hand hm hy hk hd O x' (fun z=>absurd z q) fun _ e' s' X=>⟨k',rfl,⟨y,hy⟩,X⟩)
theorem S_pass {pos:Pos}:SoundS sc d (.Pass pos) (fun loc at_=>some (.nxt,loc,at_)):=by
 intro c O loc at_ s o loc' at' S hf
 exact oe3 hf <| wpAny_Pass ⟨rfl,Post.refl S⟩
theorem S_break {pos:Pos}:SoundS sc d (.Break pos) (fun loc at_=>some (.brk,loc,at_)):=by
 intro c O loc at_ s o loc' at' S hf
 exact oe3 hf <| wpAny_Break ⟨rfl,Post.refl S⟩
theorem S_cont {pos:Pos}:SoundS sc d (.Continue pos) (fun loc at_=>some (.cont,loc,at_)):=by
 intro c O loc at_ s o loc' at' S hf
 exact oe3 hf <| wpAny_Continue ⟨rfl,Post.refl S⟩
theorem S_ret {e:Expr} {pos:Pos} {f:EF} (h:SoundE sc d e f):SoundS sc d (.Return (some e) pos) (fun loc at_=>(f loc at_).map fun p=>(.ret p.1,loc,p.2)):=by
 intro c O loc at_ s o loc' at' S hf
 exact om2 hf fun m at1 h1 e=>oe3 (congrArg some e) (wpAny_Return_some (h.use O S h1 fun v s₁ hv P=>⟨⟨v,rfl,hv⟩,P.weak⟩))
theorem S_if {t:Expr} {body orelse:List Stmt} {pos:Pos} {ft:CF} {F G:SF} (ht:SoundC sc d t ft) (hF:SoundB sc d body F) (hG:SoundB sc d orelse G):
  SoundS sc d (.If t body orelse pos) (fun loc at_=>(ft loc at_).bind fun p=>if p.1 then F loc p.2 else G loc p.2):=by
 intro c O loc at_ s o loc' at' S hf
 exact tr_inv (x:=F loc) (y:=G loc) hf (fun at1 h1 hf=>wpAny_If (ht.use O S h1 fun s₁ P=>hF.use O P.1 hf (fun fl s₂ hfl P'=>⟨hfl,P.trans P'⟩) fun k e s₂ ho hy x=>⟨k,ho,hy,x.pre P⟩)) fun at1 h1 hf=>wpAny_If (ht.use O S h1 fun s₁ P=>hG.use O P.1 hf (fun fl s₂ hfl P'=>⟨hfl,P.trans P'⟩) fun k e s₂ ho hy x=>⟨k,ho,hy,x.pre P⟩)
theorem S_assert {t:Expr} {pos:Pos} {msg:Option Expr} {ft:CF} (ht:SoundC sc d t ft):SoundS sc d (.Assert t msg pos) (fun loc at_=>(ft loc at_).bind fun p=>if p.1 then some (.nxt,loc,p.2) else none):=by
 intro c O loc at_ s o loc' at' S hf
 refine tr_inv (x:=fun a=>some (Out.nxt,loc,a)) (y:=fun _=>none) hf (fun at1 h1 hf=>oe3 hf (wpAny_Assert_holds (ht.use O S h1 fun s₁ P=>⟨rfl,rfl,P.weak⟩))) fun _ _=>nn
theorem S_expr {e:Expr} {pos:Pos} {f:EF} (h:SoundE sc d e f) (hs:∀ env,swapsWith e none pos.line env=pure false:=by intro _;rfl):SoundS sc d (.Expr e pos) (fun loc at_=>(f loc at_).map fun p=>(.nxt,loc,p.2)):=by
 intro c O loc at_ s o loc' at' S hf
 have hi:interactive c.env=false:=by unfold interactive;rw[O.scope,O.kind];rfl
 exact om2 hf fun m at1 h1 e=>oe3 (congrArg some e) (wpAny_Expr_any (h.use O S h1 fun v s₁ hv P=>⟨rfl,P.weak⟩) hi (hs _))
noncomputable def loopN:Nat→CF→SF→SF
 |0,_,_=>fun _ _=>none
 |n+1,t,b=>fun loc at_=>(t loc at_).bind fun p=>if p.1 then (b loc p.2).bind fun q=>(match q.1 with
   | .nxt | .cont=>loopN n t b q.2.1 q.2.2
   | .brk=>some (.nxt,q.2)
   |o=>some (o,q.2)) else some (.nxt,loc,p.2)
inductive WhI (c:Cx) (ft:CF) (F:SF) (s:Shared) (r:Out×Loc×At) (k:Nat) (s₁:Shared):Prop
 |mk (loc1:Loc) (at1:At) (P:Post false c loc1 at1 s s₁) (e:loopN k ft F loc1 at1=some r)
theorem loop_out {o1:Out} {X:Loc→At→Option (Out×Loc×At)} {loc2:Loc} {at2:At} {r:Out×Loc×At} {c:Cx} {h:Heap} {fl:Flow} {G:Prop} (hl:(match o1 with | .nxt | .cont=>X loc2 at2 | .brk=>some (.nxt,loc2,at2) |o=>some (o,loc2,at2))=some r) (hfl:FlRel c h o1 fl) (n:(fl= .next∨fl= .cont)→X loc2 at2=some r→G) (b:fl= .brk→some (.nxt,loc2,at2)=some r→G) (g:∀ v,fl= .ret v→FlRel c h o1 fl→some (o1,loc2,at2)=some r→G):G:=by
 cases o1 with
 |nxt=>exact n (.inl hfl) hl
 |cont=>exact n (.inr hfl) hl
 |brk=>exact b hfl hl
 |ret m=>obtain⟨v,e,hv⟩:=hfl;exact g v e ⟨v,e,hv⟩ hl
 |exc k=>exact hfl.elim
theorem loop_exc {k':Addr} {X:Loc→At→Option (Out×Loc×At)} {loc2:Loc} {at2:At} {r:Out×Loc×At} {o1:Out} {G:Prop} (hl:(match o1 with | .nxt | .cont=>X loc2 at2 | .brk=>some (.nxt,loc2,at2) |o=>some (o,loc2,at2))=some r) (ho:o1= .exc k') (k:some (.exc k',loc2,at2)=some r→G):G:=by
 cases ho
 exact k hl
theorem S_while {t:Expr} {body:List Stmt} {pos:Pos} {ft:CF} {F:SF} (n:Nat) (ht:SoundC sc d t ft) (hF:SoundB sc d body F):SoundS sc d (.While t body [] pos) (loopN n ft F):=by
 intro c O loc at_ s o loc' at' S hf
 refine wpAny_While (codeAny_whileLoop (WhI c ft F s (o,loc',at')) (fun k s₁ hI=> ?_) n ⟨loc,at_,Post.refl S,hf⟩)
 obtain⟨loc1,at1,P,hl⟩:=hI
 cases k with
 |zero=>exact nn hl
 |succ k=>
  refine tr_inv (x:=fun a=>(F loc1 a).bind fun q=>(match q.1 with
   | .nxt | .cont=>loopN k ft F q.2.1 q.2.2
   | .brk=>some (.nxt,q.2)
   |o=>some (o,q.2))) (y:=fun a=>some (.nxt,loc1,a)) hl (fun at2 h1 hl=> ?_) fun at2 h1 hl=> ?_
  ·refine ob3 hl ?_;clear hl;intro o1 loc2 at3 h2 hl
   refine ht.use O P.1 h1 fun s₂ P₂=>hF.use O P₂.1 h2 (fun fl s₃ hfl P₃=> ?_) fun k' e s₃ ho hy x=> ?_
   ·have P':=P.trans (P₂.trans P₃)
    refine loop_out (X:=loopN k ft F) hl hfl (fun e hl=> ?_) (fun e hl=> ?_) fun v e hr hl=> ?_
    ·have z:∃ m,m<k+1∧WhI c ft F s (o,loc',at') m s₃:=⟨k,Nat.lt_succ_self k,loc2,at3,P',hl⟩
     rcases e with rfl |rfl<;>exact z
    ·exact oe3 hl (e▸⟨rfl,P'⟩)
    ·refine oe3 hl ?_
     subst e
     exact⟨hr,P'⟩
   ·exact loop_exc (X:=loopN k ft F) hl ho fun hl=>oe3 hl (exc_pass O rfl x fun s₄ x₄=>⟨k',rfl,hy,x₄.pre (P.trans P₂)⟩)
  ·exact oe3 hl (ht.use O P.1 h1 fun s₂ P₂=>wpAny_execs_nil ⟨rfl,P.trans P₂⟩)
noncomputable def asInt:SV→Option Int
 | .int n=>some n
 |_=>none
theorem asInt_eq {v:SV} {n:Int} (h:asInt v=some n):v= .int n:=by
 cases v with
 |int m=>exact congrArg SV.int (Option.some.inj h)
 |_=>exact nn h
theorem S_augat {o:Expr} {nm:Str} {p pos:Pos} {value:Expr} {op:Operator} {f fo:EF} (k:Nat) (hop:op= .Add∨op= .Sub) (hk:atNames[k]? =some nm) (ho:SoundE sc d o fo) (h:SoundE sc d value f):
  SoundS sc d (.AugAssign (.Attribute o nm p) op value pos) (fun loc at_=>(fo loc at_).bind fun q=>match q.1 with
   | .self=>(q.2[k]?).bind fun old=>(f loc q.2).bind fun r=>(simp1 r.1).bind fun v=>(binop op old v).bind fun w=>(asInt w).bind fun z=>if k≤r.2.length then some (.nxt,loc,setA r.2 k (.int z)) else none
   |_=>none):=by
 intro c O loc at_ s o' loc' at' S hf
 refine ob2 hf ?_;clear hf;intro m1 at1 h1 hf
 refine mSelf hf ?_;clear hf;intro e1 hf
 refine ob1 hf ?_;clear hf;intro old0 e2 hf
 refine obS (g:=fun v a=>(binop op old0 v).bind fun w=>(asInt w).bind fun z=>if k≤a.length then some (Out.nxt,loc,setA a k (.int z)) else none) hf ?_;clear hf;intro v0 at2 h2 hf
 refine ob1 hf ?_;clear hf;intro w e4 hf
 refine ob1 hf ?_;clear hf;intro z e5 hf
 refine if_on hf ?_;clear hf;intro hl hf
 refine oe3 hf ?_;clear hf
 refine wpAny_AugAssign_AttributeAny (ho.use O S ((show m1=_ from e1)▸h1) fun ov s₁ hov P=> ?_)
 have V:=V_self hov
 rw[V.2]
 refine get_at (P.1.K O) (P.1.self V.1).at_ hk e2 fun old hold=>h.use O P.1.toks h2 fun v s₂ hv P'=>inop_ok hop hold hv e4 ⟨z,asInt_eq e5⟩ fun new tk hnew=> ?_
 exact setat_ok O (P'.1.toks (tk:=tk)) V.1 hk hl (asInt_eq e5▸hnew) fun s₃ P''=>⟨rfl,P.trans ((Post.tok (q:=true) P.1).trans (P'.trans ((Post.tok (q:=true) (tk:=tk) P'.1).trans P'')))⟩
theorem S_aug {x:Str} {p pos:Pos} {value:Expr} {op:Operator} {f:EF} (i:Nat) (hop:op= .Add∨op= .Sub) (h:SoundE sc d value f) (hnd:(sc.names.map (·.1)).Nodup) (hi:(sc.names.map (·.1))[i]? =some x) (hk:sc.names.lookup x=some .local):
  SoundS sc d (.AugAssign (.Name x p) op value pos) (fun loc at_=>(getLoc loc i).bind fun m=>(simp1 m).bind fun old=>(f loc at_).bind fun r=>(simp1 r.1).bind fun v=>(binop op old v).bind fun w=>(asInt w).map fun z=>(.nxt,loc.set i (some (.s (.int z))),r.2)):=by
 intro c O loc at_ s o' loc' at' S hf
 refine ob1 hf ?_;clear hf;intro m0 e1 hf
 refine ob1 hf ?_;clear hf;intro old0 e2 hf
 refine obS (g:=fun v a=>(binop op old0 v).bind fun w=>(asInt w).map fun z=>(Out.nxt,loc.set i (some (.s (.int z))),a)) hf ?_;clear hf;intro v0 at2 h2 hf
 refine ob1 hf ?_;clear hf;intro w e4 hf
 refine om1 hf ?_;clear hf;intro z e5 hf
 refine oe3 (congrArg some hf) ?_;clear hf
 obtain⟨m,hn,R⟩:=S.ns
 obtain⟨y,old,hy1,hold,hy3,_⟩:=R i _ (getLoc_eq e1)
 rw[simp1_eq e2] at hold
 have sco:=O.scope
 rw[sco] at hy1 hy3
 cases hi.symm.trans hy1
 refine wpAny_AugAssign_Name (wpAny_loadName_local (by rw[sco];exact O.kind) (by unfold Env.kindOf;rw[sco];exact hk) hn (hy3 hk) (h.use O S h2 fun v s₂ hv P=>inop_ok hop hold hv e4 ⟨z,asInt_eq e5⟩ fun new tk hnew=> ?_))
 exact storeName_ok O (P.1.toks (tk:=tk)) hnd hi hk (mv:=.s (.int z)) (asInt_eq e5▸hnew) fun s₃ P'=>⟨rfl,P.trans ((Post.tok (q:=true) (tk:=tk) P.1).trans P')⟩
end
end
section
noncomputable abbrev IF:=Loc→At→Option (List SV×At)
inductive RecR (h:Heap) (b:Addr):Prop
 |mk (o:Obj) (vs:Array Value) (e:h.get? b=some o) (d:o.data= .fields vs)
inductive ItV (xs:List SV) (i:Nat) (v:Value):Prop
 |mk (x:SV) (e:xs[i]? =some x) (r:SRel x v)
inductive QIt (c:Cx) (loc:Loc) (at':At) (s:Shared) (xs:List SV) (it:Value) (s₂:Shared):Prop
 |mk (p:Post true c loc at' s s₂) (I:Addr) (fp wr:List Addr) (P:Nat→Value→Prop) (StW:Nat→Heap→Prop) (e:it= .ref I) (W:Walks pw c.w c.A I fp wr xs.length P StW) (h0:StW 0 s₂.heap) (hfp:∀ b∈fp,b∉c.ex) (hwr:∀ b∈wr,s.heap.get? b=none) (hfl:∀ i h,StW i h→∀ b∈wr,RecR h b) (hP:∀ i v,i<xs.length→P i v→ItV xs i v) (hsz:∀ b∈fp,b<s₂.heap.objs.size)
noncomputable abbrev QI (c:Cx) (loc:Loc) (at':At) (s:Shared) (xs:List SV) (E:Value→Shared→Prop):Value→Shared→Prop:=fun xv s₁=>wpAny (model pw c.w) c.A (pyIter xv) (QIt c loc at' s xs) E s₁
noncomputable def SoundI (sc:Scope) (d:Nat) (iter:Expr) (f:IF):Prop:=
 ∀ (c:Cx),c.Ok sc d→∀ (loc:Loc) (at_:At) (s:Shared) (xs:List SV) (at':At) (E:Value→Shared→Prop),St c loc at_ s→f loc at_=some (xs,at')→
  wpAny (model pw c.w) c.A (eval iter c.env) (QI c loc at' s xs E) E s
noncomputable def forN:List SV→Nat→SF→SF
 | [],_,_=>fun loc at_=>some (.nxt,loc,at_)
 |x::xs,i,b=>fun loc at_=>(b (loc.set i (some (.s x))) at_).bind fun q=>match q.1 with
   | .nxt | .cont=>forN xs i b q.2.1 q.2.2
   | .brk=>some (.nxt,q.2)
   |o=>some (o,q.2)
section
variable {sc:Scope} {d:Nat}
theorem St.wr {c:Cx} {loc:Loc} {at_:At} {s:Shared} {h':Heap} {tk:Tok} {wr:List Addr} {s0:Shared} {loc0:Loc} {at0:At} (S0:St c loc0 at0 s0) {q:Bool} (P:Post q c loc at_ s0 s) (hw:∀ b∈wr,s0.heap.get? b=none) (hf:∀ b∈wr,RecR s.heap b)
  (k:∀ b o,b∉wr→s.heap.get? b=some o→h'.get? b=some o):Post false c loc at_ s0 { s with heap:=h',toks:=tk }:=by
 have kF:∀ b o,s.heap.get? b=some o→Nf o→h'.get? b=some o:=fun b o e nf=>k b o (fun q=>by
  obtain⟨o',vs,e',d'⟩:=hf b q
  exact nf vs (Option.some.inj (e'.symm.trans e)▸d')) e
 have kO:∀ b o o',s0.heap.get? b=some o'→s.heap.get? b=some o→h'.get? b=some o:=fun b o o' e0 e=>k b o (fun q=>Heap.ne_of_none e0 (hw b q) rfl) e
 refine⟨P.1.kept ⟨fun b o e=>kO b o _ (S0.stays b o e) (P.1.stays b o e),fun b o e n=>kO b o _ (S0.keep b o e n) (P.1.keep b o e n)⟩ (fun b hb o o' e e'=> ?_) kF,fun b o e n=>kO b o o e (P.2 b o e n),nofun⟩
 obtain⟨sl,x,_⟩:=S0.slots b hb o e
 exact kO b o' _ x e'
inductive ForI (c:Cx) (F:SF) (i:Nat) (xs:List SV) (s:Shared) (StW:Nat→Heap→Prop) (r:Out×Loc×At) (k:Nat) (s₃:Shared):Prop
 |mk (j:Nat) (loc1:Loc) (at1:At) (ek:k=xs.length+1-j) (hj:j≤xs.length) (P:Post false c loc1 at1 s s₃) (h:StW j s₃.heap) (e:forN (xs.drop j) i F loc1 at1=some r)
theorem drop_one {xs:List SV} {j:Nat} {x:SV} (h:xs[j]? =some x):xs.drop j=x::xs.drop (j+1):=by
 rw[List.drop_eq_getElem_cons (List.getElem?_eq_some_iff.mp h).1,(List.getElem?_eq_some_iff.mp h).2]
theorem S_for {x:Str} {px pos:Pos} {iter:Expr} {body:List Stmt} {fi:IF} {F:SF} (i:Nat) (hI:SoundI sc d iter fi) (hF:SoundB sc d body F) (hnd:(sc.names.map (·.1)).Nodup) (hi:(sc.names.map (·.1))[i]? =some x) (hk:sc.names.lookup x=some .local)
  (hs:∀ env x,foldedSetIterable iter env x=pure x:=by intro _ _;rfl):
  SoundS sc d (.For (.Name x px) iter body [] pos) (fun loc at_=>(fi loc at_).bind fun p=>forN p.1 i F loc p.2):=by
 intro c O loc at_ s o loc' at' S hf
 refine ob2 hf ?_;clear hf;intro xs at1 h1 hf
 refine wpAny_For (wpAny_mono (hI c O loc at_ s xs at1 (fun _ _=>False) S h1) (fun xv s₁ h₁=>noExc (wpAny_mono h₁ (fun it s₂ h₂=> ?_) fun _ _ x=>x)) fun _ _ x=>x.elim) (hs _)
 obtain⟨P₂,I,fp,wr,P,StW,rfl,W,hst,hfp,hwr,hfl,hP,_⟩:=h₂
 refine codeAny_forLoop (ForI c F i xs s StW (o,loc',at')) (fun k s₃ hI=> ?_) (xs.length+1) ⟨0,loc,at1,rfl,Nat.zero_le _,P₂.weak,hst,hf⟩
 obtain⟨j,loc1,at1',ek,hj,P₃,hst3,hl⟩:=hI
 by_cases hlt:j<xs.length
 ·refine W.item j s₃ _ _ hlt hst3 fun v h' tk hv hst' hk'=> ?_
  obtain⟨x0,hx0,hr⟩:=hP j v hlt hv
  rw[drop_one hx0] at hl
  refine ob3 hl ?_;clear hl;intro o1 loc2 at2 h2 hl
  have P₄:Post false c loc1 at1' s { s₃ with heap:=h',toks:=tk }:=St.wr S P₃ hwr (hfl j _ hst3) hk'
  refine wpAny_assign_Name (storeName_ok O P₄.1 hnd hi hk (mv:=.s x0) hr fun s₅ P₅=>hF.use O P₅.1 h2 (fun fl s₆ hfl6 P₆=> ?_) fun k' e s₆ ho hy x=>loop_exc (X:=forN (xs.drop (j+1)) i F) hl ho fun hl=>oe3 hl (exc_pass O rfl x fun s₇ x₇=>⟨k',rfl,hy,x₇.pre (P₄.trans P₅)⟩))
  have P':=P₄.trans (P₅.trans P₆)
  refine loop_out (X:=forN (xs.drop (j+1)) i F) hl hfl6 (fun e hl=> ?_) (fun e hl=>oe3 hl (e▸⟨rfl,P'⟩)) fun v e hr hl=>oe3 hl ?_
  ·have z:∃ m,m<k∧ForI c F i xs s StW (o,loc',at') m s₆:=⟨xs.length+1-(j+1),ek▸Nat.sub_lt_sub_left (Nat.lt_succ_of_lt hlt) (Nat.lt_succ_self j),j+1,loc2,at2,rfl,hlt,P',W.frame _ _ _ hst' fun b hb o e=>P₆.2 b o (P₅.2 b o e (hfp b hb)) (hfp b hb),hl⟩
   rcases e with rfl |rfl<;>exact z
  ·subst e
   exact⟨hr,P'⟩
 ·rw[List.drop_of_length_le (Nat.not_lt.mp hlt)] at hl
  exact oe3 hl (W.done s₃ _ _ (Nat.le_antisymm hj (Nat.not_lt.mp hlt)▸hst3) fun h' tk hk'=>wpAny_execs_nil ⟨rfl,St.wr S P₃ hwr (hfl j _ hst3) hk'⟩)
noncomputable def rangeL (a b c:Int):List SV:=(List.range (Builtin.Range.rangeSize a b c).toNat).map fun i=>.int (a+(i:Nat)*c)
theorem St.ex_some {c:Cx} {loc:Loc} {at_:At} {s:Shared} (S:St c loc at_ s) {b:Addr} (hb:b∈c.ex):∃ o,s.heap.get? b=some o:=by
 refine Cx.ex_cases hb (fun q=> ?_) (fun z q=> ?_) fun q=> ?_
 ·obtain⟨m,n,_⟩:=S.ns
  obtain⟨o,es,ep,e,d⟩:=Ns.fd n
  exact⟨o,q▸e⟩
 ·obtain⟨es,n,e,_⟩:=(S.self z).at_.dict
  exact⟨_,q▸e⟩
 ·obtain⟨o,es,ep,e,d⟩:=S.fd b q
  exact⟨o,e⟩
theorem exNew {c:Cx} {loc:Loc} {at_:At} {s:Shared} (S:St c loc at_ s) {b:Addr} (h:s.heap.get? b=none):b∉c.ex:=by
 intro hb
 obtain⟨o,e⟩:=S.ex_some hb
 exact Heap.ne_of_none e h rfl
theorem Post.new {q:Bool} {c:Cx} {loc:Loc} {at1:At} {s s1:Shared} (P:Post q c loc at1 s s1) {b:Addr} (h:s1.heap.get? b=none):s.heap.get? b=none:=
 Option.eq_none_iff_forall_ne_some.mpr fun o e=>Heap.ne_of_none (P.2 b o e (exNew P.1 h)) h rfl
theorem new_get (h:Heap):h.get? h.objs.size=none:=Heap.get?_none_of_le (Nat.le_refl _)
theorem range_iter {c:Cx} (O:c.Ok sc d) {loc:Loc} {s s1:Shared} {E:Value→Shared→Prop} {r:Addr} {a b st:Int} {t u v:Tok} {at1:At} (P:Post true c loc at1 s s1) (hr:IsRange s1.heap r a b st t u v) (hsm:Builtin.Range.small a b st=true) (hn:0≤Builtin.Range.rangeSize a b st):
  wpAny (model pw c.w) c.A (pyIter (.ref r)) (QIt c loc at1 s (rangeL a b st)) E s1:=by
 refine wpAny_pyIter_range hr hsm ?_
 have hlen:(rangeL a b st).length=(Builtin.Range.rangeSize a b st).toNat:=by rw[rangeL,List.length_map,List.length_range]
 refine⟨P.trans (Post.grow P.1 fun y o e=>Heap.get?_push_of_some _ e),s1.heap.objs.size,[s1.heap.objs.size],[s1.heap.objs.size],_,_,rfl,Walks.range O.hnd _ a st _,?_,fun x hx=> ?_,fun x hx=> ?_,fun i h hst x hx=> ?_,fun i v hlt hv=> ?_,fun x hx=> ?_⟩
 ·show IsRangeIter _ _ (a+((0:Nat):Int)*st) (((rangeL a b st).length:Int)-((0:Nat):Int)) st
  rw[hlen,Int.toNat_of_nonneg hn,Int.natCast_zero,Int.zero_mul,Int.add_zero,Int.sub_zero]
  exact Heap.get?_push_size _ rfl
 ·exact List.mem_singleton.mp hx▸exNew P.1 (new_get _)
 ·exact List.mem_singleton.mp hx▸P.new (new_get _)
 ·exact List.mem_singleton.mp hx▸⟨_,_,hst,rfl⟩
 ·obtain⟨tk,rfl⟩:=hv
  rw[hlen] at hlt
  refine⟨.int (a+(i:Nat)*st),?_,tk,rfl⟩
  rw[rangeL,List.getElem?_map,List.getElem?_range hlt]
  rfl
 ·rw[List.mem_singleton.mp hx]
  exact Nat.lt_of_lt_of_eq (Nat.lt_succ_self _) (Heap.size_push _ _).symm
noncomputable def smallI (n:Int):Bool:=decide (-1000000≤n)&&decide (n≤1000000)
theorem size_nn (a b c:Int) (hc:c=1∨c= -1):0≤Builtin.Range.rangeSize a b c:=by
 rcases hc with rfl |rfl<;>(unfold Builtin.Range.rangeSize;simp;split<;>lia)
theorem small_of {a b c:Int} (ha:smallI a=true) (hb:smallI b=true) (hc:c=1∨c= -1):Builtin.Range.small a b c=true:=by
 unfold smallI at ha hb
 simp only[Bool.and_eq_true,decide_eq_true_eq] at ha hb
 rcases hc with rfl |rfl
 ·exact small_one (by lia) (by lia) (by lia) (by lia)
 ·unfold Builtin.Range.small Builtin.Range.rangeSize
  simp only[Builtin.Range.rangeFitsLong,Bool.and_eq_true,Bool.or_eq_true,decide_eq_true_eq,beq_iff_eq]
  simp
  split<;>omega
noncomputable def intV (m:MV):Option Int:=match m with
 | .s (.int n)=>some n
 |_=>none
theorem intV_eq {m:MV} {n:Int} (h:intV m=some n):m= .s (.int n):=intM h fun k e h=>e.trans (congrArg (fun k=>MV.s (.int k)) (Option.some.inj h))
noncomputable def rangeB (xs:List MV):Option (Int×Int×Int):=match xs with
 | [m]=>(intV m).map fun b=>(0,b,1)
 | [m,n]=>(intV m).bind fun a=>(intV n).map fun b=>(a,b,1)
 | [m,n,k]=>(intV m).bind fun a=>(intV n).bind fun b=>(intV k).bind fun c=>if c= -1 then some (a,b, -1) else none
 |_=>none
noncomputable abbrev fRange2 (fa:AF):IF:=fun loc at_=>(fa loc at_).bind fun p=>(rangeB p.1).bind fun q=>if smallI q.1=true∧smallI q.2.1=true then some (rangeL q.1 q.2.1 q.2.2,p.2) else none
theorem V_int {w:World} {X:Option Addr} {ex:List Addr} {h:Heap} {m:MV} {n:Int} {v:Value} (x:VRel w X ex h m v) (e:intV m=some n):∃ t,v= .int n t:=by
 rw[intV_eq e] at x
 exact x
theorem call_range {w:World} {A:Around} {X:Option Addr} {ex:List Addr} {h:Heap} {xs:List MV} {vs:List Value} {q:Int×Int×Int} {s:Shared} {E Q:Value→Shared→Prop} (hb:rangeB xs=some q) (hvs:VRels w X ex h xs vs) (hq:∀ o t u v tk,(q.2.2=1∨q.2.2= -1)→IsRange (s.heap.push o) s.heap.objs.size q.1 q.2.1 q.2.2 t u v→Q (.ref s.heap.objs.size) { s with heap:=s.heap.push o,toks:=tk }):wpAny (model pw w) A (call (.type "range") vs) Q E s:=by
 cases hvs with
 |nil=>exact nn hb
 |cons x y=>cases y with
  |nil=>
   refine om1 hb fun n e hb=> ?_
   obtain⟨t,rfl⟩:=V_int x e
   subst hb
   exact call_range_1 (hq _ _ _ _ _ (.inl rfl) (IsRange.new ..))
  |cons y z=>cases z with
   |nil=>
    refine ob1 hb fun n e hb=>om1 hb fun n' e' hb=> ?_
    obtain⟨t,rfl⟩:=V_int x e
    obtain⟨u,rfl⟩:=V_int y e'
    subst hb
    exact call_range_2 (hq _ _ _ _ _ (.inl rfl) (IsRange.new ..))
   |cons z z'=>cases z' with
    |nil=>
     refine ob1 hb fun n e hb=>ob1 hb fun n' e' hb=>ob1 hb fun k e'' hb=>if_of hb fun hk hb=> ?_
     obtain⟨t,rfl⟩:=V_int x e
     obtain⟨u,rfl⟩:=V_int y e'
     obtain⟨v,rfl⟩:=V_int z e''
     subst hb hk
     exact call_range_3 (by decide) (hq _ _ _ _ _ (.inr rfl) (IsRange.new ..)) (.inl (PyProof.noPylong_small (by decide)))
    |cons _ _=>exact nn hb
theorem I_range {np pos:Pos} {args:List Expr} {fa:AF} (ha:SoundA sc d args fa) (hne:∀ env,∃ t r,starEach args env=(false,t)::r:=by intro _;exact (wit2 rfl)) (hk:sc.names.lookup ("range":Str)=some .globalImplicit):
  SoundI sc d (.Call (.Name "range" np) args [] pos) (fRange2 fa):=by
 intro c O loc at_ s xs at' E S hf
 refine ob2 hf ?_;clear hf;intro ms at1 h1 hf
 refine ob1 hf ?_;clear hf;intro q h2 hf
 refine if_on hf ?_;clear hf;intro hs hf
 refine wpAny_Call_NameR (name_builtin O S hk (by decide) (v:=.type "range") (by revert c;intro c _ _;kernel_rfl) (by decide+kernel) (by decide) ?_)
 obtain⟨t,rr,he⟩:=hne c.env
 have hx:=ha.2 c O pos loc at_ s _ _ E S h1
 have hp:=ha.1 c.env
 rw[he] at hx hp ⊢
 exact oe2 hf (PySem.callWith_type (by rw[backTo_any];exact hp) (evalArgs_plain (wpAny_mono hx (fun vs s₁ y=>call_range h2 y.1 fun o t u v tk e hr=>range_iter O (y.2.trans (Post.grow y.2.1 fun y o e=>Heap.get?_push_of_some _ e)) hr (small_of hs.1 hs.2 e) (size_nn _ _ _ e)) fun _ _ x=>x)))
end
end
section
noncomputable def FnOk (f:Addr) (d:Nat) (F:List MV→At→Option (MV×At)):Prop:=
 ∀ (c:Cx) (sc:Scope),c.Ok sc d→∀ (loc:Loc) (at_:At) (s:Shared) (args:List MV) (vals:List Value) (r:MV) (at':At) (R:Result→Shared→Prop),St c loc at_ s→c.Vs s.heap args vals→F args at_=some (r,at')→
  (∀ v s',c.V s'.heap r v→Post true c loc at' s s'→R (.ok (.ret v)) s')→codeAny (model pw c.w) c.A (.call (.ref f) ⟨vals,[]⟩) R s
noncomputable def runBody (n m:Nat) (G:SF) (args:List MV) (at_:At):Option (MV×At):=
 if args.length=n then (G (args.map some++List.replicate m none) at_).bind fun p=>match p.1 with
  | .ret r=>some (r,p.2.2)
  | .nxt=>some (.s .none,p.2.2)
  |_=>none
 else none
theorem VRels.len {w:World} {X:Option Addr} {ex:List Addr} {h:Heap} {xs:List MV} {vs:List Value} (x:VRels w X ex h xs vs):xs.length=vs.length:=by
 induction x with
 |nil=>rfl
 |cons _ _ ih=>simp[ih]
theorem VRels.get {w:World} {X:Option Addr} {ex:List Addr} {h:Heap} {xs:List MV} {vs:List Value} (x:VRels w X ex h xs vs):∀ {i:Nat} {m:MV},xs[i]? =some m→∃ v,vs[i]? =some v∧VRel w X ex h m v:=by
 induction x with
 |nil=>intro i m e;simp at e
 |cons a b ih=>
  intro i m e
  cases i with
  |zero=>simp only[List.getElem?_cons_zero,Option.some.injEq] at e ⊢;subst e;exact⟨_,rfl,a⟩
  |succ i=>simp only[List.getElem?_cons_succ] at e ⊢;exact ih e
theorem VRels.keep {w:World} {X:Option Addr} {ex:List Addr} {h h':Heap} (k:Keep ex h h') {xs:List MV} {vs:List Value} (x:VRels w X ex h xs vs):VRels w X ex h' xs vs:=by
 induction x with
 |nil=>exact .nil
 |cons a _ ih=>exact .cons (a.keep k) ih
theorem lookup_nodup {x:Str} {v:Value}:∀ {l:List (Str×Value)},(l.map (·.1)).Nodup→(x,v)∈l→l.lookup x=some v:=by
 intro l
 induction l with
 |nil=>intro _ h;cases h
 |cons p r ih=>
  intro hn hm
  rw[List.map_cons,List.nodup_cons] at hn
  cases hm with
  |head=>exact List.lookup_cons_self
  |tail _ q=>
   have this:x≠p.1:=fun z=>hn.1 (z▸List.mem_map_of_mem (f:=(·.1)) q)
   rw[List.lookup_cons,beq_eq_false_iff_ne.mpr this]
   exact ih hn.2 q
theorem zip_lookup (ps:List Str) (vs:List Value) (i:Nat) (x:Str) (v:Value) (nd:ps.Nodup) (hl:ps.length=vs.length) (hp:ps[i]? =some x) (hv:vs[i]? =some v):(ps.zip vs).reverse.lookup x=some v:=by
 apply lookup_nodup
 ·rw[List.map_reverse,(List.reverse_perm _).nodup_iff,List.map_fst_zip (Nat.le_of_eq hl)]
  exact nd
 ·rw[List.mem_reverse]
  exact List.mem_of_getElem? (i:=i) (List.getElem?_zip_eq_some.mpr ⟨hp,hv⟩)
theorem mem_zip_fst:∀ {ps:List Str} {vs:List Value} {y:Str×Value},y∈ps.zip vs→y.1∈ps:=by
 intro ps vs y h
 exact (List.of_mem_zip h).1
section
variable {sc:Scope} {d:Nat}
noncomputable def methOk (K:Frag) (m:Str) (f:Addr):Bool:=plainGet K 409 m&&(findIn K (.ref 409) m==some (some (.ref f)))&&isFn K (.ref f)&&keepIn K (.ref f)
noncomputable abbrev fMeth (fo:EF) (fa:AF) (F:List MV→At→Option (MV×At)):EF:=fun loc at_=>(fo loc at_).bind fun p=>match p.1 with
 | .self=>(fa loc p.2).bind fun q=>F (.self::q.1) q.2
 |_=>none
theorem obSelf {α:Type} {f:Option (MV×At)} {g:At→Option α} {r:α} {G:Prop} (hf:(f.bind fun p=>match p.1 with | .self=>g p.2 |_=>none)=some r) (k:∀ at1,f=some (.self,at1)→g at1=some r→G):G:=by
 refine ob2 hf ?_;clear hf;intro m at1 h1 hf
 refine mSelf hf ?_;clear hf;intro e hf
 exact k at1 ((show m= .self from e)▸h1) hf
theorem call_of {f:Addr} {F:List MV→At→Option (MV×At)} {c:Cx} (O:c.Ok sc d) (hf:FnOk f d F) {loc:Loc} {at_:At} {s:Shared} {args:List MV} {vals:List Value} {r:MV} {at':At} {E:Value→Shared→Prop} {Q:Value→Shared→Prop} (S:St c loc at_ s) (hv:c.Vs s.heap args vals) (h:F args at_=some (r,at'))
  (hq:∀ v s',c.V s'.heap r v→Post true c loc at' s s'→Q v s'):wpAny (model pw c.w) c.A (call (.ref f) vals) Q E s:=
 wpAny_call (hf c sc O loc at_ s args vals r at' _ S hv h fun v s' hv P=>hq v s' hv P)
theorem meth_core {o:Expr} {m:Str} {apos pos:Pos} {args:List Expr} {f:Addr} {fo:EF} {pl:Env→Sem Bool} (ho:SoundE sc d o fo) (hm:∀ P,methOk (KV P) m f=true) (hn:m∉atNames)
  (he:∀ env,eval (.Call (.Attribute o m apos) args [] pos) env=(do
   let ov ←eval o env
   standAt apos.atName
   let (f,first) ←holding [ov] (getMethod ov m (pl env))
   callWith pos f first (backTo pos (starEach args env)) []))
  {c:Cx} (O:c.Ok sc d) {loc:Loc} {at_ at1:At} {s:Shared} {E:Value→Shared→Prop} {Q:Value→Shared→Prop} (S:St c loc at_ s) (h1:fo loc at_=some (.self,at1))
  (h:∀ s₁,Post true c loc at1 s s₁→c.oX=some c.X→wpAny (model pw c.w) c.A (callWith pos (.ref f) [.ref c.X] (backTo pos (starEach args c.env)) []) Q E s₁):
  wpAny (model pw c.w) c.A (eval (.Call (.Attribute o m apos) args [] pos) c.env) Q E s:=by
 have ok:=hm c.w.params
 unfold methOk at ok
 simp only[Bool.and_eq_true,beq_iff_eq] at ok
 obtain⟨⟨⟨o1,o2⟩,o3⟩,o4⟩:=ok
 refine MethodCall_ (ho.use O S h1 fun v s₁ hv P=> ?_) (he _)
 have V:=V_self hv
 rw[V.2]
 obtain⟨es,n,I,RR⟩:=(P.1.self V.1).at_.instAt
 exact method_fn (P.1.K O) I (plainGet_of o1).1 (plainGet_of o1).2 o2 (beq_iff_eq.mp o3) (by show (lookIn m (PySem.W.dictOf es n)).map _=_;rw[lookIn_dict,RR.getNone hn];rfl) (h s₁ P (by unfold Cx.oX;rw[V.1];rfl))
theorem meth_keep {m:Str} {f:Addr} (hm:∀ P,methOk (KV P) m f=true) (P:Params):keepIn (KV P) (.ref f)=true:=by
 have ok:=hm P
 unfold methOk at ok
 simp only[Bool.and_eq_true,beq_iff_eq] at ok
 exact ok.2
theorem E_meth {o:Expr} {m:Str} {apos pos:Pos} {args:List Expr} {f:Addr} {fo:EF} {fa:AF} {F:List MV→At→Option (MV×At)} {pl:Env→Sem Bool} (ho:SoundE sc d o fo) (ha:SoundA sc d args fa) (hf:FnOk f d F) (hm:∀ P,methOk (KV P) m f=true) (hn:m∉atNames)
  (hne:∀ env,∃ t r,starEach args env=(false,t)::r)
  (he:∀ env,eval (.Call (.Attribute o m apos) args [] pos) env=(do
   let ov ←eval o env
   standAt apos.atName
   let (f,first) ←holding [ov] (getMethod ov m (pl env))
   callWith pos f first (backTo pos (starEach args env)) [])):
  SoundE sc d (.Call (.Attribute o m apos) args [] pos) (fMeth fo fa F):=by
 intro c O loc at_ s r at' E S hF
 refine obSelf (g:=fun a=>(fa loc a).bind fun q=>F (.self::q.1) q.2) hF ?_;clear hF;intro at1 h1 hF
 refine ob2 hF ?_;clear hF;intro xs at2 h2 hF
 refine meth_core ho hm hn he O S h1 fun s₁ P ex=> ?_
 obtain⟨t,rr,he'⟩:=hne c.env
 have hx:=ha.2 c O pos loc at1 s₁ _ _ E P.1 h2
 have hp:=ha.1 c.env
 rw[he'] at hx hp ⊢
 refine callWith_of (by rw[backTo_any,hp];rfl) (keeps_K (meth_keep hm c.w.params)) (evalArgs_plain (wpAny_mono hx (fun vs s₂ y=>⟨y.2.1.K O,call_of O hf y.2.1 (.cons (x:=.self) ⟨c.X,ex,rfl⟩ y.1) hF fun v s' hv P''=>⟨hv,P.trans (y.2.trans P'')⟩⟩) fun _ _ x=>x))
theorem E_meth0 {o:Expr} {m:Str} {apos pos:Pos} {f:Addr} {fo:EF} {F:List MV→At→Option (MV×At)} {pl:Env→Sem Bool} (ho:SoundE sc d o fo) (hf:FnOk f d F) (hm:∀ P,methOk (KV P) m f=true) (hn:m∉atNames)
  (he:∀ env,eval (.Call (.Attribute o m apos) [] [] pos) env=(do
   let ov ←eval o env
   standAt apos.atName
   let (f,first) ←holding [ov] (getMethod ov m (pl env))
   callWith pos f first (backTo pos (starEach [] env)) [])):
  SoundE sc d (.Call (.Attribute o m apos) [] [] pos) (fun loc at_=>(fo loc at_).bind fun p=>match p.1 with
   | .self=>F [.self] p.2
   |_=>none):=by
 intro c O loc at_ s r at' E S hF
 refine obSelf (g:=fun a=>F [.self] a) hF ?_;clear hF;intro at1 h1 hF
 refine meth_core ho hm hn he O S h1 fun s₁ P ex=> ?_
 exact callWith_of rfl (keeps_K (meth_keep hm c.w.params)) (evalArgs_nil3 ⟨P.1.K O,call_of O hf P.1 (.cons (x:=.self) ⟨c.X,ex,rfl⟩ .nil) hF fun v s' hv P'=>⟨hv,P.trans P'⟩⟩)
theorem E_fn {fn:Str} {np pos:Pos} {args:List Expr} {f:Addr} {fa:AF} {F:List MV→At→Option (MV×At)} (ha:SoundA sc d args fa) (hf:FnOk f d F) (hk:sc.names.lookup fn=some .globalImplicit) (hd:(fn==("__debug__":Str))=false)
  (hg:∀ P,nsIn (KV P) mainGlobals fn=some (some (.ref f))) (hkp:∀ P,keepIn (KV P) (.ref f)=true) (hne:∀ env,∃ t r,starEach args env=(false,t)::r):
  SoundE sc d (.Call (.Name fn np) args [] pos) (fun loc at_=>(fa loc at_).bind fun q=>F q.1 q.2):=by
 intro c O loc at_ s r at' E S hF
 refine ob2 hF ?_;clear hF;intro xs at2 h2 hF
 refine wpAny_Call_NameR (name_glob O S hk hd (hg _) ?_)
 obtain⟨t,rr,he'⟩:=hne c.env
 have hx:=ha.2 c O pos loc at_ s _ _ E S h2
 have hp:=ha.1 c.env
 rw[he'] at hx hp ⊢
 refine callWith_of (by rw[backTo_any,hp];rfl) (keeps_K (hkp c.w.params)) (evalArgs_plain (wpAny_mono hx (fun vs s₁ y=>⟨y.2.1.K O,call_of O hf y.2.1 y.1 hF fun v s' hv P''=>⟨hv,y.2.trans P''⟩⟩) fun _ _ x=>x))
theorem E_fn0 {fn:Str} {np pos:Pos} {f:Addr} {F:List MV→At→Option (MV×At)} (hf:FnOk f d F) (hk:sc.names.lookup fn=some .globalImplicit) (hd:(fn==("__debug__":Str))=false)
  (hg:∀ P,nsIn (KV P) mainGlobals fn=some (some (.ref f))) (hkp:∀ P,keepIn (KV P) (.ref f)=true):
  SoundE sc d (.Call (.Name fn np) [] [] pos) (fun loc at_=>F [] at_):=by
 intro c O loc at_ s r at' E S hF
 refine wpAny_Call_NameR (name_glob O S hk hd (hg _) ?_)
 exact callWith_of rfl (keeps_K (hkp c.w.params)) (evalArgs_nil3 ⟨S.K O,call_of O hf S .nil hF fun v s' hv P=>⟨hv,P⟩⟩)
end
end
section
noncomputable def simps:List MV→Option (List SV)
 | []=>some []
 |m::r=>(simp1 m).bind fun x=>(simps r).map (x:: ·)
noncomputable def strsOf:List SV→Option (List (List Nat))
 | []=>some []
 |m::r=>match m with
  | .str x=>(strsOf r).map (x:: ·)
  |_=>none
noncomputable def intsOf:List SV→Option (List Int)
 | []=>some []
 |m::r=>match m with
  | .int x=>(intsOf r).map (x:: ·)
  |_=>none
theorem simps_rel {w:World} {X:Option Addr} {ex:List Addr} {h:Heap} {ms:List MV} {vs:List Value} (x:VRels w X ex h ms vs):∀ {xs:List SV},simps ms=some xs→SRels xs vs:=by
 induction x with
 |nil=>intro xs h;injection h;exact .nil
 |cons a _ ih=>
  intro xs h
  refine ob1 h fun y h1 h=>om1 h fun ys h2 e=> ?_
  rw[simp1_eq h1] at a
  exact e▸ .cons a (ih h2)
theorem strs_rel {xs:List SV} {vs:List Value} (x:SRels xs vs):∀ {ys:List (List Nat)},strsOf xs=some ys→StrsAre vs (ys.map strL):=by
 induction x with
 |nil=>intro ys h;injection h;exact .nil
 | @cons y xs v vs a _ ih=>
  intro ys h
  cases y with
  |str x=>
   obtain⟨t,rfl⟩:=a
   exact om1 h fun zs h2 e=>e▸ .cons _ t (ih h2)
  |_=>exact nn h
theorem ints_rel {xs:List SV} {vs:List Value} (x:SRels xs vs):∀ {ys:List Int},intsOf xs=some ys→IntsAre vs ys:=by
 induction x with
 |nil=>intro ys h;injection h;exact .nil
 | @cons y xs v vs a _ ih=>
  intro ys h
  cases y with
  |int x=>
   obtain⟨t,rfl⟩:=a
   exact om1 h fun zs h2 e=>e▸ .cons _ t (ih h2)
  |_=>exact nn h
section
variable {sc:Scope} {d:Nat}
theorem newList_ok {c:Cx} {loc:Loc} {at_:At} {s:Shared} {E:Value→Shared→Prop} {Q:Value→Shared→Prop} (S:St c loc at_ s) {vs:List Value} {xs:List SV} (hr:SRels xs vs) (hsz:xs.length≤1000000)
  (hq:∀ v s',c.V s'.heap (.list xs) v→Post true c loc at_ s s'→Q v s'):wpAny (model pw c.w) c.A (newList vs) Q E s:=
 wpAny_newObj_type (hq _ _ ⟨s.heap.objs.size,vs,rfl,exNew S (new_get _),⟨_,Heap.get?_push_size _ rfl,rfl,0,rfl⟩,hr⟩ (Post.grow S fun b o e=>Heap.get?_push_of_some _ e)) (le_line (Nat.le_trans (Nat.le_of_eq hr.len.symm) hsz) (Nat.le_refl _))
noncomputable abbrev fList (fa:AF):EF:=fun loc at_=>(fa loc at_).bind fun p=>(simps p.1).bind fun xs=>if xs.length≤1000000 then some (.list xs,p.2) else none
theorem E_list {elts:List Expr} {pos:Pos} {fa:AF} (ha:SoundA sc d elts fa):SoundE sc d (.List elts pos) (fList fa):=by
 intro c O loc at_ s r at' E S hf
 refine ob2 hf ?_;clear hf;intro ms at1 h1 hf
 refine ob1 hf ?_;clear hf;intro xs h2 hf
 refine if_on hf ?_;clear hf;intro hl hf
 exact oe2 hf (List_ (ha.use O S h1 fun vs s₁ hvs P=>newList_ok P.1 (simps_rel hvs h2) hl fun v s' hv P'=>⟨hv,P.trans P'⟩))
noncomputable def inV (m n:MV):Option Bool:=match m with
 | .s (.str x)=>(match n with
  | .set xs=>some (xs.contains x)
  | .list xs=>(strsOf xs).map fun ys=>ys.contains x
  | .dict kv=>some (kv.any fun p=>p.1==x)
  |_=>none)
 |_=>none
theorem drel_none {kv:List (List Nat×List Nat)} {kvs:List (Str×Value)} (h:DRels kv kvs) {x:List Nat} (e:kv.find? (fun p=>p.1==x)=none):valueAt kvs (strL x)=none:=by
 induction h with
 |nil=>rfl
 | @cons k y kv v kvs a b ih=>
  rw[List.find?_cons] at e
  cases q:k==x with
  |true=>rw[q] at e;cases e
  |false=>
   rw[q] at e
   show ((((strL k,v)::kvs).find? fun kv=>decide (kv.1=strL x)).map (·.2))=none
   rw[List.find?_cons,show decide (strL k=strL x)=false from (strL_beq k x).trans q]
   exact ih e
theorem drel_some {kv:List (List Nat×List Nat)} {kvs:List (Str×Value)} (h:DRels kv kvs) {x:List Nat} {p:List Nat×List Nat} (e:kv.find? (fun p=>p.1==x)=some p):∃ v,valueAt kvs (strL x)=some v∧SRel (.str p.2) v:=by
 induction h with
 |nil=>cases e
 | @cons k y kv v kvs a b ih=>
  rw[List.find?_cons] at e
  show ∃ u,(((strL k,v)::kvs).find? fun kv=>decide (kv.1=strL x)).map (·.2)=some u∧_
  rw[List.find?_cons,show decide (strL k=strL x)=_ from strL_beq k x]
  cases q:k==x with
  |true=>rw[q] at e;exact⟨v,rfl,Option.some.inj e▸a⟩
  |false=>rw[q] at e;exact ih e
theorem contains_map_strL (ys:List (List Nat)) (x:List Nat):(ys.map strL).any (· ==strL x)=ys.contains x:=by
 induction ys with
 |nil=>rfl
 |cons y r ih=>
  rw[List.map_cons,List.any_cons,ih,strL_beq,List.contains_cons]
  congr 1
  rw[Bool.eq_iff_iff,beq_iff_eq,beq_iff_eq]
  exact eq_comm
theorem inV_str {w:World} {A:Around} {ex:List Addr} {s:Shared} {E:Value→Shared→Prop} {Q:Value→Shared→Prop} {X:Option Addr} {x:List Nat} {t:Tok} {n:MV} {b:Value} {r:Bool} (neg:Bool) (hb:VRel w X ex s.heap n b) (h:inV (.s (.str x)) n=some r)
  (hq:∀ tk,Q (.bool (if neg then !r else r)) { s with toks:=tk }):wpAny (model pw w) A (compareOp (if neg then .NotIn else .In) (.str (strL x) t) b) Q E s:=by
 cases n with
 |set xs=>
  obtain⟨ad,n,rfl,_,hs⟩:=hb
  have e:xs.contains x=r:=Option.some.inj h
  cases neg with
  |true=>exact wpAny_notInSet_of strKind_is' rfl hs (e▸hq _)
  |false=>exact wpAny_inSet_of strKind_is' rfl hs (e▸hq _)
 |list xs=>
  obtain⟨ad,vs,rfl,_,hl,hr⟩:=hb
  refine om1 h fun ys h1 e=> ?_
  cases neg with
  |true=>exact notin_list_strs hl (strs_rel hr h1) (by rw[contains_map_strL,e];exact hq s.toks)
  |false=>exact in_list_strs hl (strs_rel hr h1) (by rw[contains_map_strL,e];exact hq s.toks)
 |dict kv=>
  obtain⟨ad,kvs,rfl,_,hd,hr,hne⟩:=hb
  have key:(valueAt kvs (strL x)).isSome=r:=by
   rw[←show kv.any (fun p=>p.1==x)=r from Option.some.inj h,←List.isSome_find?]
   cases q:kv.find? (fun p=>p.1==x) with
   |some p=>obtain⟨v,e,_⟩:=drel_some hr q;rw[e];rfl
   |none=>rw[drel_none hr q];rfl
  cases neg with
  |true=>exact wpAny_notIn_of strKind_is' hne hd.mapOf (key▸hq _)
  |false=>exact wpAny_in_of strKind_is' hne hd.mapOf (key▸hq _)
 |_=>exact nn h
theorem inV_ok {c:Cx} {s:Shared} {E:Value→Shared→Prop} {Q:Value→Shared→Prop} {m n:MV} {a b:Value} {r:Bool} (neg:Bool) (ha:c.V s.heap m a) (hb:c.V s.heap n b) (h:inV m n=some r)
  (hq:∀ tk,Q (.bool (if neg then !r else r)) { s with toks:=tk }):wpAny (model pw c.w) c.A (compareOp (if neg then .NotIn else .In) a b) Q E s:=by
 refine strM (g:=fun x=>inV (.s (.str x)) n) h fun x e h=> ?_
 rw[e] at ha
 obtain⟨t,rfl⟩:=ha
 exact inV_str neg hb h hq
noncomputable abbrev fIn2 (neg:Bool) (fa fb:EF):CF:=fun loc at_=>(fa loc at_).bind fun p=>(fb loc p.2).bind fun q=>(inV p.1 q.1).map fun r=>(if neg then !r else r,q.2)
theorem in2_core {l r:Expr} {fa fb:EF} (neg:Bool) (ha:SoundE sc d l fa) (hb:SoundE sc d r fb) {c:Cx} (O:c.Ok sc d) {loc:Loc} {at_:At} {s:Shared} {z:Bool} {at':At} {E:Value→Shared→Prop} {Q:Value→Shared→Prop} (S:St c loc at_ s) (hf:fIn2 neg fa fb loc at_=some (z,at'))
  (hq:∀ s',Post true c loc at' s s'→Q (.bool z) s'):wpAny (model pw c.w) c.A (eval l c.env) (fun a s₁=>wpAny (model pw c.w) c.A (eval r c.env) (fun b s₂=>wpAny (model pw c.w) c.A (compareOp (if neg then .NotIn else .In) a b) Q E s₂) E s₁) E s:=by
 refine ob2 hf ?_;clear hf;intro m1 at1 h1 hf
 refine ob2 hf ?_;clear hf;intro m2 at2 h2 hf
 refine om1 hf ?_;clear hf;intro b0 h3 e
 refine inp2 e fun e e'=>ha.use O S h1 fun v s₁ hv P=>hb.use O P.1 h2 fun v' s₂ hv' P'=>inV_ok neg (hv.keep P'.2) hv' h3 fun tk=> ?_
 rw[e]
 exact hq _ (e'▸P.trans (P'.trans (Post.tok P'.1)))
theorem C_in2 {l r:Expr} {pos:Pos} {fa fb:EF} (neg:Bool) (ha:SoundE sc d l fa) (hb:SoundE sc d r fb) (hm:behindInMarks (if neg then .NotIn else .In) r=false:=by rfl):SoundC sc d (.Compare l [if neg then .NotIn else .In] [r] pos) (fIn2 neg fa fb):=by
 intro c O loc at_ s r' at' E S hf
 exact wpAny_isTrue_Compare1 (in2_core neg ha hb O S hf fun s' P=>wpAny_truthy_bool ⟨rfl,P⟩) hm
theorem E_in2 {l r:Expr} {pos:Pos} {fa fb:EF} (neg:Bool) (ha:SoundE sc d l fa) (hb:SoundE sc d r fb) (hm:behindInMarks (if neg then .NotIn else .In) r=false:=by rfl):SoundE sc d (.Compare l [if neg then .NotIn else .In] [r] pos) (bool1 (fIn2 neg fa fb)):=by
 intro c O loc at_ s r' at' E S hf
 refine op2 hf fun b at3 hg=> ?_
 exact wpAny_Compare1 (in2_core neg ha hb O S hg fun s' P=>⟨rfl,P⟩) hm
theorem E_gstr {x:Str} {pos:Pos} {l:List Nat} (hk:sc.names.lookup x=some .globalImplicit) (hd:(x==("__debug__":Str))=false) (hg:∀ P,∃ t,nsIn (KV P) mainGlobals x=some (some (.str (strL l) t))):SoundE sc d (.Name x pos) (fun _ at_=>some (.s (.str l),at_)):=by
 intro c O loc at_ s r at' E S hf
 first |refine oe2 hf ?_ |refine oe3 hf ?_ |injection hf
 obtain⟨t,e⟩:=hg c.w.params
 exact name_glob O S hk hd e ⟨⟨t,rfl⟩,Post.refl S⟩
noncomputable def maxL (ns:List Int):Option Int:=match ns with
 | []=>none
 |n::ns=>some (ns.foldl max n)
noncomputable def opMax (xs:List MV):Option MV:=match xs with
 | [m]=>(match m with | .list xs=>(intsOf xs).bind fun ns=>(maxL ns).map fun n=>.s (.int n) |_=>none)
 |_=>none
theorem foldl_max (ns:List Int):∀ n:Int,(∀ a∈n::ns,a≤ns.foldl max n)∧ns.foldl max n∈n::ns:=by
 induction ns with
 |nil=>exact fun n=>⟨fun a h=>Int.le_of_eq (List.mem_singleton.mp h),.head _⟩
 |cons a r ih=>
  intro n
  obtain⟨h1,h2⟩:=ih (max n a)
  have hm:=h1 (max n a) (.head _)
  refine⟨fun b hb=> ?_,?_⟩
  ·cases hb with
   |head=>exact Int.le_trans (Int.le_max_left _ _) hm
   |tail _ q=>cases q with
    |head=>exact Int.le_trans (Int.le_max_right _ _) hm
    |tail _ q=>exact h1 b (.tail _ q)
  ·rcases List.mem_cons.mp h2 with q |q
   ·rw[List.foldl_cons,q]
    rcases Int.le_total n a with z |z
    ·rw[Int.max_eq_right z];exact .tail _ (.head _)
    ·rw[Int.max_eq_left z];exact .head _
   ·exact .tail _ (.tail _ q)
theorem max_ints {w:World} {A:Around} {E Q:Value→Shared→Prop} {s:Shared} {ad:Addr} {us:List Value} {n:Int} {ns:List Int} (hh:A.handled=none) (hl:s.heap.IsList ad us.toArray) (hi:IntsAre us (n::ns))
  (hq:∀ t h' tk,(∀ b o,s.heap.get? b=some o→h'.get? b=some o)→Q (.int (ns.foldl max n) t) { s with heap:=h',toks:=tk }):wpAny (model pw w) A (call (.builtin "max") [.ref ad]) Q E s:=by
 obtain⟨xs',e⟩:=hi.allInts.items
 have hns:(n::ns)=xs'.toList.map (·.1):=by
  rw[←hi.numsOf,←nums_intItems,←e]
 have hlen:(xs'.toList.map (·.1)).length=xs'.size:=by rw[List.length_map,Array.length_toList]
 rw[e] at hl
 have h0:xs'.size≠0:=by rw[←hlen,←hns];exact Nat.succ_ne_zero _
 refine max_intList hh hl (Nat.pos_of_ne_zero h0) fun v h' tk hv hk=> ?_
 obtain⟨t,rfl⟩:=intItems_at hv
 obtain⟨h1,h2⟩:=argBest_gt (numAt xs') (xs'.size-1)
 obtain⟨m1,m2⟩:=foldl_max ns n
 rw[hns] at m1 m2
 have ev:=Int.le_antisymm (m1 (numAt xs' (argBest (fun i j=>decide (numAt xs' i>numAt xs' j)) (xs'.size-1))) (by rw[numAt_eq];exact getD_mem (hlen.symm▸Nat.lt_of_le_of_lt h1 (Nat.sub_one_lt h0)))) (by
  obtain⟨j,hj,e⟩:=mem_getD m2
  rw[←e,←numAt_eq]
  exact h2 j (Nat.le_sub_one_of_lt (hlen▸hj)))
 rw[ev]
 exact hq t h' tk hk
theorem E_max {np pos:Pos} {e:Expr} {fa:AF} (ha:SoundA sc d [e] fa) (hne:∀ env,∃ t r,starEach [e] env=(false,t)::r:=by intro _;exact (wit2 rfl)) (hk:sc.names.lookup ("max":Str)=some .globalImplicit):
  SoundE sc d (.Call (.Name "max" np) [e] [] pos) (fun loc at_=>(fa loc at_).bind fun p=>(opMax p.1).map fun r=>(r,p.2)):=by
 refine E_builtin (id:="max") ha hne hk (by decide) (by decide) (by intro P;kernel_rfl) (by decide+kernel) ?_
 intro c O loc at_ s xs vs r E Q S hv h hq
 refine arg1 (P:=fun vs=>wpAny _ _ (call _ vs) Q E s) h hv fun m v hv h=> ?_
 cases m with
 |list xs=>
  obtain⟨ad,us,rfl,_,hl,hr⟩:=hv
  refine ob1 h fun ns e1 h=>om1 h fun z e2 e3=> ?_
  cases ns with
  |nil=>exact nn e2
  |cons n ns=>
   exact max_ints O.hnd hl (ints_rel hr e1) fun t h' tk hk=>hq _ _ (e3▸Option.some.inj e2▸⟨t,rfl⟩) (Post.grow S hk)
 |_=>exact nn h
end
end
section
section
variable {sc:Scope} {d:Nat}
theorem join_empty (ys:List (List Nat)):Txt.join (strL []) (ys.map strL)=strL ys.flatten:=by
 have key:∀ (ys:List (List Nat)) (acc:Array Nat),((ys.map strL).foldl (fun acc p=>acc++(strL []).cps++p.cps) acc)=acc++ys.flatten.toArray:=by
  intro ys
  induction ys with
  |nil=>intro acc;simp
  |cons y r ih=>
   intro acc
   rw[List.map_cons,List.foldl_cons,ih]
   simp[strL]
 unfold Txt.join Builtin.Str.glued
 cases ys with
 |nil=>rfl
 |cons y r=>
  rw[List.map_cons]
  show Str.mk (((strL y::r.map strL).drop 1).foldl _ (strL y).cps)=_
  rw[List.drop_one,List.tail_cons,key]
  simp[strL]
theorem join_len (ys:List (List Nat)):((ys.map strL).map (·.length)).sum+(ys.map strL).length*(strL []).length=ys.flatten.length:=by
 have e:ys.map ((fun x:Str=>x.length)∘strL)=ys.map List.length:=List.map_congr_left fun x _=>strL_len x
 rw[List.map_map,e,List.length_flatten]
 rfl
theorem listM {α:Type} {m:MV} {g:List SV→Option α} {r:α} {G:Prop} (h:(match m with | .list l=>g l |_=>none)=some r) (k:∀ l,m= .list l→g l=some r→G):G:=by
 cases m with
 |list n=>exact k n rfl h
 |_=>exact nn h
theorem E_join {z e:Expr} {apos pos:Pos} {fz fe:EF} (hz:SoundE sc d z fz) (hx:SoundE sc d e fe) {pl:Env→Sem Bool}
  (he:∀ env,eval (.Call (.Attribute z "join" apos) [e] [] pos) env=(do
   let ov ←eval z env
   standAt apos.atName
   let (f,first) ←holding [ov] (getMethod ov "join" (pl env))
   callWith pos f first (backTo pos (starEach [e] env)) []))
  (hst:∀ env,starEach [e] env=[(false,eval e env)]):
  SoundE sc d (.Call (.Attribute z "join" apos) [e] [] pos) (fun loc at_=>(fz loc at_).bind fun p=>(fe loc p.2).bind fun q=>match p.1 with
   | .s (.str l)=>(match q.1 with
    | .list xs=>if l=[] then (strsOf xs).bind fun ys=>if ys.flatten.length≤1000 then some (.s (.str ys.flatten),q.2) else none else none
    |_=>none)
   |_=>none):=by
 intro c O loc at_ s r at' E S hf
 refine ob2 hf ?_;clear hf;intro m1 at1 h1 hf
 refine ob2 hf ?_;clear hf;intro m2 at2 h2 hf
 refine strM hf ?_;clear hf;intro l e1 hf
 refine listM hf ?_;clear hf;intro xs e2 hf
 refine if_on hf ?_;clear hf;intro el hf
 refine ob1 hf ?_;clear hf;intro ys h3 hf
 refine if_on hf ?_;clear hf;intro hlen hf
 refine oe2 hf ?_;clear hf
 refine MethodCall_ (hz.use O S ((show m1=_ from e1)▸h1) fun v s₁ hv P=> ?_) (he _)
 obtain⟨t,rfl⟩:=hv
 rw[el]
 refine GM.join ?_
 rw[hst]
 refine callWith_builtin rfl (evalArgs_plain (spliced_cons (hx.use O P.1 ((show m2=_ from e2)▸h2) fun v' s₂ hv' P'=> ?_)))
 obtain⟨ad,vs,rfl,_,hl,hr⟩:=hv'
 refine spliced_nil (join_list hl (strs_rel hr h3) ?_ fun t' k=> ?_)
 ·rw[join_len]
  exact Nat.le_trans hlen (by decide)
 ·rw[join_empty]
  exact⟨⟨t',rfl⟩,P.trans (P'.trans (Post.tok P'.1))⟩
noncomputable def sliceX (l:List SV) (lo hi:Option Int):List SV:=(l.drop (clipN l.length 0 lo)).take (clipN l.length l.length hi-clipN l.length 0 lo)
theorem bounds_eq (lo hi:Option Int) (n:Nat):sliceBounds lo hi none n=(((clipN n 0 lo:Nat):Int),((clipN n n hi:Nat):Int),(1:Int)):=by
 have h1:=clip_cast n 0 lo
 have h2:=clip_cast n n hi
 unfold sliceBounds
 simp only[Option.getD_none,show ((1:Int)>0)=True from by simp,if_true] at h1 h2 ⊢
 rw[←h1,←h2]
 rfl
theorem srels_slice {xs:List SV} {vs:List Value} (h:SRels xs vs):∀ (a n:Nat),SRels ((xs.drop a).take n) ((vs.drop a).take n):=by
 have take:∀ {xs vs},SRels xs vs→∀ n,SRels (xs.take n) (vs.take n):=by
  intro xs vs h
  induction h with
  |nil=>intro n;simp;exact .nil
  |cons a _ ih=>
   intro n
   cases n with
   |zero=>exact .nil
   |succ n=>exact .cons a (ih n)
 intro a n
 induction h generalizing a with
 |nil=>simp;exact .nil
 |cons x y ih=>
  cases a with
  |zero=>exact take (.cons x y) n
  |succ a=>exact ih a
theorem slicePick_eq (vs:List Value) (lo hi:Option Int):slicePick vs.toArray lo hi none=((vs.drop (clipN vs.length 0 lo)).take (clipN vs.length vs.length hi-clipN vs.length 0 lo)).toArray:=by
 unfold slicePick
 rw[bounds_eq]
 simp only[List.size_toArray]
 rw[sliceRange_nat]
 congr 1
 have b2:clipN vs.length vs.length hi≤vs.length:=clipN_le (Nat.le_refl _) hi
 by_cases h:clipN vs.length 0 lo≤clipN vs.length vs.length hi
 ·have:=StrLaws.picks vs (clipN vs.length vs.length hi-clipN vs.length 0 lo) (clipN vs.length 0 lo) (by lia)
  simpa using this
 ·have h':clipN vs.length vs.length hi-clipN vs.length 0 lo=0:=by lia
  rw[h']
  simp
theorem is_part {v:Value} {p:Option (Int×Tok)} {o:Option Int} (e1:v=partValue p) (e2:p.map (·.1)=o):IsPart v o:=by
 subst e1 e2
 cases p with
 |none=>exact .none
 |some p=>exact .int p.1 p.2
theorem E_sliceL {value:Expr} {lower upper:Option Expr} {p pos:Pos} {fo:EF} {fl fu:PF} (ho:SoundE sc d value fo) (hl:SoundP sc d lower fl) (hu:SoundP sc d upper fu):
  SoundE sc d (.Subscript value (.Slice lower upper none p) pos) (fun loc at_=>(fo loc at_).bind fun p=>(fl loc p.2).bind fun q=>(fu loc q.2).bind fun r=>match p.1 with
   | .list l=>if l.length≤1000000 then some (.list (sliceX l q.1 r.1),r.2) else none
   |_=>none):=by
 intro c O loc at_ s r at' E S hf
 refine ob2 hf ?_;clear hf;intro m1 at1 h1 hf
 refine ob2 hf ?_;clear hf;intro m2 at2 h2 hf
 refine ob2 hf ?_;clear hf;intro m3 at3 h3 hf
 refine listM (g:=fun l=>if l.length≤1000000 then some (MV.list (sliceX l m2 m3),at3) else none) hf ?_;clear hf;intro l e hf
 refine if_on hf ?_;clear hf;intro hlen hf
 refine oe2 hf ?_;clear hf
 refine Subscript_ (ho.use O S ((show m1=_ from e)▸h1) fun v s₁ hv P=>wpAny_Slice (hl.use O P.1 h2 fun v' s₂ pl hpl el P'=>hu.use O P'.1 h3 fun v'' s₃ pu hpu eu P''=> ?_))
 rw[evalPart_none]
 refine wpAny_pure ?_
 obtain⟨ad,vs,rfl,hex,hL,hr⟩:=(hv.keep P'.2).keep P''.2
 have G0:Post true c loc _ s { s₃ with heap:=s₃.heap.push { cls:=.type "slice",data:=.fields #[v',v'',.none] } }:=P.trans (P'.trans (P''.trans (Post.grow P''.1 fun b o e=>Heap.get?_push_of_some _ e)))
 refine tail_any (hL.push _).typeIs list_getitem_lookup (wpAny_getItem_list_slice (hL.push _) (Heap.IsSliceOf.new ..) (is_part hpl el) (is_part hpu eu) .none nofun ?_ (le_line (Nat.le_trans (Nat.le_of_eq hr.len.symm) hlen) (Nat.le_refl _))) ⟨_,rfl⟩
 refine⟨⟨_,((vs.drop (clipN vs.length 0 m2)).take (clipN vs.length vs.length m3-clipN vs.length 0 m2)),rfl,exNew G0.1 (new_get _),⟨_,Heap.get?_push_size _ rfl,rfl,0,?_⟩,?_⟩,G0.trans (Post.grow G0.1 fun b o e=>Heap.get?_push_of_some _ e)⟩
 ·rw[slicePick_eq]
 ·unfold sliceX
  rw[hr.len]
  exact srels_slice hr _ _
theorem E_neNil {l:Expr} {lp pos:Pos} {fa:EF} (ha:SoundE sc d l fa):SoundC sc d (.Compare l [.NotEq] [.List [] lp] pos) (fun loc at_=>(fa loc at_).bind fun p=>match p.1 with
   | .list xs=>some (!xs.isEmpty,p.2)
   |_=>none):=by
 intro c O loc at_ s r at' E S hf
 refine ob2 hf ?_;clear hf;intro m1 at1 h1 hf
 refine listM (g:=fun xs=>some (!xs.isEmpty,at1)) hf ?_;clear hf;intro xs e hf
 refine oe2 hf ?_;clear hf
 refine wpAny_isTrue_Compare1 (ha.use O S ((show m1=_ from e)▸h1) fun v s₁ hv P=>(E_list (sc:=sc) (d:=d) (pos:=lp) A_nil).use (r:=.list []) O P.1 rfl fun v' s₂ hv' P'=> ?_)
 obtain⟨ad,vs,rfl,_,hL,hr⟩:=hv.keep P'.2
 obtain⟨ad',vs',rfl,_,hL',hr'⟩:=hv'
 cases hr'
 have hu:c.A.units<cLine:=Nat.lt_of_le_of_lt (Nat.le_add_right _ _) O.un
 cases hr with
 |nil=>exact SeqAt.RcNeAt.lists (e:=fun _=>true) hL hL' rfl hu (fun j h1=>by simp at h1) pw c.w _ _ (wpAny_truthy_bool ⟨by simp,P.trans P'⟩)
 |cons a b=>exact SeqAt.RcNeAt.lists_lengths hL hL' (by simp) hu pw c.w _ _ (wpAny_truthy_bool ⟨rfl,P.trans P'⟩)
theorem it_new {c:Cx} {loc:Loc} {at1:At} {s s₁:Shared} {xs:List SV} {o:Obj} {wx:List Addr} {P:Nat→Value→Prop} {StW:Nat→Heap→Prop} (p:Post true c loc at1 s s₁) (W:Walks pw c.w c.A s₁.heap.objs.size (s₁.heap.objs.size::wx) [s₁.heap.objs.size] xs.length P StW) (h0:StW 0 (s₁.heap.push o)) (hx:∀ b∈wx,b∉c.ex∧b<s₁.heap.objs.size)
  (hfl:∀ i h,StW i h→RecR h s₁.heap.objs.size) (hP:∀ i v,i<xs.length→P i v→ItV xs i v):QIt c loc at1 s xs (.ref s₁.heap.objs.size) { s₁ with heap:=s₁.heap.push o }:=by
 refine⟨p.trans (Post.grow p.1 fun b o e=>Heap.get?_push_of_some _ e),_,_,_,P,StW,rfl,W,h0,fun b hb=> ?_,fun b hb=> ?_,fun i h hst b hb=> ?_,hP,fun b hb=>Nat.lt_of_lt_of_eq ?_ (Heap.size_push _ _).symm⟩
 ·cases hb with
  |head=>exact exNew p.1 (new_get _)
  |tail _ q=>exact (hx b q).1
 ·exact List.mem_singleton.mp hb▸p.new (new_get _)
 ·exact List.mem_singleton.mp hb▸hfl i h hst
 ·cases hb with
  |head=>exact Nat.lt_succ_self _
  |tail _ q=>exact Nat.lt_succ_of_lt (hx b q).2
theorem SRels.itv {xs:List SV} {vs:List Value} (h:SRels xs vs) {i:Nat} {v:Value} (hi:i<xs.length) (hv:vs.toArray[i]? =some v):ItV xs i v:=by
 obtain⟨v',hv',hs⟩:=h.get (List.getElem?_eq_getElem hi)
 exact⟨_,List.getElem?_eq_getElem hi,Option.some.inj (hv'.symm.trans (List.getElem?_toArray.symm.trans hv))▸hs⟩
theorem iter_list {c:Cx} {sc:Scope} {d:Nat} (O:c.Ok sc d) {loc:Loc} {at1:At} {s s₁:Shared} {xs:List SV} {v:Value} {E:Value→Shared→Prop} (p:Post true c loc at1 s s₁) (hv:LiR c.ex s₁.heap xs v):wpAny (model pw c.w) c.A (pyIter v) (QIt c loc at1 s xs) E s₁:=by
 obtain⟨ad,vs,rfl,hex,hL,hr⟩:=hv
 have hlt:ad<s₁.heap.objs.size:=by
  obtain⟨o,ho,_⟩:=hL
  exact Heap.lt_size ho
 have hsz:vs.toArray.size=xs.length:=hr.len.symm
 have W:=Walks.list (prog:=pw) (w:=c.w) (A:=c.A) O.hnd s₁.heap.objs.size ad (Nat.ne_of_lt hlt) vs.toArray
 rw[hsz] at W
 refine wpAny_pyIter_list hL (it_new p W ⟨⟨_,Heap.get?_push_size _ rfl,rfl,rfl⟩,hL.push _⟩ (fun b hb=>List.mem_singleton.mp hb▸⟨hex,hlt⟩) (fun i h st=> ?_) fun i v hi hv=> ?_)
 ·obtain⟨o,e1,e2,e3⟩:=st.1
  exact⟨o,_,e1,e3⟩
 ·exact hr.itv hi hv
theorem iter_str {c:Cx} {sc:Scope} {d:Nat} (O:c.Ok sc d) {loc:Loc} {at1:At} {s s₁:Shared} {l:List Nat} {t:Tok} {E:Value→Shared→Prop} (p:Post true c loc at1 s s₁):wpAny (model pw c.w) c.A (pyIter (.str (strL l) t)) (QIt c loc at1 s (l.map fun x=>.str [x])) E s₁:=by
 have e:(strL l).cps.size=(l.map fun x=>SV.str [x]).length:=by rw[List.length_map];exact List.size_toArray
 have fin:∀ (T:String) (o:Obj),Walks pw c.w c.A s₁.heap.objs.size [s₁.heap.objs.size] [s₁.heap.objs.size] (strL l).cps.size (SignAt (strL l)) (fun i h=>h.IsStrIter s₁.heap.objs.size T (strL l) t i)→(s₁.heap.push o).IsStrIter s₁.heap.objs.size T (strL l) t 0→QIt c loc at1 s (l.map fun x=>.str [x]) (.ref s₁.heap.objs.size) { s₁ with heap:=s₁.heap.push o }:=by
  intro T o W hst
  rw[e] at W
  refine it_new p W hst (fun b hb=>nomatch hb) (fun i h st=> ?_) fun i v hi hv=> ?_
  ·obtain⟨o,e1,e2,e3⟩:=st
   exact⟨o,_,e1,e3⟩
  ·obtain⟨x,u,hx,rfl⟩:=hv
   refine⟨.str [x],?_,u,rfl⟩
   rw[List.getElem?_map,show l[i]? =some x by rw[←List.getElem?_toArray];exact hx]
   rfl
 cases ha:(strL l).cps.all (· <128)
 ·exact wpAny_pyIter_wide ha (fin "str_iterator" _ (Walks.strWide O.hnd _ _ t) ⟨_,Heap.get?_push_size _ rfl,rfl,rfl⟩)
 ·exact wpAny_pyIter_ascii ha (fin "str_ascii_iterator" _ (Walks.strAscii O.hnd _ _ t) ⟨_,Heap.get?_push_size _ rfl,rfl,rfl⟩)
theorem I_val {e:Expr} {f:EF} (h:SoundE sc d e f):SoundI sc d e (fun loc at_=>(f loc at_).bind fun p=>match p.1 with
   | .list xs=>some (xs,p.2)
   | .s v=>(match v with | .str l=>some (l.map fun x=>.str [x],p.2) |_=>none)
   |_=>none):=by
 intro c O loc at_ s xs at' E S hf
 refine ob2 hf ?_;clear hf;intro m at1 h1 hf
 refine h.use O S h1 fun v s₁ hv P=> ?_
 cases m with
 |list xs0=>exact oe2 hf (iter_list O P hv)
 |s sv=>cases sv with
  |str l=>
   obtain⟨t,rfl⟩:=hv
   exact oe2 hf (iter_str O P)
  |_=>exact nn hf
 |_=>exact nn hf
end
end
section
theorem walks_bound {prog:Program} {w:World} {A:Around} {I:Addr} {fp wr:List Addr} {n:Nat} {P:Nat→Value→Prop} {St:Nat→Heap→Prop} (W:Walks prog w A I fp wr n P St):Walks prog w A I fp wr n (fun i v=>P i v∧i<n) St:=
 ⟨W.sub,W.frame,fun i s Q E hi st hQ=>W.item i s Q E hi st fun v h' tk hv=>hQ v h' tk ⟨hv,hi⟩,W.done,W.self⟩
section
variable {sc:Scope} {d:Nat}
inductive Tm where
 |no |item |out (i:Nat)
noncomputable def cloc (T:List Tm) (loc:Loc) (v:SV):Loc:=T.map fun t=>match t with
 | .no=>none
 | .item=>some (.s v)
 | .out i=>getLoc loc i
noncomputable def relS (scope sc:Scope):Scope:={ scope with names:=scope.names.map fun (n,k)=>if (k== .free&&sc.kind== .function&&sc.names.lookup n==some .cell) then (n,.cell) else (n,k) }
noncomputable def tmB (sc scope:Scope) (x:Str) (t:Tm) (p:Str×NameKind):Bool:=match t with
 | .no=>p.2!= .free
 | .item=>p.1==x&&p.2!= .free
 | .out i=>((sc.names.map (·.1))[i]? ==some p.1&&sc.names.lookup p.1==some .cell)&&((relS scope sc).names.lookup p.1==some .cell&&scope.names.lookup p.1==some .free)
noncomputable def tmOk (sc scope:Scope) (x:Str) (T:List Tm):Bool:=(T.zip scope.names).all (fun p=>tmB sc scope x p.1 p.2)&&T.length==scope.names.length
theorem tm_at {scope:Scope} {x:Str} {T:List Tm} (h:tmOk sc scope x T=true) {i:Nat} {t:Tm} {p:Str×NameKind} (ht:T[i]? =some t) (hp:scope.names[i]? =some p):tmB sc scope x t p=true:=
 List.all_eq_true.mp (Bool.and_eq_true_iff.mp h).1 (t,p) (List.mem_of_getElem? (i:=i) (List.getElem?_zip_eq_some.mpr ⟨ht,hp⟩))
structure OutN (sc scope:Scope) (i:Nat) (y:Str):Prop where
 a:(sc.names.map (·.1))[i]? =some y
 b:sc.names.lookup y=some .cell
 c:(relS scope sc).names.lookup y=some .cell
 d:scope.names.lookup y=some .free
theorem out_at {scope:Scope} {x:Str} {i:Nat} {p:Str×NameKind} (h:tmB sc scope x (.out i) p=true):OutN sc scope i p.1:=
 and_tt h fun h1 h2=>and_tt h1 fun a b=>and_tt h2 fun c d=>⟨beq_iff_eq.mp a,beq_iff_eq.mp b,beq_iff_eq.mp c,beq_iff_eq.mp d⟩
noncomputable def compL (test:SV→Option Bool) (elt:SV→Option SV):List SV→Option (List SV)
 | []=>some []
 |x::r=>(test x).bind fun b=>(compL test elt r).bind fun rs=>if b then (elt x).map (· ::rs) else some rs
noncomputable def toSV:Value→Option SV
 | .int n _=>some (.int n)
 | .str x _=>some (.str x.cps.toList)
 | .bool b=>some (.bool b)
 | .none=>some .none
 |_=>none
theorem toSV_of {x:SV} {v:Value} (h:SRel x v):toSV v=some x:=by
 cases x with
 |int n=>obtain⟨t,rfl⟩:=h;rfl
 |str l=>obtain⟨t,rfl⟩:=h;rfl
 |bool b=>exact (h:v=_)▸rfl
 |none=>exact (h:v=_)▸rfl
theorem compL_mem {test:SV→Option Bool} {elt:SV→Option SV}:∀ {xs rs:List SV},compL test elt xs=some rs→∀ x∈xs,∃ b,test x=some b∧(b=true→∃ r,elt x=some r):=by
 intro xs
 induction xs with
 |nil=>intro rs _ x hx;cases hx
 |cons y r ih=>
  intro rs h x hx
  refine ob1 h fun b h1 h=>ob1 h fun rs' h2 h=> ?_
  cases hx with
  |head=>exact⟨b,h1,fun hb=>om1 ((if_pos hb).symm.trans h) fun z h3 _=>⟨z,h3⟩⟩
  |tail _ q=>exact ih h2 x q
theorem compL_rel {test:SV→Option Bool} {elt:SV→Option SV} {F:Value→Value→Prop} {p:Value→Bool} (hp:∀ x v b,SRel x v→test x=some b→p v=b) (hF:∀ x v y r,SRel x v→F v y→elt x=some r→SRel r y):
  ∀ {xs:List SV} {vs ys:List Value} {rs:List SV},SRels xs vs→Paired F (vs.filter p) ys→compL test elt xs=some rs→SRels rs ys:=by
 intro xs
 induction xs with
 |nil=>
  intro vs ys rs h1 h2 h3
  cases h1;cases h3;cases h2;exact .nil
 |cons x r ih=>
  intro vs ys rs h1 h2 h3
  cases h1 with
  |cons a b=>
   refine ob1 h3 fun t e1 h3=>ob1 h3 fun rs' e2 h3=> ?_
   rw[List.filter_cons,hp _ _ _ a e1] at h2
   cases t with
   |true=>
    refine om1 h3 fun z e3 e4=> ?_
    cases h2 with
    |cons u w=>exact e4▸ .cons (hF _ _ _ _ a u e3) (ih b w e2)
   |false=>exact Option.some.inj h3▸ih b h2 e2
theorem cellOf_ok {env:Env} {y:Str} {a:Addr} (h:env.cells.lookup y=some a):cellOf env y=pure a:=by unfold cellOf;rw[h]
theorem closure_ok {scope:Scope} {env:Env} (h:∀ y,(y,NameKind.free)∈scope.names→∃ a,env.cells.lookup y=some a):∃ cl,closureFor scope env=pure cl∧∀ y,(y,NameKind.free)∈scope.names→cl.lookup y=env.cells.lookup y:=by
 have key:∀ (names:List (Str×NameKind)) (init:List (Str×Addr)),(∀ y,(y,NameKind.free)∈names→∃ a,env.cells.lookup y=some a)→
   ∃ cl,(forIn names init fun (p:Str×NameKind) (cs:List (Str×Addr))=>(if (p.2==NameKind.free)=true then do let a ←cellOf env p.1;pure (ForInStep.yield ((p.1,a)::cs)) else pure (ForInStep.yield cs):Sem (ForInStep (List (Str×Addr)))))=pure cl∧
    (∀ y,(y,NameKind.free)∈names→cl.lookup y=env.cells.lookup y)∧∀ y,(y,NameKind.free)∉names→cl.lookup y=init.lookup y:=by
  intro names
  induction names with
  |nil=>intro init _;exact⟨init,by rw[List.forIn_nil],(fun y hy=>by cases hy),fun _ _=>rfl⟩
  |cons p r ih=>
   intro init hh
   obtain⟨n,k⟩:=p
   by_cases hk:k=NameKind.free
   ·subst hk
    obtain⟨a,ha⟩:=hh n (.head _)
    obtain⟨cl,e,h1,h2⟩:=ih ((n,a)::init) fun y hy=>hh y (.tail _ hy)
    refine⟨cl,?_,fun y hy=> ?_,fun y hy=> ?_⟩
    ·rw[List.forIn_cons]
     simp only[beq_self_eq_true,if_true,cellOf_ok ha,pure_bind]
     exact e
    ·by_cases q:(y,NameKind.free)∈r
     ·exact h1 y q
     ·rcases List.mem_cons.mp hy with z |z
      ·cases z
       rw[h2 n q,List.lookup_cons_self,ha]
      ·exact absurd z q
    ·have hy':(y,NameKind.free)∉r:=fun z=>hy (.tail _ z)
     have hne:y≠n:=fun z=>hy (by rw[z];exact .head _)
     rw[h2 y hy',List.lookup_cons]
     have:(y==n)=false:=by simpa using hne
     rw[this]
   ·obtain⟨cl,e,h1,h2⟩:=ih init fun y hy=>hh y (.tail _ hy)
    have hkb:(k==NameKind.free)=false:=by simpa using hk
    refine⟨cl,?_,fun y hy=> ?_,fun y hy=> ?_⟩
    ·rw[List.forIn_cons]
     simp only[hkb,Bool.false_eq_true,if_false,pure_bind]
     exact e
    ·rcases List.mem_cons.mp hy with z |z
     ·cases z;exact absurd rfl hk
     ·exact h1 y z
    ·exact h2 y fun z=>hy (.tail _ z)
 obtain⟨cl,e,h1,_⟩:=key scope.names [] h
 refine⟨cl,?_,h1⟩
 unfold closureFor
 have e':=e
 simp only[e',pure_bind] at*
theorem lookup_mem {x:Str} {k:NameKind}:∀ {l:List (Str×NameKind)},l.lookup x=some k→(x,k)∈l:=by
 intro l
 induction l with
 |nil=>intro h;cases h
 |cons p r ih=>
  intro h
  rw[List.lookup_cons] at h
  cases q:x==p.1 with
  |true=>
   rw[q] at h
   exact (Prod.ext (beq_iff_eq.mp q) (Option.some.inj h).symm:(x,k)=p)▸ .head _
  |false=>
   rw[q] at h
   exact .tail _ (ih h)
noncomputable def eltV (fe:EF) (T:List Tm) (loc:Loc) (v:SV):Option SV:=(fe (cloc T loc v) []).bind fun p=>(simp1 p.1).bind fun r=>match p.2 with
 | []=>some r
 |_::_=>none
noncomputable def testV (ft:CF) (T:List Tm) (loc:Loc) (v:SV):Option Bool:=(ft (cloc T loc v) []).bind fun p=>match p.2 with
 | []=>some p.1
 |_::_=>none
theorem eltV_eq {fe:EF} {T:List Tm} {loc:Loc} {v r:SV} (h:eltV fe T loc v=some r):fe (cloc T loc v) []=some (.s r,[]):=by
 refine obS (g:=fun r a=>match a with | []=>some r |_::_=>none) h fun x a e h=> ?_
 cases a with
 |nil=>exact Option.some.inj h▸e
 |cons _ _=>exact nn h
theorem testV_eq {ft:CF} {T:List Tm} {loc:Loc} {v:SV} {r:Bool} (h:testV ft T loc v=some r):ft (cloc T loc v) []=some (r,[]):=by
 refine ob2 h fun x a e h=> ?_
 cases a with
 |nil=>exact (Option.some.inj h:x=r)▸e
 |cons _ _=>exact nn h
noncomputable def freesOk (T:List Tm) (loc:Loc):Bool:=T.all fun | .out i=>(match getLoc loc i with |some .self=>false |some _=>true |none=>false) |_=>true
theorem free_at {T:List Tm} {loc:Loc} (h:freesOk T loc=true) {j:Nat} (hj:Tm.out j∈T):∃ m,getLoc loc j=some m∧m≠ .self:=by
 have q:=List.all_eq_true.mp h _ hj
 dsimp only at q
 cases e:getLoc loc j with
 |none=>rw[e] at q;exact ff q
 |some m=>exact⟨m,rfl,fun z=>by rw[e,z] at q;exact ff q⟩
theorem lookup_map {x:Str} {k:NameKind} {f:Str×NameKind→Str×NameKind} (hf:∀ p,(f p).1=p.1):∀ {l:List (Str×NameKind)},l.lookup x=some k→(l.map f).lookup x=some (f (x,k)).2:=by
 intro l
 induction l with
 |nil=>intro h;cases h
 |cons p r ih=>
  intro h
  rw[List.lookup_cons] at h
  rw[List.map_cons,show f p=((f p).1,(f p).2) from rfl,hf,List.lookup_cons]
  cases q:x==p.1 with
  |true=>
   rw[q] at h
   exact congrArg (fun z=>some (f z).2) (Prod.ext (beq_iff_eq.mp q).symm (Option.some.inj h))
  |false=>
   rw[q] at h
   exact ih h
theorem relS_key {scope sc:Scope} (p:Str×NameKind):(if (p.2== .free&&sc.kind== .function&&sc.names.lookup p.1==some .cell) then (p.1,NameKind.cell) else (p.1,p.2)).1=p.1:=by split<;>rfl
theorem lookup_relS {scope sc:Scope} {x:Str} (h:scope.names.lookup x=some .local):(relS scope sc).names.lookup x=some .local:=
 lookup_map (fun p=>relS_key (scope:=scope) (sc:=sc) p) h
theorem relS_names {scope sc:Scope}:(relS scope sc).names.map (·.1)=scope.names.map (·.1):=by
 show (scope.names.map _).map _=_
 rw[List.map_map]
 exact List.map_congr_left fun p _=>relS_key (scope:=scope) (sc:=sc) p
noncomputable def compCx (c:Cx) (scope:Scope) (cl:List (Str×Addr)) (C:Addr) (s3:Shared):Cx:={ c with slf:=false,exc:=false,fs:=[],env:=compEnvC scope cl C c.env,h0:=emptyH s3.heap,gens:=s3.gens,drawn:=s3.drawn,os:=s3.os }
structure CmpS (sc scope:Scope) (x:Str) (T:List Tm):Prop where
 t:tmOk sc scope x T=true
 cell:scope.names.all (fun y=>y.2!= .cell)=true
 kind:scope.kind= .function
 names:scope.names.all (fun y=>y.2!= .local||scope.names.lookup y.1==some .local)=true
 x:scope.names.lookup x=some .local
theorem comp_ok' {c:Cx} (O:c.Ok sc d) {scope:Scope} {cl:List (Str×Addr)} {C:Addr} {s3:Shared} (hkind:scope.kind= .function):(relabel scope c.env=relS scope sc)∧(compCx c scope cl C s3).Ok (relS scope sc) d:=by
 have hrel:relabel scope c.env=relS scope sc:=by
  unfold relabel relS Env.kindOf
  rw[O.scope]
 exact⟨hrel,O.base,hrel,hkind,O.gl,O.bl,O.hnd,O.room,O.un,nofun,nofun⟩
theorem comp_st {c:Cx} (O:c.Ok sc d) {scope:Scope} {cl:List (Str×Addr)} {x:Str} {T:List Tm} {loc:Loc} {at_:At} {s2 s3:Shared} (S:St c loc at_ s2) (K:CmpS sc scope x T) {C:Addr} {m3:Str→Option Value} {v:Value} {sv:SV} (nC:∀ b o,s2.heap.get? b=some o→b∉c.ex→b≠C) (hn:s3.heap.Ns C m3) (hm:m3 x=some v) (hv:SRel sv v)
  (hfr:freesOk T loc=true) (kx:Keep c.ex s2.heap s3.heap) (hcl:∀ y,(y,NameKind.free)∈scope.names→cl.lookup y=c.env.cells.lookup y):St (compCx c scope cl C s3) (cloc T loc sv) [] s3:=by
 have bx:∀ b o,c.base.get? b=some o→b∉c.ex:=fun b o e q=>Heap.ne_of_none e (S.exFresh q) rfl
 have hrel:=(comp_ok' (cl:=cl) (C:=C) (s3:=s3) O K.kind).1
 refine⟨rfl,rfl,rfl,fun b o e=>kx b o (S.stays b o e) (bx b o e),(fun b o e _=>Heap.ne_of_none e (emptyH_get b) rfl |>.elim),nofun,emptyH_get _,Option.eq_none_iff_forall_ne_some.mpr fun o q=>nC C o (S.stays _ _ q) (bx _ _ q) rfl,⟨m3,hn,fun i mv e=> ?_⟩,nofun,fun _=>rfl,nofun,nofun,nofun,nofun,nofun⟩
 unfold cloc at e
 rw[List.getElem?_map] at e
 refine om1 e fun t ht e=> ?_
 have hi:i<scope.names.length:=by
  rw[←beq_iff_eq.mp (Bool.and_eq_true_iff.mp K.t).2];exact (List.getElem?_eq_some_iff.mp ht).1
 have hnm:scope.names[i]? =some scope.names[i]:=List.getElem?_eq_getElem hi
 have hz:=tm_at K.t ht hnm
 have hnames:((compCx c scope cl C s3).env.scope.names.map (·.1))[i]? =some scope.names[i].1:=by
  show ((relabel scope c.env).names.map (·.1))[i]? =_
  rw[hrel,relS_names,List.getElem?_map,hnm]
  rfl
 have hlk:(compCx c scope cl C s3).env.scope.names.lookup scope.names[i].1=(relS scope sc).names.lookup scope.names[i].1:=congrArg (fun z:Scope=>z.names.lookup scope.names[i].1) hrel
 cases t with
 |no=>cases e
 |item=>
  cases e
  have ex:scope.names[i].1=x:=beq_iff_eq.mp (Bool.and_eq_true_iff.mp hz).1
  exact⟨_,v,hnames,hv,fun _=>ex▸hm,fun z=>absurd (hlk.trans (ex▸lookup_relS K.x)) z⟩
 |out j=>
  have Z:=out_at hz
  obtain⟨m,hm0,R⟩:=S.ns
  obtain⟨m',em,hself⟩:=free_at hfr (List.mem_of_getElem? ht)
  cases em.symm.trans e
  obtain⟨y,v',hy,hV,_,hcell⟩:=R j mv (getLoc_eq em)
  rw[O.scope] at hy hcell
  cases hy.symm.trans Z.a
  obtain⟨ca,h1,⟨o,h2,h4⟩,h3⟩:=hcell (by rw[Z.b];decide)
  refine⟨_,v',hnames,hV.imp (fun q=>absurd q hself) fun a o e _ n=>⟨fun q=>nC a o e n (List.mem_singleton.mp q),kx a o e n⟩,fun q=> ?_,fun _=>⟨ca,(hcl _ (lookup_mem Z.d)).trans h1,⟨o,kx _ _ h2 h3,h4⟩,fun q=>nC _ _ h2 h3 (List.mem_singleton.mp q)⟩⟩
  rw[hlk,Z.c] at q
  cases q
theorem keeps_of {c:Cx} {scope:Scope} {cl:List (Str×Addr)} {loc:Loc} {at_:At} {s s':Shared} {C:Addr} (P:Post true (compCx c scope cl C s) loc at_ s s'):Keeps s s':=by
 refine⟨s'.heap,s'.toks,?_,fun b o e=> ?_⟩
 ·have g1:=P.1.gens
  have g2:=P.1.drawn
  have g3:=P.1.os
  cases s'
  cases g1;cases g2;cases g3
  rfl
 ·by_cases q:b=C
  ·exact q▸P.lx rfl rfl o (q▸e)
  ·exact P.2 b o e fun z=>q (List.mem_singleton.mp z)
inductive TestR (scope:Scope) (d:Nat) (T:List Tm):List Expr→(Loc→SV→Option Bool)→Prop
 |no:TestR scope d T [] fun _ _=>some true
 |one {t:Expr} {ft:CF} (h:SoundC scope d t ft):TestR scope d T [t] (testV ft T)
noncomputable abbrev pT (tf:Loc→SV→Option Bool) (loc:Loc):Value→Bool:=fun v=>match toSV v with |some sv=>tf loc sv==some true |none=>false
theorem pT_eq {tf:Loc→SV→Option Bool} {loc:Loc} {sv:SV} {v:Value} {b:Bool} (h:SRel sv v) (e:tf loc sv=some b):pT tf loc v=b:=by
 show (match toSV v with |some sv=>tf loc sv==some true |none=>false)=b
 rw[toSV_of h]
 show (tf loc sv==some true)=b
 rw[e]
 cases b<;>rfl
inductive FT (fe:EF) (T:List Tm) (loc:Loc) (v y:Value):Prop
 |mk (sv r:SV) (a:toSV v=some sv) (b:eltV fe T loc sv=some r) (h:SRel r y)
theorem comp_cells {c:Cx} (O:c.Ok sc d) {scope:Scope} {x:Str} {T:List Tm} {loc:Loc} {at_:At} {s:Shared} (S:St c loc at_ s) (K:CmpS sc scope x T) (hfr:freesOk T loc=true):∃ cl,closureFor scope c.env=pure cl∧∀ y,(y,NameKind.free)∈scope.names→cl.lookup y=c.env.cells.lookup y:=by
 refine closure_ok fun y hy=> ?_
 obtain⟨i,hi⟩:=List.getElem?_of_mem hy
 have hiT:i<T.length:=by rw[beq_iff_eq.mp (Bool.and_eq_true_iff.mp K.t).2];exact (List.getElem?_eq_some_iff.mp hi).1
 have hz:=tm_at K.t (List.getElem?_eq_getElem hiT) hi
 cases ht:T[i] with
 |no=>rw[ht] at hz;cases hz
 |item=>rw[ht] at hz;cases (Bool.and_eq_true_iff.mp hz).2
 |out j=>
  rw[ht] at hz
  have Z:=out_at hz
  obtain⟨m',em,_⟩:=free_at hfr (ht▸List.getElem_mem hiT)
  obtain⟨m,hm0,R⟩:=S.ns
  obtain⟨y',v',hy',hV,_,hc⟩:=R j m' (getLoc_eq em)
  rw[O.scope] at hy' hc
  cases hy'.symm.trans Z.a
  obtain⟨ca,h1,_⟩:=hc (by rw[Z.b];decide)
  exact⟨ca,h1⟩
theorem comp_quiet {elt:Expr} {x:Str} {scope:Scope} {ifs:List Expr} {fe:EF} {tf:Loc→SV→Option Bool} {T:List Tm} (he:SoundE (relS scope sc) d elt fe) (htest:TestR (relS scope sc) d T ifs tf) (K:CmpS sc scope x T) {c:Cx} (O:c.Ok sc d) {loc:Loc} {at_ at1:At} {s s₂:Shared} (S:St c loc at_ s) (P₂:Post true c loc at1 s s₂) {xs rs:List SV} (hfr:freesOk T loc=true)
  (h2:compL (tf loc) (eltV fe T loc) xs=some rs) {cl:List (Str×Addr)} (hcl:∀ y,(y,NameKind.free)∈scope.names→cl.lookup y=c.env.cells.lookup y) {wr:List Addr} {P:Nat→Value→Prop} (hwr:∀ b∈wr,s.heap.get? b=none) (hP:∀ i v,P i v→ItV xs i v):
  QuietOnC pw c.w c.A c.env scope cl x ifs elt wr P (pT tf loc) (FT fe T loc) s₂:=by
 have O':∀ (C:Addr) (s₃:Shared),(compCx c scope cl C s₃).Ok (relS scope sc) d:=fun C s₃=>(comp_ok' O K.kind).2
 have inside:∀ (C:Addr) (s₃:Shared) (m₃:Str→Option Value) (v:Value) (sv:SV),s₂.heap.objs.size≤C→s₃.heap.Ns C m₃→m₃ x=some v→SRel sv v→(∀ b o,b∉wr→s₂.heap.get? b=some o→s₃.heap.get? b=some o)→St (compCx c scope cl C s₃) (cloc T loc sv) [] s₃:=fun C s₃ m₃ v sv hC hn hm hv hk=>
  comp_st O S K (fun b o e nb q=>absurd (Nat.lt_of_lt_of_le (Heap.lt_size (P₂.2 b o e nb)) hC) (q▸Nat.lt_irrefl _)) hn hm hv hfr (fun b o e nb=>hk b o (fun q=>Heap.ne_of_none e (hwr b q) rfl) (P₂.2 b o e nb)) hcl
 refine⟨fun C i v s₃ m₃ E' hC hPv hn hm hk _=> ?_,fun C i v s₃ m₃ E' hC hPv hpv hn hm hk _=> ?_⟩
 ·obtain⟨sv,hsv,hrel⟩:=hP i v hPv
  have S':=inside C s₃ m₃ v sv hC hn hm hrel hk
  obtain⟨b,hb1,_⟩:=compL_mem h2 sv (List.mem_of_getElem? hsv)
  cases htest with
  |no=>
   rw[List.forIn_nil]
   exact wpAny_pure ⟨(pT_eq hrel rfl).symm,s₃.heap,s₃.toks,rfl,fun _ _ e=>e⟩
  |one hft=>
   rw[List.forIn_cons]
   simp only[if_true]
   refine wpAny_bind (wpAny_bind (hft.use (O' C s₃) S' (testV_eq hb1) fun s₄ P₄=>wpAny_pure ?_))
   simp only[List.forIn_nil]
   exact wpAny_pure ⟨(pT_eq hrel hb1).symm,keeps_of P₄⟩
 ·obtain⟨sv,hsv,hrel⟩:=hP i v hPv
  have S':=inside C s₃ m₃ v sv hC hn hm hrel hk
  obtain⟨b,hb1,hb2⟩:=compL_mem h2 sv (List.mem_of_getElem? hsv)
  obtain⟨r,hr⟩:=hb2 ((pT_eq hrel hb1).symm.trans hpv)
  exact he.use (O' C s₃) S' (eltV_eq hr) fun y s₄ hy P₄=>⟨⟨sv,r,toSV_of hrel,hr,hy⟩,keeps_of P₄⟩
theorem srels_of:∀ {xs:List SV} {vs:List Value},xs.length=vs.length→(∀ (j:Nat) (v:Value),vs[j]? =some v→ItV xs j v)→SRels xs vs:=by
 intro xs
 induction xs with
 |nil=>
  intro vs hl _
  cases vs with
  |nil=>exact .nil
  |cons _ _=>cases hl
 |cons x r ih=>
  intro vs hl hh
  cases vs with
  |nil=>cases hl
  |cons v w=>
   obtain⟨y,h1,h2⟩:=hh 0 v rfl
   exact .cons (Option.some.inj h1▸h2) (ih (Nat.succ.inj hl) fun j u hu=>by
    obtain⟨y,h1,h2⟩:=hh (j+1) u hu
    exact⟨y,h1,h2⟩)
theorem comp_res {fe:EF} {tf:Loc→SV→Option Bool} {T:List Tm} {loc:Loc} {xs rs:List SV} {vs ys:List Value} {P:Nat→Value→Prop} (h2:compL (tf loc) (eltV fe T loc) xs=some rs) (hvl:vs.length=xs.length) (hP:∀ i v,P i v→ItV xs i v) (hvP:∀ j v,vs[j]? =some v→P j v) (hpair:Paired (FT fe T loc) (vs.filter (pT tf loc)) ys):SRels rs ys:=
 compL_rel (fun x v b hx hb=>pT_eq hx hb) (fun x v y r hx ⟨sv,r',a1,a2,a3⟩ hr=>by
  cases (toSV_of hx).symm.trans a1
  cases hr.symm.trans a2
  exact a3) (srels_of hvl.symm fun j v hv=>hP j v (hvP j v hv)) hpair h2
theorem St.iter {c:Cx} {loc:Loc} {at_ at1:At} {s s2:Shared} {h':Heap} {tk:Tok} {wr:List Addr} (S:St c loc at_ s) (P:Post true c loc at1 s s2) (hw:∀ b∈wr,s.heap.get? b=none) (hx:∀ b∈wr,b∉c.ex) (hf:∀ b∈wr,RecR s2.heap b)
  (k:∀ b o,b∉wr→s2.heap.get? b=some o→h'.get? b=some o):Post true c loc at1 s { s2 with heap:=h',toks:=tk }:=by
 have P':=St.wr (tk:=tk) S P hw hf k
 exact⟨P'.1,P'.2,fun q z o e=>k _ o (fun m=>hx _ m Cx.loc_ex) (P.lx q z o e)⟩
noncomputable abbrev fComp (fi:IF) (T:List Tm) (tf:Loc→SV→Option Bool) (fe:EF):EF:=fun loc at_=>(fi loc at_).bind fun p=>if p.1.length≤1000000∧freesOk T loc=true then (compL (tf loc) (eltV fe T loc) p.1).map fun rs=>(.list rs,p.2) else none
theorem comp_sides {scope:Scope} {x:Str} {T:List Tm} (K:CmpS sc scope x T):(∀ y∈scope.names,y.2≠ .cell)∧∀ y∈scope.names,y.2= .local→scope.names.lookup y.1=some .local:=
 ⟨fun y hy=>bne_iff_ne.mp (List.all_eq_true.mp K.cell y hy),fun y hy hl=>by have:=List.all_eq_true.mp K.names y hy;rw[hl] at this;exact beq_iff_eq.mp this⟩
theorem E_comp {elt iter:Expr} {x:Str} {px pos:Pos} {scope:Scope} {ifs:List Expr} {fi:IF} {fe:EF} {tf:Loc→SV→Option Bool} (T:List Tm) (hI:SoundI sc d iter fi) (he:SoundE (relS scope sc) d elt fe) (htest:TestR (relS scope sc) d T ifs tf) (K:CmpS sc scope x T)
  (hs:∀ env x,foldedSetIterable iter env x=pure x:=by intro _ _;rfl):
  SoundE sc d (.ListComp elt [⟨.Name x px,iter,ifs,0⟩] scope pos) (fComp fi T tf fe):=by
 intro c O loc at_ s r at' E S hf
 refine ob2 hf ?_;clear hf;intro xs at1 h1 hf
 refine if_on hf ?_;clear hf;intro hg hf
 refine op1 hf fun rs h2=> ?_
 obtain⟨cl,hclos,hcl⟩:=comp_cells O S K hg.2
 refine wpAny_ListComp_free (cl:=cl) (pT tf loc) (FT fe T loc) hclos (comp_sides K).1 K.kind (comp_sides K).2 K.x (wpAny_mono (hI c O loc at_ s xs _ E S h1) (fun xv s₁ h=>wpAny_mono h (fun it s₂ q=> ?_) fun _ _ x=>x) fun _ _ x=>x) (hs _)
 obtain⟨P₂,I,fp,wr,P,StW,e,W,hst,hfp,hwr,hfl,hP,hsz⟩:=q
 refine wit6 (y0:=I) (y1:=fp) (y2:=wr) (y3:=xs.length) (y5:=StW) ⟨e,walks_bound W,le_line hg.1 (Nat.le_refl _),hst,hsz,comp_quiet he htest K O S P₂ hg.2 h2 hcl hwr fun i v h=>hP i v h.2 h.1,fun D h' tk ys vs hD hl hpl hvl hvP hpair hk=> ?_⟩
 exact⟨⟨D,ys.toList,rfl,exNew P₂.1 hD,hl,comp_res h2 hvl (fun i v h=>hP i v h.2 h.1) hvP hpair⟩,St.iter S P₂ hwr (fun b hb=>hfp b (W.sub b hb)) (hfl 0 _ hst) hk⟩
end
end
section
noncomputable def constOf:Expr→Option Str
 | .Constant (.str x) _ _=>some x
 |_=>none
theorem constOf_eq {e:Expr} {x:Str} (h:constOf e=some x):∃ n p,e= .Constant (.str x) n p:=by
 cases e with
 |Constant v n p=>cases v with
  |str y=>exact⟨n,p,Option.some.inj h▸rfl⟩
  |_=>exact nn h
 |_=>exact nn h
noncomputable def kvL (kv:List (Str×Str)):List (List Nat×List Nat):=kv.map fun p=>(p.1.cps.toList,p.2.cps.toList)
theorem strL_cps (x:Str):strL x.cps.toList=x:=by cases x;rfl
section
variable {sc:Scope} {d:Nat}
theorem evalPairs_consts {A:Around} {w:World} {env:Env} {pos:Pos} {E:Value→Shared→Prop}:∀ (kvE:List (Expr×Expr)) (kv:List (Str×Str)),kvE.map (fun p=>(constOf p.1,constOf p.2))=kv.map (fun p=>(some p.1,some p.2))→∀ (s:Shared) (Q:List (Value×Value)→Shared→Prop),
  (∀ vs kvs tk,Carries (strKind pw w) vs kvs→kvs.map (·.1)=kv.map (·.1)→DRels (kvL kv) kvs→Q vs { s with toks:=tk })→
  wpAny (model pw w) A (evalPairs (kvE.map fun p=>(eval p.1 env,do let x ←eval p.2 env;standAt pos;pure x))) Q E s:=by
 intro kvE
 induction kvE with
 |nil=>
  intro kv h s Q hq
  cases kv with
  |nil=>exact wpAny_pure (hq [] [] s.toks trivial rfl .nil)
  |cons _ _=>cases h
 |cons p r ih=>
  intro kv h s Q hq
  cases kv with
  |nil=>cases h
  |cons q kv=>
   obtain⟨h1,h2⟩:=List.cons.inj h
   obtain⟨n1,p1,e1⟩:=constOf_eq (Prod.mk.inj h1).1
   obtain⟨n2,p2,e2⟩:=constOf_eq (Prod.mk.inj h1).2
   rw[List.map_cons,e1,e2]
   unfold evalPairs
   refine wpAny_bind (Constant_str (wpAny_bind (wpAny_holding (wpAny_bind (Constant_str (wpAny_bind (wpAny_standAt (wpAny_pure (wpAny_bind (wpAny_holding (ih kv h2 _ _ fun vs kvs tk hc hk hd=>wpAny_pure ?_)))))))))))
   exact hq _ ((q.1,.str q.2 (s.toks+1))::kvs) tk ⟨strKind_is',rfl,hc⟩ (by rw[List.map_cons,List.map_cons,hk]) (strL_cps q.1▸ .cons (x:=q.2.cps.toList) ⟨_,by rw[strL_cps]⟩ hd)
theorem E_dict {keys:List (Option Expr)} {values:List Expr} {pos:Pos} (kvE:List (Expr×Expr)) (kv:List (Str×Str)) (hc:kvE.map (fun p=>(constOf p.1,constOf p.2))=kv.map (fun p=>(some p.1,some p.2)))
  (hsh:∀ env,(evalEachOpt keys env).zip ((evalEach values env).map fun v=>do let x ←v;standAt pos;pure x)=(kvE.map fun p=>(eval p.1 env,do let x ←eval p.2 env;standAt pos;pure x)).map fun p=>(some p.1,p.2))
  (h0:kvE≠[]) (hl:kvE.length≤15) (hnd:(kv.map (·.1)).Nodup):SoundE sc d (.Dict keys values pos) (fun _ at_=>some (.dict (kvL kv),at_)):=by
 intro c O loc at_ s r at' E S hf
 refine oe2 hf (wpAny_Dict_pairs (knd:=strKind pw c.w) (hsh _) (fun q=>h0 (List.map_eq_nil_iff.mp q)) (by rw[List.length_map];exact hl) (evalPairs_consts kvE kv hc _ _ fun vs kvs tk hca hk hd=> ?_))
 refine⟨kvs,hca,⟨_,#[],0,Heap.get?_push_size _ rfl,⟨rfl,rfl,rfl⟩,rfl,(fun e he=>nomatch he),.nil,List.nodup_nil⟩,fun h' hD hsb=> ?_⟩
 rw[merged_nil_of_nodup _ (by rw[hk];exact hnd)] at hD
 have hsys:(s.heap.objs.size==sysModules)=false:=beq_eq_false_iff_ne.mpr fun q=>absurd (q▸(S.TR O).g.lt) (by decide)
 exact⟨⟨s.heap.objs.size,kvs,rfl,exNew S (new_get _),hD,hd,hsys⟩,Post.grow S fun b o e=>(hsb.2 b (Nat.ne_of_lt (Heap.lt_size e))).trans (Heap.get?_push_of_some _ e)⟩
theorem dictM {α:Type} {m:MV} {g:List (List Nat×List Nat)→Option α} {r:α} {G:Prop} (h:(match m with | .dict l=>g l |_=>none)=some r) (k:∀ l,m= .dict l→g l=some r→G):G:=by
 cases m with
 |dict n=>exact k n rfl h
 |_=>exact nn h
theorem E_idxD {value slice:Expr} {pos:Pos} {fo fi:EF} (ho:SoundE sc d value fo) (hi:SoundE sc d slice fi) (hs:∀ o i,subscripted slice false o i=operate [o,i] (getItem o i):=by intro _ _;with_unfolding_all rfl):
  SoundE sc d (.Subscript value slice pos) (fun loc at_=>(fo loc at_).bind fun p=>(fi loc p.2).bind fun q=>match p.1 with
   | .dict kv=>(match q.1 with | .s (.str x)=>(kv.find? fun p=>p.1==x).map fun p=>(.s (.str p.2),q.2) |_=>none)
   |_=>none):=by
 intro c O loc at_ s r at' E S hf
 refine ob2 hf ?_;clear hf;intro m1 at1 h1 hf
 refine ob2 hf ?_;clear hf;intro m2 at2 h2 hf
 refine dictM (g:=fun kv=>match m2 with | .s (.str x)=>(kv.find? fun p=>p.1==x).map fun p=>(MV.s (.str p.2),at2) |_=>none) hf ?_;clear hf;intro kv e1 hf
 refine strM hf ?_;clear hf;intro x e2 hf
 refine op1 hf fun p h3=>Subscript_ (ho.use O S ((show m1=_ from e1)▸h1) fun v s₁ hv P=>hi.use O P.1 ((show m2=_ from e2)▸h2) fun v' s₂ hv' P'=> ?_)
 obtain⟨t,rfl⟩:=hv'
 obtain⟨ad,kvs,rfl,_,hd,hr,_⟩:=hv.keep P'.2
 obtain⟨u,hu,hs'⟩:=drel_some hr h3
 exact tail_any hd.typeIs slot_dict_getitem.lookup (wpAny_getItem_of strKind_is' hd.mapOf hu ⟨hs',P.trans (P'.trans (Post.tok P'.1))⟩) ⟨_,hs _ _⟩
end
end
section
section
variable {sc:Scope} {d:Nat}
theorem A_strs:∀ (elts:List Expr) (xs:List Str),elts.map constOf=xs.map some→SoundA sc d elts (fun _ at_=>some (xs.map (fun x=>.s (.str x.cps.toList)),at_)):=by
 intro elts
 induction elts with
 |nil=>
  intro xs h
  cases xs with
  |nil=>exact A_nil
  |cons _ _=>injection h
 |cons e r ih=>
  intro xs h
  cases xs with
  |nil=>injection h
  |cons x xs=>
   rw[List.map_cons,List.map_cons] at h
   obtain⟨h1,h2⟩:=List.cons.inj h
   obtain⟨n,p,rfl⟩:=constOf_eq h1
   have q:SoundA sc d (.Constant (.str x) n p::r) _:=A_cons (E_str (n:=x) (k:=n) (pos:=p)) (ih xs h2)
   exact q
theorem E_strs {elts:List Expr} {pos:Pos} (xs:List Str) (h:elts.map constOf=xs.map some) (hl:xs.length≤1000000):SoundE sc d (.List elts pos) (fun _ at_=>some (.list (xs.map fun x=>.str x.cps.toList),at_)):=by
 intro c O loc at_ s r at' E S hf
 cases hf
 refine E_list (A_strs elts xs h) c O loc at_ s _ _ E S ?_
 have e:simps (xs.map (fun x=>MV.s (.str x.cps.toList)))=some (xs.map fun x=>.str x.cps.toList):=by
  clear h hl
  induction xs with
  |nil=>rfl
  |cons x r ih=>rw[List.map_cons,List.map_cons];unfold simps;rw[ih];rfl
 show ((some _).bind _)=_
 rw[Option.bind_some,e,Option.bind_some,if_pos (by rw[List.length_map];exact hl)]
end
end
section
structure HE (sc:Scope) (d:Nat) (e:Expr) (f:EF):Prop where
 out:SoundE sc d e f
structure HC (sc:Scope) (d:Nat) (e:Expr) (f:CF):Prop where
 out:SoundC sc d e f
structure HS (sc:Scope) (d:Nat) (e:Stmt) (f:SF):Prop where
 out:SoundS sc d e f
structure HB (sc:Scope) (d:Nat) (e:List Stmt) (f:SF):Prop where
 out:SoundB sc d e f
structure HI (sc:Scope) (d:Nat) (e:Expr) (f:IF):Prop where
 out:SoundI sc d e f
structure HP (sc:Scope) (d:Nat) (e:Option Expr) (f:PF):Prop where
 out:SoundP sc d e f
structure HA (sc:Scope) (d:Nat) (e:List Expr) (f:AF):Prop where
 out:SoundA sc d e f
section
variable {sc:Scope} {d:Nat}
theorem HE_loc {sc:Scope} {d:Nat} {x:Str} {pos:Pos} (i:Nat) (hi:(sc.names.map (·.1))[i]? =some x) (hd:(x==("__debug__":Str))=false:=by decide) (hc:(x==("__classdict__":Str))=false:=by decide) (hk:sc.names.lookup x=some .local∨sc.names.lookup x=some .cell∨sc.names.lookup x=some .free):HE sc d (.Name x pos) (fun loc at_=>(getLoc loc i).map (·,at_)):=⟨E_loc (i:=i) (hi:=hi) (hd:=hd) (hc:=hc) (hk:=hk)⟩
theorem HE_int {sc:Scope} {d:Nat} {n:Int} {k:Nat} {pos:Pos}:HE sc d (.Constant (.int n) k pos) (fun _ at_=>some (.s (.int n),at_)):=⟨E_int ⟩
theorem HE_str {sc:Scope} {d:Nat} {n:Str} {k:Nat} {pos:Pos}:HE sc d (.Constant (.str n) k pos) (fun _ at_=>some (.s (.str n.cps.toList),at_)):=⟨E_str ⟩
theorem HE_bool {sc:Scope} {d:Nat} {n:Bool} {k:Nat} {pos:Pos}:HE sc d (.Constant (.bool n) k pos) (fun _ at_=>some (.s (.bool n),at_)):=⟨E_bool ⟩
theorem HE_at {sc:Scope} {d:Nat} {o:Expr} {fo:EF} {nm:Str} {pos:Pos} (k:Nat) (hk:atNames[k]? =some nm) (ho:HE sc d o fo) (he:∀ env,eval (.Attribute o nm pos) env=(do let ov ←eval o env;standAt pos.atName;let r ←holding [ov] (getAttr ov nm true);letTemporaryGo o ov r;pure r):=by intro env;rfl) (hlt:∀ ov r,letTemporaryGo o ov r=pure ():=by intro _ _;rfl):HE sc d (.Attribute o nm pos) (fun loc at_=>(fo loc at_).bind fun p=>match p.1 with | .self=>(p.2[k]?).map fun sv=>(.s sv,p.2) |_=>none):=⟨E_at (k:=k) (hk:=hk) (ho:=ho.1) (he:=he) (hlt:=hlt)⟩
theorem HE_bin {l r:Expr} {op:Operator} {pos:Pos} {fa fb:EF} (ha:HE sc d l fa) (hb:HE sc d r fb):HE sc d (.BinOp l op r pos) (fBin op fa fb):=⟨E_bin (ha:=ha.1) (hb:=hb.1)⟩
theorem HC_cmp {l r:Expr} {op:CmpOp} {pos:Pos} {fa fb:EF} (ha:HE sc d l fa) (hb:HE sc d r fb) (hm:behindInMarks op r=false:=by rfl):HC sc d (.Compare l [op] [r] pos) (fCmp op fa fb):=⟨C_cmp (ha:=ha.1) (hb:=hb.1) (hm:=hm)⟩
theorem HE_cmp {l r:Expr} {op:CmpOp} {pos:Pos} {fa fb:EF} (ha:HE sc d l fa) (hb:HE sc d r fb) (hm:behindInMarks op r=false:=by rfl):HE sc d (.Compare l [op] [r] pos) (bool1 (fCmp op fa fb)):=⟨E_cmp (ha:=ha.1) (hb:=hb.1) (hm:=hm)⟩
theorem HC_val {e:Expr} {f:EF} (h:HE sc d e f) (he:∀ env whole,isTrue e env whole=(do let v ←whole;standAt e.pos;holding [v] (truthy v)):=by intro _ _;rfl):HC sc d e (fTruth f):=⟨C_val (h:=h.1) (he:=he)⟩
theorem HC_not {e:Expr} {pos:Pos} {f:CF} (h:HC sc d e f):HC sc d (.UnaryOp .Not e pos) (fNot f):=⟨C_not (h:=h.1)⟩
theorem HC_or {x y:Expr} {pos:Pos} {f g:CF} (hx:HC sc d x f) (hy:HC sc d y g):HC sc d (.BoolOp .Or [x,y] pos) (fOr f g):=⟨C_or (hx:=hx.1) (hy:=hy.1)⟩
theorem HC_and {x y:Expr} {pos:Pos} {f g:CF} (hx:HC sc d x f) (hy:HC sc d y g):HC sc d (.BoolOp .And [x,y] pos) (fAnd f g):=⟨C_and (hx:=hx.1) (hy:=hy.1)⟩
theorem HE_neg {e:Expr} {pos:Pos} {f:EF} (h:HE sc d e f):HE sc d (.UnaryOp .USub e pos) (fNeg f):=⟨E_neg (h:=h.1)⟩
theorem HE_ifexp {t x y:Expr} {pos:Pos} {ft:CF} {f g:EF} (ht:HC sc d t ft) (hx:HE sc d x f) (hy:HE sc d y g):HE sc d (.IfExp t x y pos) (fIf ft f g):=⟨E_ifexp (ht:=ht.1) (hx:=hx.1) (hy:=hy.1)⟩
theorem HE_and {x y:Expr} {pos:Pos} {f g:EF} (hx:HE sc d x f) (hy:HE sc d y g):HE sc d (.BoolOp .And [x,y] pos) (fun loc at_=>(f loc at_).bind fun p=>match p.1 with | .s (.bool true)=>g loc p.2 | .s (.bool false)=>some (.s (.bool false),p.2) |_=>none):=⟨E_and (hx:=hx.1) (hy:=hy.1)⟩
theorem HE_or {x y:Expr} {pos:Pos} {f g:EF} (hx:HE sc d x f) (hy:HE sc d y g):HE sc d (.BoolOp .Or [x,y] pos) (fun loc at_=>(f loc at_).bind fun p=>match p.1 with | .s (.bool true)=>some (.s (.bool true),p.2) | .s (.bool false)=>g loc p.2 |_=>none):=⟨E_or (hx:=hx.1) (hy:=hy.1)⟩
theorem HE_not {e:Expr} {pos:Pos} {f:EF} (h:HE sc d e f):HE sc d (.UnaryOp .Not e pos) (fun loc at_=>(f loc at_).bind fun p=>match p.1 with | .s (.bool b)=>some (.s (.bool (!b)),p.2) |_=>none):=⟨E_not (h:=h.1)⟩
theorem HE_am {n nm:Str} {np pos:Pos} {fo:EF} (ho:HE sc d (.Name n np) fo):HE sc d (.Attribute (.Name n np) nm pos) (fun loc at_=>(fo loc at_).bind fun p=>match p.1 with | .am r=>(amVal nm r).map fun sv=>(.s sv,p.2) |_=>none):=⟨E_am (ho:=ho.1)⟩
theorem HA_nil:HA sc d [] (fun _ at_=>some ([],at_)):=⟨A_nil ⟩
theorem HA_cons {e:Expr} {rest:List Expr} {f:EF} {g:AF} (hx:HE sc d e f) (hr:HA sc d rest g) (he:∀ env,starEach (e::rest) env=(false,eval e env)::starEach rest env:=by intro _;rfl):HA sc d (e::rest) (fun loc at_=>(f loc at_).bind fun p=>(g loc p.2).map fun q=>(p.1::q.1,q.2)):=⟨A_cons (hx:=hx.1) (hr:=hr.1) (he:=he)⟩
theorem HE_idx {value slice:Expr} {pos:Pos} {fo fi:EF} (ho:HE sc d value fo) (hi:HE sc d slice fi) (hs:∀ o i,subscripted slice false o i=operate [o,i] (getItem o i):=by intro _ _;with_unfolding_all rfl):HE sc d (.Subscript value slice pos) (fIdx fo fi):=⟨E_idx (ho:=ho.1) (hi:=hi.1) (hs:=hs)⟩
theorem HP_none:HP sc d none (fun _ at_=>some (none,at_)):=⟨P_none ⟩
theorem HP_some {e:Expr} {f:EF} (h:HE sc d e f):HP sc d (some e) (fun loc at_=>(f loc at_).bind fun p=>match p.1 with | .s (.int k)=>some (some k,p.2) |_=>none):=⟨P_some (h:=h.1)⟩
theorem HE_slice {value:Expr} {lower upper:Option Expr} {p pos:Pos} {fo:EF} {fl fu:PF} (ho:HE sc d value fo) (hl:HP sc d lower fl) (hu:HP sc d upper fu):HE sc d (.Subscript value (.Slice lower upper none p) pos) (fun loc at_=>(fo loc at_).bind fun p=>(fl loc p.2).bind fun q=>(fu loc q.2).bind fun r=>match p.1 with
   | .s (.str l)=>if l.length≤1000 then some (.s (.str (sliceL l q.1 r.1)),r.2) else none
   |_=>none):=⟨E_slice (ho:=ho.1) (hl:=hl.1) (hu:=hu.1)⟩
theorem HE_len {np pos:Pos} {e:Expr} {fa:AF} (ha:HA sc d [e] fa) (hne:∀ env,∃ t r,starEach [e] env=(false,t)::r:=by intro _;exact (wit2 rfl)) (hk:sc.names.lookup ("len":Str)=some .globalImplicit):HE sc d (.Call (.Name "len" np) [e] [] pos) (fun loc at_=>(fa loc at_).bind fun p=>(opLen p.1).map fun r=>(r,p.2)):=⟨E_len (ha:=ha.1) (hne:=hne) (hk:=hk)⟩
theorem HE_ord {np pos:Pos} {e:Expr} {fa:AF} (ha:HA sc d [e] fa) (hne:∀ env,∃ t r,starEach [e] env=(false,t)::r:=by intro _;exact (wit2 rfl)) (hk:sc.names.lookup ("ord":Str)=some .globalImplicit):HE sc d (.Call (.Name "ord" np) [e] [] pos) (fun loc at_=>(fa loc at_).bind fun p=>(opOrd p.1).map fun r=>(r,p.2)):=⟨E_ord (ha:=ha.1) (hne:=hne) (hk:=hk)⟩
theorem HE_min {np pos:Pos} {e e':Expr} {fa:AF} (ha:HA sc d [e,e'] fa) (hne:∀ env,∃ t r,starEach [e,e'] env=(false,t)::r:=by intro _;exact (wit2 rfl)) (hk:sc.names.lookup ("min":Str)=some .globalImplicit):HE sc d (.Call (.Name "min" np) [e,e'] [] pos) (fun loc at_=>(fa loc at_).bind fun p=>(opMin p.1).map fun r=>(r,p.2)):=⟨E_min (ha:=ha.1) (hne:=hne) (hk:=hk)⟩
theorem HE_ends {o e:Expr} {apos pos:Pos} {fo fe:EF} (ho:HE sc d o fo) (hx:HE sc d e fe) {pl:Env→Sem Bool} (he:∀ env,eval (.Call (.Attribute o "endswith" apos) [e] [] pos) env=(do
   let ov ←eval o env
   standAt apos.atName
   let (f,first) ←holding [ov] (getMethod ov "endswith" (pl env))
   callWith pos f first (backTo pos (starEach [e] env)) [])) (hst:∀ env,starEach [e] env=[(false,eval e env)]):HE sc d (.Call (.Attribute o "endswith" apos) [e] [] pos) (fun loc at_=>(fo loc at_).bind fun p=>(fe loc p.2).bind fun q=>match p.1 with
   | .s (.str l)=>(match q.1 with | .s (.str m)=>some (.s (.bool (endsL l m)),q.2) |_=>none)
   |_=>none):=⟨E_ends (ho:=ho.1) (hx:=hx.1) (he:=he) (hst:=hst)⟩
theorem HE_max {np pos:Pos} {e:Expr} {fa:AF} (ha:HA sc d [e] fa) (hne:∀ env,∃ t r,starEach [e] env=(false,t)::r:=by intro _;exact (wit2 rfl)) (hk:sc.names.lookup ("max":Str)=some .globalImplicit):HE sc d (.Call (.Name "max" np) [e] [] pos) (fun loc at_=>(fa loc at_).bind fun p=>(opMax p.1).map fun r=>(r,p.2)):=⟨E_max (ha:=ha.1) (hne:=hne) (hk:=hk)⟩
theorem HB_nil:HB sc d [] (fun loc at_=>some (.nxt,loc,at_)):=⟨B_nil ⟩
theorem HB_cons {st:Stmt} {rest:List Stmt} {F G:SF} (hF:HS sc d st F) (hG:HB sc d rest G):HB sc d (st::rest) (fSeq F G):=⟨B_cons (hF:=hF.1) (hG:=hG.1)⟩
theorem HS_assign {x:Str} {p pos:Pos} {value:Expr} {f:EF} (i:Nat) (h:HE sc d value f) (hnd:(sc.names.map (·.1)).Nodup) (hi:(sc.names.map (·.1))[i]? =some x) (hk:sc.names.lookup x=some .local) (hs:∀ env,swapsWith value (some (.Name x p)) pos.line env=pure false:=by intro _;rfl):HS sc d (.Assign [.Name x p] value pos) (fun loc at_=>(f loc at_).map fun q=>(.nxt,loc.set i (some q.1),q.2)):=⟨S_assign (i:=i) (h:=h.1) (hnd:=hnd) (hi:=hi) (hk:=hk) (hs:=hs)⟩
theorem HS_ret {e:Expr} {pos:Pos} {f:EF} (h:HE sc d e f):HS sc d (.Return (some e) pos) (fun loc at_=>(f loc at_).map fun p=>(.ret p.1,loc,p.2)):=⟨S_ret (h:=h.1)⟩
theorem HS_if {t:Expr} {body orelse:List Stmt} {pos:Pos} {ft:CF} {F G:SF} (ht:HC sc d t ft) (hF:HB sc d body F) (hG:HB sc d orelse G):HS sc d (.If t body orelse pos) (fun loc at_=>(ft loc at_).bind fun p=>if p.1 then F loc p.2 else G loc p.2):=⟨S_if (ht:=ht.1) (hF:=hF.1) (hG:=hG.1)⟩
theorem HS_expr {e:Expr} {pos:Pos} {f:EF} (h:HE sc d e f) (hs:∀ env,swapsWith e none pos.line env=pure false:=by intro _;rfl):HS sc d (.Expr e pos) (fun loc at_=>(f loc at_).map fun p=>(.nxt,loc,p.2)):=⟨S_expr (h:=h.1) (hs:=hs)⟩
theorem HS_while {t:Expr} {body:List Stmt} {pos:Pos} {ft:CF} {F:SF} (n:Nat) (ht:HC sc d t ft) (hF:HB sc d body F):HS sc d (.While t body [] pos) (loopN n ft F):=⟨S_while (n:=n) (ht:=ht.1) (hF:=hF.1)⟩
theorem HS_aug {x:Str} {p pos:Pos} {value:Expr} {op:Operator} {f:EF} (i:Nat) (hop:op= .Add∨op= .Sub) (h:HE sc d value f) (hnd:(sc.names.map (·.1)).Nodup) (hi:(sc.names.map (·.1))[i]? =some x) (hk:sc.names.lookup x=some .local):HS sc d (.AugAssign (.Name x p) op value pos) (fun loc at_=>(getLoc loc i).bind fun m=>(simp1 m).bind fun old=>(f loc at_).bind fun r=>(simp1 r.1).bind fun v=>(binop op old v).bind fun w=>(asInt w).map fun z=>(.nxt,loc.set i (some (.s (.int z))),r.2)):=⟨S_aug (i:=i) (hop:=hop) (h:=h.1) (hnd:=hnd) (hi:=hi) (hk:=hk)⟩
theorem HS_for {x:Str} {px pos:Pos} {iter:Expr} {body:List Stmt} {fi:IF} {F:SF} (i:Nat) (hI:HI sc d iter fi) (hF:HB sc d body F) (hnd:(sc.names.map (·.1)).Nodup) (hi:(sc.names.map (·.1))[i]? =some x) (hk:sc.names.lookup x=some .local) (hs:∀ env x,foldedSetIterable iter env x=pure x:=by intro _ _;rfl):HS sc d (.For (.Name x px) iter body [] pos) (fun loc at_=>(fi loc at_).bind fun p=>forN p.1 i F loc p.2):=⟨S_for (i:=i) (hI:=hI.1) (hF:=hF.1) (hnd:=hnd) (hi:=hi) (hk:=hk) (hs:=hs)⟩
theorem HS_break {pos:Pos}:HS sc d (.Break pos) (fun loc at_=>some (.brk,loc,at_)):=⟨S_break ⟩
theorem HS_cont {pos:Pos}:HS sc d (.Continue pos) (fun loc at_=>some (.cont,loc,at_)):=⟨S_cont ⟩
theorem HI_range {np pos:Pos} {args:List Expr} {fa:AF} (ha:HA sc d args fa) (hne:∀ env,∃ t r,starEach args env=(false,t)::r:=by intro _;exact (wit2 rfl)) (hk:sc.names.lookup ("range":Str)=some .globalImplicit):HI sc d (.Call (.Name "range" np) args [] pos) (fRange2 fa):=⟨I_range (ha:=ha.1) (hne:=hne) (hk:=hk)⟩
theorem HE_fn {fn:Str} {np pos:Pos} {args:List Expr} {f:Addr} {fa:AF} {F:List MV→At→Option (MV×At)} (ha:HA sc d args fa) (hf:FnOk f d F) (hk:sc.names.lookup fn=some .globalImplicit) (hd:(fn==("__debug__":Str))=false) (hg:∀ P,nsIn (KV P) mainGlobals fn=some (some (.ref f))) (hkp:∀ P,keepIn (KV P) (.ref f)=true) (hne:∀ env,∃ t r,starEach args env=(false,t)::r):HE sc d (.Call (.Name fn np) args [] pos) (fun loc at_=>(fa loc at_).bind fun q=>F q.1 q.2):=⟨E_fn (ha:=ha.1) (hf:=hf) (hk:=hk) (hd:=hd) (hg:=hg) (hkp:=hkp) (hne:=hne)⟩
theorem HE_fn0 {fn:Str} {np pos:Pos} {f:Addr} {F:List MV→At→Option (MV×At)} (hf:FnOk f d F) (hk:sc.names.lookup fn=some .globalImplicit) (hd:(fn==("__debug__":Str))=false) (hg:∀ P,nsIn (KV P) mainGlobals fn=some (some (.ref f))) (hkp:∀ P,keepIn (KV P) (.ref f)=true):HE sc d (.Call (.Name fn np) [] [] pos) (fun loc at_=>F [] at_):=⟨E_fn0 (hf:=hf) (hk:=hk) (hd:=hd) (hg:=hg) (hkp:=hkp)⟩
theorem HE_list {elts:List Expr} {pos:Pos} {fa:AF} (ha:HA sc d elts fa):HE sc d (.List elts pos) (fList fa):=⟨E_list (ha:=ha.1)⟩
theorem HE_strs {elts:List Expr} {pos:Pos} (xs:List Str) (h:elts.map constOf=xs.map some) (hl:xs.length≤1000000):HE sc d (.List elts pos) (fun _ at_=>some (.list (xs.map fun x=>.str x.cps.toList),at_)):=⟨E_strs (xs:=xs) (h:=h) (hl:=hl)⟩
theorem HC_in2 {l r:Expr} {pos:Pos} {fa fb:EF} (neg:Bool) (ha:HE sc d l fa) (hb:HE sc d r fb) (hm:behindInMarks (if neg then .NotIn else .In) r=false:=by rfl):HC sc d (.Compare l [if neg then .NotIn else .In] [r] pos) (fIn2 neg fa fb):=⟨C_in2 (neg:=neg) (ha:=ha.1) (hb:=hb.1) (hm:=hm)⟩
theorem HE_in2 {l r:Expr} {pos:Pos} {fa fb:EF} (neg:Bool) (ha:HE sc d l fa) (hb:HE sc d r fb) (hm:behindInMarks (if neg then .NotIn else .In) r=false:=by rfl):HE sc d (.Compare l [if neg then .NotIn else .In] [r] pos) (bool1 (fIn2 neg fa fb)):=⟨E_in2 (neg:=neg) (ha:=ha.1) (hb:=hb.1) (hm:=hm)⟩
theorem HE_gstr {x:Str} {pos:Pos} {l:List Nat} (hk:sc.names.lookup x=some .globalImplicit) (hd:(x==("__debug__":Str))=false) (hg:∀ P,∃ t,nsIn (KV P) mainGlobals x=some (some (.str (strL l) t))):HE sc d (.Name x pos) (fun _ at_=>some (.s (.str l),at_)):=⟨E_gstr (hk:=hk) (hd:=hd) (hg:=hg)⟩
theorem HE_join {z e:Expr} {apos pos:Pos} {fz fe:EF} (hz:HE sc d z fz) (hx:HE sc d e fe) {pl:Env→Sem Bool} (he:∀ env,eval (.Call (.Attribute z "join" apos) [e] [] pos) env=(do
   let ov ←eval z env
   standAt apos.atName
   let (f,first) ←holding [ov] (getMethod ov "join" (pl env))
   callWith pos f first (backTo pos (starEach [e] env)) [])) (hst:∀ env,starEach [e] env=[(false,eval e env)]):HE sc d (.Call (.Attribute z "join" apos) [e] [] pos) (fun loc at_=>(fz loc at_).bind fun p=>(fe loc p.2).bind fun q=>match p.1 with
   | .s (.str l)=>(match q.1 with
    | .list xs=>if l=[] then (strsOf xs).bind fun ys=>if ys.flatten.length≤1000 then some (.s (.str ys.flatten),q.2) else none else none
    |_=>none)
   |_=>none):=⟨E_join (hz:=hz.1) (hx:=hx.1) (he:=he) (hst:=hst)⟩
theorem HE_sliceL {value:Expr} {lower upper:Option Expr} {p pos:Pos} {fo:EF} {fl fu:PF} (ho:HE sc d value fo) (hl:HP sc d lower fl) (hu:HP sc d upper fu):HE sc d (.Subscript value (.Slice lower upper none p) pos) (fun loc at_=>(fo loc at_).bind fun p=>(fl loc p.2).bind fun q=>(fu loc q.2).bind fun r=>match p.1 with
   | .list l=>if l.length≤1000000 then some (.list (sliceX l q.1 r.1),r.2) else none
   |_=>none):=⟨E_sliceL (ho:=ho.1) (hl:=hl.1) (hu:=hu.1)⟩
theorem HE_neNil {l:Expr} {lp pos:Pos} {fa:EF} (ha:HE sc d l fa):HC sc d (.Compare l [.NotEq] [.List [] lp] pos) (fun loc at_=>(fa loc at_).bind fun p=>match p.1 with
   | .list xs=>some (!xs.isEmpty,p.2)
   |_=>none):=⟨E_neNil (ha:=ha.1)⟩
theorem HI_val {e:Expr} {f:EF} (h:HE sc d e f):HI sc d e (fun loc at_=>(f loc at_).bind fun p=>match p.1 with
   | .list xs=>some (xs,p.2)
   | .s v=>(match v with | .str l=>some (l.map fun x=>.str [x],p.2) |_=>none)
   |_=>none):=⟨I_val (h:=h.1)⟩
theorem HE_dict {keys:List (Option Expr)} {values:List Expr} {pos:Pos} (kvE:List (Expr×Expr)) (kv:List (Str×Str)) (hc:kvE.map (fun p=>(constOf p.1,constOf p.2))=kv.map (fun p=>(some p.1,some p.2))) (hsh:∀ env,(evalEachOpt keys env).zip ((evalEach values env).map fun v=>do let x ←v;standAt pos;pure x)=(kvE.map fun p=>(eval p.1 env,do let x ←eval p.2 env;standAt pos;pure x)).map fun p=>(some p.1,p.2)) (h0:kvE≠[]) (hl:kvE.length≤15) (hnd:(kv.map (·.1)).Nodup):HE sc d (.Dict keys values pos) (fun _ at_=>some (.dict (kvL kv),at_)):=⟨E_dict (kvE:=kvE) (kv:=kv) (hc:=hc) (hsh:=hsh) (h0:=h0) (hl:=hl) (hnd:=hnd)⟩
theorem HE_idxD {value slice:Expr} {pos:Pos} {fo fi:EF} (ho:HE sc d value fo) (hi:HE sc d slice fi) (hs:∀ o i,subscripted slice false o i=operate [o,i] (getItem o i):=by intro _ _;with_unfolding_all rfl):HE sc d (.Subscript value slice pos) (fun loc at_=>(fo loc at_).bind fun p=>(fi loc p.2).bind fun q=>match p.1 with
   | .dict kv=>(match q.1 with | .s (.str x)=>(kv.find? fun p=>p.1==x).map fun p=>(.s (.str p.2),q.2) |_=>none)
   |_=>none):=⟨E_idxD (ho:=ho.1) (hi:=hi.1) (hs:=hs)⟩
theorem HE_meth {o:Expr} {m:Str} {apos pos:Pos} {args:List Expr} {f:Addr} {fo:EF} {fa:AF} {F:List MV→At→Option (MV×At)} {pl:Env→Sem Bool} (ho:HE sc d o fo) (ha:HA sc d args fa) (hf:FnOk f d F) (hm:∀ P,methOk (KV P) m f=true) (hn:m∉atNames) (hne:∀ env,∃ t r,starEach args env=(false,t)::r) (he:∀ env,eval (.Call (.Attribute o m apos) args [] pos) env=(do
   let ov ←eval o env
   standAt apos.atName
   let (f,first) ←holding [ov] (getMethod ov m (pl env))
   callWith pos f first (backTo pos (starEach args env)) [])):HE sc d (.Call (.Attribute o m apos) args [] pos) (fMeth fo fa F):=⟨E_meth (ho:=ho.1) (ha:=ha.1) (hf:=hf) (hm:=hm) (hn:=hn) (hne:=hne) (he:=he)⟩
theorem HE_meth0 {o:Expr} {m:Str} {apos pos:Pos} {f:Addr} {fo:EF} {F:List MV→At→Option (MV×At)} {pl:Env→Sem Bool} (ho:HE sc d o fo) (hf:FnOk f d F) (hm:∀ P,methOk (KV P) m f=true) (hn:m∉atNames) (he:∀ env,eval (.Call (.Attribute o m apos) [] [] pos) env=(do
   let ov ←eval o env
   standAt apos.atName
   let (f,first) ←holding [ov] (getMethod ov m (pl env))
   callWith pos f first (backTo pos (starEach [] env)) [])):HE sc d (.Call (.Attribute o m apos) [] [] pos) (fun loc at_=>(fo loc at_).bind fun p=>match p.1 with
   | .self=>F [.self] p.2
   |_=>none):=⟨E_meth0 (ho:=ho.1) (hf:=hf) (hm:=hm) (hn:=hn) (he:=he)⟩
theorem HE_comp0 {elt iter:Expr} {x:Str} {px pos:Pos} {scope:Scope} {fi:IF} {fe:EF} (T:List Tm) (hI:HI sc d iter fi) (he:HE (relS scope sc) d elt fe) (hT:tmOk sc scope x T=true) (hcell:scope.names.all (fun y=>y.2!= .cell)=true) (hkind:scope.kind= .function) (hnames:scope.names.all (fun y=>y.2!= .local||scope.names.lookup y.1==some .local)=true) (hx:scope.names.lookup x=some .local) (hs:∀ env x,foldedSetIterable iter env x=pure x:=by intro _ _;rfl):HE sc d (.ListComp elt [⟨.Name x px,iter,[],0⟩] scope pos) (fComp fi T (fun _ _=>some true) fe):=⟨E_comp T hI.1 he.1 .no ⟨hT,hcell,hkind,hnames,hx⟩ hs⟩
theorem HE_comp1 {elt iter:Expr} {x:Str} {px pos:Pos} {scope:Scope} {fi:IF} {fe:EF} {t:Expr} {ft:CF} (T:List Tm) (hI:HI sc d iter fi) (he:HE (relS scope sc) d elt fe) (ht:HC (relS scope sc) d t ft) (hT:tmOk sc scope x T=true) (hcell:scope.names.all (fun y=>y.2!= .cell)=true) (hkind:scope.kind= .function) (hnames:scope.names.all (fun y=>y.2!= .local||scope.names.lookup y.1==some .local)=true) (hx:scope.names.lookup x=some .local) (hs:∀ env x,foldedSetIterable iter env x=pure x:=by intro _ _;rfl):HE sc d (.ListComp elt [⟨.Name x px,iter,[t],0⟩] scope pos) (fComp fi T (testV ft T) fe):=⟨E_comp T hI.1 he.1 (.one ht.1) ⟨hT,hcell,hkind,hnames,hx⟩ hs⟩
end
theorem hL {sc:Scope} {d:Nat} {x:Str} {pos:Pos} (i:Nat) (hi:(sc.names.map (·.1))[i]? =some x:=by kernel_rfl) (hl:sc.names.lookup x=some .local:=by kernel_rfl) (hd:(x==("__debug__":Str))=false:=by decide) (hc:(x==("__classdict__":Str))=false:=by decide):HE sc d (.Name x pos) (fun loc at_=>(getLoc loc i).map (·,at_)):=⟨eL i hi hl hd hc⟩
end
section
theorem bindL_out {k:Str→Option NameKind}:∀ {l:List (Str×Value)} {m:Str→Option Value} {x:Str},x∉l.map (·.1)→bindL k l m x=m x:=by
 intro l
 induction l with
 |nil=>intro m x _;rfl
 |cons p r ih=>
  obtain⟨n,v⟩:=p
  intro m x h
  rw[List.map_cons] at h
  have h1:x≠n:=fun q=>h (q▸ .head _)
  unfold bindL
  rw[ih fun q=>h (.tail _ q)]
  split
  ·simp[h1]
  ·rfl
theorem bindC_out {k:Str→Option NameKind}:∀ {l:List (Str×Value)} {m:Str→Option Value} {x:Str},x∉l.map (·.1)→bindC k l m x=m x:=by
 intro l
 induction l with
 |nil=>intro m x _;rfl
 |cons p r ih=>
  obtain⟨n,v⟩:=p
  intro m x h
  rw[List.map_cons] at h
  have h1:x≠n:=fun q=>h (q▸ .head _)
  unfold bindC
  rw[ih fun q=>h (.tail _ q)]
  split
  ·rfl
  ·simp[h1]
theorem bindL_in {k:Str→Option NameKind}:∀ {l:List (Str×Value)} {m:Str→Option Value} {x:Str} {v:Value},(l.map (·.1)).Nodup→(x,v)∈l→k x=some .local→bindL k l m x=some v:=by
 intro l
 induction l with
 |nil=>intro m x v _ h;injection h
 |cons p r ih=>
  obtain⟨n,w⟩:=p
  intro m x v hn h hk
  rw[List.map_cons,List.nodup_cons] at hn
  unfold bindL
  rcases List.mem_cons.mp h with q |q
  ·cases q
   rw[bindL_out hn.1,if_pos hk]
   simp
  ·exact ih hn.2 q hk
theorem bindC_in {k:Str→Option NameKind}:∀ {l:List (Str×Value)} {m:Str→Option Value} {x:Str} {v:Value},(l.map (·.1)).Nodup→(x,v)∈l→k x≠some .local→bindC k l m x=some v:=by
 intro l
 induction l with
 |nil=>intro m x v _ h;injection h
 |cons p r ih=>
  obtain⟨n,w⟩:=p
  intro m x v hn h hk
  rw[List.map_cons,List.nodup_cons] at hn
  unfold bindC
  rcases List.mem_cons.mp h with q |q
  ·cases q
   rw[bindC_out hn.1,if_neg hk]
   simp
  ·exact ih hn.2 q hk
theorem cells_some:∀ (names:List (Str×NameKind)) (n:Nat) (acc:List (Str×Addr)) (x:Str),(x,NameKind.cell)∈names∨(acc.lookup x).isSome=true→((cellsFrom n names acc).lookup x).isSome=true:=by
 intro names
 induction names with
 |nil=>
  intro n acc x h
  rcases h with h |h
  ·injection h
  ·exact h
 |cons p r ih=>
  obtain⟨y,k⟩:=p
  intro n acc x h
  unfold cellsFrom
  split
  ·rename_i hk
   apply ih
   by_cases q:x=y
   ·right;rw[q,List.lookup_cons_self];rfl
   ·have:(x==y)=false:=by simpa using q
    rcases h with h |h
    ·rcases List.mem_cons.mp h with z |z
     ·cases z;exact absurd rfl q
     ·exact .inl z
    ·right;rw[List.lookup_cons,this];exact h
  ·rename_i hk
   apply ih
   rcases h with h |h
   ·rcases List.mem_cons.mp h with z |z
    ·cases z;exact absurd rfl hk
    ·exact .inl z
   ·exact .inr h
structure FnT (f:Addr) (fd:FuncData) (body:List Stmt) (ps:List Str) (n:Nat):Prop where
 K:∀ P,((KV P).lookup f).map (·.data)=some (.func fd)
 cd:∀ P,codeIn (KV P) fd.code fd.qualname=true
 body:fd.body= .stmts body
 gl:fd.globals=mainGlobals
 bl:fd.builtins=builtinsNs
 bind:∀ vals:List Value,vals.length=n→bindArgs fd ⟨vals,[]⟩=pure (ps.zip vals)
 len:ps.length=n
 names:ps=(fd.scope.names.map (·.1)).take n
 nd:(fd.scope.names.map (·.1)).Nodup
 loc:ps.all (fun x=>fd.scope.names.lookup x==some .local||fd.scope.names.lookup x==some .cell)=true
 clo:fd.closure=[]
 co:fd.scope.isCoroutine=false
 gen:fd.scope.isGenerator=false
 k:fd.scope.kind= .function
noncomputable def callCx (c:Cx) (fd:FuncData) (f:Addr) (s:Shared):Cx:={ c with outer:=c.env::c.outer,fs:=c.env.locals::c.fs,env:=callEnvC fd s.heap.objs.size f,A:=c.A.deeper (callEnvC fd s.heap.objs.size f),h0:=s.heap }
section
variable {f:Addr} {d n m:Nat} {fd:FuncData} {body:List Stmt} {ps:List Str} {c:Cx} {sc:Scope} {loc:Loc} {at_ at':At} {s s':Shared} {args:List MV} {vals:List Value}
theorem call_ex0 {b:Addr}:b∈(callCx c fd f s).ex0↔b∈c.ex:=by
 show b∈(if c.slf then [c.D] else [])++(c.env.locals::c.fs)↔b∈c.env.locals::((if c.slf then [c.D] else [])++c.fs)
 rw[List.mem_append,List.mem_cons,List.mem_cons,List.mem_append]
 exact or_left_comm
theorem FnT.loc' (T:FnT f fd body ps n) {x:Str} (hx:x∈ps):fd.scope.names.lookup x=some .local∨fd.scope.names.lookup x=some .cell:=
 (Bool.or_eq_true_iff.mp (List.all_eq_true.mp T.loc x hx)).imp beq_iff_eq.mp beq_iff_eq.mp
theorem call_ok (T:FnT f fd body ps n) (O:c.Ok sc (d+1)):(callCx c fd f s).Ok fd.scope d:=
 ⟨O.base,rfl,T.k,T.gl,T.bl,O.hnd,Nat.lt_of_le_of_lt (Nat.le_of_eq (Nat.add_right_comm c.A.depth 1 d)) O.room,Nat.lt_of_le_of_lt (Nat.le_of_eq (Nat.add_right_comm c.A.units 3 (3*d))) O.un,O.se,fun q=>by
  obtain⟨f1,f2,f3⟩:=O.fr q
  exact⟨Around.frames_deeper f1,rfl,(congrArg (c.env.locals:: ·) f3).trans (List.filterMap_cons_some f2).symm⟩⟩
theorem args_at {i:Nat} {mv:MV} (e:(args.map some++List.replicate m none)[i]? =some (some mv)):args[i]? =some mv:=by
 rw[List.getElem?_append] at e
 split at e
 ·rw[List.getElem?_map] at e
  exact om1 e fun a ha e'=>ha.trans e'
 ·rw[List.getElem?_replicate] at e
  split at e<;>cases e
theorem call_locs (T:FnT f fd body ps n) (S:St c loc at_ s) (hv:c.Vs s.heap args vals) (hlen:args.length=n) {h₁:Heap} {s₁:Shared} (x₁:InCallC s (callEnvC fd s.heap.objs.size f).locals (bindL (callEnvC fd s.heap.objs.size f).kindOf (ps.zip vals) fun _=>none) (callEnvC fd s.heap.objs.size f).cells (bindC (callEnvC fd s.heap.objs.size f).kindOf (ps.zip vals) fun _=>none) s₁) (e₁:s₁.heap=h₁) (hk₁:∀ b o,s.heap.get? b=some o→h₁.get? b=some o) {i:Nat} {mv:MV} (hi:args[i]? =some mv):
  LocR (callCx c fd f s) h₁ (bindL (callEnvC fd s.heap.objs.size f).kindOf (ps.zip vals) fun _=>none) i mv:=by
 obtain⟨v,hv1,hv2⟩:=hv.get hi
 have hin:i<n:=hlen▸(List.getElem?_eq_some_iff.mp hi).1
 have hvl:vals.length=n:=hv.len.symm.trans hlen
 obtain⟨x,hx⟩:∃ x,ps[i]? =some x:=⟨_,List.getElem?_eq_getElem (T.len.symm▸hin)⟩
 have hmem:(x,v)∈ps.zip vals:=List.mem_of_getElem? (i:=i) (List.getElem?_zip_eq_some.mpr ⟨hx,hv1⟩)
 have hnz:((ps.zip vals).map (·.1)).Nodup:=by
  rw[List.map_fst_zip (Nat.le_of_eq (T.len.trans hvl.symm)),T.names]
  exact T.nd.sublist (List.take_sublist _ _)
 refine⟨x,v,?_,hv2.imp (fun _=>rfl) fun a o e _ nx=>⟨fun q=> ?_,hk₁ a o e⟩,fun q=>bindL_in hnz hmem q,fun q=> ?_⟩
 ·exact (List.getElem?_take_of_lt hin).symm.trans (T.names▸hx)
 ·cases q with
  |head=>exact Heap.ne_of_none e (new_get _) rfl
  |tail _ q=>exact nx (call_ex0.mp q)
 ·have q':=(T.loc' (List.mem_of_getElem? hx)).resolve_left q
  obtain⟨cl,hcl⟩:=Option.isSome_iff_exists.mp (cells_some fd.scope.names (s.heap.objs.size+1) [] x (.inl (lookup_mem q')))
  have hcl':(callEnvC fd s.heap.objs.size f).cells.lookup x=some cl:=hcl
  have hcc:=x₁.cell x cl hcl'
  rw[bindC_in hnz hmem q,e₁] at hcc
  have hlt:s.heap.objs.size<cl:=x₁.above x cl (mem_of_lookup hcl')
  refine⟨cl,hcl',hcc,fun z=> ?_⟩
  cases z with
  |head=>exact Nat.lt_irrefl _ hlt
  |tail _ z=>
   obtain⟨o,e⟩:=S.ex_some (call_ex0.mp z)
   exact Nat.lt_irrefl _ (Nat.lt_trans hlt (Heap.lt_size e))
theorem call_st (T:FnT f fd body ps n) (S:St c loc at_ s) (hv:c.Vs s.heap args vals) (hlen:args.length=n) {s₁:Shared} (x₁:InCallC s (callEnvC fd s.heap.objs.size f).locals (bindL (callEnvC fd s.heap.objs.size f).kindOf (ps.zip vals) fun _=>none) (callEnvC fd s.heap.objs.size f).cells (bindC (callEnvC fd s.heap.objs.size f).kindOf (ps.zip vals) fun _=>none) s₁):
  St (callCx c fd f s) (args.map some++List.replicate m none) at_ s₁:=by
 have hns:=x₁.toInCall.ns
 obtain⟨h₁,tk₁,e₁,hk₁⟩:=x₁.done
 have ne:∀ b∈c.env.locals::c.fs,b∈c.ex:=fun b hb=>(List.mem_cons.mp hb).elim (fun q=>q▸Cx.loc_ex) Cx.fs_ex
 refine St.like (s:=s) (by rw[e₁]) (by rw[e₁]) (by rw[e₁]) ?_
 rw[e₁] at hns ⊢
 refine⟨S.gens,S.drawn,S.os,fun b o e=>hk₁ b o (S.stays b o e),fun b o e _=>hk₁ b o e,fun b hb o e=>⟨o.slots,hk₁ b o e,fun _=>rfl⟩,new_get _,S.stays.fresh,⟨_,hns,fun i mv e=>call_locs T S hv hlen x₁ (by rw[e₁]) hk₁ (args_at e)⟩,fun q=> ?_,S.noself,fun q=> ?_,fun b hb=>S.exFresh (ne b hb),fun b hb=> ?_,fun z=> ?_,fun q z=>(List.mem_cons.mp z).elim (S.self q).nl (S.n2 q)⟩
 ·have a:=S.self q
  obtain⟨es,n,e,_⟩:=a.at_.dict
  exact⟨a.at_.keeps hk₁,fun z=>(List.mem_cons.mp z).elim (Heap.ne_of_none a.at_.inst (new_get _)) fun z=>a.nx (call_ex0.mp z),Heap.ne_of_none e (new_get _),a.nb⟩
 ·obtain⟨o,es,ep,e,dd⟩:=Ns.fd hns
  exact⟨T.k▸nofun,⟨s.heap.objs.size,o,rfl,S.stays.fresh,e,nf_of dd nofun⟩,frames_imp (fun b o e f=>⟨o,hk₁ b o e,f⟩) _ (S.fr q)⟩
 ·refine FdR.imp (h:=s.heap) ?_ fun o e _=>hk₁ b o e
  refine (List.mem_cons.mp hb).elim (fun q=> ?_) (S.fd b)
  obtain⟨m,hn,_⟩:=S.ns
  exact q▸Ns.fd hn
 ·obtain⟨o,e⟩:=S.ex_some (ne _ z)
  exact Heap.ne_of_none e (new_get _) rfl
theorem call_back {loc2:Loc} (S:St c loc at_ s) (S2:St (callCx c fd f s) loc2 at' s'):Post true c loc at' s s':=by
 have kx:Keep c.ex s.heap s'.heap:=fun b o e nb=>S2.keep b o e fun q=>nb (call_ex0.mp q)
 have kl:=S2.slots c.env.locals (.head _)
 refine⟨⟨S2.gens,S2.drawn,S2.os,S2.stays,(S.apart kx).2,fun b hb o e=> ?_,S.fresh,S.freshB,S.ns.imp (fun a o e _ n=>kx a o e n) fun m n=> ?_,fun q=>⟨(S2.self q).at_,(S.self q).nx,(S.self q).nl,(S.self q).nb⟩,S2.noself,fun q=>(S2.fr q).2.2,S.fdB,fun b hb=>S2.fd b (.tail _ hb),S.n1,S.n2⟩,kx,fun _ hx o e=> ?_⟩
 ·obtain⟨sl,x,y⟩:=S.slots b hb o e
  obtain⟨sl',x',y'⟩:=S2.slots b (.tail _ hb) _ x
  exact⟨sl',x',fun z=>(y' z).trans (y z)⟩
 ·obtain⟨oL,es,ep,hL,hd,r⟩:=n
  obtain⟨sl,x,_⟩:=kl oL hL
  exact⟨_,es,ep,x,hd,r⟩
 ·obtain⟨sl,x,y⟩:=kl o e
  rw[x,y hx]
inductive FlEnd (c:Cx) (h:Heap) (r:MV) (fl:Flow):Prop
 |nxt (e:fl= .next) (q:r= .s .none)
 |ret (v:Value) (e:fl= .ret v) (q:c.V h r v)
theorem fn_gen (T:FnT f fd body ps n) {r:MV} {R:Result→Shared→Prop} (O:c.Ok sc (d+1)) (S:St c loc at_ s) (hv:c.Vs s.heap args vals) (hlen:args.length=n)
  (hG:∀ s₁,St (callCx c fd f s) (args.map some++List.replicate m none) at_ s₁→wpAny (model pw c.w) (callCx c fd f s).A (execs body (callCx c fd f s).env) (fun fl s'=>FlEnd (callCx c fd f s) s'.heap r fl∧∃ loc',St (callCx c fd f s) loc' at' s') (fun _ _=>False) s₁)
  (hR:∀ v s',c.V s'.heap r v→Post true c loc at' s s'→R (.ok (.ret v)) s'):codeAny (model pw c.w) c.A (.call (.ref f) ⟨vals,[]⟩) R s:=by
 refine om1 (T.K c.w.params) fun ob hob hdat=> ?_
 refine codeAny_call_cells (fd:=fd) (body:=body) (binds:=ps.zip vals) (Nat.lt_of_le_of_lt (Nat.le_add_right _ _) O.room) (S.K O _ _ hob) hdat (S.TR O).nolimit (codeRec_of (S.K O) (T.cd _)) T.body (T.bind vals (hv.len.symm.trans hlen)) T.clo
  (fun y hy=>(T.loc' (mem_zip_fst hy)).imp id fun q=>⟨q,cells_some _ _ _ _ (.inl (lookup_mem q))⟩) (fun s₁ x₁=> ?_) T.co T.gen T.k
 refine wpAny_mono (hG s₁ (call_st T S hv hlen x₁)) (fun fl s' x=> ?_) fun e s' x=>x.elim
 obtain⟨hfl,loc2,S2⟩:=x
 cases hfl with
 |nxt e q=>exact e▸hR .none s' (q▸rfl) (call_back S S2)
 |ret v e q=>exact e▸hR v s' (q.less fun b hb=>.tail _ (call_ex0.mpr hb)) (call_back S S2)
end
theorem all_or {α:Type} {l:List α} {p q:α→Bool} (h:l.all p=true):l.all (fun x=>p x||q x)=true:=List.all_eq_true.mpr fun x hx=>Bool.or_eq_true_iff.mpr (.inl (List.all_eq_true.mp h x hx))
theorem run_inv {n m:Nat} {G:SF} {args:List MV} {at_:At} {r:MV×At} {P:Prop} (h:runBody n m G args at_=some r) (k:∀ o loc at',args.length=n→G (args.map some++List.replicate m none) at_=some (o,loc,at')→(o= .ret r.1∨o= .nxt∧r.1= .s .none)→at'=r.2→P):P:=by
 refine if_on h fun hlen h=>ob3 h fun o loc at' e h=> ?_
 cases o with
 |ret v=>exact k (.ret v) loc at' hlen e (.inl (congrArg (fun z=>Out.ret z.1) (Option.some.inj h))) (congrArg Prod.snd (Option.some.inj h))
 |nxt=>exact k .nxt loc at' hlen e (.inr ⟨rfl,(congrArg Prod.fst (Option.some.inj h)).symm⟩) (congrArg Prod.snd (Option.some.inj h))
 |_=>exact nn h
theorem fn_of_bodyC {f:Addr} {d n m:Nat} {fd:FuncData} {body:List Stmt} {G:SF} {ps:List Str} (hG:SoundB fd.scope d body G) (T:FnT f fd body ps n):FnOk f (d+1) (runBody n m G):=by
 intro c sc O loc at_ s args vals r at' R S hv hF hR
 refine run_inv hF fun o loc2 at2 hlen hg ho ha=>fn_gen (m:=m) T O S hv hlen (fun s₁ S'=>hG.use (call_ok T O) S' hg (fun fl s' hfl P'=>⟨?_,loc2,(show at2=at' from ha)▸P'.1⟩) fun k e s' hk _ _=> ?_) hR
 ·rcases ho with rfl |⟨rfl,hr⟩
  ·obtain⟨v,e,hv⟩:=hfl
   exact .ret v e hv
  ·exact .nxt hfl hr
 ·rcases ho with rfl |⟨rfl,_⟩<;>cases hk
theorem fnH_of_bodyC {f:Addr} {d n m:Nat} {fd:FuncData} {body:List Stmt} {G:SF} {ps:List Str} (hG:HB fd.scope d body G)
  (hK:∀ P,((KV P).lookup f).map (·.data)=some (.func fd)) (hcd:∀ P,codeIn (KV P) fd.code fd.qualname=true) (hbody:fd.body= .stmts body)
  (hgl:fd.globals=mainGlobals) (hbl:fd.builtins=builtinsNs)
  (hbind:∀ vals:List Value,vals.length=n→bindArgs fd ⟨vals,[]⟩=pure (ps.zip vals)) (hps:ps.length=n) (hnames:ps=(fd.scope.names.map (·.1)).take n) (hnd:(fd.scope.names.map (·.1)).Nodup)
  (hloc:ps.all (fun x=>fd.scope.names.lookup x==some .local||fd.scope.names.lookup x==some .cell)=true) (hclo:fd.closure=[]) (hco:fd.scope.isCoroutine=false) (hgen:fd.scope.isGenerator=false) (hk:fd.scope.kind= .function):
  FnOk f (d+1) (runBody n m G):=fn_of_bodyC hG.1 ⟨hK,hcd,hbody,hgl,hbl,hbind,hps,hnames,hnd,hloc,hclo,hco,hgen,hk⟩
theorem fn_of_body {f:Addr} {d n m:Nat} {fd:FuncData} {body:List Stmt} {G:SF} {ps:List Str} (hG:SoundB fd.scope d body G)
  (hK:∀ P,((KV P).lookup f).map (·.data)=some (.func fd)) (hcd:∀ P,codeIn (KV P) fd.code fd.qualname=true) (hbody:fd.body= .stmts body)
  (hgl:fd.globals=mainGlobals) (hbl:fd.builtins=builtinsNs)
  (hbind:∀ vals:List Value,vals.length=n→bindArgs fd ⟨vals,[]⟩=pure (ps.zip vals)) (hps:ps.length=n) (hnames:ps=(fd.scope.names.map (·.1)).take n) (hnd:(fd.scope.names.map (·.1)).Nodup)
  (hloc:ps.all (fun x=>fd.scope.names.lookup x==some .local)=true) (hcell:fd.scope.names.all (fun x=>x.2!= .cell)=true) (hco:fd.scope.isCoroutine=false) (hgen:fd.scope.isGenerator=false) (hk:fd.scope.kind= .function) (hclo:fd.closure=[]:=by rfl):
  FnOk f (d+1) (runBody n m G):=
 fn_of_bodyC hG ⟨hK,hcd,hbody,hgl,hbl,hbind,hps,hnames,hnd,all_or hloc,hclo,hco,hgen,hk⟩
theorem fnH_of_body {f:Addr} {d n m:Nat} {fd:FuncData} {body:List Stmt} {G:SF} {ps:List Str} (hG:HB fd.scope d body G) (hK:∀ P,((KV P).lookup f).map (·.data)=some (.func fd)) (hcd:∀ P,codeIn (KV P) fd.code fd.qualname=true) (hbody:fd.body= .stmts body) (hgl:fd.globals=mainGlobals) (hbl:fd.builtins=builtinsNs) (hbind:∀ vals:List Value,vals.length=n→bindArgs fd ⟨vals,[]⟩=pure (ps.zip vals)) (hps:ps.length=n) (hnames:ps=(fd.scope.names.map (·.1)).take n) (hnd:(fd.scope.names.map (·.1)).Nodup) (hloc:ps.all (fun x=>fd.scope.names.lookup x==some .local)=true) (hcell:fd.scope.names.all (fun x=>x.2!= .cell)=true) (hco:fd.scope.isCoroutine=false) (hgen:fd.scope.isGenerator=false) (hk:fd.scope.kind= .function) (hclo:fd.closure=[]:=by rfl):FnOk f (d+1) (runBody n m G):=fn_of_body hG.1 hK hcd hbody hgl hbl hbind hps hnames hnd hloc hcell hco hgen hk hclo
end
section
noncomputable def fdM (name qual:Str) (st:Stmt) (pm:Value) (cdv:Value):FuncData:={ name,qualname:=qual,params:=fnParams st,body:=.stmts (fnBody st),scope:=fnScope st,globals:=mainGlobals,closure:=[],defaults:=.none,kwdefaults:=.none,doc:=.none,pyModule:=pm,annotations:=none,code:=cdv,closureTuple:=.none,builtins:=builtinsNs }
noncomputable abbrev PK (sc:Scope) (d:Nat) (b:List Stmt):={ G:SF // SoundB sc d b G }
noncomputable def tb338:List Row:=(tabRows.lookup 338).getD []
theorem tbIn338:(338,tb338)∈tabRows:=by decide+kernel
noncomputable def tb348:List Row:=(tabRows.lookup 348).getD []
theorem tbIn348:(348,tb348)∈tabRows:=by decide+kernel
noncomputable def tb358:List Row:=(tabRows.lookup 358).getD []
theorem tbIn358:(358,tb358)∈tabRows:=by decide+kernel
noncomputable def tb374:List Row:=(tabRows.lookup 374).getD []
theorem tbIn374:(374,tb374)∈tabRows:=by decide+kernel
noncomputable def tb393:List Row:=(tabRows.lookup 393).getD []
theorem tbIn393:(393,tb393)∈tabRows:=by decide+kernel
noncomputable def tb406:List Row:=(tabRows.lookup 406).getD []
theorem tbIn406:(406,tb406)∈tabRows:=by decide+kernel
noncomputable abbrev sc42:Scope:=fnScope (cS 2 1)
noncomputable def pk42 (d:Nat):PK sc42 d (fnBody (cS 2 1)):=⟨_,(B_cons (S_setat 0 (by rfl) (eL 1) (eL 0))
 (B_cons (S_setat 1 (by rfl) E_int (eL 0))
 (B_cons (S_setat 2 (by rfl) (E_len (A_cons (E_at 0 (by rfl) (eL 0)) A_nil) (hk:=(by kernel_rfl))) (eL 0))
 (B_cons (S_setat 3 (by rfl) E_int (eL 0))
 (B_cons (S_setat 4 (by rfl) (E_at 1 (by rfl) (eL 0)) (eL 0))
 (B_cons (S_setat 5 (by rfl) (E_at 2 (by rfl) (eL 0)) (eL 0))
 B_nil))))))⟩
noncomputable def G42:SF:=(pk42 0).1
theorem fn42 {d:Nat}:FnOk 42 (d+1) (runBody 2 1 G42):=
 fn_of_body (fd:=fdM "set_current" "BaseStemmer.set_current" (cS 2 1) (.str "snowballstemmer.basestemmer" 194) (.ref 41)) (ps:=["self","value"]) (pk42 d).2 (by intro P;kernel_rfl) (by intro P;kernel_rfl) (by rfl) (by rfl) (by rfl) (len2 fun _ _=>rfl) (by rfl) (by kernel_rfl) (by decide+kernel) (by kernel_rfl) (by kernel_rfl) (by kernel_rfl) (by kernel_rfl) (by kernel_rfl)
noncomputable abbrev sc35:Scope:=fnScope (cS 2 0)
noncomputable def pk35 (d:Nat):PK sc35 (d+1) (fnBody (cS 2 0)):=⟨_,(B_cons (S_expr (E_meth (eL 0) (A_cons E_str A_nil) fn42 (by intro P;kernel_rfl) (by decide) (by intro _;exact⟨_,_,rfl⟩) (by intro _;rfl)))
 B_nil)⟩
noncomputable def G35:SF:=(pk35 0).1
theorem fn35 {d:Nat}:FnOk 35 ((d+1)+1) (runBody 1 0 G35):=
 fn_of_body (fd:=fdM "__init__" "BaseStemmer.__init__" (cS 2 0) (.str "snowballstemmer.basestemmer" 194) (.ref 34)) (ps:=["self"]) (pk35 d).2 (by intro P;kernel_rfl) (by intro P;kernel_rfl) (by rfl) (by rfl) (by rfl) (len1 fun _=>rfl) (by rfl) (by kernel_rfl) (by decide+kernel) (by kernel_rfl) (by kernel_rfl) (by kernel_rfl) (by kernel_rfl) (by kernel_rfl)
noncomputable abbrev sc49:Scope:=fnScope (cS 2 2)
noncomputable def pk49 (d:Nat):PK sc49 d (fnBody (cS 2 2)):=⟨_,(B_cons (S_ret (E_at 0 (by rfl) (eL 0)))
 B_nil)⟩
noncomputable def G49:SF:=(pk49 0).1
theorem fn49 {d:Nat}:FnOk 49 (d+1) (runBody 1 0 G49):=
 fn_of_body (fd:=fdM "get_current" "BaseStemmer.get_current" (cS 2 2) (.str "snowballstemmer.basestemmer" 194) (.ref 48)) (ps:=["self"]) (pk49 d).2 (by intro P;kernel_rfl) (by intro P;kernel_rfl) (by rfl) (by rfl) (by rfl) (len1 fun _=>rfl) (by rfl) (by kernel_rfl) (by decide+kernel) (by kernel_rfl) (by kernel_rfl) (by kernel_rfl) (by kernel_rfl) (by kernel_rfl)
noncomputable abbrev sc63:Scope:=fnScope (cS 2 4)
noncomputable def pk63 (d:Nat):PK sc63 d (fnBody (cS 2 4)):=⟨_,(B_cons (S_if (C_cmp (E_at 1 (by rfl) (eL 0)) (E_at 2 (by rfl) (eL 0))) (B_cons (S_ret E_bool)
 B_nil) B_nil)
 (B_cons (S_if (C_in2 true (E_idx (E_at 0 (by rfl) (eL 0)) (E_at 1 (by rfl) (eL 0))) (eL 1)) (B_cons (S_ret E_bool)
 B_nil) B_nil)
 (B_cons (S_augat 1 (.inl rfl) (by rfl) (eL 0) E_int)
 (B_cons (S_ret E_bool)
 B_nil))))⟩
noncomputable def G63:SF:=(pk63 0).1
theorem fn63 {d:Nat}:FnOk 63 (d+1) (runBody 2 0 G63):=
 fn_of_body (fd:=fdM "in_grouping" "BaseStemmer.in_grouping" (cS 2 4) (.str "snowballstemmer.basestemmer" 194) (.ref 62)) (ps:=["self","s"]) (pk63 d).2 (by intro P;kernel_rfl) (by intro P;kernel_rfl) (by rfl) (by rfl) (by rfl) (len2 fun _ _=>rfl) (by rfl) (by kernel_rfl) (by decide+kernel) (by kernel_rfl) (by kernel_rfl) (by kernel_rfl) (by kernel_rfl) (by kernel_rfl)
noncomputable abbrev sc70:Scope:=fnScope (cS 2 5)
noncomputable def pk70 (d:Nat):PK sc70 d (fnBody (cS 2 5)):=⟨_,(B_cons (S_while 60 (C_cmp (E_at 1 (by rfl) (eL 0)) (E_at 2 (by rfl) (eL 0))) (B_cons (S_if (C_in2 true (E_idx (E_at 0 (by rfl) (eL 0)) (E_at 1 (by rfl) (eL 0))) (eL 1)) (B_cons (S_ret E_bool)
 B_nil) B_nil)
 (B_cons (S_augat 1 (.inl rfl) (by rfl) (eL 0) E_int)
 B_nil)))
 (B_cons (S_ret E_bool)
 B_nil))⟩
noncomputable def G70:SF:=(pk70 0).1
theorem fn70 {d:Nat}:FnOk 70 (d+1) (runBody 2 0 G70):=
 fn_of_body (fd:=fdM "go_in_grouping" "BaseStemmer.go_in_grouping" (cS 2 5) (.str "snowballstemmer.basestemmer" 194) (.ref 69)) (ps:=["self","s"]) (pk70 d).2 (by intro P;kernel_rfl) (by intro P;kernel_rfl) (by rfl) (by rfl) (by rfl) (len2 fun _ _=>rfl) (by rfl) (by kernel_rfl) (by decide+kernel) (by kernel_rfl) (by kernel_rfl) (by kernel_rfl) (by kernel_rfl) (by kernel_rfl)
noncomputable abbrev sc98:Scope:=fnScope (cS 2 9)
noncomputable def pk98 (d:Nat):PK sc98 d (fnBody (cS 2 9)):=⟨_,(B_cons (S_while 60 (C_cmp (E_at 1 (by rfl) (eL 0)) (E_at 2 (by rfl) (eL 0))) (B_cons (S_if (C_in2 false (E_idx (E_at 0 (by rfl) (eL 0)) (E_at 1 (by rfl) (eL 0))) (eL 1)) (B_cons (S_ret E_bool)
 B_nil) B_nil)
 (B_cons (S_augat 1 (.inl rfl) (by rfl) (eL 0) E_int)
 B_nil)))
 (B_cons (S_ret E_bool)
 B_nil))⟩
noncomputable def G98:SF:=(pk98 0).1
theorem fn98 {d:Nat}:FnOk 98 (d+1) (runBody 2 0 G98):=
 fn_of_body (fd:=fdM "go_out_grouping" "BaseStemmer.go_out_grouping" (cS 2 9) (.str "snowballstemmer.basestemmer" 194) (.ref 97)) (ps:=["self","s"]) (pk98 d).2 (by intro P;kernel_rfl) (by intro P;kernel_rfl) (by rfl) (by rfl) (by rfl) (len2 fun _ _=>rfl) (by rfl) (by kernel_rfl) (by decide+kernel) (by kernel_rfl) (by kernel_rfl) (by kernel_rfl) (by kernel_rfl) (by kernel_rfl)
noncomputable abbrev sc105:Scope:=fnScope (cS 2 10)
noncomputable def pk105 (d:Nat):PK sc105 d (fnBody (cS 2 10)):=⟨_,(B_cons (S_if (C_cmp (E_at 1 (by rfl) (eL 0)) (E_at 3 (by rfl) (eL 0))) (B_cons (S_ret E_bool)
 B_nil) B_nil)
 (B_cons (S_if (C_in2 true (E_idx (E_at 0 (by rfl) (eL 0)) (E_bin (E_at 1 (by rfl) (eL 0)) E_int)) (eL 1)) (B_cons (S_augat 1 (.inr rfl) (by rfl) (eL 0) E_int)
 (B_cons (S_ret E_bool)
 B_nil)) B_nil)
 (B_cons (S_ret E_bool)
 B_nil)))⟩
noncomputable def G105:SF:=(pk105 0).1
theorem fn105 {d:Nat}:FnOk 105 (d+1) (runBody 2 0 G105):=
 fn_of_body (fd:=fdM "out_grouping_b" "BaseStemmer.out_grouping_b" (cS 2 10) (.str "snowballstemmer.basestemmer" 194) (.ref 104)) (ps:=["self","s"]) (pk105 d).2 (by intro P;kernel_rfl) (by intro P;kernel_rfl) (by rfl) (by rfl) (by rfl) (len2 fun _ _=>rfl) (by rfl) (by kernel_rfl) (by decide+kernel) (by kernel_rfl) (by kernel_rfl) (by kernel_rfl) (by kernel_rfl) (by kernel_rfl)
noncomputable abbrev sc126:Scope:=fnScope (cS 2 13)
noncomputable def pk126 (d:Nat):PK sc126 d (fnBody (cS 2 13)):=⟨_,(B_cons (S_if (C_val (E_ends (E_slice (E_at 0 (by rfl) (eL 0)) (P_some (E_at 3 (by rfl) (eL 0))) (P_some (E_at 1 (by rfl) (eL 0)))) (eL 1) (by intro _;rfl) (by intro _;rfl))) (B_cons (S_augat 1 (.inr rfl) (by rfl) (eL 0) (E_len (A_cons (eL 1) A_nil) (hk:=(by kernel_rfl))))
 (B_cons (S_ret E_bool)
 B_nil)) B_nil)
 (B_cons (S_ret E_bool)
 B_nil))⟩
noncomputable def G126:SF:=(pk126 0).1
theorem fn126 {d:Nat}:FnOk 126 (d+1) (runBody 2 1 G126):=
 fn_of_body (fd:=fdM "eq_s_b" "BaseStemmer.eq_s_b" (cS 2 13) (.str "snowballstemmer.basestemmer" 194) (.ref 125)) (ps:=["self","s"]) (pk126 d).2 (by intro P;kernel_rfl) (by intro P;kernel_rfl) (by rfl) (by rfl) (by rfl) (len2 fun _ _=>rfl) (by rfl) (by kernel_rfl) (by decide+kernel) (by kernel_rfl) (by kernel_rfl) (by kernel_rfl) (by kernel_rfl) (by kernel_rfl)
end
section
noncomputable abbrev sc133:Scope:=fnScope (cS 2 14)
noncomputable def pk133 (d:Nat):PK sc133 d (fnBody (cS 2 14)):=⟨_,(B_cons (S_assign 2 E_int (by decide+kernel) (by kernel_rfl) (by kernel_rfl))
 (B_cons (S_assign 3 (E_len (A_cons (eL 1) A_nil) (hk:=(by kernel_rfl))) (by decide+kernel) (by kernel_rfl) (by kernel_rfl))
 (B_cons (S_assign 4 (E_at 1 (by rfl) (eL 0)) (by decide+kernel) (by kernel_rfl) (by kernel_rfl))
 (B_cons (S_assign 5 (E_at 2 (by rfl) (eL 0)) (by decide+kernel) (by kernel_rfl) (by kernel_rfl))
 (B_cons (S_assign 6 E_int (by decide+kernel) (by kernel_rfl) (by kernel_rfl))
 (B_cons (S_assign 7 E_int (by decide+kernel) (by kernel_rfl) (by kernel_rfl))
 (B_cons (S_assign 8 E_bool (by decide+kernel) (by kernel_rfl) (by kernel_rfl))
 (B_cons (S_while 60 (C_val E_bool) (B_cons (S_assign 9 (E_bin (eL 2) (E_bin (E_bin (eL 3) (eL 2)) E_int)) (by decide+kernel) (by kernel_rfl) (by kernel_rfl))
 (B_cons (S_assign 10 E_int (by decide+kernel) (by kernel_rfl) (by kernel_rfl))
 (B_cons (S_assign 11 (E_min (A_cons (eL 6) (A_cons (eL 7) A_nil)) (hk:=(by kernel_rfl))) (by decide+kernel) (by kernel_rfl) (by kernel_rfl))
 (B_cons (S_assign 12 (E_idx (eL 1) (eL 9)) (by decide+kernel) (by kernel_rfl) (by kernel_rfl))
 (B_cons (S_for 13 (I_range (A_cons (eL 11) (A_cons (E_len (A_cons (E_am (eL 12)) A_nil) (hk:=(by kernel_rfl))) A_nil)) (hk:=(by kernel_rfl))) (B_cons (S_if (C_cmp (E_bin (eL 4) (eL 11)) (eL 5)) (B_cons (S_assign 10 (E_neg E_int) (by decide+kernel) (by kernel_rfl) (by kernel_rfl))
 (B_cons S_break
 B_nil)) B_nil)
 (B_cons (S_assign 10 (E_bin (E_ord (A_cons (E_idx (E_at 0 (by rfl) (eL 0)) (E_bin (eL 4) (eL 11))) A_nil) (hk:=(by kernel_rfl))) (E_ord (A_cons (E_idx (E_am (eL 12)) (eL 13)) A_nil) (hk:=(by kernel_rfl)))) (by decide+kernel) (by kernel_rfl) (by kernel_rfl))
 (B_cons (S_if (C_cmp (eL 10) E_int) (B_cons S_break
 B_nil) B_nil)
 (B_cons (S_aug 11 (.inl rfl) E_int (by decide+kernel) (by kernel_rfl) (by kernel_rfl))
 B_nil)))) (by decide+kernel) (by kernel_rfl) (by kernel_rfl))
 (B_cons (S_if (C_cmp (eL 10) E_int) (B_cons (S_assign 3 (eL 9) (by decide+kernel) (by kernel_rfl) (by kernel_rfl))
 (B_cons (S_assign 7 (eL 11) (by decide+kernel) (by kernel_rfl) (by kernel_rfl))
 B_nil)) (B_cons (S_assign 2 (eL 9) (by decide+kernel) (by kernel_rfl) (by kernel_rfl))
 (B_cons (S_assign 6 (eL 11) (by decide+kernel) (by kernel_rfl) (by kernel_rfl))
 B_nil)))
 (B_cons (S_if (C_cmp (E_bin (eL 3) (eL 2)) E_int) (B_cons (S_if (C_cmp (eL 2) E_int) (B_cons S_break
 B_nil) B_nil)
 (B_cons (S_if (C_cmp (eL 3) (eL 2)) (B_cons S_break
 B_nil) B_nil)
 (B_cons (S_if (C_val (eL 8)) (B_cons S_break
 B_nil) B_nil)
 (B_cons (S_assign 8 E_bool (by decide+kernel) (by kernel_rfl) (by kernel_rfl))
 B_nil)))) B_nil)
 B_nil))))))))
 (B_cons (S_while 60 (C_val E_bool) (B_cons (S_assign 12 (E_idx (eL 1) (eL 2)) (by decide+kernel) (by kernel_rfl) (by kernel_rfl))
 (B_cons (S_if (C_cmp (eL 6) (E_len (A_cons (E_am (eL 12)) A_nil) (hk:=(by kernel_rfl)))) (B_cons (S_setat 1 (by rfl) (E_bin (eL 4) (E_len (A_cons (E_am (eL 12)) A_nil) (hk:=(by kernel_rfl)))) (eL 0))
 (B_cons (S_ret (E_am (eL 12)))
 B_nil)) B_nil)
 (B_cons (S_assign 2 (E_am (eL 12)) (by decide+kernel) (by kernel_rfl) (by kernel_rfl))
 (B_cons (S_if (C_cmp (eL 2) E_int) (B_cons (S_ret E_int)
 B_nil) B_nil)
 B_nil)))))
 (B_cons (S_ret (E_neg E_int))
 B_nil))))))))))⟩
noncomputable def G133:SF:=(pk133 0).1
theorem fn133 {d:Nat}:FnOk 133 (d+1) (runBody 2 16 G133):=
 fn_of_body (fd:=fdM "find_among" "BaseStemmer.find_among" (cS 2 14) (.str "snowballstemmer.basestemmer" 194) (.ref 132)) (ps:=["self","v"]) (pk133 d).2 (by intro P;kernel_rfl) (by intro P;kernel_rfl) (by rfl) (by rfl) (by rfl) (len2 fun _ _=>rfl) (by rfl) (by kernel_rfl) (by decide+kernel) (by kernel_rfl) (by kernel_rfl) (by kernel_rfl) (by kernel_rfl) (by kernel_rfl)
end
section
noncomputable abbrev sc140:Scope:=fnScope (cS 2 15)
noncomputable def pk140 (d:Nat):PK sc140 d (fnBody (cS 2 15)):=⟨_,(B_cons (S_assign 2 E_int (by decide+kernel) (by kernel_rfl) (by kernel_rfl))
 (B_cons (S_assign 3 (E_len (A_cons (eL 1) A_nil) (hk:=(by kernel_rfl))) (by decide+kernel) (by kernel_rfl) (by kernel_rfl))
 (B_cons (S_assign 4 (E_at 1 (by rfl) (eL 0)) (by decide+kernel) (by kernel_rfl) (by kernel_rfl))
 (B_cons (S_assign 5 (E_at 3 (by rfl) (eL 0)) (by decide+kernel) (by kernel_rfl) (by kernel_rfl))
 (B_cons (S_assign 6 E_int (by decide+kernel) (by kernel_rfl) (by kernel_rfl))
 (B_cons (S_assign 7 E_int (by decide+kernel) (by kernel_rfl) (by kernel_rfl))
 (B_cons (S_assign 8 E_bool (by decide+kernel) (by kernel_rfl) (by kernel_rfl))
 (B_cons (S_while 60 (C_val E_bool) (B_cons (S_assign 9 (E_bin (eL 2) (E_bin (E_bin (eL 3) (eL 2)) E_int)) (by decide+kernel) (by kernel_rfl) (by kernel_rfl))
 (B_cons (S_assign 10 E_int (by decide+kernel) (by kernel_rfl) (by kernel_rfl))
 (B_cons (S_assign 11 (E_min (A_cons (eL 6) (A_cons (eL 7) A_nil)) (hk:=(by kernel_rfl))) (by decide+kernel) (by kernel_rfl) (by kernel_rfl))
 (B_cons (S_assign 12 (E_idx (eL 1) (eL 9)) (by decide+kernel) (by kernel_rfl) (by kernel_rfl))
 (B_cons (S_for 13 (I_range (A_cons (E_bin (E_bin (E_len (A_cons (E_am (eL 12)) A_nil) (hk:=(by kernel_rfl))) E_int) (eL 11)) (A_cons (E_neg E_int) (A_cons (E_neg E_int) A_nil))) (hk:=(by kernel_rfl))) (B_cons (S_if (C_cmp (E_bin (eL 4) (eL 11)) (eL 5)) (B_cons (S_assign 10 (E_neg E_int) (by decide+kernel) (by kernel_rfl) (by kernel_rfl))
 (B_cons S_break
 B_nil)) B_nil)
 (B_cons (S_assign 10 (E_bin (E_ord (A_cons (E_idx (E_at 0 (by rfl) (eL 0)) (E_bin (E_bin (eL 4) E_int) (eL 11))) A_nil) (hk:=(by kernel_rfl))) (E_ord (A_cons (E_idx (E_am (eL 12)) (eL 13)) A_nil) (hk:=(by kernel_rfl)))) (by decide+kernel) (by kernel_rfl) (by kernel_rfl))
 (B_cons (S_if (C_cmp (eL 10) E_int) (B_cons S_break
 B_nil) B_nil)
 (B_cons (S_aug 11 (.inl rfl) E_int (by decide+kernel) (by kernel_rfl) (by kernel_rfl))
 B_nil)))) (by decide+kernel) (by kernel_rfl) (by kernel_rfl))
 (B_cons (S_if (C_cmp (eL 10) E_int) (B_cons (S_assign 3 (eL 9) (by decide+kernel) (by kernel_rfl) (by kernel_rfl))
 (B_cons (S_assign 7 (eL 11) (by decide+kernel) (by kernel_rfl) (by kernel_rfl))
 B_nil)) (B_cons (S_assign 2 (eL 9) (by decide+kernel) (by kernel_rfl) (by kernel_rfl))
 (B_cons (S_assign 6 (eL 11) (by decide+kernel) (by kernel_rfl) (by kernel_rfl))
 B_nil)))
 (B_cons (S_if (C_cmp (E_bin (eL 3) (eL 2)) E_int) (B_cons (S_if (C_cmp (eL 2) E_int) (B_cons S_break
 B_nil) B_nil)
 (B_cons (S_if (C_cmp (eL 3) (eL 2)) (B_cons S_break
 B_nil) B_nil)
 (B_cons (S_if (C_val (eL 8)) (B_cons S_break
 B_nil) B_nil)
 (B_cons (S_assign 8 E_bool (by decide+kernel) (by kernel_rfl) (by kernel_rfl))
 B_nil)))) B_nil)
 B_nil))))))))
 (B_cons (S_while 60 (C_val E_bool) (B_cons (S_assign 12 (E_idx (eL 1) (eL 2)) (by decide+kernel) (by kernel_rfl) (by kernel_rfl))
 (B_cons (S_if (C_cmp (eL 6) (E_len (A_cons (E_am (eL 12)) A_nil) (hk:=(by kernel_rfl)))) (B_cons (S_setat 1 (by rfl) (E_bin (eL 4) (E_len (A_cons (E_am (eL 12)) A_nil) (hk:=(by kernel_rfl)))) (eL 0))
 (B_cons (S_ret (E_am (eL 12)))
 B_nil)) B_nil)
 (B_cons (S_assign 2 (E_am (eL 12)) (by decide+kernel) (by kernel_rfl) (by kernel_rfl))
 (B_cons (S_if (C_cmp (eL 2) E_int) (B_cons (S_ret E_int)
 B_nil) B_nil)
 B_nil)))))
 (B_cons (S_ret (E_neg E_int))
 B_nil))))))))))⟩
noncomputable def G140:SF:=(pk140 0).1
theorem fn140 {d:Nat}:FnOk 140 (d+1) (runBody 2 16 G140):=
 fn_of_body (fd:=fdM "find_among_b" "BaseStemmer.find_among_b" (cS 2 15) (.str "snowballstemmer.basestemmer" 194) (.ref 139)) (ps:=["self","v"]) (pk140 d).2 (by intro P;kernel_rfl) (by intro P;kernel_rfl) (by rfl) (by rfl) (by rfl) (len2 fun _ _=>rfl) (by rfl) (by kernel_rfl) (by decide+kernel) (by kernel_rfl) (by kernel_rfl) (by kernel_rfl) (by kernel_rfl) (by kernel_rfl)
end
section
noncomputable abbrev sc147:Scope:=fnScope (cS 2 16)
noncomputable def pk147 (d:Nat):PK sc147 d (fnBody (cS 2 16)):=⟨_,(B_cons (S_assign 4 (E_bin (E_len (A_cons (eL 3) A_nil) (hk:=(by kernel_rfl))) (E_bin (eL 2) (eL 1))) (by decide+kernel) (by kernel_rfl) (by kernel_rfl))
 (B_cons (S_setat 0 (by rfl) (E_bin (E_bin (E_slice (E_at 0 (by rfl) (eL 0)) (P_some E_int) (P_some (eL 1))) (eL 3)) (E_slice (E_at 0 (by rfl) (eL 0)) (P_some (eL 2)) P_none)) (eL 0))
 (B_cons (S_augat 2 (.inl rfl) (by rfl) (eL 0) (eL 4))
 (B_cons (S_if (C_cmp (E_at 1 (by rfl) (eL 0)) (eL 2)) (B_cons (S_augat 1 (.inl rfl) (by rfl) (eL 0) (eL 4))
 B_nil) (B_cons (S_if (C_cmp (E_at 1 (by rfl) (eL 0)) (eL 1)) (B_cons (S_setat 1 (by rfl) (eL 1) (eL 0))
 B_nil) B_nil)
 B_nil))
 (B_cons (S_ret (eL 4))
 B_nil)))))⟩
noncomputable def G147:SF:=(pk147 0).1
theorem fn147 {d:Nat}:FnOk 147 (d+1) (runBody 4 2 G147):=
 fn_of_body (fd:=fdM "replace_s" "BaseStemmer.replace_s" (cS 2 16) (.str "snowballstemmer.basestemmer" 194) (.ref 146)) (ps:=["self","c_bra","c_ket","s"]) (pk147 d).2 (by intro P;kernel_rfl) (by intro P;kernel_rfl) (by rfl) (by rfl) (by rfl) (len4 fun _ _ _ _=>rfl) (by rfl) (by kernel_rfl) (by decide+kernel) (by kernel_rfl) (by kernel_rfl) (by kernel_rfl) (by kernel_rfl) (by kernel_rfl)
noncomputable abbrev sc154:Scope:=fnScope (cS 2 17)
noncomputable def pk154 (d:Nat):PK sc154 (d+1) (fnBody (cS 2 17)):=⟨_,(B_cons (S_assert (C_cmp (E_at 4 (by rfl) (eL 0)) E_int))
 (B_cons (S_assert (C_cmp (E_at 4 (by rfl) (eL 0)) (E_at 5 (by rfl) (eL 0))))
 (B_cons (S_assert (C_cmp (E_at 5 (by rfl) (eL 0)) (E_at 2 (by rfl) (eL 0))))
 (B_cons (S_assert (C_cmp (E_at 2 (by rfl) (eL 0)) (E_len (A_cons (E_at 0 (by rfl) (eL 0)) A_nil) (hk:=(by kernel_rfl)))))
 (B_cons (S_expr (E_meth (eL 0) (A_cons (E_at 4 (by rfl) (eL 0)) (A_cons (E_at 5 (by rfl) (eL 0)) (A_cons (eL 1) A_nil))) fn147 (by intro P;kernel_rfl) (by decide) (by intro _;exact⟨_,_,rfl⟩) (by intro _;rfl)))
 (B_cons (S_setat 5 (by rfl) (E_bin (E_at 4 (by rfl) (eL 0)) (E_len (A_cons (eL 1) A_nil) (hk:=(by kernel_rfl)))) (eL 0))
 B_nil))))))⟩
noncomputable def G154:SF:=(pk154 0).1
theorem fn154 {d:Nat}:FnOk 154 ((d+1)+1) (runBody 2 1 G154):=
 fn_of_body (fd:=fdM "slice_from" "BaseStemmer.slice_from" (cS 2 17) (.str "snowballstemmer.basestemmer" 194) (.ref 153)) (ps:=["self","s"]) (pk154 d).2 (by intro P;kernel_rfl) (by intro P;kernel_rfl) (by rfl) (by rfl) (by rfl) (len2 fun _ _=>rfl) (by rfl) (by kernel_rfl) (by decide+kernel) (by kernel_rfl) (by kernel_rfl) (by kernel_rfl) (by kernel_rfl) (by kernel_rfl)
noncomputable abbrev sc161:Scope:=fnScope (cS 2 18)
noncomputable def pk161 (d:Nat):PK sc161 (d+2) (fnBody (cS 2 18)):=⟨_,(B_cons (S_ret (E_meth (eL 0) (A_cons E_str A_nil) fn154 (by intro P;kernel_rfl) (by decide) (by intro _;exact⟨_,_,rfl⟩) (by intro _;rfl)))
 B_nil)⟩
noncomputable def G161:SF:=(pk161 0).1
theorem fn161 {d:Nat}:FnOk 161 ((d+2)+1) (runBody 1 0 G161):=
 fn_of_body (fd:=fdM "slice_del" "BaseStemmer.slice_del" (cS 2 18) (.str "snowballstemmer.basestemmer" 194) (.ref 160)) (ps:=["self"]) (pk161 d).2 (by intro P;kernel_rfl) (by intro P;kernel_rfl) (by rfl) (by rfl) (by rfl) (len1 fun _=>rfl) (by rfl) (by kernel_rfl) (by decide+kernel) (by kernel_rfl) (by kernel_rfl) (by kernel_rfl) (by kernel_rfl) (by kernel_rfl)
noncomputable abbrev sc262:Scope:=fnScope (cS 6 9)
noncomputable def pk262 (d:Nat):PK sc262 d (fnBody (cS 6 9)):=⟨_,(B_cons (S_ret (E_cmp (E_at 6 (by rfl) (eL 0)) (E_at 1 (by rfl) (eL 0))))
 B_nil)⟩
noncomputable def G262:SF:=(pk262 0).1
theorem fn262 {d:Nat}:FnOk 262 (d+1) (runBody 1 0 G262):=
 fn_of_body (fd:=fdM "r_R1" "DutchPorterStemmer.r_R1" (cS 6 9) (.str "snowballstemmer.dutch_porter_stemmer" 473) (.ref 261)) (ps:=["self"]) (pk262 d).2 (by intro P;kernel_rfl) (by intro P;kernel_rfl) (by rfl) (by rfl) (by rfl) (len1 fun _=>rfl) (by rfl) (by kernel_rfl) (by decide+kernel) (by kernel_rfl) (by kernel_rfl) (by kernel_rfl) (by kernel_rfl) (by kernel_rfl)
noncomputable abbrev sc269:Scope:=fnScope (cS 6 10)
noncomputable def pk269 (d:Nat):PK sc269 d (fnBody (cS 6 10)):=⟨_,(B_cons (S_ret (E_cmp (E_at 7 (by rfl) (eL 0)) (E_at 1 (by rfl) (eL 0))))
 B_nil)⟩
noncomputable def G269:SF:=(pk269 0).1
theorem fn269 {d:Nat}:FnOk 269 (d+1) (runBody 1 0 G269):=
 fn_of_body (fd:=fdM "r_R2" "DutchPorterStemmer.r_R2" (cS 6 10) (.str "snowballstemmer.dutch_porter_stemmer" 473) (.ref 268)) (ps:=["self"]) (pk269 d).2 (by intro P;kernel_rfl) (by intro P;kernel_rfl) (by rfl) (by rfl) (by rfl) (len1 fun _=>rfl) (by rfl) (by kernel_rfl) (by decide+kernel) (by kernel_rfl) (by kernel_rfl) (by kernel_rfl) (by kernel_rfl) (by kernel_rfl)
noncomputable abbrev sc276:Scope:=fnScope (cS 6 11)
noncomputable def pk276 (d:Nat):PK sc276 (d+3) (fnBody (cS 6 11)):=⟨_,(B_cons (S_assign 1 (E_bin (E_at 2 (by rfl) (eL 0)) (E_at 1 (by rfl) (eL 0))) (by decide+kernel) (by kernel_rfl) (by kernel_rfl))
 (B_cons (S_if (C_cmp (E_meth (eL 0) (A_cons (E_tab (a:=358) (by decide) tbIn358 (by kernel_rfl)) A_nil) fn140 (by intro P;kernel_rfl) (by decide) (by intro _;exact⟨_,_,rfl⟩) (by intro _;rfl)) E_int) (B_cons (S_ret E_bool)
 B_nil) B_nil)
 (B_cons (S_setat 1 (by rfl) (E_bin (E_at 2 (by rfl) (eL 0)) (eL 1)) (eL 0))
 (B_cons (S_setat 5 (by rfl) (E_at 1 (by rfl) (eL 0)) (eL 0))
 (B_cons (S_if (C_cmp (E_at 1 (by rfl) (eL 0)) (E_at 3 (by rfl) (eL 0))) (B_cons (S_ret E_bool)
 B_nil) B_nil)
 (B_cons (S_augat 1 (.inr rfl) (by rfl) (eL 0) E_int)
 (B_cons (S_setat 4 (by rfl) (E_at 1 (by rfl) (eL 0)) (eL 0))
 (B_cons (S_expr (E_meth0 (eL 0) fn161 (by intro P;kernel_rfl) (by decide) (by intro _;rfl)))
 (B_cons (S_ret E_bool)
 B_nil)))))))))⟩
noncomputable def G276:SF:=(pk276 0).1
theorem fn276 {d:Nat}:FnOk 276 ((d+3)+1) (runBody 1 2 G276):=
 fn_of_body (fd:=fdM "r_undouble" "DutchPorterStemmer.r_undouble" (cS 6 11) (.str "snowballstemmer.dutch_porter_stemmer" 473) (.ref 275)) (ps:=["self"]) (pk276 d).2 (by intro P;kernel_rfl) (by intro P;kernel_rfl) (by rfl) (by rfl) (by rfl) (len1 fun _=>rfl) (by rfl) (by kernel_rfl) (by decide+kernel) (by kernel_rfl) (by kernel_rfl) (by kernel_rfl) (by kernel_rfl) (by kernel_rfl)
noncomputable abbrev sc283:Scope:=fnScope (cS 6 12)
noncomputable def pk283 (d:Nat):PK sc283 (d+4) (fnBody (cS 6 12)):=⟨_,(B_cons (S_setat 8 (by rfl) E_bool (eL 0))
 (B_cons (S_setat 5 (by rfl) (E_at 1 (by rfl) (eL 0)) (eL 0))
 (B_cons (S_if (C_or (C_cmp (E_at 1 (by rfl) (eL 0)) (E_at 3 (by rfl) (eL 0))) (C_cmp (E_idx (E_at 0 (by rfl) (eL 0)) (E_bin (E_at 1 (by rfl) (eL 0)) E_int)) E_str)) (B_cons (S_ret E_bool)
 B_nil) B_nil)
 (B_cons (S_augat 1 (.inr rfl) (by rfl) (eL 0) E_int)
 (B_cons (S_setat 4 (by rfl) (E_at 1 (by rfl) (eL 0)) (eL 0))
 (B_cons (S_if (C_not (C_val (E_meth0 (eL 0) fn262 (by intro P;kernel_rfl) (by decide) (by intro _;rfl)))) (B_cons (S_ret E_bool)
 B_nil) B_nil)
 (B_cons (S_assign 1 (E_bin (E_at 2 (by rfl) (eL 0)) (E_at 1 (by rfl) (eL 0))) (by decide+kernel) (by kernel_rfl) (by kernel_rfl))
 (B_cons (S_if (C_not (C_val (E_meth (eL 0) (A_cons (E_gv (by kernel_rfl)) A_nil) fn105 (by intro P;kernel_rfl) (by decide) (by intro _;exact⟨_,_,rfl⟩) (by intro _;rfl)))) (B_cons (S_ret E_bool)
 B_nil) B_nil)
 (B_cons (S_setat 1 (by rfl) (E_bin (E_at 2 (by rfl) (eL 0)) (eL 1)) (eL 0))
 (B_cons (S_expr (E_meth0 (eL 0) fn161 (by intro P;kernel_rfl) (by decide) (by intro _;rfl)))
 (B_cons (S_setat 8 (by rfl) E_bool (eL 0))
 (B_cons (S_ret (E_meth0 (eL 0) fn276 (by intro P;kernel_rfl) (by decide) (by intro _;rfl)))
 B_nil))))))))))))⟩
noncomputable def G283:SF:=(pk283 0).1
theorem fn283 {d:Nat}:FnOk 283 ((d+4)+1) (runBody 1 2 G283):=
 fn_of_body (fd:=fdM "r_e_ending" "DutchPorterStemmer.r_e_ending" (cS 6 12) (.str "snowballstemmer.dutch_porter_stemmer" 473) (.ref 282)) (ps:=["self"]) (pk283 d).2 (by intro P;kernel_rfl) (by intro P;kernel_rfl) (by rfl) (by rfl) (by rfl) (len1 fun _=>rfl) (by rfl) (by kernel_rfl) (by decide+kernel) (by kernel_rfl) (by kernel_rfl) (by kernel_rfl) (by kernel_rfl) (by kernel_rfl)
noncomputable abbrev sc290:Scope:=fnScope (cS 6 13)
noncomputable def pk290 (d:Nat):PK sc290 (d+4) (fnBody (cS 6 13)):=⟨_,(B_cons (S_if (C_not (C_val (E_meth0 (eL 0) fn262 (by intro P;kernel_rfl) (by decide) (by intro _;rfl)))) (B_cons (S_ret E_bool)
 B_nil) B_nil)
 (B_cons (S_assign 1 (E_bin (E_at 2 (by rfl) (eL 0)) (E_at 1 (by rfl) (eL 0))) (by decide+kernel) (by kernel_rfl) (by kernel_rfl))
 (B_cons (S_if (C_not (C_val (E_meth (eL 0) (A_cons (E_gv (by kernel_rfl)) A_nil) fn105 (by intro P;kernel_rfl) (by decide) (by intro _;exact⟨_,_,rfl⟩) (by intro _;rfl)))) (B_cons (S_ret E_bool)
 B_nil) B_nil)
 (B_cons (S_setat 1 (by rfl) (E_bin (E_at 2 (by rfl) (eL 0)) (eL 1)) (eL 0))
 (B_cons (S_try (k:=421) (B_cons (S_if (C_not (C_val (E_meth (eL 0) (A_cons E_str A_nil) fn126 (by intro P;kernel_rfl) (by decide) (by intro _;exact⟨_,_,rfl⟩) (by intro _;rfl)))) (B_cons (S_raise (k:=421) (by decide) (by kernel_rfl))
 B_nil) B_nil)
 (B_cons (S_ret E_bool)
 B_nil)) (by decide) (by kernel_rfl))
 (B_cons (S_expr (E_meth0 (eL 0) fn161 (by intro P;kernel_rfl) (by decide) (by intro _;rfl)))
 (B_cons (S_ret (E_meth0 (eL 0) fn276 (by intro P;kernel_rfl) (by decide) (by intro _;rfl)))
 B_nil)))))))⟩
noncomputable def G290:SF:=(pk290 0).1
theorem fn290 {d:Nat}:FnOk 290 ((d+4)+1) (runBody 1 3 G290):=
 fn_of_body (fd:=fdM "r_en_ending" "DutchPorterStemmer.r_en_ending" (cS 6 13) (.str "snowballstemmer.dutch_porter_stemmer" 473) (.ref 289)) (ps:=["self"]) (pk290 d).2 (by intro P;kernel_rfl) (by intro P;kernel_rfl) (by rfl) (by rfl) (by rfl) (len1 fun _=>rfl) (by rfl) (by kernel_rfl) (by decide+kernel) (by kernel_rfl) (by kernel_rfl) (by kernel_rfl) (by kernel_rfl) (by kernel_rfl)
end
section
noncomputable abbrev sc241:Scope:=fnScope (cS 6 6)
noncomputable def pk241_0 (d:Nat): { F:SF // SoundS sc241 (d+2) ((fnBody (cS 6 6)).getD 0 (.Pass ⟨0,0,0,0⟩)) F }:=⟨_,(S_assign 1 (E_at 1 (by rfl) (eL 0)) (by decide+kernel) (by kernel_rfl) (by kernel_rfl))⟩
noncomputable def B241_0:SF:=(pk241_0 0).1
noncomputable def pk241_1 (d:Nat): { F:SF // SoundS sc241 (d+2) ((fnBody (cS 6 6)).getD 1 (.Pass ⟨0,0,0,0⟩)) F }:=⟨_,(S_while 60 (C_val E_bool) (B_cons (S_assign 2 (E_at 1 (by rfl) (eL 0)) (by decide+kernel) (by kernel_rfl) (by kernel_rfl))
 (B_cons (S_try (k:=421) (B_cons (S_setat 4 (by rfl) (E_at 1 (by rfl) (eL 0)) (eL 0))
 (B_cons (S_assign 3 (E_meth (eL 0) (A_cons (E_tab (a:=338) (by decide) tbIn338 (by kernel_rfl)) A_nil) fn133 (by intro P;kernel_rfl) (by decide) (by intro _;exact⟨_,_,rfl⟩) (by intro _;rfl)) (by decide+kernel) (by kernel_rfl) (by kernel_rfl))
 (B_cons (S_setat 5 (by rfl) (E_at 1 (by rfl) (eL 0)) (eL 0))
 (B_cons (S_if (C_cmp (eL 3) E_int) (B_cons (S_expr (E_meth (eL 0) (A_cons E_str A_nil) fn154 (by intro P;kernel_rfl) (by decide) (by intro _;exact⟨_,_,rfl⟩) (by intro _;rfl)))
 B_nil) (B_cons (S_if (C_cmp (eL 3) E_int) (B_cons (S_expr (E_meth (eL 0) (A_cons E_str A_nil) fn154 (by intro P;kernel_rfl) (by decide) (by intro _;exact⟨_,_,rfl⟩) (by intro _;rfl)))
 B_nil) (B_cons (S_if (C_cmp (eL 3) E_int) (B_cons (S_expr (E_meth (eL 0) (A_cons E_str A_nil) fn154 (by intro P;kernel_rfl) (by decide) (by intro _;exact⟨_,_,rfl⟩) (by intro _;rfl)))
 B_nil) (B_cons (S_if (C_cmp (eL 3) E_int) (B_cons (S_expr (E_meth (eL 0) (A_cons E_str A_nil) fn154 (by intro P;kernel_rfl) (by decide) (by intro _;exact⟨_,_,rfl⟩) (by intro _;rfl)))
 B_nil) (B_cons (S_if (C_cmp (eL 3) E_int) (B_cons (S_expr (E_meth (eL 0) (A_cons E_str A_nil) fn154 (by intro P;kernel_rfl) (by decide) (by intro _;exact⟨_,_,rfl⟩) (by intro _;rfl)))
 B_nil) (B_cons (S_if (C_cmp (E_at 1 (by rfl) (eL 0)) (E_at 2 (by rfl) (eL 0))) (B_cons (S_raise (k:=421) (by decide) (by kernel_rfl))
 B_nil) B_nil)
 (B_cons (S_augat 1 (.inl rfl) (by rfl) (eL 0) E_int)
 B_nil)))
 B_nil))
 B_nil))
 B_nil))
 B_nil))
 (B_cons S_cont
 B_nil))))) (by decide) (by kernel_rfl))
 (B_cons (S_setat 1 (by rfl) (eL 2) (eL 0))
 (B_cons S_break
 B_nil)))))⟩
noncomputable def B241_1:SF:=(pk241_1 0).1
noncomputable def pk241_2 (d:Nat): { F:SF // SoundS sc241 (d+2) ((fnBody (cS 6 6)).getD 2 (.Pass ⟨0,0,0,0⟩)) F }:=⟨_,(S_setat 1 (by rfl) (eL 1) (eL 0))⟩
noncomputable def B241_2:SF:=(pk241_2 0).1
noncomputable def pk241_3 (d:Nat): { F:SF // SoundS sc241 (d+2) ((fnBody (cS 6 6)).getD 3 (.Pass ⟨0,0,0,0⟩)) F }:=⟨_,(S_assign 4 (E_at 1 (by rfl) (eL 0)) (by decide+kernel) (by kernel_rfl) (by kernel_rfl))⟩
noncomputable def B241_3:SF:=(pk241_3 0).1
noncomputable def pk241_4 (d:Nat): { F:SF // SoundS sc241 (d+2) ((fnBody (cS 6 6)).getD 4 (.Pass ⟨0,0,0,0⟩)) F }:=⟨_,(S_try (k:=421) (B_cons (S_setat 4 (by rfl) (E_at 1 (by rfl) (eL 0)) (eL 0))
 (B_cons (S_if (C_or (C_cmp (E_at 1 (by rfl) (eL 0)) (E_at 2 (by rfl) (eL 0))) (C_cmp (E_idx (E_at 0 (by rfl) (eL 0)) (E_at 1 (by rfl) (eL 0))) E_str)) (B_cons (S_setat 1 (by rfl) (eL 4) (eL 0))
 (B_cons (S_raise (k:=421) (by decide) (by kernel_rfl))
 B_nil)) B_nil)
 (B_cons (S_augat 1 (.inl rfl) (by rfl) (eL 0) E_int)
 (B_cons (S_setat 5 (by rfl) (E_at 1 (by rfl) (eL 0)) (eL 0))
 (B_cons (S_expr (E_meth (eL 0) (A_cons E_str A_nil) fn154 (by intro P;kernel_rfl) (by decide) (by intro _;exact⟨_,_,rfl⟩) (by intro _;rfl)))
 B_nil))))) (by decide) (by kernel_rfl))⟩
noncomputable def B241_4:SF:=(pk241_4 0).1
noncomputable def pk241_5 (d:Nat): { F:SF // SoundS sc241 (d+2) ((fnBody (cS 6 6)).getD 5 (.Pass ⟨0,0,0,0⟩)) F }:=⟨_,(S_while 60 (C_val E_bool) (B_cons (S_assign 5 (E_at 1 (by rfl) (eL 0)) (by decide+kernel) (by kernel_rfl) (by kernel_rfl))
 (B_cons (S_try (k:=421) (B_cons (S_if (C_not (C_val (E_meth (eL 0) (A_cons (E_gv (by kernel_rfl)) A_nil) fn98 (by intro P;kernel_rfl) (by decide) (by intro _;exact⟨_,_,rfl⟩) (by intro _;rfl)))) (B_cons (S_raise (k:=421) (by decide) (by kernel_rfl))
 B_nil) B_nil)
 (B_cons (S_augat 1 (.inl rfl) (by rfl) (eL 0) E_int)
 (B_cons (S_assign 6 (E_at 1 (by rfl) (eL 0)) (by decide+kernel) (by kernel_rfl) (by kernel_rfl))
 (B_cons (S_try (k:=434) (B_cons (S_setat 4 (by rfl) (E_at 1 (by rfl) (eL 0)) (eL 0))
 (B_cons (S_while 60 (C_val E_bool) (B_cons (S_assign 7 (E_at 1 (by rfl) (eL 0)) (by decide+kernel) (by kernel_rfl) (by kernel_rfl))
 (B_cons (S_try (k:=447) (B_cons (S_if (C_or (C_cmp (E_at 1 (by rfl) (eL 0)) (E_at 2 (by rfl) (eL 0))) (C_cmp (E_idx (E_at 0 (by rfl) (eL 0)) (E_at 1 (by rfl) (eL 0))) E_str)) (B_cons (S_raise (k:=447) (by decide) (by kernel_rfl))
 B_nil) B_nil)
 (B_cons (S_augat 1 (.inl rfl) (by rfl) (eL 0) E_int)
 (B_cons (S_setat 5 (by rfl) (E_at 1 (by rfl) (eL 0)) (eL 0))
 (B_cons (S_assign 8 (E_at 1 (by rfl) (eL 0)) (by decide+kernel) (by kernel_rfl) (by kernel_rfl))
 (B_cons (S_try (k:=460) (B_cons (S_if (C_not (C_val (E_meth (eL 0) (A_cons (E_gv (by kernel_rfl)) A_nil) fn63 (by intro P;kernel_rfl) (by decide) (by intro _;exact⟨_,_,rfl⟩) (by intro _;rfl)))) (B_cons (S_raise (k:=460) (by decide) (by kernel_rfl))
 B_nil) B_nil)
 (B_cons (S_expr (E_meth (eL 0) (A_cons E_str A_nil) fn154 (by intro P;kernel_rfl) (by decide) (by intro _;exact⟨_,_,rfl⟩) (by intro _;rfl)))
 B_nil)) (by decide) (by kernel_rfl))
 (B_cons (S_setat 1 (by rfl) (eL 8) (eL 0))
 (B_cons S_break
 B_nil))))))) (by decide) (by kernel_rfl))
 (B_cons (S_setat 1 (by rfl) (eL 7) (eL 0))
 (B_cons (S_if (C_or (C_cmp (E_at 1 (by rfl) (eL 0)) (E_at 2 (by rfl) (eL 0))) (C_cmp (E_idx (E_at 0 (by rfl) (eL 0)) (E_at 1 (by rfl) (eL 0))) E_str)) (B_cons (S_setat 1 (by rfl) (eL 6) (eL 0))
 (B_cons (S_raise (k:=434) (by decide) (by kernel_rfl))
 B_nil)) B_nil)
 (B_cons (S_augat 1 (.inl rfl) (by rfl) (eL 0) E_int)
 (B_cons (S_setat 5 (by rfl) (E_at 1 (by rfl) (eL 0)) (eL 0))
 (B_cons (S_expr (E_meth (eL 0) (A_cons E_str A_nil) fn154 (by intro P;kernel_rfl) (by decide) (by intro _;exact⟨_,_,rfl⟩) (by intro _;rfl)))
 (B_cons S_break
 B_nil)))))))))
 B_nil)) (by decide) (by kernel_rfl))
 (B_cons S_cont
 B_nil))))) (by decide) (by kernel_rfl))
 (B_cons (S_setat 1 (by rfl) (eL 5) (eL 0))
 (B_cons S_break
 B_nil)))))⟩
noncomputable def B241_5:SF:=(pk241_5 0).1
noncomputable def pk241_6 (d:Nat): { F:SF // SoundS sc241 (d+2) ((fnBody (cS 6 6)).getD 6 (.Pass ⟨0,0,0,0⟩)) F }:=⟨_,(S_ret E_bool)⟩
noncomputable def B241_6:SF:=(pk241_6 0).1
noncomputable def pk241 (d:Nat):PK sc241 (d+2) (fnBody (cS 6 6)):=⟨_,(B_cons (pk241_0 d).2 (B_cons (pk241_1 d).2 (B_cons (pk241_2 d).2 (B_cons (pk241_3 d).2 (B_cons (pk241_4 d).2 (B_cons (pk241_5 d).2 (B_cons (pk241_6 d).2 B_nil)))))))⟩
noncomputable def G241:SF:=(pk241 0).1
theorem fn241 {d:Nat}:FnOk 241 ((d+2)+1) (runBody 1 13 G241):=
 fn_of_body (fd:=fdM "r_prelude" "DutchPorterStemmer.r_prelude" (cS 6 6) (.str "snowballstemmer.dutch_porter_stemmer" 473) (.ref 240)) (ps:=["self"]) (pk241 d).2 (by intro P;kernel_rfl) (by intro P;kernel_rfl) (by rfl) (by rfl) (by rfl) (len1 fun _=>rfl) (by rfl) (by kernel_rfl) (by decide+kernel) (by kernel_rfl) (by kernel_rfl) (by kernel_rfl) (by kernel_rfl) (by kernel_rfl)
end
section
noncomputable abbrev sc248:Scope:=fnScope (cS 6 7)
noncomputable def pk248 (d:Nat):PK sc248 (d+1) (fnBody (cS 6 7)):=⟨_,(B_cons (S_setat 6 (by rfl) (E_at 2 (by rfl) (eL 0)) (eL 0))
 (B_cons (S_setat 7 (by rfl) (E_at 2 (by rfl) (eL 0)) (eL 0))
 (B_cons (S_assign 1 (E_at 1 (by rfl) (eL 0)) (by decide+kernel) (by kernel_rfl) (by kernel_rfl))
 (B_cons (S_if (C_cmp (E_bin (E_at 1 (by rfl) (eL 0)) E_int) (E_at 2 (by rfl) (eL 0))) (B_cons (S_ret E_bool)
 B_nil) B_nil)
 (B_cons (S_augat 1 (.inl rfl) (by rfl) (eL 0) E_int)
 (B_cons (S_assign 2 (E_at 1 (by rfl) (eL 0)) (by decide+kernel) (by kernel_rfl) (by kernel_rfl))
 (B_cons (S_setat 1 (by rfl) (eL 1) (eL 0))
 (B_cons (S_if (C_not (C_val (E_meth (eL 0) (A_cons (E_gv (by kernel_rfl)) A_nil) fn98 (by intro P;kernel_rfl) (by decide) (by intro _;exact⟨_,_,rfl⟩) (by intro _;rfl)))) (B_cons (S_ret E_bool)
 B_nil) B_nil)
 (B_cons (S_augat 1 (.inl rfl) (by rfl) (eL 0) E_int)
 (B_cons (S_if (C_not (C_val (E_meth (eL 0) (A_cons (E_gv (by kernel_rfl)) A_nil) fn70 (by intro P;kernel_rfl) (by decide) (by intro _;exact⟨_,_,rfl⟩) (by intro _;rfl)))) (B_cons (S_ret E_bool)
 B_nil) B_nil)
 (B_cons (S_augat 1 (.inl rfl) (by rfl) (eL 0) E_int)
 (B_cons (S_setat 6 (by rfl) (E_at 1 (by rfl) (eL 0)) (eL 0))
 (B_cons (S_try (k:=421) (B_cons (S_if (C_cmp (E_at 6 (by rfl) (eL 0)) (eL 2)) (B_cons (S_raise (k:=421) (by decide) (by kernel_rfl))
 B_nil) B_nil)
 (B_cons (S_setat 6 (by rfl) (eL 2) (eL 0))
 B_nil)) (by decide) (by kernel_rfl))
 (B_cons (S_if (C_not (C_val (E_meth (eL 0) (A_cons (E_gv (by kernel_rfl)) A_nil) fn98 (by intro P;kernel_rfl) (by decide) (by intro _;exact⟨_,_,rfl⟩) (by intro _;rfl)))) (B_cons (S_ret E_bool)
 B_nil) B_nil)
 (B_cons (S_augat 1 (.inl rfl) (by rfl) (eL 0) E_int)
 (B_cons (S_if (C_not (C_val (E_meth (eL 0) (A_cons (E_gv (by kernel_rfl)) A_nil) fn70 (by intro P;kernel_rfl) (by decide) (by intro _;exact⟨_,_,rfl⟩) (by intro _;rfl)))) (B_cons (S_ret E_bool)
 B_nil) B_nil)
 (B_cons (S_augat 1 (.inl rfl) (by rfl) (eL 0) E_int)
 (B_cons (S_setat 7 (by rfl) (E_at 1 (by rfl) (eL 0)) (eL 0))
 (B_cons (S_ret E_bool)
 B_nil)))))))))))))))))))⟩
noncomputable def G248:SF:=(pk248 0).1
theorem fn248 {d:Nat}:FnOk 248 ((d+1)+1) (runBody 1 4 G248):=
 fn_of_body (fd:=fdM "r_mark_regions" "DutchPorterStemmer.r_mark_regions" (cS 6 7) (.str "snowballstemmer.dutch_porter_stemmer" 473) (.ref 247)) (ps:=["self"]) (pk248 d).2 (by intro P;kernel_rfl) (by intro P;kernel_rfl) (by rfl) (by rfl) (by rfl) (len1 fun _=>rfl) (by rfl) (by kernel_rfl) (by decide+kernel) (by kernel_rfl) (by kernel_rfl) (by kernel_rfl) (by kernel_rfl) (by kernel_rfl)
noncomputable abbrev sc255:Scope:=fnScope (cS 6 8)
noncomputable def pk255 (d:Nat):PK sc255 (d+2) (fnBody (cS 6 8)):=⟨_,(B_cons (S_while 60 (C_val E_bool) (B_cons (S_assign 1 (E_at 1 (by rfl) (eL 0)) (by decide+kernel) (by kernel_rfl) (by kernel_rfl))
 (B_cons (S_try (k:=421) (B_cons (S_setat 4 (by rfl) (E_at 1 (by rfl) (eL 0)) (eL 0))
 (B_cons (S_assign 2 (E_meth (eL 0) (A_cons (E_tab (a:=348) (by decide) tbIn348 (by kernel_rfl)) A_nil) fn133 (by intro P;kernel_rfl) (by decide) (by intro _;exact⟨_,_,rfl⟩) (by intro _;rfl)) (by decide+kernel) (by kernel_rfl) (by kernel_rfl))
 (B_cons (S_setat 5 (by rfl) (E_at 1 (by rfl) (eL 0)) (eL 0))
 (B_cons (S_if (C_cmp (eL 2) E_int) (B_cons (S_expr (E_meth (eL 0) (A_cons E_str A_nil) fn154 (by intro P;kernel_rfl) (by decide) (by intro _;exact⟨_,_,rfl⟩) (by intro _;rfl)))
 B_nil) (B_cons (S_if (C_cmp (eL 2) E_int) (B_cons (S_expr (E_meth (eL 0) (A_cons E_str A_nil) fn154 (by intro P;kernel_rfl) (by decide) (by intro _;exact⟨_,_,rfl⟩) (by intro _;rfl)))
 B_nil) (B_cons (S_if (C_cmp (E_at 1 (by rfl) (eL 0)) (E_at 2 (by rfl) (eL 0))) (B_cons (S_raise (k:=421) (by decide) (by kernel_rfl))
 B_nil) B_nil)
 (B_cons (S_augat 1 (.inl rfl) (by rfl) (eL 0) E_int)
 B_nil)))
 B_nil))
 (B_cons S_cont
 B_nil))))) (by decide) (by kernel_rfl))
 (B_cons (S_setat 1 (by rfl) (eL 1) (eL 0))
 (B_cons S_break
 B_nil)))))
 (B_cons (S_ret E_bool)
 B_nil))⟩
noncomputable def G255:SF:=(pk255 0).1
theorem fn255 {d:Nat}:FnOk 255 ((d+2)+1) (runBody 1 4 G255):=
 fn_of_body (fd:=fdM "r_postlude" "DutchPorterStemmer.r_postlude" (cS 6 8) (.str "snowballstemmer.dutch_porter_stemmer" 473) (.ref 254)) (ps:=["self"]) (pk255 d).2 (by intro P;kernel_rfl) (by intro P;kernel_rfl) (by rfl) (by rfl) (by rfl) (len1 fun _=>rfl) (by rfl) (by kernel_rfl) (by decide+kernel) (by kernel_rfl) (by kernel_rfl) (by kernel_rfl) (by kernel_rfl) (by kernel_rfl)
end
section
noncomputable abbrev sc297:Scope:=fnScope (cS 6 14)
noncomputable def pk297_0 (d:Nat): { F:SF // SoundS sc297 (d+5) ((fnBody (cS 6 14)).getD 0 (.Pass ⟨0,0,0,0⟩)) F }:=⟨_,(S_assign 1 (E_bin (E_at 2 (by rfl) (eL 0)) (E_at 1 (by rfl) (eL 0))) (by decide+kernel) (by kernel_rfl) (by kernel_rfl))⟩
noncomputable def B297_0:SF:=(pk297_0 0).1
noncomputable def pk297_1 (d:Nat): { F:SF // SoundS sc297 (d+5) ((fnBody (cS 6 14)).getD 1 (.Pass ⟨0,0,0,0⟩)) F }:=⟨_,(S_try (k:=421) (B_cons (S_setat 5 (by rfl) (E_at 1 (by rfl) (eL 0)) (eL 0))
 (B_cons (S_assign 2 (E_meth (eL 0) (A_cons (E_tab (a:=374) (by decide) tbIn374 (by kernel_rfl)) A_nil) fn140 (by intro P;kernel_rfl) (by decide) (by intro _;exact⟨_,_,rfl⟩) (by intro _;rfl)) (by decide+kernel) (by kernel_rfl) (by kernel_rfl))
 (B_cons (S_if (C_cmp (eL 2) E_int) (B_cons (S_raise (k:=421) (by decide) (by kernel_rfl))
 B_nil) B_nil)
 (B_cons (S_setat 4 (by rfl) (E_at 1 (by rfl) (eL 0)) (eL 0))
 (B_cons (S_if (C_cmp (eL 2) E_int) (B_cons (S_if (C_not (C_val (E_meth0 (eL 0) fn262 (by intro P;kernel_rfl) (by decide) (by intro _;rfl)))) (B_cons (S_raise (k:=421) (by decide) (by kernel_rfl))
 B_nil) B_nil)
 (B_cons (S_expr (E_meth (eL 0) (A_cons E_str A_nil) fn154 (by intro P;kernel_rfl) (by decide) (by intro _;exact⟨_,_,rfl⟩) (by intro _;rfl)))
 B_nil)) (B_cons (S_if (C_cmp (eL 2) E_int) (B_cons (S_if (C_not (C_val (E_meth0 (eL 0) fn290 (by intro P;kernel_rfl) (by decide) (by intro _;rfl)))) (B_cons (S_raise (k:=421) (by decide) (by kernel_rfl))
 B_nil) B_nil)
 B_nil) (B_cons (S_if (C_not (C_val (E_meth0 (eL 0) fn262 (by intro P;kernel_rfl) (by decide) (by intro _;rfl)))) (B_cons (S_raise (k:=421) (by decide) (by kernel_rfl))
 B_nil) B_nil)
 (B_cons (S_if (C_not (C_val (E_meth (eL 0) (A_cons (E_gvj (by kernel_rfl)) A_nil) fn105 (by intro P;kernel_rfl) (by decide) (by intro _;exact⟨_,_,rfl⟩) (by intro _;rfl)))) (B_cons (S_raise (k:=421) (by decide) (by kernel_rfl))
 B_nil) B_nil)
 (B_cons (S_expr (E_meth0 (eL 0) fn161 (by intro P;kernel_rfl) (by decide) (by intro _;rfl)))
 B_nil))))
 B_nil))
 B_nil))))) (by decide) (by kernel_rfl))⟩
noncomputable def B297_1:SF:=(pk297_1 0).1
noncomputable def pk297_2 (d:Nat): { F:SF // SoundS sc297 (d+5) ((fnBody (cS 6 14)).getD 2 (.Pass ⟨0,0,0,0⟩)) F }:=⟨_,(S_setat 1 (by rfl) (E_bin (E_at 2 (by rfl) (eL 0)) (eL 1)) (eL 0))⟩
noncomputable def B297_2:SF:=(pk297_2 0).1
noncomputable def pk297_3 (d:Nat): { F:SF // SoundS sc297 (d+5) ((fnBody (cS 6 14)).getD 3 (.Pass ⟨0,0,0,0⟩)) F }:=⟨_,(S_assign 3 (E_bin (E_at 2 (by rfl) (eL 0)) (E_at 1 (by rfl) (eL 0))) (by decide+kernel) (by kernel_rfl) (by kernel_rfl))⟩
noncomputable def B297_3:SF:=(pk297_3 0).1
noncomputable def pk297_4 (d:Nat): { F:SF // SoundS sc297 (d+5) ((fnBody (cS 6 14)).getD 4 (.Pass ⟨0,0,0,0⟩)) F }:=⟨_,(S_expr (E_meth0 (eL 0) fn283 (by intro P;kernel_rfl) (by decide) (by intro _;rfl)))⟩
noncomputable def B297_4:SF:=(pk297_4 0).1
noncomputable def pk297_5 (d:Nat): { F:SF // SoundS sc297 (d+5) ((fnBody (cS 6 14)).getD 5 (.Pass ⟨0,0,0,0⟩)) F }:=⟨_,(S_setat 1 (by rfl) (E_bin (E_at 2 (by rfl) (eL 0)) (eL 3)) (eL 0))⟩
noncomputable def B297_5:SF:=(pk297_5 0).1
noncomputable def pk297_6 (d:Nat): { F:SF // SoundS sc297 (d+5) ((fnBody (cS 6 14)).getD 6 (.Pass ⟨0,0,0,0⟩)) F }:=⟨_,(S_assign 4 (E_bin (E_at 2 (by rfl) (eL 0)) (E_at 1 (by rfl) (eL 0))) (by decide+kernel) (by kernel_rfl) (by kernel_rfl))⟩
noncomputable def B297_6:SF:=(pk297_6 0).1
noncomputable def pk297_7 (d:Nat): { F:SF // SoundS sc297 (d+5) ((fnBody (cS 6 14)).getD 7 (.Pass ⟨0,0,0,0⟩)) F }:=⟨_,(S_try (k:=421) (B_cons (S_setat 5 (by rfl) (E_at 1 (by rfl) (eL 0)) (eL 0))
 (B_cons (S_if (C_not (C_val (E_meth (eL 0) (A_cons E_str A_nil) fn126 (by intro P;kernel_rfl) (by decide) (by intro _;exact⟨_,_,rfl⟩) (by intro _;rfl)))) (B_cons (S_raise (k:=421) (by decide) (by kernel_rfl))
 B_nil) B_nil)
 (B_cons (S_setat 4 (by rfl) (E_at 1 (by rfl) (eL 0)) (eL 0))
 (B_cons (S_if (C_not (C_val (E_meth0 (eL 0) fn269 (by intro P;kernel_rfl) (by decide) (by intro _;rfl)))) (B_cons (S_raise (k:=421) (by decide) (by kernel_rfl))
 B_nil) B_nil)
 (B_cons (S_try (k:=434) (B_cons (S_if (C_or (C_cmp (E_at 1 (by rfl) (eL 0)) (E_at 3 (by rfl) (eL 0))) (C_cmp (E_idx (E_at 0 (by rfl) (eL 0)) (E_bin (E_at 1 (by rfl) (eL 0)) E_int)) E_str)) (B_cons (S_raise (k:=434) (by decide) (by kernel_rfl))
 B_nil) B_nil)
 (B_cons (S_augat 1 (.inr rfl) (by rfl) (eL 0) E_int)
 (B_cons (S_raise (k:=421) (by decide) (by kernel_rfl))
 B_nil))) (by decide) (by kernel_rfl))
 (B_cons (S_expr (E_meth0 (eL 0) fn161 (by intro P;kernel_rfl) (by decide) (by intro _;rfl)))
 (B_cons (S_setat 5 (by rfl) (E_at 1 (by rfl) (eL 0)) (eL 0))
 (B_cons (S_if (C_not (C_val (E_meth (eL 0) (A_cons E_str A_nil) fn126 (by intro P;kernel_rfl) (by decide) (by intro _;exact⟨_,_,rfl⟩) (by intro _;rfl)))) (B_cons (S_raise (k:=421) (by decide) (by kernel_rfl))
 B_nil) B_nil)
 (B_cons (S_setat 4 (by rfl) (E_at 1 (by rfl) (eL 0)) (eL 0))
 (B_cons (S_if (C_not (C_val (E_meth0 (eL 0) fn290 (by intro P;kernel_rfl) (by decide) (by intro _;rfl)))) (B_cons (S_raise (k:=421) (by decide) (by kernel_rfl))
 B_nil) B_nil)
 B_nil)))))))))) (by decide) (by kernel_rfl))⟩
noncomputable def B297_7:SF:=(pk297_7 0).1
noncomputable def pk297_8 (d:Nat): { F:SF // SoundS sc297 (d+5) ((fnBody (cS 6 14)).getD 8 (.Pass ⟨0,0,0,0⟩)) F }:=⟨_,(S_setat 1 (by rfl) (E_bin (E_at 2 (by rfl) (eL 0)) (eL 4)) (eL 0))⟩
noncomputable def B297_8:SF:=(pk297_8 0).1
noncomputable def pk297_9 (d:Nat): { F:SF // SoundS sc297 (d+5) ((fnBody (cS 6 14)).getD 9 (.Pass ⟨0,0,0,0⟩)) F }:=⟨_,(S_assign 5 (E_bin (E_at 2 (by rfl) (eL 0)) (E_at 1 (by rfl) (eL 0))) (by decide+kernel) (by kernel_rfl) (by kernel_rfl))⟩
noncomputable def B297_9:SF:=(pk297_9 0).1
noncomputable def pk297_10 (d:Nat): { F:SF // SoundS sc297 (d+5) ((fnBody (cS 6 14)).getD 10 (.Pass ⟨0,0,0,0⟩)) F }:=⟨_,(S_try (k:=421) (B_cons (S_setat 5 (by rfl) (E_at 1 (by rfl) (eL 0)) (eL 0))
 (B_cons (S_assign 2 (E_meth (eL 0) (A_cons (E_tab (a:=393) (by decide) tbIn393 (by kernel_rfl)) A_nil) fn140 (by intro P;kernel_rfl) (by decide) (by intro _;exact⟨_,_,rfl⟩) (by intro _;rfl)) (by decide+kernel) (by kernel_rfl) (by kernel_rfl))
 (B_cons (S_if (C_cmp (eL 2) E_int) (B_cons (S_raise (k:=421) (by decide) (by kernel_rfl))
 B_nil) B_nil)
 (B_cons (S_setat 4 (by rfl) (E_at 1 (by rfl) (eL 0)) (eL 0))
 (B_cons (S_if (C_cmp (eL 2) E_int) (B_cons (S_if (C_not (C_val (E_meth0 (eL 0) fn269 (by intro P;kernel_rfl) (by decide) (by intro _;rfl)))) (B_cons (S_raise (k:=421) (by decide) (by kernel_rfl))
 B_nil) B_nil)
 (B_cons (S_expr (E_meth0 (eL 0) fn161 (by intro P;kernel_rfl) (by decide) (by intro _;rfl)))
 (B_cons (S_while 60 (C_val E_bool) (B_cons (S_assign 6 (E_bin (E_at 2 (by rfl) (eL 0)) (E_at 1 (by rfl) (eL 0))) (by decide+kernel) (by kernel_rfl) (by kernel_rfl))
 (B_cons (S_try (k:=434) (B_cons (S_setat 5 (by rfl) (E_at 1 (by rfl) (eL 0)) (eL 0))
 (B_cons (S_if (C_not (C_val (E_meth (eL 0) (A_cons E_str A_nil) fn126 (by intro P;kernel_rfl) (by decide) (by intro _;exact⟨_,_,rfl⟩) (by intro _;rfl)))) (B_cons (S_raise (k:=434) (by decide) (by kernel_rfl))
 B_nil) B_nil)
 (B_cons (S_setat 4 (by rfl) (E_at 1 (by rfl) (eL 0)) (eL 0))
 (B_cons (S_if (C_not (C_val (E_meth0 (eL 0) fn269 (by intro P;kernel_rfl) (by decide) (by intro _;rfl)))) (B_cons (S_raise (k:=434) (by decide) (by kernel_rfl))
 B_nil) B_nil)
 (B_cons (S_try (k:=447) (B_cons (S_if (C_or (C_cmp (E_at 1 (by rfl) (eL 0)) (E_at 3 (by rfl) (eL 0))) (C_cmp (E_idx (E_at 0 (by rfl) (eL 0)) (E_bin (E_at 1 (by rfl) (eL 0)) E_int)) E_str)) (B_cons (S_raise (k:=447) (by decide) (by kernel_rfl))
 B_nil) B_nil)
 (B_cons (S_augat 1 (.inr rfl) (by rfl) (eL 0) E_int)
 (B_cons (S_raise (k:=434) (by decide) (by kernel_rfl))
 B_nil))) (by decide) (by kernel_rfl))
 (B_cons (S_expr (E_meth0 (eL 0) fn161 (by intro P;kernel_rfl) (by decide) (by intro _;rfl)))
 (B_cons S_break
 B_nil))))))) (by decide) (by kernel_rfl))
 (B_cons (S_setat 1 (by rfl) (E_bin (E_at 2 (by rfl) (eL 0)) (eL 6)) (eL 0))
 (B_cons (S_if (C_not (C_val (E_meth0 (eL 0) fn276 (by intro P;kernel_rfl) (by decide) (by intro _;rfl)))) (B_cons (S_raise (k:=421) (by decide) (by kernel_rfl))
 B_nil) B_nil)
 (B_cons S_break
 B_nil))))))
 B_nil))) (B_cons (S_if (C_cmp (eL 2) E_int) (B_cons (S_if (C_not (C_val (E_meth0 (eL 0) fn269 (by intro P;kernel_rfl) (by decide) (by intro _;rfl)))) (B_cons (S_raise (k:=421) (by decide) (by kernel_rfl))
 B_nil) B_nil)
 (B_cons (S_try (k:=434) (B_cons (S_if (C_or (C_cmp (E_at 1 (by rfl) (eL 0)) (E_at 3 (by rfl) (eL 0))) (C_cmp (E_idx (E_at 0 (by rfl) (eL 0)) (E_bin (E_at 1 (by rfl) (eL 0)) E_int)) E_str)) (B_cons (S_raise (k:=434) (by decide) (by kernel_rfl))
 B_nil) B_nil)
 (B_cons (S_augat 1 (.inr rfl) (by rfl) (eL 0) E_int)
 (B_cons (S_raise (k:=421) (by decide) (by kernel_rfl))
 B_nil))) (by decide) (by kernel_rfl))
 (B_cons (S_expr (E_meth0 (eL 0) fn161 (by intro P;kernel_rfl) (by decide) (by intro _;rfl)))
 B_nil))) (B_cons (S_if (C_cmp (eL 2) E_int) (B_cons (S_if (C_not (C_val (E_meth0 (eL 0) fn269 (by intro P;kernel_rfl) (by decide) (by intro _;rfl)))) (B_cons (S_raise (k:=421) (by decide) (by kernel_rfl))
 B_nil) B_nil)
 (B_cons (S_expr (E_meth0 (eL 0) fn161 (by intro P;kernel_rfl) (by decide) (by intro _;rfl)))
 (B_cons (S_if (C_not (C_val (E_meth0 (eL 0) fn283 (by intro P;kernel_rfl) (by decide) (by intro _;rfl)))) (B_cons (S_raise (k:=421) (by decide) (by kernel_rfl))
 B_nil) B_nil)
 B_nil))) (B_cons (S_if (C_cmp (eL 2) E_int) (B_cons (S_if (C_not (C_val (E_meth0 (eL 0) fn269 (by intro P;kernel_rfl) (by decide) (by intro _;rfl)))) (B_cons (S_raise (k:=421) (by decide) (by kernel_rfl))
 B_nil) B_nil)
 (B_cons (S_expr (E_meth0 (eL 0) fn161 (by intro P;kernel_rfl) (by decide) (by intro _;rfl)))
 B_nil)) (B_cons (S_if (C_not (C_val (E_meth0 (eL 0) fn269 (by intro P;kernel_rfl) (by decide) (by intro _;rfl)))) (B_cons (S_raise (k:=421) (by decide) (by kernel_rfl))
 B_nil) B_nil)
 (B_cons (S_if (C_not (C_val (E_at 8 (by rfl) (eL 0)))) (B_cons (S_raise (k:=421) (by decide) (by kernel_rfl))
 B_nil) B_nil)
 (B_cons (S_expr (E_meth0 (eL 0) fn161 (by intro P;kernel_rfl) (by decide) (by intro _;rfl)))
 B_nil))))
 B_nil))
 B_nil))
 B_nil))
 B_nil))))) (by decide) (by kernel_rfl))⟩
noncomputable def B297_10:SF:=(pk297_10 0).1
noncomputable def pk297_11 (d:Nat): { F:SF // SoundS sc297 (d+5) ((fnBody (cS 6 14)).getD 11 (.Pass ⟨0,0,0,0⟩)) F }:=⟨_,(S_setat 1 (by rfl) (E_bin (E_at 2 (by rfl) (eL 0)) (eL 5)) (eL 0))⟩
noncomputable def B297_11:SF:=(pk297_11 0).1
noncomputable def pk297_12 (d:Nat): { F:SF // SoundS sc297 (d+5) ((fnBody (cS 6 14)).getD 12 (.Pass ⟨0,0,0,0⟩)) F }:=⟨_,(S_assign 7 (E_bin (E_at 2 (by rfl) (eL 0)) (E_at 1 (by rfl) (eL 0))) (by decide+kernel) (by kernel_rfl) (by kernel_rfl))⟩
noncomputable def B297_12:SF:=(pk297_12 0).1
noncomputable def pk297_13 (d:Nat): { F:SF // SoundS sc297 (d+5) ((fnBody (cS 6 14)).getD 13 (.Pass ⟨0,0,0,0⟩)) F }:=⟨_,(S_try (k:=421) (B_cons (S_if (C_not (C_val (E_meth (eL 0) (A_cons (E_gvI (by kernel_rfl)) A_nil) fn105 (by intro P;kernel_rfl) (by decide) (by intro _;exact⟨_,_,rfl⟩) (by intro _;rfl)))) (B_cons (S_raise (k:=421) (by decide) (by kernel_rfl))
 B_nil) B_nil)
 (B_cons (S_assign 8 (E_bin (E_at 2 (by rfl) (eL 0)) (E_at 1 (by rfl) (eL 0))) (by decide+kernel) (by kernel_rfl) (by kernel_rfl))
 (B_cons (S_if (C_cmp (E_meth (eL 0) (A_cons (E_tab (a:=406) (by decide) tbIn406 (by kernel_rfl)) A_nil) fn140 (by intro P;kernel_rfl) (by decide) (by intro _;exact⟨_,_,rfl⟩) (by intro _;rfl)) E_int) (B_cons (S_raise (k:=421) (by decide) (by kernel_rfl))
 B_nil) B_nil)
 (B_cons (S_if (C_not (C_val (E_meth (eL 0) (A_cons (E_gv (by kernel_rfl)) A_nil) fn105 (by intro P;kernel_rfl) (by decide) (by intro _;exact⟨_,_,rfl⟩) (by intro _;rfl)))) (B_cons (S_raise (k:=421) (by decide) (by kernel_rfl))
 B_nil) B_nil)
 (B_cons (S_setat 1 (by rfl) (E_bin (E_at 2 (by rfl) (eL 0)) (eL 8)) (eL 0))
 (B_cons (S_setat 5 (by rfl) (E_at 1 (by rfl) (eL 0)) (eL 0))
 (B_cons (S_if (C_cmp (E_at 1 (by rfl) (eL 0)) (E_at 3 (by rfl) (eL 0))) (B_cons (S_raise (k:=421) (by decide) (by kernel_rfl))
 B_nil) B_nil)
 (B_cons (S_augat 1 (.inr rfl) (by rfl) (eL 0) E_int)
 (B_cons (S_setat 4 (by rfl) (E_at 1 (by rfl) (eL 0)) (eL 0))
 (B_cons (S_expr (E_meth0 (eL 0) fn161 (by intro P;kernel_rfl) (by decide) (by intro _;rfl)))
 B_nil)))))))))) (by decide) (by kernel_rfl))⟩
noncomputable def B297_13:SF:=(pk297_13 0).1
noncomputable def pk297_14 (d:Nat): { F:SF // SoundS sc297 (d+5) ((fnBody (cS 6 14)).getD 14 (.Pass ⟨0,0,0,0⟩)) F }:=⟨_,(S_setat 1 (by rfl) (E_bin (E_at 2 (by rfl) (eL 0)) (eL 7)) (eL 0))⟩
noncomputable def B297_14:SF:=(pk297_14 0).1
noncomputable def pk297_15 (d:Nat): { F:SF // SoundS sc297 (d+5) ((fnBody (cS 6 14)).getD 15 (.Pass ⟨0,0,0,0⟩)) F }:=⟨_,(S_ret E_bool)⟩
noncomputable def B297_15:SF:=(pk297_15 0).1
noncomputable def pk297 (d:Nat):PK sc297 (d+5) (fnBody (cS 6 14)):=⟨_,(B_cons (pk297_0 d).2 (B_cons (pk297_1 d).2 (B_cons (pk297_2 d).2 (B_cons (pk297_3 d).2 (B_cons (pk297_4 d).2 (B_cons (pk297_5 d).2 (B_cons (pk297_6 d).2 (B_cons (pk297_7 d).2 (B_cons (pk297_8 d).2 (B_cons (pk297_9 d).2 (B_cons (pk297_10 d).2 (B_cons (pk297_11 d).2 (B_cons (pk297_12 d).2 (B_cons (pk297_13 d).2 (B_cons (pk297_14 d).2 (B_cons (pk297_15 d).2 B_nil))))))))))))))))⟩
noncomputable def G297:SF:=(pk297 0).1
theorem fn297 {d:Nat}:FnOk 297 ((d+5)+1) (runBody 1 12 G297):=
 fn_of_body (fd:=fdM "r_standard_suffix" "DutchPorterStemmer.r_standard_suffix" (cS 6 14) (.str "snowballstemmer.dutch_porter_stemmer" 473) (.ref 296)) (ps:=["self"]) (pk297 d).2 (by intro P;kernel_rfl) (by intro P;kernel_rfl) (by rfl) (by rfl) (by rfl) (len1 fun _=>rfl) (by rfl) (by kernel_rfl) (by decide+kernel) (by kernel_rfl) (by kernel_rfl) (by kernel_rfl) (by kernel_rfl) (by kernel_rfl)
end
section
noncomputable abbrev sc304:Scope:=fnScope (cS 6 15)
noncomputable def pk304 (d:Nat):PK sc304 (d+6) (fnBody (cS 6 15)):=⟨_,(B_cons (S_assign 1 (E_at 1 (by rfl) (eL 0)) (by decide+kernel) (by kernel_rfl) (by kernel_rfl))
 (B_cons (S_expr (E_meth0 (eL 0) fn241 (by intro P;kernel_rfl) (by decide) (by intro _;rfl)))
 (B_cons (S_setat 1 (by rfl) (eL 1) (eL 0))
 (B_cons (S_assign 2 (E_at 1 (by rfl) (eL 0)) (by decide+kernel) (by kernel_rfl) (by kernel_rfl))
 (B_cons (S_expr (E_meth0 (eL 0) fn248 (by intro P;kernel_rfl) (by decide) (by intro _;rfl)))
 (B_cons (S_setat 1 (by rfl) (eL 2) (eL 0))
 (B_cons (S_setat 3 (by rfl) (E_at 1 (by rfl) (eL 0)) (eL 0))
 (B_cons (S_setat 1 (by rfl) (E_at 2 (by rfl) (eL 0)) (eL 0))
 (B_cons (S_expr (E_meth0 (eL 0) fn297 (by intro P;kernel_rfl) (by decide) (by intro _;rfl)))
 (B_cons (S_setat 1 (by rfl) (E_at 3 (by rfl) (eL 0)) (eL 0))
 (B_cons (S_assign 3 (E_at 1 (by rfl) (eL 0)) (by decide+kernel) (by kernel_rfl) (by kernel_rfl))
 (B_cons (S_expr (E_meth0 (eL 0) fn255 (by intro P;kernel_rfl) (by decide) (by intro _;rfl)))
 (B_cons (S_setat 1 (by rfl) (eL 3) (eL 0))
 (B_cons (S_ret E_bool)
 B_nil))))))))))))))⟩
noncomputable def G304:SF:=(pk304 0).1
theorem fn304 {d:Nat}:FnOk 304 ((d+6)+1) (runBody 1 3 G304):=
 fn_of_body (fd:=fdM "_stem" "DutchPorterStemmer._stem" (cS 6 15) (.str "snowballstemmer.dutch_porter_stemmer" 473) (.ref 303)) (ps:=["self"]) (pk304 d).2 (by intro P;kernel_rfl) (by intro P;kernel_rfl) (by rfl) (by rfl) (by rfl) (len1 fun _=>rfl) (by rfl) (by kernel_rfl) (by decide+kernel) (by kernel_rfl) (by kernel_rfl) (by kernel_rfl) (by kernel_rfl) (by kernel_rfl)
noncomputable abbrev sc189:Scope:=fnScope (cS 2 22)
noncomputable def pk189 (d:Nat):PK sc189 (d+7) (fnBody (cS 2 22)):=⟨_,(B_cons (S_expr (E_meth (eL 0) (A_cons (eL 1) A_nil) fn42 (by intro P;kernel_rfl) (by decide) (by intro _;exact⟨_,_,rfl⟩) (by intro _;rfl)))
 (B_cons (S_expr (E_meth0 (eL 0) fn304 (by intro P;kernel_rfl) (by decide) (by intro _;rfl)))
 (B_cons (S_ret (E_meth0 (eL 0) fn49 (by intro P;kernel_rfl) (by decide) (by intro _;rfl)))
 B_nil)))⟩
noncomputable def G189:SF:=(pk189 0).1
theorem fn189 {d:Nat}:FnOk 189 ((d+7)+1) (runBody 2 0 G189):=
 fn_of_body (fd:=fdM "stemWord" "BaseStemmer.stemWord" (cS 2 22) (.str "snowballstemmer.basestemmer" 194) (.ref 188)) (ps:=["self","word"]) (pk189 d).2 (by intro P;kernel_rfl) (by intro P;kernel_rfl) (by rfl) (by rfl) (by rfl) (len2 fun _ _=>rfl) (by rfl) (by kernel_rfl) (by decide+kernel) (by kernel_rfl) (by kernel_rfl) (by kernel_rfl) (by kernel_rfl) (by kernel_rfl)
end
section
section
variable {sc:Scope} {d:Nat}
theorem comp_store {c:Cx} {loc:Loc} {at_ at1:At} {s s₂:Shared} (S:St c loc at_ s) (P₂:Post true c loc at1 s s₂) {i:Nat} {y:Str} {rs:List SV} {D:Addr} {ys:Array Value} {h':Heap} {tk:Tok} {wr:List Addr} {m:Str→Option Value} (hnd:(c.env.scope.names.map (·.1)).Nodup) (hi:(c.env.scope.names.map (·.1))[i]? =some y) (hky:c.env.scope.names.lookup y=some .local)
  (hn:s₂.heap.Ns c.env.locals m) (hNs:h'.Ns c.env.locals (fun z=>if z=y then some (.ref D) else m z)) (hwr:∀ b∈wr,s.heap.get? b=none) (hwx:∀ b∈wr,b∉c.ex) (hwf:∀ b∈wr,RecR s₂.heap b) (hk:∀ b o,b≠c.env.locals→b∉wr→s₂.heap.get? b=some o→h'.get? b=some o) (hD:s₂.heap.get? D=none) (hl:h'.IsList D ys) (hres:SRels rs ys.toList):
  Post false c (loc.set i (some (.list rs))) at1 s { s₂ with heap:=h',toks:=tk }:=by
 obtain⟨oL,es,ep,hoL,hd⟩:=Ns.fd hn
 obtain⟨oL',_,_,hoL',_⟩:=Ns.fd hNs
 have hself:(h'.update c.env.locals fun _=>oL).get? c.env.locals=some oL:=Heap.get?_update_self _ hoL' (Obj.isFreed_of_dict hd)
 have hoth:∀ b,b≠c.env.locals→(h'.update c.env.locals fun _=>oL).get? b=h'.get? b:=fun b hb=>Heap.get?_update_other _ _ (Ne.symm hb)
 have P3:Post true c loc at1 s { s₂ with heap:=h'.update c.env.locals fun _=>oL,toks:=tk }:=St.iter S P₂ hwr hwx hwf fun b o nb e=>by
  by_cases q:b=c.env.locals
  ·rw[q] at e ⊢
   exact hself.trans (hoL.symm.trans e)
  ·exact (hoth b q).trans (hk b o q nb e)
 have hV:c.V (h'.update c.env.locals fun _=>oL) (.list rs) (.ref D):=by
  refine⟨D,ys.toList,rfl,exNew P₂.1 hD,?_,hres⟩
  obtain⟨o,ho,r⟩:=hl
  exact⟨o,(hoth D (Ne.symm (Heap.ne_of_none hoL hD))).trans ho,r⟩
 have hm:(h'.update c.env.locals fun _=>oL).Ns c.env.locals m:=hn.at' fun o e=>by
  cases hoL.symm.trans e
  exact hself
 have Z:=P3.1.store (h':=h') (tk:=tk) (i:=i) (x:=y) (mv:=.list rs) (v:=.ref D) hnd hi hky hV hm hNs ⟨(Heap.SameBut.update h' c.env.locals fun _=>oL).1.symm,fun b hb=>(hoth b hb).symm⟩
 exact P3.weak.trans (q':=false) ⟨Z.1,Z.2,nofun⟩
theorem S_comp {elt iter:Expr} {x y:Str} {px py pos spos:Pos} {scope:Scope} {ifs:List Expr} {fi:IF} {fe:EF} {tf:Loc→SV→Option Bool} (T:List Tm) (hI:SoundI sc d iter fi) (he:SoundE (relS scope sc) d elt fe) (htest:TestR (relS scope sc) d T ifs tf) (K:CmpS sc scope x T)
  (i:Nat) (hnd:(sc.names.map (·.1)).Nodup) (hi:(sc.names.map (·.1))[i]? =some y) (hky:sc.names.lookup y=some .local)
  (hln:(py.line==pos.line&& !(scope.names.any fun (n,k)=>n==y&&(k== .local||k== .cell)))=true)
  (hs:∀ env x,foldedSetIterable iter env x=pure x:=by intro _ _;rfl):
  SoundS sc d (.Assign [.Name y py] (.ListComp elt [⟨.Name x px,iter,ifs,0⟩] scope pos) spos) (fun loc at_=>(fComp fi T tf fe loc at_).map fun q=>(.nxt,loc.set i (some q.1),q.2)):=by
 intro c O loc at_ s o loc' at' S hf
 refine om2 hf ?_;clear hf;intro m at0 hf er
 refine oe3 (congrArg some er) ?_;clear er
 refine ob2 hf ?_;clear hf;intro xs at1 h1 hf
 refine if_on hf ?_;clear hf;intro hg hf
 refine om1 hf ?_;clear hf;intro rs h2 e
 refine inp2 e fun e1 e2=> ?_
 subst e1 e2
 obtain⟨cl,hclos,hcl⟩:=comp_cells O S K hg.2
 cases O.scope
 have hsw:swapsWith (.ListComp elt [⟨.Name x px,iter,ifs,0⟩] scope pos) (some (.Name y py)) spos.line c.env=pure true:=by
  show (pure (c.env.blockKind== .function&&c.env.kindOf y==some .local&&py.line==pos.line&& !(scope.names.any fun (n,k)=>n==y&&(k== .local||k== .cell))):Sem Bool)=pure true
  have h1:c.env.blockKind= .function:=by unfold Env.blockKind;rw[O.kind];rfl
  have h2:c.env.kindOf y=some .local:=hky
  rw[h1,h2,(Bool.and_eq_true_iff.mp hln).1,(Bool.and_eq_true_iff.mp hln).2]
  rfl
 refine wpAny_Assign_ListComp_free (cl:=cl) (pT tf loc) (FT fe T loc) hsw hclos (comp_sides K).1 K.kind (comp_sides K).2 K.x hky (by rw[O.kind];rfl) (wpAny_mono (hI c O loc at_ s xs _ _ S h1) (fun xv s₁ h=>wpAny_mono h (fun it s₂ q=> ?_) fun _ _ x=>x) fun _ _ x=>x) (hs _)
 obtain⟨P₂,I,fp,wr,P,StW,e,W,hst,hfp,hwr,hfl,hP,hsz⟩:=q
 obtain⟨m,hn,_⟩:=P₂.1.ns
 refine wit7 (y0:=I) (y1:=fp) (y2:=wr) (y3:=xs.length) (y5:=StW) (y6:=m) ⟨e,walks_bound W,le_line hg.1 (Nat.le_refl _),hst,hsz,fun q=>hfp _ (W.sub _ q) Cx.loc_ex,hn,comp_quiet he htest K O S P₂ hg.2 h2 hcl hwr fun i v h=>hP i v h.2 h.1,fun D h' tk ys vs hD hl hpl hvl hvP hpair hNs hk=>⟨rfl,?_⟩⟩
 exact comp_store S P₂ hnd hi hky hn hNs hwr (fun b hb=>hfp b (W.sub b hb)) (hfl 0 _ hst) hk hD hl (comp_res h2 hvl (fun i v h=>hP i v h.2 h.1) hvP hpair)
theorem HS_comp0 {elt iter:Expr} {x y:Str} {px py pos spos:Pos} {scope:Scope} {fi:IF} {fe:EF} (T:List Tm) (hI:HI sc d iter fi) (he:HE (relS scope sc) d elt fe) (hT:tmOk sc scope x T=true) (hcell:scope.names.all (fun y=>y.2!= .cell)=true) (hkind:scope.kind= .function) (hnames:scope.names.all (fun y=>y.2!= .local||scope.names.lookup y.1==some .local)=true) (hx:scope.names.lookup x=some .local)
  (i:Nat) (hnd:(sc.names.map (·.1)).Nodup) (hi:(sc.names.map (·.1))[i]? =some y) (hky:sc.names.lookup y=some .local) (hln:(py.line==pos.line&& !(scope.names.any fun (n,k)=>n==y&&(k== .local||k== .cell)))=true) (hs:∀ env x,foldedSetIterable iter env x=pure x:=by intro _ _;rfl):
  HS sc d (.Assign [.Name y py] (.ListComp elt [⟨.Name x px,iter,[],0⟩] scope pos) spos) (fun loc at_=>(fComp fi T (fun _ _=>some true) fe loc at_).map fun q=>(.nxt,loc.set i (some q.1),q.2)):=⟨S_comp T hI.1 he.1 .no ⟨hT,hcell,hkind,hnames,hx⟩ i hnd hi hky hln hs⟩
end
end
section
noncomputable def flatMV:MV→Bool
 | .s _ | .ref _=>true
 |_=>false
theorem VRel.flat {w:World} {X:Option Addr} {ex ex':List Addr} {h h':Heap} {mv:MV} {v:Value} (q:flatMV mv=true) (x:VRel w X ex h mv v):VRel w X ex' h' mv v:=by
 cases mv with
 |s _=>exact x
 |ref _=>exact x
 |_=>exact ff q
inductive PlR (h:Heap) (R:Addr) (ys:List (List Nat)):Prop
 |mk (vs:List Value) (p:PlainL h R vs.toArray) (s:StrsAre vs (ys.map strL))
structure OS (c:Cx) (ri:Nat) (loc:Loc) (at_:At) (R:Addr) (ys:List (List Nat)) (s:Shared):Prop where
 st:St c loc at_ s
 pl:PlR s.heap R ys
 rw:loc[ri]? =some (some (.ref R))
 ex:R∉c.ex
 h0:c.h0.get? R=none
 hb:c.base.get? R=none
 sc:∀ (i:Nat) (mv:MV),loc[i]? =some (some mv)→flatMV mv=true
 sz:ys.length≤1000
section
variable {sc:Scope} {d:Nat}
theorem LocR.flat {c:Cx} {h h':Heap} {m:Str→Option Value} {i:Nat} {mv:MV} (x:LocR c h m i mv) (q:flatMV mv=true) (k:∀ b o,h.get? b=some o→(∀ xs n,o.data≠ .seq xs n)→h'.get? b=some o):LocR c h' m i mv:=by
 obtain⟨x,v,a,b,l,z⟩:=x
 refine⟨x,v,a,b.flat q,l,fun w=> ?_⟩
 obtain⟨cl,e,⟨o,e2,d⟩,n⟩:=z w
 exact⟨cl,e,⟨o,k cl o e2 (fun _ _ w=>nomatch d.symm.trans w),d⟩,n⟩
theorem OS.change {c:Cx} {ri:Nat} {loc:Loc} {at_:At} {R:Addr} {ys ys':List (List Nat)} {s:Shared} {h':Heap} {tk:Tok} (X:OS c ri loc at_ R ys s) (hs:Heap.SameBut R s.heap h') (hp:PlR h' R ys') (hz:ys'.length≤1000):
  OS c ri loc at_ R ys' { s with heap:=h',toks:=tk }:=by
 have S:=X.st
 have kp:∀ b o,b≠R→s.heap.get? b=some o→h'.get? b=some o:=fun b o q e=>(hs.2 b q).trans e
 have kS:∀ b o,s.heap.get? b=some o→(∀ xs n,o.data≠ .seq xs n)→h'.get? b=some o:=fun b o e n=>kp b o (fun q=>by
  obtain⟨vs0,⟨oR,nR,hR,_,_,hRs⟩,_⟩:=X.pl
  exact n _ _ (Option.some.inj (hR.symm.trans (q▸e))▸hRs)) e
 refine⟨S.chg ⟨fun b o e=>kp b o (Heap.ne_of_none e X.hb) (S.stays b o e),fun b o e n=>kp b o (Heap.ne_of_none e X.h0) (S.keep b o e n)⟩ (fun b _ o e x=>x.kept fun o'=>kp b o' (Heap.ne_of_none e X.h0)) ?_ (fun _ x=>⟨?_,x.nx,x.nl,x.nb⟩) S.noself (fun b o e f=> ?_) fun b _ x=> ?_,hp,X.rw,X.ex,X.h0,X.hb,X.sc,hz⟩
 ·obtain⟨m,n,r⟩:=S.ns
  obtain⟨oL,esL,epL,hL,hd,rr⟩:=n
  exact⟨m,⟨oL,esL,epL,kS _ _ hL (fun _ _ w=>nomatch hd.symm.trans w),hd,rr⟩,fun i mv e=>(r i mv e).flat (X.sc i mv e) kS⟩
 ·obtain⟨a,⟨es,n,e,r⟩,l⟩:=x.at_
  exact⟨kS _ _ a nofun,⟨es,n,kS _ _ e nofun,r⟩,l⟩
 ·by_cases q:b=R
  ·obtain⟨vs,⟨o',n',e',_,_,dd⟩,_⟩:=hp
   exact⟨o',q▸e',nf_of dd nofun⟩
  ·exact⟨o,kp b o q e,f⟩
 ·obtain⟨o,es,n,e,d⟩:=x
  exact⟨o,es,n,kS _ _ e (fun _ _ w=>nomatch d.symm.trans w),d⟩
theorem PlR.kept {h h':Heap} {R:Addr} {ys:List (List Nat)} (x:PlR h R ys) (k:∀ o,h.get? R=some o→h'.get? R=some o):PlR h' R ys:=by
 obtain⟨vs,⟨o,n,e,r⟩,hv⟩:=x
 exact⟨vs,⟨o,n,k o e,r⟩,hv⟩
theorem OS.post {c:Cx} {ri:Nat} {loc loc':Loc} {at_:At} {R:Addr} {ys:List (List Nat)} {s s':Shared} {q:Bool} (X:OS c ri loc at_ R ys s) (P:Post q c loc' at_ s s') (hrw:loc'[ri]? =some (some (.ref R))) (hsc:∀ (i:Nat) (mv:MV),loc'[i]? =some (some mv)→flatMV mv=true):OS c ri loc' at_ R ys s':=
 ⟨P.1,X.pl.kept fun o e=>P.2 R o e X.ex,hrw,X.ex,X.h0,X.hb,hsc,X.sz⟩
noncomputable abbrev OF:=Loc→At→List (List Nat)→Option (Loc×List (List Nat))
noncomputable abbrev QO (c:Cx) (ri:Nat) (loc':Loc) (at_:At) (R:Addr) (ys':List (List Nat)) (s:Shared):Flow→Shared→Prop:=fun fl s'=>fl= .next∧OS c ri loc' at_ R ys' s'∧Keep (R::c.ex) s.heap s'.heap
noncomputable def SoundO (sc:Scope) (d:Nat) (ri:Nat) (body:List Stmt) (F:OF):Prop:=
 ∀ (c:Cx),c.Ok sc d→∀ (loc:Loc) (at_:At) (R:Addr) (ys:List (List Nat)) (s:Shared) (loc':Loc) (ys':List (List Nat)),OS c ri loc at_ R ys s→F loc at_ ys=some (loc',ys')→
  wpAny (model pw c.w) c.A (execs body c.env) (QO c ri loc' at_ R ys' s) (fun _ _=>False) s
noncomputable def SoundOS (sc:Scope) (d:Nat) (ri:Nat) (st:Stmt) (F:OF):Prop:=
 ∀ (c:Cx),c.Ok sc d→∀ (loc:Loc) (at_:At) (R:Addr) (ys:List (List Nat)) (s:Shared) (loc':Loc) (ys':List (List Nat)),OS c ri loc at_ R ys s→F loc at_ ys=some (loc',ys')→
  wpAny (model pw c.w) c.A (exec st c.env) (QO c ri loc' at_ R ys' s) (fun _ _=>False) s
theorem O_one {ri:Nat} {st:Stmt} {F:OF} (h:SoundOS sc d ri st F):SoundO sc d ri [st] F:=by
 intro c O loc at_ R ys s loc' ys' X hf
 exact wpAny_execs_cons (wpAny_mono (h c O loc at_ R ys s loc' ys' X hf) (fun fl s' x=>x.1▸wpAny_execs_nil ⟨rfl,x.2⟩) fun _ _ x=>x)
theorem strs_push {vs:List Value} {xs:List Str} (h:StrsAre vs xs) (y:Str) (t:Tok):StrsAre (vs++[.str y t]) (xs++[y]):=by
 induction h with
 |nil=>exact .cons y t .nil
 |cons z u _ ih=>exact .cons z u ih
theorem strs_len {vs:List Value} {xs:List Str} (h:StrsAre vs xs):vs.length=xs.length:=by
 induction h with
 |nil=>rfl
 |cons z u _ ih=>simp[ih]
theorem O_append {nm:Str} {np apos pos spos:Pos} {e:Expr} {f:EF} (ri:Nat) (ho:SoundE sc d (.Name nm np) (fun loc at_=>(getLoc loc ri).map (·,at_))) (he:SoundE sc d e f)
  (hbase:∀ env,attributeBase (.Name nm np) "append" env (eval (.Name nm np) env)=eval (.Name nm np) env)
  (hfew:∀ env,((backTo pos (starEach [e] env)).all (fun x=> !x.1)&&(backToKw pos (keywordEach [] env)).all (fun x=>x.1.isSome)&&decide (([e]:List Expr).length+([]:List Keyword).length+(if ([]:List Keyword).isEmpty then 0 else 1)<30))=true)
  (hline:(apos.endLine==pos.line)=true) (htrees:∀ env,backTo pos (starEach [e] env)=[(false,eval e env)])
  (hs:∀ env,swapsWith (.Call (.Attribute (.Name nm np) "append" apos) [e] [] pos) none spos.line env=pure false):
  SoundO sc d ri [.Expr (.Call (.Attribute (.Name nm np) "append" apos) [e] [] pos) spos] (fun loc at_ ys=>(f loc at_).bind fun p=>match p.1 with
   | .s (.str y)=>if p.2=at_∧ys.length<1000 then some (loc,ys++[y]) else none
   |_=>none):=by
 intro c O loc at_ R ys s loc' ys' X hf
 refine ob2 hf ?_;clear hf;intro m at1 h1 hf
 refine strM (g:=fun y=>if at1=at_∧ys.length<1000 then some (loc,ys++[y]) else none) hf ?_;clear hf;intro y e1 hf
 refine if_on hf ?_;clear hf;intro hc hf
 refine oe2 hf ?_;clear hf
 have h1:f loc at_=some (.s (.str y),at_):=h1.trans (by rw[show m=_ from e1,hc.1])
 have hi:interactive c.env=false:=by unfold interactive;rw[O.scope,O.kind];rfl
 have hg:(getLoc loc ri).map (·,at_)=some (.ref R,at_):=by unfold getLoc;rw[X.rw];rfl
 refine wpAny_execs_cons (wpAny_Expr_any ?_ hi (hs _))
 refine wpAny_Call_append (hbase _) (hfew _) hline (htrees _) (ho.use O X.st hg fun ov s₁ hov P=> ?_)
 obtain⟨vs,hpl,hv⟩:=(X.post P X.rw X.sc).pl
 refine⟨R,vs.toArray,hov,hpl,he.use O P.1 h1 fun v s₂ hv2 P2=> ?_⟩
 have X2:=(X.post P X.rw X.sc).post P2 X.rw X.sc
 obtain⟨t,rfl⟩:=hv2
 obtain⟨vs2,hpl2,hv3⟩:=X2.pl
 have hlen:vs2.length=ys.length:=(strs_len hv3).trans (List.length_map _)
 have hlt:(ys++[y]).length≤1000:=by rw[List.length_append];exact hc.2
 refine list_append_plainL hpl2 (fun h' hp' hsb=> ?_) (le_line (Nat.le_trans (Nat.le_of_eq hlen) (Nat.le_of_lt hc.2)) (by decide))
 refine wpAny_execs_nil ⟨rfl,X2.change (tk:=s₂.toks) hsb ⟨vs2++[.str (strL y) t],by rw[←List.push_toArray];exact hp',by rw[List.map_append];exact strs_push hv3 _ t⟩ hlt,fun b o e n=> ?_⟩
 have hbx:b∉c.ex:=fun q=>n (.tail _ q)
 exact (hsb.2 b fun q=>n (q▸ .head _)).trans (P2.2 b o (P.2 b o e hbx) hbx)
noncomputable def oForN:List SV→Nat→OF→OF
 | [],_,_=>fun loc _ ys=>some (loc,ys)
 |x::xs,i,b=>fun loc at_ ys=>(b (loc.set i (some (.s x))) at_ ys).bind fun q=>oForN xs i b q.1 at_ q.2
theorem OS.set {c:Cx} {ri i:Nat} {loc:Loc} {R:Addr} {v:SV} (hne:i≠ri) (hrw:loc[ri]? =some (some (.ref R))) (hsc:∀ (i:Nat) (mv:MV),loc[i]? =some (some mv)→flatMV mv=true):(loc.set i (some (.s v)))[ri]? =some (some (.ref R))∧∀ (j:Nat) (mv:MV),(loc.set i (some (.s v)))[j]? =some (some mv)→flatMV mv=true:=by
 refine⟨by rw[List.getElem?_set_ne hne];exact hrw,fun j mv e=> ?_⟩
 by_cases q:i=j
 ·rw[←q,List.getElem?_set_self'] at e
  cases hl:loc[i]? with
  |none=>rw[hl] at e;cases e
  |some z=>rw[hl] at e;cases e;rfl
 ·rw[List.getElem?_set_ne q] at e
  exact hsc j mv e
theorem OS.iter {c:Cx} {ri:Nat} {loc:Loc} {at_:At} {R:Addr} {ys:List (List Nat)} {s:Shared} {h':Heap} {tk:Tok} {wr:List Addr} (X:OS c ri loc at_ R ys s) (hw:∀ b∈wr,c.h0.get? b=none∧c.base.get? b=none∧b≠R) (hf:∀ b∈wr,RecR s.heap b)
  (k:∀ b o,b∉wr→s.heap.get? b=some o→h'.get? b=some o):OS c ri loc at_ R ys { s with heap:=h',toks:=tk }:=by
 have S:=X.st
 refine⟨S.kept ⟨fun b o e=>k b o (fun q=>Heap.ne_of_none e (hw b q).2.1 rfl) (S.stays b o e),fun b o e n=>k b o (fun q=>Heap.ne_of_none e (hw b q).1 rfl) (S.keep b o e n)⟩ (fun b _ o o' e=>k b o' fun q=>Heap.ne_of_none e (hw b q).1 rfl) fun b o e nf=>k b o (fun q=> ?_) e,X.pl.kept fun o=>k R o fun q=>(hw R q).2.2 rfl,X.rw,X.ex,X.h0,X.hb,X.sc,X.sz⟩
 obtain⟨o',vs,e',d'⟩:=hf b q
 exact nf vs (Option.some.inj (e'.symm.trans e)▸d')
theorem new_apart {c:Cx} {loc:Loc} {at_:At} {s:Shared} (S:St c loc at_ s) {b:Addr} (h:s.heap.get? b=none):c.h0.get? b=none∧c.base.get? b=none:=
 ⟨Option.eq_none_iff_forall_ne_some.mpr fun o q=>Heap.ne_of_none (S.keep b o q fun z=>exNew S h (.tail _ z)) h rfl,Option.eq_none_iff_forall_ne_some.mpr fun o q=>Heap.ne_of_none (S.stays b o q) h rfl⟩
noncomputable def svL (xs:List Str):List SV:=xs.map fun x=>.str x.cps.toList
theorem simps_strs (xs:List Str):simps (xs.map (fun x=>MV.s (.str x.cps.toList)))=some (xs.map fun x=>.str x.cps.toList):=by
 induction xs with
 |nil=>rfl
 |cons x r ih=>rw[List.map_cons,List.map_cons];unfold simps;rw[ih];rfl
theorem strs_new {elts:List Expr} {pos:Pos} {c:Cx} (O:c.Ok sc d) {loc:Loc} {at_:At} {s:Shared} (S:St c loc at_ s) (xs:List Str) (h:elts.map constOf=xs.map some) (hl:xs.length≤1000) {E:Value→Shared→Prop} {Q:Value→Shared→Prop}
  (hq:∀ a vs s',Post true c loc at_ s s'→s.heap.get? a=none→s'.heap.get? a=some { cls:=.type "list",data:=.seq vs.toArray }→SRels (svL xs) vs→Q (.ref a) s'):wpAny (model pw c.w) c.A (eval (.List elts pos) c.env) Q E s:=by
 refine List_ ((A_strs (sc:=sc) (d:=d) elts xs h).use O S rfl fun vs s₁ hvs P=> ?_)
 have hr:=simps_rel hvs (simps_strs xs)
 exact wpAny_newObj_type (hq s₁.heap.objs.size vs _ (P.trans (Post.grow P.1 fun b o e=>Heap.get?_push_of_some _ e)) (P.new (new_get _)) (Heap.get?_push_size _ rfl) hr) (le_line (Nat.le_trans (Nat.le_of_eq (hr.len.symm.trans (List.length_map _))) hl) (by decide))
inductive OForI (c:Cx) (ri:Nat) (at_:At) (R:Addr) (F:OF) (i:Nat) (xs:List SV) (s:Shared) (StW:Nat→Heap→Prop) (r:Loc×List (List Nat)) (k:Nat) (s₃:Shared):Prop
 |mk (j:Nat) (loc1:Loc) (ys1:List (List Nat)) (ek:k=xs.length+1-j) (hj:j≤xs.length) (X:OS c ri loc1 at_ R ys1 s₃) (K:Keep (R::c.ex) s.heap s₃.heap) (h:StW j s₃.heap) (e:oForN (xs.drop j) i F loc1 at_ ys1=some r)
theorem O_for {x:Str} {px pos lp:Pos} {elts:List Expr} {body:List Stmt} {F:OF} {ri:Nat} (i:Nat) (xs:List Str) (h:elts.map constOf=xs.map some) (hl:xs.length≤1000) (hF:SoundO sc d ri body F) (hnd:(sc.names.map (·.1)).Nodup) (hi:(sc.names.map (·.1))[i]? =some x) (hk:sc.names.lookup x=some .local) (hne:i≠ri)
  (hs:∀ env v,foldedSetIterable (.List elts lp) env v=pure v):
  SoundOS sc d ri (.For (.Name x px) (.List elts lp) body [] pos) (oForN (svL xs) i F):=by
 intro c O loc at_ R ys s loc' ys' X hf
 have S:=X.st
 refine wpAny_For (strs_new O S xs h hl fun a vs s₁ P₁ ha hget hr=> ?_) (hs _)
 have hL:s₁.heap.IsList a vs.toArray:=⟨_,hget,rfl,0,rfl⟩
 have hRn:∀ b,s.heap.get? b=none→b∉R::c.ex:=fun b hb q=>(List.mem_cons.mp q).elim (fun q=>by
  obtain⟨vs,⟨o,n,e,_⟩,_⟩:=X.pl
  exact Heap.ne_of_none e hb q.symm) (exNew S hb)
 have hnew:=P₁.new (new_get s₁.heap)
 refine wpAny_pyIter_list hL ?_
 have hsz:vs.toArray.size=(svL xs).length:=hr.len.symm
 have W:=Walks.list (prog:=pw) (w:=c.w) (A:=c.A) O.hnd s₁.heap.objs.size a (Heap.ne_of_none hget (new_get _)) vs.toArray
 rw[hsz] at W
 have P₂:Post true c loc at_ s { s₁ with heap:=s₁.heap.push { cls:=.type "list_iterator",data:=.fields #[.ref a,.int 0 0] } }:=P₁.trans (Post.grow P₁.1 fun b o e=>Heap.get?_push_of_some _ e)
 refine codeAny_forLoop (OForI c ri at_ R F i (svL xs) s (fun j h=>h.IsListIter s₁.heap.objs.size a j∧h.IsList a vs.toArray) (loc',ys')) (fun k s₃ hI=> ?_) ((svL xs).length+1) ⟨0,loc,ys,rfl,Nat.zero_le _,X.post P₂ X.rw X.sc,P₂.2.mono fun b hb=>.tail _ hb,⟨⟨_,Heap.get?_push_size _ rfl,rfl,rfl⟩,hL.push _⟩,hf⟩
 clear hf
 obtain⟨j,loc1,ys1,ek,hj,X3,K3,hst3,hl3⟩:=hI
 have step:∀ {h':Heap} {tk:Tok},(∀ b o,b∉[s₁.heap.objs.size]→s₃.heap.get? b=some o→h'.get? b=some o)→OS c ri loc1 at_ R ys1 { s₃ with heap:=h',toks:=tk }∧Keep (R::c.ex) s.heap h':=fun hk'=>
  ⟨OS.iter X3 (fun b hb=>List.mem_singleton.mp hb▸⟨(new_apart S hnew).1,(new_apart S hnew).2,fun q=>hRn _ hnew (q▸ .head _)⟩) (fun b hb=>List.mem_singleton.mp hb▸by
   obtain⟨o,e1,e2,e3⟩:=hst3.1
   exact⟨o,_,e1,e3⟩) hk',fun b o e n=>hk' b o (fun q=>Heap.ne_of_none e hnew (List.mem_singleton.mp q)) (K3 b o e n)⟩
 by_cases hlt:j<(svL xs).length
 ·refine W.item j s₃ _ _ hlt hst3 fun v h' tk hv hst' hk'=> ?_
  obtain⟨x0,hx0,hrel⟩:=hr.itv hlt hv
  rw[drop_one hx0] at hl3
  refine ob2 hl3 ?_;clear hl3;intro loc2 ys2 h2 hl3
  have Z:=step (tk:=tk) hk'
  have G:=OS.set (c:=c) (v:=x0) hne Z.1.rw Z.1.sc
  refine wpAny_assign_Name (storeName_ok O Z.1.st hnd hi hk (mv:=.s x0) hrel fun s₅ P₅=>wpAny_mono (hF c O _ at_ R ys1 s₅ loc2 ys2 (Z.1.post P₅ G.1 G.2) h2) (fun fl s₆ x=> ?_) fun _ _ x=>x.elim)
  have K':Keep (R::c.ex) h' s₆.heap:=(P₅.2.mono fun b hb=>.tail _ hb).trans x.2.2
  rw[x.1]
  exact⟨(svL xs).length+1-(j+1),ek▸Nat.sub_lt_sub_left (Nat.lt_succ_of_lt hlt) (Nat.lt_succ_self j),j+1,loc2,ys2,rfl,hlt,x.2.1,Z.2.trans K',W.frame _ _ _ hst' fun b hb o e=>K' b o e (hRn b ((List.mem_cons.mp hb).elim (fun q=>q▸hnew) fun q=>List.mem_singleton.mp q▸ha)),hl3⟩
 ·rw[List.drop_of_length_le (Nat.not_lt.mp hlt)] at hl3
  exact oe2 hl3 (W.done s₃ _ _ (Nat.le_antisymm hj (Nat.not_lt.mp hlt)▸hst3) fun h' tk hk'=>wpAny_execs_nil ⟨rfl,(step hk').1,(step (tk:=tk) hk').2⟩)
end
end
noncomputable def metS (val:Nat→Str) (i:Nat) (k:Str):Bool:=((List.range i).map val).any (· ==k)
theorem metS_succ (val:Nat→Str) (i:Nat) (k:Str):metS val (i+1) k=(metS val i k||decide (k=val i)):=by
 unfold metS
 rw[List.range_succ,List.map_append,List.any_append]
 congr 1
 simp only[List.map_cons,List.map_nil,List.any_cons,List.any_nil,Bool.or_false]
 rw[Bool.eq_iff_iff,beq_iff_eq,decide_eq_true_eq]
 exact eq_comm
inductive SetI (w:World) (S:Addr) (f:Str→Bool) (i:Nat) (h:Heap):Prop
 |mk (m:Nat) (le:m≤i) (x:h.SetOf (strKind pw w) S f m)
theorem SetI.kept {w:World} {S:Addr} {f:Str→Bool} {i:Nat} {h h':Heap} (x:SetI w S f i h) (k:∀ o,h.get? S=some o→h'.get? S=some o):SetI w S f i h':=by
 obtain⟨m,le,⟨o,es,ep,t,ho,rest⟩⟩:=x
 exact⟨m,le,⟨o,es,ep,t,k o ho,rest⟩⟩
theorem set_loop {w:World} {A:Around} {R:Result→Shared→Prop} {I:Addr} {fp wr:List Addr} {n:Nat} {P:Nat→Value→Prop} {St:Nat→Heap→Prop} (W:Walks pw w A.in1 I fp wr n P St) (S:Addr) (hSf:S∉fp)
  (val:Nat→Str) (hval:∀ i v,P i v→∃ t,v= .str (val i) t) (hb:n+1<scanBound):
  ∀ (k i:Nat) (s:Shared),i+k=n→St i s.heap→SetI w S (metS val i) i s.heap→
   (∀ h' tk,(∀ b o,b∉S::wr→s.heap.get? b=some o→h'.get? b=some o)→SetI w S (metS val n) n h'→R (.ok (.ret .none)) { s with heap:=h',toks:=tk })→
   codeAny (model pw w) A (.builtin "set.update.loop" ⟨[.ref S,.ref I],[]⟩) R s:=by
 have hSw:S∉wr:=fun h=>hSf (W.sub _ h)
 intro k
 induction k with
 |zero=>
  intro i s hk hst hS hR
  cases hk
  refine codeAny_builtin PyProof.Rows.F.entry_set_update_loop ?_
  rw[Around.under_plainId PyProof.Rows.F.plain_set_update_loop _]
  show wpAny _ A.in1 (pyNext (.ref I) >>= _) _ _ s
  exact wpAny_bind (W.done s _ _ hst fun h' tk hm=>wpAny_pure (hR h' tk (fun b o nb e=>hm b o (fun q=>nb (.tail _ q)) e) (hS.kept fun o=>hm S o hSw)))
 |succ k ih=>
  intro i s hk hst hS hR
  have hlt:i<n:=hk▸Nat.lt_add_of_pos_right (Nat.succ_pos k)
  refine codeAny_builtin PyProof.Rows.F.entry_set_update_loop ?_
  rw[Around.under_plainId PyProof.Rows.F.plain_set_update_loop _]
  show wpAny _ A.in1 (pyNext (.ref I) >>= _) _ _ s
  refine wpAny_bind (W.item i s _ _ hlt hst fun v h₁ tk hP hst' hm=> ?_)
  obtain⟨t,rfl⟩:=hval i v hP
  obtain⟨m,hm1,hS'⟩:=hS.kept (h':=h₁) fun o=>hm S o hSw
  show wpAny _ A.in1 (holding [Value.str (val i) t] (setAdd S (.str (val i) t)) >>= _) _ _ _
  refine wpAny_bind (wpAny_holding ?_)
  unfold setAdd
  refine wpAny_holding (wpAny_bind ((strKind pw w).pyHash (k:=val i) (strKind_is pw w _ t) ?_))
  refine wpAny_setAddHashed_of (knd:=strKind pw w) (s:={ s with heap:=h₁,toks:=tk+1 }) (strKind_is pw w _ t) rfl hS' (Nat.lt_trans (Nat.add_lt_add_right (Nat.lt_of_le_of_lt hm1 hlt) 1) hb) fun h' hsb hS2=> ?_
  refine wpAny_pure ⟨plainId_quiet PyProof.Rows.F.plain_set_update_loop _,ih (i+1) _ ((Nat.add_right_comm i 1 k).trans hk) (W.frame _ _ _ hst' fun b hb o e=>(hsb.2 b fun h=>hSf (h▸hb)).trans e) ⟨_,?_,SetOf_congr hS2 (fun k'=>(metS_succ val i k').symm) rfl⟩ fun h'' tk'' hm'' hS''=>hR h'' tk'' (fun b o nb e=>hm'' b o nb ((hsb.2 b fun h=>nb (h▸ .head _)).trans (hm b o (fun q=>nb (.tail _ q)) e))) hS''⟩
  split
  ·exact Nat.le_succ_of_le hm1
  ·exact Nat.succ_le_succ hm1
theorem strs_at {vs:List Value} {xs:List Str} (h:StrsAre vs xs):∀ (i:Nat) (v:Value),vs[i]? =some v→∃ t,v= .str (xs.getD i default) t:=by
 induction h with
 |nil=>intro i v e;simp at e
 |cons y t _ ih=>
  intro i v e
  cases i with
  |zero=>simp at e;exact⟨t,by rw[←e];rfl⟩
  |succ i=>
   obtain⟨t',e'⟩:=ih i v (by simpa using e)
   exact⟨t',by rw[e'];rfl⟩
noncomputable def newSet (led:Bool):Obj:={ cls:=.type "set",dict:=none,data:=.set #[] 0 (.fresh 0 0 led) }
theorem metS_all {xs:List Str} {n:Nat} (h:n=xs.length) (k:Str):metS (fun i=>xs.getD i default) n k=xs.any (· ==k):=by
 subst h
 unfold metS
 rw[show (List.range xs.length).map (fun i=>xs.getD i default)=xs from List.ext_getElem (by rw[List.length_map,List.length_range]) fun i h1 h2=>by
  rw[List.getElem_map,List.getElem_range,List.getD_eq_getElem?_getD,List.getElem?_eq_getElem h2];rfl]
set_option maxHeartbeats 3200000 in
theorem init_set {w:World} {A:Around} {E:Value→Shared→Prop} {s:Shared} {l S:Addr} {vs:List Value} {xs:List Str} {led:Bool} {Q:Value→Shared→Prop}
  (hh:A.handled=none) (hS:s.heap.get? S=some (newSet led)) (hl:s.heap.IsList l vs.toArray) (hi:StrsAre vs xs) (hb:xs.length+1<scanBound)
  (h:∀ (h':Heap) (tk:Nat),(∃ m,h'.SetOf (strKind pw w) S (fun k=>xs.any (· ==k)) m)→(∀ b o,b≠S→s.heap.get? b=some o→h'.get? b=some o)→Q .none { s with heap:=h',toks:=tk }):
  codeAny (model pw w) A (.call (.builtin "set.__init__") ⟨[.ref S,.ref l],[]⟩) (wants Q E) s:=by
 have hT:s.TypeIs (.ref S) "set":=⟨_,hS,rfl⟩
 refine codeAny_call_builtin F.called_set.init.plain F.entry_set_init (check_set_init_1 hT ?_)
 have hTl:=hl.typeIs
 have hsls:=F.sub_list_set
 have hslf:=F.sub_list_frozenset
 have hne:(Value.type "list"==Value.type "dict")=false:=by decide
 unfold Builtin.«set.__init__» noKeywords Builtin.Frozenset.updateFrom
 generalize hPI:pyIter=PI
 wp_walk
 subst hPI
 obtain⟨ol,hol,hcl,_⟩:=id hl
 have hlS:S≠l:=fun q=>by
  rw[q,hol] at hS
  exact absurd ((congrArg Obj.cls (Option.some.inj hS)).symm.trans hcl) (show ¬Value.type "set"=Value.type "list" by decide)
 refine wpAny_pyIter_list hl (wpAny_bind (wpAny_runValue ?_))
 have hSf:S∉[s.heap.objs.size,l]:=fun q=>by
  cases q with
  |head=>exact Heap.ne_of_none hS (new_get _) rfl
  |tail _ q=>exact hlS (List.mem_singleton.mp q)
 refine set_loop (Walks.list (show A.in1.in1.handled=none by simp[hh]) s.heap.objs.size l (Heap.ne_of_none hol (new_get _)) vs.toArray) S hSf (fun i=>xs.getD i default) (fun i v hv=>strs_at hi i v (by rw[←List.getElem?_toArray];exact hv)) (by rw[List.size_toArray,strs_len hi];exact hb) vs.toArray.size 0 _ (Nat.zero_add _) ⟨⟨_,Heap.get?_push_size _ rfl,rfl,rfl⟩,hl.push _⟩
  ⟨0,Nat.le_refl _,PyProof.Rows.SetOf_congr ((PyProof.Rows.setObjOf_fresh (knd:=strKind pw w) led).setOf (Heap.get?_push_of_some _ hS) (by decide)) (fun _=>rfl) rfl⟩ fun h' tk' hm hS'=> ?_
 obtain⟨m,_,hS'⟩:=hS'
 exact wpAny_pure (wpAny_pure (h h' tk' ⟨m,PyProof.Rows.SetOf_congr hS' (fun k=>metS_all (strs_len hi) k) rfl⟩ fun b o hb e=>hm b o (fun q=>by
  cases q with
  |head=>exact hb rfl
  |tail _ q=>exact Heap.ne_of_none e (new_get _) (List.mem_singleton.mp q)) (Heap.get?_push_of_some _ e)))
theorem wants_mono {Q Q':Value→Shared→Prop} {E:Value→Shared→Prop} {r:Result} {s:Shared} (h:wants Q E r s) (k:∀ v,Q v s→Q' v s):wants Q' E r s:=by
 cases r with
 |error e=>exact h
 |ok f=>cases f with
  |ret v=>exact k v h
  |_=>exact h.elim
set_option maxHeartbeats 3200000 in
theorem call_set_strs {w:World} {A:Around} {E:Value→Shared→Prop} {s:Shared} {l:Addr} {vs:List Value} {xs:List Str} {Q:Value→Shared→Prop}
  (hh:A.handled=none) (hl:s.heap.IsList l vs.toArray) (hi:StrsAre vs xs) (hb:xs.length+1<scanBound)
  (h:∀ (h':Heap) (tk:Nat),(∃ m,h'.SetOf (strKind pw w) s.heap.objs.size (fun k=>xs.any (· ==k)) m)→(∀ b o,b<s.heap.objs.size→s.heap.get? b=some o→h'.get? b=some o)→Q (.ref s.heap.objs.size) { s with heap:=h',toks:=tk }):
  wpAny (model pw w) A (call (.type "set") [.ref l]) Q E s:=by
 obtain⟨c,tl,hmro⟩:=F.called_set.mro
 have hmade:=F.called_set.made
 have hsub:=F.called_set.sub
 refine wpAny_call (codeAny_of_tree ?_)
 show wpAny _ _ (callAny (.type "set") _) _ _ _
 refine wpAny_pure ⟨Code.quiet_builtin _ (by decide+kernel),codeAny_builtin F.entry_type_call ?_⟩
 rw[Around.under_plain (weight_type_call_type "set" [.ref l] []) rfl]
 have h1:=F.called_set.notType
 have h2:=F.called_set.canCreate
 have hct:=F.typeCall_set_1 (.ref l)
 repeat (any_goals (first |assumption |wp_step))
 refine codeAny_mono (code_set_new_1 (.ref l) (E:=E) (Q₁:=fun obj s₁=>∃ led:Bool,obj= .ref s.heap.objs.size∧s₁= { s with heap:=s.heap.push (newSet led) }) fun led=>⟨led,rfl,rfl⟩) fun r s₁ hr=> ?_
 refine wants_mono hr fun obj x=> ?_
 obtain⟨led,rfl,rfl⟩:=x
 have hS:(s.heap.push (newSet led)).get? s.heap.objs.size=some (newSet led):=Heap.get?_push_size _ rfl
 have hT:Shared.TypeIs { s with heap:=s.heap.push (newSet led) } (.ref s.heap.objs.size) "set":=⟨_,hS,rfl⟩
 have hli:=F.called_set.init.lookup
 have hbi:=F.called_set.init.bind (.ref s.heap.objs.size)
 repeat (any_goals (first |assumption |wp_step))
 refine codeAny_mono (init_set (E:=E) (Q:=fun r s₂=>r= .none∧∃ h' tk,s₂= { s with heap:=h',toks:=tk }∧(∃ m,h'.SetOf (strKind pw w) s.heap.objs.size (fun k=>xs.any (· ==k)) m)∧(∀ b o,b<s.heap.objs.size→s.heap.get? b=some o→h'.get? b=some o)) (by simp[hh]) hS (hl.push _) hi hb fun h' tk hm hk=>⟨rfl,h',tk,rfl,hm,fun b o hb e=>hk b o (Nat.ne_of_lt hb) (Heap.get?_push_of_some _ e)⟩) fun r₂ s₂ hr₂=> ?_
 refine wants_mono hr₂ fun r x=> ?_
 obtain⟨rfl,h',tk,rfl,hS',hk'⟩:=x
 repeat (any_goals (first |assumption |wp_step))
 exact h _ _ hS' hk'
section
theorem fn_of_body0 {f:Addr} {d n m:Nat} {fd:FuncData} {body:List Stmt} {G:List MV→At→Option (MV×At)} {ps:List Str} (hG:∀ (c:Cx),c.Ok fd.scope d→∀ (args:List MV) (at_:At) (s:Shared) (r:MV) (at':At),St c (args.map some++List.replicate m none) at_ s→G args at_=some (r,at')→wpAny (model pw c.w) c.A (execs body c.env) (fun fl s'=>FlRel c s'.heap (.ret r) fl∧∃ loc',St c loc' at' s') (fun _ _=>False) s)
  (hK:∀ P,((KV P).lookup f).map (·.data)=some (.func fd)) (hcd:∀ P,codeIn (KV P) fd.code fd.qualname=true) (hbody:fd.body= .stmts body)
  (hgl:fd.globals=mainGlobals) (hbl:fd.builtins=builtinsNs)
  (hbind:∀ vals:List Value,vals.length=n→bindArgs fd ⟨vals,[]⟩=pure (ps.zip vals)) (hps:ps.length=n) (hnames:ps=(fd.scope.names.map (·.1)).take n) (hnd:(fd.scope.names.map (·.1)).Nodup)
  (hloc:ps.all (fun x=>fd.scope.names.lookup x==some .local)=true) (hcell:fd.scope.names.all (fun x=>x.2!= .cell)=true) (hco:fd.scope.isCoroutine=false) (hgen:fd.scope.isGenerator=false) (hk:fd.scope.kind= .function) (hclo:fd.closure=[]:=by rfl):
  FnOk f (d+1) (fun args at_=>if args.length=n then G args at_ else none):=by
 have T:FnT f fd body ps n:=⟨hK,hcd,hbody,hgl,hbl,hbind,hps,hnames,hnd,all_or hloc,hclo,hco,hgen,hk⟩
 intro c sc O loc at_ s args vals r at' R S hv hF hR
 exact if_on hF fun hlen hF=>fn_gen (m:=m) T O S hv hlen (fun s₁ S'=>wpAny_mono (hG _ (call_ok T O) args at_ s₁ r at' S' hF) (fun fl s' x=>⟨x.1.elim fun v y=>.ret v y.1 y.2,x.2⟩) fun _ _ x=>x) hR
theorem setName:∀ P,nsIn (KV P) mainGlobals "set"=some none:=by intro P;kernel_rfl
section
variable {sc:Scope} {d:Nat}
theorem strsOf_sv (xs:List Str):strsOf (svL xs)=some (xs.map (·.cps.toList)):=by
 induction xs with
 |nil=>rfl
 |cons x r ih=>exact congrArg (Option.map (x.cps.toList:: ·)) ih
theorem rep_at {k ri:Nat} {m:MV} (h:ri<k):((List.replicate k (none:Option MV)).set ri (some m))[ri]? =some (some m):=by
 rw[List.getElem?_set_self',List.getElem?_replicate_of_lt h];rfl
theorem rep_flat {k ri i:Nat} {R:Addr} {mv:MV} (e:((List.replicate k (none:Option MV)).set ri (some (.ref R)))[i]? =some (some mv)):flatMV mv=true:=by
 rw[List.getElem?_set] at e
 split at e
 ·split at e
  ·exact Option.some.inj (Option.some.inj e)▸rfl
  ·cases e
 ·rw[List.getElem?_replicate] at e
  split at e<;>cases e
theorem B_rows {nm:Str} {np lp apos snp rp cp retp:Pos} {elts:List Expr} {st:Stmt} {F:OF} (ri k:Nat) (xs:List Str) (h:elts.map constOf=xs.map some) (hl:xs.length≤1000) (hF:SoundOS sc d ri st F)
  (hnd:(sc.names.map (·.1)).Nodup) (hi:(sc.names.map (·.1))[ri]? =some nm) (hk:sc.names.lookup nm=some .local) (hs:∀ env,swapsWith (.List elts lp) (some (.Name nm np)) apos.line env=pure false)
  (hset:sc.names.lookup ("set":Str)=some .globalImplicit) (hr:SoundE sc d (.Name nm rp) (fun loc at_=>(getLoc loc ri).map (·,at_)))
  (hne:∀ env,starEach [.Name nm rp] env=[(false,eval (.Name nm rp) env)])
  (ys:List (List Nat)) (hys:∀ R,(F ((List.replicate k none).set ri (some (.ref R))) [] (xs.map (·.cps.toList))).map (·.2)=some ys) (hri:ri<k):
  ∀ (c:Cx),c.Ok sc d→∀ (args:List MV) (at_:At) (s:Shared) (r:MV) (at':At),St c (args.map some++List.replicate k none) at_ s→(if args=[]∧at_=[] then some (MV.set ys,([]:At)) else none)=some (r,at')→
   wpAny (model pw c.w) c.A (execs [.Assign [.Name nm np] (.List elts lp) apos,st,.Return (some (.Call (.Name "set" snp) [.Name nm rp] [] cp)) retp] c.env) (fun fl s'=>FlRel c s'.heap (.ret r) fl∧∃ loc',St c loc' at' s') (fun _ _=>False) s:=by
 intro c O args at_ s r at' S hf
 refine if_on hf ?_;clear hf;intro hc hf
 refine oe2 hf ?_;clear hf
 have S:St c (List.replicate k none) [] s:=hc.2▸(show St c (List.replicate k none) at_ s by rw[hc.1] at S;exact S)
 refine wpAny_execs_cons (wpAny_Assign_Name (strs_new O S xs h hl fun R vs s₁ P₁ hR hget hrel=> ?_) (hs _))
 have hRx:R∉c.ex:=exNew S hR
 refine storeName_ok O P₁.1 hnd hi hk (mv:=.ref R) rfl fun s₂ P₂=> ?_
 have X:OS c ri ((List.replicate k none).set ri (some (.ref R))) [] R (xs.map (·.cps.toList)) s₂:=
  ⟨P₂.1,⟨vs,⟨_,0,P₂.2 R _ hget hRx,rfl,rfl,rfl⟩,strs_rel hrel (strsOf_sv xs)⟩,rep_at hri,hRx,(new_apart S hR).1,(new_apart S hR).2,fun i mv e=>rep_flat e,by rw[List.length_map];exact hl⟩
 refine om2 (hys R) fun loc' ys' h1 e=> ?_
 cases (show ys'=ys from e)
 refine wpAny_execs_cons (wpAny_mono (hF c O _ [] R _ s₂ loc' ys X h1) (fun fl s₃ x=>x.1▸ ?_) fun _ _ x=>x)
 have X3:=x.2.1
 refine wpAny_execs_cons (wpAny_Return_some (wpAny_Call_NameR (name_builtin O X3.st hset (by decide) (v:=.type "set") (setName _) (by decide+kernel) (by decide) ?_)))
 rw[hne]
 have hg:(getLoc loc' ri).map (·,([]:At))=some (.ref R,[]):=by unfold getLoc;rw[X3.rw];rfl
 refine PySem.callWith_type rfl (evalArgs_plain (spliced_cons (hr.use O X3.st hg fun v s₄ hv P4=>spliced_nil ?_)))
 have X4:=X3.post P4 X3.rw X3.sc
 obtain⟨vs4,hpl4,hv4⟩:=X4.pl
 rw[show v= .ref R from hv]
 refine call_set_strs O.hnd hpl4.isList hv4 (by rw[List.length_map];exact Nat.lt_of_le_of_lt (Nat.succ_le_succ X4.sz) (by decide)) fun h' tk hS hk'=> ?_
 obtain⟨n,hS⟩:=hS
 exact⟨⟨_,rfl,s₄.heap.objs.size,n,rfl,exNew X4.st (new_get _),SetOf_congr hS (fun q=>by rw[←contains_map_strL,strL_cps]) rfl⟩,loc',X4.st.grow fun b o e=>hk' b o (Heap.lt_size e) e⟩
end
end
section
theorem makes409:∀ P,makesIn (KV P) 409=true:=by intro P;kernel_rfl
theorem init409:∀ P,findIn (KV P) (.ref 409) "__init__"=some (some (.ref 35)):=by intro P;kernel_rfl
theorem fn35T:∀ P,typeIn (KV P) (.ref 35)=some (.type "function"):=by intro P;kernel_rfl
theorem keep409:∀ P,keepIn (KV P) (.ref 409)=true:=by intro P;kernel_rfl
noncomputable def withSelf (c:Cx) (X D:Addr):Cx:={ c with slf:=true,X:=X,D:=D }
theorem ws_mem {c:Cx} {X D b:Addr} (h:c.slf=false):b∈(withSelf c X D).ex↔b=D∨b∈c.ex:=by
 show b∈c.env.locals::D::c.fs↔b=D∨b∈c.env.locals::((if c.slf then [c.D] else [])++c.fs)
 rw[h,List.mem_cons,List.mem_cons]
 exact or_left_comm.trans (or_congr_right List.mem_cons.symm)
theorem ws_mem0 {c:Cx} {X D b:Addr} (h:c.slf=false):b∈(withSelf c X D).ex0↔b=D∨b∈c.ex0:=by
 show b∈D::c.fs↔b=D∨b∈(if c.slf then [c.D] else [])++c.fs
 rw[h]
 exact List.mem_cons
section
variable {sc:Scope} {d:Nat}
theorem ws_ok {c:Cx} (O:c.Ok sc d) (hx:c.exc=true) (X D:Addr):(withSelf c X D).Ok sc d:=⟨O.base,O.scope,O.kind,O.gl,O.bl,O.hnd,O.room,O.un,fun _=>hx,O.fr⟩
theorem ws_st {c:Cx} (hs:c.slf=false) {loc:Loc} {at0 at1:At} {s:Shared} {h':Heap} {tk:Tok} {X D:Addr} (S:St c loc at0 s) (k:∀ b o,s.heap.get? b=some o→h'.get? b=some o) (hX:s.heap.get? X=none) (hD:s.heap.get? D=none) (hA:SelfAt X D at1 h') (hXD:X≠D):
  St (withSelf c X D) loc at1 { s with heap:=h',toks:=tk }:=by
 have nd:=exNew S hD
 have nk:∀ a o,s.heap.get? a=some o→a∉c.ex→a∉(withSelf c X D).ex:=fun a o e n q=>((ws_mem hs).mp q).elim (Heap.ne_of_none e hD) n
 have oX:c.oX=none:=by unfold Cx.oX;rw[hs];rfl
 refine⟨S.gens,S.drawn,S.os,fun b o e=>k b o (S.stays b o e),fun b o e n=>k b o (S.keep b o e fun q=>n ((ws_mem0 hs).mpr (.inr q))),fun b hb o e=> ?_,S.fresh,S.freshB,?_,fun _=>⟨hA,fun q=>((ws_mem hs).mp q).elim hXD (exNew S hX),fun q=>nd ((show D=c.env.locals from q)▸Cx.loc_ex),(new_apart S hD).2⟩,nofun,fun q=>(S.fr q).of_keeps fun b o e _=>⟨o,k b o e,rfl⟩,S.fdB,fun b hb=>(S.fd b hb).imp fun o e _=>k b o e,S.n1,fun _ q=>nd (Cx.fs_ex q)⟩
 ·obtain⟨sl,x,y⟩:=S.slots b hb o e
  exact⟨sl,k _ _ x,y⟩
 ·obtain⟨m,hn,r⟩:=S.ns
  refine⟨m,hn.keeps k,fun i mv e=> ?_⟩
  obtain⟨x,v,a,b,l,z⟩:=r i mv e
  refine⟨x,v,a,b.imp (fun q=> ?_) fun a o e _ n=>⟨nk a o e n,k a o e⟩,l,fun q=> ?_⟩
  ·subst q
   obtain⟨y,e,_⟩:=b
   exact nn (oX.symm.trans e)
  ·obtain⟨cl,d1,⟨o,d2,d4⟩,d3⟩:=z q
   exact⟨cl,d1,⟨o,k _ _ d2,d4⟩,nk _ _ d2 d3⟩
theorem St.noloc {c:Cx} {loc:Loc} {at_:At} {s:Shared} (S:St c loc at_ s):St c [] at_ s:=by
 obtain⟨m,hn,_⟩:=S.ns
 exact⟨S.gens,S.drawn,S.os,S.stays,S.keep,S.slots,S.fresh,S.freshB,⟨m,hn,fun i mv e=>nn (List.getElem?_nil.symm.trans e)⟩,S.self,S.noself,S.fr,S.fdB,S.fd,S.n1,S.n2⟩
theorem ws_back {c:Cx} (hs:c.slf=false) {loc:Loc} {at1:At} {s:Shared} {X D:Addr} (hD:c.h0.get? D=none) (S:St (withSelf c X D) loc at1 s):St c [] [] s:=by
 obtain⟨m,hn,_⟩:=S.ns
 refine⟨S.gens,S.drawn,S.os,S.stays,fun b o e n=>S.keep b o e fun q=>((ws_mem0 hs).mp q).elim (Heap.ne_of_none e hD) n,fun b hb o e=> ?_,S.fresh,S.freshB,⟨m,hn,fun i mv e=>nn (List.getElem?_nil.symm.trans e)⟩,(fun q=>nomatch hs.symm.trans q),fun _=>rfl,S.fr,S.fdB,S.fd,S.n1,fun q=>nomatch hs.symm.trans q⟩
 obtain⟨sl,x,y⟩:=S.slots b hb o e
 exact⟨sl,x,y⟩
theorem St.under {c:Cx} (A:Around) {loc:Loc} {at_:At} {s:Shared} (S:St c loc at_ s):St { c with A:=A } loc at_ s:=by
 refine⟨S.gens,S.drawn,S.os,S.stays,S.keep,fun b hb o e=> ?_,S.fresh,S.freshB,?_,fun q=>⟨(S.self q).at_,(S.self q).nx,(S.self q).nl,(S.self q).nb⟩,S.noself,S.fr,S.fdB,S.fd,S.n1,S.n2⟩
 ·obtain⟨sl,x,y⟩:=S.slots b hb o e
  exact⟨sl,x,y⟩
 ·obtain⟨m,hn,r⟩:=S.ns
  refine⟨m,hn,fun i mv e=> ?_⟩
  obtain⟨x,v,a,b,l,z⟩:=r i mv e
  refine⟨x,v,a,b,l,fun q=> ?_⟩
  obtain⟨cl,d1,d2,d3⟩:=z q
  exact⟨cl,d1,d2,d3⟩
noncomputable abbrev at6:At:=[.str [],.int 0,.int 0,.int 0,.int 0,.int 0]
theorem ctor_ok {F:List MV→At→Option (MV×At)} (hf:FnOk 35 d F) (hF:F [.self] []=some (.s .none,at6)) {np pos:Pos} {c:Cx} (O:c.Ok sc (d+1)) (hs:c.slf=false) (hx:c.exc=true) (hk:sc.names.lookup ("DutchPorterStemmer":Str)=some .globalImplicit) {loc:Loc} {s:Shared} (S:St c loc [] s) {E:Value→Shared→Prop} {Q:Value→Shared→Prop}
  (hq:∀ X D s',St (withSelf c X D) loc at6 s'→c.h0.get? D=none→Q (.ref X) s'):wpAny (model pw c.w) c.A (eval (.Call (.Name "DutchPorterStemmer" np) [] [] pos) c.env) Q E s:=by
 refine wpAny_Call_NameR (name_glob O S hk (by decide) (glob_stem _) ?_)
 refine callWith_of rfl (keeps_K (keep409 c.w.params)) (evalArgs_nil3 ⟨S.K O,?_⟩)
 have hX:s.heap.get? (s.heap.objs.size+1)=none:=Heap.get?_none_of_le (Nat.le_succ _)
 refine wpAny_call (make_core (makes_of (S.K O) (makes409 _)) (looks_findIn (S.K O) (init409 _)) (fun self=>bind_fn (S.K O) self (fn35T _)) (.inl rfl) ?_)
 have eX:((s.heap.push emptyDict).push (instObj 409 s.heap.objs.size)).get? (s.heap.objs.size+1)=some (instObj 409 s.heap.objs.size):=by
  rw[←Heap.size_push s.heap emptyDict]
  exact Heap.get?_push_size _ rfl
 have S1:=ws_st (tk:=s.toks) (X:=s.heap.objs.size+1) (D:=s.heap.objs.size) hs S (fun b o e=>Heap.get?_push_of_some _ (Heap.get?_push_of_some _ e)) hX (new_get _) ⟨eX,⟨[],0,Heap.get?_push_of_some _ (Heap.get?_push_size _ rfl),.nil⟩,Nat.zero_le _⟩ (Nat.succ_ne_self _)
 have O2:Cx.Ok { withSelf c (s.heap.objs.size+1) s.heap.objs.size with A:=c.A.under (.builtin "type.__call__" ⟨.ref 409::[],[]⟩) } sc d:=
  ⟨O.base,O.scope,O.kind,O.gl,O.bl,O.hnd,Nat.lt_of_le_of_lt (Nat.le_of_eq (Nat.add_right_comm c.A.depth 1 d)) O.room,Nat.lt_of_le_of_lt (Nat.add_le_add_left (Nat.le_trans (Nat.le_of_eq (Nat.add_comm 1 (3*d))) (Nat.add_le_add_left (by decide:1≤3) (3*d))) c.A.units |> Nat.le_trans (Nat.le_of_eq (Nat.add_assoc c.A.units 1 (3*d)))) O.un,fun _=>hx,O.fr⟩
 exact hf _ sc O2 loc [] _ [.self] [.ref (s.heap.objs.size+1)] (.s .none) at6 _ (S1.under _) (.cons ⟨_,rfl,rfl⟩ .nil) hF fun v s' hv P=>(show v= .none from hv)▸⟨rfl,hq _ s.heap.objs.size s' (P.1.under c.A) (new_apart S (new_get _)).1⟩
end
end
section
noncomputable def FnOkX (f:Addr) (d:Nat) (F:List MV→Option MV):Prop:=
 ∀ (c:Cx) (sc:Scope),c.Ok sc d→c.slf=false→c.exc=true→∀ (loc:Loc) (s:Shared) (args:List MV) (vals:List Value) (r:MV) (R:Result→Shared→Prop),St c loc [] s→c.Vs s.heap args vals→F args=some r→
  (∀ v s',c.V s'.heap r v→Post true c loc [] s s'→R (.ok (.ret v)) s')→codeAny (model pw c.w) c.A (.call (.ref f) ⟨vals,[]⟩) R s
theorem fn_of_bodyX {f:Addr} {d n m:Nat} {fd:FuncData} {body:List Stmt} {G:List MV→Option MV} {ps:List Str} (hG:∀ (c:Cx),c.Ok fd.scope d→c.slf=false→c.exc=true→∀ (args:List MV) (s:Shared) (r:MV),St c (args.map some++List.replicate m none) [] s→G args=some r→wpAny (model pw c.w) c.A (execs body c.env) (fun fl s'=>FlRel c s'.heap (.ret r) fl∧∃ loc',St c loc' [] s') (fun _ _=>False) s)
  (hK:∀ P,((KV P).lookup f).map (·.data)=some (.func fd)) (hcd:∀ P,codeIn (KV P) fd.code fd.qualname=true) (hbody:fd.body= .stmts body)
  (hgl:fd.globals=mainGlobals) (hbl:fd.builtins=builtinsNs)
  (hbind:∀ vals:List Value,vals.length=n→bindArgs fd ⟨vals,[]⟩=pure (ps.zip vals)) (hps:ps.length=n) (hnames:ps=(fd.scope.names.map (·.1)).take n) (hnd:(fd.scope.names.map (·.1)).Nodup)
  (hloc:ps.all (fun x=>fd.scope.names.lookup x==some .local)=true) (hcell:fd.scope.names.all (fun x=>x.2!= .cell)=true) (hco:fd.scope.isCoroutine=false) (hgen:fd.scope.isGenerator=false) (hk:fd.scope.kind= .function) (hclo:fd.closure=[]:=by rfl):
  FnOkX f (d+1) (fun args=>if args.length=n then G args else none):=by
 have T:FnT f fd body ps n:=⟨hK,hcd,hbody,hgl,hbl,hbind,hps,hnames,hnd,all_or hloc,hclo,hco,hgen,hk⟩
 intro c sc O hslf hexc loc s args vals r R S hv hF hR
 exact if_on hF fun hlen hF=>fn_gen (m:=m) T O S hv hlen (fun s₁ S'=>wpAny_mono (hG _ (call_ok T O) hslf hexc args s₁ r S' hF) (fun fl s' x=>⟨x.1.elim fun v y=>.ret v y.1 y.2,x.2⟩) fun _ _ x=>x) hR
section
variable {sc:Scope} {d:Nat}
theorem B_ctor {nm:Str} {np cnp cp ap:Pos} {rest:List Stmt} {G:SF} {F:List MV→At→Option (MV×At)} (i:Nat) (hf:FnOk 35 d F) (hF:F [.self] []=some (.s .none,at6)) (hG:SoundB sc (d+1) rest G) (hcls:sc.names.lookup ("DutchPorterStemmer":Str)=some .globalImplicit)
  (hnd:(sc.names.map (·.1)).Nodup) (hi:(sc.names.map (·.1))[i]? =some nm) (hk:sc.names.lookup nm=some .local) (hsw:∀ env,swapsWith (.Call (.Name "DutchPorterStemmer" cnp) [] [] cp) (some (.Name nm np)) ap.line env=pure false)
  (c:Cx) (O:c.Ok sc (d+1)) (hs:c.slf=false) (hx:c.exc=true) (loc:Loc) (s:Shared) (v:SV) (S:St c loc [] s) (h:∃ p,G (loc.set i (some .self)) at6=some (.ret (.s v),p)):
  wpAny (model pw c.w) c.A (execs (.Assign [.Name nm np] (.Call (.Name "DutchPorterStemmer" cnp) [] [] cp) ap::rest) c.env) (fun fl s'=>(∃ w,fl= .ret w∧SRel v w)∧St c [] [] s') (fun _ _=>False) s:=by
 obtain⟨⟨loc',at'⟩,h⟩:=h
 refine wpAny_execs_cons (wpAny_Assign_Name (ctor_ok hf hF O hs hx hcls S fun X D s₁ S1 hD=> ?_) (hsw _))
 have O1:=ws_ok O hx X D
 exact storeName_ok O1 S1 hnd hi hk (mv:=.self) ⟨X,rfl,rfl⟩ fun s₂ P₂=>hG.use O1 P₂.1 h (fun fl s₃ hfl P₃=>⟨hfl,ws_back hs hD P₃.1⟩) fun k e s₃ ho=>nomatch ho
theorem B_law {np cnp cp ap fnp fcp rp ip:Pos} {nm fn:Str} {arg cond:Expr} {s1 s3:Stmt} {rest:List Stmt} {F1 F3 G:SF} {fc:CF} {fa:AF} {F:List MV→At→Option (MV×At)} {FX:List MV→Option MV} {f:Addr} (i:Nat) (hf:FnOk 35 d F) (hF:F [.self] []=some (.s .none,at6)) (hG:SoundB sc (d+1) rest G)
  (h1:SoundS sc (d+1) s1 F1) (hc:SoundC sc (d+1) cond fc) (ha:SoundA sc (d+1) [arg] fa) (hne:∀ env,∃ t r,starEach [arg] env=(false,t)::r) (hX:FnOkX f (d+1) FX) (hfn:sc.names.lookup fn=some .globalImplicit) (hd:(fn==("__debug__":Str))=false) (hg:∀ P,nsIn (KV P) mainGlobals fn=some (some (.ref f))) (hkp:∀ P,keepIn (KV P) (.ref f)=true)
  (h3:SoundS sc (d+1) s3 F3) (hcls:sc.names.lookup ("DutchPorterStemmer":Str)=some .globalImplicit)
  (hnd:(sc.names.map (·.1)).Nodup) (hi:(sc.names.map (·.1))[i]? =some nm) (hk:sc.names.lookup nm=some .local) (hsw:∀ env,swapsWith (.Call (.Name "DutchPorterStemmer" cnp) [] [] cp) (some (.Name nm np)) ap.line env=pure false)
  (c:Cx) (O:c.Ok sc (d+1)) (hs:c.slf=false) (hx:c.exc=true) (loc:Loc) (s:Shared) (v:SV) (S:St c loc [] s)
  (h:∃ loc1 b,F1 loc []=some (.nxt,loc1,[])∧fc loc1 []=some (b,[])∧(if b then ∃ xs,fa loc1 []=some (xs,[])∧FX xs=some (.s v) else ∃ loc3,F3 loc1 []=some (.nxt,loc3,[])∧∃ p,G (loc3.set i (some .self)) at6=some (.ret (.s v),p))):
  wpAny (model pw c.w) c.A (execs (s1:: .If cond [.Return (some (.Call (.Name fn fnp) [arg] [] fcp)) rp] [] ip::s3:: .Assign [.Name nm np] (.Call (.Name "DutchPorterStemmer" cnp) [] [] cp) ap::rest) c.env) (fun fl s'=>(∃ w,fl= .ret w∧SRel v w)∧St c [] [] s') (fun _ _=>False) s:=by
 obtain⟨loc1,b,e1,e2,h⟩:=h
 refine wpAny_execs_cons (h1.use O S e1 (fun fl s₁ hfl P₁=> ?_) fun k e s₁ ho=>nomatch ho)
 rw[show fl= .next from hfl]
 refine wpAny_execs_cons (wpAny_If (hc.use O P₁.1 e2 fun s₂ P₂=> ?_))
 cases b with
 |true=>
  obtain⟨xs,e3,e4⟩:=h
  refine wpAny_execs_cons (wpAny_Return_some (wpAny_Call_NameR (name_glob O P₂.1 hfn hd (hg _) ?_)))
  obtain⟨t,rr,he'⟩:=hne c.env
  have hxa:=ha.2 c O fcp loc1 [] s₂ _ _ (fun _ _=>False) P₂.1 e3
  have hp:=ha.1 c.env
  rw[he'] at hxa hp ⊢
  exact callWith_of (by rw[backTo_any,hp];rfl) (keeps_K (hkp c.w.params)) (evalArgs_plain (wpAny_mono hxa (fun vs s₃ x=>⟨x.2.1.K O,wpAny_call (hX c sc O hs hx loc1 s₃ xs vs _ _ x.2.1 x.1 e4 fun w s₄ hw P₄=>⟨⟨w,rfl,hw⟩,P₄.1.noloc⟩)⟩) fun _ _ x=>x))
 |false=>
  obtain⟨loc3,e3,h⟩:=h
  refine wpAny_execs_nil (wpAny_execs_cons (h3.use O P₂.1 e3 (fun fl s₃ hfl P₃=> ?_) fun k e s₁ ho=>nomatch ho))
  rw[show fl= .next from hfl]
  exact B_ctor i hf hF hG hcls hnd hi hk hsw c O hs hx loc3 s₃ v P₃.1 h
end
end
section
noncomputable abbrev PH (sc:Scope) (d:Nat) (b:List Stmt):={ G:SF // HB sc d b G }
noncomputable def dictKV:Stmt→List (Expr×Expr)
 | .FunctionDef _ _ [.Return (some (.Dict ks vs _)) _] _ _ _ _ _ _ _=>(ks.filterMap id).zip vs
 |_=>[]
noncomputable def bareKV:List (Str×Str):=[("á","a"),("ä","a"),("é","e"),("ë","e"),("í","i"),("ï","i"),("ó","o"),("ö","o"),("ú","u"),("ü","u"),("I","i"),("Y","y")]
noncomputable def signsL:List Nat:=(Str.ofString "enatirdoslgvhkmubpwjzcfxyqèáäéëíïóöúüAÉê'-IY").cps.toList
theorem HE_signs {sc:Scope} {d:Nat} {pos:Pos} (hk:sc.names.lookup ("_law_signs":Str)=some .globalImplicit):HE sc d (.Name "_law_signs" pos) (fun _ at_=>some (.s (.str signsL),at_)):=
 ⟨E_gstr hk (by decide) (fun P=>⟨1178,by kernel_rfl⟩)⟩
end
section
noncomputable abbrev sc470:Scope:=fnScope (tS 13)
noncomputable def pk470 (d:Nat):PH sc470 d (fnBody (tS 13)):=⟨_,(HB_cons (HS_ret (HE_strs ["s","en","e","heid","end","ing","ig","lijk","baar","bar"] (by kernel_rfl) (by decide)))
 HB_nil)⟩
noncomputable def G470:SF:=(pk470 0).1
theorem fn470 {d:Nat}:FnOk 470 (d+1) (runBody 0 0 G470):=
 fnH_of_body (fd:=fdM "_law_endings" "_law_endings" (tS 13) (.str "law_is0013_01" 1176) (.ref 469)) (ps:=[]) (pk470 d).2 (by intro P;kernel_rfl) (by intro P;kernel_rfl) (by rfl) (by rfl) (by rfl) (len0 rfl) (by rfl) (by kernel_rfl) (by decide+kernel) (by kernel_rfl) (by kernel_rfl) (by kernel_rfl) (by kernel_rfl) (by kernel_rfl)
end
section
noncomputable abbrev sc477:Scope:=fnScope (tS 14)
noncomputable def pk477 (d:Nat):PH sc477 d (fnBody (tS 14)):=⟨_,(HB_cons (HS_ret (HE_strs ["ss","en","ss","se","e","s","es","te","ns","ie","ee","r","an","oe"] (by kernel_rfl) (by decide)))
 HB_nil)⟩
noncomputable def G477:SF:=(pk477 0).1
theorem fn477 {d:Nat}:FnOk 477 (d+1) (runBody 0 0 G477):=
 fnH_of_body (fd:=fdM "_law_ends" "_law_ends" (tS 14) (.str "law_is0013_01" 1176) (.ref 476)) (ps:=[]) (pk477 d).2 (by intro P;kernel_rfl) (by intro P;kernel_rfl) (by rfl) (by rfl) (by rfl) (len0 rfl) (by rfl) (by kernel_rfl) (by decide+kernel) (by kernel_rfl) (by kernel_rfl) (by kernel_rfl) (by kernel_rfl) (by kernel_rfl)
end
section
noncomputable abbrev sc484:Scope:=fnScope (tS 15)
noncomputable def pk484 (d:Nat):PH sc484 d (fnBody (tS 15)):=⟨_,(HB_cons (HS_ret (HE_dict (dictKV (tS 15)) bareKV (by kernel_rfl) (by intro env;kernel_rfl) (by decide) (by decide) (by decide+kernel)))
 HB_nil)⟩
noncomputable def G484:SF:=(pk484 0).1
theorem fn484 {d:Nat}:FnOk 484 (d+1) (runBody 0 0 G484):=
 fnH_of_body (fd:=fdM "_law_bare" "_law_bare" (tS 15) (.str "law_is0013_01" 1176) (.ref 483)) (ps:=[]) (pk484 d).2 (by intro P;kernel_rfl) (by intro P;kernel_rfl) (by rfl) (by rfl) (by rfl) (len0 rfl) (by rfl) (by kernel_rfl) (by decide+kernel) (by kernel_rfl) (by kernel_rfl) (by kernel_rfl) (by kernel_rfl) (by kernel_rfl)
end
section
noncomputable abbrev sc491:Scope:=fnScope (tS 16)
noncomputable def pk491 (d:Nat):PH sc491 d (fnBody (tS 16)):=⟨_,(HB_cons (HS_ret (HE_strs ["a","e","i","o","u","y","è"] (by kernel_rfl) (by decide)))
 HB_nil)⟩
noncomputable def G491:SF:=(pk491 0).1
theorem fn491 {d:Nat}:FnOk 491 (d+1) (runBody 0 0 G491):=
 fnH_of_body (fd:=fdM "_law_vowels" "_law_vowels" (tS 16) (.str "law_is0013_01" 1176) (.ref 490)) (ps:=[]) (pk491 d).2 (by intro P;kernel_rfl) (by intro P;kernel_rfl) (by rfl) (by rfl) (by rfl) (len0 rfl) (by rfl) (by kernel_rfl) (by decide+kernel) (by kernel_rfl) (by kernel_rfl) (by kernel_rfl) (by kernel_rfl) (by kernel_rfl)
end
section
noncomputable abbrev sc496:Scope:=fnScope (tS 17)
noncomputable def pk496 (d:Nat):PH sc496 (d+1) (fnBody (tS 17)):=⟨_,(HB_cons (HS_ret (HE_join HE_str (HE_comp0 [.no,.item,.no] (HI_val (hL 0)) (HE_ifexp (HC_in2 false (hL 1) (HE_fn0 fn484 (by kernel_rfl) (by decide) (by intro P;kernel_rfl) (by intro P;kernel_rfl))) (HE_idxD (HE_fn0 fn484 (by kernel_rfl) (by decide) (by intro P;kernel_rfl) (by intro P;kernel_rfl)) (hL 1)) (hL 1)) (by kernel_rfl) (by kernel_rfl) (by kernel_rfl) (by kernel_rfl) (by kernel_rfl)) (by intro _;rfl) (by intro _;rfl)))
 HB_nil)⟩
noncomputable def G496:SF:=(pk496 0).1
theorem fn496 {d:Nat}:FnOk 496 ((d+1)+1) (runBody 1 0 G496):=
 fnH_of_body (fd:=fdM "_law_small" "_law_small" (tS 17) (.str "law_is0013_01" 1176) (.ref 495)) (ps:=["word"]) (pk496 d).2 (by intro P;kernel_rfl) (by intro P;kernel_rfl) (by rfl) (by rfl) (by rfl) (len1 fun _=>rfl) (by rfl) (by kernel_rfl) (by decide+kernel) (by kernel_rfl) (by kernel_rfl) (by kernel_rfl) (by kernel_rfl) (by kernel_rfl)
end
section
noncomputable abbrev sc503:Scope:=fnScope (tS 18)
noncomputable def pk503 (d:Nat):PH sc503 (d+1) (fnBody (tS 18)):=⟨_,(HB_cons (HS_assign 2 HE_str (by decide+kernel) (by kernel_rfl) (by kernel_rfl))
 (HB_cons (HS_for 3 (HI_val (hL 0)) (HB_cons (HS_assign 4 (HE_idx (HE_fn0 fn470 (by kernel_rfl) (by decide) (by intro P;kernel_rfl) (by intro P;kernel_rfl)) (HE_bin (hL 3) HE_int)) (by decide+kernel) (by kernel_rfl) (by kernel_rfl))
 (HB_cons (HS_if (HC_and (HC_cmp (HE_bin (HE_len (HA_cons (hL 2) HA_nil) (hk:=(by kernel_rfl))) (HE_len (HA_cons (hL 4) HA_nil) (hk:=(by kernel_rfl)))) (hL 1)) (HC_not (HC_and (HC_val (HE_ends (hL 2) HE_str (by intro _;rfl) (by intro _;rfl))) (HC_in2 false (hL 4) (HE_strs ["s","en","e","ig"] (by kernel_rfl) (by decide)))))) (HB_cons (HS_assign 2 (HE_bin (hL 2) (hL 4)) (by decide+kernel) (by kernel_rfl) (by kernel_rfl))
 HB_nil) HB_nil)
 HB_nil)) (by decide+kernel) (by kernel_rfl) (by kernel_rfl))
 (HB_cons (HS_ret (hL 2))
 HB_nil)))⟩
noncomputable def G503:SF:=(pk503 0).1
theorem fn503 {d:Nat}:FnOk 503 ((d+1)+1) (runBody 2 5 G503):=
 fnH_of_body (fd:=fdM "_law_pile" "_law_pile" (tS 18) (.str "law_is0013_01" 1176) (.ref 502)) (ps:=["numbers","most"]) (pk503 d).2 (by intro P;kernel_rfl) (by intro P;kernel_rfl) (by rfl) (by rfl) (by rfl) (len2 fun _ _=>rfl) (by rfl) (by kernel_rfl) (by decide+kernel) (by kernel_rfl) (by kernel_rfl) (by kernel_rfl) (by kernel_rfl) (by kernel_rfl)
end
section
noncomputable abbrev sc525:Scope:=fnScope (tS 22)
noncomputable def pk525 (d:Nat):PH sc525 (d+1) (fnBody (tS 22)):=⟨_,(HB_cons (HS_assign 1 (HE_join HE_str (HE_comp0 [.no,.item,.no] (HI_val (HE_sliceL (hL 0) HP_none (HP_some HE_int))) (HE_idx (HE_signs (by kernel_rfl)) (HE_bin (hL 1) HE_int)) (by kernel_rfl) (by kernel_rfl) (by kernel_rfl) (by kernel_rfl) (by kernel_rfl)) (by intro _;rfl) (by intro _;rfl)) (by decide+kernel) (by kernel_rfl) (by kernel_rfl))
 (HB_cons (HS_if (HC_cmp (HE_len (HA_cons (hL 0) HA_nil) (hk:=(by kernel_rfl))) HE_int) (HB_cons (HS_ret (hL 1))
 HB_nil) HB_nil)
 (HB_cons (HS_assign 2 (HE_bin (HE_idx (hL 0) HE_int) HE_int) (by decide+kernel) (by kernel_rfl) (by kernel_rfl))
 (HB_cons (HS_ret (HE_bin (hL 1) (HE_ifexp (HC_cmp (hL 2) HE_int) (HE_idx (HE_fn0 fn477 (by kernel_rfl) (by decide) (by intro P;kernel_rfl) (by intro P;kernel_rfl)) (HE_bin (hL 2) HE_int)) (HE_join HE_str (HE_comp0 [.no,.item,.no] (HI_val (HE_sliceL (hL 0) (HP_some HE_int) (HP_some HE_int))) (HE_idx (HE_signs (by kernel_rfl)) (HE_bin (hL 1) HE_int)) (by kernel_rfl) (by kernel_rfl) (by kernel_rfl) (by kernel_rfl) (by kernel_rfl)) (by intro _;rfl) (by intro _;rfl)))))
 HB_nil))))⟩
noncomputable def G525:SF:=(pk525 0).1
theorem fn525 {d:Nat}:FnOk 525 ((d+1)+1) (runBody 1 4 G525):=
 fnH_of_body (fd:=fdM "_law_short" "_law_short" (tS 22) (.str "law_is0013_01" 1176) (.ref 524)) (ps:=["numbers"]) (pk525 d).2 (by intro P;kernel_rfl) (by intro P;kernel_rfl) (by rfl) (by rfl) (by rfl) (len1 fun _=>rfl) (by rfl) (by kernel_rfl) (by decide+kernel) (by kernel_rfl) (by kernel_rfl) (by kernel_rfl) (by kernel_rfl) (by kernel_rfl)
end
section
noncomputable abbrev sc532:Scope:=fnScope (tS 23)
noncomputable def pk532 (d:Nat):PH sc532 (d+1) (fnBody (tS 23)):=⟨_,(HB_cons (HS_if (HC_or (HC_cmp (HE_len (HA_cons (hL 0) HA_nil) (hk:=(by kernel_rfl))) HE_int) (HC_not (HC_val (HE_ends (hL 0) HE_str (by intro _;rfl) (by intro _;rfl))))) (HB_cons (HS_ret HE_bool)
 HB_nil) HB_nil)
 (HB_cons (HS_assign 1 (HE_and (HE_in2 false (HE_idx (hL 0) HE_int) (HE_fn0 fn491 (by kernel_rfl) (by decide) (by intro P;kernel_rfl) (by intro P;kernel_rfl))) (HE_cmp (HE_idx (hL 0) HE_int) HE_str)) (by decide+kernel) (by kernel_rfl) (by kernel_rfl))
 (HB_cons (HS_assign 2 (HE_and (HE_in2 false (HE_idx (hL 0) HE_int) (HE_fn0 fn491 (by kernel_rfl) (by decide) (by intro P;kernel_rfl) (by intro P;kernel_rfl))) (HE_not (HE_and (hL 1) (HE_or (HE_cmp (HE_idx (hL 0) HE_int) HE_str) (HE_and (HE_cmp (HE_idx (hL 0) HE_int) HE_str) (HE_in2 false (HE_idx (hL 0) HE_int) (HE_fn0 fn491 (by kernel_rfl) (by decide) (by intro P;kernel_rfl) (by intro P;kernel_rfl)))))))) (by decide+kernel) (by kernel_rfl) (by kernel_rfl))
 (HB_cons (HS_assign 3 (HE_or (HE_and (HE_in2 true (HE_idx (hL 0) HE_int) (HE_fn0 fn491 (by kernel_rfl) (by decide) (by intro P;kernel_rfl) (by intro P;kernel_rfl))) (HE_cmp (HE_idx (hL 0) HE_int) HE_str)) (HE_and (HE_cmp (HE_idx (hL 0) HE_int) HE_str) (hL 2))) (by decide+kernel) (by kernel_rfl) (by kernel_rfl))
 (HB_cons (HS_ret (HE_and (hL 3) (HE_or (hL 1) (hL 2))))
 HB_nil)))))⟩
noncomputable def G532:SF:=(pk532 0).1
theorem fn532 {d:Nat}:FnOk 532 ((d+1)+1) (runBody 1 5 G532):=
 fnH_of_body (fd:=fdM "_law_turns" "_law_turns" (tS 23) (.str "law_is0013_01" 1176) (.ref 531)) (ps:=["word"]) (pk532 d).2 (by intro P;kernel_rfl) (by intro P;kernel_rfl) (by rfl) (by rfl) (by rfl) (len1 fun _=>rfl) (by rfl) (by kernel_rfl) (by decide+kernel) (by kernel_rfl) (by kernel_rfl) (by kernel_rfl) (by kernel_rfl) (by kernel_rfl)
end
section
noncomputable abbrev sc508:Scope:=fnScope (tS 19)
noncomputable def pk508 (d:Nat):PH sc508 d (fnBody (tS 19)):=⟨_,(HB_cons (HS_comp0 [.no,.item,.no,.out 0] (HI_range (HA_cons HE_int HA_nil) (hk:=(by kernel_rfl))) (HE_ifexp (HC_cmp (hL 1) (HE_len (HA_cons (HE_loc 3 (by kernel_rfl) (hk:=.inr (.inl (by kernel_rfl)))) HA_nil) (hk:=(by kernel_rfl)))) (HE_idx (HE_loc 3 (by kernel_rfl) (hk:=.inr (.inl (by kernel_rfl)))) (hL 1)) HE_int) (by kernel_rfl) (by kernel_rfl) (by kernel_rfl) (by kernel_rfl) (by kernel_rfl) 1 (by decide+kernel) (by kernel_rfl) (by kernel_rfl) (by kernel_rfl))
 (HB_cons (HS_assign 2 (HE_bin (HE_idx HE_str (HE_bin (HE_idx (hL 1) HE_int) HE_int)) (HE_idx HE_str (HE_bin (HE_idx (hL 1) HE_int) HE_int))) (by decide+kernel) (by kernel_rfl) (by kernel_rfl))
 (HB_cons (HS_ret (HE_bin (HE_bin (hL 2) (HE_idx HE_str (HE_bin (HE_idx (hL 1) HE_int) HE_int))) (HE_idx HE_str (HE_bin (HE_idx (hL 1) HE_int) HE_int))))
 HB_nil)))⟩
noncomputable def G508:SF:=(pk508 0).1
theorem fn508 {d:Nat}:FnOk 508 (d+1) (runBody 1 3 G508):=
 fnH_of_bodyC (fd:=fdM "_law_root" "_law_root" (tS 19) (.str "law_is0013_01" 1176) (.ref 507)) (ps:=["numbers"]) (pk508 d).2 (by intro P;kernel_rfl) (by intro P;kernel_rfl) (by rfl) (by rfl) (by rfl) (len1 fun _=>rfl) (by rfl) (by kernel_rfl) (by decide+kernel) (by kernel_rfl) (by rfl) (by kernel_rfl) (by kernel_rfl) (by kernel_rfl)
end
section
noncomputable abbrev sc520:Scope:=fnScope (tS 21)
noncomputable def pk520 (d:Nat):PH sc520 d (fnBody (tS 21)):=⟨_,(HB_cons (HS_assign 2 (HE_max (HA_cons (HE_comp1 [.no,.item,.no,.out 1,.out 0] (HI_range (HA_cons (HE_bin (HE_len (HA_cons (HE_loc 0 (by kernel_rfl) (hk:=.inr (.inl (by kernel_rfl)))) HA_nil) (hk:=(by kernel_rfl))) HE_int) HA_nil) (hk:=(by kernel_rfl))) (hL 1) (HC_in2 false (HE_slice (HE_loc 4 (by kernel_rfl) (hk:=.inr (.inl (by kernel_rfl)))) (HP_some (HE_bin (HE_len (HA_cons (HE_loc 4 (by kernel_rfl) (hk:=.inr (.inl (by kernel_rfl)))) HA_nil) (hk:=(by kernel_rfl))) (hL 1))) HP_none) (HE_loc 3 (by kernel_rfl) (hk:=.inr (.inl (by kernel_rfl))))) (by kernel_rfl) (by kernel_rfl) (by kernel_rfl) (by kernel_rfl) (by kernel_rfl)) HA_nil) (hk:=(by kernel_rfl))) (by decide+kernel) (by kernel_rfl) (by kernel_rfl))
 (HB_cons (HS_assign 3 (HE_slice (HE_loc 0 (by kernel_rfl) (hk:=.inr (.inl (by kernel_rfl)))) HP_none (HP_some (HE_bin (HE_len (HA_cons (HE_loc 0 (by kernel_rfl) (hk:=.inr (.inl (by kernel_rfl)))) HA_nil) (hk:=(by kernel_rfl))) (hL 2)))) (by decide+kernel) (by kernel_rfl) (by kernel_rfl))
 (HB_cons (HS_ret (HE_ifexp (HC_val (HE_ends (hL 3) HE_str (by intro _;rfl) (by intro _;rfl))) (HE_bin (HE_slice (hL 3) HP_none (HP_some (HE_bin (HE_len (HA_cons (hL 3) HA_nil) (hk:=(by kernel_rfl))) HE_int))) HE_str) (hL 3)))
 HB_nil)))⟩
noncomputable def G520:SF:=(pk520 0).1
theorem fn520 {d:Nat}:FnOk 520 (d+1) (runBody 2 5 G520):=
 fnH_of_bodyC (fd:=fdM "_law_left" "_law_left" (tS 21) (.str "law_is0013_01" 1176) (.ref 519)) (ps:=["pile","joined"]) (pk520 d).2 (by intro P;kernel_rfl) (by intro P;kernel_rfl) (by rfl) (by rfl) (by rfl) (len2 fun _ _=>rfl) (by rfl) (by kernel_rfl) (by decide+kernel) (by kernel_rfl) (by rfl) (by kernel_rfl) (by kernel_rfl) (by kernel_rfl)
end
namespace Pl
noncomputable def vowN (x:Nat):Bool:=x==97||x==101||x==105||x==111||x==117||x==121||x==232
noncomputable def vowIN (x:Nat):Bool:=x==73||vowN x
noncomputable def vowJN (x:Nat):Bool:=x==106||vowN x
noncomputable def bareN (x:Nat):Nat:=if x==225||x==228 then 97 else if x==233||x==235 then 101 else if x==237||x==239 then 105 else if x==243||x==246 then 111 else if x==250||x==252 then 117 else x
noncomputable def lowN (x:Nat):Nat:=if x==73 then 105 else if x==89 then 121 else x
noncomputable def smallN (x:Nat):Nat:=lowN (bareN x)
noncomputable def mkf:Bool→List Nat→List Nat
 |_,[]=>[]
 |false,x::r=>x::mkf (vowN x) r
 |true,x::r=>if x==105 then (if (match r with |z::_=>vowN z | []=>false) then 73 else 105)::mkf false r
   else if x==121 then 89::mkf false r
   else x::mkf (vowN x) r
noncomputable def markW (l:List Nat):List Nat:=match l with
 | []=>[]
 |x::r=>if x==121 then 89::mkf false r else mkf false (x::r)
noncomputable def preW (w:List Nat):List Nat:=markW (w.map bareN)
noncomputable def vcEnd:Bool→Nat→List Nat→Option (Nat×List Nat)
 |_,_,[]=>none
 |false,i,x::r=>vcEnd (vowN x) (i+1) r
 |true,i,x::r=>if vowN x then vcEnd true (i+1) r else some (i+1,r)
noncomputable def regions (P:List Nat):Nat×Nat:=if P.length<3 then (P.length,P.length) else match vcEnd false 0 P with
 |none=>(P.length,P.length)
 |some (i,r)=>(max i 3,match vcEnd false i r with |none=>P.length |some (j,_)=>j)
noncomputable def hd (p:Nat→Bool):List Nat→Bool
 | []=>false
 |x::_=>p x
noncomputable def pick {α:Type} (d:α) (f:Int→List Nat→α) (r:List Nat):List (List Nat×Int)→α
 | []=>d
 |p::rs=>match p.1.isPrefixOf r with
  |true=>f p.2 (r.drop p.1.length)
  |false=>pick d f r rs
noncomputable def rs2:List (List Nat×Int):=[([100,100], -1),([107,107], -1),([116,116], -1)]
noncomputable def rs3:List (List Nat×Int):=[([101,110,101],2),([101,115],3),([110,101,100,101,104],1),([110,101],2),([115],3)]
noncomputable def rs4:List (List Nat×Int):=[([100,110,101],1),([103,110,105],1),([103,105],2),([107,106,105,108],3),([114,97,97,98],4),([114,97,98],5)]
theorem pick_end {α:Type} {d:α} {f:Int→List Nat→α} {r:List Nat} {M:α→Prop} (h:M d):M (pick d f r []):=h
theorem pick_row {α:Type} {d:α} {f:Int→List Nat→α} {r s:List Nat} {n:Int} {rs:List (List Nat×Int)} {M:α→Prop} (h:∀ t,r=s++t→M (f n t)) (g:s.isPrefixOf r=false→M (pick d f r rs)):M (pick d f r ((s,n)::rs)):=by
 show M (match s.isPrefixOf r with |true=>f n (r.drop s.length) |false=>pick d f r rs)
 cases q:s.isPrefixOf r with
 |false=>exact g q
 |true=>
  obtain⟨t,e⟩:=List.isPrefixOf_iff_prefix.mp q
  have e2:r.drop s.length=t:=by rw[←e,List.drop_left]
  rw[e2]
  exact h t e.symm
theorem pick_all {α:Type} {d:α} {f:Int→List Nat→α} {r:List Nat} {M:α→Prop}:∀ {rs:List (List Nat×Int)},(∀ p∈rs,∀ t,r=p.1++t→M (f p.2 t))→M d→M (pick d f r rs):=by
 intro rs
 induction rs with
 |nil=>exact fun _ h=>h
 |cons p rs ih=>exact fun h h0=>pick_row (h p (.head _)) fun _=>ih (fun q hq=>h q (.tail _ hq)) h0
noncomputable def undR (r:List Nat):List Nat:=pick r (fun _ _=>r.tail) r rs2
noncomputable def gemR (r:List Nat):Bool:=([109,101,103]:List Nat).isPrefixOf r
noncomputable def enR (p1:Nat) (t:List Nat):Option (List Nat):=if decide (p1≤t.length)&&hd (fun x=> !vowN x) t&& !gemR t then some (undR t) else none
noncomputable def act1 (p1:Nat) (r:List Nat) (n:Int) (t:List Nat):List Nat:=if n=2 then (enR p1 t).getD r else if n=3 then (if decide (p1≤t.length)&&hd (fun x=> !vowJN x) t then t else r) else if p1≤t.length then 100::105::101::104::t else r
noncomputable def st1 (p1:Nat) (r:List Nat):List Nat:=pick r (act1 p1 r) r rs3
noncomputable def eR (p1:Nat) (r:List Nat):List Nat×Bool:=match r with
 | []=>([],false)
 |x::t=>if x=101 then (if decide (p1≤t.length)&&hd (fun x=> !vowN x) t then (undR t,true) else (x::t,false)) else (x::t,false)
theorem eR_not {p1 x:Nat} {t:List Nat} (h:x≠101):eR p1 (x::t)=(x::t,false):=by
 show (if x=101 then _ else _)=_
 rw[if_neg h]
noncomputable def enAfter (p1:Nat) (t:List Nat):List Nat:=pick t (fun _ u=>(enR p1 u).getD t) t [([110,101],0)]
noncomputable def st3 (p1 p2:Nat) (r:List Nat):List Nat:=pick r (fun _ t=>if decide (p2≤t.length)&& !hd (fun x=>x==99) t then enAfter p1 t else r) r [([100,105,101,104],0)]
noncomputable def igR (p2:Nat) (t:List Nat):List Nat:=pick (undR t) (fun _ u=>if decide (p2≤u.length)&& !hd (fun x=>x==101) u then u else undR t) t [([103,105],0)]
noncomputable def act4 (p1 p2:Nat) (ef:Bool) (r:List Nat) (n:Int) (t:List Nat):List Nat:=if n=1 then (if p2≤t.length then igR p2 t else r) else if n=2 then (if decide (p2≤t.length)&& !hd (fun x=>x==101) t then t else r) else if n=3 then (if p2≤t.length then (eR p1 t).1 else r) else if n=4 then (if p2≤t.length then t else r) else if decide (p2≤t.length)&&ef then t else r
noncomputable def st4 (p1 p2:Nat) (ef:Bool) (r:List Nat):List Nat:=pick r (act4 p1 p2 ef r) r rs4
noncomputable def st5 (r:List Nat):List Nat:=match r with
 |c::v::v'::u=>if !vowIN c&&v==v'&&(v==97||v==101||v==111||v==117)&&hd (fun x=> !vowN x) u then c::v::u else r
 |r=>r
noncomputable def stepsR (p1 p2:Nat) (r:List Nat):List Nat:=
 let r1:=st1 p1 r
 let q:=eR p1 r1
 st5 (st4 p1 p2 q.2 (st3 p1 p2 q.1))
noncomputable def stemW (w:List Nat):List Nat:=
 let P:=preW w
 let g:=regions P
 ((stepsR g.1 g.2 P.reverse).reverse).map lowN
end Pl
namespace Pl
inductive Pc where
 |s |en |e |heid |fin |ing |ig |lijk |baar |bar
noncomputable def pcR:Pc→List Nat
 | .s=>[115] | .en=>[110,101] | .e=>[101] | .heid=>[100,105,101,104] | .fin=>[100,110,101] | .ing=>[103,110,105] | .ig=>[103,105] | .lijk=>[107,106,105,108] | .baar=>[114,97,97,98] | .bar=>[114,97,98]
noncomputable def flat:List Pc→List Nat
 | []=>[]
 |p::t=>pcR p++flat t
noncomputable def clash:Pc→Bool
 | .s | .en | .e | .ig=>true
 |_=>false
noncomputable def hdE:List Pc→Bool
 | .e::_=>true
 |_=>false
noncomputable def good:List Pc→Bool
 | []=>true
 |p::t=> !(clash p&&hdE t)&&good t
noncomputable def q1 (l:List Pc):List Pc:=match l with
 | .e:: .s::t=>t
 | .e:: .en::t=>t
 | .en::t=>t
 | .s::t=>t
 |l=>l
noncomputable def q2 (l:List Pc):List Pc×Bool:=match l with
 | .e::t=>(t,true)
 |l=>(l,false)
noncomputable def q3 (l:List Pc):List Pc:=match l with
 | .heid:: .en::t=>t
 | .heid::t=>t
 |l=>l
noncomputable def q4 (ef:Bool) (l:List Pc):List Pc:=match l with
 | .fin:: .ig::t=>t
 | .ing:: .ig::t=>t
 | .fin::t=>t
 | .ing::t=>t
 | .ig::t=>t
 | .lijk:: .e::t=>t
 | .lijk::t=>t
 | .baar::t=>t
 | .bar::t=>if ef then t else .bar::t
 |l=>l
noncomputable def q5 (l:List Pc):List Pc:=match l with
 | .baar::t=>.bar::t
 |l=>l
noncomputable def qz (l:List Pc):List Pc:=let q:=q2 (q1 l);q4 q.2 (q3 q.1)
noncomputable def qs (l:List Pc):List Pc:=q5 (qz l)
noncomputable def rootC (c:Nat):Bool:=[98,102,104,108,112,116,118,119,120,122].contains c
noncomputable def rootV (v:Nat):Bool:=[97,101,105,111,117,232].contains v
noncomputable def rootK (k:Nat):Bool:=[98,99,100,102,103,104,106,107,108,109,110,112,113,114,115,116,118,119,120,122].contains k
structure IsB (B:List Nat):Prop where
 ex:∃ c v k w F,B=c::v::k::w::F∧rootC c=true∧rootV v=true∧rootK k=true∧rootV w=true
theorem all_dec {P:Nat→Prop} {l:List Nat} {c:Nat} (hc:l.contains c=true) (h:∀ x∈l,P x):P c:=h c (List.contains_iff_mem.mp hc)
@[elab_as_elim] theorem rootC_ind {M:Nat→Prop} {c:Nat} (h:rootC c=true) (a1:M 98) (a2:M 102) (a3:M 104) (a4:M 108) (a5:M 112) (a6:M 116) (a7:M 118) (a8:M 119) (a9:M 120) (a0:M 122):M c:=by
 refine all_dec h ?_
 simp[a1,a2,a3,a4,a5,a6,a7,a8,a9,a0]
@[elab_as_elim] theorem rootV_ind {M:Nat→Prop} {c:Nat} (h:rootV c=true) (a1:M 97) (a2:M 101) (a3:M 105) (a4:M 111) (a5:M 117) (a6:M 232):M c:=by
 refine all_dec h ?_
 simp[a1,a2,a3,a4,a5,a6]
theorem rootV_vow {c:Nat} (h:rootV c=true):vowN c=true:=all_dec h (P:=fun c=>vowN c=true) (by decide)
theorem rootK_vow {c:Nat} (h:rootK c=true):vowN c=false:=all_dec h (P:=fun c=>vowN c=false) (by decide)
theorem rootC_vow {c:Nat} (h:rootC c=true):vowN c=false:=all_dec h (P:=fun c=>vowN c=false) (by decide)
section
variable {B:List Nat}
theorem ahead (hB:IsB B) {t:List Pc} (h:hdE t=false):hd (fun x=> !vowN x) (flat t++B)=true∧hd (fun x=> !vowJN x) (flat t++B)=true∧hd (fun x=>x==101) (flat t++B)=false:=by
 obtain⟨c,v,k,w,F,rfl,hc,hv,hk,hw⟩:=hB.ex
 cases t with
 |nil=>exact rootC_ind hc ⟨rfl,rfl,rfl⟩ ⟨rfl,rfl,rfl⟩ ⟨rfl,rfl,rfl⟩ ⟨rfl,rfl,rfl⟩ ⟨rfl,rfl,rfl⟩ ⟨rfl,rfl,rfl⟩ ⟨rfl,rfl,rfl⟩ ⟨rfl,rfl,rfl⟩ ⟨rfl,rfl,rfl⟩ ⟨rfl,rfl,rfl⟩
 |cons p t=>cases p<;>first |exact⟨rfl,rfl,rfl⟩ |injection h
theorem noC (hB:IsB B) (t:List Pc):hd (fun x=>x==99) (flat t++B)=false:=by
 obtain⟨c,v,k,w,F,rfl,hc,hv,hk,hw⟩:=hB.ex
 cases t with
 |nil=>exact rootC_ind hc rfl rfl rfl rfl rfl rfl rfl rfl rfl rfl
 |cons p t=>cases p<;>rfl
theorem noGem (hB:IsB B) (t:List Pc):gemR (flat t++B)=false:=by
 obtain⟨c,v,k,w,F,rfl,hc,hv,hk,hw⟩:=hB.ex
 cases t with
 |nil=>exact rootC_ind hc rfl rfl rfl rfl rfl rfl rfl rfl rfl rfl
 |cons p t=>cases p<;>rfl
theorem noUnd (hB:IsB B) (t:List Pc):undR (flat t++B)=flat t++B:=by
 obtain⟨c,v,k,w,F,rfl,hc,hv,hk,hw⟩:=hB.ex
 cases t with
 |nil=>
  exact rootC_ind hc rfl rfl rfl rfl rfl (rootV_ind hv rfl rfl rfl rfl rfl rfl) rfl rfl rfl rfl
 |cons p t=>cases p<;>rfl
theorem len_flat (t:List Pc):(flat t++B).length≥B.length:=by simp
variable {p1 p2:Nat}
theorem enR_ok (hB:IsB B) {t:List Pc} (h:hdE t=false) (hp:p1≤B.length):enR p1 (flat t++B)=some (flat t++B):=by
 unfold enR
 rw[(ahead hB h).1,noGem hB t,noUnd hB t,decide_eq_true (by have:=len_flat (B:=B) t;lia)]
 rfl
theorem good_clash {p:Pc} {t:List Pc} (h:good (p::t)=true) (hc:clash p=true):hdE t=false:=by
 unfold good at h
 rw[hc] at h
 cases q:hdE t with
 |false=>rfl
 |true=>rw[q] at h;injection h
theorem good_tail {p:Pc} {t:List Pc} (h:good (p::t)=true):good t=true:=by
 unfold good at h
 exact (Bool.and_eq_true_iff.mp h).2
theorem le_flat (t:List Pc) (hp:p1≤B.length):p1≤(flat t++B).length:=by have:=len_flat (B:=B) t;lia
theorem st1_ok (hB:IsB B) (hp:p1≤B.length) {l:List Pc} (g:good l=true):st1 p1 (flat l++B)=flat (q1 l)++B:=by
 have hsz:∀ t,hdE t=false→(if decide (p1≤(flat t++B).length)&&hd (fun x=> !vowJN x) (flat t++B) then flat t++B else 115::(flat t++B))=flat t++B:=fun t h=>by
  rw[(ahead hB h).2.1,decide_eq_true (le_flat t hp)];rfl
 have hse:∀ t,hdE t=false→(if decide (p1≤(flat t++B).length)&&hd (fun x=> !vowJN x) (flat t++B) then flat t++B else 101::115::(flat t++B))=flat t++B:=fun t h=>by
  rw[(ahead hB h).2.1,decide_eq_true (le_flat t hp)];rfl
 cases l with
 |nil=>
  obtain⟨c,v,k,w,F,rfl,hc,hv,hk,hw⟩:=hB.ex
  exact rootC_ind hc rfl rfl rfl rfl rfl rfl rfl rfl rfl rfl
 |cons p t=>
  cases p with
  |s=>exact hsz t (good_clash g rfl)
  |en=>
   have hh:=good_clash g rfl
   have e:st1 p1 (110::101::(flat t++B))=(enR p1 (flat t++B)).getD (110::101::(flat t++B)):=by
    cases t with
    |nil=>
     obtain⟨c,v,k,w,F,rfl,hc,hv,hk,hw⟩:=hB.ex
     exact rootC_ind hc rfl rfl rfl rfl rfl rfl rfl rfl rfl rfl
    |cons p u=>cases p<;>rfl
   show st1 p1 (110::101::(flat t++B))=_
   rw[e,enR_ok hB hh hp]
   rfl
  |e=>
   cases t with
   |nil=>
    obtain⟨c,v,k,w,F,rfl,hc,hv,hk,hw⟩:=hB.ex
    exact rootC_ind hc rfl rfl rfl rfl rfl rfl rfl rfl rfl rfl
   |cons p u=>
    have g':=good_tail g
    cases p with
    |s=>exact hse u (good_clash g' rfl)
    |en=>
     have hh:=good_clash g' rfl
     show (enR p1 (flat u++B)).getD (101::110::101::(flat u++B))=_
     rw[enR_ok hB hh hp]
     rfl
    |_=>rfl
  |_=>rfl
theorem eR_ok (hB:IsB B) (hp:p1≤B.length) {l:List Pc} (g:good l=true):eR p1 (flat l++B)=(flat (q2 l).1++B,(q2 l).2):=by
 cases l with
 |nil=>
  obtain⟨c,v,k,w,F,rfl,hc,hv,hk,hw⟩:=hB.ex
  exact rootC_ind hc rfl rfl rfl rfl rfl rfl rfl rfl rfl rfl
 |cons p t=>
  cases p with
  |e=>
   show (if decide (p1≤(flat t++B).length)&&hd (fun x=> !vowN x) (flat t++B) then (undR (flat t++B),true) else _)=_
   rw[(ahead hB (good_clash g rfl)).1,decide_eq_true (le_flat t hp),noUnd hB t]
   rfl
  |_=>rfl
theorem st3_ok (hB:IsB B) (hp:p1≤B.length) (hp2:p2≤B.length) {l:List Pc} (g:good l=true):st3 p1 p2 (flat l++B)=flat (q3 l)++B:=by
 cases l with
 |nil=>
  obtain⟨c,v,k,w,F,rfl,hc,hv,hk,hw⟩:=hB.ex
  exact rootC_ind hc rfl rfl rfl rfl rfl rfl rfl rfl rfl rfl
 |cons p t=>
  cases p with
  |heid=>
   show (if decide (p2≤(flat t++B).length)&& !hd (fun x=>x==99) (flat t++B) then enAfter p1 (flat t++B) else 100::105::101::104::(flat t++B))=_
   rw[noC hB t,decide_eq_true (le_flat t hp2)]
   show enAfter p1 (flat t++B)=_
   cases t with
   |nil=>
    obtain⟨c,v,k,w,F,rfl,hc,hv,hk,hw⟩:=hB.ex
    exact rootC_ind hc rfl rfl rfl rfl rfl rfl rfl rfl rfl rfl
   |cons p u=>
    have g':=good_tail g
    cases p with
    |en=>
     show (enR p1 (flat u++B)).getD _=_
     rw[enR_ok hB (good_clash g' rfl) hp]
     rfl
    |_=>rfl
  |_=>rfl
theorem igR_ok (hB:IsB B) (hp2:p2≤B.length) {t:List Pc} (g:good t=true):igR p2 (flat t++B)=flat (match t with | .ig::u=>u |t=>t)++B:=by
 have hu:=noUnd hB t
 cases t with
 |nil=>
  obtain⟨c,v,k,w,F,rfl,hc,hv,hk,hw⟩:=hB.ex
  exact (rootC_ind (M:=fun c=>igR p2 (c::v::k::w::F)=undR (c::v::k::w::F)) hc rfl rfl rfl rfl rfl rfl rfl rfl rfl rfl).trans hu
 |cons p u=>
  cases p with
  |ig=>
   show (if decide (p2≤(flat u++B).length)&& !hd (fun x=>x==101) (flat u++B) then flat u++B else _)=_
   rw[(ahead hB (good_clash g rfl)).2.2,decide_eq_true (le_flat u hp2)]
   rfl
  |_=>exact hu
theorem st4_ok (hB:IsB B) (hp:p1≤B.length) (hp2:p2≤B.length) (ef:Bool) {l:List Pc} (g:good l=true):st4 p1 p2 ef (flat l++B)=flat (q4 ef l)++B:=by
 cases l with
 |nil=>
  obtain⟨c,v,k,w,F,rfl,hc,hv,hk,hw⟩:=hB.ex
  exact rootC_ind hc rfl rfl rfl rfl rfl rfl rfl rfl rfl rfl
 |cons p t=>
  have g':=good_tail g
  cases p with
  |fin=>
   show (if p2≤(flat t++B).length then igR p2 (flat t++B) else _)=_
   rw[if_pos (le_flat t hp2),igR_ok hB hp2 g']
   cases t with
   |nil=>rfl
   |cons p u=>cases p<;>rfl
  |ing=>
   show (if p2≤(flat t++B).length then igR p2 (flat t++B) else _)=_
   rw[if_pos (le_flat t hp2),igR_ok hB hp2 g']
   cases t with
   |nil=>rfl
   |cons p u=>cases p<;>rfl
  |ig=>
   show (if decide (p2≤(flat t++B).length)&& !hd (fun x=>x==101) (flat t++B) then flat t++B else _)=_
   rw[(ahead hB (good_clash g rfl)).2.2,decide_eq_true (le_flat t hp2)]
   rfl
  |lijk=>
   show (if p2≤(flat t++B).length then (eR p1 (flat t++B)).1 else _)=_
   rw[if_pos (le_flat t hp2),eR_ok hB hp g']
   cases t with
   |nil=>rfl
   |cons p u=>cases p<;>rfl
  |baar=>
   show (if p2≤(flat t++B).length then flat t++B else _)=_
   rw[if_pos (le_flat t hp2)]
   rfl
  |bar=>
   show (if decide (p2≤(flat t++B).length)&&ef then flat t++B else _)=_
   rw[decide_eq_true (le_flat t hp2)]
   cases ef<;>rfl
  |_=>rfl
theorem st5_ok (hB:IsB B) {l:List Pc} (g:good l=true):st5 (flat l++B)=flat (q5 l)++B:=by
 obtain⟨c,v,k,w,F,rfl,hc,hv,hk,hw⟩:=hB.ex
 have hvk:(v==k)=false:=by
  have a:=rootV_vow hv
  have b:=rootK_vow hk
  cases q:v==k with
  |false=>rfl
  |true=>rw[beq_iff_eq.mp q,b] at a;cases a
 have hcv:(c==v)=false:=by
  have a:=rootV_vow hv
  have b:=rootC_vow hc
  cases q:c==v with
  |false=>rfl
  |true=>rw[←beq_iff_eq.mp q,b] at a;cases a
 cases l with
 |nil=>
  show (if !vowIN c&&v==k&&_&&_ then _ else _)=_
  rw[hvk,Bool.and_false,Bool.false_and,Bool.false_and]
  rfl
 |cons p t=>
  cases p with
  |s=>
   cases t with
   |nil=>
    show (if !vowIN 115&&c==v&&_&&_ then _ else _)=_
    rw[hcv,Bool.and_false,Bool.false_and,Bool.false_and]
    rfl
   |cons p u=>
    have hh:=good_clash g rfl
    cases p<;>first |rfl |(simp[hdE] at hh;done) |(cases u with |nil=>exact rootC_ind hc rfl rfl rfl rfl rfl rfl rfl rfl rfl rfl |cons p u=>cases p<;>rfl)
  |en=>
   have hh:=good_clash g rfl
   cases t with
   |nil=>exact rootC_ind hc rfl rfl rfl rfl rfl rfl rfl rfl rfl rfl
   |cons p u=>cases p<;>first |rfl |injection hh
  |e=>
   have key:∀ r,st5 (101::r)=101::r:=fun r=>by
    cases r with
    |nil=>rfl
    |cons v r=>cases r<;>rfl
   exact key _
  |ig=>
   have key:∀ r,st5 (103::105::r)=103::105::r:=fun r=>by
    cases r with
    |nil=>rfl
    |cons v u=>
     show (if true&&105==v&&false&&_ then _ else _)=_
     rw[Bool.and_false,Bool.false_and]
     rfl
   exact key _
  |_=>rfl
theorem good_q1 {l:List Pc} (g:good l=true):good (q1 l)=true:=by
 cases l with
 |nil=>rfl
 |cons p t=>cases p<;>first |exact g |exact good_tail g |(cases t with |nil=>rfl |cons p u=>cases p<;>first |exact g |exact good_tail (good_tail g))
theorem good_q2 {l:List Pc} (g:good l=true):good (q2 l).1=true:=by
 cases l with
 |nil=>rfl
 |cons p t=>cases p<;>first |exact g |exact good_tail g
theorem good_q3 {l:List Pc} (g:good l=true):good (q3 l)=true:=by
 cases l with
 |nil=>rfl
 |cons p t=>cases p<;>first |exact g |(cases t with |nil=>rfl |cons p u=>cases p<;>first |exact good_tail (good_tail g) |exact good_tail g)
theorem good_q4 {ef:Bool} {l:List Pc} (g:good l=true):good (q4 ef l)=true:=by
 cases l with
 |nil=>rfl
 |cons p t=>cases p<;>first |exact g |exact good_tail g |(cases ef<;>first |exact g |exact good_tail g) |(cases t with |nil=>rfl |cons p u=>cases p<;>first |exact good_tail (good_tail g) |exact good_tail g)
theorem good_q5 {l:List Pc} (g:good l=true):good (q5 l)=true:=by
 cases l with
 |nil=>rfl
 |cons p t=>
  cases p<;>first |exact g |(show good (.bar::t)=true;unfold good;rw[good_tail g];rfl)
theorem good_qz {l:List Pc} (g:good l=true):good (qz l)=true:=good_q4 (good_q3 (good_q2 (good_q1 g)))
theorem good_qs {l:List Pc} (g:good l=true):good (qs l)=true:=good_q5 (good_qz g)
theorem steps_ok (hB:IsB B) (hp:p1≤B.length) (hp2:p2≤B.length) {l:List Pc} (g:good l=true):stepsR p1 p2 (flat l++B)=flat (qs l)++B:=by
 show st5 (st4 p1 p2 (eR p1 (st1 p1 (flat l++B))).2 (st3 p1 p2 (eR p1 (st1 p1 (flat l++B))).1))=_
 rw[st1_ok hB hp g,eR_ok hB hp (good_q1 g)]
 show st5 (st4 p1 p2 (q2 (q1 l)).2 (st3 p1 p2 (flat (q2 (q1 l)).1++B)))=_
 rw[st3_ok hB hp hp2 (good_q2 (good_q1 g)),st4_ok hB hp hp2 _ (good_q3 (good_q2 (good_q1 g))),st5_ok hB (good_q4 (good_q3 (good_q2 (good_q1 g))))]
 rfl
end
end Pl
namespace Pl
noncomputable def fwd (l:List Pc):List Nat:=(flat l).reverse
noncomputable def endV:Pc→Bool | .e=>true |_=>false
noncomputable def nxV:List Nat→Bool
 |z::_=>vowN z
 | []=>false
theorem mkf_ff (x:Nat) (r:List Nat):mkf false (x::r)=x::mkf (vowN x) r:=rfl
theorem mkf_tt (x:Nat) (r:List Nat):mkf true (x::r)=if x==105 then (if nxV r then 73 else 105)::mkf false r else if x==121 then 89::mkf false r else x::mkf (vowN x) r:=by
 cases r<;>rfl
theorem mkf_low (l:List Nat):∀ b,(mkf b l).map lowN=l.map lowN:=by
 induction l with
 |nil=>intro b;cases b<;>rfl
 |cons x r ih=>
  intro b
  cases b with
  |false=>rw[mkf_ff,List.map_cons,List.map_cons,ih]
  |true=>
   rw[mkf_tt]
   by_cases h1:(x==105)=true
   ·rw[if_pos h1,List.map_cons,List.map_cons,ih,beq_iff_eq.mp h1]
    congr 1
    cases nxV r<;>rfl
   ·rw[if_neg h1]
    by_cases h2:(x==121)=true
    ·rw[if_pos h2,List.map_cons,List.map_cons,ih,beq_iff_eq.mp h2]
     rfl
    ·rw[if_neg h2,List.map_cons,List.map_cons,ih]
theorem markW_low (l:List Nat):(markW l).map lowN=l.map lowN:=by
 cases l with
 |nil=>rfl
 |cons x r=>
  unfold markW
  by_cases h:(x==121)=true
  ·simp only[h,if_true]
   rw[List.map_cons,List.map_cons,mkf_low,beq_iff_eq.mp h]
   rfl
  ·simp only[h]
   exact mkf_low _ _
theorem mkf_app (f x:List Nat):∀ b,∃ g b',mkf b (f++x)=g++mkf b' x∧g.length=f.length:=by
 induction f with
 |nil=>intro b;exact⟨[],b,rfl,rfl⟩
 |cons a r ih=>
  intro b
  rw[List.cons_append]
  cases b with
  |false=>
   obtain⟨g,b',e,h⟩:=ih (vowN a)
   exact⟨a::g,b',by rw[mkf_ff,e];rfl,by simp[h]⟩
  |true=>
   rw[mkf_tt]
   by_cases h1:(a==105)=true
   ·rw[if_pos h1]
    obtain⟨g,b',e,h⟩:=ih false
    exact⟨_::g,b',by rw[e];rfl,by simp[h]⟩
   ·rw[if_neg h1]
    by_cases h2:(a==121)=true
    ·rw[if_pos h2]
     obtain⟨g,b',e,h⟩:=ih false
     exact⟨_::g,b',by rw[e];rfl,by simp[h]⟩
    ·rw[if_neg h2]
     obtain⟨g,b',e,h⟩:=ih (vowN a)
     exact⟨_::g,b',by rw[e];rfl,by simp[h]⟩
theorem mkf_piece (p:Pc) (b:Bool) (x:List Nat):mkf b ((pcR p).reverse++x)=(pcR p).reverse++mkf (endV p) x:=by
 cases p<;>cases b<;>rfl
theorem fwd_cons (p:Pc) (l:List Pc):fwd (p::l)=fwd l++(pcR p).reverse:=by
 show (pcR p++flat l).reverse=_
 rw[List.reverse_append]
 rfl
theorem mkf_fwd (l:List Pc):∀ (b:Bool) (x:List Nat),∃ b',mkf b (fwd l++x)=fwd l++mkf b' x:=by
 induction l with
 |nil=>intro b x;exact⟨b,rfl⟩
 |cons p t ih=>
  intro b x
  rw[fwd_cons,List.append_assoc]
  obtain⟨b',e⟩:=ih b ((pcR p).reverse++x)
  exact⟨endV p,by rw[e,mkf_piece,List.append_assoc]⟩
theorem mkf_fwd0 (l:List Pc) (b:Bool):mkf b (fwd l)=fwd l:=by
 obtain⟨b',e⟩:=mkf_fwd l b []
 rw[List.append_nil] at e
 rw[e]
 cases b'<;>simp[mkf]
structure Root where
 w:Nat
 k:Nat
 v:Nat
 c:Nat
noncomputable def Root.ok (r:Root):Bool:=rootV r.w&&rootK r.k&&rootV r.v&&rootC r.c
noncomputable def Root.l (r:Root):List Nat:=[r.w,r.k,r.v,r.c]
theorem rootV_or {c:Nat} (h:rootV c=true):(c==121)=false:=by
 exact all_dec h (P:=fun c=>(c==121)=false) (by decide)
theorem rootK_iy {c:Nat} (h:rootK c=true):(c==105)=false∧(c==121)=false:=by
 exact all_dec h (P:=fun c=>(c==105)=false∧(c==121)=false) (by decide)
theorem rootC_iy {c:Nat} (h:rootC c=true):(c==105)=false∧(c==121)=false:=by
 exact all_dec h (P:=fun c=>(c==105)=false∧(c==121)=false) (by decide)
section
variable {r:Root}
theorem Root.parts (h:r.ok=true):rootV r.w=true∧rootK r.k=true∧rootV r.v=true∧rootC r.c=true:=by
 unfold Root.ok at h
 simp only[Bool.and_eq_true] at h
 exact⟨h.1.1.1,h.1.1.2,h.1.2,h.2⟩
theorem mkf_vc {w k:Nat} (hw:rootV w=true) (hk:vowN k=false) (hk2:(k==105)=false∧(k==121)=false) (b:Bool) (x:List Nat):mkf b (w::k::x)=w::k::mkf false x:=by
 have two:∀ b,mkf b (k::x)=k::mkf false x:=by
  intro b
  cases b
  ·rw[mkf_ff,hk]
  ·rw[mkf_tt,hk2.1,hk2.2,hk];rfl
 cases b
 ·rw[mkf_ff,two]
 ·rw[mkf_tt,two,two]
  by_cases h:(w==105)=true
  ·rw[if_pos h,if_neg (by show ¬vowN k=true;rw[hk];decide),beq_iff_eq.mp h]
  ·rw[if_neg h,rootV_or hw]
   rfl
theorem mkf_root (h:r.ok=true) (b:Bool) (l:List Pc):mkf b (r.l++fwd l)=r.l++fwd l:=by
 obtain⟨h1,h2,h3,h4⟩:=Root.parts h
 show mkf b (r.w::r.k::r.v::r.c::fwd l)=_
 rw[mkf_vc h1 (rootK_vow h2) (rootK_iy h2),mkf_vc h3 (rootC_vow h4) (rootC_iy h4),mkf_fwd0]
 rfl
theorem markW_word (h:r.ok=true) (f:List Nat) (l:List Pc):∃ g,markW (f++(r.l++fwd l))=g++(r.l++fwd l)∧g.length=f.length:=by
 cases f with
 |nil=>
  refine⟨[],?_,rfl⟩
  have e:=mkf_root h false l
  obtain⟨h1,_⟩:=Root.parts h
  show (if (r.w==121)=true then _ else mkf false (r.l++fwd l))=_
  rw[rootV_or h1,e]
  rfl
 |cons x f=>
  by_cases hx:(x==121)=true
  ·obtain⟨g,b',e,hg⟩:=mkf_app f (r.l++fwd l) false
   refine⟨89::g,?_,by simp[hg]⟩
   show (if (x==121)=true then 89::mkf false (f++(r.l++fwd l)) else _)=_
   rw[if_pos hx,e,mkf_root h]
   rfl
  ·obtain⟨g,b',e,hg⟩:=mkf_app (x::f) (r.l++fwd l) false
   refine⟨g,?_,hg⟩
   show (if (x==121)=true then _ else mkf false (x::f++(r.l++fwd l)))=_
   rw[if_neg hx,e,mkf_root h]
theorem vc_root (h:r.ok=true) (b:Bool) (i:Nat) (x:List Nat):vcEnd b i (r.l++x)=some (i+2,r.v::r.c::x):=by
 obtain⟨h1,h2,h3,h4⟩:=Root.parts h
 show vcEnd b i (r.w::r.k::r.v::r.c::x)=_
 cases b<;>simp[vcEnd,rootV_vow h1,rootK_vow h2]
theorem vc_front (h:r.ok=true) (x:List Nat) (g:List Nat):∀ (b:Bool) (i:Nat),∃ j y,vcEnd b i (g++(r.l++x))=some (j,y)∧((∃ g',y=g'++(r.l++x)∧j+g'.length=i+g.length)∨(j=i+g.length+2∧y=r.v::r.c::x)):=by
 induction g with
 |nil=>intro b i;exact (wit2 ⟨vc_root h b i x,.inr ⟨rfl,rfl⟩⟩)
 |cons a g ih=>
  intro b i
  cases b with
  |false=>
   obtain⟨j,y,e,hj⟩:=ih (vowN a) (i+1)
   refine⟨j,y,e,?_⟩
   rcases hj with⟨g',e',hj⟩ |⟨hj,e'⟩
   ·exact .inl ⟨g',e',by rw[hj];simp;lia⟩
   ·exact .inr ⟨by rw[hj];simp;lia,e'⟩
  |true=>
   rw[List.cons_append]
   unfold vcEnd
   by_cases hv:vowN a=true
   ·rw[if_pos hv]
    obtain⟨j,y,e,hj⟩:=ih true (i+1)
    refine⟨j,y,e,?_⟩
    rcases hj with⟨g',e',hj⟩ |⟨hj,e'⟩
    ·exact .inl ⟨g',e',by rw[hj];simp;lia⟩
    ·exact .inr ⟨by rw[hj];simp;lia,e'⟩
   ·rw[if_neg hv]
    exact (wit2 ⟨rfl,.inl ⟨g,rfl,by simp;lia⟩⟩)
theorem regions_word (h:r.ok=true) (g x:List Nat):(regions (g++(r.l++x))).1≤g.length+4∧(regions (g++(r.l++x))).2≤g.length+4:=by
 obtain⟨h1,h2,h3,h4⟩:=Root.parts h
 have hlen:¬(g++(r.l++x)).length<3:=by simp[Root.l];lia
 obtain⟨j,y,e,hj⟩:=vc_front h x g false 0
 unfold regions
 rw[if_neg hlen,e]
 dsimp only
 refine⟨?_,?_⟩
 ·rcases hj with⟨g',_,hj⟩ |⟨hj,_⟩<;>lia
 ·rcases hj with⟨g',rfl,hj⟩ |⟨hj,rfl⟩
  ·obtain⟨j2,y2,e2,hj2⟩:=vc_front h x g' false j
   rw[e2]
   dsimp only
   rcases hj2 with⟨g2,_,hj2⟩ |⟨hj2,_⟩<;>lia
  ·have:vcEnd false j (r.v::r.c::x)=some (j+2,x):=by simp[vcEnd,rootV_vow h3,rootC_vow h4]
   rw[this]
   dsimp only
   lia
theorem map_id_of {f:Nat→Nat} {l:List Nat} (h:∀ x∈l,f x=x):l.map f=l:=by
 induction l with
 |nil=>rfl
 |cons a r ih=>rw[List.map_cons,h a (.head _),ih fun x hx=>h x (.tail _ hx)]
theorem fwd_map {f:Nat→Nat} (h:∀ p,(pcR p).reverse.map f=(pcR p).reverse) (l:List Pc):(fwd l).map f=fwd l:=by
 induction l with
 |nil=>rfl
 |cons p t ih=>rw[fwd_cons,List.map_append,ih,h]
theorem root_map {f:Nat→Nat} (h:r.ok=true) (hV:∀ x,rootV x=true→f x=x) (hK:∀ x,rootK x=true→f x=x) (hC:∀ x,rootC x=true→f x=x):r.l.map f=r.l:=by
 obtain⟨h1,h2,h3,h4⟩:=Root.parts h
 show [f r.w,f r.k,f r.v,f r.c]=_
 rw[hV _ h1,hK _ h2,hV _ h3,hC _ h4]
 rfl
theorem bare_root (h:r.ok=true):r.l.map bareN=r.l:=by
 refine root_map h (fun x hx=> ?_) (fun x hx=> ?_) fun x hx=> ?_
 ·exact all_dec hx (P:=fun x=>bareN x=x) (by decide)
 ·exact all_dec hx (P:=fun x=>bareN x=x) (by decide)
 ·exact all_dec hx (P:=fun x=>bareN x=x) (by decide)
theorem low_root (h:r.ok=true):r.l.map lowN=r.l:=by
 refine root_map h (fun x hx=> ?_) (fun x hx=> ?_) fun x hx=> ?_
 ·exact all_dec hx (P:=fun x=>lowN x=x) (by decide)
 ·exact all_dec hx (P:=fun x=>lowN x=x) (by decide)
 ·exact all_dec hx (P:=fun x=>lowN x=x) (by decide)
theorem stem_pile (h:r.ok=true) (f:List Nat) {l:List Pc} (g:good l=true):stemW (f++(r.l++fwd l))=f.map smallN++(r.l++fwd (qs l)):=by
 have e1:preW (f++(r.l++fwd l))=markW (f.map bareN++(r.l++fwd l)):=by
  unfold preW
  rw[List.map_append,List.map_append,bare_root h,fwd_map (fun p=>by cases p<;>rfl)]
 obtain⟨m,e2,hm⟩:=markW_word h (f.map bareN) l
 have e3:m.map lowN=f.map smallN:=by
  have:=markW_low (f.map bareN++(r.l++fwd l))
  rw[e2] at this
  rw[List.map_append,List.map_append (f:=lowN) (l₁:=f.map bareN)] at this
  have:=List.append_cancel_right this
  rw[this,List.map_map]
  rfl
 obtain⟨h1,h2⟩:=regions_word h m (fwd l)
 have hB:IsB (r.l.reverse++m.reverse):=by
  obtain⟨h1,h2,h3,h4⟩:=Root.parts h
  exact⟨r.c,r.v,r.k,r.w,m.reverse,rfl,h4,h3,h2,h1⟩
 have hlen:(r.l.reverse++m.reverse).length=m.length+4:=by simp[Root.l]
 show ((stepsR (regions (preW (f++(r.l++fwd l)))).1 (regions (preW (f++(r.l++fwd l)))).2 (preW (f++(r.l++fwd l))).reverse).reverse).map lowN=_
 rw[e1,e2]
 have e4:(m++(r.l++fwd l)).reverse=flat l++(r.l.reverse++m.reverse):=by
  unfold fwd
  simp
 rw[e4,steps_ok hB (by lia) (by lia) g]
 have e5:(flat (qs l)++(r.l.reverse++m.reverse)).reverse=m++(r.l++fwd (qs l)):=by
  unfold fwd
  simp
 rw[e5,List.map_append,List.map_append,e3,low_root h,fwd_map (fun p=>by cases p<;>rfl)]
end
theorem smallN_id {x:Nat} (h:x∉[225,228,233,235,237,239,243,246,250,252,73,89]):smallN x=x:=by
 simp only[List.mem_cons,List.not_mem_nil,or_false,not_or] at h
 unfold smallN lowN bareN
 simp[h]
theorem smallN_twice (x:Nat):smallN (smallN x)=smallN x:=by
 by_cases h:x∈[225,228,233,235,237,239,243,246,250,252,73,89]
 ·simp only[List.mem_cons,List.not_mem_nil,or_false] at h
  rcases h with rfl |rfl |rfl |rfl |rfl |rfl |rfl |rfl |rfl |rfl |rfl |rfl<;>rfl
 ·rw[smallN_id h,smallN_id h]
end Pl
namespace Pl
noncomputable def der (c:Nat) (J:List (List Nat)):List (List Nat):=J.filterMap fun w=>match w with
 |x::t=>if x==c then some t else none
 | []=>none
noncomputable def lp:List (List Nat)→List Nat→Option Nat
 |J,[]=>if J.contains [] then some 0 else none
 |J,c::r=>match lp (der c J) r with
  |some k=>some (k+1)
  |none=>if J.contains [] then some 0 else none
theorem der_contains (c:Nat) (J:List (List Nat)) (t:List Nat):(der c J).contains t=J.contains (c::t):=by
 rw[Bool.eq_iff_iff,List.contains_iff_mem,List.contains_iff_mem]
 unfold der
 rw[List.mem_filterMap]
 constructor
 ·rintro⟨w,hw,h⟩
  split at h
  ·split at h
   ·rename_i q
    injection h
    rw[←beq_iff_eq.mp q]
    exact hw
   ·injection h
  ·injection h
 ·intro h
  exact⟨c::t,h,by simp⟩
theorem lp_spec (r:List Nat):∀ J,(∀ k,lp J r=some k→J.contains (r.take k)=true∧k≤r.length∧∀ j,j≤r.length→J.contains (r.take j)=true→j≤k)∧(lp J r=none→∀ j,j≤r.length→J.contains (r.take j)=false):=by
 induction r with
 |nil=>
  intro J
  unfold lp
  constructor
  ·intro k h
   split at h
   ·rename_i q
    injection h
    exact⟨q,Nat.zero_le _,fun j hj _=>by simpa using hj⟩
   ·injection h
  ·intro h j hj
   split at h
   ·injection h
   ·rename_i q
    rw[List.take_nil]
    exact Bool.not_eq_true _▸q
 |cons c r ih=>
  intro J
  obtain⟨h1,h2⟩:=ih (der c J)
  unfold lp
  constructor
  ·intro k h
   split at h
   ·rename_i k' e
    injection h
    obtain⟨a,b,d⟩:=h1 _ e
    rw[der_contains] at a
    refine⟨a,by simp;lia,fun j hj hm=> ?_⟩
    cases j with
    |zero=>lia
    |succ j=>
     rw[List.take_succ_cons,←der_contains] at hm
     have:=d j (by simpa using hj) hm
     lia
   ·rename_i e
    split at h
    ·rename_i q
     injection h
     refine⟨q,Nat.zero_le _,fun j hj hm=> ?_⟩
     cases j with
     |zero=>lia
     |succ j=>
      rw[List.take_succ_cons,←der_contains,h2 e j (by simpa using hj)] at hm
      cases hm
    ·injection h
  ·intro h j hj
   split at h
   ·injection h
   ·rename_i e
    split at h
    ·injection h
    ·rename_i q
     cases j with
     |zero=>exact Bool.not_eq_true _▸q
     |succ j=>rw[List.take_succ_cons,←der_contains,h2 e j (by simpa using hj)]
noncomputable def dl:List (List Nat)→List Nat→List (List Nat)
 |J,[]=>J
 |J,c::cs=>dl (der c J) cs
noncomputable def best:List (List Nat)→List Nat→Option Nat
 |_,[]=>none
 |J,c::cs=>match best (der c J) cs with
  |some k=>some (k+1)
  |none=>if J.contains [] then some 0 else none
theorem lp_nil (r:List Nat):lp [] r=none:=by
 induction r with
 |nil=>rfl
 |cons c r ih=>
  unfold lp
  have:der c []=[]:=rfl
  rw[this,ih]
  rfl
theorem lp_app (cs r:List Nat) (hc:cs≠[]):∀ J,lp J (cs++r)=match lp (dl J cs) r with |some k=>some (k+cs.length) |none=>best J cs:=by
 induction cs with
 |nil=>exact absurd rfl hc
 |cons c cs ih=>
  intro J
  have e1:lp J (c::cs++r)=match lp (der c J) (cs++r) with |some k=>some (k+1) |none=>if J.contains [] then some 0 else none:=rfl
  have e2:dl J (c::cs)=dl (der c J) cs:=rfl
  have e3:best J (c::cs)=match best (der c J) cs with |some k=>some (k+1) |none=>if J.contains [] then some 0 else none:=rfl
  rw[e1,e2,e3]
  by_cases h:cs=[]
  ·subst h
   show (match lp (der c J) r with |some k=>_ |none=>_)=match lp (der c J) r with |some k=>_ |none=>_
   cases lp (der c J) r<;>rfl
  ·rw[ih h]
   cases lp (dl (der c J) cs) r with
   |some k=>simp;lia
   |none=>rfl
noncomputable def same (J J':List (List Nat)):Bool:=J.all (J'.contains ·)&&J'.all (J.contains ·)
theorem same_eq {J J':List (List Nat)} (h:same J J'=true) (w:List Nat):J.contains w=J'.contains w:=by
 unfold same at h
 obtain⟨h1,h2⟩:=Bool.and_eq_true_iff.mp h
 rw[Bool.eq_iff_iff]
 constructor
 ·intro x
  exact List.all_eq_true.mp h1 w (List.contains_iff_mem.mp x)
 ·intro x
  exact List.all_eq_true.mp h2 w (List.contains_iff_mem.mp x)
theorem lp_congr (r:List Nat):∀ {J J':List (List Nat)},(∀ w,J.contains w=J'.contains w)→lp J r=lp J' r:=by
 induction r with
 |nil=>intro J J' h;unfold lp;rw[h]
 |cons c r ih=>
  intro J J' h
  unfold lp
  rw[ih (J:=der c J) (J':=der c J') (fun w=>by rw[der_contains,der_contains,h]),h]
theorem lp_pc (p:Pc) (t:List Pc) (J R:List (List Nat)) (h:same (dl J (pcR p)) R=true):lp J (flat (p::t))=match lp R (flat t) with |some k=>some (k+(pcR p).length) |none=>best J (pcR p):=by
 show lp J (pcR p++flat t)=_
 rw[lp_app _ _ (by cases p<;>simp[pcR]),lp_congr _ (same_eq h)]
noncomputable def one:List (List Nat):=[[]]
theorem lp_one (r:List Nat):lp one r=some 0:=by
 cases r with
 |nil=>rfl
 |cons c r=>
  unfold lp
  have:der c one=[]:=rfl
  rw[this,lp_nil]
  rfl
noncomputable def igL:List (List Nat):=[[],[103,105]]
noncomputable def eL:List (List Nat):=[[],[101]]
noncomputable def headsF:List (List Nat):=[[],[101,110,100],[105,110,103],[105,103],[105,103,101,110,100],[105,103,105,110,103],[108,105,106,107],[101,108,105,106,107],[98,97,97,114]]
noncomputable def midsF:List (List Nat):=[[],[104,101,105,100],[101,110,104,101,105,100]]
noncomputable def lastsF:List (List Nat):=[[],[115],[101,110],[115,101],[101,110,101],[101]]
noncomputable def joinF:List (List Nat):=[[98,97,114,101],[98,97,114,104,101,105,100,101],[98,97,114,101,110,104,101,105,100,101]]++lastsF.flatMap fun last=>midsF.flatMap fun mid=>headsF.map fun h=>h++mid++last
noncomputable def barF:List Nat:=[98,97,114]
noncomputable def hL (b:Bool):List (List Nat):=(headsF++if b then [barF] else []).map List.reverse
noncomputable def nL (b:Bool):List (List Nat):=((headsF++if b then [barF] else [])++(headsF++if b then [barF] else []).map fun h=>h++[101,110]).map List.reverse
noncomputable def mL (b:Bool):List (List Nat):=(midsF.flatMap fun mid=>(headsF++if b then [barF] else []).map fun h=>h++mid).map List.reverse
noncomputable def joinR:List (List Nat):=joinF.map List.reverse
noncomputable def conH (b:Bool) (l:List Pc):Nat:=match l with
 | .fin:: .ig::_=>5
 | .ing:: .ig::_=>5
 | .fin::_=>3
 | .ing::_=>3
 | .ig::_=>2
 | .lijk:: .e::_=>5
 | .lijk::_=>4
 | .baar::_=>4
 | .bar::_=>if b then 3 else 0
 |_=>0
noncomputable def conN (b:Bool) (l:List Pc):Nat:=match l with
 | .en::t=>2+conH b t
 |l=>conH b l
noncomputable def conM (b:Bool) (l:List Pc):Nat:=match l with
 | .heid::t=>4+conN b t
 |l=>conH b l
noncomputable def con (l:List Pc):Nat:=match l with
 | .e:: .s::t=>2+conM false t
 | .e:: .en::t=>3+conM false t
 | .e::t=>1+conM true t
 | .en::t=>2+conM false t
 | .s::t=>1+conM false t
 |l=>conM false l
theorem lp_ig (t:List Pc):lp igL (flat t)=some (match t with | .ig::_=>2 |_=>0):=by
 cases t with
 |nil=>rfl
 |cons p t=>
  cases p
  case ig=>rw[lp_pc _ _ _ one (by decide+kernel),lp_one];rfl
  all_goals (rw[lp_pc _ _ _ [] (by decide+kernel),lp_nil];rfl)
theorem lp_e (t:List Pc):lp eL (flat t)=some (match t with | .e::_=>1 |_=>0):=by
 cases t with
 |nil=>rfl
 |cons p t=>
  cases p
  case e=>rw[lp_pc _ _ _ one (by decide+kernel),lp_one];rfl
  all_goals (rw[lp_pc _ _ _ [] (by decide+kernel),lp_nil];rfl)
theorem lp_h (b:Bool) (l:List Pc):lp (hL b) (flat l)=some (conH b l):=by
 cases l with
 |nil=>cases b<;>rfl
 |cons p t=>
  cases p
  case fin=>
   rw[lp_pc _ _ _ igL (by cases b<;>decide+kernel),lp_ig]
   cases t with
   |nil=>rfl
   |cons p t=>cases p<;>rfl
  case ing=>
   rw[lp_pc _ _ _ igL (by cases b<;>decide+kernel),lp_ig]
   cases t with
   |nil=>rfl
   |cons p t=>cases p<;>rfl
  case lijk=>
   rw[lp_pc _ _ _ eL (by cases b<;>decide+kernel),lp_e]
   cases t with
   |nil=>rfl
   |cons p t=>cases p<;>rfl
  case ig=>rw[lp_pc _ _ _ one (by cases b<;>decide+kernel),lp_one];rfl
  case baar=>rw[lp_pc _ _ _ one (by cases b<;>decide+kernel),lp_one];rfl
  case bar=>
   cases b
   ·rw[lp_pc _ _ _ [] (by decide+kernel),lp_nil];rfl
   ·rw[lp_pc _ _ _ one (by decide+kernel),lp_one];rfl
  all_goals (rw[lp_pc _ _ _ [] (by cases b<;>decide+kernel),lp_nil];cases b<;>rfl)
theorem hd_pc {J:List (List Nat)} {b:Bool} {p:Pc} {t:List Pc} (h:same (dl J (pcR p)) (dl (hL b) (pcR p))=true) (hb:best J (pcR p)=best (hL b) (pcR p)):lp J (flat (p::t))=some (conH b (p::t)):=by
 rw[←lp_h b,lp_pc _ _ _ _ h,lp_pc p t (hL b) _ (show same (dl (hL b) (pcR p)) (dl (hL b) (pcR p))=true by cases p<;>cases b<;>decide+kernel),hb]
theorem lp_n (b:Bool) (l:List Pc):lp (nL b) (flat l)=some (conN b l):=by
 cases l with
 |nil=>cases b<;>rfl
 |cons p t=>
  cases p
  case en=>
   rw[lp_pc _ _ _ (hL b) (by cases b<;>decide+kernel),lp_h]
   show some (_+2)=some (2+_)
   rw[Nat.add_comm]
  all_goals exact hd_pc (J:=nL b) (b:=b) (t:=t) (by cases b<;>decide+kernel) (by cases b<;>decide+kernel)
theorem lp_m (b:Bool) (l:List Pc):lp (mL b) (flat l)=some (conM b l):=by
 cases l with
 |nil=>cases b<;>rfl
 |cons p t=>
  cases p
  case heid=>
   rw[lp_pc _ _ _ (nL b) (by cases b<;>decide+kernel),lp_n]
   show some (_+4)=some (4+_)
   rw[Nat.add_comm]
  all_goals exact hd_pc (J:=mL b) (b:=b) (t:=t) (by cases b<;>decide+kernel) (by cases b<;>decide+kernel)
noncomputable def eR2:List (List Nat):=mL true++(mL false).map (fun w=>115::w)++(mL false).map (fun w=>110::101::w)
theorem lp_er (l:List Pc):lp eR2 (flat l)=some (match l with | .s::t=>1+conM false t | .en::t=>2+conM false t |l=>conM true l):=by
 have key:∀ {p:Pc} {t:List Pc},same (dl eR2 (pcR p)) (dl (mL true) (pcR p))=true→best eR2 (pcR p)=best (mL true) (pcR p)→lp eR2 (flat (p::t))=some (conM true (p::t)):=by
  intro p t h hb
  rw[←lp_m true,lp_pc _ _ _ _ h,lp_pc p t (mL true) _ (show same (dl (mL true) (pcR p)) (dl (mL true) (pcR p))=true by cases p<;>decide+kernel),hb]
 cases l with
 |nil=>rfl
 |cons p t=>
  cases p
  case s=>
   rw[lp_pc _ _ _ (mL false) (by decide+kernel),lp_m]
   show some (_+1)=some (1+_)
   rw[Nat.add_comm]
  case en=>
   rw[lp_pc _ _ _ (mL false) (by decide+kernel),lp_m]
   show some (_+2)=some (2+_)
   rw[Nat.add_comm]
  all_goals exact key (by decide+kernel) (by decide+kernel)
theorem lp_all (l:List Pc):lp joinR (flat l)=some (con l):=by
 have key:∀ {p:Pc} {t:List Pc},same (dl joinR (pcR p)) (dl (mL false) (pcR p))=true→best joinR (pcR p)=best (mL false) (pcR p)→lp joinR (flat (p::t))=some (conM false (p::t)):=by
  intro p t h hb
  rw[←lp_m false,lp_pc _ _ _ _ h,lp_pc p t (mL false) _ (show same (dl (mL false) (pcR p)) (dl (mL false) (pcR p))=true by cases p<;>decide+kernel),hb]
 cases l with
 |nil=>decide+kernel
 |cons p t=>
  cases p
  case s=>
   rw[lp_pc _ _ _ (mL false) (by decide+kernel),lp_m]
   show some (_+1)=some (1+_)
   rw[Nat.add_comm]
  case en=>
   rw[lp_pc _ _ _ (mL false) (by decide+kernel),lp_m]
   show some (_+2)=some (2+_)
   rw[Nat.add_comm]
  case e=>
   rw[lp_pc _ _ _ eR2 (by decide+kernel),lp_er]
   show some (_+1)=some (con (.e::t))
   cases t with
   |nil=>rfl
   |cons p t=>cases p<;>first |rfl |(dsimp only[con];congr 1;lia)
  all_goals exact key (by decide+kernel) (by decide+kernel)
theorem cut_h (b:Bool) (l:List Pc):∃ X,flat l=X++flat (q4 b l)∧X.length=conH b l:=by
 cases l with
 |nil=>exact⟨[],rfl,rfl⟩
 |cons p t=>
  cases p
  case bar=>cases b<;>first |exact⟨[],rfl,rfl⟩ |exact⟨[114,97,98],rfl,rfl⟩
  case fin=>
   cases t with
   |nil=>exact⟨[100,110,101],rfl,rfl⟩
   |cons p t=>cases p<;>first |exact⟨[100,110,101],rfl,rfl⟩ |exact⟨[100,110,101,103,105],rfl,rfl⟩
  case ing=>
   cases t with
   |nil=>exact⟨[103,110,105],rfl,rfl⟩
   |cons p t=>cases p<;>first |exact⟨[103,110,105],rfl,rfl⟩ |exact⟨[103,110,105,103,105],rfl,rfl⟩
  case lijk=>
   cases t with
   |nil=>exact⟨[107,106,105,108],rfl,rfl⟩
   |cons p t=>cases p<;>first |exact⟨[107,106,105,108],rfl,rfl⟩ |exact⟨[107,106,105,108,101],rfl,rfl⟩
  case ig=>exact⟨[103,105],rfl,rfl⟩
  case baar=>exact⟨[114,97,97,98],rfl,rfl⟩
  all_goals exact⟨[],rfl,rfl⟩
noncomputable def dropEn (t:List Pc):List Pc:=match t with | .en::u=>u |t=>t
theorem cut_m (b:Bool) (l:List Pc):∃ X,flat l=X++flat (q4 b (q3 l))∧X.length=conM b l:=by
 cases l with
 |nil=>exact cut_h b []
 |cons p t=>
  cases p
  case heid=>
   have top:∃ X,flat t=X++flat (q4 b (dropEn t))∧X.length=conN b t:=by
    cases t with
    |nil=>exact cut_h b []
    |cons p u=>
     cases p
     case en=>
      obtain⟨X,e1,e2⟩:=cut_h b u
      exact⟨110::101::X,by show 110::101::flat u=110::101::(X++flat (q4 b u));rw[←e1],by show X.length+2=2+conH b u;lia⟩
     all_goals exact cut_h b _
   have this:q3 (.heid::t)=dropEn t:=by
    cases t with
    |nil=>rfl
    |cons p u=>cases p<;>rfl
   obtain⟨X,e1,e2⟩:=top
   refine⟨100::105::101::104::X,?_,by show X.length+4=4+conN b t;lia⟩
   show 100::105::101::104::flat t=100::105::101::104::(X++flat (q4 b (q3 (.heid::t))))
   rw[this,←e1]
  all_goals exact cut_h b _
theorem q2_of {t:List Pc} (h:hdE t=false):q2 t=(t,false):=by
 cases t with
 |nil=>rfl
 |cons p t=>cases p<;>first |rfl |(simp[hdE] at h;done)
theorem con_qz {l:List Pc} (g:good l=true):∃ X,flat l=X++flat (qz l)∧X.length=con l:=by
 have fin:∀ (Y:List Nat) (t:List Pc) (b:Bool),flat l=Y++flat t→qz l=q4 b (q3 t)→con l=Y.length+conM b t→∃ X,flat l=X++flat (qz l)∧X.length=con l:=by
  intro Y t b e1 e2 e3
  obtain⟨X,e4,e5⟩:=cut_m b t
  exact⟨Y++X,by rw[e1,e2,List.append_assoc,←e4],by rw[List.length_append,e3,e5]⟩
 have last:qz l=q4 false (q3 l)→con l=conM false l→∃ X,flat l=X++flat (qz l)∧X.length=con l:=fun h1 h2=>fin [] l false rfl h1 (by rw[h2];simp)
 cases l with
 |nil=>exact⟨[],rfl,rfl⟩
 |cons p t=>
  have hz:∀ t,q1 (p::t)=t→hdE t=false→qz (p::t)=q4 false (q3 t):=by
   intro t h1 h2
   unfold qz
   rw[h1,q2_of h2]
  cases p
  case s=>exact fin [115] t false rfl (hz t rfl (good_clash g rfl)) rfl
  case en=>exact fin [110,101] t false rfl (hz t rfl (good_clash g rfl)) rfl
  case e=>
   have g':=good_tail g
   cases t with
   |nil=>exact fin [101] [] true rfl rfl rfl
   |cons p u=>
    cases p
    case s=>exact fin [101,115] u false rfl (by unfold qz;show q4 (q2 u).2 (q3 (q2 u).1)=_;rw[q2_of (good_clash g' rfl)]) rfl
    case en=>exact fin [101,110,101] u false rfl (by unfold qz;show q4 (q2 u).2 (q3 (q2 u).1)=_;rw[q2_of (good_clash g' rfl)]) rfl
    all_goals exact fin [101] _ true rfl rfl rfl
  all_goals exact last rfl rfl
end Pl
section
open Mine.Pl (joinF headsF midsF lastsF)
section
structure HO (sc:Scope) (d:Nat) (ri:Nat) (body:List Stmt) (F:OF):Prop where
 out:SoundO sc d ri body F
structure HOS (sc:Scope) (d:Nat) (ri:Nat) (st:Stmt) (F:OF):Prop where
 out:SoundOS sc d ri st F
structure HB0 (sc:Scope) (d:Nat) (k:Nat) (body:List Stmt) (G:List MV→At→Option (MV×At)):Prop where
 out:∀ (c:Cx),c.Ok sc d→∀ (args:List MV) (at_:At) (s:Shared) (r:MV) (at':At),St c (args.map some++List.replicate k none) at_ s→G args at_=some (r,at')→
  wpAny (model pw c.w) c.A (execs body c.env) (fun fl s'=>FlRel c s'.heap (.ret r) fl∧∃ loc',St c loc' at' s') (fun _ _=>False) s
section
variable {sc:Scope} {d:Nat}
theorem HO_one {ri:Nat} {st:Stmt} {F:OF} (h:HOS sc d ri st F):HO sc d ri [st] F:=⟨O_one h.1⟩
theorem HO_for {x:Str} {px pos lp:Pos} {elts:List Expr} {body:List Stmt} {F:OF} {ri:Nat} (i:Nat) (xs:List Str) (hF:HO sc d ri body F) (h:elts.map constOf=xs.map some) (hl:xs.length≤1000) (hnd:(sc.names.map (·.1)).Nodup) (hi:(sc.names.map (·.1))[i]? =some x) (hk:sc.names.lookup x=some .local) (hne:i≠ri)
  (hs:∀ env v,foldedSetIterable (.List elts lp) env v=pure v):HOS sc d ri (.For (.Name x px) (.List elts lp) body [] pos) (oForN (xs.map fun x=>.str x.cps.toList) i F):=⟨O_for i xs h hl hF.1 hnd hi hk hne hs⟩
noncomputable abbrev fAppend (f:EF):OF:=fun loc at_ ys=>(f loc at_).bind fun p=>match p.1 with
   | .s (.str y)=>if p.2=at_∧ys.length<1000 then some (loc,ys++[y]) else none
   |_=>none
theorem HO_append {nm:Str} {np apos pos spos:Pos} {e:Expr} {f:EF} (ri:Nat) (ho:HE sc d (.Name nm np) (fun loc at_=>(getLoc loc ri).map (·,at_))) (he:HE sc d e f)
  (hbase:∀ env,attributeBase (.Name nm np) "append" env (eval (.Name nm np) env)=eval (.Name nm np) env)
  (hfew:∀ env,((backTo pos (starEach [e] env)).all (fun x=> !x.1)&&(backToKw pos (keywordEach [] env)).all (fun x=>x.1.isSome)&&decide (([e]:List Expr).length+([]:List Keyword).length+(if ([]:List Keyword).isEmpty then 0 else 1)<30))=true)
  (hline:(apos.endLine==pos.line)=true) (htrees:∀ env,backTo pos (starEach [e] env)=[(false,eval e env)])
  (hs:∀ env,swapsWith (.Call (.Attribute (.Name nm np) "append" apos) [e] [] pos) none spos.line env=pure false):
  HO sc d ri [.Expr (.Call (.Attribute (.Name nm np) "append" apos) [e] [] pos) spos] (fAppend f):=⟨O_append ri ho.1 he.1 hbase hfew hline htrees hs⟩
theorem HB_rows {nm:Str} {np lp apos snp rp cp retp:Pos} {elts:List Expr} {st:Stmt} {F:OF} (ri k:Nat) (xs:List Str) (hF:HOS sc d ri st F) (h:elts.map constOf=xs.map some) (hl:xs.length≤1000)
  (hnd:(sc.names.map (·.1)).Nodup) (hi:(sc.names.map (·.1))[ri]? =some nm) (hk:sc.names.lookup nm=some .local) (hs:∀ env,swapsWith (.List elts lp) (some (.Name nm np)) apos.line env=pure false)
  (hset:sc.names.lookup ("set":Str)=some .globalImplicit) (hr:HE sc d (.Name nm rp) (fun loc at_=>(getLoc loc ri).map (·,at_)))
  (hne:∀ env,starEach [.Name nm rp] env=[(false,eval (.Name nm rp) env)])
  (ys:List (List Nat)) (hys:∀ R,(F ((List.replicate k none).set ri (some (.ref R))) [] (xs.map (·.cps.toList))).map (·.2)=some ys) (hri:ri<k):
  HB0 sc d k [.Assign [.Name nm np] (.List elts lp) apos,st,.Return (some (.Call (.Name "set" snp) [.Name nm rp] [] cp)) retp] (fun args at_=>if args=[]∧at_=[] then some (MV.set ys,([]:At)) else none):=
 ⟨B_rows ri k xs h hl hF.1 hnd hi hk hs hset hr.1 hne ys hys hri⟩
end
noncomputable abbrev sc515:Scope:=fnScope (tS 20)
noncomputable def lastS:List Str:=["","s","en","se","ene","e"]
noncomputable def midS:List Str:=["","heid","enheid"]
noncomputable def headS:List Str:=["","end","ing","ig","igend","iging","lijk","elijk","baar"]
noncomputable def rowS:List Str:=["bare","barheide","barenheide"]
theorem for515 (d:Nat) (st:Stmt) (hst:(fnBody (tS 20))[1]? =some st):HOS sc515 d 0 st (oForN (lastS.map fun x:Str=>.str x.cps.toList) 1 (oForN (midS.map fun x:Str=>.str x.cps.toList) 2 (oForN (headS.map fun x:Str=>.str x.cps.toList) 3
  (fAppend (fBin .Add (fBin .Add (fun loc at_=>(getLoc loc 3).map (·,at_)) (fun loc at_=>(getLoc loc 2).map (·,at_))) (fun loc at_=>(getLoc loc 1).map (·,at_))))))):=by
 cases hst
 exact HO_for 1 _ (HO_one (HO_for 2 _ (HO_one (HO_for 3 _ (HO_append 0 (hL 0) (HE_bin (HE_bin (hL 3) (hL 2)) (hL 1))
  (by intro _;rfl) (by intro _;rfl) (by rfl) (by intro _;rfl) (by intro _;rfl)) (by kernel_rfl) (by decide) (by decide+kernel) (by kernel_rfl) (by kernel_rfl) (by decide) (by intro _ _;rfl))) (by kernel_rfl) (by decide) (by decide+kernel) (by kernel_rfl) (by kernel_rfl) (by decide) (by intro _ _;rfl))) (by kernel_rfl) (by decide) (by decide+kernel) (by kernel_rfl) (by kernel_rfl) (by decide) (by intro _ _;rfl)
noncomputable def F515:OF:=oForN (lastS.map fun x:Str=>.str x.cps.toList) 1 (oForN (midS.map fun x:Str=>.str x.cps.toList) 2 (oForN (headS.map fun x:Str=>.str x.cps.toList) 3
  (fAppend (fBin .Add (fBin .Add (fun loc at_=>(getLoc loc 3).map (·,at_)) (fun loc at_=>(getLoc loc 2).map (·,at_))) (fun loc at_=>(getLoc loc 1).map (·,at_))))))
theorem run515:∀ R,(F515 ((List.replicate 4 none).set 0 (some (.ref R))) [] (rowS.map (·.cps.toList))).map (·.2)=some joinF:=by intro R;kernel_rfl
theorem hb515 (d:Nat):HB0 sc515 d 4 (fnBody (tS 20)) (fun args at_=>if args=[]∧at_=[] then some (MV.set joinF,([]:At)) else none):=
 HB_rows (F:=F515) 0 4 rowS (for515 d _ (by kernel_rfl)) (by kernel_rfl) (by decide) (by decide+kernel) (by kernel_rfl) (by kernel_rfl) (by intro _;rfl) (by kernel_rfl) (hL 0) (by intro _;rfl) joinF run515 (by decide)
theorem fnH_of_body0 {f:Addr} {d n m:Nat} {fd:FuncData} {body:List Stmt} {G:List MV→At→Option (MV×At)} {ps:List Str} (hG:HB0 fd.scope d m body G)
  (hK:∀ P,((KV P).lookup f).map (·.data)=some (.func fd)) (hcd:∀ P,codeIn (KV P) fd.code fd.qualname=true) (hbody:fd.body= .stmts body)
  (hgl:fd.globals=mainGlobals) (hbl:fd.builtins=builtinsNs)
  (hbind:∀ vals:List Value,vals.length=n→bindArgs fd ⟨vals,[]⟩=pure (ps.zip vals)) (hps:ps.length=n) (hnames:ps=(fd.scope.names.map (·.1)).take n) (hnd:(fd.scope.names.map (·.1)).Nodup)
  (hloc:ps.all (fun x=>fd.scope.names.lookup x==some .local)=true) (hcell:fd.scope.names.all (fun x=>x.2!= .cell)=true) (hco:fd.scope.isCoroutine=false) (hgen:fd.scope.isGenerator=false) (hk:fd.scope.kind= .function) (hclo:fd.closure=[]:=by rfl):
  FnOk f (d+1) (fun args at_=>if args.length=n then G args at_ else none):=fn_of_body0 hG.1 hK hcd hbody hgl hbl hbind hps hnames hnd hloc hcell hco hgen hk hclo
theorem fn515 {d:Nat}:FnOk 515 (d+1) (fun args at_=>if args.length=0 then (if args=[]∧at_=[] then some (MV.set joinF,([]:At)) else none) else none):=
 fnH_of_body0 (fd:=fdM "_law_joined" "_law_joined" (tS 20) (.str "law_is0013_01" 1176) (.ref 514)) (ps:=[]) (hb515 d) (by intro P;kernel_rfl) (by intro P;kernel_rfl) (by rfl) (by rfl) (by rfl) (len0 rfl) (by rfl) (by kernel_rfl) (by decide+kernel) (by kernel_rfl) (by kernel_rfl) (by kernel_rfl) (by kernel_rfl) (by kernel_rfl)
end
end
section
section
structure HL (sc:Scope) (d:Nat) (body:List Stmt) (Pc:Loc→SV→Prop):Prop where
 out:∀ (c:Cx),c.Ok sc d→c.slf=false→c.exc=true→∀ (loc:Loc) (s:Shared) (v:SV),St c loc [] s→Pc loc v→
  wpAny (model pw c.w) c.A (execs body c.env) (fun fl s'=>(∃ w,fl= .ret w∧SRel v w)∧St c [] [] s') (fun _ _=>False) s
section
variable {sc:Scope} {d:Nat}
theorem HB_ctor {nm:Str} {np cnp cp ap:Pos} {rest:List Stmt} {G:SF} {F:List MV→At→Option (MV×At)} (i:Nat) (hf:FnOk 35 d F) (hF:F [.self] []=some (.s .none,at6)) (hG:HB sc (d+1) rest G) (hcls:sc.names.lookup ("DutchPorterStemmer":Str)=some .globalImplicit)
  (hnd:(sc.names.map (·.1)).Nodup) (hi:(sc.names.map (·.1))[i]? =some nm) (hk:sc.names.lookup nm=some .local) (hsw:∀ env,swapsWith (.Call (.Name "DutchPorterStemmer" cnp) [] [] cp) (some (.Name nm np)) ap.line env=pure false):
  HL sc (d+1) (.Assign [.Name nm np] (.Call (.Name "DutchPorterStemmer" cnp) [] [] cp) ap::rest) (fun loc v=>∃ p,G (loc.set i (some .self)) at6=some (.ret (.s v),p)):=
 ⟨fun c O hs hx loc s v S h=>B_ctor i hf hF hG.1 hcls hnd hi hk hsw c O hs hx loc s v S h⟩
theorem HB_law {np cnp cp ap fnp fcp rp ip:Pos} {nm fn:Str} {arg cond:Expr} {s1 s3:Stmt} {rest:List Stmt} {F1 F3 G:SF} {fc:CF} {fa:AF} {F:List MV→At→Option (MV×At)} {FX:List MV→Option MV} {f:Addr} (i:Nat) (hf:FnOk 35 d F) (hF:F [.self] []=some (.s .none,at6)) (hG:HB sc (d+1) rest G)
  (h1:HS sc (d+1) s1 F1) (hc:HC sc (d+1) cond fc) (ha:HA sc (d+1) [arg] fa) (hne:∀ env,∃ t r,starEach [arg] env=(false,t)::r) (hX:FnOkX f (d+1) FX) (hfn:sc.names.lookup fn=some .globalImplicit) (hd:(fn==("__debug__":Str))=false) (hg:∀ P,nsIn (KV P) mainGlobals fn=some (some (.ref f))) (hkp:∀ P,keepIn (KV P) (.ref f)=true)
  (h3:HS sc (d+1) s3 F3) (hcls:sc.names.lookup ("DutchPorterStemmer":Str)=some .globalImplicit)
  (hnd:(sc.names.map (·.1)).Nodup) (hi:(sc.names.map (·.1))[i]? =some nm) (hk:sc.names.lookup nm=some .local) (hsw:∀ env,swapsWith (.Call (.Name "DutchPorterStemmer" cnp) [] [] cp) (some (.Name nm np)) ap.line env=pure false):
  HL sc (d+1) (s1:: .If cond [.Return (some (.Call (.Name fn fnp) [arg] [] fcp)) rp] [] ip::s3:: .Assign [.Name nm np] (.Call (.Name "DutchPorterStemmer" cnp) [] [] cp) ap::rest)
   (fun loc v=>∃ loc1 b,F1 loc []=some (.nxt,loc1,[])∧fc loc1 []=some (b,[])∧(if b then ∃ xs,fa loc1 []=some (xs,[])∧FX xs=some (.s v) else ∃ loc3,F3 loc1 []=some (.nxt,loc3,[])∧∃ p,G (loc3.set i (some .self)) at6=some (.ret (.s v),p))):=
 ⟨fun c O hs hx loc s v S h=>B_law i hf hF hG.1 h1.1 hc.1 ha.1 hne hX hfn hd hg hkp h3.1 hcls hnd hi hk hsw c O hs hx loc s v S h⟩
theorem HC_cut {loc:Loc} {s:Shared} {c:Cx} (S:St c [] [] s):∃ l,St c l [] s:=⟨_,S⟩
theorem fnX_of {f:Addr} {n m:Nat} {fd:FuncData} {body:List Stmt} {Pc:Loc→SV→Prop} {FX:List MV→Option SV} {ps:List Str} (hG:HL fd.scope d body Pc) (hP:∀ args v,FX args=some v→Pc (args.map some++List.replicate m none) v)
  (hK:∀ P,((KV P).lookup f).map (·.data)=some (.func fd)) (hcd:∀ P,codeIn (KV P) fd.code fd.qualname=true) (hbody:fd.body= .stmts body)
  (hgl:fd.globals=mainGlobals) (hbl:fd.builtins=builtinsNs)
  (hbind:∀ vals:List Value,vals.length=n→bindArgs fd ⟨vals,[]⟩=pure (ps.zip vals)) (hps:ps.length=n) (hnames:ps=(fd.scope.names.map (·.1)).take n) (hnd:(fd.scope.names.map (·.1)).Nodup)
  (hloc:ps.all (fun x=>fd.scope.names.lookup x==some .local)=true) (hcell:fd.scope.names.all (fun x=>x.2!= .cell)=true) (hco:fd.scope.isCoroutine=false) (hgen:fd.scope.isGenerator=false) (hk:fd.scope.kind= .function) (hclo:fd.closure=[]:=by rfl):
  FnOkX f (d+1) (fun args=>if args.length=n then (FX args).map .s else none):=
 fn_of_bodyX (G:=fun args=>(FX args).map .s) (fun c O hs hx args s r S h=>by
  exact om1 h fun v hv e=>wpAny_mono (hG.1 c O hs hx _ s v S (hP args v hv)) (fun fl s' x=>⟨e▸x.1,[],x.2⟩) fun _ _ x=>x) hK hcd hbody hgl hbl hbind hps hnames hnd hloc hcell hco hgen hk hclo
end
theorem run35:runBody 1 0 G35 [.self] []=some (.s .none,at6):=by kernel_rfl
noncomputable abbrev sc539:Scope:=fnScope (tS 24)
noncomputable def pk539 (d:Nat):PH sc539 (d+9) ((fnBody (tS 24)).drop 1):=⟨_,(HB_cons (HS_assign 2 (HE_fn (HA_cons (hL 0) HA_nil) fn525 (by kernel_rfl) (by decide) (by intro P;kernel_rfl) (by intro P;kernel_rfl) (by intro _;exact (wit2 rfl))) (by decide+kernel) (by kernel_rfl) (by kernel_rfl))
 (HB_cons (HS_assign 3 (HE_meth (hL 1) (HA_cons (hL 2) HA_nil) fn189 (by intro P;kernel_rfl) (by decide) (by intro _;exact (wit2 rfl)) (by intro _;rfl)) (by decide+kernel) (by kernel_rfl) (by kernel_rfl))
 (HB_cons (HS_assign 4 (HE_meth (hL 1) (HA_cons (hL 3) HA_nil) fn189 (by intro P;kernel_rfl) (by decide) (by intro _;exact (wit2 rfl)) (by intro _;rfl)) (by decide+kernel) (by kernel_rfl) (by kernel_rfl))
 (HB_cons (HS_assign 2 (HE_fn (HA_cons (hL 2) HA_nil) fn496 (by kernel_rfl) (by decide) (by intro P;kernel_rfl) (by intro P;kernel_rfl) (by intro _;exact (wit2 rfl))) (by decide+kernel) (by kernel_rfl) (by kernel_rfl))
 (HB_cons (HS_if (HC_val (HE_fn (HA_cons (hL 2) HA_nil) fn532 (by kernel_rfl) (by decide) (by intro P;kernel_rfl) (by intro P;kernel_rfl) (by intro _;exact (wit2 rfl)))) (HB_cons (HS_ret (HE_and (HE_cmp (hL 3) (HE_slice (hL 2) HP_none (HP_some HE_int))) (HE_cmp (hL 4) (HE_slice (hL 2) HP_none (HP_some HE_int)))))
 HB_nil) HB_nil)
 (HB_cons (HS_ret (HE_cmp (hL 4) (hL 3)))
 HB_nil))))))⟩
noncomputable def G539:SF:=(pk539 0).1
theorem hl539 (d:Nat):HL sc539 (d+9) (fnBody (tS 24)) (fun loc v=>∃ p,G539 (loc.set 1 (some .self)) at6=some (.ret (.s v),p)):=
 HB_ctor (d:=d+8) 1 fn35 run35 (pk539 d).2 (by kernel_rfl) (by decide+kernel) (by kernel_rfl) (by kernel_rfl) (by intro _;rfl)
noncomputable def FX539 (args:List MV):Option SV:=(G539 ((args.map some++List.replicate 4 none).set 1 (some .self)) at6).bind fun p=>match p.1 with
 | .ret m=>simp1 m
 |_=>none
theorem fx539 (args:List MV) (v:SV) (h:FX539 args=some v):∃ p,G539 ((args.map some++List.replicate 4 none).set 1 (some .self)) at6=some (.ret (.s v),p):=by
 refine ob3 h ?_;clear h;intro o loc at' e h
 cases o with
 |ret m=>exact⟨(loc,at'),simp1_eq h▸e⟩
 |_=>exact nn h
theorem fn539 {d:Nat}:FnOkX 539 ((d+9)+1) (fun args=>if args.length=1 then (FX539 args).map .s else none):=
 fnX_of (fd:=fdM "_law_short_holds" "_law_short_holds" (tS 24) (.str "law_is0013_01" 1176) (.ref 538)) (ps:=["numbers"]) (hl539 d) fx539 (by intro P;kernel_rfl) (by intro P;kernel_rfl) (by rfl) (by rfl) (by rfl) (len1 fun _=>rfl) (by rfl) (by kernel_rfl) (by decide+kernel) (by kernel_rfl) (by kernel_rfl) (by kernel_rfl) (by kernel_rfl) (by kernel_rfl)
end
end
section
noncomputable abbrev sc544:Scope:=fnScope (tS 25)
noncomputable def posA:List Stmt→Expr | .If t _ _ _::_=>t |_=>.Constant (.bool true) 0 ⟨0,0,0,0⟩
noncomputable def argA:List Stmt→List Expr | .If _ [.Return (some (.Call _ a _ _)) _] _ _::_=>a |_=>[]
noncomputable abbrev PS (sc:Scope) (d:Nat) (b:Stmt):={ G:SF // HS sc d b G }
noncomputable abbrev PC (sc:Scope) (d:Nat) (b:Expr):={ G:CF // HC sc d b G }
noncomputable abbrev PA (sc:Scope) (d:Nat) (b:List Expr):={ G:AF // HA sc d b G }
noncomputable def st544 (i:Nat):Stmt:=(fnBody (tS 25)).getD i (.Pass ⟨0,0,0,0⟩)
noncomputable def pk1 (d:Nat):PS sc544 (d+10) (st544 0):=⟨_,(HS_assign 1 (HE_ifexp (HE_neNil (hL 0)) (HE_bin (HE_idx (hL 0) HE_int) HE_int) HE_int) (by decide+kernel) (by kernel_rfl) (by kernel_rfl))⟩
noncomputable def pkc (d:Nat):PC sc544 (d+10) (posA ((fnBody (tS 25)).drop 1)):=⟨_,(HC_cmp (hL 1) HE_int)⟩
noncomputable def pka (d:Nat):PA sc544 (d+10) (argA ((fnBody (tS 25)).drop 1)):=⟨_,(HA_cons (HE_sliceL (hL 0) (HP_some HE_int) (HP_some HE_int)) HA_nil)⟩
noncomputable def pk3 (d:Nat):PS sc544 (d+10) (st544 2):=⟨_,(HS_assign 2 (HE_fn0 fn515 (by kernel_rfl) (by decide) (by intro P;kernel_rfl) (by intro P;kernel_rfl)) (by decide+kernel) (by kernel_rfl) (by kernel_rfl))⟩
noncomputable def pkr (d:Nat):PH sc544 (d+10) ((fnBody (tS 25)).drop 4):=⟨_,(HB_cons (HS_assign 4 (HE_fn (HA_cons (HE_sliceL (hL 0) (HP_some HE_int) (HP_some HE_int)) (HA_cons (HE_ifexp (HC_cmp (hL 1) HE_int) HE_int HE_int) HA_nil)) fn503 (by kernel_rfl) (by decide) (by intro P;kernel_rfl) (by intro P;kernel_rfl) (by intro _;exact (wit2 rfl))) (by decide+kernel) (by kernel_rfl) (by kernel_rfl))
 (HB_cons (HS_assign 5 (HE_join HE_str (HE_comp0 [.no,.item,.no] (HI_val (HE_sliceL (hL 0) (HP_some HE_int) (HP_some HE_int))) (HE_idx (HE_signs (by kernel_rfl)) (HE_bin (hL 1) HE_int)) (by kernel_rfl) (by kernel_rfl) (by kernel_rfl) (by kernel_rfl) (by kernel_rfl)) (by intro _;rfl) (by intro _;rfl)) (by decide+kernel) (by kernel_rfl) (by kernel_rfl))
 (HB_cons (HS_assign 6 (HE_fn (HA_cons (HE_sliceL (hL 0) (HP_some HE_int) (HP_some HE_int)) HA_nil) fn508 (by kernel_rfl) (by decide) (by intro P;kernel_rfl) (by intro P;kernel_rfl) (by intro _;exact (wit2 rfl))) (by decide+kernel) (by kernel_rfl) (by kernel_rfl))
 (HB_cons (HS_assign 7 (HE_bin (HE_bin (hL 5) (hL 6)) (hL 4)) (by decide+kernel) (by kernel_rfl) (by kernel_rfl))
 (HB_cons (HS_assign 6 (HE_bin (HE_fn (HA_cons (hL 5) HA_nil) fn496 (by kernel_rfl) (by decide) (by intro P;kernel_rfl) (by intro P;kernel_rfl) (by intro _;exact (wit2 rfl))) (hL 6)) (by decide+kernel) (by kernel_rfl) (by kernel_rfl))
 (HB_cons (HS_while 60 (HC_and (HC_cmp (hL 4) HE_str) (HC_not (HC_val (HE_ends (hL 4) HE_str (by intro _;rfl) (by intro _;rfl))))) (HB_cons (HS_assign 4 (HE_fn (HA_cons (hL 4) (HA_cons (hL 2) HA_nil)) fn520 (by kernel_rfl) (by decide) (by intro P;kernel_rfl) (by intro P;kernel_rfl) (by intro _;exact (wit2 rfl))) (by decide+kernel) (by kernel_rfl) (by kernel_rfl))
 (HB_cons (HS_assign 7 (HE_meth (hL 3) (HA_cons (hL 7) HA_nil) fn189 (by intro P;kernel_rfl) (by decide) (by intro _;exact (wit2 rfl)) (by intro _;rfl)) (by decide+kernel) (by kernel_rfl) (by kernel_rfl))
 (HB_cons (HS_if (HC_cmp (hL 7) (HE_bin (hL 6) (hL 4))) (HB_cons (HS_ret HE_bool)
 HB_nil) HB_nil)
 HB_nil))))
 (HB_cons (HS_ret (HE_cmp (HE_meth (hL 3) (HA_cons (hL 7) HA_nil) fn189 (by intro P;kernel_rfl) (by decide) (by intro _;exact (wit2 rfl)) (by intro _;rfl)) (HE_bin (hL 6) (hL 4))))
 HB_nil)))))))⟩
noncomputable def GL1:SF:=(pk1 0).1
noncomputable def GLc:CF:=(pkc 0).1
noncomputable def GLa:AF:=(pka 0).1
noncomputable def GL3:SF:=(pk3 0).1
noncomputable def GLr:SF:=(pkr 0).1
theorem hl544 (d:Nat):HL sc544 (d+10) (fnBody (tS 25)) (fun loc v=>∃ loc1 b,GL1 loc []=some (.nxt,loc1,[])∧GLc loc1 []=some (b,[])∧(if b then ∃ xs,GLa loc1 []=some (xs,[])∧(if xs.length=1 then (FX539 xs).map MV.s else none)=some (.s v) else ∃ loc3,GL3 loc1 []=some (.nxt,loc3,[])∧∃ p,GLr (loc3.set 3 (some .self)) at6=some (.ret (.s v),p))):=
 HB_law (d:=d+9) 3 fn35 run35 (pkr d).2 (pk1 d).2 (pkc d).2 (pka d).2 (by intro _;exact (wit2 rfl)) fn539 (by kernel_rfl) (by decide) (by intro P;kernel_rfl) (by intro P;kernel_rfl) (pk3 d).2 (by kernel_rfl) (by decide+kernel) (by kernel_rfl) (by kernel_rfl) (by intro _;rfl)
end
theorem setA_z (x v:SV) (t:At):setA (x::t) 0 v=v::t:=rfl
theorem setA_s (x v:SV) (t:At) (k:Nat):setA (x::t) (k+1) v=x::setA t k v:=by
 unfold setA
 by_cases h:k<t.length
 ·rw[if_pos (by simpa using h),if_pos h];rfl
 ·rw[if_neg (by simpa using h),if_neg h];rfl
theorem getLoc_z (m:MV) (t:Loc):getLoc (some m::t) 0=some m:=rfl
theorem getLoc_s (x:Option MV) (t:Loc) (k:Nat):getLoc (x::t) (k+1)=getLoc t k:=rfl
class KI (α β:Type) where
 f:α→Option β
class KM (α β:Type) where
 f:α→β
noncomputable def bindI {α β:Type} [k:KI α β] (x:Option α):Option β:=x.bind k.f
noncomputable def mapI {α β:Type} [k:KM α β] (x:Option α):Option β:=x.map k.f
theorem bind_I {α β:Type} (x:Option α) (k:α→Option β):x.bind k= @bindI α β ⟨k⟩ x:=rfl
theorem map_I {α β:Type} (x:Option α) (k:α→β):x.map k= @mapI α β ⟨k⟩ x:=rfl
theorem bindI_s {α β:Type} (a:α) (k:α→Option β): @bindI α β ⟨k⟩ (some a)=k a:=rfl
theorem bindI_n {α β:Type} (k:α→Option β): @bindI α β ⟨k⟩ none=none:=rfl
theorem mapI_s {α β:Type} (a:α) (k:α→β): @mapI α β ⟨k⟩ (some a)=some (k a):=rfl
theorem mapI_n {α β:Type} (k:α→β): @mapI α β ⟨k⟩ none=none:=rfl
theorem setA_0 (x0 v:SV) (t:At):setA (x0::t) 0 v=v::t:=rfl
theorem getA_0 (x0:SV) (t:At):(x0::t)[0]? =some x0:=rfl
theorem setA_1 (x0 x1 v:SV) (t:At):setA (x0::x1::t) 1 v=x0::v::t:=rfl
theorem getA_1 (x0 x1:SV) (t:At):(x0::x1::t)[1]? =some x1:=rfl
theorem setA_2 (x0 x1 x2 v:SV) (t:At):setA (x0::x1::x2::t) 2 v=x0::x1::v::t:=rfl
theorem getA_2 (x0 x1 x2:SV) (t:At):(x0::x1::x2::t)[2]? =some x2:=rfl
theorem setA_3 (x0 x1 x2 x3 v:SV) (t:At):setA (x0::x1::x2::x3::t) 3 v=x0::x1::x2::v::t:=rfl
theorem getA_3 (x0 x1 x2 x3:SV) (t:At):(x0::x1::x2::x3::t)[3]? =some x3:=rfl
theorem setA_4 (x0 x1 x2 x3 x4 v:SV) (t:At):setA (x0::x1::x2::x3::x4::t) 4 v=x0::x1::x2::x3::v::t:=rfl
theorem getA_4 (x0 x1 x2 x3 x4:SV) (t:At):(x0::x1::x2::x3::x4::t)[4]? =some x4:=rfl
theorem setA_5 (x0 x1 x2 x3 x4 x5 v:SV) (t:At):setA (x0::x1::x2::x3::x4::x5::t) 5 v=x0::x1::x2::x3::x4::v::t:=rfl
theorem getA_5 (x0 x1 x2 x3 x4 x5:SV) (t:At):(x0::x1::x2::x3::x4::x5::t)[5]? =some x5:=rfl
theorem setA_6 (x0 x1 x2 x3 x4 x5 x6 v:SV) (t:At):setA (x0::x1::x2::x3::x4::x5::x6::t) 6 v=x0::x1::x2::x3::x4::x5::v::t:=rfl
theorem getA_6 (x0 x1 x2 x3 x4 x5 x6:SV) (t:At):(x0::x1::x2::x3::x4::x5::x6::t)[6]? =some x6:=rfl
theorem setA_7 (x0 x1 x2 x3 x4 x5 x6 x7 v:SV) (t:At):setA (x0::x1::x2::x3::x4::x5::x6::x7::t) 7 v=x0::x1::x2::x3::x4::x5::x6::v::t:=rfl
theorem getA_7 (x0 x1 x2 x3 x4 x5 x6 x7:SV) (t:At):(x0::x1::x2::x3::x4::x5::x6::x7::t)[7]? =some x7:=rfl
theorem setA_8 (x0 x1 x2 x3 x4 x5 x6 x7 x8 v:SV) (t:At):setA (x0::x1::x2::x3::x4::x5::x6::x7::x8::t) 8 v=x0::x1::x2::x3::x4::x5::x6::x7::v::t:=rfl
theorem getA_8 (x0 x1 x2 x3 x4 x5 x6 x7 x8:SV) (t:At):(x0::x1::x2::x3::x4::x5::x6::x7::x8::t)[8]? =some x8:=rfl
theorem setA_e (x0 x1 x2 x3 x4 x5 x6 x7 v:SV) (t:At):setA (x0::x1::x2::x3::x4::x5::x6::x7::t) 8 v=x0::x1::x2::x3::x4::x5::x6::x7::setA t 0 v:=by
 iterate 8 rw[setA_s]
theorem getA_e (x0 x1 x2 x3 x4 x5 x6 x7:SV) (t:At):(x0::x1::x2::x3::x4::x5::x6::x7::t)[8]? =t[0]? :=rfl
local macro_rules
 | `(tactic|simp! [$as,*] $[$l:location]?)=> `(tactic|simp[-List.contains_eq_mem,↓bind_I,↓map_I,bindI_s,bindI_n,mapI_s,mapI_n,getLoc_z,getLoc_s,setA_0,↓getA_0,getA_0,setA_1,↓getA_1,getA_1,setA_2,↓getA_2,getA_2,setA_3,↓getA_3,getA_3,setA_4,↓getA_4,getA_4,setA_5,↓getA_5,getA_5,setA_6,↓getA_6,getA_6,setA_7,↓getA_7,getA_7,setA_8,↓getA_8,getA_8,setA_e,getA_e,↓fSeq,↓fIn2,↓fCmp,↓fBin,↓fTruth,↓fNot,↓fOr,↓fAnd,↓fIf,↓bool1,↓fIdx,↓fMeth,↓fNeg,↓fTry,simp1,cmpop,cmpI,cmpS,binop,binI,binS,truth,inV,↓fRange2,rangeB,intV,asInt,$as,*] $[$l:location]?)
noncomputable abbrev A6 (cur:List Nat) (c l lb b k:Int) (t:At):At:=.str cur:: .int c:: .int l:: .int lb:: .int b:: .int k::t
noncomputable def outR (p:Out×Loc×At):Option (MV×At):=match p.1 with
 | .ret r=>some (r,p.2.2)
 | .nxt=>some (.s .none,p.2.2)
 |_=>none
theorem rb {n m:Nat} {G:SF} {args:List MV} {at_:At} (h:args.length=n):runBody n m G args at_=(G (args.map some++List.replicate m none) at_).bind outR:=by
 unfold runBody
 rw[if_pos h]
 rfl
theorem run42 (v:List Nat) (hv:v.length≤1000) (cur:List Nat) (c l lb b k:Int) (t:At):runBody 2 1 G42 [.self,.s (.str v)] (A6 cur c l lb b k t)=some (.s .none,A6 v 0 v.length 0 0 v.length t):=by
 simp[runBody,G42,pk42,getLoc_z,getLoc_s,setA_z,setA_s,opLen,hv,fSeq]
theorem run49 (cur:List Nat) (c l lb b k:Int) (t:At):runBody 1 0 G49 [.self] (A6 cur c l lb b k t)=some (.s (.str cur),A6 cur c l lb b k t):=by
 simp[runBody,G49,pk49,getLoc_z,getLoc_s,setA_z,setA_s,fSeq]
theorem loopN_succ (n:Nat) (t:CF) (b:SF) (loc:Loc) (at_:At):loopN (n+1) t b loc at_=(t loc at_).bind fun p=>if p.1 then (b loc p.2).bind fun q=>(match q.1 with
   | .nxt | .cont=>loopN n t b q.2.1 q.2.2
   | .brk=>some (.nxt,q.2)
   |o=>some (o,q.2)) else some (.nxt,loc,p.2):=rfl
theorem loop_go {t:CF} {b:SF} (sl:Nat→Loc) (sa:Nat→At):∀ (N n:Nat),(∀ i,i<N→t (sl i) (sa i)=some (true,sa i)∧b (sl i) (sa i)=some (.nxt,sl (i+1),sa (i+1)))→loopN (n+N) t b (sl 0) (sa 0)=loopN n t b (sl N) (sa N):=by
 intro N
 induction N generalizing sl sa with
 |zero=>intro n _;rfl
 |succ N ih=>
  intro n h
  obtain⟨h1,h2⟩:=h 0 (Nat.succ_pos N)
  rw[show n+(N+1)=(n+N)+1 from rfl,loopN_succ,h1]
  simp only[Option.bind_some,if_true,h2]
  exact ih (fun i=>sl (i+1)) (fun i=>sa (i+1)) n fun i hi=>h (i+1) (Nat.succ_lt_succ hi)
theorem idx_fwd (p y:List Nat) (x:Nat) (h:p.length≤1000):idxV (.s (.str (p++x::y))) (p.length:Int)=some (.s (.str [x])):=by
 unfold idxV itemL seqIndex?
 have h1:¬((p.length:Int)< -(2^63)∨2^63≤(p.length:Int)):=by lia
 have h2:¬(p.length:Int)<0:=by lia
 have h3:(decide ((0:Int)≤(p.length:Int))&&decide ((p.length:Int)<((p++x::y).length:Int)))=true:=by
  rw[Bool.and_eq_true,decide_eq_true_eq,decide_eq_true_eq,List.length_append,List.length_cons]
  lia
 simp only[h1,if_false,h2,h3,if_true,Option.bind_some,Int.toNat_natCast]
 simp
theorem idx_back (r y:List Nat) (x:Nat) (h:r.length≤1000):idxV (.s (.str ((x::r).reverse++y))) (r.length:Int)=some (.s (.str [x])):=by
 have:=idx_fwd r.reverse y x (by simpa using h)
 simpa using this
noncomputable def scanO (f:Nat→Bool):List Nat→Option Nat
 | []=>none
 |x::r=>if f x then some 0 else (scanO f r).map (· +1)
theorem scan_loop {T:CF} {B:SF} {loc:Loc} {f:Nat→Bool} {l:Nat} {lb b k:Int} {t:At} (hl:l≤50)
  (hT:∀ (p:List Nat) (x:Nat) (y:List Nat),p.length+(y.length+1)=l→T loc (A6 (p++x::y) p.length l lb b k t)=some (true,A6 (p++x::y) p.length l lb b k t)∧
   B loc (A6 (p++x::y) p.length l lb b k t)=(if f x then some (.ret (.s (.bool true)),loc,A6 (p++x::y) p.length l lb b k t) else some (.nxt,loc,A6 (p++x::y) (p.length+1) l lb b k t)))
  (hE:∀ p:List Nat,T loc (A6 p l l lb b k t)=some (false,A6 p l l lb b k t)):
  ∀ (y p:List Nat) (n:Nat),p.length+y.length=l→y.length<n→loopN n T B loc (A6 (p++y) p.length l lb b k t)=(match scanO f y with
   |some j=>some (.ret (.s (.bool true)),loc,A6 (p++y) (p.length+j:Nat) l lb b k t)
   |none=>some (.nxt,loc,A6 (p++y) l l lb b k t)):=by
 intro y
 induction y with
 |nil=>
  intro p n hp hn
  obtain⟨n,rfl⟩:∃ m,n=m+1:=⟨n-1,by lia⟩
  have e:p.length=l:=by simpa using hp
  rw[loopN_succ,List.append_nil,e,hE]
  rfl
 |cons x r ih=>
  intro p n hp hn
  obtain⟨n,rfl⟩:∃ m,n=m+1:=⟨n-1,by lia⟩
  obtain⟨h1,h2⟩:=hT p x r (by simpa using hp)
  rw[loopN_succ,h1]
  simp only[Option.bind_some,if_true,h2]
  cases hf:f x with
  |true=>simp[scanO,hf]
  |false=>
   have e1:p++x::r=(p++[x])++r:=by simp
   have e2:((p.length:Int)+1)=((p++[x]).length:Int):=by simp
   simp only[Bool.false_eq_true,if_false,Option.bind_some]
   rw[e1,e2,ih (p++[x]) n (by simp at hp ⊢;lia) (by simpa using hn)]
   simp only[scanO,hf,Bool.false_eq_true,if_false]
   cases scanO f r with
   |none=>rfl
   |some j=>
    simp only[Option.map_some]
    have:(p++[x]).length+j=p.length+(j+1):=by simp;lia
    rw[this]
theorem run98 (S:List (List Nat)) (p y:List Nat) (h:p.length+y.length≤50) (lb b k:Int) (t:At):runBody 2 0 G98 [.self,.set S] (A6 (p++y) p.length (p.length+y.length:Nat) lb b k t)=(match scanO (fun x=>S.contains [x]) y with
   |some j=>some (.s (.bool true),A6 (p++y) (p.length+j:Nat) (p.length+y.length:Nat) lb b k t)
   |none=>some (.s (.bool false),A6 (p++y) (p.length+y.length:Nat) (p.length+y.length:Nat) lb b k t)):=by
 obtain⟨T,B,e,hT,hE⟩:∃ T B,G98=fSeq (loopN 60 T B) (fSeq (fun loc at_=>some (.ret (.s (.bool false)),loc,at_)) (fun loc at_=>some (.nxt,loc,at_)))∧
  (∀ (p:List Nat) (x:Nat) (y:List Nat) (l:Nat),l≤50→p.length+(y.length+1)=l→T [some .self,some (.set S)] (A6 (p++x::y) p.length l lb b k t)=some (true,A6 (p++x::y) p.length l lb b k t)∧
   B [some .self,some (.set S)] (A6 (p++x::y) p.length l lb b k t)=(if S.contains [x] then some (.ret (.s (.bool true)),[some .self,some (.set S)],A6 (p++x::y) p.length l lb b k t) else some (.nxt,[some .self,some (.set S)],A6 (p++x::y) (p.length+1) l lb b k t)))∧
  (∀ (p:List Nat) (l:Nat),T [some .self,some (.set S)] (A6 p l l lb b k t)=some (false,A6 p l l lb b k t)):=by
  refine (wit2 ⟨rfl,fun p x y l hl hp=>⟨?_,?_⟩,fun p l=> ?_⟩)
  ·have:(p.length:Int)<l:=by lia
   simp! [this]
  ·cases h:S.contains [x]<;>simp! [idx_fwd p y x (by lia),h]
  ·simp! []
 have key:=scan_loop h (fun p x y hp=>hT p x y _ h hp) (fun p=>hE p _) y p 60 rfl (by lia)
 rw[rb (by rfl),e]
 show (fSeq (loopN 60 T B) _ [some .self,some (.set S)] _).bind _=_
 unfold fSeq
 rw[key]
 cases scanO (fun x=>S.contains [x]) y<;>rfl
theorem run70 (S:List (List Nat)) (p y:List Nat) (h:p.length+y.length≤50) (lb b k:Int) (t:At):runBody 2 0 G70 [.self,.set S] (A6 (p++y) p.length (p.length+y.length:Nat) lb b k t)=(match scanO (fun x=> !S.contains [x]) y with
   |some j=>some (.s (.bool true),A6 (p++y) (p.length+j:Nat) (p.length+y.length:Nat) lb b k t)
   |none=>some (.s (.bool false),A6 (p++y) (p.length+y.length:Nat) (p.length+y.length:Nat) lb b k t)):=by
 obtain⟨T,B,e,hT,hE⟩:∃ T B,G70=fSeq (loopN 60 T B) (fSeq (fun loc at_=>some (.ret (.s (.bool false)),loc,at_)) (fun loc at_=>some (.nxt,loc,at_)))∧
  (∀ (p:List Nat) (x:Nat) (y:List Nat) (l:Nat),l≤50→p.length+(y.length+1)=l→T [some .self,some (.set S)] (A6 (p++x::y) p.length l lb b k t)=some (true,A6 (p++x::y) p.length l lb b k t)∧
   B [some .self,some (.set S)] (A6 (p++x::y) p.length l lb b k t)=(if !S.contains [x] then some (.ret (.s (.bool true)),[some .self,some (.set S)],A6 (p++x::y) p.length l lb b k t) else some (.nxt,[some .self,some (.set S)],A6 (p++x::y) (p.length+1) l lb b k t)))∧
  (∀ (p:List Nat) (l:Nat),T [some .self,some (.set S)] (A6 p l l lb b k t)=some (false,A6 p l l lb b k t)):=by
  refine (wit2 ⟨rfl,fun p x y l hl hp=>⟨?_,?_⟩,fun p l=> ?_⟩)
  ·have:(p.length:Int)<l:=by lia
   simp! [this]
  ·cases h:S.contains [x]<;>simp! [idx_fwd p y x (by lia),h]
  ·simp! []
 have key:=scan_loop h (fun p x y hp=>hT p x y _ h hp) (fun p=>hE p _) y p 60 rfl (by lia)
 rw[rb (by rfl),e]
 show (fSeq (loopN 60 T B) _ [some .self,some (.set S)] _).bind _=_
 unfold fSeq
 rw[key]
 cases scanO (fun x=> !S.contains [x]) y<;>rfl
theorem run63 (S:List (List Nat)) (p y:List Nat) (l:Nat) (hl:p.length+y.length=l) (h:l≤50) (lb b k:Int) (t:At):runBody 2 0 G63 [.self,.set S] (A6 (p++y) p.length l lb b k t)=(if Pl.hd (fun x=>S.contains [x]) y then some (.s (.bool true),A6 (p++y) (p.length+1:Nat) l lb b k t) else some (.s (.bool false),A6 (p++y) p.length l lb b k t)):=by
 rw[rb (by rfl)]
 unfold G63 pk63
 cases y with
 |nil=>
  have hl2:(l:Int)=(p.length:Int):=by simp at hl;lia
  simp! [outR,hl2,Pl.hd]
 |cons x r=>
  have hl2:¬(l:Int)≤(p.length:Int):=by simp at hl;lia
  cases hx:S.contains [x]<;>simp! [outR,hl2,idx_fwd p r x (by lia),hx,Pl.hd]
theorem run105a (S:List (List Nat)) (cur:List Nat) (x:Nat) (c l b k:Int) (t:At) (hc:¬c≤0) (hi:idxV (.s (.str cur)) (c-1)=some (.s (.str [x]))):runBody 2 0 G105 [.self,.set S] (A6 cur c l 0 b k t)=
   (if S.contains [x] then some (.s (.bool false),A6 cur c l 0 b k t) else some (.s (.bool true),A6 cur (c-1) l 0 b k t)):=by
 rw[rb (by rfl)]
 unfold G105 pk105
 cases hx:S.contains [x]<;>simp! [outR,hc,hx,hi]
theorem run105z (S:List (List Nat)) (cur:List Nat) (l b k:Int) (t:At):runBody 2 0 G105 [.self,.set S] (A6 cur 0 l 0 b k t)=some (.s (.bool false),A6 cur 0 l 0 b k t):=by
 rw[rb (by rfl)]
 unfold G105 pk105
 simp! [outR]
theorem clip_nat (n d a:Nat):clipN n d (some (a:Int))=min a n:=by
 have:¬(a:Int)<0:=by lia
 show (max 0 (min (if (a:Int)<0 then (a:Int)+n else (a:Int)) n)).toNat=_
 rw[if_neg this]
 rcases Nat.le_total a n with h |h
 ·rw[Nat.min_eq_left h,Int.min_eq_left (Int.ofNat_le.mpr h),Int.max_eq_right (Int.natCast_nonneg a)]
  rfl
 ·rw[Nat.min_eq_right h,Int.min_eq_right (Int.ofNat_le.mpr h),Int.max_eq_right (Int.natCast_nonneg n)]
  rfl
theorem slice_nat (l:List Nat) (a b:Nat) (h:b≤l.length):sliceL l (some (a:Int)) (some (b:Int))=(l.drop a).take (b-a):=by
 unfold sliceL
 rw[clip_nat,clip_nat,Nat.min_eq_left h]
 by_cases ha:a≤l.length
 ·rw[Nat.min_eq_left ha]
 ·have k:=Nat.le_of_not_le ha
  rw[Nat.sub_eq_zero_of_le (Nat.le_trans h k),Nat.min_eq_right k,Nat.sub_eq_zero_of_le h]
  simp
theorem slice_from_nat (l:List Nat) (a:Nat):sliceL l (some (a:Int)) none=l.drop a:=by
 unfold sliceL
 rw[clip_nat]
 show (l.drop (min a l.length)).take (l.length-min a l.length)=_
 by_cases ha:a≤l.length
 ·rw[Nat.min_eq_left ha,List.take_of_length_le (by simp)]
 ·rw[Nat.min_eq_right (by lia)]
  simp
  lia
theorem slice_pre (r y:List Nat):sliceL (r.reverse++y) (some 0) (some (r.length:Int))=r.reverse:=by
 have:=slice_nat (r.reverse++y) 0 r.length (by simp)
 rw[show ((0:Nat):Int)=0 from rfl] at this
 rw[this]
 simp
theorem ends_rev (s r:List Nat):endsL r.reverse s=s.reverse.isPrefixOf r:=by
 unfold endsL
 rw[Bool.eq_iff_iff,List.isSuffixOf_iff_suffix,List.isPrefixOf_iff_prefix,←List.reverse_suffix,List.reverse_reverse]
theorem run126a (s q cur:List Nat) (c l b k:Int) (t:At) (hq:sliceL cur (some 0) (some c)=q) (hl:cur.length≤1000) (hs:s.length≤1000):runBody 2 1 G126 [.self,.s (.str s)] (A6 cur c l 0 b k t)=
   (if endsL q s then some (.s (.bool true),A6 cur (c-s.length) l 0 b k t) else some (.s (.bool false),A6 cur c l 0 b k t)):=by
 rw[rb (by rfl)]
 unfold G126 pk126
 cases hx:endsL q s<;>simp! [outR,hq,hx,opLen,hl,hs]
theorem run126 (s r y:List Nat) (h:r.length+y.length≤50) (hs:s.length≤50) (l b k:Int) (t:At):runBody 2 1 G126 [.self,.s (.str s)] (A6 (r.reverse++y) r.length l 0 b k t)=
   (if s.reverse.isPrefixOf r then some (.s (.bool true),A6 (r.reverse++y) (r.length-s.length:Nat) l 0 b k t) else some (.s (.bool false),A6 (r.reverse++y) r.length l 0 b k t)):=by
 rw[run126a s r.reverse _ _ l b k t (slice_pre r y) (by simp;lia) (by lia),ends_rev]
 cases hx:s.reverse.isPrefixOf r with
 |true=>
  have hle:s.length≤r.length:=by
   have:=(List.isPrefixOf_iff_prefix.mp hx).length_le
   simpa using this
  have e:((r.length-s.length:Nat):Int)=(r.length:Int)-s.length:=by lia
  rw[e]
 |false=>rfl
theorem run147a (s p q cur:List Nat) (cb ck c l lb b k:Int) (t:At) (hp:sliceL cur (some 0) (some cb)=p) (hq:sliceL cur (some ck) none=q) (hl:cur.length≤1000) (hs:s.length≤1000) (h1:p.length+s.length≤1000) (h2:p.length+s.length+q.length≤1000):
  runBody 4 2 G147 [.self,.s (.int cb),.s (.int ck),.s (.str s)] (A6 cur c l lb b k t)=
   some (.s (.int (s.length-(ck-cb))),A6 (p++s++q) (if ck≤c then c+(s.length-(ck-cb)) else if cb<c then cb else c) (l+(s.length-(ck-cb))) lb b k t):=by
 rw[rb (by rfl)]
 unfold G147 pk147
 by_cases g1:ck≤c
 ·simp! [outR,hp,hq,opLen,hl,hs,h1,h2,g1,←Nat.add_assoc]
 ·by_cases g2:cb<c
  ·simp! [outR,hp,hq,opLen,hl,hs,h1,h2,g1,g2,←Nat.add_assoc]
  ·simp! [outR,hp,hq,opLen,hl,hs,h1,h2,g1,g2,←Nat.add_assoc]
theorem run154a (s p q cur:List Nat) (c l lb b k:Int) (t:At) (hp:sliceL cur (some 0) (some b)=p) (hq:sliceL cur (some k) none=q) (hl:cur.length≤1000) (hs:s.length≤1000) (h1:p.length+s.length≤1000) (h2:p.length+s.length+q.length≤1000)
  (b0:0≤b) (bk:b≤k) (kl:k≤l) (lc:l≤cur.length):
  runBody 2 1 G154 [.self,.s (.str s)] (A6 cur c l lb b k t)=
   some (.s .none,A6 (p++s++q) (if k≤c then c+(s.length-(k-b)) else if b<c then b else c) (l+(s.length-(k-b))) lb b (b+s.length) t):=by
 have e:=run147a s p q cur b k c l lb b k t hp hq hl hs h1 h2
 rw[rb (by rfl)]
 unfold G154 pk154
 simp! [outR,e,opLen,hl,hs,b0,bk,kl,lc]
theorem run161a (p q cur:List Nat) (c l lb b k:Int) (t:At) (hp:sliceL cur (some 0) (some b)=p) (hq:sliceL cur (some k) none=q) (hl:cur.length≤1000) (h1:p.length≤1000) (h2:p.length+q.length≤1000)
  (b0:0≤b) (bk:b≤k) (kl:k≤l) (lc:l≤cur.length):
  runBody 1 0 G161 [.self] (A6 cur c l lb b k t)=
   some (.s .none,A6 (p++q) (if k≤c then c+(0-(k-b)) else if b<c then b else c) (l+(0-(k-b))) lb b b t):=by
 have e:=run154a [] p q cur c l lb b k t hp hq hl (by simp) (by simpa using h1) (by simpa using h2) b0 bk kl lc
 simp only[List.append_nil,List.length_nil] at e
 rw[rb (by rfl)]
 unfold G161 pk161
 have es:(Str.ofString "").cps.toList=[]:=rfl
 simp! [outR,es,e]
noncomputable def goP (e:Bool):List Nat→List Nat→Nat→Option (Int×Nat)
 |_,[],n=>some (0,n)
 | [],_::_,n=>if e then some (-1,n) else none
 |x::a,y::b,n=>if (x:Int)-y=0 then goP e a b (n+1) else some ((x:Int)-y,n)
noncomputable def bsP (e:Bool) (key:Row→List Nat) (rows:List Row) (r:List Nat):Nat→Nat→Nat→Nat→Nat→Bool→Option (Nat×Nat)
 |0,_,_,_,_,_=>none
 |n+1,i,j,ci,cj,f=>(rows[i+(j-i) / 2]?).bind fun w=>(goP e (r.drop (min ci cj)) ((key w).drop (min ci cj)) (min ci cj)).bind fun q=>
   if q.1<0 then (if i+(j-i) / 2≤i+1 then (if 0<i then some (i,ci) else if i+(j-i) / 2=i then some (i,ci) else if f then some (i,ci) else bsP e key rows r n i (i+(j-i) / 2) ci q.2 true) else bsP e key rows r n i (i+(j-i) / 2) ci q.2 f)
   else (if j≤i+(j-i) / 2+1 then (if 0<i+(j-i) / 2 then some (i+(j-i) / 2,q.2) else if j=i+(j-i) / 2 then some (i+(j-i) / 2,q.2) else if f then some (i+(j-i) / 2,q.2) else bsP e key rows r n (i+(j-i) / 2) j q.2 cj true) else bsP e key rows r n (i+(j-i) / 2) j q.2 cj f)
noncomputable def lkP (rows:List Row):Nat→Nat→Nat→Option (Int×Nat)
 |0,_,_=>none
 |n+1,i,ci=>(rows[i]?).bind fun w=>if w.1.length≤ci then some (w.2.2,w.1.length) else if w.2.1<0 then some (0,0) else lkP rows n w.2.1.toNat ci
noncomputable def faP (e:Bool) (key:Row→List Nat) (rows:List Row) (r:List Nat):Option (Int×Nat):=(bsP e key rows r 60 0 rows.length 0 0 false).bind fun p=>lkP rows 60 p.1 p.2
noncomputable def downL:Nat→List SV
 |0=>[]
 |n+1=>.int n::downL n
theorem range_down (n:Nat):rangeL ((n:Int)-1) (-1) (-1)=downL n:=by
 have hs:(Builtin.Range.rangeSize ((n:Int)-1) (-1) (-1)).toNat=n:=by
  unfold Builtin.Range.rangeSize
  simp
  split<;>lia
 unfold rangeL
 rw[hs]
 have key:∀ n:Nat,(List.range n).map (fun i=>SV.int ((n:Int)-1+(i:Nat)* -1))=downL n:=by
  intro n
  induction n with
  |zero=>rfl
  |succ n ih=>
   rw[List.range_succ_eq_map,List.map_cons,List.map_map]
   show _::_=SV.int n::downL n
   rw[←ih]
   congr 1
   ·congr 1;simp
   ·apply List.map_congr_left
    intro i _
    show SV.int _=SV.int _
    congr 1
    simp
    lia
 exact key n
noncomputable abbrev LA (rows:List Row) (i j c lb ci cj:Int) (f:Bool) (x9 x10 x11 x12 x13:Option MV):Loc:=[some .self,some (.tab rows),some (.s (.int i)),some (.s (.int j)),some (.s (.int c)),some (.s (.int lb)),some (.s (.int ci)),some (.s (.int cj)),some (.s (.bool f)),x9,x10,x11,x12,x13,none,none,none,none]
theorem half_ok {i j:Nat} (h:i≤j):(i:Int)+((j:Int)-i).fdiv 2=((i+(j-i) / 2:Nat):Int):=by
 rw[←Int.ofNat_sub h,Int.natCast_add]
 exact congrArg _ (Int.ofNat_fdiv (j-i) 2).symm
theorem min_ok (a b:Nat):(if (b:Int)<a then (b:Int) else a)=((min a b:Nat):Int):=by
 split<;>lia
noncomputable def stepB (rows:List Row) (i j c lb ci cj:Int) (f:Bool) (x9 x10 x11 x12 x13:Option MV) (at_:At):Option (Out×Loc×At):=
 if j-i≤1 then (if 0<i then some (.brk,LA rows i j c lb ci cj f x9 x10 x11 x12 x13,at_) else if j=i then some (.brk,LA rows i j c lb ci cj f x9 x10 x11 x12 x13,at_) else if f then some (.brk,LA rows i j c lb ci cj f x9 x10 x11 x12 x13,at_) else some (.nxt,LA rows i j c lb ci cj true x9 x10 x11 x12 x13,at_))
 else some (.nxt,LA rows i j c lb ci cj f x9 x10 x11 x12 x13,at_)
theorem amV_s (w:Row):amVal "s" w=some (.str w.1):=by unfold amVal;rw[if_pos rfl]
theorem amV_i (w:Row):amVal "substring_i" w=some (.int w.2.1):=by unfold amVal;rw[if_neg (by decide),if_pos rfl]
theorem amV_r (w:Row):amVal "result" w=some (.int w.2.2):=by unfold amVal;rw[if_neg (by decide),if_neg (by decide),if_pos rfl]
theorem step_of {P Q:SF} {rows:List Row} {i j c l ci cj cm d kk:Int} {f:Bool} {x9 x10 x11 x12 x13:Option MV} {at_:At} (h:∀ i j ci cj:Int,Q (LA rows i j c l ci cj f x9 x10 x11 x12 x13) at_=stepB rows i j c l ci cj f x9 x10 x11 x12 x13 at_) (h1:d<0→P (LA rows i j c l ci cj f x9 x10 x11 x12 x13) at_=some (.nxt,LA rows i kk c l ci cm f x9 x10 x11 x12 x13,at_)) (h2:¬d<0→P (LA rows i j c l ci cj f x9 x10 x11 x12 x13) at_=some (.nxt,LA rows kk j c l cm cj f x9 x10 x11 x12 x13,at_)):
  fSeq P Q (LA rows i j c l ci cj f x9 x10 x11 x12 x13) at_=if d<0 then stepB rows i kk c l ci cm f x9 x10 x11 x12 x13 at_ else stepB rows kk j c l cm cj f x9 x10 x11 x12 x13 at_:=by
 unfold fSeq
 by_cases g:d<0
 ·rw[if_pos g,h1 g];exact h _ _ _ _
 ·rw[if_neg g,h2 g];exact h _ _ _ _
set_option genInjectivity false in
set_option genSizeOf false in
structure Qshape140 where
 a1:SF
 a2:SF
 a3:SF
 a4:SF
 a5:SF
 a6:SF
 a7:SF
 T1:CF
 b1:SF
 b2:SF
 b3:SF
 b4:SF
 fi:IF
 F:SF
 post:SF
 T2:CF
 B2:SF
 R:SF
 f0:G140=fSeq a1 (fSeq a2 (fSeq a3 (fSeq a4 (fSeq a5 (fSeq a6 (fSeq a7 (fSeq (loopN 60 T1 (fSeq b1 (fSeq b2 (fSeq b3 (fSeq b4 (fSeq (fun loc at_=>(fi loc at_).bind fun p=>forN p.1 13 F loc p.2) post)))))) (fSeq (loopN 60 T2 B2) R))))))))
 f1:(∀ (K:SF) (rows:List Row) (cur:List Nat) (c l b k:Int) (t:At),fSeq a1 (fSeq a2 (fSeq a3 (fSeq a4 (fSeq a5 (fSeq a6 (fSeq a7 K)))))) ([some .self,some (.tab rows)]++List.replicate 16 none) (A6 cur c l 0 b k t)=K (LA rows 0 rows.length c 0 0 0 false none none none none none) (A6 cur c l 0 b k t))
 f2:(∀ loc at_,T1 loc at_=some (true,at_))
 f3:(∀ (K:SF) (rows:List Row) (i j ci cj:Nat) (c:Int) (f:Bool) (x9 x10 x11 x12 x13:Option MV) (at_:At) (w:Row),i≤j→rows[i+(j-i) / 2]? =some w→fSeq b1 (fSeq b2 (fSeq b3 (fSeq b4 K))) (LA rows i j c 0 ci cj f x9 x10 x11 x12 x13) at_=K (LA rows i j c 0 ci cj f (some (.s (.int (i+(j-i) / 2:Nat)))) (some (.s (.int 0))) (some (.s (.int (min ci cj:Nat)))) (some (.am w)) x13) at_)
 f4:(∀ (rows:List Row) (i j c ci cj cm m:Int) (f:Bool) (x9 x10 x13:Option MV) (at_:At) (w:Row),w.1.length≤1000→(w.1.length:Int)-1-cm=m→smallI m=true→fi (LA rows i j c 0 ci cj f x9 x10 (some (.s (.int cm))) (some (.am w)) x13) at_=some (rangeL m (-1) (-1),at_))
 f5:(∀ (rows:List Row) (i j c ci cj cm i2:Int) (f:Bool) (x9 x10:Option MV) (w:Row) (at_:At),c-cm=0→F (LA rows i j c 0 ci cj f x9 x10 (some (.s (.int cm))) (some (.am w)) (some (.s (.int i2)))) at_=some (.brk,LA rows i j c 0 ci cj f x9 (some (.s (.int (-1)))) (some (.s (.int cm))) (some (.am w)) (some (.s (.int i2))),at_))
 f6:(∀ (rows:List Row) (i j c ci cj cm i2:Int) (f:Bool) (x9 x10:Option MV) (w:Row) (cur:List Nat) (l b k:Int) (t:At) (x y:Nat),¬c-cm=0→idxV (.s (.str cur)) (c-1-cm)=some (.s (.str [x]))→idxV (.s (.str w.1)) i2=some (.s (.str [y]))→
   F (LA rows i j c 0 ci cj f x9 x10 (some (.s (.int cm))) (some (.am w)) (some (.s (.int i2)))) (A6 cur c l 0 b k t)=(if (x:Int)-y=0 then some (.nxt,LA rows i j c 0 ci cj f x9 (some (.s (.int ((x:Int)-y)))) (some (.s (.int (cm+1)))) (some (.am w)) (some (.s (.int i2))),A6 cur c l 0 b k t)
    else some (.brk,LA rows i j c 0 ci cj f x9 (some (.s (.int ((x:Int)-y)))) (some (.s (.int cm))) (some (.am w)) (some (.s (.int i2))),A6 cur c l 0 b k t)))
 f7:(∀ (rows:List Row) (i j c ci cj cm d kk:Int) (f:Bool) (x12 x13:Option MV) (at_:At),post (LA rows i j c 0 ci cj f (some (.s (.int kk))) (some (.s (.int d))) (some (.s (.int cm))) x12 x13) at_=
   (if d<0 then stepB rows i kk c 0 ci cm f (some (.s (.int kk))) (some (.s (.int d))) (some (.s (.int cm))) x12 x13 at_ else stepB rows kk j c 0 cm cj f (some (.s (.int kk))) (some (.s (.int d))) (some (.s (.int cm))) x12 x13 at_))
 f8:(∀ loc at_,T2 loc at_=some (true,at_))
 f9:(∀ (rows:List Row) (i j c ci cj:Int) (f:Bool) (x9 x10 x11 x12 x13:Option MV) (w:Row) (cur:List Nat) (l b k:Int) (t:At),0≤i→rows[i.toNat]? =some w→w.1.length≤1000→
   B2 (LA rows i j c 0 ci cj f x9 x10 x11 x12 x13) (A6 cur c l 0 b k t)=(if (w.1.length:Int)≤ci then some (.ret (.s (.int w.2.2)),LA rows i j c 0 ci cj f x9 x10 x11 (some (.am w)) x13,A6 cur (c-w.1.length) l 0 b k t)
    else if w.2.1<0 then some (.ret (.s (.int 0)),LA rows w.2.1 j c 0 ci cj f x9 x10 x11 (some (.am w)) x13,A6 cur c l 0 b k t) else some (.nxt,LA rows w.2.1 j c 0 ci cj f x9 x10 x11 (some (.am w)) x13,A6 cur c l 0 b k t)))
theorem shape140:Nonempty Qshape140:=by
 refine⟨⟨_,_,_,_,_,_,_,_,_,_,_,_,_,_,_,_,_,_,by unfold G140 pk140;dsimp only,?_,?_,?_,?_,?_,?_,?_,?_,?_⟩⟩
 ·intro K rows cur c l b k t
  simp! [opLen,List.replicate]
 ·intro loc at_
  simp! []
 ·intro K rows i j ci cj c f x9 x10 x11 x12 x13 at_ w hij hw
  have e1:=half_ok hij
  have e2:(if cj<ci then (cj:Int) else ci)=((min ci cj:Nat):Int):=by split<;>lia
  simp! [opMin,e1,e2,idxV,hw, -Int.natCast_add, -Int.natCast_ediv]
 ·intro rows i j c ci cj cm m f x9 x10 x13 at_ w hw hm hs
  have s1:smallI (-1)=true:=by decide
  have e1:(Str.ofString "s")=("s":Str):=rfl
  simp! [amV_s,opLen,hw,hm,hs,s1]
 ·intro rows i j c ci cj cm i2 f x9 x10 w at_ h
  simp! [h]
 ·intro rows i j c ci cj cm i2 f x9 x10 w cur l b k t x y h h1 h2
  by_cases hxy:(x:Int)-y=0<;>simp! [h,h1,h2,amV_s,opOrd,hxy]
 ·intro rows i j c ci cj cm d kk f x12 x13 at_
  refine step_of (fun i j ci cj=> ?_) (fun g0=> ?_) fun g0=> ?_
  ·unfold stepB
   by_cases g1:j-i≤1
   ·by_cases g3:0<i
    ·simp! [g1,g3]
    ·by_cases g4:j=i
     ·simp! [g1,g3,eq_true g4]
     ·cases f<;>simp! [g1,g3,g4]
   ·simp! [g1]
  ·simp! [g0]
  ·simp! [g0]
 ·intro loc at_
  simp! []
 ·intro rows i j c ci cj f x9 x10 x11 x12 x13 w cur l b k t h0 hw hl
  by_cases g1:(w.1.length:Int)≤ci<;>by_cases g2:w.2.1<0<;>simp! [idxV,h0,hw,amV_s,amV_i,amV_r,opLen,hl,g1,g2]
noncomputable def Kshape140:Qshape140:=Classical.choice shape140
section
noncomputable def Sy {α β:Type} (P:β→α→Prop) (X:α) (H:Option β):Prop:=∀ q,H=some q→P q X
section
variable {α β γ:Type} {P:β→α→Prop} {X:α} {C C':Prop} [Decidable C] [Decidable C']
theorem Sy.mk {q:β} (h:P q X):Sy P X (some q):=fun _ e=>Option.some.inj e▸h
theorem Sy.no:Sy P X none:=fun _ e=>nn e
theorem Sy.ob {o:Option γ} {k:γ→Option β} (h:∀ w,o=some w→Sy P X (k w)):Sy P X (o.bind k):=fun q e=>ob1 e fun w hw e=>h w hw q e
theorem Sy.br {P:β→Option α→Prop} {a b:Option γ} {K:γ→Option α} {x y:Option β} (e:C↔C') (h1:C'→Sy P (a.bind K) x) (h2:¬C'→Sy P (b.bind K) y):Sy P ((if C then a else b).bind K) (if C' then x else y):=by
 by_cases g:C'
 ·rw[if_pos g,if_pos (e.mpr g)];exact h1 g
 ·rw[if_neg g,if_neg (mt e.mp g)];exact h2 g
end
theorem goP_le {e:Bool}:∀ (b a:List Nat) (n m:Nat) (d:Int),goP e a b n=some (d,m)→m≤n+a.length:=by
 intro b
 induction b with
 |nil=>intro a n m d h;cases a<;>(cases h;lia)
 |cons y b ih=>
  intro a n m d h
  cases a with
  |nil=>
   unfold goP at h
   split at h
   ·cases h;lia
   ·cases h
  |cons x a=>
   unfold goP at h
   split at h
   ·have:=ih a (n+1) m d h
    simp;lia
   ·cases h;lia
theorem range_neg (m:Int) (h:m<0):rangeL m (-1) (-1)=[]:=by
 have hs:(Builtin.Range.rangeSize m (-1) (-1)).toNat=0:=by
  unfold Builtin.Range.rangeSize
  simp
  split<;>lia
 unfold rangeL
 rw[hs]
 rfl
theorem LA_set13 (rows:List Row) (i j c lb ci cj:Int) (f:Bool) (x9 x10 x11 x12 x13 v:Option MV):(LA rows i j c lb ci cj f x9 x10 x11 x12 x13).set 13 v=LA rows i j c lb ci cj f x9 x10 x11 x12 v:=rfl
section
variable {F:SF}
 (hF0:∀ (rows:List Row) (i j c ci cj cm i2:Int) (f:Bool) (x9 x10:Option MV) (w:Row) (at_:At),c-cm=0→F (LA rows i j c 0 ci cj f x9 x10 (some (.s (.int cm))) (some (.am w)) (some (.s (.int i2)))) at_=some (.brk,LA rows i j c 0 ci cj f x9 (some (.s (.int (-1)))) (some (.s (.int cm))) (some (.am w)) (some (.s (.int i2))),at_))
 (hF1:∀ (rows:List Row) (i j c ci cj cm i2:Int) (f:Bool) (x9 x10:Option MV) (w:Row) (cur:List Nat) (l b k:Int) (t:At) (x y:Nat),¬c-cm=0→idxV (.s (.str cur)) (c-1-cm)=some (.s (.str [x]))→idxV (.s (.str w.1)) i2=some (.s (.str [y]))→
   F (LA rows i j c 0 ci cj f x9 x10 (some (.s (.int cm))) (some (.am w)) (some (.s (.int i2)))) (A6 cur c l 0 b k t)=(if (x:Int)-y=0 then some (.nxt,LA rows i j c 0 ci cj f x9 (some (.s (.int ((x:Int)-y)))) (some (.s (.int (cm+1)))) (some (.am w)) (some (.s (.int i2))),A6 cur c l 0 b k t)
    else some (.brk,LA rows i j c 0 ci cj f x9 (some (.s (.int ((x:Int)-y)))) (some (.s (.int cm))) (some (.am w)) (some (.s (.int i2))),A6 cur c l 0 b k t)))
include hF0 hF1
theorem for_b (rows:List Row) (i j ci cj:Int) (f:Bool) (x9:Option MV) (w:Row) (z:List Nat) (l bb k:Int) (t:At) (hw:w.1.length≤100):∀ (b u a v:List Nat) (cm:Nat) (x13:Option MV) (r:List Nat),w.1.reverse=u++b→r=v++a→r.length≤100→u.length=cm→v.length=cm→
  Sy (fun q x=>∃ x13',x=some (.nxt,LA rows i j r.length 0 ci cj f x9 (some (.s (.int q.1))) (some (.s (.int q.2))) (some (.am w)) x13',A6 (r.reverse++z) r.length l 0 bb k t)) (forN (downL b.length) 13 F (LA rows i j r.length 0 ci cj f x9 (some (.s (.int 0))) (some (.s (.int cm))) (some (.am w)) x13) (A6 (r.reverse++z) r.length l 0 bb k t)) (goP true a b cm):=by
 intro b
 induction b with
 |nil=>
  intro u a v cm x13 r _ _ _ _ _
  have h:goP true a [] cm=some (0,cm):=by cases a<;>rfl
  rw[h]
  exact Sy.mk ⟨x13,rfl⟩
 |cons y b ih=>
  intro u a v cm x13 r hu hv hr hu2 hv2
  have hb:(u++y::b).length≤100:=by rw[←hu];simpa using hw
  have hw1:w.1=b.reverse++y::u.reverse:=by
   have:=congrArg List.reverse hu
   rw[List.reverse_reverse] at this
   rw[this];simp
  have hi2:idxV (.s (.str w.1)) (b.length:Int)=some (.s (.str [y])):=by
   rw[hw1]
   have:=idx_fwd b.reverse u.reverse y (by simp at hb ⊢;lia)
   rwa [List.length_reverse] at this
  show Sy _ (forN (.int (b.length:Nat)::downL b.length) 13 F _ _) _
  unfold forN
  rw[LA_set13]
  cases a with
  |nil=>
   have hc:(r.length:Int)-(cm:Int)=0:=by rw[hv,List.append_nil,hv2];lia
   rw[hF0 _ _ _ _ _ _ _ _ _ _ _ _ _ hc]
   exact Sy.mk (q:=(-1,cm)) ⟨_,rfl⟩
  |cons x a=>
   have hc:¬(r.length:Int)-(cm:Int)=0:=by rw[hv,List.length_append,List.length_cons,hv2];lia
   have hi1:idxV (.s (.str (r.reverse++z))) ((r.length:Int)-1-cm)=some (.s (.str [x])):=by
    have e:(r.length:Int)-1-cm=(a.reverse.length:Int):=by rw[hv,List.length_append,List.length_cons,hv2,List.length_reverse];lia
    have e2:r.reverse++z=a.reverse++x::(v.reverse++z):=by rw[hv];simp
    rw[e,e2]
    exact idx_fwd _ _ _ (by rw[hv] at hr;simp at hr ⊢;lia)
   rw[hF1 _ _ _ _ _ _ _ _ _ _ _ _ _ _ _ _ _ x y hc hi1 hi2]
   refine Sy.br Iff.rfl (fun g=> ?_) fun _=>Sy.mk ⟨_,rfl⟩
   simp only[Option.bind_some]
   rw[g]
   have e3:((cm:Int)+1)=((cm+1:Nat):Int):=by simp
   rw[e3]
   exact ih (u++[y]) a (v++[x]) (cm+1) _ r (by rw[hu];simp) (by rw[hv];simp) hr (by simp[hu2]) (by simp[hv2])
end
theorem seq_n {X Y:SF} {loc lc:Loc} {at_ a:At} (h:X loc at_=some (.nxt,lc,a)):fSeq X Y loc at_=Y lc a:=by
 unfold fSeq
 rw[h]
 rfl
noncomputable def FinLA (rows:List Row) (i:Int) (n lb ci:Int) (at_:At) (x:Option (Out×Loc×At)):Prop:=∃ (j cj:Int) (f:Bool) (y9 y10 y11 y12 y13:Option MV),x=some (.nxt,LA rows i j n lb ci cj f y9 y10 y11 y12 y13,at_)
theorem FinLA.mk {rows:List Row} {i j n lb ci cj:Int} {f:Bool} {y9 y10 y11 y12 y13:Option MV} {at_:At}:FinLA rows i n lb ci at_ (some (.nxt,LA rows i j n lb ci cj f y9 y10 y11 y12 y13,at_)):=wit8 rfl
theorem loopN_go {n:Nat} {t:CF} {b:SF} {loc:Loc} {at_:At} (hT:∀ loc at_,t loc at_=some (true,at_)):loopN (n+1) t b loc at_=(b loc at_).bind fun q=>(match q.1 with
   | .nxt | .cont=>loopN n t b q.2.1 q.2.2
   | .brk=>some (.nxt,q.2)
   |o=>some (o,q.2)):=by rw[loopN_succ,hT];rfl
noncomputable abbrev RLA (rows:List Row) (c lb:Int) (at_:At):Option (Out×Loc×At)→Option (Nat×Nat)→Prop:=Sy fun q x=>FinLA rows q.1 c lb q.2 at_ x
theorem step_sy {n:Nat} {T:CF} {B:SF} {rows:List Row} {c lb:Int} {at_:At} {i j ci cj:Nat} {f:Bool} {x9 x10 x11 x12 x13:Option MV} {bs:Bool→Option (Nat×Nat)} (hij:i≤j) (ih:∀ f,RLA rows c lb at_ (loopN n T B (LA rows i j c lb ci cj f x9 x10 x11 x12 x13) at_) (bs f)):
  RLA rows c lb at_ ((stepB rows i j c lb ci cj f x9 x10 x11 x12 x13 at_).bind fun q=>(match q.1 with
   | .nxt | .cont=>loopN n T B q.2.1 q.2.2
   | .brk=>some (.nxt,q.2)
   |o=>some (o,q.2))) (if j≤i+1 then (if 0<i then some (i,ci) else if j=i then some (i,ci) else if f then some (i,ci) else bs true) else bs f):=by
 unfold stepB
 exact Sy.br (by lia) (fun _=>Sy.br (by lia) (fun _=>.mk .mk) fun _=>Sy.br (by lia) (fun _=>.mk .mk) fun _=>Sy.br Iff.rfl (fun _=>.mk .mk) fun _=>ih true) fun _=>ih f
noncomputable abbrev LkR (a:Nat→At):Option (Out×Loc×At)→Option (Int×Nat)→Prop:=Sy fun q x=>∃ loc',x=some (.ret (.s (.int q.1)),loc',a q.2)
theorem goP_nil {a:List Nat} {n:Nat} {q:Int×Nat} (h:goP true a [] n=some q):(0,n)=q:=Option.some.inj ((by cases a<;>rfl:some (0,n)=goP true a [] n).trans h)
theorem run140 (rows:List Row) (hR:∀ w∈rows,w.1.length≤100) (r z:List Nat) (hr:r.length≤100) (l bb k:Int) (t:At) (res:Int) (len:Nat) (h:faP true (fun w=>w.1.reverse) rows r=some (res,len)):
  runBody 2 16 G140 [.self,.tab rows] (A6 (r.reverse++z) r.length l 0 bb k t)=some (.s (.int res),A6 (r.reverse++z) ((r.length:Int)-len) l 0 bb k t):=by
 refine ob2 h fun i0 ci0 hb hl=> ?_
 have search:∀ (n i j ci cj:Nat) (f:Bool) (x9 x10 x11 x12 x13:Option MV),i≤j→ci≤r.length→cj≤r.length→
   RLA rows r.length 0 (A6 (r.reverse++z) r.length l 0 bb k t) (loopN n Kshape140.T1 (fSeq Kshape140.b1 (fSeq Kshape140.b2 (fSeq Kshape140.b3 (fSeq Kshape140.b4 (fSeq (fun loc at_=>(Kshape140.fi loc at_).bind fun p=>forN p.1 13 Kshape140.F loc p.2) Kshape140.post))))) (LA rows i j r.length 0 ci cj f x9 x10 x11 x12 x13) (A6 (r.reverse++z) r.length l 0 bb k t)) (bsP true (fun w=>w.1.reverse) rows r n i j ci cj f):=by
  intro n
  induction n with
  |zero=>intro i j ci cj f x9 x10 x11 x12 x13 _ _ _;exact Sy.no
  |succ n ih=>
   intro i j ci cj f x9 x10 x11 x12 x13 hij hci hcj
   refine Sy.ob fun w hw=>Sy.ob fun q hg=> ?_
   obtain⟨d,m⟩:=q
   dsimp only at hg
   have hwl:=hR w (List.mem_of_getElem? hw)
   have hcm:min ci cj≤r.length:=by lia
   have hm:m≤r.length:=by
    have:=goP_le _ _ _ _ _ hg
    rw[List.length_drop] at this
    lia
   rw[loopN_go Kshape140.f2]
   rw[Kshape140.f3 _ _ _ _ _ _ _ _ _ _ _ _ _ _ w hij hw]
   have hrun:∃ y13,(Kshape140.fi (LA rows i j r.length 0 ci cj f (some (.s (.int (i+(j-i) / 2:Nat)))) (some (.s (.int 0))) (some (.s (.int (min ci cj:Nat)))) (some (.am w)) x13) (A6 (r.reverse++z) r.length l 0 bb k t)).bind (fun p=>forN p.1 13 Kshape140.F (LA rows i j r.length 0 ci cj f (some (.s (.int (i+(j-i) / 2:Nat)))) (some (.s (.int 0))) (some (.s (.int (min ci cj:Nat)))) (some (.am w)) x13) p.2)=
     some (.nxt,LA rows i j r.length 0 ci cj f (some (.s (.int (i+(j-i) / 2:Nat)))) (some (.s (.int d))) (some (.s (.int m))) (some (.am w)) y13,A6 (r.reverse++z) r.length l 0 bb k t):=by
    rw[Kshape140.f4 rows _ _ _ _ _ _ ((w.1.length:Int)-1-(min ci cj:Nat)) f _ _ _ _ w (by lia) rfl (by unfold smallI;simp;lia)]
    simp only[Option.bind_some]
    by_cases hle:min ci cj≤w.1.length
    ·have e1:(w.1.length:Int)-1-(min ci cj:Nat)=((w.1.reverse.drop (min ci cj)).length:Int)-1:=by rw[List.length_drop,List.length_reverse];lia
     rw[e1,range_down]
     exact for_b Kshape140.f5 Kshape140.f6 rows i j ci cj f _ w z l bb k t hwl _ (w.1.reverse.take (min ci cj)) (r.drop (min ci cj)) (r.take (min ci cj)) _ _ r (List.take_append_drop _ _).symm (List.take_append_drop _ _).symm hr (by simp;lia) (by simp;lia) (d,m) hg
    ·rw[range_neg _ (by lia)]
     have e2:w.1.reverse.drop (min ci cj)=[]:=by rw[List.drop_eq_nil_iff,List.length_reverse];lia
     rw[e2] at hg
     obtain⟨rfl,rfl⟩:=Prod.mk.inj (goP_nil hg)
     exact⟨_,rfl⟩
   obtain⟨y13,hrun⟩:=hrun
   have eS:fSeq (fun loc at_=>(Kshape140.fi loc at_).bind fun p=>forN p.1 13 Kshape140.F loc p.2) Kshape140.post (LA rows i j r.length 0 ci cj f (some (.s (.int (i+(j-i) / 2:Nat)))) (some (.s (.int 0))) (some (.s (.int (min ci cj:Nat)))) (some (.am w)) x13) (A6 (r.reverse++z) r.length l 0 bb k t)=
     Kshape140.post (LA rows i j r.length 0 ci cj f (some (.s (.int (i+(j-i) / 2:Nat)))) (some (.s (.int d))) (some (.s (.int m))) (some (.am w)) y13) (A6 (r.reverse++z) r.length l 0 bb k t):=by
    show (Option.bind _ _:Option (Out×Loc×At)).bind _=_
    rw[hrun]
    rfl
   rw[eS,Kshape140.f7]
   exact Sy.br Iff.rfl (fun _=>step_sy (bs:=bsP true (fun w=>w.1.reverse) rows r n i (i+(j-i) / 2) ci m) (by lia) fun f=>ih i _ ci m f _ _ _ _ _ (by lia) hci hm) fun _=>step_sy (bs:=bsP true (fun w=>w.1.reverse) rows r n (i+(j-i) / 2) j m cj) (by lia) fun f=>ih _ j m cj f _ _ _ _ _ (by lia) hm hcj
 have look:∀ (n i ci:Nat) (j cj:Int) (f:Bool) (x9 x10 x11 x12 x13:Option MV),
   LkR (fun len:Nat=>A6 (r.reverse++z) ((r.length:Int)-len) l 0 bb k t) (loopN n Kshape140.T2 Kshape140.B2 (LA rows i j r.length 0 ci cj f x9 x10 x11 x12 x13) (A6 (r.reverse++z) r.length l 0 bb k t)) (lkP rows n i ci):=by
  intro n
  induction n with
  |zero=>intro i ci j cj f x9 x10 x11 x12 x13;exact Sy.no
  |succ n ih=>
   intro i ci j cj f x9 x10 x11 x12 x13
   refine Sy.ob fun w hw=> ?_
   have hwl:=hR w (List.mem_of_getElem? hw)
   rw[loopN_go Kshape140.f8]
   rw[Kshape140.f9 rows i j _ ci cj f x9 x10 x11 x12 x13 w _ _ _ _ _ (by lia) (by simpa using hw) (by lia)]
   refine Sy.br (by lia) (fun _=>Sy.mk ?_) fun _=>Sy.br Iff.rfl (fun _=>Sy.mk ?_) fun g=> ?_
   ·exact⟨LA rows i j r.length 0 ci cj f x9 x10 x11 (some (.am w)) x13,rfl⟩
   ·refine⟨LA rows w.2.1 j r.length 0 ci cj f x9 x10 x11 (some (.am w)) x13,?_⟩
    show some (_,_,_)=some (_,_,A6 _ ((r.length:Int)-0) _ _ _ _ _)
    rw[Int.sub_zero]
   ·have e1:(w.2.1:Int)=((w.2.1.toNat:Nat):Int):=by lia
    rw[e1]
    exact ih _ ci j cj f _ _ _ _ _
 obtain⟨j',cj',f',y9,y10,y11,y12,y13,h1⟩:=search 60 0 rows.length 0 0 false none none none none none (Nat.zero_le _) (Nat.zero_le _) (Nat.zero_le _) (i0,ci0) hb
 obtain⟨loc',h2⟩:=look 60 i0 ci0 j' cj' f' y9 y10 y11 y12 y13 (res,len) hl
 rw[rb (by rfl),Kshape140.f0]
 show (fSeq Kshape140.a1 _ ([some .self,some (.tab rows)]++List.replicate 16 none) _).bind _=_
 rw[Kshape140.f1]
 refine (congrArg (fun x=>Option.bind x outR) (seq_n h1)).trans ?_
 unfold fSeq
 rw[h2]
 rfl
end
set_option genInjectivity false in
set_option genSizeOf false in
structure Qshape133 where
 a1:SF
 a2:SF
 a3:SF
 a4:SF
 a5:SF
 a6:SF
 a7:SF
 T1:CF
 b1:SF
 b2:SF
 b3:SF
 b4:SF
 fi:IF
 F:SF
 post:SF
 T2:CF
 B2:SF
 R:SF
 f0:G133=fSeq a1 (fSeq a2 (fSeq a3 (fSeq a4 (fSeq a5 (fSeq a6 (fSeq a7 (fSeq (loopN 60 T1 (fSeq b1 (fSeq b2 (fSeq b3 (fSeq b4 (fSeq (fun loc at_=>(fi loc at_).bind fun p=>forN p.1 13 F loc p.2) post)))))) (fSeq (loopN 60 T2 B2) R))))))))
 f1:(∀ (K:SF) (rows:List Row) (cur:List Nat) (c l lb b k:Int) (t:At),fSeq a1 (fSeq a2 (fSeq a3 (fSeq a4 (fSeq a5 (fSeq a6 (fSeq a7 K)))))) ([some .self,some (.tab rows)]++List.replicate 16 none) (A6 cur c l lb b k t)=K (LA rows 0 rows.length c l 0 0 false none none none none none) (A6 cur c l lb b k t))
 f2:(∀ loc at_,T1 loc at_=some (true,at_))
 f3:(∀ (K:SF) (rows:List Row) (i j ci cj:Nat) (c l:Int) (f:Bool) (x9 x10 x11 x12 x13:Option MV) (at_:At) (w:Row),i≤j→rows[i+(j-i) / 2]? =some w→fSeq b1 (fSeq b2 (fSeq b3 (fSeq b4 K))) (LA rows i j c l ci cj f x9 x10 x11 x12 x13) at_=K (LA rows i j c l ci cj f (some (.s (.int (i+(j-i) / 2:Nat)))) (some (.s (.int 0))) (some (.s (.int (min ci cj:Nat)))) (some (.am w)) x13) at_)
 f4:(∀ (rows:List Row) (i j c l ci cj cm:Int) (f:Bool) (x9 x10 x13:Option MV) (at_:At) (w:Row),w.1.length≤1000→smallI cm=true→fi (LA rows i j c l ci cj f x9 x10 (some (.s (.int cm))) (some (.am w)) x13) at_=some (rangeL cm w.1.length 1,at_))
 f5:(∀ (rows:List Row) (i j c l ci cj cm i2:Int) (f:Bool) (x9 x10:Option MV) (w:Row) (at_:At),c+cm=l→F (LA rows i j c l ci cj f x9 x10 (some (.s (.int cm))) (some (.am w)) (some (.s (.int i2)))) at_=some (.brk,LA rows i j c l ci cj f x9 (some (.s (.int (-1)))) (some (.s (.int cm))) (some (.am w)) (some (.s (.int i2))),at_))
 f6:(∀ (rows:List Row) (i j c l ci cj cm i2:Int) (f:Bool) (x9 x10:Option MV) (w:Row) (cur:List Nat) (lb b k:Int) (t:At) (x y:Nat),¬c+cm=l→idxV (.s (.str cur)) (c+cm)=some (.s (.str [x]))→idxV (.s (.str w.1)) i2=some (.s (.str [y]))→
   F (LA rows i j c l ci cj f x9 x10 (some (.s (.int cm))) (some (.am w)) (some (.s (.int i2)))) (A6 cur c l lb b k t)=(if (x:Int)-y=0 then some (.nxt,LA rows i j c l ci cj f x9 (some (.s (.int ((x:Int)-y)))) (some (.s (.int (cm+1)))) (some (.am w)) (some (.s (.int i2))),A6 cur c l lb b k t)
    else some (.brk,LA rows i j c l ci cj f x9 (some (.s (.int ((x:Int)-y)))) (some (.s (.int cm))) (some (.am w)) (some (.s (.int i2))),A6 cur c l lb b k t)))
 f7:(∀ (rows:List Row) (i j c l ci cj cm d kk:Int) (f:Bool) (x12 x13:Option MV) (at_:At),post (LA rows i j c l ci cj f (some (.s (.int kk))) (some (.s (.int d))) (some (.s (.int cm))) x12 x13) at_=
   (if d<0 then stepB rows i kk c l ci cm f (some (.s (.int kk))) (some (.s (.int d))) (some (.s (.int cm))) x12 x13 at_ else stepB rows kk j c l cm cj f (some (.s (.int kk))) (some (.s (.int d))) (some (.s (.int cm))) x12 x13 at_))
 f8:(∀ loc at_,T2 loc at_=some (true,at_))
 f9:(∀ (rows:List Row) (i j c l ci cj:Int) (f:Bool) (x9 x10 x11 x12 x13:Option MV) (w:Row) (cur:List Nat) (lb b k:Int) (t:At),0≤i→rows[i.toNat]? =some w→w.1.length≤1000→
   B2 (LA rows i j c l ci cj f x9 x10 x11 x12 x13) (A6 cur c l lb b k t)=(if (w.1.length:Int)≤ci then some (.ret (.s (.int w.2.2)),LA rows i j c l ci cj f x9 x10 x11 (some (.am w)) x13,A6 cur (c+w.1.length) l lb b k t)
    else if w.2.1<0 then some (.ret (.s (.int 0)),LA rows w.2.1 j c l ci cj f x9 x10 x11 (some (.am w)) x13,A6 cur c l lb b k t) else some (.nxt,LA rows w.2.1 j c l ci cj f x9 x10 x11 (some (.am w)) x13,A6 cur c l lb b k t)))
theorem shape133:Nonempty Qshape133:=by
 refine⟨⟨_,_,_,_,_,_,_,_,_,_,_,_,_,_,_,_,_,_,by unfold G133 pk133;dsimp only,?_,?_,?_,?_,?_,?_,?_,?_,?_⟩⟩
 ·intro K rows cur c l lb b k t
  simp! [opLen,List.replicate]
 ·intro loc at_
  simp! []
 ·intro K rows i j ci cj c l f x9 x10 x11 x12 x13 at_ w hij hw
  have e1:=half_ok hij
  have e2:(if cj<ci then (cj:Int) else ci)=((min ci cj:Nat):Int):=by split<;>lia
  simp! [opMin,e1,e2,idxV,hw, -Int.natCast_add, -Int.natCast_ediv]
 ·intro rows i j c l ci cj cm f x9 x10 x13 at_ w hw hs
  have s1:smallI (w.1.length:Int)=true:=by unfold smallI;simp;lia
  simp! [amV_s,opLen,hw,hs,s1]
 ·intro rows i j c l ci cj cm i2 f x9 x10 w at_ h
  simp! [h]
 ·intro rows i j c l ci cj cm i2 f x9 x10 w cur lb b k t x y h h1 h2
  by_cases hxy:(x:Int)-y=0<;>simp! [h,h1,h2,amV_s,opOrd,hxy]
 ·intro rows i j c l ci cj cm d kk f x12 x13 at_
  refine step_of (fun i j ci cj=> ?_) (fun g0=> ?_) fun g0=> ?_
  ·unfold stepB
   by_cases g1:j-i≤1
   ·by_cases g3:0<i
    ·simp! [g1,g3]
    ·by_cases g4:j=i
     ·simp! [g1,g3,eq_true g4]
     ·cases f<;>simp! [g1,g3,g4]
   ·simp! [g1]
  ·simp! [g0]
  ·simp! [g0]
 ·intro loc at_
  simp! []
 ·intro rows i j c l ci cj f x9 x10 x11 x12 x13 w cur lb b k t h0 hw hl
  by_cases g1:(w.1.length:Int)≤ci<;>by_cases g2:w.2.1<0<;>simp! [idxV,h0,hw,amV_s,amV_i,amV_r,opLen,hl,g1,g2]
noncomputable def Kshape133:Qshape133:=Classical.choice shape133
section
noncomputable def upL:Nat→Nat→List SV
 |_,0=>[]
 |k,n+1=>.int k::upL (k+1) n
theorem range_up (a b:Nat):rangeL (a:Int) (b:Int) 1=upL a (b-a):=by
 have hs:(Builtin.Range.rangeSize (a:Int) (b:Int) 1).toNat=b-a:=by
  unfold Builtin.Range.rangeSize
  simp
  split<;>lia
 unfold rangeL
 rw[hs]
 have key:∀ (n a:Nat),(List.range n).map (fun i=>SV.int ((a:Int)+(i:Nat)*1))=upL a n:=by
  intro n
  induction n with
  |zero=>intro a;rfl
  |succ n ih=>
   intro a
   rw[List.range_succ_eq_map,List.map_cons,List.map_map]
   show _::_=SV.int a::upL (a+1) n
   rw[←ih]
   refine congr (congrArg List.cons ?_) (List.map_congr_left fun i _=> ?_)
   ·show SV.int _=SV.int _
    congr 1
   ·show SV.int _=SV.int _
    congr 1
    simp
    lia
 exact key _ _
section
variable {F:SF}
 (hF0:∀ (rows:List Row) (i j c l ci cj cm i2:Int) (f:Bool) (x9 x10:Option MV) (w:Row) (at_:At),c+cm=l→F (LA rows i j c l ci cj f x9 x10 (some (.s (.int cm))) (some (.am w)) (some (.s (.int i2)))) at_=some (.brk,LA rows i j c l ci cj f x9 (some (.s (.int (-1)))) (some (.s (.int cm))) (some (.am w)) (some (.s (.int i2))),at_))
 (hF1:∀ (rows:List Row) (i j c l ci cj cm i2:Int) (f:Bool) (x9 x10:Option MV) (w:Row) (cur:List Nat) (lb b k:Int) (t:At) (x y:Nat),¬c+cm=l→idxV (.s (.str cur)) (c+cm)=some (.s (.str [x]))→idxV (.s (.str w.1)) i2=some (.s (.str [y]))→
   F (LA rows i j c l ci cj f x9 x10 (some (.s (.int cm))) (some (.am w)) (some (.s (.int i2)))) (A6 cur c l lb b k t)=(if (x:Int)-y=0 then some (.nxt,LA rows i j c l ci cj f x9 (some (.s (.int ((x:Int)-y)))) (some (.s (.int (cm+1)))) (some (.am w)) (some (.s (.int i2))),A6 cur c l lb b k t)
    else some (.brk,LA rows i j c l ci cj f x9 (some (.s (.int ((x:Int)-y)))) (some (.s (.int cm))) (some (.am w)) (some (.s (.int i2))),A6 cur c l lb b k t)))
include hF0 hF1
theorem for_f (rows:List Row) (i j ci cj:Int) (f:Bool) (x9:Option MV) (w:Row) (p:List Nat) (lb bb k:Int) (t:At) (hp:p.length≤100) (hw:w.1.length≤100):∀ (b u a v:List Nat) (cm:Nat) (x13:Option MV) (r:List Nat),w.1=u++b→r=v++a→r.length≤100→u.length=cm→v.length=cm→
  Sy (fun q x=>∃ x13',x=some (.nxt,LA rows i j p.length (p.length+r.length:Nat) ci cj f x9 (some (.s (.int q.1))) (some (.s (.int q.2))) (some (.am w)) x13',A6 (p++r) p.length (p.length+r.length:Nat) lb bb k t)) (forN (upL cm b.length) 13 F (LA rows i j p.length (p.length+r.length:Nat) ci cj f x9 (some (.s (.int 0))) (some (.s (.int cm))) (some (.am w)) x13) (A6 (p++r) p.length (p.length+r.length:Nat) lb bb k t)) (goP true a b cm):=by
 intro b
 induction b with
 |nil=>
  intro u a v cm x13 r _ _ _ _ _
  have h:goP true a [] cm=some (0,cm):=by cases a<;>rfl
  rw[h]
  exact Sy.mk ⟨x13,rfl⟩
 |cons y b ih=>
  intro u a v cm x13 r hu hv hr hu2 hv2
  have hb:(u++y::b).length≤100:=by rw[←hu];exact hw
  have hi2:idxV (.s (.str w.1)) (cm:Int)=some (.s (.str [y])):=by
   rw[hu,←hu2]
   exact idx_fwd u b y (by simp at hb ⊢;lia)
  show Sy _ (forN (.int (cm:Nat)::upL (cm+1) b.length) 13 F _ _) _
  unfold forN
  rw[LA_set13]
  cases a with
  |nil=>
   have hc:(p.length:Int)+(cm:Int)=((p.length+r.length:Nat):Int):=by rw[hv,List.append_nil,hv2];lia
   rw[hF0 _ _ _ _ _ _ _ _ _ _ _ _ _ _ hc]
   exact Sy.mk (q:=(-1,cm)) ⟨_,rfl⟩
  |cons x a=>
   have hc:¬(p.length:Int)+(cm:Int)=((p.length+r.length:Nat):Int):=by rw[hv,List.length_append,List.length_cons,hv2];lia
   have hi1:idxV (.s (.str (p++r))) ((p.length:Int)+cm)=some (.s (.str [x])):=by
    have e:(p.length:Int)+cm=((p++v).length:Int):=by rw[List.length_append,hv2];lia
    have e2:p++r=(p++v)++x::a:=by rw[hv];simp
    rw[e,e2]
    exact idx_fwd _ _ _ (by rw[hv] at hr;simp at hr ⊢;lia)
   rw[hF1 _ _ _ _ _ _ _ _ _ _ _ _ _ _ _ _ _ _ x y hc hi1 hi2]
   refine Sy.br Iff.rfl (fun g=> ?_) fun _=>Sy.mk ⟨_,rfl⟩
   simp only[Option.bind_some]
   rw[g]
   have e3:((cm:Int)+1)=((cm+1:Nat):Int):=by simp
   rw[e3]
   exact ih (u++[y]) a (v++[x]) (cm+1) _ r (by rw[hu];simp) (by rw[hv];simp) hr (by simp[hu2]) (by simp[hv2])
end
theorem run133 (rows:List Row) (hR:∀ w∈rows,w.1.length≤100) (p r:List Nat) (hp:p.length≤100) (hr:r.length≤100) (lb bb k:Int) (t:At) (res:Int) (len:Nat) (h:faP true (fun w=>w.1) rows r=some (res,len)):
  runBody 2 16 G133 [.self,.tab rows] (A6 (p++r) p.length (p.length+r.length:Nat) lb bb k t)=some (.s (.int res),A6 (p++r) ((p.length:Int)+len) (p.length+r.length:Nat) lb bb k t):=by
 refine ob2 h fun i0 ci0 hb hl=> ?_
 have search:∀ (n i j ci cj:Nat) (f:Bool) (x9 x10 x11 x12 x13:Option MV),i≤j→ci≤r.length→cj≤r.length→
   RLA rows p.length (p.length+r.length:Nat) (A6 (p++r) p.length (p.length+r.length:Nat) lb bb k t) (loopN n Kshape133.T1 (fSeq Kshape133.b1 (fSeq Kshape133.b2 (fSeq Kshape133.b3 (fSeq Kshape133.b4 (fSeq (fun loc at_=>(Kshape133.fi loc at_).bind fun p=>forN p.1 13 Kshape133.F loc p.2) Kshape133.post))))) (LA rows i j p.length (p.length+r.length:Nat) ci cj f x9 x10 x11 x12 x13) (A6 (p++r) p.length (p.length+r.length:Nat) lb bb k t)) (bsP true (fun w=>w.1) rows r n i j ci cj f):=by
  intro n
  induction n with
  |zero=>intro i j ci cj f x9 x10 x11 x12 x13 _ _ _;exact Sy.no
  |succ n ih=>
   intro i j ci cj f x9 x10 x11 x12 x13 hij hci hcj
   refine Sy.ob fun w hw=>Sy.ob fun q hg=> ?_
   obtain⟨d,m⟩:=q
   dsimp only at hg
   have hwl:=hR w (List.mem_of_getElem? hw)
   have hcm:min ci cj≤r.length:=by lia
   have hm:m≤r.length:=by
    have:=goP_le _ _ _ _ _ hg
    rw[List.length_drop] at this
    lia
   rw[loopN_go Kshape133.f2]
   rw[Kshape133.f3 _ _ _ _ _ _ _ _ _ _ _ _ _ _ _ w hij hw]
   have hrun:∃ y13,(Kshape133.fi (LA rows i j p.length (p.length+r.length:Nat) ci cj f (some (.s (.int (i+(j-i) / 2:Nat)))) (some (.s (.int 0))) (some (.s (.int (min ci cj:Nat)))) (some (.am w)) x13) (A6 (p++r) p.length (p.length+r.length:Nat) lb bb k t)).bind (fun qq=>forN qq.1 13 Kshape133.F (LA rows i j p.length (p.length+r.length:Nat) ci cj f (some (.s (.int (i+(j-i) / 2:Nat)))) (some (.s (.int 0))) (some (.s (.int (min ci cj:Nat)))) (some (.am w)) x13) qq.2)=
     some (.nxt,LA rows i j p.length (p.length+r.length:Nat) ci cj f (some (.s (.int (i+(j-i) / 2:Nat)))) (some (.s (.int d))) (some (.s (.int m))) (some (.am w)) y13,A6 (p++r) p.length (p.length+r.length:Nat) lb bb k t):=by
    rw[Kshape133.f4 rows _ _ _ _ _ _ _ f _ _ _ _ w (by lia) (by unfold smallI;simp;lia)]
    simp only[Option.bind_some]
    rw[range_up]
    by_cases hle:min ci cj≤w.1.length
    ·have e1:w.1.length-min ci cj=(w.1.drop (min ci cj)).length:=by rw[List.length_drop]
     rw[e1]
     exact for_f Kshape133.f5 Kshape133.f6 rows i j ci cj f _ w p lb bb k t hp hwl _ (w.1.take (min ci cj)) (r.drop (min ci cj)) (r.take (min ci cj)) _ _ r (List.take_append_drop _ _).symm (List.take_append_drop _ _).symm hr (by simp;lia) (by simp;lia) (d,m) hg
    ·have e3:w.1.length-min ci cj=0:=by lia
     rw[e3]
     have e2:w.1.drop (min ci cj)=[]:=by rw[List.drop_eq_nil_iff];lia
     rw[e2] at hg
     obtain⟨rfl,rfl⟩:=Prod.mk.inj (goP_nil hg)
     exact⟨_,rfl⟩
   obtain⟨y13,hrun⟩:=hrun
   have eS:fSeq (fun loc at_=>(Kshape133.fi loc at_).bind fun p=>forN p.1 13 Kshape133.F loc p.2) Kshape133.post (LA rows i j p.length (p.length+r.length:Nat) ci cj f (some (.s (.int (i+(j-i) / 2:Nat)))) (some (.s (.int 0))) (some (.s (.int (min ci cj:Nat)))) (some (.am w)) x13) (A6 (p++r) p.length (p.length+r.length:Nat) lb bb k t)=
     Kshape133.post (LA rows i j p.length (p.length+r.length:Nat) ci cj f (some (.s (.int (i+(j-i) / 2:Nat)))) (some (.s (.int d))) (some (.s (.int m))) (some (.am w)) y13) (A6 (p++r) p.length (p.length+r.length:Nat) lb bb k t):=by
    show (Option.bind _ _:Option (Out×Loc×At)).bind _=_
    rw[hrun]
    rfl
   rw[eS,Kshape133.f7]
   exact Sy.br Iff.rfl (fun _=>step_sy (bs:=bsP true (fun w=>w.1) rows r n i (i+(j-i) / 2) ci m) (by lia) fun f=>ih i _ ci m f _ _ _ _ _ (by lia) hci hm) fun _=>step_sy (bs:=bsP true (fun w=>w.1) rows r n (i+(j-i) / 2) j m cj) (by lia) fun f=>ih _ j m cj f _ _ _ _ _ (by lia) hm hcj
 have look:∀ (n i ci:Nat) (j cj:Int) (f:Bool) (x9 x10 x11 x12 x13:Option MV),
   LkR (fun len:Nat=>A6 (p++r) ((p.length:Int)+len) (p.length+r.length:Nat) lb bb k t) (loopN n Kshape133.T2 Kshape133.B2 (LA rows i j p.length (p.length+r.length:Nat) ci cj f x9 x10 x11 x12 x13) (A6 (p++r) p.length (p.length+r.length:Nat) lb bb k t)) (lkP rows n i ci):=by
  intro n
  induction n with
  |zero=>intro i ci j cj f x9 x10 x11 x12 x13;exact Sy.no
  |succ n ih=>
   intro i ci j cj f x9 x10 x11 x12 x13
   refine Sy.ob fun w hw=> ?_
   have hwl:=hR w (List.mem_of_getElem? hw)
   rw[loopN_go Kshape133.f8]
   rw[Kshape133.f9 rows i j _ _ ci cj f x9 x10 x11 x12 x13 w _ _ _ _ _ (by lia) (by simpa using hw) (by lia)]
   refine Sy.br (by lia) (fun _=>Sy.mk ?_) fun _=>Sy.br Iff.rfl (fun _=>Sy.mk ?_) fun g=> ?_
   ·exact⟨LA rows i j p.length (p.length+r.length:Nat) ci cj f x9 x10 x11 (some (.am w)) x13,rfl⟩
   ·refine⟨LA rows w.2.1 j p.length (p.length+r.length:Nat) ci cj f x9 x10 x11 (some (.am w)) x13,?_⟩
    show some (_,_,_)=some (_,_,A6 _ ((p.length:Int)+0) _ _ _ _ _)
    rw[Int.add_zero]
   ·have e1:(w.2.1:Int)=((w.2.1.toNat:Nat):Int):=by lia
    rw[e1]
    exact ih _ ci j cj f _ _ _ _ _
 obtain⟨j',cj',f',y9,y10,y11,y12,y13,h1⟩:=search 60 0 rows.length 0 0 false none none none none none (Nat.zero_le _) (Nat.zero_le _) (Nat.zero_le _) (i0,ci0) hb
 obtain⟨loc',h2⟩:=look 60 i0 ci0 j' cj' f' y9 y10 y11 y12 y13 (res,len) hl
 rw[rb (by rfl),Kshape133.f0]
 show (fSeq Kshape133.a1 _ ([some .self,some (.tab rows)]++List.replicate 16 none) _).bind _=_
 rw[Kshape133.f1]
 refine (congrArg (fun x=>Option.bind x outR) (seq_n h1)).trans ?_
 unfold fSeq
 rw[h2]
 rfl
end
section
open Mine.Pl (rs2 rs3 rs4)
theorem goP_mono {e:Bool}:∀ (b a t:List Nat) (n:Nat) (v:Int×Nat),goP false a b n=some v→goP e (a++t) b n=some v:=by
 intro b
 induction b with
 |nil=>
  intro a t n v h
  have:(0,n)=v:=by cases a<;>(cases h;rfl)
  subst this
  cases a++t<;>rfl
 |cons y b ih=>
  intro a t n v h
  cases a with
  |nil=>unfold goP at h;simp at h
  |cons x a=>
   unfold goP at h
   rw[List.cons_append]
   unfold goP
   split at h
   ·rename_i g
    rw[if_pos g]
    exact ih a t _ v h
   ·rename_i g
    rw[if_neg g]
    exact h
theorem goP_drop {e:Bool} (b r t:List Nat) (k n:Nat) (v:Int×Nat) (h:goP false (r.drop k) b n=some v):goP e ((r++t).drop k) b n=some v:=by
 by_cases g:k≤r.length
 ·rw[List.drop_append_of_le_length g]
  exact goP_mono b _ t n v h
 ·rw[List.drop_eq_nil_of_le (by lia)] at h
  cases b with
  |nil=>
   have:(0,n)=v:=by cases h;rfl
   subst this
   cases (r++t).drop k<;>rfl
  |cons y b=>unfold goP at h;simp at h
theorem bsP_mono {e:Bool} {key:Row→List Nat} {rows:List Row} {r t:List Nat}:∀ (n i j ci cj:Nat) (f:Bool) (v:Nat×Nat),bsP false key rows r n i j ci cj f=some v→bsP e key rows (r++t) n i j ci cj f=some v:=by
 intro n
 induction n with
 |zero=>intro i j ci cj f v h;cases h
 |succ n ih=>
  intro i j ci cj f v h
  unfold bsP at h ⊢
  refine ob1 h fun w hw h=> ?_
  refine ob1 h fun q hq h=> ?_
  rw[hw,Option.bind_some,goP_drop _ _ _ _ _ _ hq,Option.bind_some]
  split at h
  ·rename_i g0
   rw[if_pos g0]
   split at h
   ·rename_i g1
    rw[if_pos g1]
    split at h
    ·rename_i g2;rw[if_pos g2];exact h
    ·rename_i g2
     rw[if_neg g2]
     split at h
     ·rename_i g3;rw[if_pos g3];exact h
     ·rename_i g3
      rw[if_neg g3]
      split at h
      ·rename_i g4;rw[if_pos g4];exact h
      ·rename_i g4;rw[if_neg g4];exact ih _ _ _ _ _ _ h
   ·rename_i g1
    rw[if_neg g1]
    exact ih _ _ _ _ _ _ h
  ·rename_i g0
   rw[if_neg g0]
   split at h
   ·rename_i g1
    rw[if_pos g1]
    split at h
    ·rename_i g2;rw[if_pos g2];exact h
    ·rename_i g2
     rw[if_neg g2]
     split at h
     ·rename_i g3;rw[if_pos g3];exact h
     ·rename_i g3
      rw[if_neg g3]
      split at h
      ·rename_i g4;rw[if_pos g4];exact h
      ·rename_i g4;rw[if_neg g4];exact ih _ _ _ _ _ _ h
   ·rename_i g1
    rw[if_neg g1]
    exact ih _ _ _ _ _ _ h
theorem faP_mono {key:Row→List Nat} {rows:List Row} {r t:List Nat} {v:Int×Nat} (h:faP false key rows r=some v):faP true key rows (r++t)=some v:=by
 unfold faP at h ⊢
 refine ob1 h fun p hp h=> ?_
 rw[bsP_mono _ _ _ _ _ _ _ hp,Option.bind_some]
 exact h
noncomputable def isPre:List Nat→List Nat→Option Bool
 | [],_=>some true
 |_::_,[]=>none
 |y::b,x::a=>if y=x then isPre b a else some false
theorem isPre_ok:∀ (b a t:List Nat) (v:Bool),isPre b a=some v→b.isPrefixOf (a++t)=v:=by
 intro b
 induction b with
 |nil=>intro a t v h;cases h;cases a++t<;>rfl
 |cons y b ih=>
  intro a t v h
  cases a with
  |nil=>cases h
  |cons x a=>
   unfold isPre at h
   rw[List.cons_append,List.isPrefixOf_cons₂]
   split at h
   ·rename_i g
    rw[ih a t v h,g]
    simp
   ·rename_i g
    cases h
    simp[g]
noncomputable def ruleS:List (List Nat×Int)→List Nat→Int×Nat
 | [],_=>(0,0)
 |p::rs,r=>if p.1.isPrefixOf r then (p.2,p.1.length) else ruleS rs r
noncomputable def ruleP:List (List Nat×Int)→List Nat→Option (Int×Nat)
 | [],_=>some (0,0)
 |p::rs,r=>(isPre p.1 r).bind fun b=>if b then some (p.2,p.1.length) else ruleP rs r
theorem ruleP_ok:∀ (rs:List (List Nat×Int)) (r t:List Nat) (v:Int×Nat),ruleP rs r=some v→ruleS rs (r++t)=v:=by
 intro rs
 induction rs with
 |nil=>intro r t v h;cases h;rfl
 |cons p rs ih=>
  intro r t v h
  unfold ruleP at h
  refine ob1 h fun b hb h=> ?_
  unfold ruleS
  rw[isPre_ok _ _ t _ hb]
  split at h
  ·rename_i g
   rw[if_pos g]
   cases h;rfl
  ·rename_i g
   rw[if_neg g]
   exact ih r t v h
noncomputable def signsN:List Nat:=[101,110,97,116,105,114,100,111,115,108,103,118,104,107,109,117,98,112,119,106,122,99,102,120,121,113,232,225,228,233,235,237,239,243,246,250,252,65,201,234,39,45,73,89]
noncomputable def treeOk (key:Row→List Nat) (rows:List Row) (rs:List (List Nat×Int)):Nat→List Nat→Bool
 |0,_=>false
 |n+1,kn=>match faP false key rows kn with
  |some v=>ruleP rs kn==some v
  |none=>(faP true key rows kn==some (ruleS rs kn))&&signsN.all fun c=>treeOk key rows rs n (kn++[c])
theorem tree_ok {key:Row→List Nat} {rows:List Row} {rs:List (List Nat×Int)}:∀ (n:Nat) (kn:List Nat),treeOk key rows rs n kn=true→∀ t:List Nat,(∀ x∈t,x∈signsN)→faP true key rows (kn++t)=some (ruleS rs (kn++t)):=by
 intro n
 induction n with
 |zero=>intro kn h;cases h
 |succ n ih=>
  intro kn h t ht
  unfold treeOk at h
  split at h
  ·rename_i v e
   rw[faP_mono e]
   have h:=beq_iff_eq.mp h
   rw[ruleP_ok rs kn t v h]
  ·obtain⟨h1,h2⟩:=Bool.and_eq_true_iff.mp h
   cases t with
   |nil=>rw[List.append_nil];exact beq_iff_eq.mp h1
   |cons c t=>
    have hc:=List.all_eq_true.mp h2 c (ht c (.head _))
    have:=ih (kn++[c]) hc t fun x hx=>ht x (.tail _ hx)
    simpa using this
noncomputable abbrev kB:Row→List Nat:=fun w=>w.1.reverse
noncomputable abbrev kF:Row→List Nat:=fun w=>w.1
noncomputable def rs5:List (List Nat×Int):=[([97,97], -1),([101,101], -1),([111,111], -1),([117,117], -1)]
noncomputable def rs0:List (List Nat×Int):=[([225],1),([228],1),([233],2),([235],2),([237],3),([239],3),([243],4),([246],4),([250],5),([252],5),([],6)]
noncomputable def rs1:List (List Nat×Int):=[([73],2),([89],1),([],3)]
theorem t2:treeOk kB tb358 rs2 8 []=true:=by decide+kernel
theorem t3:treeOk kB tb374 rs3 8 []=true:=by decide+kernel
theorem t4:treeOk kB tb393 rs4 8 []=true:=by decide+kernel
theorem t5:treeOk kB tb406 rs5 8 []=true:=by decide+kernel
theorem t0:treeOk kF tb338 rs0 8 []=true:=by decide+kernel
theorem t1:treeOk kF tb348 rs1 8 []=true:=by decide+kernel
end
section
open Mine.Pl (vowN vowIN vowJN undR enR gemR eR st3 igR hd pick enAfter rs2 rs3 rs4)
theorem run276a {cur p:List Nat} {N b k res c':Int} {t:At} (hN:¬N≤0) (h140:runBody 2 16 G140 [.self,.tab tb358] (A6 cur N N 0 b k t)=some (.s (.int res),A6 cur c' N 0 b k t)) (hres:¬res=0)
  (h161:runBody 1 0 G161 [.self] (A6 cur (N-1) N 0 (N-1) N t)=some (.s .none,A6 p (N-1) (N-1) 0 (N-1) (N-1) t)):runBody 1 2 G276 [.self] (A6 cur N N 0 b k t)=some (.s (.bool true),A6 p (N-1) (N-1) 0 (N-1) (N-1) t):=by
 rw[rb (by rfl)]
 unfold G276 pk276
 simp! [outR,h140,hres,hN,h161]
theorem run276z {cur:List Nat} {N b k:Int} {t:At} (h140:runBody 2 16 G140 [.self,.tab tb358] (A6 cur N N 0 b k t)=some (.s (.int 0),A6 cur N N 0 b k t)):runBody 1 2 G276 [.self] (A6 cur N N 0 b k t)=some (.s (.bool false),A6 cur N N 0 b k t):=by
 rw[rb (by rfl)]
 unfold G276 pk276
 simp! [outR,h140]
theorem del_last (x:Nat) (r:List Nat) (h:r.length≤100) (c lb b k:Int) (t:At) (N:Int) (hN:N=((x::r).length:Int)):runBody 1 0 G161 [.self] (A6 (x::r).reverse (N-1) N lb (N-1) N t)=some (.s .none,A6 r.reverse (N-1) (N-1) lb (N-1) (N-1) t):=by
 have hp:sliceL (x::r).reverse (some 0) (some (N-1))=r.reverse:=by
  have e:N-1=(r.length:Int):=by rw[hN];simp
  rw[e]
  have:=slice_pre r [x]
  simpa using this
 have hq:sliceL (x::r).reverse (some N) none=[]:=by
  rw[hN,slice_from_nat]
  simp
 have e:=run161a r.reverse [] (x::r).reverse (N-1) N lb (N-1) N t hp hq (by simp<;>lia) (by simp<;>lia) (by simp<;>lia) (by rw[hN];simp<;>lia) (by lia) (by lia) (by rw[hN];simp)
 rw[e]
 have e1:¬N≤N-1:=by lia
 have e2:¬N-1<N-1:=by lia
 have e3:N+(0-(N-(N-1)))=N-1:=by lia
 rw[if_neg e1,if_neg e2,e3,List.append_nil]
noncomputable abbrev AR (r:List Nat) (c b k:Int) (t:At):At:=A6 r.reverse c r.length 0 b k t
noncomputable def FbG {α:Type} (tb:List Row) (cur r:List Nat) (l b k:Int) (t:At) (G:α→Prop) (v:Int×Nat) (q:α):Prop:=runBody 2 16 G140 [.self,.tab tb] (A6 cur r.length l 0 b k t)=some (.s (.int v.1),A6 cur ((r.length:Int)-v.2) l 0 b k t)→G q
theorem fbz {α:Type} {q:α} {G:α→Prop} {tb:List Row} {rs:List (List Nat×Int)} (T:treeOk kB tb rs 8 []=true) (hR:∀ w∈tb,w.1.length≤100) {r z:List Nat} (hr:r.length≤100) (hs:∀ x∈r,x∈signsN) {l b k:Int} {t:At} (h:FbG tb (r.reverse++z) r l b k t G (ruleS rs r) q):G q:=
 h (run140 tb hR r z hr l b k t _ _ (by have:=tree_ok 8 [] T r hs;simpa using this))
theorem fb0 {α:Type} {q:α} {G:α→Prop} {tb:List Row} {rs:List (List Nat×Int)} (T:treeOk kB tb rs 8 []=true) (hR:∀ w∈tb,w.1.length≤100) {r:List Nat} (hr:r.length≤100) (hs:∀ x∈r,x∈signsN) {l b k:Int} {t:At} (h:FbG tb r.reverse r l b k t G (ruleS rs r) q):G q:=
 fbz (z:=[]) T hR hr hs (by rw[List.append_nil];exact h)
theorem fb_end {α:Type} {d:α} {f:Int→List Nat→α} {G:α→Prop} {tb:List Row} {cur r:List Nat} {l b k:Int} {t:At} (h:runBody 2 16 G140 [.self,.tab tb] (A6 cur r.length l 0 b k t)=some (.s (.int 0),A6 cur r.length l 0 b k t)→G d):FbG tb cur r l b k t G (ruleS [] r) (pick d f r []):=fun key=>h (key.trans (by show some (_,A6 cur ((r.length:Int)-0) l 0 b k t)=_;rw[Int.sub_zero];rfl))
theorem fb_row {α:Type} {d:α} {f:Int→List Nat→α} {G:α→Prop} {tb:List Row} {cur r s:List Nat} {n l b k:Int} {t:At} {rs:List (List Nat×Int)} (h:∀ u,r=s++u→runBody 2 16 G140 [.self,.tab tb] (A6 cur r.length l 0 b k t)=some (.s (.int n),A6 cur u.length l 0 b k t)→G (f n u)) (g:FbG tb cur r l b k t G (ruleS rs r) (pick d f r rs)):FbG tb cur r l b k t G (ruleS ((s,n)::rs) r) (pick d f r ((s,n)::rs)):=by
 unfold ruleS
 refine Pl.pick_row (M:=fun q=>FbG tb cur r l b k t G (if s.isPrefixOf r then (n,s.length) else ruleS rs r) q) (fun u e key=>h u e ?_) fun q=> ?_
 ·have p:s.isPrefixOf r=true:=List.isPrefixOf_iff_prefix.mpr ⟨u,e.symm⟩
  have hc:(r.length:Int)-(s.length:Nat)=u.length:=by rw[e,List.length_append];lia
  rw[p,if_pos rfl,hc] at key
  exact key
 ·show FbG tb cur r l b k t G (if s.isPrefixOf r=true then (n,s.length) else ruleS rs r) _
  rw[q,if_neg (by decide)]
  exact g
theorem short2:∀ w∈tb358,w.1.length≤100:=by decide+kernel
theorem short3:∀ w∈tb374,w.1.length≤100:=by decide+kernel
theorem short4:∀ w∈tb393,w.1.length≤100:=by decide+kernel
theorem short5:∀ w∈tb406,w.1.length≤100:=by decide+kernel
theorem short0:∀ w∈tb338,w.1.length≤100:=by decide+kernel
theorem short1:∀ w∈tb348,w.1.length≤100:=by decide+kernel
noncomputable def R276 (r:List Nat) (b k:Int) (t:At) (q:List Nat):Prop:=∃ ret b' k',runBody 1 2 G276 [.self] (AR r r.length b k t)=some (.s (.bool ret),AR q q.length b' k' t)
theorem run276 (r:List Nat) (hr:r.length≤100) (hs:∀ x∈r,x∈signsN) (b k:Int) (t:At):R276 r b k t (undR r):=by
 have dbl:∀ (x:Nat) (u:List Nat),r=[x,x]++u→runBody 2 16 G140 [.self,.tab tb358] (A6 r.reverse r.length r.length 0 b k t)=some (.s (.int (-1)),A6 r.reverse u.length r.length 0 b k t)→R276 r b k t r.tail:=by
  rintro x u rfl key
  have hN:(([x,x]++u).length:Int)-1=((x::u).length:Int):=by simp<;>lia
  have:=run276a (by simp;lia) key (by decide) (del_last x (x::u) (by simp at hr ⊢;lia) 0 0 0 0 t _ rfl)
  rw[hN] at this
  exact wit3 this
 exact fb0 t2 short2 hr hs (fb_row (dbl 100) (fb_row (dbl 107) (fb_row (dbl 116) (fb_end fun key=>wit3 (run276z key)))))
end
section
open Mine.Pl (vowN vowIN vowJN undR enR gemR eR st3 igR hd pick enAfter rs2 rs3 rs4)
theorem vA_eq:vA=[[97],[101],[105],[111],[117],[121],[232]]:=by kernel_rfl
theorem vI_eq:vI=[[73],[97],[101],[105],[111],[117],[121],[232]]:=by kernel_rfl
theorem vJ_eq:vJ=[[97],[101],[105],[106],[111],[117],[121],[232]]:=by kernel_rfl
theorem one_beq (x y:Nat):(([x]:List Nat)==[y])=(x==y):=by simp
theorem vA_vow (x:Nat):vA.contains [x]=vowN x:=by
 rw[vA_eq]
 simp only[List.contains_cons,List.contains_nil,one_beq,Bool.or_false,vowN,Bool.or_assoc]
theorem vI_vow (x:Nat):vI.contains [x]=vowIN x:=by
 rw[vI_eq]
 simp only[List.contains_cons,List.contains_nil,one_beq,Bool.or_false,vowIN,vowN,Bool.or_assoc]
theorem vJ_vow (x:Nat):vJ.contains [x]=vowJN x:=by
 rw[vJ_eq,Bool.eq_iff_iff]
 simp only[List.contains_cons,List.contains_nil,one_beq,Bool.or_false,vowJN,vowN,Bool.or_eq_true]
 constructor
 ·rintro (h |h |h |h |h |h |h |h)<;>simp[h]
 ·rintro (h |((((((h |h) |h) |h) |h) |h) |h))<;>simp[h]
theorem run262 (cur:List Nat) (c l lb b k p1:Int) (t:At):runBody 1 0 G262 [.self] (A6 cur c l lb b k (.int p1::t))=some (.s (.bool (decide (p1≤c))),A6 cur c l lb b k (.int p1::t)):=by
 rw[rb (by rfl)]
 unfold G262 pk262
 simp! [outR]
theorem run269 (cur:List Nat) (c l lb b k p1 p2:Int) (t:At):runBody 1 0 G269 [.self] (A6 cur c l lb b k (.int p1:: .int p2::t))=some (.s (.bool (decide (p2≤c))),A6 cur c l lb b k (.int p1:: .int p2::t)):=by
 rw[rb (by rfl)]
 unfold G269 pk269
 simp! [outR]
noncomputable abbrev Tl (p1 p2:Int) (ef:At):At:=.int p1:: .int p2::ef
noncomputable def efSet (ef:At) (v:Bool):At:=setA ef 0 (.bool v)
theorem efSet_len {ef:At} {v w:Bool} (h:ef.length≤1):efSet (efSet ef v) w=efSet ef w∧(efSet ef v).length≤1:=by
 match ef,h with
 | [],_=>exact⟨rfl,by simp[efSet,setA]⟩
 | [_],_=>exact⟨rfl,by simp[efSet,setA]⟩
theorem efSet_eq {ef:At} (h:ef.length≤1) (v:Bool):efSet ef v=[.bool v]:=by
 match ef,h with
 | [],_=>rfl
 | [_],_=>rfl
theorem run283z {cur:List Nat} {N b k p1 p2:Int} {ef:At} (h:N≤0):runBody 1 2 G283 [.self] (A6 cur N N 0 b k (Tl p1 p2 ef))=some (.s (.bool false),A6 cur N N 0 b N (Tl p1 p2 (efSet ef false))):=by
 rw[rb (by rfl)]
 unfold G283 pk283 efSet
 simp! [outR,h]
theorem run283n {cur:List Nat} {N b k p1 p2:Int} {ef:At} {x:Nat} (h:¬N≤0) (hi:idxV (.s (.str cur)) (N-1)=some (.s (.str [x]))) (hx:x≠101):runBody 1 2 G283 [.self] (A6 cur N N 0 b k (Tl p1 p2 ef))=some (.s (.bool false),A6 cur N N 0 b N (Tl p1 p2 (efSet ef false))):=by
 rw[rb (by rfl)]
 unfold G283 pk283 efSet
 have es:(Str.ofString "e").cps.toList=[101]:=by decide
 simp! [outR,h,hi,es,hx]
theorem run283r {cur:List Nat} {N b k p1 p2:Int} {ef:At} (h:¬N≤0) (hi:idxV (.s (.str cur)) (N-1)=some (.s (.str [101]))) (hp:¬p1≤N-1):runBody 1 2 G283 [.self] (A6 cur N N 0 b k (Tl p1 p2 ef))=some (.s (.bool false),A6 cur (N-1) N 0 (N-1) N (Tl p1 p2 (efSet ef false))):=by
 rw[rb (by rfl)]
 unfold G283 pk283 efSet
 have es:(Str.ofString "e").cps.toList=[101]:=by decide
 simp! [outR,h,hi,es,hp,run262]
theorem run283v {cur:List Nat} {N b k p1 p2 c':Int} {ef:At} (h:¬N≤0) (hi:idxV (.s (.str cur)) (N-1)=some (.s (.str [101]))) (hp:p1≤N-1) (h105:runBody 2 0 G105 [.self,.set vA] (A6 cur (N-1) N 0 (N-1) N (Tl p1 p2 (efSet ef false)))=some (.s (.bool false),A6 cur c' N 0 (N-1) N (Tl p1 p2 (efSet ef false)))):
  runBody 1 2 G283 [.self] (A6 cur N N 0 b k (Tl p1 p2 ef))=some (.s (.bool false),A6 cur c' N 0 (N-1) N (Tl p1 p2 (efSet ef false))):=by
 rw[rb (by rfl)]
 unfold G283 pk283
 unfold efSet at*
 have es:(Str.ofString "e").cps.toList=[101]:=by decide
 simp! [outR,h,hi,es,hp,run262,h105]
theorem run283y {cur q:List Nat} {N b k p1 p2 c':Int} {ef:At} {R:MV×At} (hef:ef.length≤1) (h:¬N≤0) (hi:idxV (.s (.str cur)) (N-1)=some (.s (.str [101]))) (hp:p1≤N-1) (h105:runBody 2 0 G105 [.self,.set vA] (A6 cur (N-1) N 0 (N-1) N (Tl p1 p2 [.bool false]))=some (.s (.bool true),A6 cur c' N 0 (N-1) N (Tl p1 p2 [.bool false])))
  (h161:runBody 1 0 G161 [.self] (A6 cur (N-1) N 0 (N-1) N (Tl p1 p2 [.bool false]))=some (.s .none,A6 q (N-1) (N-1) 0 (N-1) (N-1) (Tl p1 p2 [.bool false])))
  (h276:runBody 1 2 G276 [.self] (A6 q (N-1) (N-1) 0 (N-1) (N-1) (Tl p1 p2 [.bool true]))=some R):
  runBody 1 2 G283 [.self] (A6 cur N N 0 b k (Tl p1 p2 ef))=some R:=by
 rw[rb (by rfl)]
 unfold G283 pk283
 have es:(Str.ofString "e").cps.toList=[101]:=by decide
 have e1:=efSet_eq hef false
 unfold efSet at e1
 have e2:N-(N-(N-1))=N-1:=by lia
 have e3:setA ([.bool false]:At) 0 (.bool true)=[.bool true]:=rfl
 simp! [outR,h,hi,es,hp,run262,e1,h105,h161,h276,e2,e3]
theorem run105h {S:List (List Nat)} {p:Nat→Bool} (hp:∀ x,S.contains [x]=p x) (s r:List Nat) (h:r.length≤50) (l b k:Int) (t:At):∃ c':Int,c'≤r.length∧runBody 2 0 G105 [.self,.set S] (A6 (s++r).reverse r.length l 0 b k t)=some (.s (.bool (hd (fun x=> !p x) r)),A6 (s++r).reverse c' l 0 b k t):=by
 cases r with
 |nil=>exact⟨_,Int.le_refl _,run105z S _ l b k t⟩
 |cons x u=>
  have e:(((x::u).length:Nat):Int)-1=(u.length:Int):=by simp
  rw[run105a S _ x _ l b k t (by simp) (by rw[List.reverse_append,e];exact idx_back u s.reverse x (by simp at h;lia)),hp]
  show ∃ c':Int,_∧_=some (MV.s (SV.bool (!p x)),_)
  cases p x with
  |true=>exact⟨_,Int.le_refl _,rfl⟩
  |false=>exact⟨_,by lia,rfl⟩
noncomputable def R283 (r:List Nat) (b k:Int) (p1 p2:Nat) (ef:At) (q:List Nat×Bool):Prop:=∃ ret c' b' k',runBody 1 2 G283 [.self] (AR r r.length b k (Tl p1 p2 ef))=some (.s (.bool ret),AR q.1 c' b' k' (Tl p1 p2 [.bool q.2]))
theorem run283 (r:List Nat) (hr:r.length≤50) (hs:∀ x∈r,x∈signsN) (b k:Int) (p1 p2:Nat) (ef:At) (hef:ef.length≤1):R283 r b k p1 p2 ef (eR p1 r):=by
 have ee:=efSet_eq hef
 cases r with
 |nil=>
  have:=run283z (cur:=[]) (N:=0) (b:=b) (k:=k) (p1:=p1) (p2:=p2) (ef:=ef) (by decide)
  rw[ee] at this
  exact (wit4 this)
 |cons x u=>
  have hN1:((x::u).length:Int)-1=(u.length:Int):=by simp
  have hN:¬((x::u).length:Int)≤0:=by simp<;>lia
  have hi:idxV (.s (.str (x::u).reverse)) (((x::u).length:Int)-1)=some (.s (.str [x])):=by
   rw[hN1]
   have:=idx_back u [] x (by simp at hr;lia)
   simpa using this
  have hul:u.length≤50:=by simp at hr;lia
  by_cases hx:x=101
  ·subst hx
   show R283 _ b k p1 p2 ef (if decide (p1≤u.length)&&hd (fun x=> !vowN x) u then (undR u,true) else (101::u,false))
   by_cases hp:p1≤u.length
   ·have hp':(p1:Int)≤((101::u).length:Int)-1:=by rw[hN1];lia
    obtain⟨c',_,h105⟩:=run105h vA_vow [101] u hul ((101::u).length) (((101::u).length:Int)-1) ((101::u).length) (Tl p1 p2 [.bool false])
    rw[←hN1] at h105
    rw[decide_eq_true hp]
    cases hz:hd (fun x=> !vowN x) u with
    |false=>
     rw[hz] at h105
     have:=run283v (b:=b) (k:=k) (ef:=ef) hN hi hp' (by rw[ee];exact h105)
     rw[ee] at this
     exact (wit4 this)
    |true=>
     rw[hz] at h105
     obtain⟨ret,b',k',h276⟩:=run276 u (by lia) (fun x hx=>hs x (.tail _ hx)) (((101::u).length:Int)-1) (((101::u).length:Int)-1) (Tl p1 p2 [.bool true])
     have h161:=del_last 101 u (by lia) 0 0 0 0 (Tl p1 p2 [.bool false]) _ rfl
     unfold AR at h276
     rw[←hN1] at h276
     exact⟨ret,_,b',k',run283y hef hN hi hp' h105 h161 h276⟩
   ·have:=run283r (b:=b) (k:=k) (p2:=p2) (ef:=ef) hN hi (show ¬(p1:Int)≤_ by rw[hN1];lia)
    rw[ee] at this
    rw[decide_eq_false hp]
    exact (wit4 this)
  ·have:=run283n (b:=b) (k:=k) (p1:=p1) (p2:=p2) (ef:=ef) hN hi hx
   rw[ee] at this
   rw[Pl.eR_not hx]
   exact (wit4 this)
end
section
open Mine.Pl (vowN vowIN vowJN undR enR gemR eR st3 igR hd pick enAfter rs2 rs3 rs4)
theorem cut_suf (s r:List Nat) (h:(s++r).length≤100) (c N lb:Int) (t:At) (hN:N=((s++r).length:Int)) (hc:c=(r.length:Int)):runBody 1 0 G161 [.self] (A6 (s++r).reverse c N lb c N t)=some (.s .none,A6 r.reverse c c lb c c t):=by
 have hp:sliceL (s++r).reverse (some 0) (some c)=r.reverse:=by
  rw[hc,List.reverse_append]
  exact slice_pre r s.reverse
 have hq:sliceL (s++r).reverse (some N) none=[]:=by
  rw[hN,slice_from_nat]
  exact List.drop_of_length_le (by rw[List.length_reverse];exact Nat.le_refl _)
 have hle:c≤N:=by rw[hN,hc,List.length_append];lia
 have e:=run161a r.reverse [] (s++r).reverse c N lb c N t hp hq (by simp at h ⊢;lia) (by simp at h ⊢;lia) (by simp at h ⊢;lia) (by rw[hc];lia) hle (Int.le_refl _) (by rw[hN,List.length_reverse];exact Int.le_refl _)
 rw[e]
 have e2:¬c<c:=by lia
 have e3:N+(0-(N-c))=c:=by lia
 rw[e3,List.append_nil]
 by_cases g:N≤c
 ·have:N=c:=by lia
  rw[if_pos g]
  congr 1
  subst this
  simp
 ·rw[if_neg g,if_neg e2]
theorem run290r {cur:List Nat} {c N b k p1 p2:Int} {ef:At} (hp:¬p1≤c):runBody 1 3 G290 [.self] (A6 cur c N 0 b k (Tl p1 p2 ef))=some (.s (.bool false),A6 cur c N 0 b k (Tl p1 p2 ef)):=by
 rw[rb (by rfl)]
 unfold G290 pk290
 simp! [outR,hp,run262]
theorem run290v {cur:List Nat} {c c' N b k p1 p2:Int} {ef:At} (hp:p1≤c) (h105:runBody 2 0 G105 [.self,.set vA] (A6 cur c N 0 b k (Tl p1 p2 ef))=some (.s (.bool false),A6 cur c' N 0 b k (Tl p1 p2 ef))):runBody 1 3 G290 [.self] (A6 cur c N 0 b k (Tl p1 p2 ef))=some (.s (.bool false),A6 cur c' N 0 b k (Tl p1 p2 ef)):=by
 rw[rb (by rfl)]
 unfold G290 pk290
 simp! [outR,hp,run262,h105]
theorem gem_eq:(Str.ofString "gem").cps.toList=[103,101,109]:=by decide
theorem run290g {cur:List Nat} {c c' c2 N b k p1 p2:Int} {ef:At} (hp:p1≤c) (h105:runBody 2 0 G105 [.self,.set vA] (A6 cur c N 0 b k (Tl p1 p2 ef))=some (.s (.bool true),A6 cur c' N 0 b k (Tl p1 p2 ef))) (h126:runBody 2 1 G126 [.self,.s (.str [103,101,109])] (A6 cur c N 0 b k (Tl p1 p2 ef))=some (.s (.bool true),A6 cur c2 N 0 b k (Tl p1 p2 ef))):
  runBody 1 3 G290 [.self] (A6 cur c N 0 b k (Tl p1 p2 ef))=some (.s (.bool false),A6 cur c2 N 0 b k (Tl p1 p2 ef)):=by
 rw[rb (by rfl)]
 unfold G290 pk290
 have e2:N-(N-c)=c:=by lia
 simp! [outR,hp,run262,h105,e2,gem_eq,h126]
theorem run290y {cur q:List Nat} {c c' N b k p1 p2:Int} {ef:At} {R:MV×At} (hp:p1≤c) (h105:runBody 2 0 G105 [.self,.set vA] (A6 cur c N 0 b k (Tl p1 p2 ef))=some (.s (.bool true),A6 cur c' N 0 b k (Tl p1 p2 ef))) (h126:runBody 2 1 G126 [.self,.s (.str [103,101,109])] (A6 cur c N 0 b k (Tl p1 p2 ef))=some (.s (.bool false),A6 cur c N 0 b k (Tl p1 p2 ef)))
  (h161:runBody 1 0 G161 [.self] (A6 cur c N 0 b k (Tl p1 p2 ef))=some (.s .none,A6 q c c 0 c c (Tl p1 p2 ef))) (h276:runBody 1 2 G276 [.self] (A6 q c c 0 c c (Tl p1 p2 ef))=some R):
  runBody 1 3 G290 [.self] (A6 cur c N 0 b k (Tl p1 p2 ef))=some R:=by
 rw[rb (by rfl)]
 unfold G290 pk290
 have e2:N-(N-c)=c:=by lia
 simp! [outR,hp,run262,h105,e2,gem_eq,h126,h161,h276]
noncomputable def R290 (s r:List Nat) (p1 p2:Nat) (ef:At) (q:List Nat):Prop:=∃ ret c' b' k',runBody 1 3 G290 [.self] (A6 (s++r).reverse r.length ((s++r).length:Nat) 0 r.length ((s++r).length:Nat) (Tl p1 p2 ef))=some (.s (.bool ret),AR q c' b' k' (Tl p1 p2 ef))
theorem run290 (s r:List Nat) (hr:(s++r).length≤50) (hs:∀ x∈r,x∈signsN) (p1 p2:Nat) (ef:At):R290 s r p1 p2 ef ((enR p1 r).getD (s++r)):=by
 have hrl:s.length+r.length≤50:=by rw[List.length_append] at hr;exact hr
 show R290 s r p1 p2 ef ((if decide (p1≤r.length)&&hd (fun x=> !vowN x) r&& !gemR r then some (undR r) else none).getD (s++r))
 by_cases hp:p1≤r.length
 ·have hp':(p1:Int)≤(r.length:Int):=by lia
  obtain⟨c',_,h105⟩:=run105h vA_vow s r (by lia) ((s++r).length:Nat) r.length ((s++r).length:Nat) (Tl p1 p2 ef)
  have h126:=run126 [103,101,109] r s.reverse (by simp;lia) (by decide) ((s++r).length:Nat) r.length ((s++r).length:Nat) (Tl p1 p2 ef)
  rw[←List.reverse_append] at h126
  have eg:([103,101,109]:List Nat).reverse.isPrefixOf r=gemR r:=rfl
  rw[eg] at h126
  rw[decide_eq_true hp]
  cases hz:hd (fun x=> !vowN x) r with
  |false=>
   rw[hz] at h105
   exact wit4 (run290v hp' h105)
  |true=>
   rw[hz] at h105
   cases hg:gemR r with
   |true=>
    rw[hg,if_pos rfl] at h126
    exact wit4 (run290g hp' h105 h126)
   |false=>
    rw[hg,if_neg (by decide)] at h126
    obtain⟨ret,b',k',h276⟩:=run276 r (by lia) hs r.length r.length (Tl p1 p2 ef)
    exact wit4 (run290y hp' h105 h126 (cut_suf s r (by lia) _ _ 0 _ rfl rfl) h276)
 ·rw[decide_eq_false hp]
  exact wit4 (run290r (by lia))
end
section
open Mine.Pl (vowN vowIN vowJN undR enR gemR eR st3 igR hd pick enAfter rs2 rs3 rs4)
noncomputable abbrev L9 (x1 x2 x3 x4 x5 x6 x7 x8:Option MV):Loc:=[some .self,x1,x2,x3,x4,x5,x6,x7,x8,none,none,none,none]
theorem cut_suf2 (s r:List Nat) (h:(s++r).length≤100) (hs:s≠[]) (cc c N lb:Int) (t:At) (hN:N=((s++r).length:Int)) (hc:c=(r.length:Int)) (hcc:cc≤c):runBody 1 0 G161 [.self] (A6 (s++r).reverse cc N lb c N t)=some (.s .none,A6 r.reverse cc c lb c c t):=by
 have hp:sliceL (s++r).reverse (some 0) (some c)=r.reverse:=by
  rw[hc,List.reverse_append]
  exact slice_pre r s.reverse
 have hq:sliceL (s++r).reverse (some N) none=[]:=by
  rw[hN,slice_from_nat]
  exact List.drop_of_length_le (by rw[List.length_reverse];exact Nat.le_refl _)
 have hpos:0<s.length:=List.length_pos_iff.mpr hs
 have hle:c<N:=by rw[hN,hc,List.length_append];lia
 have e:=run161a r.reverse [] (s++r).reverse cc N lb c N t hp hq (by simp at h ⊢;lia) (by simp at h ⊢;lia) (by simp at h ⊢;lia) (by rw[hc];lia) (by lia) (Int.le_refl _) (by rw[hN,List.length_reverse];exact Int.le_refl _)
 rw[e]
 have e1:¬N≤cc:=by lia
 have e2:¬c<cc:=by lia
 have e3:N+(0-(N-c))=c:=by lia
 rw[e3,List.append_nil,if_neg e1,if_neg e2]
section
variable {cur:List Nat} {N c c' b k p1 p2:Int} {ef:At} {x1 x2 x3 x4 x5 x6 x7 x8:Option MV}
theorem heid_eq:(Str.ofString "heid").cps.toList=[104,101,105,100]:=by decide
theorem b1z (h140:runBody 2 16 G140 [.self,.tab tb374] (A6 cur N N 0 b N (Tl p1 p2 ef))=some (.s (.int 0),A6 cur c N 0 b N (Tl p1 p2 ef))):
  B297_1 (L9 x1 x2 x3 x4 x5 x6 x7 x8) (A6 cur N N 0 b k (Tl p1 p2 ef))=some (.nxt,L9 x1 (some (.s (.int 0))) x3 x4 x5 x6 x7 x8,A6 cur c N 0 b N (Tl p1 p2 ef)):=by
 unfold B297_1 pk297_1
 simp! [h140]
theorem b1n (h140:runBody 2 16 G140 [.self,.tab tb374] (A6 cur N N 0 b N (Tl p1 p2 ef))=some (.s (.int 1),A6 cur c N 0 b N (Tl p1 p2 ef))) (hp:¬p1≤c):
  B297_1 (L9 x1 x2 x3 x4 x5 x6 x7 x8) (A6 cur N N 0 b k (Tl p1 p2 ef))=some (.nxt,L9 x1 (some (.s (.int 1))) x3 x4 x5 x6 x7 x8,A6 cur c N 0 c N (Tl p1 p2 ef)):=by
 unfold B297_1 pk297_1
 simp! [h140,run262,hp]
theorem b1y {at2:At} {v:MV} (h140:runBody 2 16 G140 [.self,.tab tb374] (A6 cur N N 0 b N (Tl p1 p2 ef))=some (.s (.int 1),A6 cur c N 0 b N (Tl p1 p2 ef))) (hp:p1≤c) (h154:runBody 2 1 G154 [.self,.s (.str [104,101,105,100])] (A6 cur c N 0 c N (Tl p1 p2 ef))=some (v,at2)):
  B297_1 (L9 x1 x2 x3 x4 x5 x6 x7 x8) (A6 cur N N 0 b k (Tl p1 p2 ef))=some (.nxt,L9 x1 (some (.s (.int 1))) x3 x4 x5 x6 x7 x8,at2):=by
 unfold B297_1 pk297_1
 simp! [h140,run262,hp,heid_eq,h154]
theorem b1e {cur2:List Nat} {c2 N2 lb2 b2 k2:Int} {t2:At} {ret:Bool} (h140:runBody 2 16 G140 [.self,.tab tb374] (A6 cur N N 0 b N (Tl p1 p2 ef))=some (.s (.int 2),A6 cur c N 0 b N (Tl p1 p2 ef))) (h290:runBody 1 3 G290 [.self] (A6 cur c N 0 c N (Tl p1 p2 ef))=some (.s (.bool ret),A6 cur2 c2 N2 lb2 b2 k2 t2)):
  B297_1 (L9 x1 x2 x3 x4 x5 x6 x7 x8) (A6 cur N N 0 b k (Tl p1 p2 ef))=some (.nxt,L9 x1 (some (.s (.int 2))) x3 x4 x5 x6 x7 x8,A6 cur2 c2 N2 lb2 b2 k2 t2):=by
 unfold B297_1 pk297_1
 cases ret<;>simp! [h140,h290]
theorem b1r (h140:runBody 2 16 G140 [.self,.tab tb374] (A6 cur N N 0 b N (Tl p1 p2 ef))=some (.s (.int 3),A6 cur c N 0 b N (Tl p1 p2 ef))) (hp:¬p1≤c):
  B297_1 (L9 x1 x2 x3 x4 x5 x6 x7 x8) (A6 cur N N 0 b k (Tl p1 p2 ef))=some (.nxt,L9 x1 (some (.s (.int 3))) x3 x4 x5 x6 x7 x8,A6 cur c N 0 c N (Tl p1 p2 ef)):=by
 unfold B297_1 pk297_1
 simp! [h140,run262,hp]
theorem b1v (h140:runBody 2 16 G140 [.self,.tab tb374] (A6 cur N N 0 b N (Tl p1 p2 ef))=some (.s (.int 3),A6 cur c N 0 b N (Tl p1 p2 ef))) (hp:p1≤c) (h105:runBody 2 0 G105 [.self,.set vJ] (A6 cur c N 0 c N (Tl p1 p2 ef))=some (.s (.bool false),A6 cur c' N 0 c N (Tl p1 p2 ef))):
  B297_1 (L9 x1 x2 x3 x4 x5 x6 x7 x8) (A6 cur N N 0 b k (Tl p1 p2 ef))=some (.nxt,L9 x1 (some (.s (.int 3))) x3 x4 x5 x6 x7 x8,A6 cur c' N 0 c N (Tl p1 p2 ef)):=by
 unfold B297_1 pk297_1
 simp! [h140,run262,hp,h105]
theorem b1d {at2:At} {v:MV} (h140:runBody 2 16 G140 [.self,.tab tb374] (A6 cur N N 0 b N (Tl p1 p2 ef))=some (.s (.int 3),A6 cur c N 0 b N (Tl p1 p2 ef))) (hp:p1≤c) (h105:runBody 2 0 G105 [.self,.set vJ] (A6 cur c N 0 c N (Tl p1 p2 ef))=some (.s (.bool true),A6 cur c' N 0 c N (Tl p1 p2 ef))) (h161:runBody 1 0 G161 [.self] (A6 cur c' N 0 c N (Tl p1 p2 ef))=some (v,at2)):
  B297_1 (L9 x1 x2 x3 x4 x5 x6 x7 x8) (A6 cur N N 0 b k (Tl p1 p2 ef))=some (.nxt,L9 x1 (some (.s (.int 3))) x3 x4 x5 x6 x7 x8,at2):=by
 unfold B297_1 pk297_1
 simp! [h140,run262,hp,h105,h161]
end
theorem open_eq {s r:List Nat} (h:s.isPrefixOf r=true):∃ t,r=s++t:=by
 obtain⟨t,e⟩:=List.isPrefixOf_iff_prefix.mp h
 exact⟨t,e.symm⟩
noncomputable def OutG (L:Option MV→Option MV→Loc) (T:Bool→At) (X:Option (Out×Loc×At)) (q:List Nat):Prop:=∃ (y z:Option MV) (c b k:Int) (e:Bool),X=some (.nxt,L y z,AR q c b k (T e))
theorem OutG.mk {L:Option MV→Option MV→Loc} {T:Bool→At} {q:List Nat} {X:Option (Out×Loc×At)} {y z:Option MV} {c b k:Int} {e:Bool} (h:X=some (.nxt,L y z,AR q c b k (T e))):OutG L T X q:=wit6 h
noncomputable def OutF (L:Option MV→Loc) (T:At) (X:Option (Out×Loc×At)) (q:List Nat):Prop:=∃ (y:Option MV) (c b k:Int),X=some (.nxt,L y,AR q c b k T)
theorem OutF.mk {L:Option MV→Loc} {T:At} {q:List Nat} {X:Option (Out×Loc×At)} {y:Option MV} {c b k:Int} (h:X=some (.nxt,L y,AR q c b k T)):OutF L T X q:=wit4 h
noncomputable def OutL (L:Loc) (T:At) (X:Option (Out×Loc×At)) (q:List Nat):Prop:=∃ (c b k:Int),X=some (.nxt,L,AR q c b k T)
theorem OutL.mk {L:Loc} {T:At} {q:List Nat} {X:Option (Out×Loc×At)} {c b k:Int} (h:X=some (.nxt,L,AR q c b k T)):OutL L T X q:=wit3 h
theorem b1_ok (r:List Nat) (hr:r.length≤50) (hs:∀ x∈r,x∈signsN) (b k:Int) (p1 p2:Nat) (ef:At) (x1 x2 x3 x4 x5 x6 x7 x8:Option MV):OutF (fun y2=>L9 x1 y2 x3 x4 x5 x6 x7 x8) (Tl p1 p2 ef) (B297_1 (L9 x1 x2 x3 x4 x5 x6 x7 x8) (AR r r.length b k (Tl p1 p2 ef))) (Pl.st1 p1 r):=by
 have en:∀ (s t:List Nat),r=s++t→runBody 2 16 G140 [.self,.tab tb374] (A6 r.reverse r.length r.length 0 b r.length (Tl p1 p2 ef))=some (.s (.int 2),A6 r.reverse t.length r.length 0 b r.length (Tl p1 p2 ef))→OutF (fun y2=>L9 x1 y2 x3 x4 x5 x6 x7 x8) (Tl p1 p2 ef) (B297_1 (L9 x1 x2 x3 x4 x5 x6 x7 x8) (AR r r.length b k (Tl p1 p2 ef))) ((enR p1 t).getD r):=by
  rintro s t rfl key
  obtain⟨ret,c',b',k',h⟩:=run290 s t hr (fun x hx=>hs x (List.mem_append_right _ hx)) p1 p2 ef
  exact OutF.mk (b1e key h)
 have es:∀ (s t:List Nat),s≠[]→r=s++t→runBody 2 16 G140 [.self,.tab tb374] (A6 r.reverse r.length r.length 0 b r.length (Tl p1 p2 ef))=some (.s (.int 3),A6 r.reverse t.length r.length 0 b r.length (Tl p1 p2 ef))→OutF (fun y2=>L9 x1 y2 x3 x4 x5 x6 x7 x8) (Tl p1 p2 ef) (B297_1 (L9 x1 x2 x3 x4 x5 x6 x7 x8) (AR r r.length b k (Tl p1 p2 ef))) (if decide (p1≤t.length)&&hd (fun x=> !vowJN x) t then t else r):=by
  rintro s t e0 rfl key
  have hl:s.length+t.length≤50:=by rw[List.length_append] at hr;exact hr
  by_cases hp:p1≤t.length
  ·have hp':(p1:Int)≤(t.length:Int):=by lia
   obtain⟨c',hc',h105⟩:=run105h vJ_vow s t (by lia) ((s++t).length:Nat) t.length ((s++t).length:Nat) (Tl p1 p2 ef)
   rw[decide_eq_true hp]
   cases hz:hd (fun x=> !vowJN x) t with
   |false=>
    rw[hz] at h105
    exact OutF.mk (b1v key hp' h105)
   |true=>
    rw[hz] at h105
    exact OutF.mk (b1d key hp' h105 (cut_suf2 s t (by lia) e0 c' _ _ 0 (Tl p1 p2 ef) rfl rfl hc'))
  ·rw[decide_eq_false hp]
   exact OutF.mk (b1r key (by lia))
 refine fb0 t3 short3 (by lia) hs (fb_row (en _) (fb_row (fun t=>es _ t (by simp)) (fb_row (fun t e key=> ?_) (fb_row (en _) (fb_row (fun t=>es _ t (by simp)) (fb_end fun key=>OutF.mk (b1z key)))))))
 show OutF _ _ _ (if p1≤t.length then 100::105::101::104::t else _)
 by_cases hp:p1≤t.length
 ·rw[if_pos hp]
  have ec:r.reverse=t.reverse++[104,101,100,101,110]:=by rw[e];simp
  have hlen:r.length=t.length+5:=by rw[e];simp<;>lia
  have hl1:sliceL r.reverse (some 0) (some (t.length:Int))=t.reverse:=by rw[ec];exact slice_pre t _
  have hl2:sliceL r.reverse (some (r.length:Int)) none=[]:=by
   rw[slice_from_nat]
   exact List.drop_of_length_le (by rw[List.length_reverse];exact Nat.le_refl _)
  have h154:=run154a [104,101,105,100] t.reverse [] r.reverse t.length r.length 0 t.length r.length (Tl p1 p2 ef) hl1 hl2 (by simp<;>lia) (by simp) (by simp<;>lia) (by simp<;>lia) (by lia) (by lia) (Int.le_refl _) (by simp)
  rw[if_neg (by lia),if_neg (by lia)] at h154
  have e5:t.reverse++[104,101,105,100]++[]=(100::105::101::104::t).reverse:=by simp
  have e6:(r.length:Int)+((([104,101,105,100]:List Nat).length:Nat)-((r.length:Int)-(t.length:Int)))=((100::105::101::104::t).length:Nat):=by
   simp
   lia
  rw[e5,e6] at h154
  exact OutF.mk (b1y key (by lia) h154)
 ·rw[if_neg hp]
  exact OutF.mk (b1n key (by lia))
end
section
open Mine.Pl (vowN vowIN vowJN undR enR gemR eR st3 igR hd pick enAfter rs2 rs3 rs4)
section
variable {cur q:List Nat} {N c c' c2 b k p1 p2:Int} {ef:At} {x1 x2 x3 x4 x5 x6 x7 x8:Option MV}
theorem en_eq:(Str.ofString "en").cps.toList=[101,110]:=by decide
theorem c_eq:(Str.ofString "c").cps.toList=[99]:=by decide
theorem e_eq:(Str.ofString "e").cps.toList=[101]:=by decide
theorem ig_eq:(Str.ofString "ig").cps.toList=[105,103]:=by decide
theorem b7z (h126:runBody 2 1 G126 [.self,.s (.str [104,101,105,100])] (A6 cur N N 0 b N (Tl p1 p2 ef))=some (.s (.bool false),A6 cur N N 0 b N (Tl p1 p2 ef))):
  B297_7 (L9 x1 x2 x3 x4 x5 x6 x7 x8) (A6 cur N N 0 b k (Tl p1 p2 ef))=some (.nxt,L9 x1 x2 x3 x4 x5 x6 x7 x8,A6 cur N N 0 b N (Tl p1 p2 ef)):=by
 unfold B297_7 pk297_7
 simp! [heid_eq,h126]
theorem b7r (h126:runBody 2 1 G126 [.self,.s (.str [104,101,105,100])] (A6 cur N N 0 b N (Tl p1 p2 ef))=some (.s (.bool true),A6 cur c N 0 b N (Tl p1 p2 ef))) (hp:¬p2≤c):
  B297_7 (L9 x1 x2 x3 x4 x5 x6 x7 x8) (A6 cur N N 0 b k (Tl p1 p2 ef))=some (.nxt,L9 x1 x2 x3 x4 x5 x6 x7 x8,A6 cur c N 0 c N (Tl p1 p2 ef)):=by
 unfold B297_7 pk297_7
 simp! [heid_eq,h126,run269,hp]
theorem b7c (h126:runBody 2 1 G126 [.self,.s (.str [104,101,105,100])] (A6 cur N N 0 b N (Tl p1 p2 ef))=some (.s (.bool true),A6 cur c N 0 b N (Tl p1 p2 ef))) (hp:p2≤c) (hc:¬c≤0) (hi:idxV (.s (.str cur)) (c-1)=some (.s (.str [99]))):
  B297_7 (L9 x1 x2 x3 x4 x5 x6 x7 x8) (A6 cur N N 0 b k (Tl p1 p2 ef))=some (.nxt,L9 x1 x2 x3 x4 x5 x6 x7 x8,A6 cur (c-1) N 0 c N (Tl p1 p2 ef)):=by
 unfold B297_7 pk297_7
 simp! [heid_eq,h126,run269,hp,hc,hi,c_eq]
theorem b7n (h126:runBody 2 1 G126 [.self,.s (.str [104,101,105,100])] (A6 cur N N 0 b N (Tl p1 p2 ef))=some (.s (.bool true),A6 cur c N 0 b N (Tl p1 p2 ef))) (hp:p2≤c) (hc:c≤0∨¬c≤0∧∃ x,idxV (.s (.str cur)) (c-1)=some (.s (.str [x]))∧x≠99)
  (h161:runBody 1 0 G161 [.self] (A6 cur c N 0 c N (Tl p1 p2 ef))=some (.s .none,A6 q c c 0 c c (Tl p1 p2 ef))) (h126b:runBody 2 1 G126 [.self,.s (.str [101,110])] (A6 q c c 0 c c (Tl p1 p2 ef))=some (.s (.bool false),A6 q c c 0 c c (Tl p1 p2 ef))):
  B297_7 (L9 x1 x2 x3 x4 x5 x6 x7 x8) (A6 cur N N 0 b k (Tl p1 p2 ef))=some (.nxt,L9 x1 x2 x3 x4 x5 x6 x7 x8,A6 q c c 0 c c (Tl p1 p2 ef)):=by
 unfold B297_7 pk297_7
 rcases hc with hc |⟨hc,x,hi,hx⟩
 ·simp! [heid_eq,h126,run269,hp,hc,c_eq,h161,en_eq,h126b]
 ·simp! [heid_eq,h126,run269,hp,hc,c_eq,hi,hx,h161,en_eq,h126b]
theorem b7e {cur2:List Nat} {c3 N2 lb2 b2 k2:Int} {t2:At} {ret:Bool} (h126:runBody 2 1 G126 [.self,.s (.str [104,101,105,100])] (A6 cur N N 0 b N (Tl p1 p2 ef))=some (.s (.bool true),A6 cur c N 0 b N (Tl p1 p2 ef))) (hp:p2≤c) (hc:c≤0∨¬c≤0∧∃ x,idxV (.s (.str cur)) (c-1)=some (.s (.str [x]))∧x≠99)
  (h161:runBody 1 0 G161 [.self] (A6 cur c N 0 c N (Tl p1 p2 ef))=some (.s .none,A6 q c c 0 c c (Tl p1 p2 ef))) (h126b:runBody 2 1 G126 [.self,.s (.str [101,110])] (A6 q c c 0 c c (Tl p1 p2 ef))=some (.s (.bool true),A6 q c2 c 0 c c (Tl p1 p2 ef)))
  (h290:runBody 1 3 G290 [.self] (A6 q c2 c 0 c2 c (Tl p1 p2 ef))=some (.s (.bool ret),A6 cur2 c3 N2 lb2 b2 k2 t2)):
  B297_7 (L9 x1 x2 x3 x4 x5 x6 x7 x8) (A6 cur N N 0 b k (Tl p1 p2 ef))=some (.nxt,L9 x1 x2 x3 x4 x5 x6 x7 x8,A6 cur2 c3 N2 lb2 b2 k2 t2):=by
 unfold B297_7 pk297_7
 rcases hc with hc |⟨hc,x,hi,hx⟩
 ·cases ret<;>simp! [heid_eq,h126,run269,hp,hc,c_eq,h161,en_eq,h126b,h290]
 ·cases ret<;>simp! [heid_eq,h126,run269,hp,hc,c_eq,hi,hx,h161,en_eq,h126b,h290]
theorem b13a (h105:runBody 2 0 G105 [.self,.set vI] (A6 cur N N 0 b k (Tl p1 p2 ef))=some (.s (.bool false),A6 cur c N 0 b k (Tl p1 p2 ef))):
  B297_13 (L9 x1 x2 x3 x4 x5 x6 x7 x8) (A6 cur N N 0 b k (Tl p1 p2 ef))=some (.nxt,L9 x1 x2 x3 x4 x5 x6 x7 x8,A6 cur c N 0 b k (Tl p1 p2 ef)):=by
 unfold B297_13 pk297_13
 simp! [h105]
theorem b13b (h105:runBody 2 0 G105 [.self,.set vI] (A6 cur N N 0 b k (Tl p1 p2 ef))=some (.s (.bool true),A6 cur c N 0 b k (Tl p1 p2 ef))) (h140:runBody 2 16 G140 [.self,.tab tb406] (A6 cur c N 0 b k (Tl p1 p2 ef))=some (.s (.int 0),A6 cur c2 N 0 b k (Tl p1 p2 ef))):
  B297_13 (L9 x1 x2 x3 x4 x5 x6 x7 x8) (A6 cur N N 0 b k (Tl p1 p2 ef))=some (.nxt,L9 x1 x2 x3 x4 x5 x6 x7 (some (.s (.int (N-c)))),A6 cur c2 N 0 b k (Tl p1 p2 ef)):=by
 unfold B297_13 pk297_13
 simp! [h105,h140]
theorem b13c {res:Int} (h105:runBody 2 0 G105 [.self,.set vI] (A6 cur N N 0 b k (Tl p1 p2 ef))=some (.s (.bool true),A6 cur c N 0 b k (Tl p1 p2 ef))) (h140:runBody 2 16 G140 [.self,.tab tb406] (A6 cur c N 0 b k (Tl p1 p2 ef))=some (.s (.int res),A6 cur c2 N 0 b k (Tl p1 p2 ef))) (hres:¬res=0)
  (h105b:runBody 2 0 G105 [.self,.set vA] (A6 cur c2 N 0 b k (Tl p1 p2 ef))=some (.s (.bool false),A6 cur c' N 0 b k (Tl p1 p2 ef))):
  B297_13 (L9 x1 x2 x3 x4 x5 x6 x7 x8) (A6 cur N N 0 b k (Tl p1 p2 ef))=some (.nxt,L9 x1 x2 x3 x4 x5 x6 x7 (some (.s (.int (N-c)))),A6 cur c' N 0 b k (Tl p1 p2 ef)):=by
 unfold B297_13 pk297_13
 simp! [h105,h140,hres,h105b]
theorem b13d {res:Int} {v:MV} {at2:At} (h105:runBody 2 0 G105 [.self,.set vI] (A6 cur N N 0 b k (Tl p1 p2 ef))=some (.s (.bool true),A6 cur c N 0 b k (Tl p1 p2 ef))) (h140:runBody 2 16 G140 [.self,.tab tb406] (A6 cur c N 0 b k (Tl p1 p2 ef))=some (.s (.int res),A6 cur c2 N 0 b k (Tl p1 p2 ef))) (hres:¬res=0)
  (h105b:runBody 2 0 G105 [.self,.set vA] (A6 cur c2 N 0 b k (Tl p1 p2 ef))=some (.s (.bool true),A6 cur c' N 0 b k (Tl p1 p2 ef))) (hc:¬c≤0) (h161:runBody 1 0 G161 [.self] (A6 cur (c-1) N 0 (c-1) c (Tl p1 p2 ef))=some (v,at2)):
  B297_13 (L9 x1 x2 x3 x4 x5 x6 x7 x8) (A6 cur N N 0 b k (Tl p1 p2 ef))=some (.nxt,L9 x1 x2 x3 x4 x5 x6 x7 (some (.s (.int (N-c)))),at2):=by
 unfold B297_13 pk297_13
 have e:N-(N-c)=c:=by lia
 simp! [h105,h140,hres,h105b,e,hc,h161]
end
theorem before (x:Nat) (t s:List Nat) (r:List Nat) (er:r=s++t) (hr:r.length≤50):(hd (fun z=>z==x) t=false→(t.length:Int)≤0∨¬(t.length:Int)≤0∧∃ z,idxV (.s (.str r.reverse)) ((t.length:Int)-1)=some (.s (.str [z]))∧z≠x)∧
  (hd (fun z=>z==x) t=true→¬(t.length:Int)≤0∧idxV (.s (.str r.reverse)) ((t.length:Int)-1)=some (.s (.str [x]))):=by
 have ec:r.reverse=t.reverse++s.reverse:=by rw[er];simp
 have hl:t.length≤50:=by rw[er] at hr;simp at hr;lia
 cases t with
 |nil=>exact⟨fun _=>.inl (by simp),fun h=>by cases h⟩
 |cons z v=>
  have h1:((z::v:List Nat).length:Int)-1=(v.length:Int):=by simp
  have hi:idxV (.s (.str r.reverse)) (((z::v:List Nat).length:Int)-1)=some (.s (.str [z])):=by
   rw[h1,ec]
   exact idx_back v _ z (by simp at hl;lia)
  refine⟨fun h=>.inr ⟨by simp<;>lia,z,hi,fun q=> ?_⟩,fun h=>⟨by simp<;>lia,?_⟩⟩
  ·rw[q] at h
   simp[hd] at h
  ·have:z=x:=beq_iff_eq.mp h
   rw[this] at hi
   rw[←this]
   rw[this]
   exact hi
theorem one_row {α:Type} {d:α} {f:Int→List Nat→α} {G:α→Prop} {cur e r s:List Nat} {n:Int} {l b k:Int} {t:At} (key:runBody 2 1 G126 [.self,.s (.str e)] (A6 cur r.length l 0 b k t)=(if s.isPrefixOf r then some (.s (.bool true),A6 cur (r.length-e.length:Nat) l 0 b k t) else some (.s (.bool false),A6 cur r.length l 0 b k t))) (he:e.length=s.length)
  (h:∀ u,r=s++u→runBody 2 1 G126 [.self,.s (.str e)] (A6 cur r.length l 0 b k t)=some (.s (.bool true),A6 cur u.length l 0 b k t)→G (f n u)) (h0:runBody 2 1 G126 [.self,.s (.str e)] (A6 cur r.length l 0 b k t)=some (.s (.bool false),A6 cur r.length l 0 b k t)→G d):G (pick d f r [(s,n)]):=by
 refine Pl.pick_row (fun u er=>h u er ?_) fun q=>h0 ?_
 ·have p:s.isPrefixOf r=true:=List.isPrefixOf_iff_prefix.mpr ⟨u,er.symm⟩
  have hc:((r.length-e.length:Nat):Int)=u.length:=by rw[er,List.length_append];lia
  rw[p,if_pos rfl,hc] at key
  exact key
 ·rw[q,if_neg (by decide)] at key
  exact key
theorem b7_ok (r:List Nat) (hr:r.length≤50) (hs:∀ x∈r,x∈signsN) (b k:Int) (p1 p2:Nat) (ef:At) (x1 x2 x3 x4 x5 x6 x7 x8:Option MV):OutL (L9 x1 x2 x3 x4 x5 x6 x7 x8) (Tl p1 p2 ef) (B297_7 (L9 x1 x2 x3 x4 x5 x6 x7 x8) (AR r r.length b k (Tl p1 p2 ef))) (st3 p1 p2 r):=by
 have key:=run126 [104,101,105,100] r [] (by simpa using hr) (by decide) r.length b r.length (Tl p1 p2 ef)
 rw[List.append_nil] at key
 refine one_row key rfl (fun t e h126=> ?_) fun h126=>OutL.mk (b7z h126)
 clear key
 have hlen:r.length=t.length+4:=by rw[e];simp<;>lia
 have ht:∀ x∈t,x∈signsN:=fun x hx=>hs x (by rw[e];exact List.mem_append_right _ hx)
 by_cases hp:p2≤t.length
 ·have hp':(p2:Int)≤(t.length:Int):=by lia
  rw[decide_eq_true hp]
  obtain⟨hb1,hb2⟩:=before 99 t [100,105,101,104] r e hr
  cases hcc:hd (fun x=>x==99) t with
  |true=>
   obtain⟨g1,g2⟩:=hb2 hcc
   exact OutL.mk (b7c h126 hp' g1 g2)
  |false=>
   have hnc:=hb1 hcc
   have h161:=cut_suf [100,105,101,104] t (by rw[←e];lia) t.length _ 0 (Tl p1 p2 ef) rfl rfl
   rw[←e] at h161
   have key:=run126 [101,110] t [] (by simp<;>lia) (by decide) t.length t.length t.length (Tl p1 p2 ef)
   rw[List.append_nil] at key
   show OutL _ _ _ (enAfter p1 t)
   refine one_row key rfl (fun u eu h126b=> ?_) fun h126b=>OutL.mk (b7n h126 hp' hnc h161 h126b)
   obtain⟨ret,c',b',k',h⟩:=run290 [110,101] u (by rw[←eu];lia) (fun x hx=>ht x (by rw[eu];exact List.mem_append_right _ hx)) p1 p2 ef
   rw[←eu] at h
   exact OutL.mk (b7e h126 hp' hnc h161 h126b h)
 ·rw[decide_eq_false hp]
  exact OutL.mk (b7r h126 (by lia))
noncomputable def act5 (c:Nat) (u w:List Nat):List Nat:=if !vowIN c&&hd (fun x=> !vowN x) w then c::u.tail else c::u
theorem st5_pick (c:Nat) (u:List Nat):Pl.st5 (c::u)=pick (c::u) (fun _ w=>act5 c u w) u rs5:=by
 have row:∀ (v:Nat) (w:List Nat),(v==97||v==101||v==111||v==117)=true→u=[v,v]++w→Pl.st5 (c::u)=act5 c u w:=by
  rintro v w hv rfl
  show (if (!vowIN c&&v==v&&(v==97||v==101||v==111||v==117)&&hd (fun x=> !vowN x) w)=true then c::v::w else c::v::v::w)=_
  rw[hv,beq_self_eq_true,Bool.and_true,Bool.and_true]
  rfl
 refine Pl.pick_row (M:=fun q=>Pl.st5 (c::u)=q) (row 97 · rfl) fun g1=>Pl.pick_row (row 101 · rfl) fun g2=>Pl.pick_row (row 111 · rfl) fun g3=>Pl.pick_row (row 117 · rfl) fun g4=> ?_
 cases u with
 |nil=>rfl
 |cons v u=>
  cases u with
  |nil=>rfl
  |cons v' u=>
   refine if_neg fun h=> ?_
   simp only[Bool.and_eq_true,Bool.or_eq_true,beq_iff_eq] at h
   obtain⟨⟨⟨_,rfl⟩,h3⟩,_⟩:=h
   rcases h3 with ((rfl |rfl) |rfl) |rfl
   ·cases g1
   ·cases g2
   ·cases g3
   ·cases g4
theorem b13_ok (r:List Nat) (hr:r.length≤50) (hs:∀ x∈r,x∈signsN) (b k:Int) (p1 p2:Nat) (ef:At) (x1 x2 x3 x4 x5 x6 x7 x8:Option MV):OutF (fun y8=>L9 x1 x2 x3 x4 x5 x6 x7 y8) (Tl p1 p2 ef) (B297_13 (L9 x1 x2 x3 x4 x5 x6 x7 x8) (AR r r.length b k (Tl p1 p2 ef))) (Pl.st5 r):=by
 obtain⟨c',_,h105⟩:=run105h vI_vow [] r hr r.length b k (Tl p1 p2 ef)
 cases r with
 |nil=>exact OutF.mk (b13a h105)
 |cons c u=>
  rw[st5_pick]
  cases hc:vowIN c with
  |true=>
   rw[show hd (fun x=> !vowIN x) (c::u)= !vowIN c from rfl,hc] at h105
   refine Pl.pick_all (fun p _ t _=> ?_) (OutF.mk (b13a h105))
   unfold act5
   rw[hc]
   exact OutF.mk (b13a h105)
  |false=>
   have hul:u.length≤49:=by simp at hr;lia
   have h105:runBody 2 0 G105 [.self,.set vI] (AR (c::u) (c::u).length b k (Tl p1 p2 ef))=some (.s (.bool true),AR (c::u) u.length b k (Tl p1 p2 ef)):=by
    have e:(((c::u).length:Nat):Int)-1=(u.length:Int):=by simp
    have:=run105a vI (c::u).reverse c (c::u).length (c::u).length b k (Tl p1 p2 ef) (by simp) (by rw[e];have:=idx_back u [] c (by lia);rw[List.append_nil] at this;exact this)
    rw[vI_vow,hc,e] at this
    exact this
   have ec:u.reverse++[c]=(c::u).reverse:=by simp
   have dbl:∀ (v:Nat) (w:List Nat),u=[v,v]++w→runBody 2 16 G140 [.self,.tab tb406] (A6 (u.reverse++[c]) u.length (c::u).length 0 b k (Tl p1 p2 ef))=some (.s (.int (-1)),A6 (u.reverse++[c]) w.length (c::u).length 0 b k (Tl p1 p2 ef))→OutF (fun y8=>L9 x1 x2 x3 x4 x5 x6 x7 y8) (Tl p1 p2 ef) (B297_13 (L9 x1 x2 x3 x4 x5 x6 x7 x8) (AR (c::u) (c::u).length b k (Tl p1 p2 ef))) (act5 c u w):=by
    rintro v w eu h140
    rw[ec] at h140
    have hl:u.length=w.length+2:=by rw[eu];simp
    obtain⟨c',_,h105b⟩:=run105h vA_vow [c,v,v] w (by lia) (c::u).length b k (Tl p1 p2 ef)
    rw[show [c,v,v]++w=c::u by rw[eu];rfl] at h105b
    unfold act5
    rw[hc]
    cases hz:hd (fun x=> !vowN x) w with
    |false=>
     rw[hz] at h105b
     exact OutF.mk (b13c h105 h140 (by decide) h105b)
    |true=>
     rw[hz] at h105b
     have e8:(c::u).reverse=(v::w).reverse++[v,c]:=by rw[eu];simp
     have et:u.tail=v::w:=by rw[eu];rfl
     have hp:sliceL (c::u).reverse (some 0) (some ((u.length:Int)-1))=(v::w).reverse:=by
      have e7:(u.length:Int)-1=((v::w).length:Int):=by rw[eu];simp
      rw[e7,e8]
      exact slice_pre _ _
     have hq:sliceL (c::u).reverse (some (u.length:Int)) none=[c]:=by
      rw[slice_from_nat]
      simp
     have h161:=run161a (v::w).reverse [c] (c::u).reverse ((u.length:Int)-1) (c::u).length 0 ((u.length:Int)-1) u.length (Tl p1 p2 ef) hp hq (by simp<;>lia) (by simp<;>lia) (by simp<;>lia) (by lia) (by lia) (by simp<;>lia) (by simp)
     rw[if_neg (by lia),if_neg (by lia)] at h161
     have e9:(v::w).reverse++[c]=(c::v::w).reverse:=by simp
     have e10:((c::u).length:Int)+(0-((u.length:Int)-((u.length:Int)-1)))=((c::v::w).length:Int):=by simp<;>lia
     rw[e9,e10] at h161
     show OutF _ _ _ (c::u.tail)
     rw[et]
     exact OutF.mk (b13d h105 h140 (by decide) h105b (by lia) h161)
   exact fbz t5 short5 (by lia) (fun x hx=>hs x (.tail _ hx)) (fb_row (dbl 97) (fb_row (dbl 101) (fb_row (dbl 111) (fb_row (dbl 117) (fb_end fun h140=>OutF.mk (b13b h105 (by rw[ec] at h140;exact h140)))))))
end
section
open Mine.Pl (vowN vowIN vowJN undR enR gemR eR st3 igR hd pick enAfter rs2 rs3 rs4)
theorem loop60 (t:CF) (b:SF) (loc:Loc) (at_:At):loopN 60 t b loc at_=(t loc at_).bind fun p=>if p.1 then (b loc p.2).bind fun q=>(match q.1 with
   | .nxt | .cont=>loopN 59 t b q.2.1 q.2.2
   | .brk=>some (.nxt,q.2)
   |o=>some (o,q.2)) else some (.nxt,loc,p.2):=rfl
section
variable {cur q:List Nat} {N c c' c2 b k p1 p2:Int} {ef:Bool} {x1 x2 x3 x4 x5 x6 x7 x8:Option MV} {v:MV} {at2:At}
theorem b10z (h140:runBody 2 16 G140 [.self,.tab tb393] (A6 cur N N 0 b N (Tl p1 p2 [.bool ef]))=some (.s (.int 0),A6 cur c N 0 b N (Tl p1 p2 [.bool ef]))):
  B297_10 (L9 x1 x2 x3 x4 x5 x6 x7 x8) (A6 cur N N 0 b k (Tl p1 p2 [.bool ef]))=some (.nxt,L9 x1 (some (.s (.int 0))) x3 x4 x5 x6 x7 x8,A6 cur c N 0 b N (Tl p1 p2 [.bool ef])):=by
 unfold B297_10 pk297_10
 simp! [h140]
theorem b10r {res:Int} (hres:res=1∨res=2∨res=3∨res=4∨res=5) (h140:runBody 2 16 G140 [.self,.tab tb393] (A6 cur N N 0 b N (Tl p1 p2 [.bool ef]))=some (.s (.int res),A6 cur c N 0 b N (Tl p1 p2 [.bool ef]))) (hp:¬p2≤c):
  B297_10 (L9 x1 x2 x3 x4 x5 x6 x7 x8) (A6 cur N N 0 b k (Tl p1 p2 [.bool ef]))=some (.nxt,L9 x1 (some (.s (.int res))) x3 x4 x5 x6 x7 x8,A6 cur c N 0 c N (Tl p1 p2 [.bool ef])):=by
 unfold B297_10 pk297_10
 rcases hres with rfl |rfl |rfl |rfl |rfl<;>simp! [h140,run269,hp]
theorem b10_4 (h140:runBody 2 16 G140 [.self,.tab tb393] (A6 cur N N 0 b N (Tl p1 p2 [.bool ef]))=some (.s (.int 4),A6 cur c N 0 b N (Tl p1 p2 [.bool ef]))) (hp:p2≤c) (h161:runBody 1 0 G161 [.self] (A6 cur c N 0 c N (Tl p1 p2 [.bool ef]))=some (v,at2)):
  B297_10 (L9 x1 x2 x3 x4 x5 x6 x7 x8) (A6 cur N N 0 b k (Tl p1 p2 [.bool ef]))=some (.nxt,L9 x1 (some (.s (.int 4))) x3 x4 x5 x6 x7 x8,at2):=by
 unfold B297_10 pk297_10
 simp! [h140,run269,hp,h161]
theorem b10_5n (h140:runBody 2 16 G140 [.self,.tab tb393] (A6 cur N N 0 b N (Tl p1 p2 [.bool false]))=some (.s (.int 5),A6 cur c N 0 b N (Tl p1 p2 [.bool false]))) (hp:p2≤c):
  B297_10 (L9 x1 x2 x3 x4 x5 x6 x7 x8) (A6 cur N N 0 b k (Tl p1 p2 [.bool false]))=some (.nxt,L9 x1 (some (.s (.int 5))) x3 x4 x5 x6 x7 x8,A6 cur c N 0 c N (Tl p1 p2 [.bool false])):=by
 unfold B297_10 pk297_10
 simp! [h140,run269,hp]
theorem b10_5y (h140:runBody 2 16 G140 [.self,.tab tb393] (A6 cur N N 0 b N (Tl p1 p2 [.bool true]))=some (.s (.int 5),A6 cur c N 0 b N (Tl p1 p2 [.bool true]))) (hp:p2≤c) (h161:runBody 1 0 G161 [.self] (A6 cur c N 0 c N (Tl p1 p2 [.bool true]))=some (v,at2)):
  B297_10 (L9 x1 x2 x3 x4 x5 x6 x7 x8) (A6 cur N N 0 b k (Tl p1 p2 [.bool true]))=some (.nxt,L9 x1 (some (.s (.int 5))) x3 x4 x5 x6 x7 x8,at2):=by
 unfold B297_10 pk297_10
 simp! [h140,run269,hp,h161]
theorem b10_3 {cur2:List Nat} {c3 N2 lb2 b2 k2:Int} {t2:At} {ret:Bool} (h140:runBody 2 16 G140 [.self,.tab tb393] (A6 cur N N 0 b N (Tl p1 p2 [.bool ef]))=some (.s (.int 3),A6 cur c N 0 b N (Tl p1 p2 [.bool ef]))) (hp:p2≤c) (h161:runBody 1 0 G161 [.self] (A6 cur c N 0 c N (Tl p1 p2 [.bool ef]))=some (.s .none,A6 q c c 0 c c (Tl p1 p2 [.bool ef])))
  (h283:runBody 1 2 G283 [.self] (A6 q c c 0 c c (Tl p1 p2 [.bool ef]))=some (.s (.bool ret),A6 cur2 c3 N2 lb2 b2 k2 t2)):
  B297_10 (L9 x1 x2 x3 x4 x5 x6 x7 x8) (A6 cur N N 0 b k (Tl p1 p2 [.bool ef]))=some (.nxt,L9 x1 (some (.s (.int 3))) x3 x4 x5 x6 x7 x8,A6 cur2 c3 N2 lb2 b2 k2 t2):=by
 unfold B297_10 pk297_10
 cases ret<;>simp! [h140,run269,hp,h161,h283]
theorem b10_2e (h140:runBody 2 16 G140 [.self,.tab tb393] (A6 cur N N 0 b N (Tl p1 p2 [.bool ef]))=some (.s (.int 2),A6 cur c N 0 b N (Tl p1 p2 [.bool ef]))) (hp:p2≤c) (hc:¬c≤0) (hi:idxV (.s (.str cur)) (c-1)=some (.s (.str [101]))):
  B297_10 (L9 x1 x2 x3 x4 x5 x6 x7 x8) (A6 cur N N 0 b k (Tl p1 p2 [.bool ef]))=some (.nxt,L9 x1 (some (.s (.int 2))) x3 x4 x5 x6 x7 x8,A6 cur (c-1) N 0 c N (Tl p1 p2 [.bool ef])):=by
 unfold B297_10 pk297_10
 simp! [h140,run269,hp,hc,hi,e_eq]
theorem b10_2y (h140:runBody 2 16 G140 [.self,.tab tb393] (A6 cur N N 0 b N (Tl p1 p2 [.bool ef]))=some (.s (.int 2),A6 cur c N 0 b N (Tl p1 p2 [.bool ef]))) (hp:p2≤c) (hc:c≤0∨¬c≤0∧∃ x,idxV (.s (.str cur)) (c-1)=some (.s (.str [x]))∧x≠101) (h161:runBody 1 0 G161 [.self] (A6 cur c N 0 c N (Tl p1 p2 [.bool ef]))=some (v,at2)):
  B297_10 (L9 x1 x2 x3 x4 x5 x6 x7 x8) (A6 cur N N 0 b k (Tl p1 p2 [.bool ef]))=some (.nxt,L9 x1 (some (.s (.int 2))) x3 x4 x5 x6 x7 x8,at2):=by
 unfold B297_10 pk297_10
 rcases hc with hc |⟨hc,x,hi,hx⟩
 ·simp! [h140,run269,hp,hc,e_eq,h161]
 ·simp! [h140,run269,hp,hc,hi,hx,e_eq,h161]
theorem b10_1n {cur2:List Nat} {c3 N2 lb2 b2 k2:Int} {t2:At} {ret:Bool} (h140:runBody 2 16 G140 [.self,.tab tb393] (A6 cur N N 0 b N (Tl p1 p2 [.bool ef]))=some (.s (.int 1),A6 cur c N 0 b N (Tl p1 p2 [.bool ef]))) (hp:p2≤c) (h161:runBody 1 0 G161 [.self] (A6 cur c N 0 c N (Tl p1 p2 [.bool ef]))=some (.s .none,A6 q c c 0 c c (Tl p1 p2 [.bool ef])))
  (h126:runBody 2 1 G126 [.self,.s (.str [105,103])] (A6 q c c 0 c c (Tl p1 p2 [.bool ef]))=some (.s (.bool false),A6 q c c 0 c c (Tl p1 p2 [.bool ef]))) (h276:runBody 1 2 G276 [.self] (A6 q c c 0 c c (Tl p1 p2 [.bool ef]))=some (.s (.bool ret),A6 cur2 c3 N2 lb2 b2 k2 t2)):
  B297_10 (L9 x1 x2 x3 x4 x5 x6 x7 x8) (A6 cur N N 0 b k (Tl p1 p2 [.bool ef]))=some (.nxt,L9 x1 (some (.s (.int 1))) x3 x4 x5 (some (.s (.int 0))) x7 x8,A6 cur2 c3 N2 lb2 b2 k2 t2):=by
 unfold B297_10 pk297_10
 cases ret<;>simp! [loop60,h140,run269,hp,h161,ig_eq,h126,h276]
theorem b10_1r {cur2:List Nat} {c3 N2 lb2 b2 k2:Int} {t2:At} {ret:Bool} (h140:runBody 2 16 G140 [.self,.tab tb393] (A6 cur N N 0 b N (Tl p1 p2 [.bool ef]))=some (.s (.int 1),A6 cur c N 0 b N (Tl p1 p2 [.bool ef]))) (hp:p2≤c) (h161:runBody 1 0 G161 [.self] (A6 cur c N 0 c N (Tl p1 p2 [.bool ef]))=some (.s .none,A6 q c c 0 c c (Tl p1 p2 [.bool ef])))
  (h126:runBody 2 1 G126 [.self,.s (.str [105,103])] (A6 q c c 0 c c (Tl p1 p2 [.bool ef]))=some (.s (.bool true),A6 q c2 c 0 c c (Tl p1 p2 [.bool ef]))) (hp2:¬p2≤c2∨(p2≤c2∧¬c2≤0∧idxV (.s (.str q)) (c2-1)=some (.s (.str [101])))) (h276:runBody 1 2 G276 [.self] (A6 q c c 0 c2 c (Tl p1 p2 [.bool ef]))=some (.s (.bool ret),A6 cur2 c3 N2 lb2 b2 k2 t2)):
  B297_10 (L9 x1 x2 x3 x4 x5 x6 x7 x8) (A6 cur N N 0 b k (Tl p1 p2 [.bool ef]))=some (.nxt,L9 x1 (some (.s (.int 1))) x3 x4 x5 (some (.s (.int 0))) x7 x8,A6 cur2 c3 N2 lb2 b2 k2 t2):=by
 unfold B297_10 pk297_10
 rcases hp2 with hp2 |⟨hp2,hc2,hi⟩
 ·cases ret<;>simp! [loop60,h140,run269,hp,hp2,h161,ig_eq,h126,h276]
 ·cases ret<;>simp! [loop60,h140,run269,hp,hp2,hc2,hi,h161,ig_eq,e_eq,h126,h276]
theorem b10_1y (h140:runBody 2 16 G140 [.self,.tab tb393] (A6 cur N N 0 b N (Tl p1 p2 [.bool ef]))=some (.s (.int 1),A6 cur c N 0 b N (Tl p1 p2 [.bool ef]))) (hp:p2≤c) (h161:runBody 1 0 G161 [.self] (A6 cur c N 0 c N (Tl p1 p2 [.bool ef]))=some (.s .none,A6 q c c 0 c c (Tl p1 p2 [.bool ef])))
  (h126:runBody 2 1 G126 [.self,.s (.str [105,103])] (A6 q c c 0 c c (Tl p1 p2 [.bool ef]))=some (.s (.bool true),A6 q c2 c 0 c c (Tl p1 p2 [.bool ef]))) (hp2:p2≤c2) (hc:c2≤0∨¬c2≤0∧∃ x,idxV (.s (.str q)) (c2-1)=some (.s (.str [x]))∧x≠101) (h161b:runBody 1 0 G161 [.self] (A6 q c2 c 0 c2 c (Tl p1 p2 [.bool ef]))=some (v,at2)):
  B297_10 (L9 x1 x2 x3 x4 x5 x6 x7 x8) (A6 cur N N 0 b k (Tl p1 p2 [.bool ef]))=some (.nxt,L9 x1 (some (.s (.int 1))) x3 x4 x5 (some (.s (.int 0))) x7 x8,at2):=by
 unfold B297_10 pk297_10
 rcases hc with hc |⟨hc,x,hi,hx⟩
 ·simp! [loop60,h140,run269,hp,hp2,hc,h161,ig_eq,e_eq,h126,h161b]
 ·simp! [loop60,h140,run269,hp,hp2,hc,hi,hx,h161,ig_eq,e_eq,h126,h161b]
end
theorem b10_ok (r:List Nat) (hr:r.length≤50) (hs:∀ x∈r,x∈signsN) (b k:Int) (p1 p2:Nat) (ef:Bool) (x1 x2 x3 x4 x5 x6 x7 x8:Option MV):OutG (fun y2 y6=>L9 x1 y2 x3 x4 x5 y6 x7 x8) (fun ef'=>(Tl p1 p2 [.bool ef'])) (B297_10 (L9 x1 x2 x3 x4 x5 x6 x7 x8) (AR r r.length b k (Tl p1 p2 [.bool ef]))) (Pl.st4 p1 p2 ef r):=by
 have cutE:∀ (s t:List Nat),r=s++t→
   runBody 1 0 G161 [.self] (A6 r.reverse t.length r.length 0 t.length r.length (Tl p1 p2 [.bool ef]))=some (.s .none,A6 t.reverse t.length t.length 0 t.length t.length (Tl p1 p2 [.bool ef]))∧(∀ x∈t,x∈signsN)∧t.length≤50:=by
  rintro s t rfl
  exact⟨cut_suf s t (by lia) t.length _ 0 (Tl p1 p2 [.bool ef]) rfl rfl,fun x hx=>hs x (List.mem_append_right _ hx),by simp at hr;lia⟩
 have e1:∀ (s t:List Nat),r=s++t→runBody 2 16 G140 [.self,.tab tb393] (A6 r.reverse r.length r.length 0 b r.length (Tl p1 p2 [.bool ef]))=some (.s (.int 1),A6 r.reverse t.length r.length 0 b r.length (Tl p1 p2 [.bool ef]))→OutG (fun y2 y6=>L9 x1 y2 x3 x4 x5 y6 x7 x8) (fun ef'=>(Tl p1 p2 [.bool ef'])) (B297_10 (L9 x1 x2 x3 x4 x5 x6 x7 x8) (AR r r.length b k (Tl p1 p2 [.bool ef]))) (if p2≤t.length then igR p2 t else r):=by
  intro s t e h140
  obtain⟨h161,hts,htl⟩:=cutE s t e
  by_cases hp:p2≤t.length
  ·rw[if_pos hp]
   have hp':(p2:Int)≤(t.length:Int):=by lia
   have key:=run126 [105,103] t [] (by simpa using htl) (by decide) t.length t.length t.length (Tl p1 p2 [.bool ef])
   rw[List.append_nil] at key
   refine one_row key rfl (fun u eu h126=> ?_) fun h126=> ?_
   ·obtain⟨hb1,hb2⟩:=before 101 u [103,105] t eu htl
    obtain⟨ret,b',k',h276⟩:=run276 t (by lia) hts u.length t.length (Tl p1 p2 [.bool ef])
    by_cases hq:p2≤u.length
    ·have hq':(p2:Int)≤(u.length:Int):=by lia
     rw[decide_eq_true hq]
     cases hh:hd (fun x=>x==101) u with
     |true=>exact OutG.mk (b10_1r h140 hp' h161 h126 (.inr ⟨hq',hb2 hh⟩) h276)
     |false=>
      have h161b:=cut_suf [103,105] u (by rw[←eu];lia) u.length _ 0 (Tl p1 p2 [.bool ef]) rfl rfl
      rw[←eu] at h161b
      exact OutG.mk (b10_1y h140 hp' h161 h126 hq' (hb1 hh) h161b)
    ·rw[decide_eq_false hq]
     exact OutG.mk (b10_1r h140 hp' h161 h126 (.inl (by lia)) h276)
   ·obtain⟨ret,b',k',h276⟩:=run276 t (by lia) hts t.length t.length (Tl p1 p2 [.bool ef])
    exact OutG.mk (b10_1n h140 hp' h161 h126 h276)
  ·rw[if_neg hp]
   exact OutG.mk (b10r (.inl rfl) h140 (by lia))
 refine fb0 t4 short4 (by lia) hs (fb_row (e1 _) (fb_row (e1 _) (fb_row (fun t e h140=> ?_) (fb_row (fun t e h140=> ?_) (fb_row (fun t e h140=> ?_) (fb_row (fun t e h140=> ?_) (fb_end fun key=>OutG.mk (b10z key))))))))
 ·show OutG _ _ _ (if decide (p2≤t.length)&& !hd (fun x=>x==101) t then t else r)
  obtain⟨hb1,hb2⟩:=before 101 t [103,105] r e hr
  by_cases hq:p2≤t.length
  ·have hq':(p2:Int)≤(t.length:Int):=by lia
   rw[decide_eq_true hq]
   cases hh:hd (fun x=>x==101) t with
   |true=>exact OutG.mk (b10_2e h140 hq' (hb2 hh).1 (hb2 hh).2)
   |false=>exact OutG.mk (b10_2y h140 hq' (hb1 hh) (cutE _ t e).1)
  ·rw[decide_eq_false hq]
   exact OutG.mk (b10r (.inr (.inl rfl)) h140 (by lia))
 ·show OutG _ _ _ (if p2≤t.length then (eR p1 t).1 else r)
  by_cases hq:p2≤t.length
  ·rw[if_pos hq]
   obtain⟨h161,hts,htl⟩:=cutE _ t e
   obtain⟨ret,c',b',k',h283⟩:=run283 t htl hts t.length t.length p1 p2 [.bool ef] (by simp)
   exact OutG.mk (b10_3 h140 (by lia) h161 h283)
  ·rw[if_neg hq]
   exact OutG.mk (b10r (.inr (.inr (.inl rfl))) h140 (by lia))
 ·show OutG _ _ _ (if p2≤t.length then t else r)
  by_cases hq:p2≤t.length
  ·rw[if_pos hq]
   exact OutG.mk (b10_4 h140 (by lia) (cutE _ t e).1)
  ·rw[if_neg hq]
   exact OutG.mk (b10r (.inr (.inr (.inr (.inl rfl)))) h140 (by lia))
 ·show OutG _ _ _ (if decide (p2≤t.length)&&ef then t else r)
  by_cases hq:p2≤t.length
  ·rw[decide_eq_true hq]
   cases ef with
   |true=>exact OutG.mk (b10_5y h140 (by lia) (cutE _ t e).1)
   |false=>exact OutG.mk (b10_5n h140 (by lia))
  ·rw[decide_eq_false hq]
   exact OutG.mk (b10r (.inr (.inr (.inr (.inr rfl)))) h140 (by lia))
end
section
open Mine.Pl (vowN vowIN vowJN undR enR gemR eR st3 igR hd pick enAfter rs2 rs3 rs4)
noncomputable def Okw (r:List Nat):Prop:=(∀ x∈r,x∈signsN)∧r.length≤50
theorem Okw.suf {s r:List Nat} (h:Okw (s++r)):Okw r:=⟨fun x hx=>h.1 x (List.mem_append_right _ hx),by have:=h.2;simp at this;lia⟩
theorem Okw.tl {x:Nat} {r:List Nat} (h:Okw (x::r)):Okw r:=Okw.suf (s:=[x]) h
theorem ok_und {r:List Nat} (h:Okw r):Okw (undR r):=by
 refine Pl.pick_all (fun p _ u _=> ?_) h
 cases r with
 |nil=>exact h
 |cons x r=>exact h.tl
theorem ok_ite {c:Prop} [Decidable c] {a b:List Nat} (ha:Okw a) (hb:Okw b):Okw (if c then a else b):=by split<;>assumption
theorem ok_enD {p1:Nat} {r d:List Nat} (h:Okw r) (hd:Okw d):Okw ((enR p1 r).getD d):=by
 unfold enR
 split
 ·exact ok_und h
 ·exact hd
theorem ok_st1 {p1:Nat} {r:List Nat} (h:Okw r):Okw (Pl.st1 p1 r):=by
 refine Pl.pick_all (fun p hp t e=> ?_) h
 have ht:Okw t:=Okw.suf (s:=p.1) (e▸h)
 have q:∀ p∈rs3,p.2=2∨p.2=3∨4≤p.1.length:=by decide
 rcases q p hp with q |q |q
 ·rw[q];exact ok_enD ht h
 ·rw[q]
  show Okw (if decide (p1≤t.length)&&hd (fun x=> !vowJN x) t then t else r)
  exact ok_ite ht h
 ·refine ok_ite (ok_enD ht h) (ok_ite (ok_ite ht h) (ok_ite ⟨fun x hx=> ?_,?_⟩ h))
  ·rcases (List.mem_append (s:=[100,105,101,104]) (t:=t)).mp hx with hx |hx
   ·have d:∀ x∈([100,105,101,104]:List Nat),x∈signsN:=by decide
    exact d x hx
   ·exact ht.1 x hx
  ·have hl:=h.2
   rw[e,List.length_append] at hl
   simp only[List.length_cons]
   lia
theorem ok_eR {p1:Nat} {r:List Nat} (h:Okw r):Okw (eR p1 r).1:=by
 cases r with
 |nil=>exact h
 |cons x t=>
  by_cases hx:x=101
  ·subst hx
   show Okw ((if _ then (undR t,true) else (101::t,false):List Nat×Bool)).1
   split
   ·exact ok_und h.tl
   ·exact h
  ·rw[Pl.eR_not hx]
   exact h
theorem ok_st3 {p1 p2:Nat} {r:List Nat} (h:Okw r):Okw (st3 p1 p2 r):=by
 refine Pl.pick_all (fun p _ t e=> ?_) h
 have ht:Okw t:=Okw.suf (s:=p.1) (e▸h)
 exact ok_ite (Pl.pick_all (fun p _ u e=>ok_enD (Okw.suf (s:=p.1) (e▸ht)) ht) ht) h
theorem ok_igR {p2:Nat} {r:List Nat} (h:Okw r):Okw (igR p2 r):=
 Pl.pick_all (fun p _ u e=>ok_ite (Okw.suf (s:=p.1) (e▸h)) (ok_und h)) (ok_und h)
theorem ok_st4 {p1 p2:Nat} {ef:Bool} {r:List Nat} (h:Okw r):Okw (Pl.st4 p1 p2 ef r):=by
 refine Pl.pick_all (fun p _ t e=> ?_) h
 have ht:Okw t:=Okw.suf (s:=p.1) (e▸h)
 exact ok_ite (ok_ite (ok_igR ht) h) (ok_ite (ok_ite ht h) (ok_ite (ok_ite (ok_eR ht) h) (ok_ite (ok_ite ht h) (ok_ite ht h))))
theorem ok_st5 {r:List Nat} (h:Okw r):Okw (Pl.st5 r):=by
 unfold Pl.st5
 split
 ·rename_i c v v' u
  refine ok_ite ⟨fun x hx=>h.1 x ?_,by have:=h.2;simp at this ⊢;lia⟩ h
  simp only[List.mem_cons] at hx ⊢
  rcases hx with hx |hx |hx<;>simp[hx]
 ·exact h
theorem ok_steps {p1 p2:Nat} {r:List Nat} (h:Okw r):Okw (Pl.stepsR p1 p2 r):=ok_st5 (ok_st4 (ok_st3 (ok_eR (ok_st1 h))))
theorem G297_eq:G297=fSeq B297_0 (fSeq B297_1 (fSeq B297_2 (fSeq B297_3 (fSeq B297_4 (fSeq B297_5 (fSeq B297_6 (fSeq B297_7 (fSeq B297_8 (fSeq B297_9 (fSeq B297_10 (fSeq B297_11 (fSeq B297_12 (fSeq B297_13 (fSeq B297_14 (fSeq B297_15 (fun loc at_=>some (.nxt,loc,at_))))))))))))))))):=rfl
section
variable {cur:List Nat} {N c b k m:Int} {t:At} {x1 x2 x3 x4 x5 x6 x7 x8:Option MV}
theorem k0:B297_0 (L9 x1 x2 x3 x4 x5 x6 x7 x8) (A6 cur N N 0 b k t)=some (.nxt,L9 (some (.s (.int 0))) x2 x3 x4 x5 x6 x7 x8,A6 cur N N 0 b k t):=by
 unfold B297_0 pk297_0;simp! []
theorem k2:B297_2 (L9 (some (.s (.int 0))) x2 x3 x4 x5 x6 x7 x8) (A6 cur c N 0 b k t)=some (.nxt,L9 (some (.s (.int 0))) x2 x3 x4 x5 x6 x7 x8,A6 cur N N 0 b k t):=by
 unfold B297_2 pk297_2;simp! []
theorem k3:B297_3 (L9 x1 x2 x3 x4 x5 x6 x7 x8) (A6 cur N N 0 b k t)=some (.nxt,L9 x1 x2 (some (.s (.int 0))) x4 x5 x6 x7 x8,A6 cur N N 0 b k t):=by
 unfold B297_3 pk297_3;simp! []
theorem k5:B297_5 (L9 x1 x2 (some (.s (.int 0))) x4 x5 x6 x7 x8) (A6 cur c N 0 b k t)=some (.nxt,L9 x1 x2 (some (.s (.int 0))) x4 x5 x6 x7 x8,A6 cur N N 0 b k t):=by
 unfold B297_5 pk297_5;simp! []
theorem k6:B297_6 (L9 x1 x2 x3 x4 x5 x6 x7 x8) (A6 cur N N 0 b k t)=some (.nxt,L9 x1 x2 x3 (some (.s (.int 0))) x5 x6 x7 x8,A6 cur N N 0 b k t):=by
 unfold B297_6 pk297_6;simp! []
theorem k8:B297_8 (L9 x1 x2 x3 (some (.s (.int 0))) x5 x6 x7 x8) (A6 cur c N 0 b k t)=some (.nxt,L9 x1 x2 x3 (some (.s (.int 0))) x5 x6 x7 x8,A6 cur N N 0 b k t):=by
 unfold B297_8 pk297_8;simp! []
theorem k9:B297_9 (L9 x1 x2 x3 x4 x5 x6 x7 x8) (A6 cur N N 0 b k t)=some (.nxt,L9 x1 x2 x3 x4 (some (.s (.int 0))) x6 x7 x8,A6 cur N N 0 b k t):=by
 unfold B297_9 pk297_9;simp! []
theorem k11:B297_11 (L9 x1 x2 x3 x4 (some (.s (.int 0))) x6 x7 x8) (A6 cur c N 0 b k t)=some (.nxt,L9 x1 x2 x3 x4 (some (.s (.int 0))) x6 x7 x8,A6 cur N N 0 b k t):=by
 unfold B297_11 pk297_11;simp! []
theorem k12:B297_12 (L9 x1 x2 x3 x4 x5 x6 x7 x8) (A6 cur N N 0 b k t)=some (.nxt,L9 x1 x2 x3 x4 x5 x6 (some (.s (.int 0))) x8,A6 cur N N 0 b k t):=by
 unfold B297_12 pk297_12;simp! []
theorem k14:B297_14 (L9 x1 x2 x3 x4 x5 x6 (some (.s (.int 0))) x8) (A6 cur c N 0 b k t)=some (.nxt,L9 x1 x2 x3 x4 x5 x6 (some (.s (.int 0))) x8,A6 cur N N 0 b k t):=by
 unfold B297_14 pk297_14;simp! []
theorem k15 {loc:Loc} {at_:At}:B297_15 loc at_=some (.ret (.s (.bool true)),loc,at_):=by
 unfold B297_15 pk297_15;simp! []
theorem k4 {v:MV} {at2:At} (h283:runBody 1 2 G283 [.self] (A6 cur c N 0 b k t)=some (v,at2)):B297_4 (L9 x1 x2 x3 x4 x5 x6 x7 x8) (A6 cur c N 0 b k t)=some (.nxt,L9 x1 x2 x3 x4 x5 x6 x7 x8,at2):=by
 unfold B297_4 pk297_4;simp! [h283]
end
theorem sq {F G:SF} {loc loc1:Loc} {at_ at1:At} (h:F loc at_=some (.nxt,loc1,at1)):fSeq F G loc at_=G loc1 at1:=by
 unfold fSeq
 rw[h]
 rfl
theorem sqr {F G:SF} {loc loc1:Loc} {at_ at1:At} {v:MV} (h:F loc at_=some (.ret v,loc1,at1)):fSeq F G loc at_=some (.ret v,loc1,at1):=by
 unfold fSeq
 rw[h]
 rfl
theorem run297 (r:List Nat) (h:Okw r) (b k:Int) (p1 p2:Nat) (ef:At) (hef:ef.length≤1):∃ b' k' ef',runBody 1 12 G297 [.self] (AR r r.length b k (Tl p1 p2 ef))=some (.s (.bool true),AR (Pl.stepsR p1 p2 r) (Pl.stepsR p1 p2 r).length b' k' (Tl p1 p2 [.bool ef'])):=by
 obtain⟨y2,c1,b1,k1,h1⟩:=b1_ok r h.2 h.1 b k p1 p2 ef (some (.s (.int 0))) none none none none none none none
 have o1:=ok_st1 (p1:=p1) h
 obtain⟨ret,c2,b2,k2',h2⟩:=run283 (Pl.st1 p1 r) o1.2 o1.1 b1 k1 p1 p2 ef hef
 have o2:=ok_eR (p1:=p1) o1
 obtain⟨c3,b3,k3',h3⟩:=b7_ok (eR p1 (Pl.st1 p1 r)).1 o2.2 o2.1 b2 k2' p1 p2 [.bool (eR p1 (Pl.st1 p1 r)).2] (some (.s (.int 0))) y2 (some (.s (.int 0))) (some (.s (.int 0))) none none none none
 have o3:=ok_st3 (p1:=p1) (p2:=p2) o2
 obtain⟨z2,z6,c4,b4,k4',ef',h4⟩:=b10_ok (st3 p1 p2 (eR p1 (Pl.st1 p1 r)).1) o3.2 o3.1 b3 k3' p1 p2 (eR p1 (Pl.st1 p1 r)).2 (some (.s (.int 0))) y2 (some (.s (.int 0))) (some (.s (.int 0))) (some (.s (.int 0))) none none none
 have o4:=ok_st4 (p1:=p1) (p2:=p2) (ef:=(eR p1 (Pl.st1 p1 r)).2) o3
 obtain⟨z8,c5,b5,k5',h5⟩:=b13_ok (Pl.st4 p1 p2 (eR p1 (Pl.st1 p1 r)).2 (st3 p1 p2 (eR p1 (Pl.st1 p1 r)).1)) o4.2 o4.1 b4 k4' p1 p2 [.bool ef'] (some (.s (.int 0))) z2 (some (.s (.int 0))) (some (.s (.int 0))) (some (.s (.int 0))) z6 (some (.s (.int 0))) none
 refine⟨b5,k5',ef',?_⟩
 rw[rb (by rfl),G297_eq]
 show (fSeq B297_0 _ (L9 none none none none none none none none) (AR r r.length b k (Tl p1 p2 ef))).bind _=_
 rw[sq k0,sq h1,sq k2,sq k3,sq (k4 h2),sq k5,sq k6,sq h3,sq k8,sq k9,sq h4,sq k11,sq k12,sq h5,sq k14,sqr k15]
 rfl
end
section
noncomputable def pk248_0 (d:Nat): { F:SF // SoundS sc248 (d+1) ((fnBody (cS 6 7)).getD 0 (.Pass ⟨0,0,0,0⟩)) F }:=⟨_,(S_setat 6 (by rfl) (E_at 2 (by rfl) (eL 0)) (eL 0))⟩
noncomputable def B248_0:SF:=(pk248_0 0).1
noncomputable def pk248_1 (d:Nat): { F:SF // SoundS sc248 (d+1) ((fnBody (cS 6 7)).getD 1 (.Pass ⟨0,0,0,0⟩)) F }:=⟨_,(S_setat 7 (by rfl) (E_at 2 (by rfl) (eL 0)) (eL 0))⟩
noncomputable def B248_1:SF:=(pk248_1 0).1
noncomputable def pk248_2 (d:Nat): { F:SF // SoundS sc248 (d+1) ((fnBody (cS 6 7)).getD 2 (.Pass ⟨0,0,0,0⟩)) F }:=⟨_,(S_assign 1 (E_at 1 (by rfl) (eL 0)) (by decide+kernel) (by kernel_rfl) (by kernel_rfl))⟩
noncomputable def B248_2:SF:=(pk248_2 0).1
noncomputable def pk248_3 (d:Nat): { F:SF // SoundS sc248 (d+1) ((fnBody (cS 6 7)).getD 3 (.Pass ⟨0,0,0,0⟩)) F }:=⟨_,(S_if (C_cmp (E_bin (E_at 1 (by rfl) (eL 0)) E_int) (E_at 2 (by rfl) (eL 0))) (B_cons (S_ret E_bool)
 B_nil) B_nil)⟩
noncomputable def B248_3:SF:=(pk248_3 0).1
noncomputable def pk248_4 (d:Nat): { F:SF // SoundS sc248 (d+1) ((fnBody (cS 6 7)).getD 4 (.Pass ⟨0,0,0,0⟩)) F }:=⟨_,(S_augat 1 (.inl rfl) (by rfl) (eL 0) E_int)⟩
noncomputable def B248_4:SF:=(pk248_4 0).1
noncomputable def pk248_5 (d:Nat): { F:SF // SoundS sc248 (d+1) ((fnBody (cS 6 7)).getD 5 (.Pass ⟨0,0,0,0⟩)) F }:=⟨_,(S_assign 2 (E_at 1 (by rfl) (eL 0)) (by decide+kernel) (by kernel_rfl) (by kernel_rfl))⟩
noncomputable def B248_5:SF:=(pk248_5 0).1
noncomputable def pk248_6 (d:Nat): { F:SF // SoundS sc248 (d+1) ((fnBody (cS 6 7)).getD 6 (.Pass ⟨0,0,0,0⟩)) F }:=⟨_,(S_setat 1 (by rfl) (eL 1) (eL 0))⟩
noncomputable def B248_6:SF:=(pk248_6 0).1
noncomputable def pk248_7 (d:Nat): { F:SF // SoundS sc248 (d+1) ((fnBody (cS 6 7)).getD 7 (.Pass ⟨0,0,0,0⟩)) F }:=⟨_,(S_if (C_not (C_val (E_meth (eL 0) (A_cons (E_gv (by kernel_rfl)) A_nil) fn98 (by intro P;kernel_rfl) (by decide) (by intro _;exact⟨_,_,rfl⟩) (by intro _;rfl)))) (B_cons (S_ret E_bool)
 B_nil) B_nil)⟩
noncomputable def B248_7:SF:=(pk248_7 0).1
noncomputable def pk248_8 (d:Nat): { F:SF // SoundS sc248 (d+1) ((fnBody (cS 6 7)).getD 8 (.Pass ⟨0,0,0,0⟩)) F }:=⟨_,(S_augat 1 (.inl rfl) (by rfl) (eL 0) E_int)⟩
noncomputable def B248_8:SF:=(pk248_8 0).1
noncomputable def pk248_9 (d:Nat): { F:SF // SoundS sc248 (d+1) ((fnBody (cS 6 7)).getD 9 (.Pass ⟨0,0,0,0⟩)) F }:=⟨_,(S_if (C_not (C_val (E_meth (eL 0) (A_cons (E_gv (by kernel_rfl)) A_nil) fn70 (by intro P;kernel_rfl) (by decide) (by intro _;exact⟨_,_,rfl⟩) (by intro _;rfl)))) (B_cons (S_ret E_bool)
 B_nil) B_nil)⟩
noncomputable def B248_9:SF:=(pk248_9 0).1
noncomputable def pk248_10 (d:Nat): { F:SF // SoundS sc248 (d+1) ((fnBody (cS 6 7)).getD 10 (.Pass ⟨0,0,0,0⟩)) F }:=⟨_,(S_augat 1 (.inl rfl) (by rfl) (eL 0) E_int)⟩
noncomputable def B248_10:SF:=(pk248_10 0).1
noncomputable def pk248_11 (d:Nat): { F:SF // SoundS sc248 (d+1) ((fnBody (cS 6 7)).getD 11 (.Pass ⟨0,0,0,0⟩)) F }:=⟨_,(S_setat 6 (by rfl) (E_at 1 (by rfl) (eL 0)) (eL 0))⟩
noncomputable def B248_11:SF:=(pk248_11 0).1
noncomputable def pk248_12 (d:Nat): { F:SF // SoundS sc248 (d+1) ((fnBody (cS 6 7)).getD 12 (.Pass ⟨0,0,0,0⟩)) F }:=⟨_,(S_try (k:=421) (B_cons (S_if (C_cmp (E_at 6 (by rfl) (eL 0)) (eL 2)) (B_cons (S_raise (k:=421) (by decide) (by kernel_rfl))
 B_nil) B_nil)
 (B_cons (S_setat 6 (by rfl) (eL 2) (eL 0))
 B_nil)) (by decide) (by kernel_rfl))⟩
noncomputable def B248_12:SF:=(pk248_12 0).1
noncomputable def pk248_13 (d:Nat): { F:SF // SoundS sc248 (d+1) ((fnBody (cS 6 7)).getD 13 (.Pass ⟨0,0,0,0⟩)) F }:=⟨_,(S_if (C_not (C_val (E_meth (eL 0) (A_cons (E_gv (by kernel_rfl)) A_nil) fn98 (by intro P;kernel_rfl) (by decide) (by intro _;exact⟨_,_,rfl⟩) (by intro _;rfl)))) (B_cons (S_ret E_bool)
 B_nil) B_nil)⟩
noncomputable def B248_13:SF:=(pk248_13 0).1
noncomputable def pk248_14 (d:Nat): { F:SF // SoundS sc248 (d+1) ((fnBody (cS 6 7)).getD 14 (.Pass ⟨0,0,0,0⟩)) F }:=⟨_,(S_augat 1 (.inl rfl) (by rfl) (eL 0) E_int)⟩
noncomputable def B248_14:SF:=(pk248_14 0).1
noncomputable def pk248_15 (d:Nat): { F:SF // SoundS sc248 (d+1) ((fnBody (cS 6 7)).getD 15 (.Pass ⟨0,0,0,0⟩)) F }:=⟨_,(S_if (C_not (C_val (E_meth (eL 0) (A_cons (E_gv (by kernel_rfl)) A_nil) fn70 (by intro P;kernel_rfl) (by decide) (by intro _;exact⟨_,_,rfl⟩) (by intro _;rfl)))) (B_cons (S_ret E_bool)
 B_nil) B_nil)⟩
noncomputable def B248_15:SF:=(pk248_15 0).1
noncomputable def pk248_16 (d:Nat): { F:SF // SoundS sc248 (d+1) ((fnBody (cS 6 7)).getD 16 (.Pass ⟨0,0,0,0⟩)) F }:=⟨_,(S_augat 1 (.inl rfl) (by rfl) (eL 0) E_int)⟩
noncomputable def B248_16:SF:=(pk248_16 0).1
noncomputable def pk248_17 (d:Nat): { F:SF // SoundS sc248 (d+1) ((fnBody (cS 6 7)).getD 17 (.Pass ⟨0,0,0,0⟩)) F }:=⟨_,(S_setat 7 (by rfl) (E_at 1 (by rfl) (eL 0)) (eL 0))⟩
noncomputable def B248_17:SF:=(pk248_17 0).1
noncomputable def pk248_18 (d:Nat): { F:SF // SoundS sc248 (d+1) ((fnBody (cS 6 7)).getD 18 (.Pass ⟨0,0,0,0⟩)) F }:=⟨_,(S_ret E_bool)⟩
noncomputable def B248_18:SF:=(pk248_18 0).1
theorem G248_eq:G248=(fSeq B248_0 (fSeq B248_1 (fSeq B248_2 (fSeq B248_3 (fSeq B248_4 (fSeq B248_5 (fSeq B248_6 (fSeq B248_7 (fSeq B248_8 (fSeq B248_9 (fSeq B248_10 (fSeq B248_11 (fSeq B248_12 (fSeq B248_13 (fSeq B248_14 (fSeq B248_15 (fSeq B248_16 (fSeq B248_17 (fSeq B248_18 (fun loc at_=>some (.nxt,loc,at_))))))))))))))))))))):=rfl
end
section
open Mine.Pl (vowN vcEnd regions)
noncomputable def TlOk (t ef:At):Prop:=t=[]∧ef=[]∨∃ q1 q2 e,t=[.int q1,.int q2,.bool e]∧ef=[.bool e]
section
variable {P:List Nat} {n b k c c' q1 q2 m:Int} {t ef:At} {x1 x2:Option MV}
noncomputable abbrev M5 (x1 x2:Option MV):Loc:=[some .self,x1,x2,none,none]
theorem g0a:B248_0 (M5 x1 x2) (A6 P c n 0 b k [])=some (.nxt,M5 x1 x2,A6 P c n 0 b k [.int n]):=by
 unfold B248_0 pk248_0;simp! [setA]
theorem g0b {y:SV}:B248_0 (M5 x1 x2) (A6 P c n 0 b k (y::t))=some (.nxt,M5 x1 x2,A6 P c n 0 b k (.int n::t)):=by
 unfold B248_0 pk248_0;simp! []
theorem g1a {y:SV}:B248_1 (M5 x1 x2) (A6 P c n 0 b k [y])=some (.nxt,M5 x1 x2,A6 P c n 0 b k [y,.int n]):=by
 unfold B248_1 pk248_1;simp! [setA]
theorem g1b {y z:SV}:B248_1 (M5 x1 x2) (A6 P c n 0 b k (y::z::t))=some (.nxt,M5 x1 x2,A6 P c n 0 b k (y:: .int n::t)):=by
 unfold B248_1 pk248_1;simp! []
theorem g2:B248_2 (M5 x1 x2) (A6 P c n 0 b k t)=some (.nxt,M5 (some (.s (.int c))) x2,A6 P c n 0 b k t):=by
 unfold B248_2 pk248_2;simp! []
theorem g3y (h:n<c+3):B248_3 (M5 x1 x2) (A6 P c n 0 b k t)=some (.ret (.s (.bool false)),M5 x1 x2,A6 P c n 0 b k t):=by
 unfold B248_3 pk248_3;simp! [h]
theorem g3n (h:¬n<c+3):B248_3 (M5 x1 x2) (A6 P c n 0 b k t)=some (.nxt,M5 x1 x2,A6 P c n 0 b k t):=by
 unfold B248_3 pk248_3;simp! [h]
theorem g4:B248_4 (M5 x1 x2) (A6 P c n 0 b k t)=some (.nxt,M5 x1 x2,A6 P (c+3) n 0 b k t):=by
 unfold B248_4 pk248_4;simp! []
theorem g5:B248_5 (M5 x1 x2) (A6 P c n 0 b k t)=some (.nxt,M5 x1 (some (.s (.int c))),A6 P c n 0 b k t):=by
 unfold B248_5 pk248_5;simp! []
theorem g6:B248_6 (M5 (some (.s (.int m))) x2) (A6 P c n 0 b k t)=some (.nxt,M5 (some (.s (.int m))) x2,A6 P m n 0 b k t):=by
 unfold B248_6 pk248_6;simp! []
theorem g7n {at2:At} (h:runBody 2 0 G98 [.self,.set vA] (A6 P c n 0 b k t)=some (.s (.bool false),at2)):B248_7 (M5 x1 x2) (A6 P c n 0 b k t)=some (.ret (.s (.bool false)),M5 x1 x2,at2):=by
 unfold B248_7 pk248_7;simp! [h]
theorem g7y {at2:At} (h:runBody 2 0 G98 [.self,.set vA] (A6 P c n 0 b k t)=some (.s (.bool true),at2)):B248_7 (M5 x1 x2) (A6 P c n 0 b k t)=some (.nxt,M5 x1 x2,at2):=by
 unfold B248_7 pk248_7;simp! [h]
theorem g13n {at2:At} (h:runBody 2 0 G98 [.self,.set vA] (A6 P c n 0 b k t)=some (.s (.bool false),at2)):B248_13 (M5 x1 x2) (A6 P c n 0 b k t)=some (.ret (.s (.bool false)),M5 x1 x2,at2):=by
 unfold B248_13 pk248_13;simp! [h]
theorem g13y {at2:At} (h:runBody 2 0 G98 [.self,.set vA] (A6 P c n 0 b k t)=some (.s (.bool true),at2)):B248_13 (M5 x1 x2) (A6 P c n 0 b k t)=some (.nxt,M5 x1 x2,at2):=by
 unfold B248_13 pk248_13;simp! [h]
theorem g9n {at2:At} (h:runBody 2 0 G70 [.self,.set vA] (A6 P c n 0 b k t)=some (.s (.bool false),at2)):B248_9 (M5 x1 x2) (A6 P c n 0 b k t)=some (.ret (.s (.bool false)),M5 x1 x2,at2):=by
 unfold B248_9 pk248_9;simp! [h]
theorem g9y {at2:At} (h:runBody 2 0 G70 [.self,.set vA] (A6 P c n 0 b k t)=some (.s (.bool true),at2)):B248_9 (M5 x1 x2) (A6 P c n 0 b k t)=some (.nxt,M5 x1 x2,at2):=by
 unfold B248_9 pk248_9;simp! [h]
theorem g15n {at2:At} (h:runBody 2 0 G70 [.self,.set vA] (A6 P c n 0 b k t)=some (.s (.bool false),at2)):B248_15 (M5 x1 x2) (A6 P c n 0 b k t)=some (.ret (.s (.bool false)),M5 x1 x2,at2):=by
 unfold B248_15 pk248_15;simp! [h]
theorem g15y {at2:At} (h:runBody 2 0 G70 [.self,.set vA] (A6 P c n 0 b k t)=some (.s (.bool true),at2)):B248_15 (M5 x1 x2) (A6 P c n 0 b k t)=some (.nxt,M5 x1 x2,at2):=by
 unfold B248_15 pk248_15;simp! [h]
theorem g8:B248_8 (M5 x1 x2) (A6 P c n 0 b k t)=some (.nxt,M5 x1 x2,A6 P (c+1) n 0 b k t):=by
 unfold B248_8 pk248_8;simp! []
theorem g10:B248_10 (M5 x1 x2) (A6 P c n 0 b k t)=some (.nxt,M5 x1 x2,A6 P (c+1) n 0 b k t):=by
 unfold B248_10 pk248_10;simp! []
theorem g14:B248_14 (M5 x1 x2) (A6 P c n 0 b k t)=some (.nxt,M5 x1 x2,A6 P (c+1) n 0 b k t):=by
 unfold B248_14 pk248_14;simp! []
theorem g16:B248_16 (M5 x1 x2) (A6 P c n 0 b k t)=some (.nxt,M5 x1 x2,A6 P (c+1) n 0 b k t):=by
 unfold B248_16 pk248_16;simp! []
theorem g11:B248_11 (M5 x1 x2) (A6 P c n 0 b k (Tl q1 q2 ef))=some (.nxt,M5 x1 x2,A6 P c n 0 b k (Tl c q2 ef)):=by
 unfold B248_11 pk248_11;simp! []
theorem g12:B248_12 (M5 x1 (some (.s (.int m)))) (A6 P c n 0 b k (Tl q1 q2 ef))=some (.nxt,M5 x1 (some (.s (.int m))),A6 P c n 0 b k (Tl (if m≤q1 then q1 else m) q2 ef)):=by
 unfold B248_12 pk248_12
 by_cases g:m≤q1<;>simp! [g]
theorem g17:B248_17 (M5 x1 x2) (A6 P c n 0 b k (Tl q1 q2 ef))=some (.nxt,M5 x1 x2,A6 P c n 0 b k (Tl q1 c ef)):=by
 unfold B248_17 pk248_17;simp! []
theorem g18 {loc:Loc} {at_:At}:B248_18 loc at_=some (.ret (.s (.bool true)),loc,at_):=by
 unfold B248_18 pk248_18;simp! []
theorem pre248 (ht:TlOk t ef):runBody 1 4 G248 [.self] (A6 P 0 n 0 b k t)=(fSeq B248_2 (fSeq B248_3 (fSeq B248_4 (fSeq B248_5 (fSeq B248_6 (fSeq B248_7 (fSeq B248_8 (fSeq B248_9 (fSeq B248_10 (fSeq B248_11 (fSeq B248_12 (fSeq B248_13 (fSeq B248_14 (fSeq B248_15 (fSeq B248_16 (fSeq B248_17 (fSeq B248_18 (fun loc at_=>some (.nxt,loc,at_)))))))))))))))))) (M5 none none) (A6 P 0 n 0 b k (Tl n n ef))).bind outR:=by
 rw[rb (by rfl),G248_eq]
 show (fSeq B248_0 _ (M5 none none) _).bind _=_
 rcases ht with⟨rfl,rfl⟩ |⟨q1,q2,e,rfl,rfl⟩
 ·rw[sq g0a,sq g1a]
 ·rw[sq g0b,sq g1b]
end
section
variable {P:List Nat} {n b k c1 c2 c3 c4 q1:Int} {t ef:At}
theorem run248s (ht:TlOk t ef) (hn:n<3):runBody 1 4 G248 [.self] (A6 P 0 n 0 b k t)=some (.s (.bool false),A6 P 0 n 0 b k (Tl n n ef)):=by
 rw[pre248 ht,sq g2,sqr (g3y (by lia))]
 rfl
theorem run248a (ht:TlOk t ef) (hn:¬n<3) (h98:runBody 2 0 G98 [.self,.set vA] (A6 P 0 n 0 b k (Tl n n ef))=some (.s (.bool false),A6 P c1 n 0 b k (Tl n n ef))):runBody 1 4 G248 [.self] (A6 P 0 n 0 b k t)=some (.s (.bool false),A6 P c1 n 0 b k (Tl n n ef)):=by
 rw[pre248 ht,sq g2,sq (g3n (by lia)),sq g4,sq g5,sq g6,sqr (g7n h98)]
 rfl
theorem run248b (ht:TlOk t ef) (hn:¬n<3) (h98:runBody 2 0 G98 [.self,.set vA] (A6 P 0 n 0 b k (Tl n n ef))=some (.s (.bool true),A6 P c1 n 0 b k (Tl n n ef))) (h70:runBody 2 0 G70 [.self,.set vA] (A6 P (c1+1) n 0 b k (Tl n n ef))=some (.s (.bool false),A6 P c2 n 0 b k (Tl n n ef))):runBody 1 4 G248 [.self] (A6 P 0 n 0 b k t)=some (.s (.bool false),A6 P c2 n 0 b k (Tl n n ef)):=by
 rw[pre248 ht,sq g2,sq (g3n (by lia)),sq g4,sq g5,sq g6,sq (g7y h98),sq g8,sqr (g9n h70)]
 rfl
theorem run248c (ht:TlOk t ef) (hn:¬n<3) (h98:runBody 2 0 G98 [.self,.set vA] (A6 P 0 n 0 b k (Tl n n ef))=some (.s (.bool true),A6 P c1 n 0 b k (Tl n n ef))) (h70:runBody 2 0 G70 [.self,.set vA] (A6 P (c1+1) n 0 b k (Tl n n ef))=some (.s (.bool true),A6 P c2 n 0 b k (Tl n n ef)))
  (hq:q1=if 3≤c2+1 then c2+1 else 3) (h98b:runBody 2 0 G98 [.self,.set vA] (A6 P (c2+1) n 0 b k (Tl q1 n ef))=some (.s (.bool false),A6 P c3 n 0 b k (Tl q1 n ef))):runBody 1 4 G248 [.self] (A6 P 0 n 0 b k t)=some (.s (.bool false),A6 P c3 n 0 b k (Tl q1 n ef)):=by
 rw[pre248 ht,sq g2,sq (g3n (by lia)),sq g4,sq g5,sq g6,sq (g7y h98),sq g8,sq (g9y h70),sq g10,sq g11,sq g12]
 have e:(if (0:Int)+3≤c2+1 then c2+1 else 0+3)=q1:=by rw[hq];rfl
 rw[e,sqr (g13n h98b)]
 rfl
theorem run248d {r:Bool} (ht:TlOk t ef) (hn:¬n<3) (h98:runBody 2 0 G98 [.self,.set vA] (A6 P 0 n 0 b k (Tl n n ef))=some (.s (.bool true),A6 P c1 n 0 b k (Tl n n ef))) (h70:runBody 2 0 G70 [.self,.set vA] (A6 P (c1+1) n 0 b k (Tl n n ef))=some (.s (.bool true),A6 P c2 n 0 b k (Tl n n ef)))
  (hq:q1=if 3≤c2+1 then c2+1 else 3) (h98b:runBody 2 0 G98 [.self,.set vA] (A6 P (c2+1) n 0 b k (Tl q1 n ef))=some (.s (.bool true),A6 P c3 n 0 b k (Tl q1 n ef))) (h70b:runBody 2 0 G70 [.self,.set vA] (A6 P (c3+1) n 0 b k (Tl q1 n ef))=some (.s (.bool r),A6 P c4 n 0 b k (Tl q1 n ef))):
  runBody 1 4 G248 [.self] (A6 P 0 n 0 b k t)=some (.s (.bool r),A6 P (if r then c4+1 else c4) n 0 b k (Tl q1 (if r then c4+1 else n) ef)):=by
 rw[pre248 ht,sq g2,sq (g3n (by lia)),sq g4,sq g5,sq g6,sq (g7y h98),sq g8,sq (g9y h70),sq g10,sq g11,sq g12]
 have e:(if (0:Int)+3≤c2+1 then c2+1 else 0+3)=q1:=by rw[hq];rfl
 rw[e,sq (g13y h98b),sq g14]
 cases r with
 |true=>
  rw[sq (g15y h70b),sq g16,sq g17,sqr g18]
  rfl
 |false=>
  rw[sqr (g15n h70b)]
  rfl
end
theorem scan_lt {f:Nat→Bool}:∀ {y:List Nat} {j:Nat},scanO f y=some j→j<y.length:=by
 intro y
 induction y with
 |nil=>intro j h;cases h
 |cons x r ih=>
  intro j h
  unfold scanO at h
  split at h
  ·cases h;simp
  ·obtain⟨i,hi,e⟩:=Option.map_eq_some_iff.mp h
   have:=ih hi
   subst e
   simp;lia
theorem scanO_cons (f:Nat→Bool) (x:Nat) (r:List Nat):scanO f (x::r)=if f x then some 0 else (scanO f r).map (· +1):=rfl
theorem vc_t (y:List Nat):∀ i,vcEnd true i y=(scanO (fun x=> !vowN x) y).map fun j=>(i+j+1,y.drop (j+1)):=by
 induction y with
 |nil=>intro i;rfl
 |cons x r ih=>
  intro i
  rw[scanO_cons]
  unfold vcEnd
  cases h:vowN x with
  |true=>
   simp only[if_true,Bool.not_true,Bool.false_eq_true,if_false]
   rw[ih,Option.map_map]
   congr 1
   funext j
   simp[Nat.add_assoc,Nat.add_comm,Nat.add_left_comm]
  |false=>simp
theorem vc_f (y:List Nat):∀ i,vcEnd false i y=(scanO vowN y).bind fun j=>(scanO (fun x=> !vowN x) (y.drop (j+1))).map fun j2=>(i+j+1+j2+1,y.drop (j+1+j2+1)):=by
 induction y with
 |nil=>intro i;rfl
 |cons x r ih=>
  intro i
  rw[scanO_cons]
  show vcEnd (vowN x) (i+1) r=_
  cases h:vowN x with
  |true=>
   simp only[if_true,Option.bind_some]
   rw[vc_t]
   have e:(x::r).drop (0+1)=r:=rfl
   rw[e]
   congr 1
   funext j
   have e2:(x::r).drop (0+1+j+1)=r.drop (j+1):=by
    rw[show 0+1+j+1=(j+1)+1 by lia]
    rfl
   rw[e2]
  |false=>
   simp only[Bool.false_eq_true,if_false]
   rw[ih]
   cases scanO vowN r with
   |none=>rfl
   |some j=>
    simp only[Option.bind_some,Option.map_some]
    have e:(x::r).drop (j+1+1)=r.drop (j+1):=rfl
    rw[e]
    congr 1
    funext j2
    have e2:(x::r).drop (j+1+1+j2+1)=r.drop (j+1+j2+1):=by
     rw[show j+1+1+j2+1=(j+1+j2+1)+1 by lia]
     rfl
    rw[e2]
    congr 1
    lia
theorem run98v (P:List Nat) (hP:P.length≤50) (c:Nat) (hc:c≤P.length) (b k:Int) (t:At):runBody 2 0 G98 [.self,.set vA] (A6 P c P.length 0 b k t)=(match scanO vowN (P.drop c) with
   |some j=>some (.s (.bool true),A6 P (c+j:Nat) P.length 0 b k t)
   |none=>some (.s (.bool false),A6 P P.length P.length 0 b k t)):=by
 have hl:(P.take c).length+(P.drop c).length=P.length:=by simp;lia
 have hc':(P.take c).length=c:=by simp;lia
 have:=run98 vA (P.take c) (P.drop c) (by lia) 0 b k t
 rw[List.take_append_drop,hl,hc'] at this
 rw[this]
 have:(fun x=>vA.contains [x])=vowN:=funext vA_vow
 rw[this]
 all_goals (cases scanO vowN (P.drop c)<;>rfl)
theorem run70v (P:List Nat) (hP:P.length≤50) (c:Nat) (hc:c≤P.length) (b k:Int) (t:At):runBody 2 0 G70 [.self,.set vA] (A6 P c P.length 0 b k t)=(match scanO (fun x=> !vowN x) (P.drop c) with
   |some j=>some (.s (.bool true),A6 P (c+j:Nat) P.length 0 b k t)
   |none=>some (.s (.bool false),A6 P P.length P.length 0 b k t)):=by
 have hl:(P.take c).length+(P.drop c).length=P.length:=by simp;lia
 have hc':(P.take c).length=c:=by simp;lia
 have:=run70 vA (P.take c) (P.drop c) (by lia) 0 b k t
 rw[List.take_append_drop,hl,hc'] at this
 rw[this]
 have:(fun x=> !vA.contains [x])=(fun x=> !vowN x):=funext fun x=>by rw[vA_vow]
 rw[this]
 all_goals (cases scanO (fun x=> !vowN x) (P.drop c)<;>rfl)
theorem max3 (a:Nat):((max a 3:Nat):Int)=if (3:Int)≤(a:Int) then (a:Int) else 3:=by
 by_cases h:3≤a
 ·rw[if_pos (by lia),Nat.max_eq_left h]
 ·rw[if_neg (by lia),Nat.max_eq_right (by lia)]
  rfl
theorem run248 (P:List Nat) (hP:P.length≤50) (b k:Int) (t ef:At) (ht:TlOk t ef):∃ ret c',runBody 1 4 G248 [.self] (A6 P 0 P.length 0 b k t)=some (.s (.bool ret),A6 P c' P.length 0 b k (Tl (regions P).1 (regions P).2 ef)):=by
 by_cases hn:P.length<3
 ·have e:regions P=(P.length,P.length):=by unfold regions;rw[if_pos hn]
  rw[e]
  exact (wit2 (run248s ht (by lia)))
 ·have hn':¬(P.length:Int)<3:=by lia
  have e:regions P=match vcEnd false 0 P with
   |none=>(P.length,P.length)
   |some (i,r)=>(max i 3,match vcEnd false i r with |none=>P.length |some (j,_)=>j):=by unfold regions;rw[if_neg hn];all_goals (cases vcEnd false 0 P<;>rfl)
  have h98:=run98v P hP 0 (Nat.zero_le _) b k (Tl P.length P.length ef)
  rw[vc_f] at e
  have ed:P.drop 0=P:=rfl
  rw[ed] at h98
  cases g1:scanO vowN P with
  |none=>
   rw[g1] at h98 e
   rw[e]
   exact (wit2 (run248a ht hn' h98))
  |some j=>
   rw[g1] at h98 e
   have hj:=scan_lt g1
   have h70:=run70v P hP (j+1) (by lia) b k (Tl P.length P.length ef)
   have c1:((0+j:Nat):Int)+1=((j+1:Nat):Int):=by rw[Nat.zero_add];rfl
   rw[←c1] at h70
   simp only[Option.bind_some] at e
   cases g2:scanO (fun x=> !vowN x) (P.drop (j+1)) with
   |none=>
    rw[g2] at h70 e
    rw[e]
    exact (wit2 (run248b ht hn' h98 h70))
   |some j2=>
    rw[g2] at h70 e
    have hj2:=scan_lt g2
    rw[List.length_drop] at hj2
    simp only[Option.map_some] at e
    have ep:0+j+1+j2+1=j+1+j2+1:=by rw[Nat.zero_add]
    rw[ep] at e
    have hq:((max (j+1+j2+1) 3:Nat):Int)=if (3:Int)≤((j+1+j2:Nat):Int)+1 then ((j+1+j2:Nat):Int)+1 else 3:=max3 (j+1+j2+1)
    have h98b:=run98v P hP (j+1+j2+1) (by lia) b k (Tl (max (j+1+j2+1) 3:Nat) P.length ef)
    have c2:((j+1+j2:Nat):Int)+1=((j+1+j2+1:Nat):Int):=rfl
    rw[←c2] at h98b
    rw[vc_f] at e
    cases g3:scanO vowN (P.drop (j+1+j2+1)) with
    |none=>
     rw[g3] at h98b e
     rw[e]
     exact (wit2 (run248c ht hn' h98 h70 hq h98b))
    |some j3=>
     rw[g3] at h98b e
     have hj3:=scan_lt g3
     rw[List.length_drop] at hj3
     simp only[Option.bind_some] at e
     rw[List.drop_drop] at e
     have h70b:=run70v P hP (j+1+j2+1+(j3+1)) (by lia) b k (Tl (max (j+1+j2+1) 3:Nat) P.length ef)
     have c3:((j+1+j2+1+j3:Nat):Int)+1=((j+1+j2+1+(j3+1):Nat):Int):=rfl
     rw[←c3] at h70b
     cases g4:scanO (fun x=> !vowN x) (P.drop (j+1+j2+1+(j3+1))) with
     |none=>
      rw[g4] at h70b e
      rw[e]
      exact (wit2 (run248d ht hn' h98 h70 hq h98b h70b))
     |some j4=>
      rw[g4] at h70b e
      simp only[Option.map_some] at e
      rw[e]
      have:=run248d ht hn' h98 h70 hq h98b h70b
      simp only[if_true] at this
      have c4:((j+1+j2+1+(j3+1)+j4:Nat):Int)+1=((j+1+j2+1+j3+1+j4+1:Nat):Int):=rfl
      rw[c4] at this
      exact (wit2 this)
end
section
open Mine.Pl (vowN lowN bareN)
theorem fab1 (p r:List Nat) (hp:p.length≤100) (hr:r.length≤100) (hs:∀ x∈r,x∈signsN) (lb b k:Int) (t:At):runBody 2 16 G133 [.self,.tab tb348] (A6 (p++r) p.length (p.length+r.length:Nat) lb b k t)=some (.s (.int (ruleS rs1 r).1),A6 (p++r) ((p.length:Int)+(ruleS rs1 r).2) (p.length+r.length:Nat) lb b k t):=
 run133 tb348 short1 p r hp hr lb b k t _ _ (by have:=tree_ok 8 [] t1 r hs;simpa using this)
theorem fab0 (p r:List Nat) (hp:p.length≤100) (hr:r.length≤100) (hs:∀ x∈r,x∈signsN) (lb b k:Int) (t:At):runBody 2 16 G133 [.self,.tab tb338] (A6 (p++r) p.length (p.length+r.length:Nat) lb b k t)=some (.s (.int (ruleS rs0 r).1),A6 (p++r) ((p.length:Int)+(ruleS rs0 r).2) (p.length+r.length:Nat) lb b k t):=
 run133 tb338 short0 p r hp hr lb b k t _ _ (by have:=tree_ok 8 [] t0 r hs;simpa using this)
theorem y_eq:(Str.ofString "y").cps.toList=[121]:=by decide
theorem i_eq:(Str.ofString "i").cps.toList=[105]:=by decide
theorem a_eq:(Str.ofString "a").cps.toList=[97]:=by decide
theorem o_eq:(Str.ofString "o").cps.toList=[111]:=by decide
theorem u_eq:(Str.ofString "u").cps.toList=[117]:=by decide
theorem Y_eq:(Str.ofString "Y").cps.toList=[89]:=by decide
theorem I_eq:(Str.ofString "I").cps.toList=[73]:=by decide
theorem sub_one (p r:List Nat) (x z:Nat) (h:(p++x::r).length≤100) (c lb:Int) (t:At) (N:Int) (hN:N=((p++x::r).length:Int)) (hc:(p.length:Int)+1≤c):
  runBody 2 1 G154 [.self,.s (.str [z])] (A6 (p++x::r) c N lb p.length ((p.length:Int)+1) t)=some (.s .none,A6 (p++z::r) c N lb p.length ((p.length:Int)+1) t):=by
 have hp:sliceL (p++x::r) (some 0) (some (p.length:Int))=p:=by
  have:=slice_pre p.reverse (x::r)
  simpa using this
 have hq:sliceL (p++x::r) (some ((p.length:Int)+1)) none=r:=by
  have e:((p.length:Int)+1)=((p.length+1:Nat):Int):=by lia
  rw[e,slice_from_nat]
  have:p++x::r=(p++[x])++r:=by simp
  rw[this]
  exact List.drop_left' (by simp)
 have e:=run154a [z] p r (p++x::r) c N lb p.length ((p.length:Int)+1) t hp hq (by lia) (by simp) (by simp at h ⊢;lia) (by simp at h ⊢;lia) (by lia) (by lia) (by rw[hN];simp<;>lia) (by rw[hN];exact Int.le_refl _)
 rw[e,if_pos hc]
 have e1:p++[z]++r=p++z::r:=by simp
 have e2:(([z]:List Nat).length:Int)-((p.length:Int)+1-p.length)=0:=by simp<;>lia
 rw[e1,e2]
 have e3:c+0=c:=by lia
 have e4:N+0=N:=by lia
 rw[e3,e4]
 rfl
set_option genInjectivity false in
set_option genSizeOf false in
structure Qshape255 where
 T:CF
 B:SF
 f0:G255=fSeq (loopN 60 T B) (fSeq (fun loc at_=>some (.ret (.s (.bool true)),loc,at_)) (fun loc at_=>some (.nxt,loc,at_)))
 f1:(∀ loc at_,T loc at_=some (true,at_))
 f2:(∀ (cur:List Nat) (c c2 n lb b k:Int) (t at2:At) (v:MV) (x1 x2:Option MV),runBody 2 16 G133 [.self,.tab tb348] (A6 cur c n lb c k t)=some (.s (.int 1),A6 cur c2 n lb c k t)→runBody 2 1 G154 [.self,.s (.str [121])] (A6 cur c2 n lb c c2 t)=some (v,at2)→B (M5 x1 x2) (A6 cur c n lb b k t)=some (.cont,M5 (some (.s (.int c))) (some (.s (.int 1))),at2))
 f3:(∀ (cur:List Nat) (c c2 n lb b k:Int) (t at2:At) (v:MV) (x1 x2:Option MV),runBody 2 16 G133 [.self,.tab tb348] (A6 cur c n lb c k t)=some (.s (.int 2),A6 cur c2 n lb c k t)→runBody 2 1 G154 [.self,.s (.str [105])] (A6 cur c2 n lb c c2 t)=some (v,at2)→B (M5 x1 x2) (A6 cur c n lb b k t)=some (.cont,M5 (some (.s (.int c))) (some (.s (.int 2))),at2))
 f4:(∀ (cur:List Nat) (c c2 n lb b k:Int) (t:At) (x1 x2:Option MV),runBody 2 16 G133 [.self,.tab tb348] (A6 cur c n lb c k t)=some (.s (.int 3),A6 cur c2 n lb c k t)→n≤c2→B (M5 x1 x2) (A6 cur c n lb b k t)=some (.brk,M5 (some (.s (.int c))) (some (.s (.int 3))),A6 cur c n lb c c2 t))
 f5:(∀ (cur:List Nat) (c c2 n lb b k:Int) (t:At) (x1 x2:Option MV),runBody 2 16 G133 [.self,.tab tb348] (A6 cur c n lb c k t)=some (.s (.int 3),A6 cur c2 n lb c k t)→¬n≤c2→B (M5 x1 x2) (A6 cur c n lb b k t)=some (.cont,M5 (some (.s (.int c))) (some (.s (.int 3))),A6 cur (c2+1) n lb c c2 t))
theorem shape255:Nonempty Qshape255:=by
 refine⟨⟨_,_,by unfold G255 pk255;dsimp only;try rfl,?_,?_,?_,?_,?_⟩⟩
 ·intro loc at_
  simp! []
 ·intro cur c c2 n lb b k t at2 v x1 x2 h1 h2
  simp! [h1,y_eq,h2]
 ·intro cur c c2 n lb b k t at2 v x1 x2 h1 h2
  simp! [h1,i_eq,h2]
 ·intro cur c c2 n lb b k t x1 x2 h1 h2
  simp! [h1,h2]
 ·intro cur c c2 n lb b k t x1 x2 h1 h2
  simp! [h1,h2]
noncomputable def Kshape255:Qshape255:=Classical.choice shape255
theorem run255 (P:List Nat) (h:Okw P) (b k:Int) (t:At):∃ c' b' k',runBody 1 4 G255 [.self] (A6 P 0 P.length 0 b k t)=some (.s (.bool true),A6 (P.map lowN) c' P.length 0 b' k' t):=by
 have loop:∀ (y p:List Nat) (m:Nat) (b k:Int) (x1 x2:Option MV),Okw (p++y)→y.length<m→∃ loc' c' b' k',loopN m Kshape255.T Kshape255.B (M5 x1 x2) (A6 (p++y) p.length (p++y).length 0 b k t)=some (.nxt,loc',A6 (p++y.map lowN) c' (p++y).length 0 b' k' t):=by
  intro y
  induction y with
  |nil=>
   intro p m b k x1 x2 hok hm
   obtain⟨m,rfl⟩:∃ q,m=q+1:=⟨m-1,by lia⟩
   rw[loopN_succ,Kshape255.f1]
   simp only[Option.bind_some,if_true]
   have key:=fab1 p [] (by have:=hok.2;simp at this;lia) (by simp) (by simp) 0 p.length k t
   have e2:ruleS rs1 []=(3,0):=rfl
   rw[e2] at key
   have e3:(p.length+([]:List Nat).length)=(p++[]).length:=by simp
   rw[e3] at key
   rw[Kshape255.f4 _ _ _ _ _ b _ _ x1 x2 key (by simp)]
   exact (wit4 rfl)
  |cons x r ih=>
   intro p m b k x1 x2 hok hm
   obtain⟨m,rfl⟩:∃ q,m=q+1:=⟨m-1,by lia⟩
   rw[loopN_succ,Kshape255.f1]
   simp only[Option.bind_some,if_true]
   have hs:∀ z∈x::r,z∈signsN:=fun z hz=>hok.1 z (List.mem_append_right _ hz)
   have hl:=hok.2
   simp only[List.length_append,List.length_cons] at hl
   have key:=fab1 p (x::r) (by lia) (by simp;lia) hs 0 p.length k t
   have e3:(p.length+(x::r).length)=(p++x::r).length:=by simp
   rw[e3] at key
   have fin:∀ (z:Nat) (b' k':Int) (y1 y2:Option MV),z=lowN x→z∈signsN→∃ loc' c' b'' k'',loopN m Kshape255.T Kshape255.B (M5 y1 y2) (A6 (p++z::r) ((p.length:Int)+1) (p++x::r).length 0 b' k' t)=some (.nxt,loc',A6 (p++(x::r).map lowN) c' (p++x::r).length 0 b'' k'' t):=by
    intro z b' k' y1 y2 hz hzs
    have hok':Okw ((p++[z])++r):=by
     refine⟨fun w hw=> ?_,by simp;lia⟩
     simp only[List.append_assoc,List.mem_append,List.mem_cons,List.not_mem_nil,or_false] at hw
     rcases hw with hw |hw |hw
     ·exact hok.1 w (List.mem_append_left _ hw)
     ·rw[hw];exact hzs
     ·exact hs w (.tail _ hw)
    obtain⟨loc',c',b'',k'',hh⟩:=ih (p++[z]) m b' k' y1 y2 hok' (by simpa using hm)
    refine⟨loc',c',b'',k'',?_⟩
    have g1:(p++[z])++r=p++z::r:=by simp
    have g2:((p++[z]).length:Int)=(p.length:Int)+1:=by simp
    have g3:((p++z::r).length)=(p++x::r).length:=by simp
    have g4:(p++[z])++r.map lowN=p++(x::r).map lowN:=by rw[List.map_cons,←hz];simp
    rw[g1,g2,g3,g4] at hh
    exact hh
   by_cases h1:x=73
   ·subst h1
    have e2:ruleS rs1 (73::r)=(2,1):=by simp[ruleS,rs1]
    rw[e2] at key
    have h154:=sub_one p r 73 105 (by have:=hok.2;lia) ((p.length:Int)+1) 0 t _ rfl (Int.le_refl _)
    rw[Kshape255.f3 _ _ _ _ _ b _ _ _ _ x1 x2 key h154]
    exact fin 105 _ _ _ _ rfl (by decide)
   ·by_cases h2:x=89
    ·subst h2
     have e2:ruleS rs1 (89::r)=(1,1):=by simp[ruleS,rs1]
     rw[e2] at key
     have h154:=sub_one p r 89 121 (by have:=hok.2;lia) ((p.length:Int)+1) 0 t _ rfl (Int.le_refl _)
     rw[Kshape255.f2 _ _ _ _ _ b _ _ _ _ x1 x2 key h154]
     exact fin 121 _ _ _ _ rfl (by decide)
    ·have e2:ruleS rs1 (x::r)=(3,0):=by simp[ruleS,rs1,Ne.symm h1,Ne.symm h2]
     rw[e2] at key
     have e0:(p.length:Int)+((0:Nat):Int)=p.length:=by simp
     rw[e0] at key
     rw[Kshape255.f5 _ _ _ _ _ b _ _ x1 x2 key (by simp<;>lia)]
     exact fin x _ _ _ _ (by simp[lowN,h1,h2]) (hs x (.head _))
 obtain⟨loc',c',b',k',hh⟩:=loop P [] 60 b k none none h (by have:=h.2;lia)
 refine⟨c',b',k',?_⟩
 rw[rb (by rfl),Kshape255.f0]
 show (fSeq (loopN 60 Kshape255.T Kshape255.B) _ (M5 none none) _).bind _=_
 have hh:loopN 60 Kshape255.T Kshape255.B (M5 none none) (A6 P 0 P.length 0 b k t)=some (.nxt,loc',A6 (P.map lowN) c' P.length 0 b' k' t):=hh
 rw[sq hh]
 rfl
end
section
open Mine.Pl (vowN lowN bareN mkf markW nxV)
noncomputable abbrev P14 (x1 x2 x3 x4 x5 x6 x7 x8:Option MV):Loc:=[some .self,x1,x2,x3,x4,x5,x6,x7,x8,none,none,none,none,none]
set_option genInjectivity false in
set_option genSizeOf false in
structure Qshape241a where
 T:CF
 B:SF
 f0:B241_1=loopN 60 T B
 f1:(∀ loc at_,T loc at_=some (true,at_))
 f2:(∀ (res:Int) (z:Nat),(res=1∧z=97∨res=2∧z=101∨res=3∧z=105∨res=4∧z=111∨res=5∧z=117)→∀ (cur:List Nat) (c c2 n lb b k:Int) (t at2:At) (v:MV) (x1 x2 x3 x4 x5 x6 x7 x8:Option MV),runBody 2 16 G133 [.self,.tab tb338] (A6 cur c n lb c k t)=some (.s (.int res),A6 cur c2 n lb c k t)→runBody 2 1 G154 [.self,.s (.str [z])] (A6 cur c2 n lb c c2 t)=some (v,at2)→B (P14 x1 x2 x3 x4 x5 x6 x7 x8) (A6 cur c n lb b k t)=some (.cont,P14 x1 (some (.s (.int c))) (some (.s (.int res))) x4 x5 x6 x7 x8,at2))
 f3:(∀ (cur:List Nat) (c c2 n lb b k:Int) (t:At) (x1 x2 x3 x4 x5 x6 x7 x8:Option MV),runBody 2 16 G133 [.self,.tab tb338] (A6 cur c n lb c k t)=some (.s (.int 6),A6 cur c2 n lb c k t)→n≤c2→B (P14 x1 x2 x3 x4 x5 x6 x7 x8) (A6 cur c n lb b k t)=some (.brk,P14 x1 (some (.s (.int c))) (some (.s (.int 6))) x4 x5 x6 x7 x8,A6 cur c n lb c c2 t))
 f4:(∀ (cur:List Nat) (c c2 n lb b k:Int) (t:At) (x1 x2 x3 x4 x5 x6 x7 x8:Option MV),runBody 2 16 G133 [.self,.tab tb338] (A6 cur c n lb c k t)=some (.s (.int 6),A6 cur c2 n lb c k t)→¬n≤c2→B (P14 x1 x2 x3 x4 x5 x6 x7 x8) (A6 cur c n lb b k t)=some (.cont,P14 x1 (some (.s (.int c))) (some (.s (.int 6))) x4 x5 x6 x7 x8,A6 cur (c2+1) n lb c c2 t))
theorem shape241a:Nonempty Qshape241a:=by
 refine⟨⟨_,_,by unfold B241_1 pk241_1;dsimp only;try rfl,?_,?_,?_,?_⟩⟩
 ·intro loc at_
  simp! []
 ·intro res z hz cur c c2 n lb b k t at2 v x1 x2 x3 x4 x5 x6 x7 x8 h1 h2
  rcases hz with⟨rfl,rfl⟩ |⟨rfl,rfl⟩ |⟨rfl,rfl⟩ |⟨rfl,rfl⟩ |⟨rfl,rfl⟩<;>simp! [h1,a_eq,e_eq,i_eq,o_eq,u_eq,h2]
 ·intro cur c c2 n lb b k t x1 x2 x3 x4 x5 x6 x7 x8 h1 h2
  simp! [h1,h2]
 ·intro cur c c2 n lb b k t x1 x2 x3 x4 x5 x6 x7 x8 h1 h2
  simp! [h1,h2]
noncomputable def Kshape241a:Qshape241a:=Classical.choice shape241a
theorem rule_no {x s:Nat} {n:Int} {r:List Nat} {rs:List (List Nat×Int)} (h:¬x=s):ruleS (([s],n)::rs) (x::r)=ruleS rs (x::r):=by
 show (if (s==x&&true)=true then _ else _)=_
 rw[Bool.and_true]
 exact if_neg fun e=>h (beq_iff_eq.mp e).symm
theorem bare_rule (x:Nat) (r:List Nat):(∃ (res:Int) (z:Nat),ruleS rs0 (x::r)=(res,1)∧bareN x=z∧(res=1∧z=97∨res=2∧z=101∨res=3∧z=105∨res=4∧z=111∨res=5∧z=117))∨ruleS rs0 (x::r)=(6,0)∧bareN x=x:=by
 by_cases h:x∈[225,228,233,235,237,239,243,246,250,252]
 ·simp only[List.mem_cons,List.not_mem_nil,or_false] at h
  left
  rcases h with rfl |rfl |rfl |rfl |rfl |rfl |rfl |rfl |rfl |rfl
  ·exact⟨1,97,rfl,rfl,.inl ⟨rfl,rfl⟩⟩
  ·exact⟨1,97,rfl,rfl,.inl ⟨rfl,rfl⟩⟩
  ·exact⟨2,101,rfl,rfl,.inr (.inl ⟨rfl,rfl⟩)⟩
  ·exact⟨2,101,rfl,rfl,.inr (.inl ⟨rfl,rfl⟩)⟩
  ·exact⟨3,105,rfl,rfl,.inr (.inr (.inl ⟨rfl,rfl⟩))⟩
  ·exact⟨3,105,rfl,rfl,.inr (.inr (.inl ⟨rfl,rfl⟩))⟩
  ·exact⟨4,111,rfl,rfl,.inr (.inr (.inr (.inl ⟨rfl,rfl⟩)))⟩
  ·exact⟨4,111,rfl,rfl,.inr (.inr (.inr (.inl ⟨rfl,rfl⟩)))⟩
  ·exact⟨5,117,rfl,rfl,.inr (.inr (.inr (.inr ⟨rfl,rfl⟩)))⟩
  ·exact⟨5,117,rfl,rfl,.inr (.inr (.inr (.inr ⟨rfl,rfl⟩)))⟩
 ·right
  simp only[List.mem_cons,List.not_mem_nil,or_false,not_or] at h
  obtain⟨a1,a2,a3,a4,a5,a6,a7,a8,a9,a10⟩:=h
  refine⟨?_,by unfold bareN;simp[a1,a2,a3,a4,a5,a6,a7,a8,a9,a10]⟩
  exact (rule_no a1).trans ((rule_no a2).trans ((rule_no a3).trans ((rule_no a4).trans ((rule_no a5).trans ((rule_no a6).trans ((rule_no a7).trans ((rule_no a8).trans ((rule_no a9).trans (rule_no a10)))))))))
theorem bare_sign {x:Nat} (h:x∈signsN):bareN x∈signsN:=by
 have:signsN.all (fun x=>decide (bareN x∈signsN))=true:=by decide
 exact of_decide_eq_true (List.all_eq_true.mp this x h)
theorem part1 (P:List Nat) (h:Okw P) (b k:Int) (t:At) (x1 x2 x3 x4 x5 x6 x7 x8:Option MV):∃ y2 y3 c' b' k',B241_1 (P14 x1 x2 x3 x4 x5 x6 x7 x8) (A6 P 0 P.length 0 b k t)=some (.nxt,P14 x1 y2 y3 x4 x5 x6 x7 x8,A6 (P.map bareN) c' P.length 0 b' k' t):=by
 have loop:∀ (y p:List Nat) (m:Nat) (b k:Int) (x2 x3:Option MV),Okw (p++y)→y.length<m→∃ y2 y3 c' b' k',loopN m Kshape241a.T Kshape241a.B (P14 x1 x2 x3 x4 x5 x6 x7 x8) (A6 (p++y) p.length (p++y).length 0 b k t)=some (.nxt,P14 x1 y2 y3 x4 x5 x6 x7 x8,A6 (p++y.map bareN) c' (p++y).length 0 b' k' t):=by
  intro y
  induction y with
  |nil=>
   intro p m b k x2 x3 hok hm
   obtain⟨m,rfl⟩:∃ q,m=q+1:=⟨m-1,by lia⟩
   rw[loopN_succ,Kshape241a.f1]
   simp only[Option.bind_some,if_true]
   have key:=fab0 p [] (by have:=hok.2;simp at this;lia) (by simp) (by simp) 0 p.length k t
   have e2:ruleS rs0 []=(6,0):=rfl
   rw[e2] at key
   have e3:(p.length+([]:List Nat).length)=(p++[]).length:=by simp
   rw[e3] at key
   rw[Kshape241a.f3 _ _ _ _ _ b _ _ x1 x2 x3 x4 x5 x6 x7 x8 key (by simp)]
   exact (wit5 rfl)
  |cons x r ih=>
   intro p m b k x2 x3 hok hm
   obtain⟨m,rfl⟩:∃ q,m=q+1:=⟨m-1,by lia⟩
   rw[loopN_succ,Kshape241a.f1]
   simp only[Option.bind_some,if_true]
   have hs:∀ z∈x::r,z∈signsN:=fun z hz=>hok.1 z (List.mem_append_right _ hz)
   have hl:=hok.2
   simp only[List.length_append,List.length_cons] at hl
   have key:=fab0 p (x::r) (by lia) (by simp;lia) hs 0 p.length k t
   have e3:(p.length+(x::r).length)=(p++x::r).length:=by simp
   rw[e3] at key
   have fin:∀ (z:Nat) (b' k':Int) (y2 y3:Option MV),z=bareN x→∃ z2 z3 c' b'' k'',loopN m Kshape241a.T Kshape241a.B (P14 x1 y2 y3 x4 x5 x6 x7 x8) (A6 (p++z::r) ((p.length:Int)+1) (p++x::r).length 0 b' k' t)=some (.nxt,P14 x1 z2 z3 x4 x5 x6 x7 x8,A6 (p++(x::r).map bareN) c' (p++x::r).length 0 b'' k'' t):=by
    intro z b' k' y2 y3 hz
    have hok':Okw ((p++[z])++r):=by
     refine⟨fun w hw=> ?_,by simp;lia⟩
     simp only[List.append_assoc,List.mem_append,List.mem_cons,List.not_mem_nil,or_false] at hw
     rcases hw with hw |hw |hw
     ·exact hok.1 w (List.mem_append_left _ hw)
     ·rw[hw,hz];exact bare_sign (hs x (.head _))
     ·exact hs w (.tail _ hw)
    obtain⟨z2,z3,c',b'',k'',hh⟩:=ih (p++[z]) m b' k' y2 y3 hok' (by simpa using hm)
    refine⟨z2,z3,c',b'',k'',?_⟩
    have g1:(p++[z])++r=p++z::r:=by simp
    have g2:((p++[z]).length:Int)=(p.length:Int)+1:=by simp
    have g3:((p++z::r).length)=(p++x::r).length:=by simp
    have g4:(p++[z])++r.map bareN=p++(x::r).map bareN:=by rw[List.map_cons,←hz];simp
    rw[g1,g2,g3,g4] at hh
    exact hh
   rcases bare_rule x r with⟨res,z,e2,e4,hz⟩ |⟨e2,e4⟩
   ·rw[e2] at key
    have h154:=sub_one p r x z (by have:=hok.2;lia) ((p.length:Int)+1) 0 t _ rfl (Int.le_refl _)
    rw[Kshape241a.f2 res z hz _ _ _ _ _ b _ _ _ _ x1 x2 x3 x4 x5 x6 x7 x8 key h154]
    exact fin z _ _ _ _ e4.symm
   ·rw[e2] at key
    have e0:(p.length:Int)+((0:Nat):Int)=p.length:=by simp
    rw[e0] at key
    rw[Kshape241a.f4 _ _ _ _ _ b _ _ x1 x2 x3 x4 x5 x6 x7 x8 key (by simp<;>lia)]
    exact fin x _ _ _ _ e4.symm
 obtain⟨y2,y3,c',b',k',hh⟩:=loop P [] 60 b k x2 x3 h (by have:=h.2;lia)
 exact⟨y2,y3,c',b',k',by rw[Kshape241a.f0];exact hh⟩
section
variable {cur:List Nat} {c n lb b k m:Int} {t at2:At} {v:MV} {x1 x2 x3 x4 x5 x6 x7 x8:Option MV}
theorem pr0:B241_0 (P14 x1 x2 x3 x4 x5 x6 x7 x8) (A6 cur c n lb b k t)=some (.nxt,P14 (some (.s (.int c))) x2 x3 x4 x5 x6 x7 x8,A6 cur c n lb b k t):=by
 unfold B241_0 pk241_0;simp! []
theorem pr2:B241_2 (P14 (some (.s (.int m))) x2 x3 x4 x5 x6 x7 x8) (A6 cur c n lb b k t)=some (.nxt,P14 (some (.s (.int m))) x2 x3 x4 x5 x6 x7 x8,A6 cur m n lb b k t):=by
 unfold B241_2 pk241_2;simp! []
theorem pr3:B241_3 (P14 x1 x2 x3 x4 x5 x6 x7 x8) (A6 cur c n lb b k t)=some (.nxt,P14 x1 x2 x3 (some (.s (.int c))) x5 x6 x7 x8,A6 cur c n lb b k t):=by
 unfold B241_3 pk241_3;simp! []
theorem pr6 {loc:Loc} {at_:At}:B241_6 loc at_=some (.ret (.s (.bool true)),loc,at_):=by
 unfold B241_6 pk241_6;simp! []
theorem p4z (h:c=n):B241_4 (P14 x1 x2 x3 (some (.s (.int m))) x5 x6 x7 x8) (A6 cur c n lb b k t)=some (.nxt,P14 x1 x2 x3 (some (.s (.int m))) x5 x6 x7 x8,A6 cur m n lb c k t):=by
 unfold B241_4 pk241_4;simp! [h]
theorem p4n {x:Nat} (h:¬c=n) (hi:idxV (.s (.str cur)) c=some (.s (.str [x]))) (hx:x≠121):B241_4 (P14 x1 x2 x3 (some (.s (.int m))) x5 x6 x7 x8) (A6 cur c n lb b k t)=some (.nxt,P14 x1 x2 x3 (some (.s (.int m))) x5 x6 x7 x8,A6 cur m n lb c k t):=by
 unfold B241_4 pk241_4;simp! [h,hi,y_eq,hx]
theorem p4y (h:¬c=n) (hi:idxV (.s (.str cur)) c=some (.s (.str [121]))) (h154:runBody 2 1 G154 [.self,.s (.str [89])] (A6 cur (c+1) n lb c (c+1) t)=some (v,at2)):B241_4 (P14 x1 x2 x3 x4 x5 x6 x7 x8) (A6 cur c n lb b k t)=some (.nxt,P14 x1 x2 x3 x4 x5 x6 x7 x8,at2):=by
 unfold B241_4 pk241_4;simp! [h,hi,y_eq,Y_eq,h154]
end
theorem part2 (P:List Nat) (h:Okw P) (b k:Int) (t:At) (x1 x2 x3 x5 x6 x7 x8:Option MV):∃ b' k',B241_4 (P14 x1 x2 x3 (some (.s (.int 0))) x5 x6 x7 x8) (A6 P 0 P.length 0 b k t)=some (.nxt,P14 x1 x2 x3 (some (.s (.int 0))) x5 x6 x7 x8,(match P with
  |121::r=>A6 (89::r) 1 P.length 0 b' k' t
  |P=>A6 P 0 P.length 0 b' k' t)):=by
 cases P with
 |nil=>exact (wit2 (p4z rfl))
 |cons x r=>
  have hn:¬(0:Int)=((x::r).length:Int):=by simp<;>lia
  have hi:idxV (.s (.str (x::r))) (0:Int)=some (.s (.str [x])):=idx_fwd [] r x (by simp)
  by_cases hx:x=121
  ·subst hx
   have h154:=sub_one [] r 121 89 (by have:=h.2;simp at this ⊢;lia) ((0:Int)+1) 0 t _ rfl (Int.le_refl _)
   exact (wit2 (p4y hn hi h154))
  ·have e:(match x::r with
    |121::r'=>A6 (89::r') 1 (x::r).length 0 0 k t
    |P=>A6 P 0 (x::r).length 0 0 k t)=A6 (x::r) 0 (x::r).length 0 0 k t:=by
    split
    ·rename_i e;cases e;exact absurd rfl hx
    ·rfl
   refine⟨0,k,?_⟩
   rw[p4n hn hi hx,←e]
   split
   ·rename_i e;cases e;exact absurd rfl hx
   ·rfl
end
section
open Mine.Pl (vowN lowN bareN mkf markW nxV)
noncomputable abbrev fnil:SF:=fun loc at_=>some (.nxt,loc,at_)
set_option genInjectivity false in
set_option genSizeOf false in
structure Qshape241c where
 T:CF
 s0:SF
 t0:SF
 t1:SF
 t2:SF
 u0:SF
 TI:CF
 i0:SF
 X:SF
 i2:SF
 i3:SF
 i4:SF
 i5:SF
 i6:SF
 i7:SF
 c0:SF
 s2:SF
 s3:SF
 f0:B241_5=loopN 60 T (fSeq s0 (fSeq (fTry 421 (fSeq t0 (fSeq t1 (fSeq t2 (fSeq (fTry 434 (fSeq u0 (fSeq (loopN 60 TI (fSeq i0 (fSeq (fTry 447 X) (fSeq i2 (fSeq i3 (fSeq i4 (fSeq i5 (fSeq i6 (fSeq i7 fnil))))))))) fnil))) (fSeq c0 fnil)))))) (fSeq s2 (fSeq s3 fnil))))
 f1:(∀ loc at_,T loc at_=some (true,at_))
 f2:(∀ loc at_,TI loc at_=some (true,at_))
 f3:(∀ (cur:List Nat) (c n lb b k:Int) (t:At) (x1 x2 x3 x4 x5 x6 x7 x8:Option MV),s0 (P14 x1 x2 x3 x4 x5 x6 x7 x8) (A6 cur c n lb b k t)=some (.nxt,P14 x1 x2 x3 x4 (some (.s (.int c))) x6 x7 x8,A6 cur c n lb b k t))
 f4:(∀ (cur:List Nat) (c n lb b k:Int) (t at2:At) (loc:Loc),loc[0]? =some (some .self)→runBody 2 0 G98 [.self,.set vA] (A6 cur c n lb b k t)=some (.s (.bool true),at2)→t0 loc (A6 cur c n lb b k t)=some (.nxt,loc,at2))
 f5:(∀ (cur cur2:List Nat) (c n lb b k c2 n2 lb2 b2 k2:Int) (t t2:At) (loc:Loc),loc[0]? =some (some .self)→runBody 2 0 G98 [.self,.set vA] (A6 cur c n lb b k t)=some (.s (.bool false),A6 cur2 c2 n2 lb2 b2 k2 t2)→t0 loc (A6 cur c n lb b k t)=some (.exc 421,loc,A6 cur2 c2 n2 lb2 b2 k2 t2))
 f6:(∀ (cur:List Nat) (c n lb b k:Int) (t:At) (x1 x2 x3 x4 x5 x6 x7 x8:Option MV),t1 (P14 x1 x2 x3 x4 x5 x6 x7 x8) (A6 cur c n lb b k t)=some (.nxt,P14 x1 x2 x3 x4 x5 x6 x7 x8,A6 cur (c+1) n lb b k t))
 f7:(∀ (cur:List Nat) (c n lb b k:Int) (t:At) (x1 x2 x3 x4 x5 x6 x7 x8:Option MV),t2 (P14 x1 x2 x3 x4 x5 x6 x7 x8) (A6 cur c n lb b k t)=some (.nxt,P14 x1 x2 x3 x4 x5 (some (.s (.int c))) x7 x8,A6 cur c n lb b k t))
 f8:(∀ (cur:List Nat) (c n lb b k:Int) (t:At) (x1 x2 x3 x4 x5 x6 x7 x8:Option MV),u0 (P14 x1 x2 x3 x4 x5 x6 x7 x8) (A6 cur c n lb b k t)=some (.nxt,P14 x1 x2 x3 x4 x5 x6 x7 x8,A6 cur c n lb c k t))
 f9:(∀ (cur:List Nat) (c n lb b k:Int) (t:At) (x1 x2 x3 x4 x5 x6 x7 x8:Option MV),i0 (P14 x1 x2 x3 x4 x5 x6 x7 x8) (A6 cur c n lb b k t)=some (.nxt,P14 x1 x2 x3 x4 x5 x6 (some (.s (.int c))) x8,A6 cur c n lb b k t))
 f10:(∀ (cur:List Nat) (c n lb b k:Int) (t:At) (x1 x2 x3 x4 x5 x6 x7 x8:Option MV),(c=n∨¬c=n∧∃ x,idxV (.s (.str cur)) c=some (.s (.str [x]))∧x≠105)→X (P14 x1 x2 x3 x4 x5 x6 x7 x8) (A6 cur c n lb b k t)=some (.exc 447,P14 x1 x2 x3 x4 x5 x6 x7 x8,A6 cur c n lb b k t))
 f11:(∀ (cur:List Nat) (c c2 n lb b k:Int) (t:At) (x1 x2 x3 x4 x5 x6 x7 x8:Option MV),¬c=n→idxV (.s (.str cur)) c=some (.s (.str [105]))→runBody 2 0 G63 [.self,.set vA] (A6 cur (c+1) n lb b (c+1) t)=some (.s (.bool false),A6 cur c2 n lb b (c+1) t)→X (P14 x1 x2 x3 x4 x5 x6 x7 x8) (A6 cur c n lb b k t)=some (.brk,P14 x1 x2 x3 x4 x5 x6 x7 (some (.s (.int (c+1)))),A6 cur (c+1) n lb b (c+1) t))
 f12:(∀ (cur cur2:List Nat) (c c2 c3 n n2 lb lb2 b b2 k k2:Int) (t t2:At) (v:MV) (x1 x2 x3 x4 x5 x6 x7 x8:Option MV),¬c=n→idxV (.s (.str cur)) c=some (.s (.str [105]))→runBody 2 0 G63 [.self,.set vA] (A6 cur (c+1) n lb b (c+1) t)=some (.s (.bool true),A6 cur c2 n lb b (c+1) t)→runBody 2 1 G154 [.self,.s (.str [73])] (A6 cur c2 n lb b (c+1) t)=some (v,A6 cur2 c3 n2 lb2 b2 k2 t2)→X (P14 x1 x2 x3 x4 x5 x6 x7 x8) (A6 cur c n lb b k t)=some (.brk,P14 x1 x2 x3 x4 x5 x6 x7 (some (.s (.int (c+1)))),A6 cur2 (c+1) n2 lb2 b2 k2 t2))
 f13:(∀ (cur:List Nat) (c n lb b k m:Int) (t:At) (x1 x2 x3 x4 x5 x6 x8:Option MV),i2 (P14 x1 x2 x3 x4 x5 x6 (some (.s (.int m))) x8) (A6 cur c n lb b k t)=some (.nxt,P14 x1 x2 x3 x4 x5 x6 (some (.s (.int m))) x8,A6 cur m n lb b k t))
 f14:(∀ (cur:List Nat) (c n lb b k m:Int) (t:At) (x1 x2 x3 x4 x5 x7 x8:Option MV),(c=n∨¬c=n∧∃ x,idxV (.s (.str cur)) c=some (.s (.str [x]))∧x≠121)→i3 (P14 x1 x2 x3 x4 x5 (some (.s (.int m))) x7 x8) (A6 cur c n lb b k t)=some (.exc 434,P14 x1 x2 x3 x4 x5 (some (.s (.int m))) x7 x8,A6 cur m n lb b k t))
 f15:(∀ (cur:List Nat) (c n lb b k:Int) (t:At) (x1 x2 x3 x4 x5 x6 x7 x8:Option MV),¬c=n→idxV (.s (.str cur)) c=some (.s (.str [121]))→i3 (P14 x1 x2 x3 x4 x5 x6 x7 x8) (A6 cur c n lb b k t)=some (.nxt,P14 x1 x2 x3 x4 x5 x6 x7 x8,A6 cur c n lb b k t))
 f16:(∀ (cur:List Nat) (c n lb b k:Int) (t:At) (x1 x2 x3 x4 x5 x6 x7 x8:Option MV),i4 (P14 x1 x2 x3 x4 x5 x6 x7 x8) (A6 cur c n lb b k t)=some (.nxt,P14 x1 x2 x3 x4 x5 x6 x7 x8,A6 cur (c+1) n lb b k t))
 f17:(∀ (cur:List Nat) (c n lb b k:Int) (t:At) (x1 x2 x3 x4 x5 x6 x7 x8:Option MV),i5 (P14 x1 x2 x3 x4 x5 x6 x7 x8) (A6 cur c n lb b k t)=some (.nxt,P14 x1 x2 x3 x4 x5 x6 x7 x8,A6 cur c n lb b c t))
 f18:(∀ (cur:List Nat) (c n lb b k:Int) (t at2:At) (v:MV) (x1 x2 x3 x4 x5 x6 x7 x8:Option MV),runBody 2 1 G154 [.self,.s (.str [89])] (A6 cur c n lb b k t)=some (v,at2)→i6 (P14 x1 x2 x3 x4 x5 x6 x7 x8) (A6 cur c n lb b k t)=some (.nxt,P14 x1 x2 x3 x4 x5 x6 x7 x8,at2))
 f19:(∀ loc at_,i7 loc at_=some (.brk,loc,at_))
 f20:(∀ loc at_,c0 loc at_=some (.cont,loc,at_))
 f21:(∀ (cur:List Nat) (c n lb b k m:Int) (t:At) (x1 x2 x3 x4 x6 x7 x8:Option MV),s2 (P14 x1 x2 x3 x4 (some (.s (.int m))) x6 x7 x8) (A6 cur c n lb b k t)=some (.nxt,P14 x1 x2 x3 x4 (some (.s (.int m))) x6 x7 x8,A6 cur m n lb b k t))
 f22:(∀ loc at_,s3 loc at_=some (.brk,loc,at_))
theorem shape241c:Nonempty Qshape241c:=by
 refine⟨⟨_,_,_,_,_,_,_,_,_,_,_,_,_,_,_,_,_,_,by unfold B241_5 pk241_5;dsimp only;try rfl,?_,?_,?_,?_,?_,?_,?_,?_,?_,?_,?_,?_,?_,?_,?_,?_,?_,?_,?_,?_,?_,?_⟩⟩
 ·intro loc at_;simp! []
 ·intro loc at_;simp! []
 ·intro cur c n lb b k t x1 x2 x3 x4 x5 x6 x7 x8;simp! []
 ·intro cur c n lb b k t at2 loc h0 h
  have h1:getLoc loc 0=some .self:=by unfold getLoc;rw[h0]
  simp! [h1,h]
 ·intro cur cur2 c n lb b k c2 n2 lb2 b2 k2 t t2 loc h0 h
  have h1:getLoc loc 0=some .self:=by unfold getLoc;rw[h0]
  simp! [h1,h]
 ·intro cur c n lb b k t x1 x2 x3 x4 x5 x6 x7 x8;simp! []
 ·intro cur c n lb b k t x1 x2 x3 x4 x5 x6 x7 x8;simp! []
 ·intro cur c n lb b k t x1 x2 x3 x4 x5 x6 x7 x8;simp! []
 ·intro cur c n lb b k t x1 x2 x3 x4 x5 x6 x7 x8;simp! []
 ·intro cur c n lb b k t x1 x2 x3 x4 x5 x6 x7 x8 h
  rcases h with h |⟨h,x,hi,hx⟩
  ·simp! [h]
  ·simp! [h,hi,i_eq,hx]
 ·intro cur c c2 n lb b k t x1 x2 x3 x4 x5 x6 x7 x8 h hi h63
  simp! [h,hi,i_eq,h63]
 ·intro cur cur2 c c2 c3 n n2 lb lb2 b b2 k k2 t t2 v x1 x2 x3 x4 x5 x6 x7 x8 h hi h63 h154
  simp! [h,hi,i_eq,I_eq,h63,h154]
 ·intro cur c n lb b k m t x1 x2 x3 x4 x5 x6 x8;simp! []
 ·intro cur c n lb b k m t x1 x2 x3 x4 x5 x7 x8 h
  rcases h with h |⟨h,x,hi,hx⟩
  ·simp! [h]
  ·simp! [h,hi,y_eq,hx]
 ·intro cur c n lb b k t x1 x2 x3 x4 x5 x6 x7 x8 h hi
  simp! [h,hi,y_eq]
 ·intro cur c n lb b k t x1 x2 x3 x4 x5 x6 x7 x8;simp! []
 ·intro cur c n lb b k t x1 x2 x3 x4 x5 x6 x7 x8;simp! []
 ·intro cur c n lb b k t at2 v x1 x2 x3 x4 x5 x6 x7 x8 h;simp! [Y_eq,h]
 ·intro loc at_;simp! []
 ·intro loc at_;simp! []
 ·intro cur c n lb b k m t x1 x2 x3 x4 x6 x7 x8;simp! []
 ·intro loc at_;simp! []
noncomputable def Kshape241c:Qshape241c:=Classical.choice shape241c
end
section
open Mine.Pl (vowN lowN bareN mkf markW nxV)
section
variable {F G:SF} {loc l:Loc} {at_ a:At} {k:Addr}
theorem sqb (h:F loc at_=some (.brk,l,a)):fSeq F G loc at_=some (.brk,l,a):=by unfold fSeq;rw[h];rfl
theorem sqc (h:F loc at_=some (.cont,l,a)):fSeq F G loc at_=some (.cont,l,a):=by unfold fSeq;rw[h];rfl
theorem sqe (h:F loc at_=some (.exc k,l,a)):fSeq F G loc at_=some (.exc k,l,a):=by unfold fSeq;rw[h];rfl
theorem tr_n (h:F loc at_=some (.nxt,l,a)):fTry k F loc at_=some (.nxt,l,a):=by unfold fTry;rw[h];rfl
theorem tr_b (h:F loc at_=some (.brk,l,a)):fTry k F loc at_=some (.brk,l,a):=by unfold fTry;rw[h];rfl
theorem tr_c (h:F loc at_=some (.cont,l,a)):fTry k F loc at_=some (.cont,l,a):=by unfold fTry;rw[h];rfl
theorem tr_e (h:F loc at_=some (.exc k,l,a)):fTry k F loc at_=some (.nxt,l,a):=by
 unfold fTry
 rw[h]
 simp
theorem lp_b {T:CF} (hT:∀ loc at_,T loc at_=some (true,at_)) (h:F loc at_=some (.brk,l,a)):loopN 60 T F loc at_=some (.nxt,l,a):=by rw[loop60,hT];simp[h]
theorem lp_e {T:CF} (hT:∀ loc at_,T loc at_=some (true,at_)) (h:F loc at_=some (.exc k,l,a)):loopN 60 T F loc at_=some (.exc k,l,a):=by rw[loop60,hT];simp[h]
end
theorem scan_split {f:Nat→Bool}:∀ {y:List Nat} {j:Nat},scanO f y=some j→∃ u x z,y=u++x::z∧u.length=j∧f x=true∧∀ w∈u,f w=false:=by
 intro y
 induction y with
 |nil=>intro j h;cases h
 |cons a r ih=>
  intro j h
  rw[scanO_cons] at h
  cases hf:f a with
  |true=>
   rw[hf,if_pos rfl] at h
   cases h
   exact⟨[],a,r,rfl,rfl,hf,by simp⟩
  |false=>
   rw[hf,if_neg (by decide)] at h
   obtain⟨i,hi,e⟩:=Option.map_eq_some_iff.mp h
   obtain⟨u,x,z,e1,e2,e3,e4⟩:=ih hi
   refine⟨a::u,x,z,by rw[e1];rfl,by simp[e2,e],e3,fun w hw=> ?_⟩
   rcases List.mem_cons.mp hw with q |q
   ·rw[q];exact hf
   ·exact e4 w q
theorem scan_none {f:Nat→Bool}:∀ {y:List Nat},scanO f y=none→∀ w∈y,f w=false:=by
 intro y
 induction y with
 |nil=>intro _ w hw;cases hw
 |cons a r ih=>
  intro h w hw
  rw[scanO_cons] at h
  cases hf:f a with
  |true=>rw[hf,if_pos rfl] at h;cases h
  |false=>
   rw[hf,if_neg (by decide)] at h
   rcases List.mem_cons.mp hw with q |q
   ·rw[q];exact hf
   ·exact ih (Option.map_eq_none_iff.mp h) w q
theorem mkf_no (u:List Nat) (h:∀ w∈u,vowN w=false) (y:List Nat):mkf false (u++y)=u++mkf false y:=by
 induction u with
 |nil=>rfl
 |cons a u ih=>
  rw[List.cons_append,Pl.mkf_ff,h a (.head _),ih fun w hw=>h w (.tail _ hw)]
  rfl
theorem mkf_tf (z:List Nat) (h:∀ x w,z=x::w→x≠105∧x≠121):mkf true z=mkf false z:=by
 cases z with
 |nil=>rfl
 |cons x w=>
  obtain⟨h1,h2⟩:=h x w rfl
  rw[Pl.mkf_tt,Pl.mkf_ff]
  simp[h1,h2]
noncomputable def Go3 (Q:List Nat) (n:Int) (t:At) (x:Option (Out×Loc×At)):Prop:=∃ (loc:Loc) (c b k:Int),x=some (.nxt,loc,A6 Q c n 0 b k t)
theorem Go3.mk {Q:List Nat} {n c b k:Int} {t:At} {loc:Loc}:Go3 Q n t (some (.nxt,loc,A6 Q c n 0 b k t)):=wit4 rfl
theorem part3 (P:List Nat) (c:Nat) (h:Okw P) (hc:c≤P.length) (b k:Int) (t:At) (x1 x2 x3 x4 x5 x6 x7 x8:Option MV):∃ loc' c' b' k',B241_5 (P14 x1 x2 x3 x4 x5 x6 x7 x8) (A6 P c P.length 0 b k t)=some (.nxt,loc',A6 (P.take c++mkf false (P.drop c)) c' P.length 0 b' k' t):=by
 have loop:∀ (m:Nat) (y p:List Nat) (b k:Int) (x1 x2 x3 x4 x5 x6 x7 x8:Option MV),Okw (p++y)→y.length<m→Go3 (p++mkf false y) (p++y).length t (loopN m Kshape241c.T (fSeq Kshape241c.s0 (fSeq (fTry 421 (fSeq Kshape241c.t0 (fSeq Kshape241c.t1 (fSeq Kshape241c.t2 (fSeq (fTry 434 (fSeq Kshape241c.u0 (fSeq (loopN 60 Kshape241c.TI (fSeq Kshape241c.i0 (fSeq (fTry 447 Kshape241c.X) (fSeq Kshape241c.i2 (fSeq Kshape241c.i3 (fSeq Kshape241c.i4 (fSeq Kshape241c.i5 (fSeq Kshape241c.i6 (fSeq Kshape241c.i7 fnil))))))))) fnil))) (fSeq Kshape241c.c0 fnil)))))) (fSeq Kshape241c.s2 (fSeq Kshape241c.s3 fnil)))) (P14 x1 x2 x3 x4 x5 x6 x7 x8) (A6 (p++y) p.length (p++y).length 0 b k t)):=by
  intro m
  induction m with
  |zero=>intro y p b k x1 x2 x3 x4 x5 x6 x7 x8 _ hm;lia
  |succ m ih=>
   intro y p b k x1 x2 x3 x4 x5 x6 x7 x8 hok hm
   have hl:=hok.2
   have hN:(p++y).length=p.length+y.length:=by simp
   have h98:=run98v (p++y) hl p.length (by lia) b k t
   have ed:(p++y).drop p.length=y:=List.drop_left' rfl
   rw[ed] at h98
   rw[loopN_succ,Kshape241c.f1]
   simp only[Option.bind_some,if_true]
   rw[sq (Kshape241c.f3 _ _ _ _ _ _ _ _ _ _ _ _ _ _ _)]
   cases g:scanO vowN y with
   |none=>
    rw[g] at h98
    have hno:=scan_none g
    have em:mkf false y=y:=by
     have:=mkf_no y hno []
     simpa[Pl.mkf] using this
    rw[em,sq (tr_e (sqe (Kshape241c.f5 _ _ _ _ _ _ _ _ _ _ _ _ _ _ _ rfl h98))),sq (Kshape241c.f21 _ _ _ _ _ _ _ _ _ _ _ _ _ _ _),sqb (Kshape241c.f22 _ _)]
    exact Go3.mk
   |some j=>
    rw[g] at h98
    obtain⟨u,x,z,ey,eu,hx,hu⟩:=scan_split g
    have eq1:p++y=(p++u++[x])++z:=by rw[ey];simp
    have hq:((p.length+j:Nat):Int)+1=((p++u++[x]).length:Int):=by simp;lia
    have hql:(p++u++[x]).length+z.length=(p++y).length:=by rw[eq1];simp only[List.length_append]
    have hzl:z.length<y.length:=by rw[ey];simp;lia
    have emk:mkf false y=u++x::mkf true z:=by rw[ey,mkf_no u hu,Pl.mkf_ff,hx]
    have go:∀ (q z':List Nat) (b' k':Int) (y1 y2 y3 y4 y5 y6 y7 y8:Option MV),(q++z').length=(p++y).length→Okw (q++z')→z'.length<y.length→q++mkf false z'=p++mkf false y→
      Go3 (p++mkf false y) (p++y).length t (loopN m Kshape241c.T (fSeq Kshape241c.s0 (fSeq (fTry 421 (fSeq Kshape241c.t0 (fSeq Kshape241c.t1 (fSeq Kshape241c.t2 (fSeq (fTry 434 (fSeq Kshape241c.u0 (fSeq (loopN 60 Kshape241c.TI (fSeq Kshape241c.i0 (fSeq (fTry 447 Kshape241c.X) (fSeq Kshape241c.i2 (fSeq Kshape241c.i3 (fSeq Kshape241c.i4 (fSeq Kshape241c.i5 (fSeq Kshape241c.i6 (fSeq Kshape241c.i7 fnil))))))))) fnil))) (fSeq Kshape241c.c0 fnil)))))) (fSeq Kshape241c.s2 (fSeq Kshape241c.s3 fnil)))) (P14 y1 y2 y3 y4 y5 y6 y7 y8) (A6 (q++z') q.length (p++y).length 0 b' k' t)):=by
     intro q z' b' k' y1 y2 y3 y4 y5 y6 y7 y8 g1 g2 g3 g4
     obtain⟨loc',c',b'',k'',hh⟩:=ih z' q b' k' y1 y2 y3 y4 y5 y6 y7 y8 g2 (by lia)
     rw[g1,g4] at hh
     exact⟨loc',c',b'',k'',hh⟩
    have head:fSeq Kshape241c.t0 (fSeq Kshape241c.t1 (fSeq Kshape241c.t2 (fSeq (fTry 434 (fSeq Kshape241c.u0 (fSeq (loopN 60 Kshape241c.TI (fSeq Kshape241c.i0 (fSeq (fTry 447 Kshape241c.X) (fSeq Kshape241c.i2 (fSeq Kshape241c.i3 (fSeq Kshape241c.i4 (fSeq Kshape241c.i5 (fSeq Kshape241c.i6 (fSeq Kshape241c.i7 fnil))))))))) fnil))) (fSeq Kshape241c.c0 fnil)))) (P14 x1 x2 x3 x4 (some (.s (.int (p.length:Nat)))) x6 x7 x8) (A6 (p++y) p.length (p++y).length 0 b k t)=
      fSeq (fTry 434 (fSeq Kshape241c.u0 (fSeq (loopN 60 Kshape241c.TI (fSeq Kshape241c.i0 (fSeq (fTry 447 Kshape241c.X) (fSeq Kshape241c.i2 (fSeq Kshape241c.i3 (fSeq Kshape241c.i4 (fSeq Kshape241c.i5 (fSeq Kshape241c.i6 (fSeq Kshape241c.i7 fnil))))))))) fnil))) (fSeq Kshape241c.c0 fnil) (P14 x1 x2 x3 x4 (some (.s (.int (p.length:Nat)))) (some (.s (.int ((p++u++[x]).length:Nat)))) x7 x8) (A6 (p++y) (p++u++[x]).length (p++y).length 0 b k t):=by
     rw[sq (Kshape241c.f4 _ _ _ _ _ _ _ _ _ rfl h98),sq (Kshape241c.f6 _ _ _ _ _ _ _ _ _ _ _ _ _ _ _),sq (Kshape241c.f7 _ _ _ _ _ _ _ _ _ _ _ _ _ _ _),hq]
    have inner:∀ (l:Loc) (a:At),loopN 60 Kshape241c.TI (fSeq Kshape241c.i0 (fSeq (fTry 447 Kshape241c.X) (fSeq Kshape241c.i2 (fSeq Kshape241c.i3 (fSeq Kshape241c.i4 (fSeq Kshape241c.i5 (fSeq Kshape241c.i6 (fSeq Kshape241c.i7 fnil)))))))) (P14 x1 x2 x3 x4 (some (.s (.int (p.length:Nat)))) (some (.s (.int ((p++u++[x]).length:Nat)))) x7 x8) (A6 (p++y) (p++u++[x]).length (p++y).length 0 (p++u++[x]).length k t)=some (.nxt,l,a)∨
      loopN 60 Kshape241c.TI (fSeq Kshape241c.i0 (fSeq (fTry 447 Kshape241c.X) (fSeq Kshape241c.i2 (fSeq Kshape241c.i3 (fSeq Kshape241c.i4 (fSeq Kshape241c.i5 (fSeq Kshape241c.i6 (fSeq Kshape241c.i7 fnil)))))))) (P14 x1 x2 x3 x4 (some (.s (.int (p.length:Nat)))) (some (.s (.int ((p++u++[x]).length:Nat)))) x7 x8) (A6 (p++y) (p++u++[x]).length (p++y).length 0 (p++u++[x]).length k t)=some (.exc 434,l,a)→
      fSeq (fTry 421 (fSeq Kshape241c.t0 (fSeq Kshape241c.t1 (fSeq Kshape241c.t2 (fSeq (fTry 434 (fSeq Kshape241c.u0 (fSeq (loopN 60 Kshape241c.TI (fSeq Kshape241c.i0 (fSeq (fTry 447 Kshape241c.X) (fSeq Kshape241c.i2 (fSeq Kshape241c.i3 (fSeq Kshape241c.i4 (fSeq Kshape241c.i5 (fSeq Kshape241c.i6 (fSeq Kshape241c.i7 fnil))))))))) fnil))) (fSeq Kshape241c.c0 fnil)))))) (fSeq Kshape241c.s2 (fSeq Kshape241c.s3 fnil)) (P14 x1 x2 x3 x4 (some (.s (.int (p.length:Nat)))) x6 x7 x8) (A6 (p++y) p.length (p++y).length 0 b k t)=some (.cont,l,a):=by
     intro l a hin
     refine sqc (tr_c ?_)
     rw[head]
     have h434:fTry 434 (fSeq Kshape241c.u0 (fSeq (loopN 60 Kshape241c.TI (fSeq Kshape241c.i0 (fSeq (fTry 447 Kshape241c.X) (fSeq Kshape241c.i2 (fSeq Kshape241c.i3 (fSeq Kshape241c.i4 (fSeq Kshape241c.i5 (fSeq Kshape241c.i6 (fSeq Kshape241c.i7 fnil))))))))) fnil)) (P14 x1 x2 x3 x4 (some (.s (.int (p.length:Nat)))) (some (.s (.int ((p++u++[x]).length:Nat)))) x7 x8) (A6 (p++y) (p++u++[x]).length (p++y).length 0 b k t)=some (.nxt,l,a):=by
      rcases hin with hin |hin
      ·refine tr_n ?_
       rw[sq (Kshape241c.f8 _ _ _ _ _ _ _ _ _ _ _ _ _ _ _),sq hin]
      ·refine tr_e ?_
       rw[sq (Kshape241c.f8 _ _ _ _ _ _ _ _ _ _ _ _ _ _ _),sqe hin]
     rw[sq h434,sqc (Kshape241c.f20 _ _)]
    by_cases hz1:∃ w,z=105::w
    ·obtain⟨w,rfl⟩:=hz1
     have hne:¬((p++u++[x]).length:Int)=((p++y).length:Int):=by simp at hql ⊢;lia
     have hi:idxV (.s (.str (p++y))) ((p++u++[x]).length:Int)=some (.s (.str [105])):=by
      rw[eq1]
      exact idx_fwd (p++u++[x]) w 105 (by lia)
     have h63:=run63 vA (p++u++[x]++[105]) w (p++y).length (by rw[←hql];simp;lia) hl 0 ((p++u++[x]).length:Nat) (((p++u++[x]).length:Int)+1) t
     have e1:p++u++[x]++[105]++w=p++y:=by rw[eq1];simp
     have e2:((p++u++[x]++[105]).length:Int)=((p++u++[x]).length:Int)+1:=by rw[List.length_append];simp
     rw[e1,e2] at h63
     have ev:Pl.hd (fun x=>vA.contains [x]) w=nxV w:=by
      cases w with
      |nil=>rfl
      |cons v w=>exact vA_vow v
     rw[ev] at h63
     cases hv:nxV w with
     |true=>
      rw[hv,if_pos rfl] at h63
      have h154:=sub_one (p++u++[x]) w 105 73 (by rw[←eq1];lia) (((p++u++[x]++[105]).length+1:Nat):Int) 0 t ((p++y).length:Nat) (by rw[←eq1]) (by have:=e2;lia)
      rw[←eq1] at h154
      rw[inner _ _ (.inl (lp_b Kshape241c.f2 (by rw[sq (Kshape241c.f9 _ _ _ _ _ _ _ _ _ _ _ _ _ _ _)];exact sqb (tr_b (Kshape241c.f12 _ _ _ _ _ _ _ _ _ _ _ _ _ _ _ _ _ _ _ _ _ _ _ _ hne hi h63 h154)))))]
      have e3:((p++u++[x]).length:Int)+1=((p++u++[x]++[73]).length:Int):=by rw[List.length_append (as:=p++u++[x])];simp
      have e4:p++u++[x]++73::w=(p++u++[x]++[73])++w:=by simp
      rw[e4]
      simp only[e3]
      refine go (p++u++[x]++[73]) w _ _ _ _ _ _ _ _ _ _ (by rw[←hql];simp;lia) ?_ (by simp at hzl ⊢;lia) ?_
      ·refine⟨fun a ha=> ?_,by rw[←e4];simp at hql hl ⊢;lia⟩
       rw[←e4] at ha
       rcases List.mem_append.mp ha with q |q
       ·exact hok.1 a (by rw[eq1];exact List.mem_append_left _ q)
       ·rcases List.mem_cons.mp q with q |q
        ·rw[q];decide
        ·exact hok.1 a (by rw[eq1];exact List.mem_append_right _ (.tail _ q))
      ·have e9:mkf true (105::w)=73::mkf false w:=by
        rw[Pl.mkf_tt]
        show (if (true:Bool)=true then (if nxV w=true then 73 else 105)::mkf false w else _)=_
        rw[if_pos rfl,hv,if_pos rfl]
       rw[emk,e9]
       simp
     |false=>
      rw[hv,if_neg (by decide)] at h63
      rw[inner _ _ (.inl (lp_b Kshape241c.f2 (by rw[sq (Kshape241c.f9 _ _ _ _ _ _ _ _ _ _ _ _ _ _ _)];exact sqb (tr_b (Kshape241c.f11 _ _ _ _ _ _ _ _ _ _ _ _ _ _ _ _ hne hi h63)))))]
      have e3:((p++u++[x]).length:Int)+1=((p++u++[x]++[105]).length:Int):=by rw[e2]
      simp only[e3]
      have e4:p++y=(p++u++[x]++[105])++w:=e1.symm
      have:=go (p++u++[x]++[105]) w (((p++u++[x]).length:Nat):Int) ((p++u++[x]++[105]).length:Int) x1 x2 x3 x4 (some (.s (.int (p.length:Nat)))) (some (.s (.int ((p++u++[x]).length:Nat)))) (some (.s (.int ((p++u++[x]).length:Nat)))) (some (.s (.int ((p++u++[x]++[105]).length:Nat)))) (by rw[←e4]) (by rw[←e4];exact hok) (by simp at hzl ⊢;lia) ?_
      ·rw[←e4] at this
       exact this
      ·have e9:mkf true (105::w)=105::mkf false w:=by
        rw[Pl.mkf_tt]
        show (if (true:Bool)=true then (if nxV w=true then 73 else 105)::mkf false w else _)=_
        rw[if_pos rfl,hv,if_neg (by decide)]
       rw[emk,e9]
       simp
    ·by_cases hz2:∃ w,z=121::w
     ·obtain⟨w,rfl⟩:=hz2
      have hne:¬((p++u++[x]).length:Int)=((p++y).length:Int):=by simp at hql ⊢;lia
      have hi:idxV (.s (.str (p++y))) ((p++u++[x]).length:Int)=some (.s (.str [121])):=by
       rw[eq1]
       exact idx_fwd (p++u++[x]) w 121 (by lia)
      have h154:=sub_one (p++u++[x]) w 121 89 (by rw[←eq1];lia) (((p++u++[x]).length:Int)+1) 0 t ((p++y).length:Nat) (by rw[←eq1]) (Int.le_refl _)
      rw[←eq1] at h154
      rw[inner _ _ (.inl (lp_b Kshape241c.f2 (by
       rw[sq (Kshape241c.f9 _ _ _ _ _ _ _ _ _ _ _ _ _ _ _),sq (tr_e (Kshape241c.f10 _ _ _ _ _ _ _ _ _ _ _ _ _ _ _ (.inr ⟨hne,121,hi,by decide⟩))),sq (Kshape241c.f13 _ _ _ _ _ _ _ _ _ _ _ _ _ _ _),sq (Kshape241c.f15 _ _ _ _ _ _ _ _ _ _ _ _ _ _ _ hne hi),sq (Kshape241c.f16 _ _ _ _ _ _ _ _ _ _ _ _ _ _ _),sq (Kshape241c.f17 _ _ _ _ _ _ _ _ _ _ _ _ _ _ _),sq (Kshape241c.f18 _ _ _ _ _ _ _ _ _ _ _ _ _ _ _ _ _ h154)]
       exact sqb (Kshape241c.f19 _ _))))]
      have e3:((p++u++[x]).length:Int)+1=((p++u++[x]++[89]).length:Int):=by rw[List.length_append (as:=p++u++[x])];simp
      have e4:p++u++[x]++89::w=(p++u++[x]++[89])++w:=by simp
      rw[e4]
      simp only[e3]
      refine go (p++u++[x]++[89]) w _ _ _ _ _ _ _ _ _ _ (by rw[←hql];simp;lia) ?_ (by simp at hzl ⊢;lia) ?_
      ·refine⟨fun a ha=> ?_,by rw[←e4];simp at hql hl ⊢;lia⟩
       rw[←e4] at ha
       rcases List.mem_append.mp ha with q |q
       ·exact hok.1 a (by rw[eq1];exact List.mem_append_left _ q)
       ·rcases List.mem_cons.mp q with q |q
        ·rw[q];decide
        ·exact hok.1 a (by rw[eq1];exact List.mem_append_right _ (.tail _ q))
      ·have e9:mkf true (121::w)=89::mkf false w:=by rw[Pl.mkf_tt];rfl
       rw[emk,e9]
       simp
     ·have hz:∀ a w,z=a::w→a≠105∧a≠121:=fun a w q=>⟨fun g=>hz1 ⟨w,by rw[q,g]⟩,fun g=>hz2 ⟨w,by rw[q,g]⟩⟩
      have hX:∀ f,(f=105∨f=121)→(((p++u++[x]).length:Int)=((p++y).length:Int)∨¬((p++u++[x]).length:Int)=((p++y).length:Int)∧∃ a,idxV (.s (.str (p++y))) ((p++u++[x]).length:Int)=some (.s (.str [a]))∧a≠f):=by
       intro f hf
       cases z with
       |nil=>left;rw[eq1];simp
       |cons a w=>
        right
        refine⟨by simp at hql ⊢;lia,a,?_,?_⟩
        ·rw[eq1]
         exact idx_fwd (p++u++[x]) w a (by lia)
        ·rcases hf with rfl |rfl
         ·exact (hz a w rfl).1
         ·exact (hz a w rfl).2
      rw[inner _ _ (.inr (lp_e Kshape241c.f2 (by
       rw[sq (Kshape241c.f9 _ _ _ _ _ _ _ _ _ _ _ _ _ _ _),sq (tr_e (Kshape241c.f10 _ _ _ _ _ _ _ _ _ _ _ _ _ _ _ (hX 105 (.inl rfl)))),sq (Kshape241c.f13 _ _ _ _ _ _ _ _ _ _ _ _ _ _ _)]
       exact sqe (Kshape241c.f14 _ _ _ _ _ _ _ _ _ _ _ _ _ _ _ (hX 121 (.inr rfl))))))]
      have:=go (p++u++[x]) z ((p++u++[x]).length:Nat) k x1 x2 x3 x4 (some (.s (.int (p.length:Nat)))) (some (.s (.int ((p++u++[x]).length:Nat)))) (some (.s (.int ((p++u++[x]).length:Nat)))) x8 (by rw[←eq1]) (by rw[←eq1];exact hok) hzl ?_
      ·rw[←eq1] at this
       exact this
      ·rw[emk,mkf_tf z hz]
       simp
 obtain⟨loc',c',b',k',hh⟩:=loop 60 (P.drop c) (P.take c) b k x1 x2 x3 x4 x5 x6 x7 x8 (by rw[List.take_append_drop];exact h) (by have:=h.2;rw[List.length_drop];lia)
 have hc':(P.take c).length=c:=by simp;lia
 rw[List.take_append_drop,hc'] at hh
 exact⟨loc',c',b',k',by rw[Kshape241c.f0];exact hh⟩
end
section
noncomputable def pk304_0 (d:Nat): { F:SF // SoundS sc304 (d+6) ((fnBody (cS 6 15)).getD 0 (.Pass ⟨0,0,0,0⟩)) F }:=⟨_,(S_assign 1 (E_at 1 (by rfl) (eL 0)) (by decide+kernel) (by kernel_rfl) (by kernel_rfl))⟩
noncomputable def B304_0:SF:=(pk304_0 0).1
noncomputable def pk304_1 (d:Nat): { F:SF // SoundS sc304 (d+6) ((fnBody (cS 6 15)).getD 1 (.Pass ⟨0,0,0,0⟩)) F }:=⟨_,(S_expr (E_meth0 (eL 0) fn241 (by intro P;kernel_rfl) (by decide) (by intro _;rfl)))⟩
noncomputable def B304_1:SF:=(pk304_1 0).1
noncomputable def pk304_2 (d:Nat): { F:SF // SoundS sc304 (d+6) ((fnBody (cS 6 15)).getD 2 (.Pass ⟨0,0,0,0⟩)) F }:=⟨_,(S_setat 1 (by rfl) (eL 1) (eL 0))⟩
noncomputable def B304_2:SF:=(pk304_2 0).1
noncomputable def pk304_3 (d:Nat): { F:SF // SoundS sc304 (d+6) ((fnBody (cS 6 15)).getD 3 (.Pass ⟨0,0,0,0⟩)) F }:=⟨_,(S_assign 2 (E_at 1 (by rfl) (eL 0)) (by decide+kernel) (by kernel_rfl) (by kernel_rfl))⟩
noncomputable def B304_3:SF:=(pk304_3 0).1
noncomputable def pk304_4 (d:Nat): { F:SF // SoundS sc304 (d+6) ((fnBody (cS 6 15)).getD 4 (.Pass ⟨0,0,0,0⟩)) F }:=⟨_,(S_expr (E_meth0 (eL 0) fn248 (by intro P;kernel_rfl) (by decide) (by intro _;rfl)))⟩
noncomputable def B304_4:SF:=(pk304_4 0).1
noncomputable def pk304_5 (d:Nat): { F:SF // SoundS sc304 (d+6) ((fnBody (cS 6 15)).getD 5 (.Pass ⟨0,0,0,0⟩)) F }:=⟨_,(S_setat 1 (by rfl) (eL 2) (eL 0))⟩
noncomputable def B304_5:SF:=(pk304_5 0).1
noncomputable def pk304_6 (d:Nat): { F:SF // SoundS sc304 (d+6) ((fnBody (cS 6 15)).getD 6 (.Pass ⟨0,0,0,0⟩)) F }:=⟨_,(S_setat 3 (by rfl) (E_at 1 (by rfl) (eL 0)) (eL 0))⟩
noncomputable def B304_6:SF:=(pk304_6 0).1
noncomputable def pk304_7 (d:Nat): { F:SF // SoundS sc304 (d+6) ((fnBody (cS 6 15)).getD 7 (.Pass ⟨0,0,0,0⟩)) F }:=⟨_,(S_setat 1 (by rfl) (E_at 2 (by rfl) (eL 0)) (eL 0))⟩
noncomputable def B304_7:SF:=(pk304_7 0).1
noncomputable def pk304_8 (d:Nat): { F:SF // SoundS sc304 (d+6) ((fnBody (cS 6 15)).getD 8 (.Pass ⟨0,0,0,0⟩)) F }:=⟨_,(S_expr (E_meth0 (eL 0) fn297 (by intro P;kernel_rfl) (by decide) (by intro _;rfl)))⟩
noncomputable def B304_8:SF:=(pk304_8 0).1
noncomputable def pk304_9 (d:Nat): { F:SF // SoundS sc304 (d+6) ((fnBody (cS 6 15)).getD 9 (.Pass ⟨0,0,0,0⟩)) F }:=⟨_,(S_setat 1 (by rfl) (E_at 3 (by rfl) (eL 0)) (eL 0))⟩
noncomputable def B304_9:SF:=(pk304_9 0).1
noncomputable def pk304_10 (d:Nat): { F:SF // SoundS sc304 (d+6) ((fnBody (cS 6 15)).getD 10 (.Pass ⟨0,0,0,0⟩)) F }:=⟨_,(S_assign 3 (E_at 1 (by rfl) (eL 0)) (by decide+kernel) (by kernel_rfl) (by kernel_rfl))⟩
noncomputable def B304_10:SF:=(pk304_10 0).1
noncomputable def pk304_11 (d:Nat): { F:SF // SoundS sc304 (d+6) ((fnBody (cS 6 15)).getD 11 (.Pass ⟨0,0,0,0⟩)) F }:=⟨_,(S_expr (E_meth0 (eL 0) fn255 (by intro P;kernel_rfl) (by decide) (by intro _;rfl)))⟩
noncomputable def B304_11:SF:=(pk304_11 0).1
noncomputable def pk304_12 (d:Nat): { F:SF // SoundS sc304 (d+6) ((fnBody (cS 6 15)).getD 12 (.Pass ⟨0,0,0,0⟩)) F }:=⟨_,(S_setat 1 (by rfl) (eL 3) (eL 0))⟩
noncomputable def B304_12:SF:=(pk304_12 0).1
noncomputable def pk304_13 (d:Nat): { F:SF // SoundS sc304 (d+6) ((fnBody (cS 6 15)).getD 13 (.Pass ⟨0,0,0,0⟩)) F }:=⟨_,(S_ret E_bool)⟩
noncomputable def B304_13:SF:=(pk304_13 0).1
theorem G304_eq:G304=(fSeq B304_0 (fSeq B304_1 (fSeq B304_2 (fSeq B304_3 (fSeq B304_4 (fSeq B304_5 (fSeq B304_6 (fSeq B304_7 (fSeq B304_8 (fSeq B304_9 (fSeq B304_10 (fSeq B304_11 (fSeq B304_12 (fSeq B304_13 (fun loc at_=>some (.nxt,loc,at_)))))))))))))))):=rfl
end
section
open Mine.Pl (vowN lowN bareN mkf markW preW nxV regions stepsR stemW)
theorem G241_eq:G241=fSeq B241_0 (fSeq B241_1 (fSeq B241_2 (fSeq B241_3 (fSeq B241_4 (fSeq B241_5 (fSeq B241_6 fnil)))))):=rfl
theorem okw_map {P:List Nat} (h:Okw P):Okw (P.map bareN):=⟨fun x hx=>by
 obtain⟨y,hy,e⟩:=List.mem_map.mp hx
 rw[←e]
 exact bare_sign (h.1 y hy),by rw[List.length_map];exact h.2⟩
theorem mkf_len (l:List Nat):∀ b,(mkf b l).length=l.length:=by
 induction l with
 |nil=>intro b;cases b<;>rfl
 |cons x r ih=>
  intro b
  cases b
  ·rw[Pl.mkf_ff];simp[ih]
  ·rw[Pl.mkf_tt]
   split
   ·simp[ih]
   ·split<;>simp[ih]
theorem mkf_sign (l:List Nat):∀ b,(∀ x∈l,x∈signsN)→∀ x∈mkf b l,x∈signsN:=by
 induction l with
 |nil=>intro b _ x hx;cases b<;>cases hx
 |cons y r ih=>
  intro b h x hx
  have hr:∀ x∈r,x∈signsN:=fun x hx=>h x (.tail _ hx)
  cases b
  ·rw[Pl.mkf_ff] at hx
   rcases List.mem_cons.mp hx with q |q
   ·rw[q];exact h y (.head _)
   ·exact ih _ hr x q
  ·rw[Pl.mkf_tt] at hx
   split at hx
   ·rcases List.mem_cons.mp hx with q |q
    ·rw[q]
     split<;>decide
    ·exact ih _ hr x q
   ·split at hx
    ·rcases List.mem_cons.mp hx with q |q
     ·rw[q];decide
     ·exact ih _ hr x q
    ·rcases List.mem_cons.mp hx with q |q
     ·rw[q];exact h y (.head _)
     ·exact ih _ hr x q
theorem markW_ok {P:List Nat} (h:Okw P):Okw (markW P)∧(markW P).length=P.length:=by
 unfold markW
 cases P with
 |nil=>exact⟨h,rfl⟩
 |cons x r=>
  dsimp only
  split
  ·refine⟨⟨fun z hz=> ?_,?_⟩,?_⟩
   ·rcases List.mem_cons.mp hz with q |q
    ·rw[q];decide
    ·exact mkf_sign r false (fun x hx=>h.1 x (.tail _ hx)) z q
   ·have:=h.2
    simp[mkf_len] at this ⊢
    exact this
   ·simp[mkf_len]
  ·refine⟨⟨mkf_sign _ false h.1,?_⟩,?_⟩
   ·rw[mkf_len];exact h.2
   ·rw[mkf_len]
theorem preW_ok {P:List Nat} (h:Okw P):Okw (preW P)∧(preW P).length=P.length:=by
 obtain⟨a,b⟩:=markW_ok (okw_map h)
 exact⟨a,by unfold preW;rw[b,List.length_map]⟩
theorem run241 (P:List Nat) (h:Okw P) (b k:Int) (t:At):∃ c' b' k',runBody 1 13 G241 [.self] (A6 P 0 P.length 0 b k t)=some (.s (.bool true),A6 (preW P) c' P.length 0 b' k' t):=by
 obtain⟨y2,y3,c1,b1,k1,h1⟩:=part1 P h b k t (some (.s (.int 0))) none none none none none none none
 have hm:=okw_map h
 have hml:(P.map bareN).length=P.length:=List.length_map ..
 obtain⟨b2,k2,h2⟩:=part2 (P.map bareN) hm b1 k1 t (some (.s (.int 0))) y2 y3 none none none none
 rw[hml] at h2
 have fin:∀ (Q:List Nat) (c:Nat),Okw Q→Q.length=P.length→c≤Q.length→Q.take c++mkf false (Q.drop c)=preW P→B241_4 (P14 (some (.s (.int 0))) y2 y3 (some (.s (.int 0))) none none none none) (A6 (P.map bareN) 0 P.length 0 b1 k1 t)=some (.nxt,P14 (some (.s (.int 0))) y2 y3 (some (.s (.int 0))) none none none none,A6 Q c P.length 0 b2 k2 t)→
   ∃ c' b' k',runBody 1 13 G241 [.self] (A6 P 0 P.length 0 b k t)=some (.s (.bool true),A6 (preW P) c' P.length 0 b' k' t):=by
  intro Q c hQ hQl hc hp hh
  obtain⟨loc',c3,b3,k3,h3⟩:=part3 Q c hQ hc b2 k2 t (some (.s (.int 0))) y2 y3 (some (.s (.int 0))) none none none none
  rw[hp,hQl] at h3
  refine⟨c3,b3,k3,?_⟩
  rw[rb (by rfl),G241_eq]
  show (fSeq B241_0 _ (P14 none none none none none none none none) _).bind _=_
  rw[sq pr0,sq h1,sq pr2,sq pr3,sq hh,sq h3,sqr pr6]
  rfl
 generalize hP:P.map bareN=Q at h2 hm hml fin
 cases Q with
 |nil=>
  refine fin [] 0 hm hml (Nat.zero_le _) (by unfold preW;rw[hP];rfl) ?_
  rw[h2]
  split
  ·rename_i e;cases e
  ·rw[hml];rfl
 |cons x r=>
  by_cases hx:x=121
  ·subst hx
   have hQ:Okw (89::r):=⟨fun z hz=>by
    rcases List.mem_cons.mp hz with q |q
    ·rw[q];decide
    ·exact hm.1 z (.tail _ q),by have:=hm.2;simpa using this⟩
   refine fin (89::r) 1 hQ (by rw[←hml];simp) (by simp) (by unfold preW;rw[hP];rfl) ?_
   rw[h2]
   rfl
  ·have e:markW (x::r)=mkf false (x::r):=by
    unfold markW
    simp[hx]
   refine fin (x::r) 0 hm hml (Nat.zero_le _) (by unfold preW;rw[hP,e];rfl) ?_
   rw[h2]
   split
   ·rename_i e;cases e;exact absurd rfl hx
   ·rw[hml];rfl
end
section
open Mine.Pl (vowN lowN bareN mkf markW preW nxV regions stepsR stemW)
section
variable {cur:List Nat} {c l lb b k m:Int} {t at2:At} {v:MV} {x1 x2 x3:Option MV}
noncomputable abbrev P304 (x1 x2 x3:Option MV):Loc:=[some .self,x1,x2,x3]
theorem u304_0:B304_0 (P304 x1 x2 x3) (A6 cur c l lb b k t)=some (.nxt,P304 (some (.s (.int c))) x2 x3,A6 cur c l lb b k t):=by
 unfold B304_0 pk304_0;simp! []
theorem u304_1 (h:runBody 1 13 G241 [.self] (A6 cur c l lb b k t)=some (v,at2)):B304_1 (P304 x1 x2 x3) (A6 cur c l lb b k t)=some (.nxt,P304 x1 x2 x3,at2):=by
 unfold B304_1 pk304_1;simp! [h]
theorem u304_2:B304_2 (P304 (some (.s (.int m))) x2 x3) (A6 cur c l lb b k t)=some (.nxt,P304 (some (.s (.int m))) x2 x3,A6 cur m l lb b k t):=by
 unfold B304_2 pk304_2;simp! []
theorem u304_3:B304_3 (P304 x1 x2 x3) (A6 cur c l lb b k t)=some (.nxt,P304 x1 (some (.s (.int c))) x3,A6 cur c l lb b k t):=by
 unfold B304_3 pk304_3;simp! []
theorem u304_4 (h:runBody 1 4 G248 [.self] (A6 cur c l lb b k t)=some (v,at2)):B304_4 (P304 x1 x2 x3) (A6 cur c l lb b k t)=some (.nxt,P304 x1 x2 x3,at2):=by
 unfold B304_4 pk304_4;simp! [h]
theorem u304_5:B304_5 (P304 x1 (some (.s (.int m))) x3) (A6 cur c l lb b k t)=some (.nxt,P304 x1 (some (.s (.int m))) x3,A6 cur m l lb b k t):=by
 unfold B304_5 pk304_5;simp! []
theorem u304_6:B304_6 (P304 x1 x2 x3) (A6 cur c l lb b k t)=some (.nxt,P304 x1 x2 x3,A6 cur c l c b k t):=by
 unfold B304_6 pk304_6;simp! []
theorem u304_7:B304_7 (P304 x1 x2 x3) (A6 cur c l lb b k t)=some (.nxt,P304 x1 x2 x3,A6 cur l l lb b k t):=by
 unfold B304_7 pk304_7;simp! []
theorem u304_8 (h:runBody 1 12 G297 [.self] (A6 cur c l lb b k t)=some (v,at2)):B304_8 (P304 x1 x2 x3) (A6 cur c l lb b k t)=some (.nxt,P304 x1 x2 x3,at2):=by
 unfold B304_8 pk304_8;simp! [h]
theorem u304_9:B304_9 (P304 x1 x2 x3) (A6 cur c l lb b k t)=some (.nxt,P304 x1 x2 x3,A6 cur lb l lb b k t):=by
 unfold B304_9 pk304_9;simp! []
theorem u304_10:B304_10 (P304 x1 x2 x3) (A6 cur c l lb b k t)=some (.nxt,P304 x1 x2 (some (.s (.int c))),A6 cur c l lb b k t):=by
 unfold B304_10 pk304_10;simp! []
theorem u304_11 (h:runBody 1 4 G255 [.self] (A6 cur c l lb b k t)=some (v,at2)):B304_11 (P304 x1 x2 x3) (A6 cur c l lb b k t)=some (.nxt,P304 x1 x2 x3,at2):=by
 unfold B304_11 pk304_11;simp! [h]
theorem u304_12:B304_12 (P304 x1 x2 (some (.s (.int m)))) (A6 cur c l lb b k t)=some (.nxt,P304 x1 x2 (some (.s (.int m))),A6 cur m l lb b k t):=by
 unfold B304_12 pk304_12;simp! []
theorem u304_13 {loc:Loc} {at_:At}:B304_13 loc at_=some (.ret (.s (.bool true)),loc,at_):=by
 unfold B304_13 pk304_13;simp! []
end
theorem run304 (w:List Nat) (h:Okw w) (b k:Int) (t ef:At) (ht:TlOk t ef):∃ c' l' b' k' p1 p2 ef',runBody 1 3 G304 [.self] (A6 w 0 w.length 0 b k t)=some (.s (.bool true),A6 (stemW w) c' l' 0 b' k' (Tl p1 p2 [.bool ef'])):=by
 obtain⟨c1,b1,k1,h1⟩:=run241 w h b k t
 obtain⟨hP,hPl⟩:=preW_ok h
 rw[←hPl] at h1
 obtain⟨ret,c2,h2⟩:=run248 (preW w) hP.2 b1 k1 t ef ht
 have hefl:ef.length≤1:=by
  rcases ht with⟨_,rfl⟩ |⟨_,_,_,_,rfl⟩<;>simp
 have hR:Okw (preW w).reverse:=⟨fun x hx=>hP.1 x (List.mem_reverse.mp hx),by rw[List.length_reverse];exact hP.2⟩
 obtain⟨b3,k3,ef',h3⟩:=run297 (preW w).reverse hR b1 k1 (regions (preW w)).1 (regions (preW w)).2 ef hefl
 rw[List.length_reverse] at h3
 have h3':runBody 1 12 G297 [.self] (A6 (preW w) (preW w).length (preW w).length 0 b1 k1 (Tl (regions (preW w)).1 (regions (preW w)).2 ef))=some (.s (.bool true),AR (stepsR (regions (preW w)).1 (regions (preW w)).2 (preW w).reverse) (stepsR (regions (preW w)).1 (regions (preW w)).2 (preW w).reverse).length b3 k3 (Tl (regions (preW w)).1 (regions (preW w)).2 [.bool ef'])):=by
  have e:AR (preW w).reverse (preW w).length b1 k1 (Tl (regions (preW w)).1 (regions (preW w)).2 ef)=A6 (preW w) (preW w).length (preW w).length 0 b1 k1 (Tl (regions (preW w)).1 (regions (preW w)).2 ef):=by
   show A6 (preW w).reverse.reverse _ (preW w).reverse.length _ _ _ _=_
   rw[List.reverse_reverse,List.length_reverse]
  rw[←e]
  exact h3
 have hS:=ok_steps (p1:=(regions (preW w)).1) (p2:=(regions (preW w)).2) hR
 have hQ:Okw (stepsR (regions (preW w)).1 (regions (preW w)).2 (preW w).reverse).reverse:=⟨fun x hx=>hS.1 x (List.mem_reverse.mp hx),by rw[List.length_reverse];exact hS.2⟩
 obtain⟨c4,b4,k4,h4⟩:=run255 _ hQ b3 k3 (Tl (regions (preW w)).1 (regions (preW w)).2 [.bool ef'])
 rw[List.length_reverse] at h4
 refine⟨0,(stepsR (regions (preW w)).1 (regions (preW w)).2 (preW w).reverse).length,b4,k4,(regions (preW w)).1,(regions (preW w)).2,ef',?_⟩
 rw[rb (by rfl),G304_eq]
 show (fSeq B304_0 _ (P304 none none none) _).bind _=_
 rw[sq u304_0,←hPl,sq (u304_1 h1),sq u304_2,sq u304_3,sq (u304_4 h2),sq u304_5,sq u304_6,sq u304_7,sq (u304_8 h3'),sq u304_9,sq u304_10,sq (u304_11 h4),sq u304_12,sqr u304_13]
 rfl
noncomputable def StAt (a:At):Prop:=∃ cur c l lb b k t ef,a=A6 cur c l lb b k t∧TlOk t ef
theorem stAt6:StAt at6:=⟨[],0,0,0,0,0,[],[],rfl,.inl ⟨rfl,rfl⟩⟩
theorem run189 (w:List Nat) (h:Okw w) (a:At) (ha:StAt a):∃ a',StAt a'∧runBody 2 0 G189 [.self,.s (.str w)] a=some (.s (.str (stemW w)),a'):=by
 obtain⟨cur,c,l,lb,b,k,t,ef,rfl,ht⟩:=ha
 have h42:=run42 w (by have:=h.2;lia) cur c l lb b k t
 obtain⟨c',l',b',k',p1,p2,ef',h304⟩:=run304 w h 0 w.length t ef ht
 have h49:=run49 (stemW w) c' l' 0 b' k' (Tl p1 p2 [.bool ef'])
 refine⟨_,⟨stemW w,c',l',0,b',k',Tl p1 p2 [.bool ef'],[.bool ef'],rfl,.inr ⟨p1,p2,ef',rfl,rfl⟩⟩,?_⟩
 rw[rb (by rfl)]
 unfold G189 pk189
 simp! [outR,h42,h304,h49]
end
theorem ints_srel {vs:List Value} {ns:List Int} (h:IntsAre vs ns):SRels (ns.map .int) vs:=by
 induction h with
 |nil=>exact .nil
 |cons n t _ ih=>exact .cons ⟨t,rfl⟩ ih
noncomputable abbrev locL (ns:List Int):Loc:=[some (.list (ns.map .int)),none,none,none,none,none,none,none]
theorem locL_at {ns:List Int} {i:Nat} {mv:MV} {G:Prop} (e:(locL ns)[i]? =some (some mv)) (k:i=0→mv= .list (ns.map .int)→G):G:=by
 cases i with
 |zero=>exact k rfl (Option.some.inj (Option.some.inj e)).symm
 |succ i=>
  have h:(List.replicate 7 (none:Option MV))[i]? =some (some mv):=e
  rw[List.getElem?_replicate] at h
  split at h<;>cases h
noncomputable def LawOk:Prop:=∀ ns:List Int,ns.length≤63→∃ loc1 b,GL1 (locL ns) []=some (.nxt,loc1,[])∧GLc loc1 []=some (b,[])∧(if b then ∃ xs,GLa loc1 []=some (xs,[])∧(if xs.length=1 then (FX539 xs).map MV.s else none)=some (.s (.bool true)) else ∃ loc3,GL3 loc1 []=some (.nxt,loc3,[])∧∃ p,GLr (loc3.set 3 (some .self)) at6=some (.ret (.s (.bool true)),p))
theorem sc544_names:(sc544.names.map (·.1))[0]? =some ("script":Str)∧sc544.names.lookup ("script":Str)=some .local∧sc544.kind= .function:=by
 refine⟨?_,?_,?_⟩<;>kernel_rfl
theorem law_run (hlaw:LawOk) {w:World} {s₁:Shared} {mg mb:Str→Option Value} {fa a:Addr} {cd:Value} {nm:Str} {vs:List Value} {ns:List Int} {h₁:Heap} {tk:Tok} {m:Str→Option Value} (KX:InK KV w s₁.heap) (SX:SetsAt w s₁.heap) (T:TopRead qv (looseW qv looseL) mg mb s₁.heap)
  (hI:IntsAre vs ns) (hL:s₁.heap.IsList a vs.toArray) (F:Fr s₁.heap s₁.heap.objs.size h₁ m) (hm:m "script"=some (.ref a)) (hlen:ns.length≤63) {Q:Flow→Shared→Prop} {E:Value→Shared→Prop}
  (hQ:∀ s',(∀ b o,s₁.heap.get? b=some o→s'.heap.get? b=some o)→s'.os=s₁.os→s'.gens=s₁.gens→Q (.ret (.bool true)) s'):
  wpAny (model pw w) (callerA.deeper (envOf nm sc544 s₁.heap.objs.size fa cd)) (execs (fnBody (tS 25)) (envOf nm sc544 s₁.heap.objs.size fa cd)) Q E { heap:=h₁,gens:=s₁.gens,drawn:=s₁.drawn,toks:=tk,os:=s₁.os }:=by
 let c:Cx:={ w:=w,base:=s₁.heap,mg:=mg,mb:=mb,X:=0,D:=0,slf:=false,exc:=true,outer:=[],fs:=[],env:=envOf nm sc544 s₁.heap.objs.size fa cd,A:=callerA.deeper (envOf nm sc544 s₁.heap.objs.size fa cd),h0:=s₁.heap,gens:=s₁.gens,drawn:=s₁.drawn,os:=s₁.os }
 have hn:s₁.heap.get? s₁.heap.objs.size=none:=Heap.get?_none_of_le (Nat.le_refl _)
 have O:c.Ok sc544 (0+10):=by
  refine⟨⟨KX,SX,T⟩,rfl,sc544_names.2.2,rfl,rfl,rfl,?_,?_,(fun q=>by cases q),fun _=>⟨rfl,rfl,rfl⟩⟩
  ·show (callerA.deeper (envOf nm sc544 s₁.heap.objs.size fa cd)).depth+10<recursionLimit
   show 1+claimMargin+1+10<recursionLimit
   decide
  ·show 4+3+3*10<cLine
   decide
 have S:St c (locL ns) [] { heap:=h₁,gens:=s₁.gens,drawn:=s₁.drawn,toks:=tk,os:=s₁.os }:=by
  refine⟨rfl,rfl,rfl,F.keep,fun b o e _=>F.keep b o e,nofun,hn,hn,⟨m,F.ns,fun i mv e=>locL_at e fun e1 e2=> ?_⟩,nofun,fun _=>rfl,fun _=>⟨?_,?_,trivial⟩,nofun,nofun,nofun,nofun⟩
  ·rw[e1,e2]
   refine⟨"script",.ref a,sc544_names.1,⟨a,vs,rfl,fun q=> ?_,hL.at fun o ho=>F.keep _ _ ho,ints_srel hI⟩,fun _=>hm,fun q=>absurd sc544_names.2.1 q⟩
   obtain⟨o,ho,_⟩:=hL
   exact Heap.ne_of_none ho hn (List.mem_singleton.mp q)
  ·exact sc544_names.2.2▸nofun
  ·obtain⟨o,es,ep,e,dd⟩:=Ns.fd F.ns
   exact⟨_,o,rfl,hn,e,nf_of dd nofun⟩
 refine wpAny_mono ((hl544 0).1 c O rfl rfl (locL ns) _ (.bool true) S (hlaw ns hlen)) (fun fl s' x=> ?_) fun _ _ x=>x.elim
 obtain⟨⟨w',e,hw⟩,S'⟩:=x
 rw[e,show w'= .bool true from hw]
 exact hQ s' S'.stays S'.os S'.gens
section
open Mine.Pl (smallN)
noncomputable def bodyOf:Stmt→List Stmt
 | .For _ _ b _ _=>b
 | .While _ b _ _=>b
 | .If _ b _ _=>b
 |_=>[]
theorem strsOf_map {α:Type} (f:α→List Nat) (l:List α):strsOf (l.map fun x=>.str (f x))=some (l.map f):=by
 induction l with
 |nil=>rfl
 |cons a r ih=>rw[List.map_cons,List.map_cons];unfold strsOf;rw[ih];rfl
theorem compL_map {α:Type} {elt:SV→Option SV} {g:α→SV} {f:α→SV} (l:List α) (h:∀ x∈l,elt (g x)=some (f x)):compL (fun _=>some true) elt (l.map g)=some (l.map f):=by
 induction l with
 |nil=>rfl
 |cons a r ih=>
  rw[List.map_cons,List.map_cons]
  unfold compL
  rw[ih fun x hx=>h x (.tail _ hx),h a (.head _)]
  rfl
theorem comp_ok {α:Type} {fi:IF} {T:List Tm} {fe:EF} {loc:Loc} {at_:At} {g f:α→SV} {l:List α} (h1:fi loc at_=some (l.map g,at_)) (h2:freesOk T loc=true) (h3:l.length≤1000000) (h4:∀ x∈l,eltV fe T loc (g x)=some (f x)):fComp fi T (fun _ _=>some true) fe loc at_=some (.list (l.map f),at_):=by
 show ((fi loc at_).bind fun p=>_)=_
 rw[h1]
 show (if (l.map g).length≤1000000∧freesOk T loc=true then _ else none)=_
 rw[if_pos ⟨by simpa using h3,h2⟩,compL_map l h4]
 rfl
theorem kv_bare:kvL bareKV=[([225],[97]),([228],[97]),([233],[101]),([235],[101]),([237],[105]),([239],[105]),([243],[111]),([246],[111]),([250],[117]),([252],[117]),([73],[105]),([89],[121])]:=by kernel_rfl
theorem run484 (at_:At):runBody 0 0 G484 [] at_=some (.dict (kvL bareKV),at_):=by
 rw[rb (by rfl)];rfl
theorem run470 (at_:At):runBody 0 0 G470 [] at_=some (.list (([[115],[101,110],[101],[104,101,105,100],[101,110,100],[105,110,103],[105,103],[108,105,106,107],[98,97,97,114],[98,97,114]]:List (List Nat)).map .str),at_):=by
 rw[rb (by rfl)];kernel_rfl
theorem run477 (at_:At):runBody 0 0 G477 [] at_=some (.list (([[115,115],[101,110],[115,115],[115,101],[101],[115],[101,115],[116,101],[110,115],[105,101],[101,101],[114],[97,110],[111,101]]:List (List Nat)).map .str),at_):=by
 rw[rb (by rfl)];kernel_rfl
theorem run491 (at_:At):runBody 0 0 G491 [] at_=some (.list (([[97],[101],[105],[111],[117],[121],[232]]:List (List Nat)).map .str),at_):=by
 rw[rb (by rfl)];kernel_rfl
theorem bare_find (x:Nat):(∃ p,(kvL bareKV).find? (fun p=>p.1==[x])=some p∧p.2=[smallN x])∧(kvL bareKV).any (fun p=>p.1==[x])=true∨(kvL bareKV).any (fun p=>p.1==[x])=false∧smallN x=x:=by
 rw[kv_bare]
 by_cases h:x∈[225,228,233,235,237,239,243,246,250,252,73,89]
 ·left
  simp only[List.mem_cons,List.not_mem_nil,or_false] at h
  rcases h with rfl |rfl |rfl |rfl |rfl |rfl |rfl |rfl |rfl |rfl |rfl |rfl<;>exact⟨⟨_,rfl,rfl⟩,rfl⟩
 ·right
  refine⟨?_,Pl.smallN_id h⟩
  simp only[List.mem_cons,List.not_mem_nil,or_false,not_or] at h
  obtain⟨h1,h2,h3,h4,h5,h6,h7,h8,h9,h10,h11,h12⟩:=h
  simp[Ne.symm h1,Ne.symm h2,Ne.symm h3,Ne.symm h4,Ne.symm h5,Ne.symm h6,Ne.symm h7,Ne.symm h8,Ne.symm h9,Ne.symm h10,Ne.symm h11,Ne.symm h12]
theorem nilS:(Str.ofString "").cps.toList=[]:=by kernel_rfl
theorem run496 (w:List Nat) (hw:w.length≤1000) (at_:At):runBody 1 0 G496 [.s (.str w)] at_=some (.s (.str (w.map smallN)),at_):=by
 rw[rb (by rfl)]
 unfold G496 pk496
 dsimp only[fSeq]
 show (Option.bind (Option.map _ (Option.bind (some _) fun p=>Option.bind (fComp _ _ _ _ _ _) _)) _).bind _=_
 simp only[Option.bind_some]
 rw[comp_ok (l:=w) (g:=fun x=>.str [x]) (f:=fun x=>.str [smallN x]) (by simp! []) (by rfl) (by lia) ?h]
 case h=>
  intro x hx
  unfold eltV
  have:=bare_find x
  rcases bare_find x with⟨⟨p,h1,h2⟩,h3⟩ |⟨h3,h4⟩
  ·simp! [cloc,run484,h1,h2,h3]
  ·simp! [cloc,run484,h3,h4]
 ·have e:strsOf (w.map fun x=>.str [smallN x])=some (w.map fun x=>[smallN x]):=strsOf_map (fun x=>[smallN x]) w
  have e2:(w.map fun x=>[smallN x]).flatten=w.map smallN:=by
   clear hw e
   induction w with
   |nil=>rfl
   |cons a r ih=>simp[ih]
  simp only[nilS,Option.bind_some,e,e2,List.length_map,hw,if_true]
  rfl
end
section
noncomputable def pk503_0 (d:Nat): { F:SF // HS sc503 (d+1) ((fnBody (tS 18)).getD 0 (.Pass ⟨0,0,0,0⟩)) F }:=⟨_,(HS_assign 2 HE_str (by decide+kernel) (by kernel_rfl) (by kernel_rfl))⟩
noncomputable def B503_0:SF:=(pk503_0 0).1
noncomputable def pk503_1 (d:Nat): { F:SF // HS sc503 (d+1) ((fnBody (tS 18)).getD 1 (.Pass ⟨0,0,0,0⟩)) F }:=⟨_,(HS_for 3 (HI_val (hL 0)) (HB_cons (HS_assign 4 (HE_idx (HE_fn0 fn470 (by kernel_rfl) (by decide) (by intro P;kernel_rfl) (by intro P;kernel_rfl)) (HE_bin (hL 3) HE_int)) (by decide+kernel) (by kernel_rfl) (by kernel_rfl))
 (HB_cons (HS_if (HC_and (HC_cmp (HE_bin (HE_len (HA_cons (hL 2) HA_nil) (hk:=(by kernel_rfl))) (HE_len (HA_cons (hL 4) HA_nil) (hk:=(by kernel_rfl)))) (hL 1)) (HC_not (HC_and (HC_val (HE_ends (hL 2) HE_str (by intro _;rfl) (by intro _;rfl))) (HC_in2 false (hL 4) (HE_strs ["s","en","e","ig"] (by kernel_rfl) (by decide)))))) (HB_cons (HS_assign 2 (HE_bin (hL 2) (hL 4)) (by decide+kernel) (by kernel_rfl) (by kernel_rfl))
 HB_nil) HB_nil)
 HB_nil)) (by decide+kernel) (by kernel_rfl) (by kernel_rfl))⟩
noncomputable def B503_1:SF:=(pk503_1 0).1
noncomputable def pk503_1_0 (d:Nat): { F:SF // HS sc503 (d+1) ((bodyOf ((fnBody (tS 18)).getD 1 (.Pass ⟨0,0,0,0⟩))).getD 0 (.Pass ⟨0,0,0,0⟩)) F }:=⟨_,(HS_assign 4 (HE_idx (HE_fn0 fn470 (by kernel_rfl) (by decide) (by intro P;kernel_rfl) (by intro P;kernel_rfl)) (HE_bin (hL 3) HE_int)) (by decide+kernel) (by kernel_rfl) (by kernel_rfl))⟩
noncomputable def B503_1_0:SF:=(pk503_1_0 0).1
noncomputable def pk503_1_1 (d:Nat): { F:SF // HS sc503 (d+1) ((bodyOf ((fnBody (tS 18)).getD 1 (.Pass ⟨0,0,0,0⟩))).getD 1 (.Pass ⟨0,0,0,0⟩)) F }:=⟨_,(HS_if (HC_and (HC_cmp (HE_bin (HE_len (HA_cons (hL 2) HA_nil) (hk:=(by kernel_rfl))) (HE_len (HA_cons (hL 4) HA_nil) (hk:=(by kernel_rfl)))) (hL 1)) (HC_not (HC_and (HC_val (HE_ends (hL 2) HE_str (by intro _;rfl) (by intro _;rfl))) (HC_in2 false (hL 4) (HE_strs ["s","en","e","ig"] (by kernel_rfl) (by decide)))))) (HB_cons (HS_assign 2 (HE_bin (hL 2) (hL 4)) (by decide+kernel) (by kernel_rfl) (by kernel_rfl))
 HB_nil) HB_nil)⟩
noncomputable def B503_1_1:SF:=(pk503_1_1 0).1
noncomputable def pk503_1_1_0 (d:Nat): { F:SF // HS sc503 (d+1) ((bodyOf ((bodyOf ((fnBody (tS 18)).getD 1 (.Pass ⟨0,0,0,0⟩))).getD 1 (.Pass ⟨0,0,0,0⟩))).getD 0 (.Pass ⟨0,0,0,0⟩)) F }:=⟨_,(HS_assign 2 (HE_bin (hL 2) (hL 4)) (by decide+kernel) (by kernel_rfl) (by kernel_rfl))⟩
noncomputable def B503_1_1_0:SF:=(pk503_1_1_0 0).1
noncomputable abbrev N503_1_1:SF:=(fSeq B503_1_1_0 (fun loc at_=>some (.nxt,loc,at_)))
noncomputable abbrev N503_1:SF:=(fSeq B503_1_0 (fSeq B503_1_1 (fun loc at_=>some (.nxt,loc,at_))))
noncomputable def pk503_2 (d:Nat): { F:SF // HS sc503 (d+1) ((fnBody (tS 18)).getD 2 (.Pass ⟨0,0,0,0⟩)) F }:=⟨_,(HS_ret (hL 2))⟩
noncomputable def B503_2:SF:=(pk503_2 0).1
theorem G503_eq:G503=(fSeq B503_0 (fSeq B503_1 (fSeq B503_2 (fun loc at_=>some (.nxt,loc,at_))))):=rfl
end
section
noncomputable def pk508_0 (d:Nat): { F:SF // HS sc508 d ((fnBody (tS 19)).getD 0 (.Pass ⟨0,0,0,0⟩)) F }:=⟨_,(HS_comp0 [.no,.item,.no,.out 0] (HI_range (HA_cons HE_int HA_nil) (hk:=(by kernel_rfl))) (HE_ifexp (HC_cmp (hL 1) (HE_len (HA_cons (HE_loc 3 (by kernel_rfl) (hk:=.inr (.inl (by kernel_rfl)))) HA_nil) (hk:=(by kernel_rfl)))) (HE_idx (HE_loc 3 (by kernel_rfl) (hk:=.inr (.inl (by kernel_rfl)))) (hL 1)) HE_int) (by kernel_rfl) (by kernel_rfl) (by kernel_rfl) (by kernel_rfl) (by kernel_rfl) 1 (by decide+kernel) (by kernel_rfl) (by kernel_rfl) (by kernel_rfl))⟩
noncomputable def B508_0:SF:=(pk508_0 0).1
noncomputable def pk508_1 (d:Nat): { F:SF // HS sc508 d ((fnBody (tS 19)).getD 1 (.Pass ⟨0,0,0,0⟩)) F }:=⟨_,(HS_assign 2 (HE_bin (HE_idx HE_str (HE_bin (HE_idx (hL 1) HE_int) HE_int)) (HE_idx HE_str (HE_bin (HE_idx (hL 1) HE_int) HE_int))) (by decide+kernel) (by kernel_rfl) (by kernel_rfl))⟩
noncomputable def B508_1:SF:=(pk508_1 0).1
noncomputable def pk508_2 (d:Nat): { F:SF // HS sc508 d ((fnBody (tS 19)).getD 2 (.Pass ⟨0,0,0,0⟩)) F }:=⟨_,(HS_ret (HE_bin (HE_bin (hL 2) (HE_idx HE_str (HE_bin (HE_idx (hL 1) HE_int) HE_int))) (HE_idx HE_str (HE_bin (HE_idx (hL 1) HE_int) HE_int))))⟩
noncomputable def B508_2:SF:=(pk508_2 0).1
theorem G508_eq:G508=(fSeq B508_0 (fSeq B508_1 (fSeq B508_2 (fun loc at_=>some (.nxt,loc,at_))))):=rfl
end
section
noncomputable def pk520_0 (d:Nat): { F:SF // HS sc520 d ((fnBody (tS 21)).getD 0 (.Pass ⟨0,0,0,0⟩)) F }:=⟨_,(HS_assign 2 (HE_max (HA_cons (HE_comp1 [.no,.item,.no,.out 1,.out 0] (HI_range (HA_cons (HE_bin (HE_len (HA_cons (HE_loc 0 (by kernel_rfl) (hk:=.inr (.inl (by kernel_rfl)))) HA_nil) (hk:=(by kernel_rfl))) HE_int) HA_nil) (hk:=(by kernel_rfl))) (hL 1) (HC_in2 false (HE_slice (HE_loc 4 (by kernel_rfl) (hk:=.inr (.inl (by kernel_rfl)))) (HP_some (HE_bin (HE_len (HA_cons (HE_loc 4 (by kernel_rfl) (hk:=.inr (.inl (by kernel_rfl)))) HA_nil) (hk:=(by kernel_rfl))) (hL 1))) HP_none) (HE_loc 3 (by kernel_rfl) (hk:=.inr (.inl (by kernel_rfl))))) (by kernel_rfl) (by kernel_rfl) (by kernel_rfl) (by kernel_rfl) (by kernel_rfl)) HA_nil) (hk:=(by kernel_rfl))) (by decide+kernel) (by kernel_rfl) (by kernel_rfl))⟩
noncomputable def B520_0:SF:=(pk520_0 0).1
noncomputable def pk520_1 (d:Nat): { F:SF // HS sc520 d ((fnBody (tS 21)).getD 1 (.Pass ⟨0,0,0,0⟩)) F }:=⟨_,(HS_assign 3 (HE_slice (HE_loc 0 (by kernel_rfl) (hk:=.inr (.inl (by kernel_rfl)))) HP_none (HP_some (HE_bin (HE_len (HA_cons (HE_loc 0 (by kernel_rfl) (hk:=.inr (.inl (by kernel_rfl)))) HA_nil) (hk:=(by kernel_rfl))) (hL 2)))) (by decide+kernel) (by kernel_rfl) (by kernel_rfl))⟩
noncomputable def B520_1:SF:=(pk520_1 0).1
noncomputable def pk520_2 (d:Nat): { F:SF // HS sc520 d ((fnBody (tS 21)).getD 2 (.Pass ⟨0,0,0,0⟩)) F }:=⟨_,(HS_ret (HE_ifexp (HC_val (HE_ends (hL 3) HE_str (by intro _;rfl) (by intro _;rfl))) (HE_bin (HE_slice (hL 3) HP_none (HP_some (HE_bin (HE_len (HA_cons (hL 3) HA_nil) (hk:=(by kernel_rfl))) HE_int))) HE_str) (hL 3)))⟩
noncomputable def B520_2:SF:=(pk520_2 0).1
theorem G520_eq:G520=(fSeq B520_0 (fSeq B520_1 (fSeq B520_2 (fun loc at_=>some (.nxt,loc,at_))))):=rfl
end
section
noncomputable def pk525_0 (d:Nat): { F:SF // HS sc525 (d+1) ((fnBody (tS 22)).getD 0 (.Pass ⟨0,0,0,0⟩)) F }:=⟨_,(HS_assign 1 (HE_join HE_str (HE_comp0 [.no,.item,.no] (HI_val (HE_sliceL (hL 0) HP_none (HP_some HE_int))) (HE_idx (HE_signs (by kernel_rfl)) (HE_bin (hL 1) HE_int)) (by kernel_rfl) (by kernel_rfl) (by kernel_rfl) (by kernel_rfl) (by kernel_rfl)) (by intro _;rfl) (by intro _;rfl)) (by decide+kernel) (by kernel_rfl) (by kernel_rfl))⟩
noncomputable def B525_0:SF:=(pk525_0 0).1
noncomputable def pk525_1 (d:Nat): { F:SF // HS sc525 (d+1) ((fnBody (tS 22)).getD 1 (.Pass ⟨0,0,0,0⟩)) F }:=⟨_,(HS_if (HC_cmp (HE_len (HA_cons (hL 0) HA_nil) (hk:=(by kernel_rfl))) HE_int) (HB_cons (HS_ret (hL 1))
 HB_nil) HB_nil)⟩
noncomputable def B525_1:SF:=(pk525_1 0).1
noncomputable def pk525_1_0 (d:Nat): { F:SF // HS sc525 (d+1) ((bodyOf ((fnBody (tS 22)).getD 1 (.Pass ⟨0,0,0,0⟩))).getD 0 (.Pass ⟨0,0,0,0⟩)) F }:=⟨_,(HS_ret (hL 1))⟩
noncomputable def B525_1_0:SF:=(pk525_1_0 0).1
noncomputable abbrev N525_1:SF:=(fSeq B525_1_0 (fun loc at_=>some (.nxt,loc,at_)))
noncomputable def pk525_2 (d:Nat): { F:SF // HS sc525 (d+1) ((fnBody (tS 22)).getD 2 (.Pass ⟨0,0,0,0⟩)) F }:=⟨_,(HS_assign 2 (HE_bin (HE_idx (hL 0) HE_int) HE_int) (by decide+kernel) (by kernel_rfl) (by kernel_rfl))⟩
noncomputable def B525_2:SF:=(pk525_2 0).1
noncomputable def pk525_3 (d:Nat): { F:SF // HS sc525 (d+1) ((fnBody (tS 22)).getD 3 (.Pass ⟨0,0,0,0⟩)) F }:=⟨_,(HS_ret (HE_bin (hL 1) (HE_ifexp (HC_cmp (hL 2) HE_int) (HE_idx (HE_fn0 fn477 (by kernel_rfl) (by decide) (by intro P;kernel_rfl) (by intro P;kernel_rfl)) (HE_bin (hL 2) HE_int)) (HE_join HE_str (HE_comp0 [.no,.item,.no] (HI_val (HE_sliceL (hL 0) (HP_some HE_int) (HP_some HE_int))) (HE_idx (HE_signs (by kernel_rfl)) (HE_bin (hL 1) HE_int)) (by kernel_rfl) (by kernel_rfl) (by kernel_rfl) (by kernel_rfl) (by kernel_rfl)) (by intro _;rfl) (by intro _;rfl)))))⟩
noncomputable def B525_3:SF:=(pk525_3 0).1
theorem G525_eq:G525=(fSeq B525_0 (fSeq B525_1 (fSeq B525_2 (fSeq B525_3 (fun loc at_=>some (.nxt,loc,at_)))))):=rfl
end
section
noncomputable def pk532_0 (d:Nat): { F:SF // HS sc532 (d+1) ((fnBody (tS 23)).getD 0 (.Pass ⟨0,0,0,0⟩)) F }:=⟨_,(HS_if (HC_or (HC_cmp (HE_len (HA_cons (hL 0) HA_nil) (hk:=(by kernel_rfl))) HE_int) (HC_not (HC_val (HE_ends (hL 0) HE_str (by intro _;rfl) (by intro _;rfl))))) (HB_cons (HS_ret HE_bool)
 HB_nil) HB_nil)⟩
noncomputable def B532_0:SF:=(pk532_0 0).1
noncomputable def pk532_0_0 (d:Nat): { F:SF // HS sc532 (d+1) ((bodyOf ((fnBody (tS 23)).getD 0 (.Pass ⟨0,0,0,0⟩))).getD 0 (.Pass ⟨0,0,0,0⟩)) F }:=⟨_,(HS_ret HE_bool)⟩
noncomputable def B532_0_0:SF:=(pk532_0_0 0).1
noncomputable abbrev N532_0:SF:=(fSeq B532_0_0 (fun loc at_=>some (.nxt,loc,at_)))
noncomputable def pk532_1 (d:Nat): { F:SF // HS sc532 (d+1) ((fnBody (tS 23)).getD 1 (.Pass ⟨0,0,0,0⟩)) F }:=⟨_,(HS_assign 1 (HE_and (HE_in2 false (HE_idx (hL 0) HE_int) (HE_fn0 fn491 (by kernel_rfl) (by decide) (by intro P;kernel_rfl) (by intro P;kernel_rfl))) (HE_cmp (HE_idx (hL 0) HE_int) HE_str)) (by decide+kernel) (by kernel_rfl) (by kernel_rfl))⟩
noncomputable def B532_1:SF:=(pk532_1 0).1
noncomputable def pk532_2 (d:Nat): { F:SF // HS sc532 (d+1) ((fnBody (tS 23)).getD 2 (.Pass ⟨0,0,0,0⟩)) F }:=⟨_,(HS_assign 2 (HE_and (HE_in2 false (HE_idx (hL 0) HE_int) (HE_fn0 fn491 (by kernel_rfl) (by decide) (by intro P;kernel_rfl) (by intro P;kernel_rfl))) (HE_not (HE_and (hL 1) (HE_or (HE_cmp (HE_idx (hL 0) HE_int) HE_str) (HE_and (HE_cmp (HE_idx (hL 0) HE_int) HE_str) (HE_in2 false (HE_idx (hL 0) HE_int) (HE_fn0 fn491 (by kernel_rfl) (by decide) (by intro P;kernel_rfl) (by intro P;kernel_rfl)))))))) (by decide+kernel) (by kernel_rfl) (by kernel_rfl))⟩
noncomputable def B532_2:SF:=(pk532_2 0).1
noncomputable def pk532_3 (d:Nat): { F:SF // HS sc532 (d+1) ((fnBody (tS 23)).getD 3 (.Pass ⟨0,0,0,0⟩)) F }:=⟨_,(HS_assign 3 (HE_or (HE_and (HE_in2 true (HE_idx (hL 0) HE_int) (HE_fn0 fn491 (by kernel_rfl) (by decide) (by intro P;kernel_rfl) (by intro P;kernel_rfl))) (HE_cmp (HE_idx (hL 0) HE_int) HE_str)) (HE_and (HE_cmp (HE_idx (hL 0) HE_int) HE_str) (hL 2))) (by decide+kernel) (by kernel_rfl) (by kernel_rfl))⟩
noncomputable def B532_3:SF:=(pk532_3 0).1
noncomputable def pk532_4 (d:Nat): { F:SF // HS sc532 (d+1) ((fnBody (tS 23)).getD 4 (.Pass ⟨0,0,0,0⟩)) F }:=⟨_,(HS_ret (HE_and (hL 3) (HE_or (hL 1) (hL 2))))⟩
noncomputable def B532_4:SF:=(pk532_4 0).1
theorem G532_eq:G532=(fSeq B532_0 (fSeq B532_1 (fSeq B532_2 (fSeq B532_3 (fSeq B532_4 (fun loc at_=>some (.nxt,loc,at_))))))):=rfl
end
section
noncomputable def pk539_0 (d:Nat): { F:SF // HS sc539 (d+9) (((fnBody (tS 24)).drop 1).getD 0 (.Pass ⟨0,0,0,0⟩)) F }:=⟨_,(HS_assign 2 (HE_fn (HA_cons (hL 0) HA_nil) fn525 (by kernel_rfl) (by decide) (by intro P;kernel_rfl) (by intro P;kernel_rfl) (by intro _;exact⟨_,_,rfl⟩)) (by decide+kernel) (by kernel_rfl) (by kernel_rfl))⟩
noncomputable def B539_0:SF:=(pk539_0 0).1
noncomputable def pk539_1 (d:Nat): { F:SF // HS sc539 (d+9) (((fnBody (tS 24)).drop 1).getD 1 (.Pass ⟨0,0,0,0⟩)) F }:=⟨_,(HS_assign 3 (HE_meth (hL 1) (HA_cons (hL 2) HA_nil) fn189 (by intro P;kernel_rfl) (by decide) (by intro _;exact⟨_,_,rfl⟩) (by intro _;rfl)) (by decide+kernel) (by kernel_rfl) (by kernel_rfl))⟩
noncomputable def B539_1:SF:=(pk539_1 0).1
noncomputable def pk539_2 (d:Nat): { F:SF // HS sc539 (d+9) (((fnBody (tS 24)).drop 1).getD 2 (.Pass ⟨0,0,0,0⟩)) F }:=⟨_,(HS_assign 4 (HE_meth (hL 1) (HA_cons (hL 3) HA_nil) fn189 (by intro P;kernel_rfl) (by decide) (by intro _;exact⟨_,_,rfl⟩) (by intro _;rfl)) (by decide+kernel) (by kernel_rfl) (by kernel_rfl))⟩
noncomputable def B539_2:SF:=(pk539_2 0).1
noncomputable def pk539_3 (d:Nat): { F:SF // HS sc539 (d+9) (((fnBody (tS 24)).drop 1).getD 3 (.Pass ⟨0,0,0,0⟩)) F }:=⟨_,(HS_assign 2 (HE_fn (HA_cons (hL 2) HA_nil) fn496 (by kernel_rfl) (by decide) (by intro P;kernel_rfl) (by intro P;kernel_rfl) (by intro _;exact⟨_,_,rfl⟩)) (by decide+kernel) (by kernel_rfl) (by kernel_rfl))⟩
noncomputable def B539_3:SF:=(pk539_3 0).1
noncomputable def pk539_4 (d:Nat): { F:SF // HS sc539 (d+9) (((fnBody (tS 24)).drop 1).getD 4 (.Pass ⟨0,0,0,0⟩)) F }:=⟨_,(HS_if (HC_val (HE_fn (HA_cons (hL 2) HA_nil) fn532 (by kernel_rfl) (by decide) (by intro P;kernel_rfl) (by intro P;kernel_rfl) (by intro _;exact⟨_,_,rfl⟩))) (HB_cons (HS_ret (HE_and (HE_cmp (hL 3) (HE_slice (hL 2) HP_none (HP_some HE_int))) (HE_cmp (hL 4) (HE_slice (hL 2) HP_none (HP_some HE_int)))))
 HB_nil) HB_nil)⟩
noncomputable def B539_4:SF:=(pk539_4 0).1
noncomputable def pk539_4_0 (d:Nat): { F:SF // HS sc539 (d+9) ((bodyOf (((fnBody (tS 24)).drop 1).getD 4 (.Pass ⟨0,0,0,0⟩))).getD 0 (.Pass ⟨0,0,0,0⟩)) F }:=⟨_,(HS_ret (HE_and (HE_cmp (hL 3) (HE_slice (hL 2) HP_none (HP_some HE_int))) (HE_cmp (hL 4) (HE_slice (hL 2) HP_none (HP_some HE_int)))))⟩
noncomputable def B539_4_0:SF:=(pk539_4_0 0).1
noncomputable abbrev N539_4:SF:=(fSeq B539_4_0 (fun loc at_=>some (.nxt,loc,at_)))
noncomputable def pk539_5 (d:Nat): { F:SF // HS sc539 (d+9) (((fnBody (tS 24)).drop 1).getD 5 (.Pass ⟨0,0,0,0⟩)) F }:=⟨_,(HS_ret (HE_cmp (hL 4) (hL 3)))⟩
noncomputable def B539_5:SF:=(pk539_5 0).1
theorem G539_eq:G539=(fSeq B539_0 (fSeq B539_1 (fSeq B539_2 (fSeq B539_3 (fSeq B539_4 (fSeq B539_5 (fun loc at_=>some (.nxt,loc,at_)))))))):=rfl
end
section
noncomputable def pk544_0 (d:Nat): { F:SF // HS sc544 (d+10) (((fnBody (tS 25)).drop 4).getD 0 (.Pass ⟨0,0,0,0⟩)) F }:=⟨_,(HS_assign 4 (HE_fn (HA_cons (HE_sliceL (hL 0) (HP_some HE_int) (HP_some HE_int)) (HA_cons (HE_ifexp (HC_cmp (hL 1) HE_int) HE_int HE_int) HA_nil)) fn503 (by kernel_rfl) (by decide) (by intro P;kernel_rfl) (by intro P;kernel_rfl) (by intro _;exact⟨_,_,rfl⟩)) (by decide+kernel) (by kernel_rfl) (by kernel_rfl))⟩
noncomputable def B544_0:SF:=(pk544_0 0).1
noncomputable def pk544_1 (d:Nat): { F:SF // HS sc544 (d+10) (((fnBody (tS 25)).drop 4).getD 1 (.Pass ⟨0,0,0,0⟩)) F }:=⟨_,(HS_assign 5 (HE_join HE_str (HE_comp0 [.no,.item,.no] (HI_val (HE_sliceL (hL 0) (HP_some HE_int) (HP_some HE_int))) (HE_idx (HE_signs (by kernel_rfl)) (HE_bin (hL 1) HE_int)) (by kernel_rfl) (by kernel_rfl) (by kernel_rfl) (by kernel_rfl) (by kernel_rfl)) (by intro _;rfl) (by intro _;rfl)) (by decide+kernel) (by kernel_rfl) (by kernel_rfl))⟩
noncomputable def B544_1:SF:=(pk544_1 0).1
noncomputable def pk544_2 (d:Nat): { F:SF // HS sc544 (d+10) (((fnBody (tS 25)).drop 4).getD 2 (.Pass ⟨0,0,0,0⟩)) F }:=⟨_,(HS_assign 6 (HE_fn (HA_cons (HE_sliceL (hL 0) (HP_some HE_int) (HP_some HE_int)) HA_nil) fn508 (by kernel_rfl) (by decide) (by intro P;kernel_rfl) (by intro P;kernel_rfl) (by intro _;exact⟨_,_,rfl⟩)) (by decide+kernel) (by kernel_rfl) (by kernel_rfl))⟩
noncomputable def B544_2:SF:=(pk544_2 0).1
noncomputable def pk544_3 (d:Nat): { F:SF // HS sc544 (d+10) (((fnBody (tS 25)).drop 4).getD 3 (.Pass ⟨0,0,0,0⟩)) F }:=⟨_,(HS_assign 7 (HE_bin (HE_bin (hL 5) (hL 6)) (hL 4)) (by decide+kernel) (by kernel_rfl) (by kernel_rfl))⟩
noncomputable def B544_3:SF:=(pk544_3 0).1
noncomputable def pk544_4 (d:Nat): { F:SF // HS sc544 (d+10) (((fnBody (tS 25)).drop 4).getD 4 (.Pass ⟨0,0,0,0⟩)) F }:=⟨_,(HS_assign 6 (HE_bin (HE_fn (HA_cons (hL 5) HA_nil) fn496 (by kernel_rfl) (by decide) (by intro P;kernel_rfl) (by intro P;kernel_rfl) (by intro _;exact⟨_,_,rfl⟩)) (hL 6)) (by decide+kernel) (by kernel_rfl) (by kernel_rfl))⟩
noncomputable def B544_4:SF:=(pk544_4 0).1
noncomputable def pk544_5 (d:Nat): { F:SF // HS sc544 (d+10) (((fnBody (tS 25)).drop 4).getD 5 (.Pass ⟨0,0,0,0⟩)) F }:=⟨_,(HS_while 60 (HC_and (HC_cmp (hL 4) HE_str) (HC_not (HC_val (HE_ends (hL 4) HE_str (by intro _;rfl) (by intro _;rfl))))) (HB_cons (HS_assign 4 (HE_fn (HA_cons (hL 4) (HA_cons (hL 2) HA_nil)) fn520 (by kernel_rfl) (by decide) (by intro P;kernel_rfl) (by intro P;kernel_rfl) (by intro _;exact⟨_,_,rfl⟩)) (by decide+kernel) (by kernel_rfl) (by kernel_rfl))
 (HB_cons (HS_assign 7 (HE_meth (hL 3) (HA_cons (hL 7) HA_nil) fn189 (by intro P;kernel_rfl) (by decide) (by intro _;exact⟨_,_,rfl⟩) (by intro _;rfl)) (by decide+kernel) (by kernel_rfl) (by kernel_rfl))
 (HB_cons (HS_if (HC_cmp (hL 7) (HE_bin (hL 6) (hL 4))) (HB_cons (HS_ret HE_bool)
 HB_nil) HB_nil)
 HB_nil))))⟩
noncomputable def B544_5:SF:=(pk544_5 0).1
noncomputable def pk544_5_0 (d:Nat): { F:SF // HS sc544 (d+10) ((bodyOf (((fnBody (tS 25)).drop 4).getD 5 (.Pass ⟨0,0,0,0⟩))).getD 0 (.Pass ⟨0,0,0,0⟩)) F }:=⟨_,(HS_assign 4 (HE_fn (HA_cons (hL 4) (HA_cons (hL 2) HA_nil)) fn520 (by kernel_rfl) (by decide) (by intro P;kernel_rfl) (by intro P;kernel_rfl) (by intro _;exact⟨_,_,rfl⟩)) (by decide+kernel) (by kernel_rfl) (by kernel_rfl))⟩
noncomputable def B544_5_0:SF:=(pk544_5_0 0).1
noncomputable def pk544_5_1 (d:Nat): { F:SF // HS sc544 (d+10) ((bodyOf (((fnBody (tS 25)).drop 4).getD 5 (.Pass ⟨0,0,0,0⟩))).getD 1 (.Pass ⟨0,0,0,0⟩)) F }:=⟨_,(HS_assign 7 (HE_meth (hL 3) (HA_cons (hL 7) HA_nil) fn189 (by intro P;kernel_rfl) (by decide) (by intro _;exact⟨_,_,rfl⟩) (by intro _;rfl)) (by decide+kernel) (by kernel_rfl) (by kernel_rfl))⟩
noncomputable def B544_5_1:SF:=(pk544_5_1 0).1
noncomputable def pk544_5_2 (d:Nat): { F:SF // HS sc544 (d+10) ((bodyOf (((fnBody (tS 25)).drop 4).getD 5 (.Pass ⟨0,0,0,0⟩))).getD 2 (.Pass ⟨0,0,0,0⟩)) F }:=⟨_,(HS_if (HC_cmp (hL 7) (HE_bin (hL 6) (hL 4))) (HB_cons (HS_ret HE_bool)
 HB_nil) HB_nil)⟩
noncomputable def B544_5_2:SF:=(pk544_5_2 0).1
noncomputable def pk544_5_2_0 (d:Nat): { F:SF // HS sc544 (d+10) ((bodyOf ((bodyOf (((fnBody (tS 25)).drop 4).getD 5 (.Pass ⟨0,0,0,0⟩))).getD 2 (.Pass ⟨0,0,0,0⟩))).getD 0 (.Pass ⟨0,0,0,0⟩)) F }:=⟨_,(HS_ret HE_bool)⟩
noncomputable def B544_5_2_0:SF:=(pk544_5_2_0 0).1
noncomputable abbrev N544_5_2:SF:=(fSeq B544_5_2_0 (fun loc at_=>some (.nxt,loc,at_)))
noncomputable abbrev N544_5:SF:=(fSeq B544_5_0 (fSeq B544_5_1 (fSeq B544_5_2 (fun loc at_=>some (.nxt,loc,at_)))))
noncomputable def pk544_6 (d:Nat): { F:SF // HS sc544 (d+10) (((fnBody (tS 25)).drop 4).getD 6 (.Pass ⟨0,0,0,0⟩)) F }:=⟨_,(HS_ret (HE_cmp (HE_meth (hL 3) (HA_cons (hL 7) HA_nil) fn189 (by intro P;kernel_rfl) (by decide) (by intro _;exact⟨_,_,rfl⟩) (by intro _;rfl)) (HE_bin (hL 6) (hL 4))))⟩
noncomputable def B544_6:SF:=(pk544_6 0).1
theorem GLr_eq:GLr=(fSeq B544_0 (fSeq B544_1 (fSeq B544_2 (fSeq B544_3 (fSeq B544_4 (fSeq B544_5 (fSeq B544_6 (fun loc at_=>some (.nxt,loc,at_))))))))):=rfl
end
section
open Mine.Pl (Pc pcR fwd good Root)
noncomputable def pcAt (n:Int):Pc:=[Pc.s,.en,.e,.heid,.fin,.ing,.ig,.lijk,.baar,.bar].getD (n.fmod 10).toNat .s
theorem fmod_bd (n:Int) {k:Int} (h:0<k):0≤n.fmod k∧n.fmod k<k:=⟨Int.fmod_nonneg_of_pos _ h,Int.fmod_lt_of_pos _ h⟩
noncomputable def turnP (most:Nat) (l:List Pc) (p:Pc):List Pc:=if decide ((fwd l).length+(pcR p).length≤most)&& !(Pl.hdE l&&Pl.clash p) then p::l else l
theorem good_turn {most:Nat} {l:List Pc} (g:good l=true) (p:Pc):good (turnP most l p)=true:=by
 unfold turnP
 split
 ·rename_i h
  simp at h
  unfold good
  rw[g]
  have:=h.2
  cases a:Pl.hdE l<;>cases b:Pl.clash p<;>simp_all
 ·exact g
theorem len_turn {most:Nat} {l:List Pc} (g:(fwd l).length≤most) (p:Pc):(fwd (turnP most l p)).length≤most:=by
 unfold turnP
 split
 ·rename_i h
  simp at h
  rw[Pl.fwd_cons]
  simp
  lia
 ·exact g
theorem ends_e (l:List Pc):endsL (fwd l) [101]=Pl.hdE l:=by
 cases l with
 |nil=>rfl
 |cons p t=>
  rw[Pl.fwd_cons]
  unfold endsL
  cases p<;>simp[pcR,Pl.hdE,List.isSuffixOf]<;>rfl
theorem pc_item (n:Int):idxV (.list (([[115],[101,110],[101],[104,101,105,100],[101,110,100],[105,110,103],[105,103],[108,105,106,107],[98,97,97,114],[98,97,114]]:List (List Nat)).map .str)) (n.fmod 10)=some (.s (.str (pcR (pcAt n)).reverse)):=by
 obtain⟨h1,h2⟩:=fmod_bd n (k:=10) (by decide)
 unfold pcAt
 generalize n.fmod 10=m at h1 h2
 exact nat_of (n:=10) h1 h2 (P:=fun m=>idxV _ m=some (.s (.str (pcR ([Pc.s,.en,.e,.heid,.fin,.ing,.ig,.lijk,.baar,.bar].getD m.toNat .s)).reverse))) (below 10 ⟨⟨⟨⟨⟨⟨⟨⟨⟨⟨trivial,rfl⟩,rfl⟩,rfl⟩,rfl⟩,rfl⟩,rfl⟩,rfl⟩,rfl⟩,rfl⟩,rfl⟩)
theorem clash_in (p:Pc):([[115],[101,110],[101],[105,103]]:List (List Nat)).contains (pcR p).reverse=Pl.clash p:=by
 cases p<;>rfl
noncomputable def pileOf (most:Nat) (ns:List Int):List Pc:=ns.foldl (fun l n=>turnP most l (pcAt n)) []
theorem pile_good (most:Nat) (ns:List Int):good (pileOf most ns)=true∧(fwd (pileOf most ns)).length≤most:=by
 have key:∀ (ns:List Int) (l:List Pc),good l=true→(fwd l).length≤most→good (ns.foldl (fun l n=>turnP most l (pcAt n)) l)=true∧(fwd (ns.foldl (fun l n=>turnP most l (pcAt n)) l)).length≤most:=by
  intro ns
  induction ns with
  |nil=>intro l a b;exact⟨a,b⟩
  |cons n r ih=>intro l a b;exact ih _ (good_turn a _) (len_turn b _)
 exact key ns [] rfl (Nat.zero_le _)
theorem for_go {α S:Type} {F:SF} {i:Nat} {at_:At} {g:α→SV} {step:S→α→S} (Inv:S→Loc→Prop) (h:∀ s loc x,Inv s loc→∃ loc',F (loc.set i (some (.s (g x)))) at_=some (.nxt,loc',at_)∧Inv (step s x) loc'):∀ (l:List α) (s:S) (loc:Loc),Inv s loc→∃ loc',forN (l.map g) i F loc at_=some (.nxt,loc',at_)∧Inv (l.foldl step s) loc':=by
 intro l
 induction l with
 |nil=>intro s loc hi;exact⟨loc,rfl,hi⟩
 |cons x r ih=>
  intro s loc hi
  obtain⟨loc',h1,h2⟩:=h s loc x hi
  obtain⟨loc2,h3,h4⟩:=ih _ _ h2
  refine⟨loc2,?_,h4⟩
  rw[List.map_cons]
  unfold forN
  rw[h1]
  exact h3
theorem len_pc (p:Pc):(pcR p).length≤4:=by cases p<;>decide
theorem eS:(Str.ofString "e").cps.toList=[101]:=by kernel_rfl
theorem sS:(Str.ofString "s").cps.toList=[115]:=by kernel_rfl
theorem enS:(Str.ofString "en").cps.toList=[101,110]:=by kernel_rfl
theorem igS:(Str.ofString "ig").cps.toList=[105,103]:=by kernel_rfl
theorem clS:(List.map (fun x:Str=>SV.str x.cps.toList) [Str.ofString "s",Str.ofString "en",Str.ofString "e",Str.ofString "ig"])=([[115],[101,110],[101],[105,103]]:List (List Nat)).map .str:=by kernel_rfl
section
variable {at_:At} {a b c d e:Option MV} {most:Nat}
theorem b503_0:B503_0 [a,b,c,d,e,none,none] at_=some (.nxt,[a,b,some (.s (.str [])),d,e,none,none],at_):=by
 unfold B503_0 pk503_0;simp! [nilS]
theorem b503_2 {v:MV}:B503_2 [a,b,some v,d,e,none,none] at_=some (.ret v,[a,b,some v,d,e,none,none],at_):=by
 unfold B503_2 pk503_2;simp! []
theorem b503_1_0 {n:Int}:B503_1_0 [a,b,c,some (.s (.int n)),e,none,none] at_=some (.nxt,[a,b,c,some (.s (.int n)),some (.s (.str (pcR (pcAt n)).reverse)),none,none],at_):=by
 unfold B503_1_0 pk503_1_0;have h:=pc_item n;simp only[List.map_cons,List.map_nil] at h;simp! [run470,h]
theorem clash_or {p:Pc}:Pl.clash p=true↔pcR p=[115]∨pcR p=[110,101]∨pcR p=[101]∨pcR p=[103,105]:=by cases p<;>decide
theorem b503_1_1 {l:List Pc} {p:Pc} (hl:(fwd l).length≤50):B503_1_1 [a,some (.s (.int most)),some (.s (.str (fwd l))),d,some (.s (.str (pcR p).reverse)),none,none] at_=some (.nxt,[a,some (.s (.int most)),some (.s (.str (fwd (turnP most l p)))),d,some (.s (.str (pcR p).reverse)),none,none],at_):=by
 have h1:=len_pc p
 have h2:(fwd l).length≤1000:=by lia
 have h3:(pcR p).length≤1000:=by lia
 have h4:(fwd l).length+(pcR p).length≤1000:=by lia
 unfold B503_1_1 pk503_1_1 turnP
 by_cases g1:(fwd l).length+(pcR p).length≤most
 ·have g1':((fwd l).length:Int)+((pcR p).length:Int)≤(most:Int):=by lia
  cases g2:Pl.hdE l<;>cases g3:Pl.clash p<;>simp! [opLen,h2,h3,h4,g1,g1',eS,sS,enS,igS,strsOf,ends_e,g2,clash_in,g3,Pl.fwd_cons]
  ·intro h
   have k:∀ {X:Prop},(X→Pl.clash p=true)→¬X:=fun f x=>by rw[f x] at g3;cases g3
   exact absurd (h (k fun e=>clash_or.mpr (.inl e)) (k fun e=>clash_or.mpr (.inr (.inl e))) (k fun e=>clash_or.mpr (.inr (.inr (.inl e))))) (k fun e=>clash_or.mpr (.inr (.inr (.inr e))))
  ·intro a b c d
   rcases clash_or.mp g3 with h |h |h |h
   ·exact absurd h a
   ·exact absurd h b
   ·exact absurd h c
   ·exact absurd h d
 ·have g1':¬((fwd l).length:Int)+((pcR p).length:Int)≤(most:Int):=by lia
  simp! [opLen,h2,h3,g1,g1']
theorem b503_1 {xs:List SV}:B503_1 [some (.list xs),b,c,d,e,none,none] at_=forN xs 3 N503_1 [some (.list xs),b,c,d,e,none,none] at_:=by rfl
end
theorem run503 (ns:List Int) (most:Nat) (hm:most≤50) (at_:At):runBody 2 5 G503 [.list (ns.map .int),.s (.int most)] at_=some (.s (.str (fwd (pileOf most ns))),at_):=by
 obtain⟨loc',h1,a',x,y,e'⟩:=for_go (F:=N503_1) (at_:=at_) (i:=3) (g:=SV.int) (step:=fun l n=>turnP most l (pcAt n)) (fun (l:List Pc) (loc:Loc)=>(fwd l).length≤most∧∃ x y,loc=[some (.list (ns.map .int)),some (.s (.int most)),some (.s (.str (fwd l))),x,y,none,none]) (fun l loc n ⟨hl,x,y,e⟩=>by
  subst e
  refine⟨[some (.list (ns.map .int)),some (.s (.int most)),some (.s (.str (fwd (turnP most l (pcAt n))))),some (.s (.int n)),some (.s (.str (pcR (pcAt n)).reverse)),none,none],?_,len_turn hl _,_,_,rfl⟩
  show N503_1 [_,_,_,some (.s (.int n)),y,none,none] at_=_
  show fSeq B503_1_0 _ _ _=_
  rw[sq b503_1_0,sq (b503_1_1 (by lia))]) ns [] _ ⟨Nat.zero_le _,none,none,rfl⟩
 subst e'
 have h3:B503_1 [some (.list (ns.map .int)),some (.s (.int most)),some (.s (.str [])),none,none,none,none] at_=_:=b503_1.trans h1
 rw[rb (by rfl),G503_eq]
 show (fSeq B503_0 _ [some (.list (ns.map .int)),some (.s (.int most)),none,none,none,none,none] _).bind _=_
 rw[sq b503_0,sq h3,sqr b503_2]
 rfl
end
section
open Mine.Pl (Pc pcR fwd good Root)
noncomputable def fourAt (ns:List Int) (k:Nat):Int:=ns.getD k 0
theorem str_item (L:List Nat) (n:Int) (h:0<L.length) (h2:L.length≤1000):idxV (.s (.str L)) (n.fmod L.length)=some (.s (.str [L.getD (n.fmod L.length).toNat 0]))∧L.getD (n.fmod L.length).toNat 0∈L:=by
 obtain⟨a,b⟩:=fmod_bd n (k:=(L.length:Int)) (by lia)
 obtain⟨j,hj⟩:∃ j:Nat,n.fmod L.length=j:=⟨(n.fmod L.length).toNat,by lia⟩
 rw[hj] at a b ⊢
 have hlt:j<L.length:=by lia
 have e:L=L.take j++L[j]::L.drop (j+1):=by
  rw[List.getElem_cons_drop_succ_eq_drop]
  simp
 have e2:(L.take j).length=j:=by simp;lia
 have:=idx_fwd (L.take j) (L.drop (j+1)) L[j] (by lia)
 rw[←e,e2] at this
 have e3:L.getD j 0=L[j]:=by simp[hlt]
 rw[Int.toNat_natCast,e3]
 exact⟨this,List.getElem_mem hlt⟩
noncomputable def vowS:List Nat:=[97,101,105,111,117,232]
noncomputable def conS:List Nat:=[98,99,100,102,103,104,106,107,108,109,110,112,113,114,115,116,118,119,120,122]
noncomputable def endS:List Nat:=[98,102,104,108,112,116,118,119,120,122]
noncomputable def rootOf (ns:List Int):Root:=⟨vowS.getD ((fourAt ns 0).fmod 6).toNat 0,conS.getD ((fourAt ns 1).fmod 20).toNat 0,vowS.getD ((fourAt ns 2).fmod 6).toNat 0,endS.getD ((fourAt ns 3).fmod 10).toNat 0⟩
theorem vS:(Str.ofString "aeiouè").cps.toList=vowS:=by kernel_rfl
theorem cS':(Str.ofString "bcdfghjklmnpqrstvwxz").cps.toList=conS:=by kernel_rfl
theorem eS':(Str.ofString "bfhlptvwxz").cps.toList=endS:=by kernel_rfl
theorem root_ok (ns:List Int):(rootOf ns).ok=true:=by
 have h1:=(str_item vowS (fourAt ns 0) (by decide) (by decide)).2
 have h2:=(str_item conS (fourAt ns 1) (by decide) (by decide)).2
 have h3:=(str_item vowS (fourAt ns 2) (by decide) (by decide)).2
 have h4:=(str_item endS (fourAt ns 3) (by decide) (by decide)).2
 have e1:Pl.rootV (rootOf ns).w=true:=List.contains_iff_mem.mpr h1
 have e2:Pl.rootK (rootOf ns).k=true:=List.contains_iff_mem.mpr h2
 have e3:Pl.rootV (rootOf ns).v=true:=List.contains_iff_mem.mpr h3
 have e4:Pl.rootC (rootOf ns).c=true:=List.contains_iff_mem.mpr h4
 unfold Pl.Root.ok
 rw[e1,e2,e3,e4]
 rfl
section
variable {at_:At} {a b c d e:Option MV}
theorem b508_0 {ns:List Int} (h:ns.length≤63):B508_0 [some (.list (ns.map .int)),none,none,none] at_=some (.nxt,[some (.list (ns.map .int)),some (.list ([fourAt ns 0,fourAt ns 1,fourAt ns 2,fourAt ns 3].map .int)),none,none],at_):=by
 unfold B508_0 pk508_0
 show Option.map _ (fComp _ _ (fun _ _=>some true) _ _ _)=_
 rw[comp_ok (l:=[0,1,2,3]) (g:=fun k:Nat=>SV.int k) (f:=fun k:Nat=>SV.int (fourAt ns k)) (by rfl) (by rfl) (by decide) ?h]
 case h=>
  intro k hk
  unfold eltV
  have hk4:k<4:=by simp at hk;lia
  by_cases q:k<ns.length
  ·have q':(k:Int)<(ns.length:Int):=by lia
   have i1:idxV (.list (ns.map .int)) (k:Int)=some (.s (.int (fourAt ns k))):=by
    unfold idxV
    simp[fourAt,q]
    lia
   have hl:ns.length≤1000000:=by lia
   simp! [cloc,opLen,q',i1,hl]
  ·have q':¬(k:Int)<(ns.length:Int):=by lia
   have i1:fourAt ns k=0:=by unfold fourAt;rw[List.getD_eq_getElem?_getD,List.getElem?_eq_none (by lia)];rfl
   have hl:ns.length≤1000000:=by lia
   simp! [cloc,opLen,q',i1,hl]
 ·rfl
theorem b508_1 {p q r s:Int}:B508_1 [a,some (.list ([p,q,r,s].map .int)),c,d] at_=some (.nxt,[a,some (.list ([p,q,r,s].map .int)),some (.s (.str [vowS.getD (p.fmod 6).toNat 0,conS.getD (q.fmod 20).toNat 0])),d],at_):=by
 have h1:idxV (.s (.str vowS)) (p.fmod 6)=_:=(str_item vowS p (by decide) (by decide)).1
 have h2:idxV (.s (.str conS)) (q.fmod 20)=_:=(str_item conS q (by decide) (by decide)).1
 have i1:idxV (.list [.int p,.int q,.int r,.int s]) 0=some (.s (.int p)):=rfl
 have i2:idxV (.list [.int p,.int q,.int r,.int s]) 1=some (.s (.int q)):=rfl
 unfold B508_1 pk508_1
 simp! [vS,cS',i1,i2,h1,h2]
 exact⟨rfl,rfl⟩
theorem b508_2 {p q r s:Int} {x y:Nat}:B508_2 [a,some (.list ([p,q,r,s].map .int)),some (.s (.str [x,y])),d] at_=some (.ret (.s (.str [x,y,vowS.getD (r.fmod 6).toNat 0,endS.getD (s.fmod 10).toNat 0])),[a,some (.list ([p,q,r,s].map .int)),some (.s (.str [x,y])),d],at_):=by
 have h1:idxV (.s (.str vowS)) (r.fmod 6)=_:=(str_item vowS r (by decide) (by decide)).1
 have h2:idxV (.s (.str endS)) (s.fmod 10)=_:=(str_item endS s (by decide) (by decide)).1
 have i1:idxV (.list [.int p,.int q,.int r,.int s]) 2=some (.s (.int r)):=rfl
 have i2:idxV (.list [.int p,.int q,.int r,.int s]) 3=some (.s (.int s)):=rfl
 unfold B508_2 pk508_2
 simp! [vS,eS',i1,i2,h1,h2]
 exact⟨rfl,rfl⟩
end
theorem run508 (ns:List Int) (h:ns.length≤63) (at_:At):runBody 1 3 G508 [.list (ns.map .int)] at_=some (.s (.str (rootOf ns).l),at_):=by
 rw[rb (by rfl),G508_eq]
 show (fSeq B508_0 _ [some (.list (ns.map .int)),none,none,none] _).bind _=_
 rw[sq (b508_0 h),sq b508_1,sqr b508_2]
 rfl
end
section
open Mine.Pl (Pc pcR flat fwd good joinF joinR con qz qs)
theorem compL_filter {α:Type} {test:SV→Option Bool} {elt:SV→Option SV} {g:α→SV} {f:α→SV} {t:α→Bool} (l:List α) (h:∀ x∈l,elt (g x)=some (f x)∧test (g x)=some (t x)):compL test elt (l.map g)=some ((l.filter t).map f):=by
 induction l with
 |nil=>rfl
 |cons a r ih=>
  obtain⟨h1,h2⟩:=h a (.head _)
  rw[List.map_cons]
  unfold compL
  rw[ih fun x hx=>h x (.tail _ hx),h2,h1,List.filter_cons]
  cases t a<;>rfl
theorem comp_ok1 {α:Type} {fi:IF} {T:List Tm} {fe:EF} {ft:CF} {loc:Loc} {at_:At} {g f:α→SV} {t:α→Bool} {l:List α} (h1:fi loc at_=some (l.map g,at_)) (h2:freesOk T loc=true) (h3:l.length≤1000000) (h4:∀ x∈l,eltV fe T loc (g x)=some (f x)∧testV ft T loc (g x)=some (t x)):fComp fi T (testV ft T) fe loc at_=some (.list ((l.filter t).map f),at_):=by
 show ((fi loc at_).bind fun p=>_)=_
 rw[h1]
 show (if (l.map g).length≤1000000∧freesOk T loc=true then _ else none)=_
 rw[if_pos ⟨by simpa using h3,h2⟩,compL_filter l h4]
 rfl
theorem intsOf_map {α:Type} (f:α→Int) (l:List α):intsOf (l.map fun x=>.int (f x))=some (l.map f):=by
 induction l with
 |nil=>rfl
 |cons a r ih=>rw[List.map_cons,List.map_cons];unfold intsOf;rw[ih];rfl
theorem max_of (l:List Nat) (m:Nat) (h:m∈l) (hm:∀ x∈l,x≤m):opMax [.list (l.map fun k:Nat=>.int (k:Int))]=some (.s (.int (m:Int))):=by
 have key:∀ (r:List Nat) (a:Nat),a≤m→(∀ x∈r,x≤m)→(a=m∨m∈r)→(r.map fun k:Nat=>(k:Int)).foldl max (a:Int)=(m:Int):=by
  intro r
  induction r with
  |nil=>
   intro a _ _ h
   rcases h with rfl |h
   ·rfl
   ·cases h
  |cons b r ih=>
   intro a ha hr hh
   rw[List.map_cons,List.foldl_cons]
   have hb:=hr b (.head _)
   have e:max (a:Int) (b:Int)=((max a b:Nat):Int):=by lia
   rw[e]
   refine ih _ (by lia) (fun x hx=>hr x (.tail _ hx)) ?_
   rcases hh with rfl |hh
   ·left;lia
   ·rcases List.mem_cons.mp hh with rfl |hh
    ·left;lia
    ·exact .inr hh
 cases l with
 |nil=>cases h
 |cons a r=>
  show ((intsOf ((a::r).map fun k:Nat=>SV.int (k:Int))).bind fun ns=>(maxL ns).map fun n=>MV.s (.int n))=_
  rw[intsOf_map (fun k:Nat=>(k:Int))]
  have:=key r a (hm a (.head _)) (fun x hx=>hm x (.tail _ hx)) (by rcases List.mem_cons.mp h with h |h;exact .inl h.symm;exact .inr h)
  rw[←this]
  rfl
theorem upL_map (n:Nat):∀ k,upL k n=(List.range n).map fun i:Nat=>.int ((k+i:Nat):Int):=by
 induction n with
 |zero=>intro k;rfl
 |succ n ih=>
  intro k
  rw[List.range_succ_eq_map,List.map_cons,List.map_map]
  show SV.int k::upL (k+1) n=_
  rw[ih]
  congr 1
  apply List.map_congr_left
  intro i _
  show SV.int ((k+1+i:Nat):Int)= .int ((k+(i+1):Nat):Int)
  rw[show k+1+i=k+(i+1) by lia]
theorem rangeL_up (n:Nat):rangeL 0 (n:Int) 1=(List.range n).map fun k:Nat=>.int (k:Int):=by
 have:=range_up 0 n
 rw[show ((0:Nat):Int)=0 from rfl] at this
 rw[this,upL_map]
 simp
theorem slice_tail (l:List Nat) (k:Nat) (h:k≤l.length):sliceL l (some ((l.length:Int)-k)) none=l.drop (l.length-k):=by
 rw[←Int.ofNat_sub h,slice_from_nat]
theorem slice_head (l:List Nat) (k:Nat) (h:k≤l.length):sliceL l none (some ((l.length:Int)-k))=l.take (l.length-k):=by
 rw[←Int.ofNat_sub h]
 unfold sliceL
 rw[clip_nat,Nat.min_eq_left (Nat.sub_le _ _)]
 rfl
theorem join_rev (w:List Nat):joinF.contains w.reverse=joinR.contains w:=by
 unfold joinR
 rw[Bool.eq_iff_iff]
 rw[List.contains_iff_mem,List.contains_iff_mem,List.mem_map]
 constructor
 ·intro h;exact⟨_,h,List.reverse_reverse w⟩
 ·rintro⟨a,h,rfl⟩;rw[List.reverse_reverse];exact h
theorem drop_fwd (l:List Pc) (k:Nat):(fwd l).drop ((fwd l).length-k)=((flat l).take k).reverse:=by
 unfold fwd
 rw[List.length_reverse,←List.reverse_take]
theorem size_ok (l:List Pc):con l∈(List.range ((fwd l).length+1)).filter (fun k=>joinF.contains ((fwd l).drop ((fwd l).length-k)))∧∀ k∈(List.range ((fwd l).length+1)).filter (fun k=>joinF.contains ((fwd l).drop ((fwd l).length-k))),k≤con l:=by
 have h:=(Pl.lp_spec (flat l) joinR).1 _ (Pl.lp_all l)
 obtain⟨h1,h2,h3⟩:=h
 have hl:(fwd l).length=(flat l).length:=by unfold fwd;simp
 refine⟨List.mem_filter.mpr ⟨List.mem_range.mpr (by lia),?_⟩,fun k hk=> ?_⟩
 ·rw[drop_fwd,join_rev];exact h1
 ·obtain⟨a,b⟩:=List.mem_filter.mp hk
  have a:=List.mem_range.mp a
  rw[drop_fwd,join_rev] at b
  exact h3 k (by lia) b
theorem left_ok {l:List Pc} (g:good l=true):con l≤(fwd l).length∧(fwd l).take ((fwd l).length-con l)=fwd (qz l):=by
 obtain⟨X,h1,h2⟩:=Pl.con_qz g
 have e:fwd l=fwd (qz l)++X.reverse:=by
  unfold fwd
  rw[h1,List.reverse_append]
 constructor
 ·rw[e];simp;lia
 ·rw[e,←h2]
  simp
theorem baar_end (l:List Pc):endsL (fwd l) [98,97,97,114]=(match l with | .baar::_=>true |_=>false):=by
 cases l with
 |nil=>rfl
 |cons p t=>
  rw[Pl.fwd_cons]
  unfold endsL
  cases p<;>simp[pcR,List.isSuffixOf]<;>rfl
theorem bar_end (l:List Pc):endsL (fwd l) [98,97,114]=(match l with | .bar::_=>true |_=>false):=by
 cases l with
 |nil=>rfl
 |cons p t=>
  rw[Pl.fwd_cons]
  unfold endsL
  cases p<;>simp[pcR,List.isSuffixOf]<;>rfl
theorem range1 {fa:AF} {loc:Loc} {at_:At} {n:Nat} (h:fa loc at_=some ([.s (.int (n:Int))],at_)) (hn:n≤1000):fRange2 fa loc at_=some ((List.range n).map fun k:Nat=>.int (k:Int),at_):=by
 have hs:smallI (n:Int)=true:=by
  unfold smallI
  rw[Bool.and_eq_true,decide_eq_true_eq,decide_eq_true_eq]
  lia
 show ((fa loc at_).bind _)=_
 rw[h]
 show (if smallI 0=true∧smallI (n:Int)=true then some (rangeL 0 (n:Int) 1,at_) else none)=_
 rw[if_pos ⟨rfl,hs⟩,rangeL_up]
section
variable {at_:At} {a b c d e:Option MV} {most:Nat}
theorem b520_0 {l:List Pc} (hl:(fwd l).length≤50):B520_0 [some (.s (.str (fwd l))),some (.set joinF),none,none,none,none,none] at_=some (.nxt,[some (.s (.str (fwd l))),some (.set joinF),some (.s (.int (con l))),none,none,none,none],at_):=by
 have h2:(fwd l).length≤1000:=by lia
 obtain⟨s1,s2⟩:=size_ok l
 unfold B520_0 pk520_0
 show Option.map _ (Option.bind (Option.bind (fComp _ _ (testV _ _) _ _ _) _) _)=_
 rw[comp_ok1 (l:=List.range ((fwd l).length+1)) (g:=fun k:Nat=>SV.int k) (f:=fun k:Nat=>SV.int k) (t:=fun k=>joinF.contains ((fwd l).drop ((fwd l).length-k))) ?h1 (by rfl) (by simp;lia) ?h]
 case h1=>
  exact range1 (by simp! [opLen,h2]) (by lia)
 case h=>
  intro k hk
  have hk:k<(fwd l).length+1:=List.mem_range.mp hk
  unfold eltV testV
  constructor
  ·simp! [cloc]
  ·simp! [cloc,opLen,h2,slice_tail (fwd l) k (by lia)]
 ·simp! [max_of _ _ s1 s2]
theorem b520_1 {l:List Pc} (g:good l=true) (hl:(fwd l).length≤50):B520_1 [some (.s (.str (fwd l))),b,some (.s (.int (con l))),d,none,none,none] at_=some (.nxt,[some (.s (.str (fwd l))),b,some (.s (.int (con l))),some (.s (.str (fwd (qz l)))),none,none,none],at_):=by
 have h2:(fwd l).length≤1000:=by lia
 obtain⟨h3,h4⟩:=left_ok g
 have h5:=slice_head (fwd l) (con l) h3
 rw[h4] at h5
 unfold B520_1 pk520_1
 simp! [opLen,h2,h5]
theorem baS:(Str.ofString "baar").cps.toList=[98,97,97,114]:=by kernel_rfl
theorem barS:(Str.ofString "bar").cps.toList=[98,97,114]:=by kernel_rfl
theorem rS:(Str.ofString "r").cps.toList=[114]:=by kernel_rfl
theorem b520_2 {l:List Pc} (hl:(fwd l).length≤50):B520_2 [a,b,c,some (.s (.str (fwd l))),none,none,none] at_=some (.ret (.s (.str (fwd (Pl.q5 l)))),[a,b,c,some (.s (.str (fwd l))),none,none,none],at_):=by
 have h2:(fwd l).length≤1000:=by lia
 have hb:=baar_end l
 unfold B520_2 pk520_2
 by_cases h:∃ t,l= .baar::t
 ·obtain⟨t,rfl⟩:=h
  have e:fwd (.baar::t)=fwd t++[98,97,97,114]:=Pl.fwd_cons _ _
  have e2:(fwd (.baar::t)).length=(fwd t).length+4:=by rw[e];simp
  have h5:=slice_head (fwd (.baar::t)) 2 (by lia)
  have h6:(fwd (.baar::t)).take ((fwd (.baar::t)).length-2)=fwd t++[98,97]:=by
   rw[e2,show (fwd t).length+4-2=(fwd t).length+2 by lia,e,List.take_append]
   simp
   exact List.take_of_length_le (by lia)
  rw[h6] at h5
  have h7:fwd (Pl.q5 (.baar::t))=fwd t++[98,97,114]:=Pl.fwd_cons _ _
  have h8:(fwd t++[98,97]).length+1≤1000:=by simp;lia
  simp at h8
  simp at h5
  simp! [opLen,h2,baS,rS,hb,h5,h7,h8]
 ·have hq:Pl.q5 l=l:=by
   unfold Pl.q5
   split
   ·exact absurd ⟨_,rfl⟩ h
   ·rfl
  have hb:endsL (fwd l) [98,97,97,114]=false:=by
   rw[hb]
   split
   ·exact absurd ⟨_,rfl⟩ h
   ·rfl
  simp! [baS,hb,hq]
end
theorem run520 {l:List Pc} (g:good l=true) (hl:(fwd l).length≤50) (at_:At):runBody 2 5 G520 [.s (.str (fwd l)),.set joinF] at_=some (.s (.str (fwd (qs l))),at_):=by
 have hz:(fwd (qz l)).length≤50:=by
  rw[←(left_ok g).2]
  simp
  lia
 rw[rb (by rfl),G520_eq]
 show (fSeq B520_0 _ [some (.s (.str (fwd l))),some (.set joinF),none,none,none,none,none] _).bind _=_
 rw[sq (b520_0 hl),sq (b520_1 g hl),sqr (b520_2 hz)]
 rfl
end
section
open Mine.Pl (Pc pcR flat fwd good joinF qz qs smallN)
theorem slice_any {α:Type} (l:List α) (a b:Nat):(l.drop (min a l.length)).take (min b l.length-min a l.length)=(l.drop a).take (b-a):=by
 by_cases ha:a≤l.length
 ·rw[Nat.min_eq_left ha]
  by_cases hb:b≤l.length
  ·rw[Nat.min_eq_left hb]
  ·rw[Nat.min_eq_right (by lia),List.take_of_length_le (by simp),List.take_of_length_le (by simp;lia)]
 ·rw[Nat.min_eq_right (show l.length≤a by lia),List.drop_of_length_le (Nat.le_refl _),List.drop_of_length_le (show l.length≤a by lia)]
  simp
theorem clip_at (n d a:Nat):clipN n d (some (a:Int))=min a n:=clip_nat n d a
noncomputable def sl (ns:List Int) (a b:Nat):List Int:=(ns.drop a).take (b-a)
theorem slice_X (ns:List Int) (a b:Nat):sliceX (ns.map .int) (some (a:Int)) (some (b:Int))=(sl ns a b).map .int:=by
 unfold sliceX sl
 rw[clip_at,clip_at,slice_any,List.map_take,List.map_drop]
theorem signs_eq:signsL=signsN:=by kernel_rfl
noncomputable def frontOf (ns:List Int):List Nat:=ns.map fun n=>signsN.getD (n.fmod 44).toNat 0
theorem front_sign (ns:List Int):∀ x∈frontOf ns,x∈signsN:=by
 intro x hx
 obtain⟨n,_,rfl⟩:=List.mem_map.mp hx
 exact (str_item signsN n (by decide) (by decide)).2
noncomputable abbrev L8 (a:List Int) (x1 x2 x3 x4 x5 x6 x7:Option MV):Loc:=[some (.list (a.map .int)),x1,x2,x3,x4,x5,x6,x7]
theorem slice_16 (ns:List Int):sliceX (ns.map .int) (some 1) (some 6)=(sl ns 1 6).map .int:=slice_X ns 1 6
theorem slice_17 (ns:List Int):sliceX (ns.map .int) (some 1) (some 7)=(sl ns 1 7).map .int:=slice_X ns 1 7
theorem slice_711 (ns:List Int):sliceX (ns.map .int) (some 7) (some 11)=(sl ns 7 11).map .int:=slice_X ns 7 11
theorem slice_1113 (ns:List Int):sliceX (ns.map .int) (some 11) (some 13)=(sl ns 11 13).map .int:=slice_X ns 11 13
theorem sl_len (ns:List Int) (a b:Nat):(sl ns a b).length≤b-a:=by unfold sl;simp;lia
section
variable {at_:At} {ns:List Int} {x1 x2 x3 x4 x5 x6 x7:Option MV}
theorem b544_0 (h:ns.length≤63) {k:Int}:B544_0 (L8 ns (some (.s (.int k))) x2 x3 x4 x5 x6 x7) at_=some (.nxt,L8 ns (some (.s (.int k))) x2 x3 (some (.s (.str (fwd (pileOf (if k=2 then 14 else 9) (sl ns 1 7)))))) x5 x6 x7,at_):=by
 have hl:ns.length≤1000000:=by lia
 have r1:runBody 2 5 G503 [.list ((sl ns 1 7).map .int),.s (.int 14)] at_=_:=run503 (sl ns 1 7) 14 (by decide) at_
 have r2:runBody 2 5 G503 [.list ((sl ns 1 7).map .int),.s (.int 9)] at_=_:=run503 (sl ns 1 7) 9 (by decide) at_
 unfold B544_0 pk544_0
 by_cases g:k=2
 ·simp! [hl,slice_17,r1,g]
 ·simp! [hl,slice_17,r2,g]
theorem b544_1 (h:ns.length≤63):B544_1 (L8 ns x1 x2 x3 x4 x5 x6 x7) at_=some (.nxt,L8 ns x1 x2 x3 x4 (some (.s (.str (frontOf (sl ns 11 13))))) x6 x7,at_):=by
 have hl:ns.length≤1000000:=by lia
 have hs:=sl_len ns 11 13
 unfold B544_1 pk544_1
 show Option.map _ (Option.bind (some _) fun p=>Option.bind (fComp _ _ _ _ _ _) _)=_
 simp only[Option.bind_some]
 rw[comp_ok (l:=sl ns 11 13) (g:=fun n:Int=>SV.int n) (f:=fun n:Int=>SV.str [signsN.getD (n.fmod 44).toNat 0]) (by simp! [hl,slice_1113]) (by rfl) (by lia) ?h]
 case h=>
  intro n hn
  have h1:idxV (.s (.str signsN)) (n.fmod 44)=some (.s (.str [signsN.getD (n.fmod 44).toNat 0])):=(str_item signsN n (by decide) (by decide)).1
  unfold eltV
  simp! [cloc,signs_eq,h1]
 ·have e:strsOf ((sl ns 11 13).map fun n:Int=>.str [signsN.getD (n.fmod 44).toNat 0])=some ((sl ns 11 13).map fun n=>[signsN.getD (n.fmod 44).toNat 0]):=strsOf_map (fun n:Int=>[signsN.getD (n.fmod 44).toNat 0]) _
  have e2:∀ l:List Int,(l.map fun n=>[signsN.getD (n.fmod 44).toNat 0]).flatten=frontOf l:=by
   intro l
   induction l with
   |nil=>rfl
   |cons a r ih=>simp[frontOf] at ih ⊢;exact ih
  have e3:(frontOf (sl ns 11 13)).length≤1000:=by unfold frontOf;simp;lia
  simp only[nilS,Option.bind_some,e,e2,e3,if_true]
  rfl
theorem b544_2 (h:ns.length≤63):B544_2 (L8 ns x1 x2 x3 x4 x5 x6 x7) at_=some (.nxt,L8 ns x1 x2 x3 x4 x5 (some (.s (.str (rootOf (sl ns 7 11)).l))) x7,at_):=by
 have hl:ns.length≤1000000:=by lia
 have hs:=sl_len ns 7 11
 unfold B544_2 pk544_2
 simp! [hl,slice_711,run508 (sl ns 7 11) (by lia)]
theorem b544_3 {f r p:List Nat} (h:f.length+r.length+p.length≤1000):B544_3 (L8 ns x1 x2 x3 (some (.s (.str p))) (some (.s (.str f))) (some (.s (.str r))) x7) at_=some (.nxt,L8 ns x1 x2 x3 (some (.s (.str p))) (some (.s (.str f))) (some (.s (.str r))) (some (.s (.str (f++(r++p))))),at_):=by
 have h1:f.length+r.length≤1000:=by lia
 unfold B544_3 pk544_3
 simp! [h1,h]
theorem b544_4 {f r:List Nat} (h:f.length+r.length≤1000):B544_4 (L8 ns x1 x2 x3 x4 (some (.s (.str f))) (some (.s (.str r))) x7) at_=some (.nxt,L8 ns x1 x2 x3 x4 (some (.s (.str f))) (some (.s (.str (f.map smallN++r)))) x7,at_):=by
 unfold B544_4 pk544_4
 simp! [h,run496 f (by lia)]
end
end
section
open Mine.Pl (Pc pcR flat fwd good joinF qz qs smallN stemW Root)
noncomputable def stopP:List Pc→Bool
 | []=>true
 | .bar::_=>true
 |_=>false
theorem qs_len {l:List Pc} (h:stopP l=false):(qs l).length<l.length:=by
 have h4:∀ (b:Bool) (l:List Pc),(Pl.q4 b l).length≤l.length:=by
  intro b l
  unfold Pl.q4
  split<;>(try split)<;>simp<;>lia
 have h3:∀ l:List Pc,(Pl.q3 l).length≤l.length:=by
  intro l
  unfold Pl.q3
  split<;>simp<;>lia
 have h2:∀ l:List Pc,(Pl.q2 l).1.length≤l.length:=by
  intro l
  unfold Pl.q2
  split<;>simp
 have h5:∀ l:List Pc,(Pl.q5 l).length=l.length:=by
  intro l
  unfold Pl.q5
  split<;>simp
 have all:∀ t:List Pc,(Pl.q4 (Pl.q2 t).2 (Pl.q3 (Pl.q2 t).1)).length≤t.length:=fun t=>Nat.le_trans (h4 _ _) (Nat.le_trans (h3 _) (h2 _))
 have he:∀ t:List Pc,Pl.q1 (.e::t)= .e::t→qz (.e::t)=Pl.q4 true (Pl.q3 t):=fun t h=>by unfold qz;rw[h];rfl
 unfold qs
 rw[h5]
 cases l with
 |nil=>cases h
 |cons p t=>
  cases p
  case bar=>cases h
  case s=>exact Nat.lt_succ_of_le (all t)
  case en=>exact Nat.lt_succ_of_le (all t)
  case e=>
   cases t with
   |nil=>decide
   |cons p u=>
    cases p
    case s=>exact Nat.lt_succ_of_le (Nat.le_succ_of_le (all u))
    case en=>exact Nat.lt_succ_of_le (Nat.le_succ_of_le (all u))
    all_goals (rw[he _ rfl];exact Nat.lt_succ_of_le (Nat.le_trans (h4 _ _) (h3 _)))
  case heid=>
   refine Nat.lt_succ_of_le (Nat.le_trans (h4 _ _) ?_)
   cases t with
   |nil=>decide
   |cons p u=>cases p<;>first |exact Nat.le_refl _ |exact Nat.le_succ _
  case fin=>
   cases t with
   |nil=>decide
   |cons p u=>cases p<;>first |exact Nat.lt_succ_self _ |(show u.length<u.length+1+1;lia)
  case ing=>
   cases t with
   |nil=>decide
   |cons p u=>cases p<;>first |exact Nat.lt_succ_self _ |(show u.length<u.length+1+1;lia)
  case lijk=>
   cases t with
   |nil=>decide
   |cons p u=>cases p<;>first |exact Nat.lt_succ_self _ |(show u.length<u.length+1+1;lia)
  all_goals exact Nat.lt_succ_self _
theorem qs_stop {l:List Pc} (h:stopP l=true):qs l=l:=by
 cases l with
 |nil=>rfl
 |cons p t=>cases p<;>first |rfl |cases h
theorem pc_pos (p:Pc):1≤(pcR p).length:=by cases p<;>decide
theorem len_le (l:List Pc):l.length≤(fwd l).length:=by
 induction l with
 |nil=>exact Nat.le_refl _
 |cons p t ih=>
  have:=pc_pos p
  rw[Pl.fwd_cons]
  simp
  lia
theorem fwd_nil (l:List Pc):(fwd l==([]:List Nat))=l.isEmpty:=by
 cases l with
 |nil=>rfl
 |cons p t=>
  have:=len_le (p::t)
  cases e:fwd (p::t) with
  |nil=>rw[e] at this;simp at this
  |cons a r=>rfl
theorem qs_fwd_len (l:List Pc) (g:good l=true):(fwd (qs l)).length≤(fwd l).length:=by
 have h:=(left_ok g).2
 have h1:(fwd (qz l)).length≤(fwd l).length:=by rw[←h];simp
 have h2:(fwd (Pl.q5 (qz l))).length≤(fwd (qz l)).length:=by
  unfold Pl.q5
  split
  ·rename_i heq;rw[heq,Pl.fwd_cons,Pl.fwd_cons];simp[pcR]
  ·exact Nat.le_refl _
 exact Nat.le_trans h2 h1
section
variable {at_:At} {ns:List Int} {x1 x2 x3 x4 x5 x6 x7:Option MV}
theorem b544_5_0 {l:List Pc} (g:good l=true) (hl:(fwd l).length≤50):B544_5_0 (L8 ns x1 (some (.set joinF)) x3 (some (.s (.str (fwd l)))) x5 x6 x7) at_=some (.nxt,L8 ns x1 (some (.set joinF)) x3 (some (.s (.str (fwd (qs l))))) x5 x6 x7,at_):=by
 unfold B544_5_0 pk544_5_0
 simp! [run520 g hl]
theorem b544_5_1 {w:List Nat} {at2:At} (h:runBody 2 0 G189 [.self,.s (.str w)] at_=some (.s (.str (stemW w)),at2)):B544_5_1 (L8 ns x1 x2 (some .self) x4 x5 x6 (some (.s (.str w)))) at_=some (.nxt,L8 ns x1 x2 (some .self) x4 x5 x6 (some (.s (.str (stemW w)))),at2):=by
 unfold B544_5_1 pk544_5_1
 simp! [h]
theorem b544_5_2 {r p:List Nat} (h:r.length+p.length≤1000):B544_5_2 (L8 ns x1 x2 x3 (some (.s (.str p))) x5 (some (.s (.str r))) (some (.s (.str (r++p))))) at_=some (.nxt,L8 ns x1 x2 x3 (some (.s (.str p))) x5 (some (.s (.str r))) (some (.s (.str (r++p)))),at_):=by
 unfold B544_5_2 pk544_5_2
 simp! [h]
theorem b544_6 {r p w:List Nat} {at2:At} (hl:r.length+p.length≤1000) (h:runBody 2 0 G189 [.self,.s (.str w)] at_=some (.s (.str (stemW w)),at2)) (e:stemW w=r++p):B544_6 (L8 ns x1 x2 (some .self) (some (.s (.str p))) x5 (some (.s (.str r))) (some (.s (.str w)))) at_=some (.ret (.s (.bool true)),L8 ns x1 x2 (some .self) (some (.s (.str p))) x5 (some (.s (.str r))) (some (.s (.str w))),at2):=by
 unfold B544_6 pk544_6
 simp! [h,e,hl]
theorem b544_5:∃ T:CF,B544_5=loopN 60 T N544_5∧∀ (l:List Pc) (ns:List Int) (x1 x2 x3 x5 x6 x7:Option MV) (at_:At),T (L8 ns x1 x2 x3 (some (.s (.str (fwd l)))) x5 x6 x7) at_=some (!stopP l,at_):=by
 refine⟨_,rfl,fun l ns x1 x2 x3 x5 x6 x7 at_=> ?_⟩
 have h1:=fwd_nil l
 have h2:=bar_end l
 cases l with
 |nil=>simp! [nilS,fwd,flat,stopP]
 |cons p t=>
  have h3:(fwd (p::t)==([]:List Nat))=false:=h1
  have h4:fwd (p::t)≠[]:=by simpa using h3
  cases p<;>simp! [nilS,barS,h2,h4,stopP]
end
theorem pile_loop (ns:List Int) (x1:Option MV) (f0:List Nat) (r:Root) (hr:r.ok=true) (hf0:f0.length≤2) (hfs:∀ x∈f0,x∈signsN) (hsm:∀ x∈signsN,smallN x∈signsN) (hrs:∀ x∈r.l,x∈signsN) (hps:∀ l:List Pc,∀ x∈fwd l,x∈signsN)
  {T:CF} (hT:∀ (l:List Pc) (ns:List Int) (x1 x2 x3 x5 x6 x7:Option MV) (at_:At),T (L8 ns x1 x2 x3 (some (.s (.str (fwd l)))) x5 x6 x7) at_=some (!stopP l,at_)):
  ∀ (m:Nat) (l:List Pc) (n:Nat) (f:List Nat) (a:At) (x5:Option MV),l.length=m→m<n→good l=true→(fwd l).length≤14→f.length=f0.length→(∀ x∈f,x∈signsN)→f.map smallN=f0.map smallN→StAt a→
   ∃ l' f' a',loopN n T N544_5 (L8 ns x1 (some (.set joinF)) (some .self) (some (.s (.str (fwd l)))) x5 (some (.s (.str (f0.map smallN++r.l)))) (some (.s (.str (f++(r.l++fwd l)))))) a=some (.nxt,L8 ns x1 (some (.set joinF)) (some .self) (some (.s (.str (fwd l')))) x5 (some (.s (.str (f0.map smallN++r.l)))) (some (.s (.str (f'++(r.l++fwd l'))))),a')∧StAt a'∧good l'=true∧stopP l'=true∧(fwd l').length≤14∧f'.length=f0.length∧(∀ x∈f',x∈signsN)∧f'.map smallN=f0.map smallN:=by
 intro m
 induction m using Nat.strongRecOn with
 |_ m ih=>
  intro l n f a x5 hm hn g hl hf hfs' hfm ha
  obtain⟨n,rfl⟩:∃ k,n=k+1:=⟨n-1,by lia⟩
  rw[loopN_succ,hT]
  cases hst:stopP l with
  |true=>exact⟨l,f,a,rfl,ha,g,hst,hl,hf,hfs',hfm⟩
  |false=>
   have hlt:=qs_len hst
   have hw:Okw (f++(r.l++fwd l)):=by
    refine⟨fun x hx=> ?_,?_⟩
    ·rcases List.mem_append.mp hx with q |q
     ·exact hfs' x q
     ·rcases List.mem_append.mp q with q |q
      ·exact hrs x q
      ·exact hps l x q
    ·simp[Root.l];lia
   obtain⟨a2,ha2,hrun⟩:=run189 _ hw a ha
   have hst2:=Pl.stem_pile hr f g
   rw[hst2,hfm] at hrun
   have hrun':runBody 2 0 G189 [.self,.s (.str (f++(r.l++fwd l)))] a=some (.s (.str (stemW (f++(r.l++fwd l)))),a2):=by rw[hst2,hfm];exact hrun
   have hlen:=qs_fwd_len l g
   have step:N544_5 (L8 ns x1 (some (.set joinF)) (some .self) (some (.s (.str (fwd l)))) x5 (some (.s (.str (f0.map smallN++r.l)))) (some (.s (.str (f++(r.l++fwd l)))))) a=some (.nxt,L8 ns x1 (some (.set joinF)) (some .self) (some (.s (.str (fwd (qs l))))) x5 (some (.s (.str (f0.map smallN++r.l)))) (some (.s (.str (f0.map smallN++(r.l++fwd (qs l)))))),a2):=by
    show fSeq B544_5_0 _ _ _=_
    rw[sq (b544_5_0 g (by lia)),sq (b544_5_1 hrun'),hst2,hfm,←List.append_assoc,sq (b544_5_2 (by simp[Root.l];lia))]
   simp only[Option.bind_some,Bool.not_false,if_true,step]
   refine ih (qs l).length (by lia) (qs l) n (f0.map smallN) a2 x5 rfl (by lia) (Pl.good_qs g) (by lia) (by simp) (fun x hx=> ?_) ?_ ha2
   ·obtain⟨y,hy,e⟩:=List.mem_map.mp hx
    rw[←e]
    exact hsm y (hfs y hy)
   ·rw[List.map_map]
    apply List.map_congr_left
    intro x _
    exact Pl.smallN_twice x
end
section
open Mine.Pl (Pc pcR flat fwd good joinF qz qs smallN stemW Root)
theorem small_sign:∀ x∈signsN,smallN x∈signsN:=by decide
theorem rootV_sign {x:Nat} (h:Pl.rootV x=true):x∈signsN:=by
 exact Pl.all_dec h (P:=fun x=>x∈signsN) (by decide)
theorem rootK_sign {x:Nat} (h:Pl.rootK x=true):x∈signsN:=by
 exact Pl.all_dec h (P:=fun x=>x∈signsN) (by decide)
theorem rootC_sign {x:Nat} (h:Pl.rootC x=true):x∈signsN:=by
 exact Pl.all_dec h (P:=fun x=>x∈signsN) (by decide)
theorem root_sign {r:Root} (h:r.ok=true):∀ x∈r.l,x∈signsN:=by
 obtain⟨h1,h2,h3,h4⟩:=Pl.Root.parts h
 intro x hx
 have hx:x∈[r.w,r.k,r.v,r.c]:=hx
 simp only[List.mem_cons,List.not_mem_nil,or_false] at hx
 rcases hx with rfl |rfl |rfl |rfl
 ·exact rootV_sign h1
 ·exact rootK_sign h2
 ·exact rootV_sign h3
 ·exact rootC_sign h4
theorem pc_sign:∀ p:Pc,∀ x∈pcR p,x∈signsN:=by
 intro p
 cases p<;>decide
theorem fwd_sign (l:List Pc):∀ x∈fwd l,x∈signsN:=by
 induction l with
 |nil=>intro x hx;cases hx
 |cons p t ih=>
  intro x hx
  rw[Pl.fwd_cons] at hx
  rcases List.mem_append.mp hx with q |q
  ·exact ih x q
  ·exact pc_sign p x (List.mem_reverse.mp q)
theorem gl3 (ns:List Int) (k:Int):GL3 (L8 ns (some (.s (.int k))) none none none none none none) []=some (.nxt,L8 ns (some (.s (.int k))) (some (.set joinF)) none none none none none,[]):=by
 rfl
theorem law_pile (ns:List Int) (h:ns.length≤63) (k:Int):∃ p,GLr (L8 ns (some (.s (.int k))) (some (.set joinF)) (some .self) none none none none) at6=some (.ret (.s (.bool true)),p):=by
 have hg:=pile_good (if k=2 then 14 else 9) (sl ns 1 7)
 have hr:=root_ok (sl ns 7 11)
 have hf:=front_sign (sl ns 11 13)
 have hfl:(frontOf (sl ns 11 13)).length≤2:=by
  have:=sl_len ns 11 13
  unfold frontOf
  simp
  lia
 have h0:=b544_0 (ns:=ns) (at_:=at6) (x2:=some (.set joinF)) (x3:=some .self) (x4:=none) (x5:=none) (x6:=none) (x7:=none) h (k:=k)
 generalize pileOf (if k=2 then 14 else 9) (sl ns 1 7)=l at hg h0
 have hl:(fwd l).length≤14:=by
  have:=hg.2
  split at this<;>lia
 have hf0:=fun at_ x1 x2 x3 x4 x5 x6 x7=>b544_1 (ns:=ns) (at_:=at_) (x1:=x1) (x2:=x2) (x3:=x3) (x4:=x4) (x5:=x5) (x6:=x6) (x7:=x7) h
 have hr0:=fun at_ x1 x2 x3 x4 x5 x6 x7=>b544_2 (ns:=ns) (at_:=at_) (x1:=x1) (x2:=x2) (x3:=x3) (x4:=x4) (x5:=x5) (x6:=x6) (x7:=x7) h
 generalize frontOf (sl ns 11 13)=f at hf hfl hf0
 generalize rootOf (sl ns 7 11)=r at hr hr0
 obtain⟨T,hB,hT⟩:=b544_5
 have hrl:r.l.length=4:=rfl
 obtain⟨l',f',a',hloop,ha',hg',hst',hl',hfl',hfs',hfm'⟩:=pile_loop ns (some (.s (.int k))) f r hr hfl hf small_sign (root_sign hr) fwd_sign hT l.length l 60 f at6 (some (.s (.str f))) rfl (by have:=len_le l;lia) hg.1 hl rfl hf rfl stAt6
 rw[←hB] at hloop
 have hw:Okw (f'++(r.l++fwd l')):=by
  refine⟨fun x hx=> ?_,?_⟩
  ·rcases List.mem_append.mp hx with q |q
   ·exact hfs' x q
   ·rcases List.mem_append.mp q with q |q
    ·exact root_sign hr x q
    ·exact fwd_sign l' x q
  ·simp[Root.l];lia
 obtain⟨a2,ha2,hrun⟩:=run189 _ hw a' ha'
 have hst2:stemW (f'++(r.l++fwd l'))=(f.map smallN++r.l)++fwd l':=by
  rw[Pl.stem_pile hr f' hg',qs_stop hst',hfm',List.append_assoc]
 rw[GLr_eq]
 show ∃ p,fSeq B544_0 _ (L8 ns (some (.s (.int k))) (some (.set joinF)) (some .self) none none none none) _=_
 rw[sq h0,sq (hf0 _ _ _ _ _ _ _ _),sq (hr0 _ _ _ _ _ _ _ _),sq (b544_3 (by lia)),sq (b544_4 (by lia)),sq hloop,sqr (b544_6 (by simp;lia) hrun hst2)]
 exact⟨_,rfl⟩
end
noncomputable def ShortOk:Prop:=∀ ns:List Int,ns.length≤5→FX539 [.list (ns.map .int)]=some (.bool true)
noncomputable def kindOf (ns:List Int):Int:=if ns=[] then 0 else (fourAt ns 0).fmod 4
theorem gl1 (ns:List Int) (h:ns.length≤63):GL1 (locL ns) []=some (.nxt,L8 ns (some (.s (.int (kindOf ns)))) none none none none none none,[]):=by
 have hl:ns.length≤1000000:=by lia
 unfold GL1 pk1 kindOf
 cases ns with
 |nil=>simp! []
 |cons a r=>
  have i1:idxV (.list ((a::r).map .int)) 0=some (.s (.int a)):=by
   have:((a::r).map SV.int).length≤1000000:=by simpa using hl
   show (if (0:Int)≤0∧((a::r).map SV.int).length≤1000000 then _ else none)=_
   rw[if_pos ⟨by decide,this⟩]
   rfl
  have e:fourAt (a::r) 0=a:=rfl
  have i2:idxV (.list (SV.int a::r.map .int)) 0=some (.s (.int a)):=i1
  simp! [i1,i2,e]
theorem glc (ns:List Int) (k:Int):GLc (L8 ns (some (.s (.int k))) none none none none none none) []=some (k==3,[]):=by
 unfold GLc pkc
 simp! []
theorem gla (ns:List Int) (h:ns.length≤63) (k:Int):GLa (L8 ns (some (.s (.int k))) none none none none none none) []=some ([.list ((sl ns 1 6).map .int)],[]):=by
 have hl:ns.length≤1000000:=by lia
 unfold GLa pka
 simp! [hl,slice_16]
theorem lawOk_of (hs:ShortOk):LawOk:=by
 intro ns h
 refine (wit2 ⟨gl1 ns h,glc ns _,?_⟩)
 cases hk:(kindOf ns==3) with
 |true=>exact⟨_,gla ns h _,by rw[hs (sl ns 1 6) (by have:=sl_len ns 1 6;lia)];rfl⟩
 |false=>exact⟨_,gl3 ns _,law_pile ns h _⟩
section
open Mine.Pl (smallN stemW lowN)
noncomputable def sgn (n:Int):Nat:=signsN.getD (n.fmod 42).toNat 0
noncomputable def endsN:List (List Nat):=[[115,115],[101,110],[115,115],[115,101],[101],[115],[101,115],[116,101],[110,115],[105,101],[101,101],[114],[97,110],[111,101]]
noncomputable def shortOf (ns:List Int):List Nat:=(ns.take 3).map sgn++if ns.length<4 then [] else if 41<(fourAt ns 3).fmod 84 then endsN.getD (((fourAt ns 3).fmod 84).fmod 14).toNat [] else ((ns.drop 3).take 2).map sgn
noncomputable def vowL:List (List Nat):=[[97],[101],[105],[111],[117],[121],[232]]
noncomputable def turnsN (w:List Nat):Bool:=match w with
 | [a,b,c,115,115]=>
  let first:=Pl.vowN a&&a !=121
  let second:=Pl.vowN b&& !(first&&(b==121||(b==105&&Pl.vowN c)))
  let third:=(!Pl.vowN c&&c !=106)||(c==121&&second)
  third&&(first||second)
 |_=>false
noncomputable def SayN (w:List Nat):Prop:=if turnsN (w.map smallN)=true then stemW w=(w.map smallN).take 4∧stemW (stemW w)=(w.map smallN).take 3 else stemW (stemW w)=stemW w
theorem okw_low {P:List Nat} (h:Okw P):Okw (P.map lowN):=⟨fun x hx=>by
 obtain⟨y,hy,e⟩:=List.mem_map.mp hx
 rw[←e]
 exact (by decide:∀ y∈signsN,lowN y∈signsN) y (h.1 y hy),by rw[List.length_map];exact h.2⟩
theorem okw_stem {w:List Nat} (h:Okw w):Okw (stemW w):=by
 obtain⟨hP,_⟩:=preW_ok h
 have hR:Okw (Pl.preW w).reverse:=⟨fun x hx=>hP.1 x (List.mem_reverse.mp hx),by rw[List.length_reverse];exact hP.2⟩
 have hS:=ok_steps (p1:=(Pl.regions (Pl.preW w)).1) (p2:=(Pl.regions (Pl.preW w)).2) hR
 exact okw_low ⟨fun x hx=>hS.1 x (List.mem_reverse.mp hx),by rw[List.length_reverse];exact hS.2⟩
theorem endsN_sign:∀ e∈endsN,(∀ x∈e,x∈signsN)∧e.length≤2:=by decide
theorem endsN_get (j:Nat):(∀ x∈endsN.getD j [],x∈signsN)∧(endsN.getD j []).length≤2:=by
 by_cases h:j<endsN.length
 ·have e:endsN.getD j []=endsN[j]:=by simp[h]
  rw[e]
  exact endsN_sign _ (List.getElem_mem h)
 ·have e:endsN.getD j []=[]:=by rw[List.getD_eq_getElem?_getD,List.getElem?_eq_none (by lia)];rfl
  rw[e]
  exact⟨fun x hx=>by (cases hx),by decide⟩
theorem sgn_mem (n:Int):sgn n∈signsN.take 42:=by
 have h:=(str_item (signsN.take 42) n (by decide) (by decide)).2
 have e:((signsN.take 42).length:Int)=42:=rfl
 rw[e] at h
 obtain⟨a,b⟩:=fmod_bd n (k:=42) (by decide)
 have e2:(signsN.take 42).getD (n.fmod 42).toNat 0=sgn n:=by
  unfold sgn
  rw[List.getD_eq_getElem?_getD,List.getD_eq_getElem?_getD,List.getElem?_take_of_lt (by lia)]
 rw[e2] at h
 exact h
theorem sgn_sign (n:Int):sgn n∈signsN:=List.mem_of_mem_take (sgn_mem n)
end
section
open Mine.Pl (smallN stemW lowN)
noncomputable abbrev L5 (a:List Int) (x1 x2 x3 x4:Option MV):Loc:=[some (.list (a.map .int)),x1,x2,x3,x4]
section
variable {at_ at2:At} {ns:List Int} {x1 x2 x3 x4:Option MV} {w s t:List Nat} {b:Bool}
theorem b539_0 (h:runBody 1 4 G525 [.list (ns.map .int)] at_=some (.s (.str w),at_)):B539_0 (L5 ns x1 x2 x3 x4) at_=some (.nxt,L5 ns x1 (some (.s (.str w))) x3 x4,at_):=by
 unfold B539_0 pk539_0
 simp! [h]
theorem b539_1 (h:runBody 2 0 G189 [.self,.s (.str w)] at_=some (.s (.str s),at2)):B539_1 (L5 ns (some .self) (some (.s (.str w))) x3 x4) at_=some (.nxt,L5 ns (some .self) (some (.s (.str w))) (some (.s (.str s))) x4,at2):=by
 unfold B539_1 pk539_1
 simp! [h]
theorem b539_2 (h:runBody 2 0 G189 [.self,.s (.str w)] at_=some (.s (.str s),at2)):B539_2 (L5 ns (some .self) x2 (some (.s (.str w))) x4) at_=some (.nxt,L5 ns (some .self) x2 (some (.s (.str w))) (some (.s (.str s))),at2):=by
 unfold B539_2 pk539_2
 simp! [h]
theorem b539_3 (h:w.length≤1000):B539_3 (L5 ns x1 (some (.s (.str w))) x3 x4) at_=some (.nxt,L5 ns x1 (some (.s (.str (w.map smallN)))) x3 x4,at_):=by
 unfold B539_3 pk539_3
 simp! [run496 w h]
theorem head_n (t:List Nat) (k:Nat):sliceL t none (some (k:Int))=t.take k:=by
 unfold sliceL
 rw[clip_at]
 show (t.drop 0).take (min k t.length-0)=_
 rw[List.drop_zero,Nat.sub_zero]
 rcases Nat.le_total k t.length with h |h
 ·rw[Nat.min_eq_left h]
 ·rw[Nat.min_eq_right h,List.take_of_length_le (Nat.le_refl _),List.take_of_length_le h]
theorem b539_4y (hl:t.length≤1000) (h:runBody 1 5 G532 [.s (.str t)] at_=some (.s (.bool true),at_)):B539_4 (L5 ns x1 (some (.s (.str t))) (some (.s (.str (t.take 4)))) (some (.s (.str (t.take 3))))) at_=some (.ret (.s (.bool true)),L5 ns x1 (some (.s (.str t))) (some (.s (.str (t.take 4)))) (some (.s (.str (t.take 3)))),at_):=by
 have h1:sliceL t none (some 4)=t.take 4:=head_n t 4
 have h2:sliceL t none (some 3)=t.take 3:=head_n t 3
 unfold B539_4 pk539_4
 simp! [h,hl,h1,h2]
theorem b539_4n (h:runBody 1 5 G532 [.s (.str t)] at_=some (.s (.bool false),at_)):B539_4 (L5 ns x1 (some (.s (.str t))) x3 x4) at_=some (.nxt,L5 ns x1 (some (.s (.str t))) x3 x4,at_):=by
 unfold B539_4 pk539_4
 simp! [h]
theorem b539_5:B539_5 (L5 ns x1 x2 (some (.s (.str s))) (some (.s (.str s)))) at_=some (.ret (.s (.bool true)),L5 ns x1 x2 (some (.s (.str s))) (some (.s (.str s))),at_):=by
 unfold B539_5 pk539_5
 simp! []
end
theorem shortOk_of (h525:∀ (ns:List Int) (at_:At),ns.length≤5→runBody 1 4 G525 [.list (ns.map .int)] at_=some (.s (.str (shortOf ns)),at_)) (h532:∀ (t:List Nat) (at_:At),t.length≤5→runBody 1 5 G532 [.s (.str t)] at_=some (.s (.bool (turnsN t)),at_))
  (hw:∀ ns:List Int,ns.length≤5→Okw (shortOf ns)∧(shortOf ns).length≤5) (hsay:∀ ns:List Int,ns.length≤5→SayN (shortOf ns)):ShortOk:=by
 intro ns hn
 obtain⟨h1,h2⟩:=hw ns hn
 have hs:=hsay ns hn
 have g1:=fun at_=>h525 ns at_ hn
 generalize shortOf ns=w at h1 h2 hs g1
 obtain⟨a1,ha1,r1⟩:=run189 w h1 at6 stAt6
 obtain⟨a2,ha2,r2⟩:=run189 (stemW w) (okw_stem h1) a1 ha1
 have g2:=fun at_=>h532 (w.map smallN) at_ (by simpa using h2)
 have e:(([MV.list (ns.map .int)].map some++List.replicate 4 none).set 1 (some .self):Loc)=L5 ns (some .self) none none none:=rfl
 have key:∃ p,G539 (L5 ns (some .self) none none none) at6=some (.ret (.s (.bool true)),p):=by
  rw[G539_eq,sq (b539_0 (g1 _)),sq (b539_1 r1),sq (b539_2 r2),sq (b539_3 (by lia))]
  unfold SayN at hs
  cases ht:turnsN (w.map smallN) with
  |true=>
   rw[ht,if_pos rfl] at hs
   rw[hs.2,hs.1,sqr (b539_4y (by simp;lia) (by rw[g2,ht]))]
   exact⟨_,rfl⟩
  |false=>
   rw[ht] at hs
   have hs:stemW (stemW w)=stemW w:=hs
   rw[hs,sq (b539_4n (by rw[g2,ht])),sqr b539_5]
   exact⟨_,rfl⟩
 obtain⟨p,hp⟩:=key
 unfold FX539
 rw[e,hp]
 rfl
end
section
open Mine.Pl (smallN stemW lowN)
noncomputable abbrev M4 (a:List Int) (x1 x2 x3:Option MV):Loc:=[some (.list (a.map .int)),x1,x2,x3,none]
theorem slice_03 (ns:List Int):sliceX (ns.map .int) none (some 3)=(ns.take 3).map .int:=by
 have:=slice_X ns 0 3
 have e:sliceX (ns.map SV.int) none (some ((3:Nat):Int))=sliceX (ns.map SV.int) (some ((0:Nat):Int)) (some ((3:Nat):Int)):=by
  unfold sliceX
  rw[clip_at,clip_at]
  show _=((ns.map SV.int).drop (min 0 (ns.map SV.int).length)).take _
  rw[Nat.zero_min]
  rfl
 exact e.trans this
theorem slice_35 (ns:List Int):sliceX (ns.map .int) (some 3) (some 5)=((ns.drop 3).take 2).map .int:=slice_X ns 3 5
theorem sgn_item (n:Int):idxV (.s (.str signsN)) (n.fmod 42)=some (.s (.str [sgn n])):=by
 obtain⟨a,b⟩:=fmod_bd n (k:=42) (by decide)
 have h:=(str_item signsN (n.fmod 42) (by decide) (by decide)).1
 have e:(n.fmod 42).fmod (signsN.length:Int)=n.fmod 42:=by
  have:(signsN.length:Int)=44:=rfl
  rw[this,Int.fmod_eq_emod_of_nonneg _ (by decide)]
  lia
 rw[e] at h
 exact h
theorem flat_sgn (l:List Int):(l.map fun n=>[sgn n]).flatten=l.map sgn:=by
 induction l with
 |nil=>rfl
 |cons a r ih=>simp[ih]
theorem ends_item (m:Int) (h1:0≤m) (h2:m<14):idxV (.list (endsN.map .str)) m=some (.s (.str (endsN.getD m.toNat []))):=by
 exact nat_of (n:=14) h1 h2 (P:=fun m=>idxV (.list (endsN.map .str)) m=some (.s (.str (endsN.getD m.toNat [])))) (below 14 ⟨⟨⟨⟨⟨⟨⟨⟨⟨⟨⟨⟨⟨⟨trivial,rfl⟩,rfl⟩,rfl⟩,rfl⟩,rfl⟩,rfl⟩,rfl⟩,rfl⟩,rfl⟩,rfl⟩,rfl⟩,rfl⟩,rfl⟩,rfl⟩)
section
variable {at_:At} {ns:List Int} {x1 x2 x3:Option MV}
theorem b525_0 (h:ns.length≤5):B525_0 (M4 ns x1 x2 x3) at_=some (.nxt,M4 ns (some (.s (.str ((ns.take 3).map sgn)))) x2 x3,at_):=by
 have hl:ns.length≤1000000:=by lia
 unfold B525_0 pk525_0
 show Option.map _ (Option.bind (some _) fun p=>Option.bind (fComp _ _ _ _ _ _) _)=_
 simp only[Option.bind_some]
 rw[comp_ok (l:=ns.take 3) (g:=fun n:Int=>SV.int n) (f:=fun n:Int=>SV.str [sgn n]) (by simp! [hl,slice_03]) (by rfl) (by simp;lia) ?h]
 case h=>
  intro n hn
  unfold eltV
  simp! [cloc,signs_eq,sgn_item]
 ·have e:strsOf ((ns.take 3).map fun n:Int=>.str [sgn n])=some ((ns.take 3).map fun n=>[sgn n]):=strsOf_map (fun n:Int=>[sgn n]) _
  have e3:((ns.take 3).map sgn).length≤1000:=by simp;lia
  simp only[nilS,Option.bind_some,e,flat_sgn,e3,if_true]
  rfl
theorem b525_1y {v:MV} (h:ns.length<4):B525_1 (M4 ns (some v) x2 x3) at_=some (.ret v,M4 ns (some v) x2 x3,at_):=by
 have hl:ns.length≤1000000:=by lia
 have h':(ns.length:Int)<4:=by lia
 unfold B525_1 pk525_1
 simp! [opLen,hl,h']
theorem b525_1n {v:MV} (h:¬ns.length<4) (hl:ns.length≤1000000):B525_1 (M4 ns (some v) x2 x3) at_=some (.nxt,M4 ns (some v) x2 x3,at_):=by
 have h':¬(ns.length:Int)<4:=by lia
 unfold B525_1 pk525_1
 simp! [opLen,hl,h']
theorem b525_2 (h:¬ns.length<4) (hl:ns.length≤1000000):B525_2 (M4 ns x1 x2 x3) at_=some (.nxt,M4 ns x1 (some (.s (.int ((fourAt ns 3).fmod 84)))) x3,at_):=by
 have i1:idxV (.list (ns.map .int)) 3=some (.s (.int (fourAt ns 3))):=by
  have:(ns.map SV.int).length≤1000000:=by simpa using hl
  show (if (0:Int)≤3∧(ns.map SV.int).length≤1000000 then _ else none)=_
  rw[if_pos ⟨by decide,this⟩]
  have h3:3<ns.length:=by lia
  show Option.map MV.s ((ns.map SV.int)[3]?)=_
  simp[fourAt,h3]
 unfold B525_2 pk525_2
 simp! [i1]
end
end
section
open Mine.Pl (smallN stemW lowN)
section
variable {at_:At} {ns:List Int} {x1 x2 x3:Option MV}
theorem run477' (at_:At):runBody 0 0 G477 [] at_=some (.list (endsN.map .str),at_):=run477 at_
theorem b525_3s:∃ (FC:CF) (FI FJ:EF),B525_3=(fun loc at_=>(fBin .Add (fun loc at_=>(getLoc loc 1).map fun x=>(x,at_)) (fIf FC FI FJ) loc at_).map fun p=>(.ret p.1,loc,p.2))∧
  (∀ (ns:List Int) (x1 x3:Option MV) (k:Int) (at_:At),FC (M4 ns x1 (some (.s (.int k))) x3) at_=some (decide (41<k),at_))∧
  (∀ (ns:List Int) (x1 x3:Option MV) (k:Int) (at_:At),FI (M4 ns x1 (some (.s (.int k))) x3) at_=some (.s (.str (endsN.getD (k.fmod 14).toNat [])),at_))∧
  (∀ (ns:List Int) (x1 x2 x3:Option MV) (at_:At),ns.length≤5→FJ (M4 ns x1 x2 x3) at_=some (.s (.str (((ns.drop 3).take 2).map sgn)),at_)):=by
 unfold B525_3 pk525_3
 refine (wit3 ⟨rfl,fun ns x1 x3 k at_=> ?_,fun ns x1 x3 k at_=> ?_,fun ns x1 x2 x3 at_ h=> ?_⟩)
 ·simp! []
 ·obtain⟨a,b⟩:=fmod_bd k (k:=14) (by decide)
  have hi:idxV (.list (endsN.map .str)) (k.fmod 14)=_:=ends_item _ a b
  generalize endsN.getD (k.fmod 14).toNat []=E at hi
  have r:=run477' at_
  generalize endsN=EE at hi r
  simp! [r,hi]
 ·have hl':ns.length≤1000000:=by lia
  show Option.bind (some _) (fun p=>Option.bind (fComp _ _ _ _ _ _) _)=_
  simp only[Option.bind_some]
  rw[comp_ok (l:=(ns.drop 3).take 2) (g:=fun n:Int=>SV.int n) (f:=fun n:Int=>SV.str [sgn n]) (by simp! [hl',slice_35]) (by rfl) (by simp;lia) ?h]
  case h=>
   intro n hn
   unfold eltV
   simp! [cloc,signs_eq,sgn_item]
  ·have e:strsOf (((ns.drop 3).take 2).map fun n:Int=>.str [sgn n])=some (((ns.drop 3).take 2).map fun n=>[sgn n]):=strsOf_map (fun n:Int=>[sgn n]) _
   have e3:(((ns.drop 3).take 2).map sgn).length≤1000:=by simp;lia
   simp only[nilS,Option.bind_some,e,flat_sgn,e3,if_true]
theorem b525_3 {w:List Nat} {k:Int} (hw:w.length≤500) (hl:ns.length≤5):B525_3 (M4 ns (some (.s (.str w))) (some (.s (.int k))) x3) at_=some (.ret (.s (.str (w++if 41<k then endsN.getD (k.fmod 14).toNat [] else ((ns.drop 3).take 2).map sgn))),M4 ns (some (.s (.str w))) (some (.s (.int k))) x3,at_):=by
 obtain⟨FC,FI,FJ,e,h1,h2,h3⟩:=b525_3s
 rw[e]
 have he:w.length+(endsN.getD (k.fmod 14).toNat []).length≤1000:=by have:=(endsN_get (k.fmod 14).toNat).2;lia
 have he2:w.length+(((ns.drop 3).take 2).map sgn).length≤1000:=by simp;lia
 have h3':=h3 ns (some (.s (.str w))) (some (.s (.int k))) x3 at_ hl
 have h2':=h2 ns (some (.s (.str w))) x3 k at_
 have h1':=h1 ns (some (.s (.str w))) x3 k at_
 generalize endsN.getD (k.fmod 14).toNat []=E at he h2'
 generalize ((ns.drop 3).take 2).map sgn=E2 at he2 h3'
 by_cases g:41<k
 ·rw[if_pos g]
  rw[decide_eq_true g] at h1'
  simp! [h1',h2',he]
 ·rw[if_neg g]
  rw[decide_eq_false g] at h1'
  simp! [h1',h3',he2]
end
theorem run525 (ns:List Int) (at_:At) (h:ns.length≤5):runBody 1 4 G525 [.list (ns.map .int)] at_=some (.s (.str (shortOf ns)),at_):=by
 have hl:ns.length≤1000000:=by lia
 rw[rb (by rfl),G525_eq]
 show (fSeq B525_0 _ (M4 ns none none none) _).bind _=_
 unfold shortOf
 rw[sq (b525_0 h)]
 by_cases g:ns.length<4
 ·rw[sqr (b525_1y g),if_pos g,List.append_nil]
  rfl
 ·rw[sq (b525_1n g hl),sq (b525_2 g hl),sqr (b525_3 (by simp;lia) h),if_neg g]
  rfl
theorem short_ok (ns:List Int) (h:ns.length≤5):Okw (shortOf ns)∧(shortOf ns).length≤5:=by
 have key:(∀ x∈shortOf ns,x∈signsN)∧(shortOf ns).length≤5:=by
  have hm:∀ (l:List Int),∀ x∈l.map sgn,x∈signsN:=by
   intro l x hx
   obtain⟨n,_,rfl⟩:=List.mem_map.mp hx
   exact sgn_sign n
  have tail:∀ T:List Nat,(∀ x∈T,x∈signsN)→T.length≤2→(∀ x∈(ns.take 3).map sgn++T,x∈signsN)∧((ns.take 3).map sgn++T).length≤5:=by
   intro T h1 h2
   refine⟨fun x hx=> ?_,by simp;lia⟩
   rcases List.mem_append.mp hx with q |q
   ·exact hm _ x q
   ·exact h1 x q
  unfold shortOf
  refine tail _ ?_ ?_
  ·split
   ·intro x hx;cases hx
   ·split
    ·exact (endsN_get _).1
    ·exact hm _
  ·split
   ·decide
   ·split
    ·exact (endsN_get _).2
    ·simp;lia
 exact⟨⟨key.1,by lia⟩,key.2⟩
end
section
open Mine.Pl (smallN stemW lowN vowN)
noncomputable abbrev W6 (t:List Nat) (x1 x2 x3:Option MV):Loc:=[some (.s (.str t)),x1,x2,x3,none,none]
theorem vow_in (a:Nat):vowL.contains [a]=vowN a:=by
 rw[Bool.eq_iff_iff,List.contains_iff_mem]
 simp[vowL,vowN,or_assoc]
theorem ne1 (a n:Nat):(([a]:List Nat)!=[n])=(a !=n):=by
 rw[Bool.eq_iff_iff]
 simp
theorem eq1 (a n:Nat):(([a]:List Nat)==[n])=(a==n):=by
 rw[Bool.eq_iff_iff]
 simp
theorem run491' (at_:At):runBody 0 0 G491 [] at_=some (.list (vowL.map .str),at_):=run491 at_
theorem ssS:(Str.ofString "ss").cps.toList=[115,115]:=by kernel_rfl
theorem yS:(Str.ofString "y").cps.toList=[121]:=by kernel_rfl
theorem iS:(Str.ofString "i").cps.toList=[105]:=by kernel_rfl
theorem jS:(Str.ofString "j").cps.toList=[106]:=by kernel_rfl
theorem strsOf_str (l:List (List Nat)):strsOf (l.map .str)=some l:=by
 have:=strsOf_map (fun x:List Nat=>x) l
 simpa using this
section
variable {at_:At} {t:List Nat} {x1 x2 x3:Option MV} {a b c:Nat} {f s h:Bool}
theorem b532_0 (hl:t.length≤1000):B532_0 (W6 t x1 x2 x3) at_=if t.length=5∧endsL t [115,115]=true then some (.nxt,W6 t x1 x2 x3,at_) else some (.ret (.s (.bool false)),W6 t x1 x2 x3,at_):=by
 unfold B532_0 pk532_0
 by_cases g:t.length=5
 ·have g':(t.length:Int)=5:=by lia
  cases q:endsL t [115,115]<;>simp! [opLen,hl,g,g',ssS,q]
 ·have g':¬(t.length:Int)=5:=by lia
  have g2:((t.length:Int)!=5)=true:=by simpa using g'
  simp! [opLen,hl,g,g',g2]
noncomputable abbrev w5 (a b c:Nat):List Nat:=[a,b,c,115,115]
theorem i0:idxV (.s (.str (w5 a b c))) 0=some (.s (.str [a])):=rfl
theorem i1:idxV (.s (.str (w5 a b c))) 1=some (.s (.str [b])):=rfl
theorem i2:idxV (.s (.str (w5 a b c))) 2=some (.s (.str [c])):=rfl
theorem b532_1:B532_1 (W6 (w5 a b c) x1 x2 x3) at_=some (.nxt,W6 (w5 a b c) (some (.s (.bool (vowN a&&a !=121)))) x2 x3,at_):=by
 have r:=run491' at_
 have v:=vow_in a
 generalize vowL=V at r v
 unfold B532_1 pk532_1
 cases q:vowN a<;>simp! [i0,r,strsOf_str,v,q,yS,ne1]
noncomputable def secondN (a b c:Nat):Bool:=vowN b&& !((vowN a&&a !=121)&&(b==121||(b==105&&vowN c)))
noncomputable def thirdN (b c:Nat) (s:Bool):Bool:=(!vowN c&&c !=106)||(c==121&&s)
theorem b532_2:B532_2 (W6 (w5 a b c) (some (.s (.bool f))) x2 x3) at_=some (.nxt,W6 (w5 a b c) (some (.s (.bool f))) (some (.s (.bool (vowN b&& !(f&&(b==121||(b==105&&vowN c))))))) x3,at_):=by
 have r:=run491' at_
 have v:=vow_in b
 have v2:=vow_in c
 generalize vowL=V at r v v2
 unfold B532_2 pk532_2
 cases q:vowN b<;>cases q2:vowN c<;>cases f<;>cases q3:(b==121)<;>cases q4:(b==105)<;>simp! [i1,i2,r,strsOf_str,v,v2,q,q2,yS,iS,eq1,q3,q4]
theorem b532_3:B532_3 (W6 (w5 a b c) (some (.s (.bool f))) (some (.s (.bool s))) x3) at_=some (.nxt,W6 (w5 a b c) (some (.s (.bool f))) (some (.s (.bool s))) (some (.s (.bool (thirdN b c s)))),at_):=by
 have r:=run491' at_
 have v2:=vow_in c
 generalize vowL=V at r v2
 unfold B532_3 pk532_3 thirdN
 cases q2:vowN c<;>cases q3:(c !=106)<;>cases q4:(c==121)<;>simp! [i2,r,strsOf_str,v2,q2,yS,jS,eq1,ne1,q3,q4]
theorem b532_4:B532_4 (W6 t (some (.s (.bool f))) (some (.s (.bool s))) (some (.s (.bool h)))) at_=some (.ret (.s (.bool (h&&(f||s)))),W6 t (some (.s (.bool f))) (some (.s (.bool s))) (some (.s (.bool h))),at_):=by
 unfold B532_4 pk532_4
 cases f<;>cases h<;>simp! []
end
theorem run532 (t:List Nat) (at_:At) (hl:t.length≤5):runBody 1 5 G532 [.s (.str t)] at_=some (.s (.bool (turnsN t)),at_):=by
 rw[rb (by rfl),G532_eq]
 show (fSeq B532_0 _ (W6 t none none none) _).bind _=_
 by_cases g:t.length=5∧endsL t [115,115]=true
 ·have h0:=b532_0 (at_:=at_) (t:=t) (x1:=none) (x2:=none) (x3:=none) (by lia)
  rw[if_pos g] at h0
  obtain⟨a,b,c,rfl⟩:∃ a b c,t=w5 a b c:=by
   match t,g with
   | [a,b,c,d,e],g=>
    have h2:=g.2
    unfold endsL at h2
    simp[List.isSuffixOf,List.isPrefixOf] at h2
    obtain⟨h3,h4⟩:=h2
    subst h3
    subst h4
    exact⟨a,b,c,rfl⟩
  rw[sq h0,sq b532_1,sq b532_2,sq b532_3,sqr b532_4]
  rfl
 ·have h0:=b532_0 (at_:=at_) (t:=t) (x1:=none) (x2:=none) (x3:=none) (by lia)
  rw[if_neg g] at h0
  rw[sqr h0]
  have:turnsN t=false:=by
   unfold turnsN
   split
   ·exact absurd ⟨rfl,rfl⟩ g
   ·rfl
  rw[this]
  rfl
end
theorem lawOk_say (hsay:∀ ns:List Int,ns.length≤5→SayN (shortOf ns)):LawOk:=
 lawOk_of (shortOk_of (fun ns at_ h=>run525 ns at_ h) (fun t at_ h=>run532 t at_ h) short_ok hsay)
namespace Pl
theorem vc_ge (P:List Nat):∀ (b:Bool) (i j:Nat) (y:List Nat),vcEnd b i P=some (j,y)→(if b then i+1 else i+2)≤j∧j+y.length=i+P.length:=by
 induction P with
 |nil=>intro b i j y h;cases b<;>injection h
 |cons x r ih=>
  intro b i j y h
  cases b with
  |false=>
   have h:vcEnd (vowN x) (i+1) r=some (j,y):=h
   have:=ih _ _ _ _ h
   cases hv:vowN x<;>rw[hv] at this<;>simp at this ⊢ <;>lia
  |true=>
   have h:(if vowN x then vcEnd true (i+1) r else some (i+1,r))=some (j,y):=h
   cases hv:vowN x with
   |true=>
    rw[hv,if_pos rfl] at h
    have:=ih _ _ _ _ h
    simp at this ⊢
    lia
   |false=>
    rw[hv] at h
    injection h
    simp
    lia
theorem reg_ge (P:List Nat):((regions P).1=P.length∨3≤(regions P).1)∧((regions P).2=P.length∨4≤(regions P).2):=by
 unfold regions
 split
 ·exact⟨.inl rfl,.inl rfl⟩
 ·cases h:vcEnd false 0 P with
  |none=>exact⟨.inl rfl,.inl rfl⟩
  |some q=>
   obtain⟨i,r⟩:=q
   have h1:=vc_ge P _ _ _ _ h
   dsimp only
   refine⟨.inr (by lia),?_⟩
   cases h2:vcEnd false i r with
   |none=>exact .inl rfl
   |some q2=>
    obtain⟨j,y⟩:=q2
    have h3:=vc_ge r _ _ _ _ h2
    simp at h1 h3
    exact .inr (by show 4≤j;lia)
end Pl
namespace Pl
theorem st3_id {p1 p2:Nat} {q:List Nat} (h:q.length≤5) (hp:q.length≤p2∨4≤p2):st3 p1 p2 q=q:=by
 refine pick_row (M:=(· =q)) (fun t e=> ?_) fun _=>rfl
 have hl:=congrArg List.length e
 rw[List.length_append] at hl
 show (if decide (p2≤t.length)&&_ then _ else q)=q
 rw[decide_eq_false (by simp at hl;lia)]
 rfl
theorem st4_id {p1 p2:Nat} {ef:Bool} {q:List Nat} (h:q.length≤5) (hp:q.length≤p2∨4≤p2):st4 p1 p2 ef q=q:=by
 refine pick_all (M:=(· =q)) (fun p hm t e=> ?_) rfl
 have hl:=congrArg List.length e
 have hs:∀ p∈rs4,2≤p.1.length:=by decide
 have hs:=hs p hm
 rw[List.length_append] at hl
 have np:¬p2≤t.length:=by lia
 simp[act4,np]
theorem undR_or (t:List Nat):undR t=t∨(undR t).length+1=t.length:=by
 refine pick_all (M:=fun q=>q=t∨q.length+1=t.length) (fun p hm u e=> ?_) (.inl rfl)
 cases t with
 |nil=>exact .inl rfl
 |cons x t=>exact .inr rfl
theorem undR_len (t:List Nat):(undR t).length≤t.length:=by
 rcases undR_or t with h |h
 ·rw[h];exact Nat.le_refl _
 ·lia
theorem eR_len (p1:Nat) (r:List Nat):(eR p1 r).1.length≤r.length:=by
 cases r with
 |nil=>exact Nat.le_refl _
 |cons x t=>
  by_cases hx:x=101
  ·subst hx
   show ((if _ then _ else _:List Nat×Bool)).1.length≤_
   split
   ·exact Nat.le_succ_of_le (undR_len t)
   ·exact Nat.le_refl _
  ·rw[eR_not hx]
   exact Nat.le_refl _
end Pl
namespace Pl
theorem enR_no {p1:Nat} {t:List Nat} (h:¬p1≤t.length):enR p1 t=none:=by
 unfold enR
 rw[decide_eq_false h]
 rfl
theorem st1_ind {M:List Nat→Prop} {p1:Nat} {r:List Nat} (en:∀ s t,2≤s.length∧s.head? ≠some 115∧s.take 2≠[101,115]→r=s++t→M ((enR p1 t).getD r)) (es:∀ t,r=101::115::t→M (if decide (p1≤t.length)&&hd (fun x=> !vowJN x) t then t else r)) (ed:∀ t,r=[110,101,100,101,104]++t→M (if p1≤t.length then 100::105::101::104::t else r))
  (ss:∀ t,r=115::t→M (if decide (p1≤t.length)&&hd (fun x=> !vowJN x) t then t else r)) (no:(∀ t,r≠101::115::t)→(∀ t,r≠115::t)→M r):M (st1 p1 r):=by
 refine pick_row (en _ · (by decide)) fun _=>pick_row es fun g=>pick_row ed fun _=>pick_row (en _ · (by decide)) fun _=>pick_row ss fun g'=>no ?_ ?_
 ·rintro t rfl
  cases g
 ·rintro t rfl
  cases g'
theorem st1_short {p1:Nat} {r:List Nat} (h:r.length≤3) (hp:r.length≤p1):st1 p1 r=r:=by
 refine st1_ind (M:=(· =r)) (fun s t hs e=> ?_) (fun t e=> ?_) (fun t e=> ?_) (fun t e=> ?_) fun _ _=>rfl
 ·have hl:=congrArg List.length e
  rw[List.length_append] at hl
  rw[enR_no (by lia)]
  rfl
 ·have hl:r.length=t.length+2:=congrArg List.length e
  rw[decide_eq_false (by lia)]
  rfl
 ·have hl:=congrArg List.length e
  simp at hl
  lia
 ·have hl:r.length=t.length+1:=congrArg List.length e
  rw[decide_eq_false (by lia)]
  rfl
theorem eR_short {p1:Nat} {r:List Nat} (hp:r.length≤p1):eR p1 r=(r,false):=by
 cases r with
 |nil=>rfl
 |cons x t=>
  by_cases hx:x=101
  ·subst hx
   have:¬p1≤t.length:=by simp at hp;lia
   show (if decide (p1≤t.length)&&_ then _ else _)=_
   rw[decide_eq_false this]
   rfl
  ·exact eR_not hx
theorem st5_short {r:List Nat} (h:r.length≤3):st5 r=r:=by
 unfold st5
 split
 ·rename_i c v v' u
  cases u with
  |nil=>simp[hd]
  |cons a b=>simp at h
 ·rfl
theorem preW_len (w:List Nat):(preW w).length=w.length:=by
 have h:=congrArg List.length (markW_low (w.map bareN))
 simpa[preW] using h
theorem stem_short {w:List Nat} (h:w.length≤3):stemW w=w.map smallN:=by
 have hl:(preW w).reverse.length=w.length:=by rw[List.length_reverse,preW_len]
 obtain⟨h1,h2⟩:=reg_ge (preW w)
 rw[preW_len] at h1 h2
 show ((st5 (st4 _ _ (eR _ (st1 _ (preW w).reverse)).2 (st3 _ _ (eR _ (st1 _ (preW w).reverse)).1))).reverse).map lowN=_
 rw[st1_short (by lia) (by lia),eR_short (by lia)]
 dsimp only
 rw[st3_id (by lia) (by lia),st4_id (by lia) (by lia),st5_short (by lia),List.reverse_reverse]
 unfold preW
 rw[markW_low,List.map_map]
 rfl
end Pl
namespace Pl
theorem stem_five {w:List Nat} (h:w.length≤5):stemW w=((st5 (eR (regions (preW w)).1 (st1 (regions (preW w)).1 (preW w).reverse)).1).reverse).map lowN:=by
 have hl:(preW w).reverse.length=w.length:=by rw[List.length_reverse,preW_len]
 obtain⟨h1,h2⟩:=reg_ge (preW w)
 rw[preW_len] at h1 h2
 have st1l:∀ p r,(st1 p r).length≤r.length:=by
  intro p r
  have en:∀ (t r':List Nat),t.length≤r'.length→((enR p t).getD r').length≤r'.length:=by
   intro t r' ht
   unfold enR
   split
   ·have:=undR_len t;simp;lia
   ·exact Nat.le_refl _
  refine st1_ind (M:=fun q=>q.length≤r.length) (fun s t _ e=>en _ _ (by rw[e];simp)) (fun t e=> ?_) (fun t e=> ?_) (fun t e=> ?_) fun _ _=>Nat.le_refl _
  ·split<;>simp[e]<;>lia
  ·split<;>simp[e]<;>lia
  ·split<;>simp[e]
 have e1:=st1l (regions (preW w)).1 (preW w).reverse
 have e2:=eR_len (regions (preW w)).1 (st1 (regions (preW w)).1 (preW w).reverse)
 show ((st5 (st4 _ _ (eR _ (st1 _ (preW w).reverse)).2 (st3 _ _ (eR _ (st1 _ (preW w).reverse)).1))).reverse).map lowN=_
 rw[st3_id (by lia) (by lia),st4_id (by lia) (by lia)]
end Pl
namespace Pl
theorem nv_iy {z:Nat} (hz:vowN z=false):(z==105)=false∧(z==121)=false:=by
 unfold vowN at hz
 simp at hz
 simp[hz]
theorem mkf_snoc {z:Nat} (hz:vowN z=false) (l:List Nat):∀ b,mkf b (l++[z])=mkf b l++[z]:=by
 obtain⟨z1,z2⟩:=nv_iy hz
 induction l with
 |nil=>
  intro b
  cases b
  ·rw[List.nil_append,mkf_ff];cases vowN z<;>rfl
  ·rw[List.nil_append,mkf_tt,z1,z2,hz];rfl
 |cons x r ih=>
  intro b
  have hn:nxV (r++[z])=nxV r:=by
   cases r with
   |nil=>exact hz
   |cons y t=>rfl
  rw[List.cons_append]
  cases b
  ·rw[mkf_ff,mkf_ff,ih];rfl
  ·rw[mkf_tt,mkf_tt,hn,ih,ih]
   split
   ·rfl
   ·split<;>rfl
theorem markW_snoc {z:Nat} (hz:vowN z=false) (l:List Nat):l≠[]→markW (l++[z])=markW l++[z]:=by
 intro h
 cases l with
 |nil=>exact absurd rfl h
 |cons x r=>
  show (if (x==121)=true then 89::mkf false (r++[z]) else mkf false (x::r++[z]))=(if (x==121)=true then 89::mkf false r else mkf false (x::r))++[z]
  rw[mkf_snoc hz,mkf_snoc hz]
  split<;>rfl
end Pl
namespace Pl
noncomputable def stF (p1:Nat) (r:List Nat):List Nat:=st5 (eR p1 (st1 p1 r)).1
noncomputable def p1W (P:List Nat):Nat:=(regions P).1
noncomputable def stS (u:List Nat):List Nat:=((stF (p1W (markW u)) (markW u).reverse).reverse).map lowN
theorem stem_S {w:List Nat} (h:w.length≤5):stemW w=stS (w.map bareN):=by
 rw[stem_five h]
 rfl
end Pl
namespace Pl
noncomputable def sR (p1:Nat) (r:List Nat):List Nat:=match r with
 | []=>[]
 |x::t=>if x=115 then (if decide (p1≤t.length)&&hd (fun x=> !vowJN x) t then t else x::t) else x::t
theorem sR_no {p1 x:Nat} {t:List Nat} (h:x≠115):sR p1 (x::t)=x::t:=by
 show (if x=115 then _ else _)=_
 rw[if_neg h]
theorem st1_four {p1:Nat} {r:List Nat} (h:r.length=4) (hp:3≤p1):st1 p1 r=sR p1 r:=by
 refine st1_ind (M:=(· =sR p1 r)) (fun s t hs e=> ?_) (fun t e=> ?_) (fun t e=> ?_) (fun t e=> ?_) fun _ n=> ?_
 ·have hl:=congrArg List.length e
  rw[List.length_append] at hl
  rw[enR_no (by lia),e]
  cases s with
  |nil=>exact absurd hs.1 (by decide)
  |cons x s=>exact (sR_no fun q=>hs.2.1 (congrArg some q)).symm
 ·have hl:r.length=t.length+2:=congrArg List.length e
  rw[decide_eq_false (by lia),e]
  rfl
 ·have hl:=congrArg List.length e
  simp at hl
  lia
 ·rw[e]
  rfl
 ·cases r with
  |nil=>rfl
  |cons x t=>exact (sR_no fun q=>n t (by rw[q])).symm
end Pl
namespace Pl
theorem undR_len3 {C B A:Nat}:(undR [C,B,A]).length≤3:=undR_len _
theorem stF_four {p1 A B C D:Nat} (hp:3≤p1):stF p1 [D,C,B,A]=if D=115∧p1=3∧vowJN C=false then [C,B,A] else if D=101∧p1=3∧vowN C=false then undR [C,B,A] else st5 [D,C,B,A]:=by
 unfold stF
 rw[st1_four rfl hp]
 by_cases h1:D=115
 ·subst h1
  show st5 (eR p1 (if decide (p1≤3)&& !vowJN C then [C,B,A] else [115,C,B,A])).1=_
  by_cases h2:p1=3
  ·subst h2
   cases h3:vowJN C with
   |false=>
    show st5 (eR 3 [C,B,A]).1=_
    rw[eR_short (r:=[C,B,A]) (Nat.le_refl 3)]
    simp[st5_short]
   |true=>simp[eR]
  ·have:¬p1≤3:=by lia
   simp[this,h2,eR]
 ·have e:sR p1 [D,C,B,A]=[D,C,B,A]:=sR_no h1
  rw[e]
  by_cases h2:D=101
  ·subst h2
   show st5 (if decide (p1≤3)&& !vowN C then (undR [C,B,A],true) else ([101,C,B,A],false)).1=_
   by_cases h3:p1=3
   ·subst h3
    cases h4:vowN C with
    |false=>
     show st5 (undR [C,B,A])=_
     rw[st5_short undR_len3]
     simp
    |true=>simp
   ·have:¬p1≤3:=by lia
    simp[this,h3]
  ·have e2:eR p1 [D,C,B,A]=([D,C,B,A],false):=eR_not h2
   rw[e2]
   simp[h1,h2]
end Pl
namespace Pl
theorem st5_cases (c v v':Nat) (u:List Nat):st5 (c::v::v'::u)=c::v::v'::u∨(st5 (c::v::v'::u)=c::v::u∧v=v'∧vowIN c=false∧vowN v=true∧hd (fun x=> !vowN x) u=true):=by
 show (if !vowIN c&&v==v'&&(v==97||v==101||v==111||v==117)&&hd (fun x=> !vowN x) u then c::v::u else c::v::v'::u)=_∨(if !vowIN c&&v==v'&&(v==97||v==101||v==111||v==117)&&hd (fun x=> !vowN x) u then c::v::u else c::v::v'::u)=_∧_
 split
 ·rename_i h
  simp only[Bool.and_eq_true,Bool.or_eq_true,beq_iff_eq,Bool.not_eq_true'] at h
  obtain⟨⟨⟨h1,h2⟩,h3⟩,h4⟩:=h
  refine .inr ⟨rfl,h2,h1,?_,h4⟩
  rcases h3 with ((h3 |h3) |h3) |h3<;>rw[h3]<;>rfl
 ·exact .inl rfl
theorem st1_five {p1 A B C D E:Nat} (hp:3≤p1):(st1 p1 [E,D,C,B,A]).length≤3∨(st1 p1 [E,D,C,B,A]=[E,D,C,B,A]∧¬(E=101∧D=115∧p1≤3∧vowJN C=false))∨(st1 p1 [E,D,C,B,A]=[D,C,B,A]∧E=115∧p1≤4∧vowJN D=false):=by
 refine st1_ind (M:=fun q=>q.length≤3∨(q=[E,D,C,B,A]∧¬(E=101∧D=115∧p1≤3∧vowJN C=false))∨(q=[D,C,B,A]∧E=115∧p1≤4∧vowJN D=false)) (fun s t hs e=> ?_) (fun t e=> ?_) (fun t e=> ?_) (fun t e=> ?_) fun n _=> ?_
 ·have hl:=congrArg List.length e
  rw[List.length_append] at hl
  unfold enR
  split
  ·exact .inl (Nat.le_trans (undR_len t) (by simp at hl;lia))
  ·refine .inr (.inl ⟨rfl,fun g=>hs.2.2 ?_⟩)
   have e2:=congrArg (List.take 2) e
   rw[List.take_append_of_le_length hs.1,g.1,g.2.1] at e2
   exact e2.symm
 ·injection e with e1 e;injection e with e2 e
  subst e
  split
  ·exact .inl (Nat.le_refl _)
  ·rename_i h
   refine .inr (.inl ⟨rfl,fun g=>h ?_⟩)
   show (decide (p1≤3)&& !vowJN C)=true
   rw[decide_eq_true g.2.2.1,g.2.2.2]
   rfl
 ·injection e with e1 e;injection e with e2 e;injection e with e3 e;injection e with e4 e;injection e with e5 e
  subst e
  rw[if_neg (by simp;lia)]
  exact .inr (.inl ⟨rfl,fun g=>by rw[g.1] at e1;cases e1⟩)
 ·injection e with e1 e
  subst e
  split
  ·rename_i h
   have h:=Bool.and_eq_true_iff.mp h
   exact .inr (.inr ⟨rfl,e1,of_decide_eq_true h.1,(Bool.not_eq_true' _).mp h.2⟩)
  ·exact .inr (.inl ⟨rfl,fun g=>by rw[g.1] at e1;cases e1⟩)
 ·refine .inr (.inl ⟨rfl,fun g=>n [C,B,A] ?_⟩)
  rw[g.1,g.2.1]
end Pl
namespace Pl
theorem st5_len (r:List Nat):(st5 r).length≤r.length:=by
 unfold st5
 split
 ·split<;>simp
 ·exact Nat.le_refl _
theorem stF_five {p1 A B C D E:Nat} (hp:3≤p1):(stF p1 [E,D,C,B,A]).length≤3∨stF p1 [E,D,C,B,A]=[E,D,C,B,A]∨
  (stF p1 [E,D,C,B,A]=[D,C,B,A]∧((E=115∧p1≤4∧vowJN D=false)∨(E=101∧vowN D=false∧¬(D=115∧p1≤3∧vowJN C=false)))∧st5 [D,C,B,A]=[D,C,B,A])∨
  (stF p1 [E,D,C,B,A]=[E,D,B,A]∧vowIN E=false∧D=C∧vowN D=true∧vowN B=false):=by
 have four:∀ {X:Prop},X→((st5 [D,C,B,A]).length≤3∨(st5 [D,C,B,A]=[D,C,B,A]∧X∧st5 [D,C,B,A]=[D,C,B,A])):=by
  intro X hx
  rcases st5_cases D C B [A] with h |⟨h,_⟩
  ·exact .inr ⟨h,hx,h⟩
  ·rw[h];exact .inl (Nat.le_refl _)
 unfold stF
 rcases st1_five (A:=A) (B:=B) (C:=C) (D:=D) (E:=E) hp with h |⟨h,h2⟩ |⟨h,h2⟩
 ·refine .inl (Nat.le_trans (st5_len _) (Nat.le_trans (eR_len _ _) h))
 ·rw[h]
  have five:st5 [E,D,C,B,A]=[E,D,C,B,A]∨(st5 [E,D,C,B,A]=[E,D,B,A]∧vowIN E=false∧D=C∧vowN D=true∧vowN B=false):=by
   rcases st5_cases E D C [B,A] with h |⟨h,h1,h2,h3,h4⟩
   ·exact .inl h
   ·exact .inr ⟨h,h2,h1,h3,by simpa[hd] using h4⟩
  by_cases hE:E=101
  ·subst hE
   have e:eR p1 [101,D,C,B,A]=if decide (p1≤4)&& !vowN D then (undR [D,C,B,A],true) else ([101,D,C,B,A],false):=rfl
   rw[e]
   split
   ·rename_i g
    simp at g
    rcases undR_or [D,C,B,A] with k |k
    ·show (st5 (undR [D,C,B,A])).length≤3∨st5 (undR [D,C,B,A])=_∨(st5 (undR [D,C,B,A])=_∧_)∨(st5 (undR [D,C,B,A])=_∧_)
     rw[k]
     rcases four (X:=(101=115∧p1≤4∧vowJN D=false)∨(101=101∧vowN D=false∧¬(D=115∧p1≤3∧vowJN C=false))) (.inr ⟨rfl,g.2,fun q=>h2 ⟨rfl,q⟩⟩) with m |m
     ·exact .inl m
     ·exact .inr (.inr (.inl m))
    ·refine .inl (Nat.le_trans (st5_len _) ?_)
     show (undR [D,C,B,A]).length≤3
     simp at k
     lia
   ·rcases five with m |m
    ·exact .inr (.inl m)
    ·exact .inr (.inr (.inr m))
  ·rw[eR_not hE]
   rcases five with m |m
   ·exact .inr (.inl m)
   ·exact .inr (.inr (.inr m))
 ·rw[h,eR_not (by rintro rfl;exact absurd h2.2.2 (by decide))]
  rcases four (X:=(E=115∧p1≤4∧vowJN D=false)∨(E=101∧vowN D=false∧¬(D=115∧p1≤3∧vowJN C=false))) (.inl h2) with m |m
  ·exact .inl m
  ·exact .inr (.inr (.inl m))
end Pl
namespace Pl
noncomputable def mk1 (s:Bool) (b:Nat) (n:Bool):Nat:=if s then (if b==105 then (if n then 73 else 105) else if b==121 then 89 else b) else b
noncomputable def mk0 (a:Nat):Nat:=if a==121 then 89 else a
theorem mkf_next {r:List Nat} (h:nxV r=false):mkf true r=mkf false r:=by
 cases r with
 |nil=>rfl
 |cons x t=>
  obtain⟨h1,h2⟩:=nv_iy (z:=x) h
  rw[mkf_tt,mkf_ff,h1,h2]
  rfl
theorem mkf_one (s:Bool) (b:Nat) (r:List Nat):mkf s (b::r)=mk1 s b (nxV r)::mkf (vowN (mk1 s b (nxV r))) r:=by
 cases s with
 |false=>rfl
 |true=>
  rw[mkf_tt]
  unfold mk1
  rw[if_pos rfl]
  cases h1:b==105 with
  |true=>
   cases h2:nxV r with
   |true=>rfl
   |false=>
    show _=105::mkf true r
    rw[mkf_next h2]
    rfl
  |false=>
   cases h2:b==121<;>rfl
theorem markW_one (a:Nat) (r:List Nat):markW (a::r)=mk0 a::mkf (vowN (mk0 a)) r:=by
 show (if (a==121)=true then 89::mkf false r else mkf false (a::r))=_
 unfold mk0
 cases a==121<;>rfl
theorem mark4 (a b c d:Nat):∃ A B C,A=mk0 a∧B=mk1 (vowN A) b (vowN c)∧C=mk1 (vowN B) c (vowN d)∧markW [a,b,c,d]=[A,B,C,mk1 (vowN C) d false]∧
  ∀ e,∃ D,D=mk1 (vowN C) d (vowN e)∧markW [a,b,c,d,e]=[A,B,C,D,mk1 (vowN D) e false]:=by
 refine (wit3 ⟨rfl,rfl,rfl,?_,fun e=>⟨_,rfl,?_⟩⟩)
 ·simp only[markW_one,mkf_one,nxV]
  rfl
 ·simp only[markW_one,mkf_one,nxV]
  rfl
theorem vc_f (i x:Nat) (r:List Nat):vcEnd false i (x::r)=vcEnd (vowN x) (i+1) r:=rfl
theorem vc_t (i x:Nat) (r:List Nat):vcEnd true i (x::r)=if vowN x then vcEnd true (i+1) r else some (i+1,r):=rfl
theorem vc_n (b:Bool) (i:Nat):vcEnd b i []=none:=by cases b<;>rfl
noncomputable def p1F (P:List Nat):Nat:=match vcEnd false 0 P with
 |none=>P.length
 |some (i,_)=>max i 3
theorem p1_F {P:List Nat} (h:3≤P.length):p1W P=p1F P:=by
 unfold p1W regions p1F
 rw[if_neg (by lia)]
 cases vcEnd false 0 P<;>rfl
theorem p1_four {A B C D:Nat}:p1W [A,B,C,D]=if (vowN A&& !vowN B||vowN B&& !vowN C)=true then 3 else 4:=by
 rw[p1_F (by simp)]
 unfold p1F
 cases hA:vowN A<;>cases hB:vowN B<;>cases hC:vowN C<;>cases hD:vowN D<;>simp[vc_f,vc_t,vc_n,hA,hB,hC,hD]
theorem p1_five {A B C D E:Nat}:3≤p1W [A,B,C,D,E]∧((vowN A&& !vowN B||vowN B&& !vowN C)=true→p1W [A,B,C,D,E]=3):=by
 rw[p1_F (by simp)]
 unfold p1F
 cases hA:vowN A<;>cases hB:vowN B<;>cases hC:vowN C<;>cases hD:vowN D<;>cases hE:vowN E<;>simp[vc_f,vc_t,vc_n,hA,hB,hC,hD,hE]
end Pl
namespace Pl
theorem mk0_vow (a:Nat):vowN (mk0 a)=(vowN a&&a !=121):=by
 unfold mk0
 cases h:a==121 with
 |true=>rw[bne,h,if_pos rfl];cases vowN a<;>rfl
 |false=>rw[bne,h,if_neg (by decide)];cases vowN a<;>rfl
theorem mk1_vow (s:Bool) (b:Nat) (n:Bool):vowN (mk1 s b n)=(vowN b&& !(s&&(b==121||(b==105&&n)))):=by
 unfold mk1
 cases s with
 |false=>rw[if_neg (by decide)];cases vowN b<;>rfl
 |true=>
  rw[if_pos rfl]
  cases h:b==105 with
  |true=>
   rw[beq_iff_eq.mp h]
   cases n<;>rfl
  |false=>
   rw[if_neg (by decide)]
   cases h2:b==121 with
   |true=>rw[beq_iff_eq.mp h2];rfl
   |false=>rw[if_neg (by decide)];cases vowN b<;>rfl
theorem mk1_j (s:Bool) (c:Nat):(!vowJN (mk1 s c false))=((!vowN c&&c !=106)||(c==121&&s)):=by
 unfold mk1
 cases s with
 |false=>
  rw[if_neg (by decide)]
  unfold vowJN
  rw[bne]
  cases c==106<;>cases vowN c<;>cases c==121<;>rfl
 |true=>
  rw[if_pos rfl]
  cases h:c==105 with
  |true=>rw[beq_iff_eq.mp h];rfl
  |false=>
   rw[if_neg (by decide)]
   cases h2:c==121 with
   |true=>rw[beq_iff_eq.mp h2];rfl
   |false=>
    rw[if_neg (by decide)]
    unfold vowJN
    rw[bne]
    cases c==106<;>cases vowN c<;>rfl
noncomputable def turnsP (w:List Nat):Bool:=match w with
 | [a,b,c,115,115]=>
  let first:=vowN a&&a !=121
  let second:=vowN b&& !(first&&(b==121||(b==105&&vowN c)))
  let third:=(!vowN c&&c !=106)||(c==121&&second)
  third&&(first||second)
 |_=>false
theorem turn_eq {a b c A B C:Nat} (hA:A=mk0 a) (hB:B=mk1 (vowN A) b (vowN c)) (hC:C=mk1 (vowN B) c false):turnsP [a,b,c,115,115]=(!vowJN C&&(vowN A||vowN B)):=by
 have e:turnsP [a,b,c,115,115]=(((!vowN c&&c !=106)||(c==121&&(vowN b&& !((vowN a&&a !=121)&&(b==121||(b==105&&vowN c))))))&&((vowN a&&a !=121)||(vowN b&& !((vowN a&&a !=121)&&(b==121||(b==105&&vowN c)))))):=rfl
 rw[e,←mk0_vow,←hA,←mk1_vow,←hB,←mk1_j,←hC]
theorem turn_no {a b c d e:Nat} (h:¬(d=115∧e=115)):turnsP [a,b,c,d,e]=false:=by
 unfold turnsP
 split
 ·rename_i heq
  cases heq
  exact absurd ⟨rfl,rfl⟩ h
 ·rfl
theorem turn_len {u:List Nat} (h:u.length≤4):turnsP u=false:=by
 unfold turnsP
 split
 ·simp at h
 ·rfl
theorem mem_undR {t:List Nat} {x:Nat}:x∈undR t→x∈t:=pick_all (M:=fun q=>x∈q→x∈t) (fun _ _ _ _ h=>List.mem_of_mem_tail h) fun h=>h
theorem mem_enR {p:Nat} {t r:List Nat} {x:Nat} (hr:∀ y∈t,y∈r) (h:x∈(enR p t).getD r):x∈r:=by
 unfold enR at h
 split at h
 ·exact hr _ (mem_undR h)
 ·exact h
theorem mem_ite {c:Prop} [Decidable c] {a b r:List Nat} {x:Nat} (ha:x∈a→x∈r) (hb:x∈b→x∈r) (h:x∈if c then a else b):x∈r:=by
 split at h
 ·exact ha h
 ·exact hb h
theorem mem_st1 {p:Nat} {r:List Nat} {x:Nat}:x∈st1 p r→x∈r∨x=105:=by
 refine st1_ind (M:=fun q=>x∈q→x∈r∨x=105) (fun s t _ e h=>.inl (mem_enR (fun y hy=>by rw[e];exact List.mem_append_right _ hy) h)) (fun t e h=>.inl (mem_ite (fun h=>by rw[e];exact .tail _ (.tail _ h)) (fun h=>h) h)) (fun t e h=> ?_) (fun t e h=>.inl (mem_ite (fun h=>by rw[e];exact .tail _ h) (fun h=>h) h)) fun _ _ h=>.inl h
 split at h
 ·simp[e] at h ⊢
  rcases h with h |h |h |h |h<;>simp[h]
 ·exact .inl h
theorem mem_eR {p:Nat} {r:List Nat} {x:Nat} (h:x∈(eR p r).1):x∈r:=by
 cases r with
 |nil=>exact h
 |cons y t=>
  by_cases hy:y=101
  ·subst hy
   rw[show eR p (101::t)=if decide (p≤t.length)&&hd (fun x=> !vowN x) t then (undR t,true) else (101::t,false) from rfl] at h
   split at h
   ·exact .tail _ (mem_undR h)
   ·exact h
  ·rw[eR_not hy] at h
   exact h
theorem mem_st5 {r:List Nat} {x:Nat} (h:x∈st5 r):x∈r:=by
 unfold st5 at h
 split at h
 ·split at h
  ·simp at h ⊢
   rcases h with h |h |h<;>simp[h]
  ·exact h
 ·exact h
theorem mem_stF {p:Nat} {r:List Nat} {x:Nat} (h:x∈stF p r):x∈r∨x=105:=mem_st1 (mem_eR (mem_st5 h))
theorem mem_mkf (r:List Nat):∀ (s:Bool) (x:Nat),x∈mkf s r→x∈r∨x=73∨x=89∨x=105:=by
 induction r with
 |nil=>intro s x h;cases s<;>injection h
 |cons b r ih=>
  intro s x h
  rw[mkf_one] at h
  rcases List.mem_cons.mp h with h |h
  ·unfold mk1 at h
   split at h
   ·split at h
    ·split at h<;>simp[h]
    ·split at h<;>simp[h]
   ·simp[h]
  ·rcases ih _ _ h with h |h
   ·exact .inl (List.mem_cons_of_mem _ h)
   ·exact .inr h
theorem mem_mark {u:List Nat} {x:Nat} (h:x∈markW u):x∈u∨x=73∨x=89∨x=105:=by
 cases u with
 |nil=>injection h
 |cons a r=>
  rw[markW_one] at h
  rcases List.mem_cons.mp h with h |h
  ·unfold mk0 at h
   split at h<;>simp[h]
  ·rcases mem_mkf _ _ _ h with h |h
   ·exact .inl (List.mem_cons_of_mem _ h)
   ·exact .inr h
theorem low_bare {x:Nat} (h:bareN x=x):bareN (lowN x)=lowN x∧lowN (lowN x)=lowN x:=by
 by_cases h1:x=73
 ·subst h1;exact⟨rfl,rfl⟩
 ·by_cases h2:x=89
  ·subst h2;exact⟨rfl,rfl⟩
  ·have e:lowN x=x:=by unfold lowN;simp[h1,h2]
   rw[e]
   exact⟨h,e⟩
noncomputable def OkU (u:List Nat):Prop:=∀ x∈u,bareN x=x∧lowN x=x
theorem OkU.bare {u:List Nat} (h:OkU u):u.map bareN=u:=by
 rw[List.map_congr_left (g:=id) (fun x hx=>(h x hx).1),List.map_id]
theorem OkU.low {u:List Nat} (h:OkU u):u.map lowN=u:=by
 rw[List.map_congr_left (g:=id) (fun x hx=>(h x hx).2),List.map_id]
theorem OkU.small {u:List Nat} (h:OkU u):u.map smallN=u:=by
 rw[List.map_congr_left (g:=id) (fun x hx=>by show lowN (bareN x)=x;rw[(h x hx).1,(h x hx).2]),List.map_id]
theorem ok_S {u:List Nat} (h:OkU u):OkU (stS u):=by
 intro x hx
 obtain⟨y,hy,e⟩:=List.mem_map.mp hx
 have hb:bareN y=y:=by
  rcases mem_stF (List.mem_reverse.mp hy) with g |g
  ·rcases mem_mark (List.mem_reverse.mp g) with g |g |g |g
   ·exact (h y g).1
   ·subst g;rfl
   ·subst g;rfl
   ·subst g;rfl
  ·subst g;rfl
 rw[←e]
 exact low_bare hb
theorem S_three {u:List Nat} (h:OkU u) (hl:(stS u).length≤3):stemW (stS u)=stS u:=by
 rw[stem_short hl,(ok_S h).small]
theorem S_again {u:List Nat} (h:OkU u) (hl:u.length≤5):stemW u=stS u:=by
 rw[stem_S hl,h.bare]
end Pl
namespace Pl
theorem p1_four_ge {A B C D:Nat}:3≤p1W [A,B,C,D]:=by
 rw[p1_four]
 split<;>lia
theorem S4_stay {a b c d A B C D:Nat} (hm:markW [a,b,c,d]=[A,B,C,D]) (ho:OkU [a,b,c,d]) (h1:¬(D=115∧p1W [A,B,C,D]=3∧vowJN C=false)) (h2:¬(D=101∧p1W [A,B,C,D]=3∧vowN C=false)) (h3:st5 [D,C,B,A]=[D,C,B,A]):stS [a,b,c,d]=[a,b,c,d]:=by
 unfold stS
 rw[hm]
 show ((stF (p1W [A,B,C,D]) [D,C,B,A]).reverse).map lowN=_
 rw[stF_four p1_four_ge,if_neg h1,if_neg h2,h3]
 show [A,B,C,D].map lowN=_
 rw[←hm,markW_low,ho.low]
theorem S4_or {a b c d:Nat} (ho:OkU [a,b,c,d]):stS [a,b,c,d]=[a,b,c,d]∨(stS [a,b,c,d]).length≤3:=by
 obtain⟨A,B,C,hA,hB,hC,m4,_⟩:=mark4 a b c d
 generalize mk1 (vowN C) d false=D at m4
 by_cases h:(stF (p1W [A,B,C,D]) [D,C,B,A]).length≤3
 ·refine .inr ?_
  unfold stS
  rw[m4]
  show (((stF (p1W [A,B,C,D]) [D,C,B,A]).reverse).map lowN).length≤3
  rw[List.length_map,List.length_reverse]
  exact h
 ·rw[stF_four p1_four_ge] at h
  by_cases h1:D=115∧p1W [A,B,C,D]=3∧vowJN C=false
  ·rw[if_pos h1] at h
   exact absurd (Nat.le_refl 3) h
  ·rw[if_neg h1] at h
   by_cases h2:D=101∧p1W [A,B,C,D]=3∧vowN C=false
   ·rw[if_pos h2] at h
    exact absurd (undR_len _) h
   ·rw[if_neg h2] at h
    rcases st5_cases D C B [A] with h3 |⟨h3,_⟩
    ·exact .inl (S4_stay m4 ho h1 h2 h3)
    ·rw[h3] at h
     exact absurd (Nat.le_refl 3) h
theorem S5_turn {a b c:Nat} (ho:OkU [a,b,c,115,115]) (ht:turnsP [a,b,c,115,115]=true):stS [a,b,c,115,115]=[a,b,c,115]∧stS [a,b,c,115]=[a,b,c]:=by
 obtain⟨A,B,C,hA,hB,hC,m4,m5⟩:=mark4 a b c 115
 obtain⟨D,hD,m5⟩:=m5 115
 have hD:D=115:=by rw[hD];cases vowN C<;>rfl
 subst hD
 have e4:mk1 (vowN C) 115 false=115:=by cases vowN C<;>rfl
 have e5:mk1 (vowN 115) 115 false=115:=rfl
 rw[e4] at m4
 rw[e5] at m5
 rw[turn_eq hA hB hC] at ht
 simp only[Bool.and_eq_true,Bool.not_eq_true',Bool.or_eq_true] at ht
 obtain⟨hj,hv⟩:=ht
 have hc:vowN C=false:=by
  unfold vowJN at hj
  exact (Bool.or_eq_false_iff.mp hj).2
 have hp:(vowN A&& !vowN B||vowN B&& !vowN C)=true:=by
  rw[hc]
  revert hv
  cases vowN A<;>cases vowN B<;>simp
 have l4:[A,B,C,115].map lowN=[a,b,c,115]:=by
  rw[←m4,markW_low]
  exact OkU.low (fun x hx=>ho x (by simp at hx ⊢;lia))
 constructor
 ·unfold stS
  rw[m5]
  show ((stF (p1W [A,B,C,115,115]) [115,115,C,B,A]).reverse).map lowN=_
  rw[p1_five.2 hp]
  have e:stF 3 [115,115,C,B,A]=st5 [115,C,B,A]:=rfl
  rw[e]
  rcases st5_cases 115 C B [A] with h3 |⟨_,_,_,h3,_⟩
  ·rw[h3];exact l4
  ·rw[hc] at h3;cases h3
 ·unfold stS
  rw[m4]
  show ((stF (p1W [A,B,C,115]) [115,C,B,A]).reverse).map lowN=_
  rw[p1_four,if_pos hp,stF_four (Nat.le_refl 3),if_pos ⟨rfl,rfl,hj⟩]
  have:=congrArg (List.take 3) l4
  exact this
theorem low_eq {x y:Nat} (h:lowN x=y) (h1:y≠105) (h2:y≠121):x=y:=by
 unfold lowN at h
 split at h
 ·exact absurd h.symm h1
 ·split at h
  ·exact absurd h.symm h2
  ·exact h
theorem mk1_same {s:Bool} {d:Nat} (h:d≠105) (n m:Bool):mk1 s d n=mk1 s d m:=by
 unfold mk1
 simp[h]
theorem mk1_i (s:Bool):mk1 s 105 false=105:=by cases s<;>rfl
theorem S5_rest {a b c d e:Nat} (ho:OkU [a,b,c,d,e]) (ht:turnsP [a,b,c,d,e]=false):stemW (stS [a,b,c,d,e])=stS [a,b,c,d,e]:=by
 obtain⟨A,B,C,hA,hB,hC,m4,m5⟩:=mark4 a b c d
 obtain⟨D,hD,m5⟩:=m5 e
 generalize hE:mk1 (vowN D) e false=E at m5
 have l5:[A,B,C,D,E].map lowN=[a,b,c,d,e]:=by rw[←m5,markW_low,ho.low]
 have lA:lowN A=a:=(List.cons.inj l5).1
 have l5:=(List.cons.inj l5).2
 have lB:lowN B=b:=(List.cons.inj l5).1
 have l5:=(List.cons.inj l5).2
 have lC:lowN C=c:=(List.cons.inj l5).1
 have l5:=(List.cons.inj l5).2
 have lD:lowN D=d:=(List.cons.inj l5).1
 have l5:=(List.cons.inj l5).2
 have lE:lowN E=e:=(List.cons.inj l5).1
 have eS:stS [a,b,c,d,e]=((stF (p1W [A,B,C,D,E]) [E,D,C,B,A]).reverse).map lowN:=by
  unfold stS
  rw[m5]
  rfl
 have o4:OkU [a,b,c,d]:=fun x hx=>ho x (by simp at hx ⊢;lia)
 rcases stF_five (p1:=p1W [A,B,C,D,E]) (A:=A) (B:=B) (C:=C) (D:=D) (E:=E) p1_five.1 with h |h |⟨h,hw,h5⟩ |⟨h,h1,h2,h3,h4⟩
 ·refine S_three ho ?_
  rw[eS,List.length_map,List.length_reverse]
  exact h
 ·have e1:stS [a,b,c,d,e]=[a,b,c,d,e]:=by
   rw[eS,h]
   show [A,B,C,D,E].map lowN=_
   rw[←m5,markW_low,ho.low]
  rw[S_again (u:=stS [a,b,c,d,e]) (by rw[e1];exact ho) (by rw[e1];exact Nat.le_refl 5),e1,e1]
 ·have e1:stS [a,b,c,d,e]=[a,b,c,d]:=by
   rw[eS,h]
   show [lowN A,lowN B,lowN C,lowN D]=_
   rw[lA,lB,lC,lD]
  rw[e1,S_again o4 (by simp)]
  rcases hw with⟨g1,g2,g3⟩ |⟨g1,g2,g3⟩
  ·have he:e=115:=by rw[←lE,g1];rfl
   subst he
   have hDv:vowN D=false:=by unfold vowJN at g3;exact (Bool.or_eq_false_iff.mp g3).2
   have hd:d≠105:=by
    rintro rfl
    have:D=105:=by rw[hD];exact mk1_i _
    rw[this] at hDv
    cases hDv
   rw[mk1_same hd false (vowN 115),←hD] at m4
   refine S4_stay m4 o4 ?_ ?_ h5
   ·rintro⟨q1,q2,q3⟩
    have hd:d=115:=by rw[←lD,q1];rfl
    subst hd
    rw[turn_eq hA hB hC,q3] at ht
    have hc:vowN C=false:=by unfold vowJN at q3;exact (Bool.or_eq_false_iff.mp q3).2
    rw[p1_four,hc] at q2
    revert q2 ht
    cases vowN A<;>cases vowN B<;>decide
   ·rintro⟨q1,_⟩
    rw[q1] at hDv
    cases hDv
  ·by_cases hd:d=105
   ·subst hd
    rw[mk1_i] at m4
    refine S4_stay m4 o4 (by simp) (by simp) ?_
    rcases st5_cases 105 C B [A] with k |⟨_,_,k,_⟩
    ·exact k
    ·cases k
   ·rw[mk1_same hd false (vowN e),←hD] at m4
    refine S4_stay m4 o4 ?_ ?_ h5
    ·rintro⟨q1,q2,q3⟩
     rw[p1_four] at q2
     split at q2
     ·rename_i q4
      exact g3 ⟨q1,Nat.le_of_eq (p1_five.2 q4),q3⟩
     ·cases q2
    ·rintro⟨q1,_⟩
     rw[q1] at g2
     cases g2
 ·have hcd:c=d:=by rw[←lC,←lD,h2]
  have e1:stS [a,b,c,d,e]=[a,b,c,e]:=by
   rw[eS,h]
   show [lowN A,lowN B,lowN D,lowN E]=_
   rw[lA,lB,lD,lE,hcd]
  have oe:OkU [a,b,c,e]:=fun x hx=>ho x (by simp at hx ⊢;lia)
  rw[e1,S_again oe (by simp)]
  subst hcd
  have hC':C=c:=by
   rw[hC,h4]
   rfl
  have hB':vowN B=false:=h4
  obtain⟨A',B',C',kA,kB,kC,n4,_⟩:=mark4 a b c e
  have eA:A'=A:=by rw[kA,hA]
  subst eA
  have eB:B'=B:=by rw[kB,hB]
  subst eB
  have eC:C'=c:=by rw[kC,h4];rfl
  subst eC
  have hc:vowN C'=true:=by rw[←hC',←h2];exact h3
  generalize hE':mk1 (vowN C') e false=E' at n4
  have lE':lowN E'=e:=by
   have:=markW_low [a,b,C',e]
   rw[n4,oe.low] at this
   simp at this
   exact this.2.2.2
  refine S4_stay n4 oe ?_ ?_ ?_
  ·rintro⟨_,_,q⟩
   unfold vowJN at q
   rw[hc] at q
   simp at q
  ·rintro⟨q,_⟩
   have he:e=101:=by rw[←lE',q];rfl
   have:E=101:=low_eq (lE.trans he) (by decide) (by decide)
   rw[this] at h1
   cases h1
  ·rcases st5_cases E' C' B' [A'] with k |⟨_,k,_⟩
   ·exact k
   ·rw[←k,hc] at h4
    cases h4
@[elab_as_elim] theorem len45 {P:List Nat→Prop} {u:List Nat} (h3:¬u.length≤3) (h5:u.length≤5) (h:∀ a b c d,P [a,b,c,d]) (k:∀ a b c d e,P [a,b,c,d,e]):P u:=by
 cases u with
 |nil=>exact absurd (by decide) h3
 |cons a u=>cases u with
  |nil=>exact absurd (Nat.le_of_ble_eq_true rfl) h3
  |cons b u=>cases u with
   |nil=>exact absurd (Nat.le_of_ble_eq_true rfl) h3
   |cons c u=>cases u with
    |nil=>exact absurd (Nat.le_of_ble_eq_true rfl) h3
    |cons d u=>cases u with
     |nil=>exact h a b c d
     |cons e u=>cases u with
      |nil=>exact k a b c d e
      |cons f u=>simp at h5
theorem say_five {w:List Nat} (hl:w.length≤5) (hw:∀ x∈w,x≠73∧x≠89):if turnsP (w.map smallN)=true then stemW w=(w.map smallN).take 4∧stemW (stemW w)=(w.map smallN).take 3 else stemW (stemW w)=stemW w:=by
 have bo:∀ x,bareN x=x∨bareN x∈[97,101,105,111,117]:=by
  intro x
  unfold bareN
  split
  ·exact .inr (by decide)
  ·split
   ·exact .inr (by decide)
   ·split
    ·exact .inr (by decide)
    ·split
     ·exact .inr (by decide)
     ·split
      ·exact .inr (by decide)
      ·exact .inl rfl
 have bb:∀ x,bareN (bareN x)=bareN x:=fun x=>by
  rcases bo x with h |h
  ·rw[h,h]
  ·have k:∀ y∈[97,101,105,111,117],bareN y=y:=by decide
   exact k _ h
 have bn:∀ x,x≠73∧x≠89→lowN (bareN x)=bareN x:=fun x hx=>by
  rcases bo x with h |h
  ·rw[h]
   unfold lowN
   simp[hx]
  ·have k:∀ y∈[97,101,105,111,117],lowN y=y:=by decide
   exact k _ h
 have e:w.map smallN=w.map bareN:=List.map_congr_left (fun x hx=>bn x (hw x hx))
 have ho:OkU (w.map bareN):=by
  intro y hy
  obtain⟨x,hx,q⟩:=List.mem_map.mp hy
  rw[←q]
  exact⟨bb x,bn x (hw x hx)⟩
 have hl2:(w.map bareN).length≤5:=by rw[List.length_map];exact hl
 rw[stem_S hl,e]
 generalize w.map bareN=u at ho hl2
 by_cases h3:u.length≤3
 ·rw[turn_len (by lia),if_neg (by decide)]
  have:stS u=u:=by rw[←S_again ho hl2,stem_short h3,ho.small]
  rw[this,stem_short h3,ho.small]
 ·revert ho
  refine len45 h3 hl2 (fun a b c d ho=> ?_) fun a b c d e ho=> ?_
  ·rw[turn_len (u:=[a,b,c,d]) (Nat.le_refl 4),if_neg (by decide)]
   rcases S4_or ho with h |h
   ·rw[h,S_again ho (by simp),h]
   ·exact S_three ho h
  ·by_cases hde:d=115∧e=115
   ·obtain⟨rfl,rfl⟩:=hde
    cases ht:turnsP [a,b,c,115,115] with
    |true=>
     obtain⟨q1,q2⟩:=S5_turn ho ht
     rw[if_pos rfl,q1]
     refine⟨rfl,?_⟩
     rw[S_again (fun x hx=>ho x (by simp at hx ⊢;lia)) (by simp),q2]
     rfl
    |false=>exact S5_rest ho ht
   ·rw[turn_no hde]
    exact S5_rest ho (turn_no hde)
end Pl
section
open Mine.Pl (smallN stemW lowN)
theorem sgn_no (n:Int):sgn n≠73∧sgn n≠89:=(by decide:∀ x∈signsN.take 42,x≠73∧x≠89) _ (sgn_mem n)
theorem ends_no (j:Nat):∀ x∈endsN.getD j [],x≠73∧x≠89:=by
 by_cases h:j<endsN.length
 ·have e:endsN.getD j []=endsN[j]:=by simp[h]
  rw[e]
  exact (by decide:∀ e∈endsN,∀ x∈e,x≠73∧x≠89) _ (List.getElem_mem h)
 ·have e:endsN.getD j []=[]:=by rw[List.getD_eq_getElem?_getD,List.getElem?_eq_none (by lia)];rfl
  rw[e]
  exact fun x hx=>by (cases hx)
theorem map_no (l:List Int):∀ x∈l.map sgn,x≠73∧x≠89:=by
 intro x hx
 obtain⟨n,_,e⟩:=List.mem_map.mp hx
 rw[←e]
 exact sgn_no n
theorem short_no (ns:List Int):∀ x∈shortOf ns,x≠73∧x≠89:=by
 intro x hx
 unfold shortOf at hx
 rcases List.mem_append.mp hx with h |h
 ·exact map_no _ x h
 ·split at h
  ·cases h
  ·split at h
   ·exact ends_no _ x h
   ·exact map_no _ x h
theorem hsay (ns:List Int) (h:ns.length≤5):SayN (shortOf ns):=Pl.say_five (short_ok ns h).2 (short_no ns)
theorem lawOk:LawOk:=lawOk_say hsay
end
noncomputable def posOf:Stmt→Pos | .FunctionDef _ _ _ _ _ _ _ _ _ p=>p |_=>⟨0,0,0,0⟩
noncomputable def dL:DefRec:=⟨"law",fnParams (tS 25),fnBody (tS 25),fnScope (tS 25),posOf (tS 25)⟩
set_option maxHeartbeats 2000000 in
theorem fin:PySem.Challenge.rw_is0013_01.Holds:=by
 w_on
 refine holds_law (by decide+kernel) fun said=> ?_
 refine holds_open (q:=qv) (loose:=looseL) (Xt:=XtL) (XP:=XL qv []) (Yf:=hookV.obs) (Ya:=hookV.val) (YP:=hookV.says) (N:=30000) (d:=dL) (kwd:=[]) ?h1 hookV.of hookV.keeps ?h2 XL.keeps ?h3 ?h4 ?h5 ?h6 ?h7 ?h8 ?h9 ?h10 ?hw ?hc
 case h1=>exact myLeft
 case h2=>exact (fun s e=>xl_of s (Bool.and_eq_true_iff.mp e).1)
 case h3=>kernel_rfl
 case h4=>kernel_rfl
 case h5=>kernel_rfl
 case h6=>exact fun s e=>recFacts_nil rfl
 case h7=>rfl
 case h8=>(first |assumption |decide+kernel)
 case h9=>decide+kernel
 case h10=>exact⟨rfl,rfl,rfl,rfl,rfl,by decide+kernel⟩
 case hw=>w_witness2
 intro w s₀ s₁ mg mb G Y fa o pm cd doc dV kV ho hd hcd hD hmg hg args vals as hpre hlay hrd hwl hlo
 have KX:=Y.1
 have SX:=Y.2
 refine Ground.open G ?_
 intro T B D TE TW
 try (refine guard_noD D (by decide+kernel) ?_;clear D)
 obtain⟨_,_,M⟩:=bmod_of_top T
 have TA:=at_of_top T
 try (obtain⟨_,_,he,B0⟩:=based_of_top T rfl hmg ho hd;have he':cd=_:=he;subst he';clear he)
 clear hmg
 wrow_args hpre hlay hrd hwl hlo
 all_goals (
  first |refine callC_kw (enter_call ?_) |refine enter_call ?_ |refine callC_kw (enter_callW ?_) |refine enter_callW ?_ |w_how
  w_top on
  try refine codeAny_mono ?_ (fun _ _ g=>GoodW.toG g)
  have K0:=below_caller (Top.heap T)
  w_call any ho hd hcd hD T F
  clear hd TA
  k_drop
  skip)
 refine law_run lawOk KX SX (topRead_of ‹Top qv (looseW qv looseL) _ _ _ _›) ‹IntsAre _ _› ‹Heap.IsList _ _ _› ‹Fr _ _ _ _› rfl ?_ fun s' hk hos hgn=> ?_
 ·lia
 ·refine⟨.inl ⟨.bool true,.bool true,[],rfl,?_,.bool true,?_,?_⟩,hk,hos,hgn.trans hg⟩
  ·intro cls;rfl
  ·first |rfl |kernel_rfl
  ·intro _;exact⟨List.nodup_nil,fun a ha=>by cases ha⟩
end Mine
end
theorem PySem.Challenge.cw_is0013_01_holds : PySem.Challenge.rw_is0013_01.Holds :=
  Mine.fin
