import PyProof.Rows.All
import Wide.All
import OpenK.AllK
import Wide.FinOn
import KE.KxPercentT
import KE.KIsBytes
import KE.BytesMake
import PyProof.Rows.RuleN_abs
import PyProof.StrLawsJoin
import PyProof.Rows.ListMulArg
import PySem.Challenge.RW_lk0012_01
set_option linter.all false
open PySem PySem.Calls PySem.W
set_option Elab.async false
set_option maxRecDepth 100000
local macro_rules | `(tactic| trivial) => `(tactic| first | exact List.mem_cons_self | exact Nat.le_add_right _ _ | exact Nat.lt_succ_self _ | exact Int.natCast_nonneg _ | exact Nat.le_of_lt (by assumption) | exact Nat.ne_of_lt (by assumption) | exact Nat.ne_of_gt (by assumption) | exact Nat.le_trans (by assumption) (by exact Nat.le_of_ble_eq_true rfl) | exact Nat.le_trans (Nat.le_of_lt (by assumption)) (by exact Nat.le_of_ble_eq_true rfl) | exact Nat.lt_of_lt_of_le (by assumption) (Nat.le_add_right _ _) | exact Nat.le_trans (by assumption) (Nat.le_add_right _ _) | exact Nat.lt_of_le_of_lt (by assumption) (by exact Nat.le_of_ble_eq_true rfl) | exact Nat.lt_of_lt_of_le (by assumption) (by exact Nat.le_of_ble_eq_true rfl) | exact Nat.le_trans (by assumption) (by assumption) | exact Nat.lt_of_lt_of_le (by assumption) (by assumption) | exact Nat.lt_of_le_of_lt (by assumption) (by assumption) | exact Nat.ne_of_lt (Nat.lt_of_lt_of_le (by assumption) (Nat.le_add_right _ _)) | exact Nat.ne_of_gt (Nat.lt_of_lt_of_le (by assumption) (Nat.le_add_right _ _)) | exact Nat.ne_of_lt (Nat.lt_add_of_pos_right (by decide)) | exact Nat.ne_of_gt (Nat.lt_add_of_pos_right (by decide)) | exact Nat.ne_of_lt (Nat.add_lt_add_left (by decide) _) | exact Nat.ne_of_gt (Nat.add_lt_add_left (by decide) _) | exact Nat.lt_add_of_pos_right (by decide) | exact Nat.add_lt_add_left (by decide) _ | exact Nat.sub_lt (by assumption) (by decide) | (apply List.mem_cons_of_mem; trivial))
namespace Mine
variable {A A':Around} {C D I L V a ad bf bm builtins c' cB cF cO cS cc dg dx f gi i2 l1 l2 la ls sf sl sm tg tp:Addr} {K:Frag} {M:Model} {Q:Flow→Shared→Prop} {QQ:Unit→Shared→Prop} {R:Result→Shared→Prop} {S W X fp wr wrOld:List Addr} {T:String} {ap cp gpos kp np p' p1 p2 p3 p4 p5 p6 p7 p8 p9 pa pb pos pt px py sp xp yp:Pos} {as b0 cs rows src xs zs:List Nat} {b b1 bs s1 s2 salt secret:List UInt8} {binds kvs kw:List (Str×Value)} {body rest:List Stmt} {cd dflt doc it pm v v1 v2 v5 v7:Value} {cenv env:Env} {cl closure:List (Str×Addr)} {d:Drawn} {dv:Int} {e e1 e2 e3 elt e₁ e₂ iter orelse target:Expr} {elts es:List Expr} {fd:FuncData} {func:Option Addr} {g:Array GenState} {h h' h1 hh h₀ h₂:Heap} {hi lo:Option Expr} {i j k k' k1 k2 keylen kk kt m n n₀ p r t t1:Nat} {items ps ps' ps4:Array Value} {iv tv vb v₀ w0:Option Value} {mb mg m₂:Str→Option Value} {o:OsState} {o1 o2 o3 ob od op:Obj} {ops vs ys ys':List Value} {ord q qual x x1 x2 xa xb y:Str} {params:Arguments} {pl:Sem Bool} {prog:Program} {s s':Shared} {scope:Scope} {tb u u1 u2 u3 ub ud ui uk un up ur ux:Tok} {us:List Tok} {w:World} {E:Value→Shared→Prop} {N N' N0:List (Addr×Obj)} {Post:Value→Heap→Prop} {l l' pre:List (Str×Option Value)} {Φ Φ':Heap→Prop}
section
inductive Ex2 {A0 A1:Type} (p:A0→A1→Prop):Prop
 | mk (a0:A0) (a1:A1) (h:p a0 a1):Ex2 p
inductive Ex3 {A0 A1 A2:Type} (p:A0→A1→A2→Prop):Prop
 | mk (a0:A0) (a1:A1) (a2:A2) (h:p a0 a1 a2):Ex3 p
inductive Ex4 {A0 A1 A2 A3:Type} (p:A0→A1→A2→A3→Prop):Prop
 | mk (a0:A0) (a1:A1) (a2:A2) (a3:A3) (h:p a0 a1 a2 a3):Ex4 p
inductive Ex5 {A0 A1 A2 A3 A4:Type} (p:A0→A1→A2→A3→A4→Prop):Prop
 | mk (a0:A0) (a1:A1) (a2:A2) (a3:A3) (a4:A4) (h:p a0 a1 a2 a3 a4):Ex5 p
inductive Ex6 {A0 A1 A2 A3 A4 A5:Type} (p:A0→A1→A2→A3→A4→A5→Prop):Prop
 | mk (a0:A0) (a1:A1) (a2:A2) (a3:A3) (a4:A4) (a5:A5) (h:p a0 a1 a2 a3 a4 a5):Ex6 p
inductive Ex7 {A0 A1 A2 A3 A4 A5 A6:Type} (p:A0→A1→A2→A3→A4→A5→A6→Prop):Prop
 | mk (a0:A0) (a1:A1) (a2:A2) (a3:A3) (a4:A4) (a5:A5) (a6:A6) (h:p a0 a1 a2 a3 a4 a5 a6):Ex7 p
inductive Ex9 {A0 A1 A2 A3 A4 A5 A6 A7 A8:Type} (p:A0→A1→A2→A3→A4→A5→A6→A7→A8→Prop):Prop
 | mk (a0:A0) (a1:A1) (a2:A2) (a3:A3) (a4:A4) (a5:A5) (a6:A6) (a7:A7) (a8:A8) (h:p a0 a1 a2 a3 a4 a5 a6 a7 a8):Ex9 p
inductive Ex11 {A0 A1 A2 A3 A4 A5 A6 A7 A8 A9 A10:Type} (p:A0→A1→A2→A3→A4→A5→A6→A7→A8→A9→A10→Prop):Prop
 | mk (a0:A0) (a1:A1) (a2:A2) (a3:A3) (a4:A4) (a5:A5) (a6:A6) (a7:A7) (a8:A8) (a9:A9) (a10:A10) (h:p a0 a1 a2 a3 a4 a5 a6 a7 a8 a9 a10):Ex11 p
inductive Ex16 {A0 A1 A2 A3 A4 A5 A6 A7 A8 A9 A10 A11 A12 A13 A14 A15:Type} (p:A0→A1→A2→A3→A4→A5→A6→A7→A8→A9→A10→A11→A12→A13→A14→A15→Prop):Prop
 | mk (a0:A0) (a1:A1) (a2:A2) (a3:A3) (a4:A4) (a5:A5) (a6:A6) (a7:A7) (a8:A8) (a9:A9) (a10:A10) (a11:A11) (a12:A12) (a13:A13) (a14:A14) (a15:A15) (h:p a0 a1 a2 a3 a4 a5 a6 a7 a8 a9 a10 a11 a12 a13 a14 a15):Ex16 p
inductive An3 (P0 P1 P2:Prop):Prop
 | mk (h0:P0) (h1:P1) (h2:P2):An3 P0 P1 P2
inductive An4 (P0 P1 P2 P3:Prop):Prop
 | mk (h0:P0) (h1:P1) (h2:P2) (h3:P3):An4 P0 P1 P2 P3
inductive An5 (P0 P1 P2 P3 P4:Prop):Prop
 | mk (h0:P0) (h1:P1) (h2:P2) (h3:P3) (h4:P4):An5 P0 P1 P2 P3 P4
inductive An6 (P0 P1 P2 P3 P4 P5:Prop):Prop
 | mk (h0:P0) (h1:P1) (h2:P2) (h3:P3) (h4:P4) (h5:P5):An6 P0 P1 P2 P3 P4 P5
inductive An7 (P0 P1 P2 P3 P4 P5 P6:Prop):Prop
 | mk (h0:P0) (h1:P1) (h2:P2) (h3:P3) (h4:P4) (h5:P5) (h6:P6):An7 P0 P1 P2 P3 P4 P5 P6
inductive An8 (P0 P1 P2 P3 P4 P5 P6 P7:Prop):Prop
 | mk (h0:P0) (h1:P1) (h2:P2) (h3:P3) (h4:P4) (h5:P5) (h6:P6) (h7:P7):An8 P0 P1 P2 P3 P4 P5 P6 P7
inductive An10 (P0 P1 P2 P3 P4 P5 P6 P7 P8 P9:Prop):Prop
 | mk (h0:P0) (h1:P1) (h2:P2) (h3:P3) (h4:P4) (h5:P5) (h6:P6) (h7:P7) (h8:P8) (h9:P9):An10 P0 P1 P2 P3 P4 P5 P6 P7 P8 P9
inductive An11 (P0 P1 P2 P3 P4 P5 P6 P7 P8 P9 P10:Prop):Prop
 | mk (h0:P0) (h1:P1) (h2:P2) (h3:P3) (h4:P4) (h5:P5) (h6:P6) (h7:P7) (h8:P8) (h9:P9) (h10:P10):An11 P0 P1 P2 P3 P4 P5 P6 P7 P8 P9 P10
inductive An12 (P0 P1 P2 P3 P4 P5 P6 P7 P8 P9 P10 P11:Prop):Prop
 | mk (h0:P0) (h1:P1) (h2:P2) (h3:P3) (h4:P4) (h5:P5) (h6:P6) (h7:P7) (h8:P8) (h9:P9) (h10:P10) (h11:P11):An12 P0 P1 P2 P3 P4 P5 P6 P7 P8 P9 P10 P11
@[reducible] noncomputable def Ors {α:Type} (x:α):List α→Prop
 | []=>False
 | [a]=>x=a
 | a::b::l=>x=a∨Ors x (b::l)
@[reducible] noncomputable def Nrs {α:Type} (x:α):List α→Prop
 | []=>True
 | a::l=>x≠a∧Nrs x l
theorem ors {α:Type} {x:α} {l:List α} (h:x∈l):Ors x l:=by
 induction l with
 | nil=>cases h
 | cons a l ih =>
  cases l with
  | nil=>exact List.mem_singleton.mp h
  | cons b l=>exact (List.mem_cons.mp h).imp id ih
theorem nrs {α:Type} {x:α} {l:List α} (h:x∉l):Nrs x l:=by
 induction l with
 | nil=>trivial
 | cons a l ih=>exact ⟨λe=>h (e▸List.mem_cons_self),ih λq=>h (List.mem_cons_of_mem _ q)⟩
theorem fA {α:Type} {P:α→Prop} {a:α} {l:List α} (h:P a) (t:∀x∈l,P x):∀x∈a::l,P x:=λ_ q=>(List.mem_cons.mp q).elim (λe=>e▸h) (t _)
theorem f1 {α:Type} {P:α→Prop} {a:α} (h:P a):∀x∈[a],P x:=fA h λ_ q=>nomatch q
theorem f2 {α:Type} {P:α→Prop} {a b:α} (h:P a) (i:P b):∀x∈[a,b],P x:=fA h (f1 i)
theorem f3 {α:Type} {P:α→Prop} {a b c:α} (h:P a) (i:P b) (j:P c):∀x∈[a,b,c],P x:=fA h (f2 i j)
theorem f4 {α:Type} {P:α→Prop} {a b c d:α} (h:P a) (i:P b) (j:P c) (k:P d):∀x∈[a,b,c,d],P x:=fA h (f3 i j k)
theorem f5 {α:Type} {P:α→Prop} {a b c d e:α} (h:P a) (i:P b) (j:P c) (k:P d) (l:P e):∀x∈[a,b,c,d,e],P x:=fA h (f4 i j k l)
theorem f6 {α:Type} {P:α→Prop} {a b c d e f:α} (h:P a) (i:P b) (j:P c) (k:P d) (l:P e) (m:P f):∀x∈[a,b,c,d,e,f],P x:=fA h (f5 i j k l m)
theorem f7 {α:Type} {P:α→Prop} {a b c d e f g:α} (h:P a) (i:P b) (j:P c) (k:P d) (l:P e) (m:P f) (n:P g):∀x∈[a,b,c,d,e,f,g],P x:=fA h (f6 i j k l m n)
theorem fapp {α:Type} {P:α→Prop} {l l':List α} (h:∀x∈l,P x) (i:∀x∈l',P x):∀x∈l++l',P x:=λx q=>(List.mem_append.mp q).elim (h x) (i x)
theorem nA {α:Type} {x a:α} {l:List α} (h:x≠a) (t:x∉l):x∉a::l:=λq=>(List.mem_cons.mp q).elim h t
theorem n1 {α:Type} {x a:α} (h:x≠a):x∉[a]:=nA h λq=>nomatch q
theorem n2 {α:Type} {x a b:α} (h:x≠a) (i:x≠b):x∉[a,b]:=nA h (n1 i)
theorem n3 {α:Type} {x a b c:α} (h:x≠a) (i:x≠b) (j:x≠c):x∉[a,b,c]:=nA h (n2 i j)
theorem n4 {α:Type} {x a b c d:α} (h:x≠a) (i:x≠b) (j:x≠c) (k:x≠d):x∉[a,b,c,d]:=nA h (n3 i j k)
theorem n5 {α:Type} {x a b c d e:α} (h:x≠a) (i:x≠b) (j:x≠c) (k:x≠d) (l:x≠e):x∉[a,b,c,d,e]:=nA h (n4 i j k l)
theorem n6 {α:Type} {x a b c d e f:α} (h:x≠a) (i:x≠b) (j:x≠c) (k:x≠d) (l:x≠e) (m:x≠f):x∉[a,b,c,d,e,f]:=nA h (n5 i j k l m)
@[elab_as_elim] theorem or2 {α:Type} {P:α→Prop} {x a b:α} (h:x=a∨x=b) (ha:P a) (hb:P b):P x:=h.elim (λe=>e▸ha) (λe=>e▸hb)
theorem unc {α:Type} {l:List α} (h:l.length=n+1):Ex2 λa t=>l=a::t∧t.length=n:=by
 cases l with
 | nil=>cases h
 | cons a t=>exact ⟨a,t,rfl,Nat.succ.inj h⟩
theorem mkey {α β:Type} {l:List (α×β)} {x:α} {ns:List α} (h:l.map (·.1)=x::ns):Ex2 λw t=>l=(x,w)::t∧t.map (·.1)=ns:=by
 cases l with
 | nil=>cases h
 | cons p t=>exact ⟨p.2,t,by rw [←(List.cons.inj h).1],(List.cons.inj h).2⟩
noncomputable abbrev LS:=List (Str×Option Value)
noncomputable abbrev LN:=List (Addr×Obj)
noncomputable abbrev VQ:=Value→Shared→Prop
noncomputable abbrev VH:=Value→Heap→Prop
noncomputable abbrev HP:=Heap→Prop
noncomputable abbrev CallIs (x:Str) (np:Pos) (es:List Expr) (pos:Pos) (env:Env):Prop:=eval (.Call (.Name x np) es [] pos) env=(do callWith pos (←eval (.Name x np) env) [] (backTo pos (starEach es env)) (backToKw pos (keywordEach [] env)))
noncomputable abbrev Unst (e:Expr) (es:List Expr) (env:Env):Prop:=starEach (e::es) env=(false,eval e env)::starEach es env
noncomputable abbrev Plain (pos:Pos) (es:List Expr) (env:Env):Prop:=(backTo pos (starEach es env)).any (·.1)=false
noncomputable abbrev Swp (e:Expr) (x:Str) (p:Pos) (pos:Pos) (env:Env):Prop:=swapsWith e (some (.Name x p)) pos.line env=pure false
noncomputable abbrev ND (x:Str):Prop:=(x == ("__debug__":Str))=false
noncomputable abbrev Loc (env:Env) (x:Str):Prop:=env.kindOf x=some .local
noncomputable abbrev Glo (env:Env) (x:Str):Prop:=env.kindOf x=some .globalImplicit
noncomputable abbrev Cel (env:Env) (x:Str):Prop:=env.kindOf x=some .cell
noncomputable def lk:LS→Str→Option Value
 | [],_=>none
 | (k,v)::r,x=>if x=k then v else lk r x
theorem lk_at {v:Option Value}:∀ {i:Nat},(l.map (·.1)).Nodup→l[i]?=some (x,v)→lk l x=v:=by
 induction l with
 | nil=>intro i _ h;simp at h
 | cons p r ih =>
  obtain ⟨k,w⟩:=p
  intro i nd h
  simp only [List.map_cons,List.nodup_cons] at nd
  cases i with
  | zero=>simp only [List.getElem?_cons_zero,Option.some.injEq,Prod.mk.injEq] at h;unfold lk;rw [if_pos h.1.symm];exact h.2
  | succ i =>
   rw [List.getElem?_cons_succ] at h
   have hm:x∈r.map (·.1):=List.mem_map_of_mem (f:=Prod.fst) (List.mem_of_getElem? h)
   unfold lk
   rw [if_neg (λe=>nd.1 (by rw [←e];exact hm))]
   exact ih nd.2 h
theorem lk_set {v w:Option Value}:∀ {i:Nat},(l.map (·.1)).Nodup→l[i]?=some (x,w) →
  lk (l.set i (x,v))=λy=>if y=x then v else lk l y:=by
 induction l with
 | nil=>intro i _ h;simp at h
 | cons p r ih =>
  obtain ⟨k,u⟩:=p
  intro i nd h
  simp only [List.map_cons,List.nodup_cons] at nd
  cases i with
  | zero =>
   simp only [List.getElem?_cons_zero,Option.some.injEq,Prod.mk.injEq] at h
   obtain ⟨rfl,rfl⟩:=h
   funext y
   simp only [List.set_cons_zero,lk]
   by_cases hy:y=k<;>simp [hy]
  | succ i =>
   rw [List.getElem?_cons_succ] at h
   have hm:x∈r.map (·.1):=List.mem_map_of_mem (f:=Prod.fst) (List.mem_of_getElem? h)
   have hxk:x≠k:=λe=>nd.1 (by rw [←e];exact hm)
   funext y
   simp only [List.set_cons_succ,lk,ih nd.2 h]
   by_cases hy:y=k
   ·subst hy;simp [Ne.symm hxk]
   ·simp [hy]
theorem keys_set {v w:Option Value}:∀ {i:Nat},l[i]?=some (x,w)→(l.set i (x,v)).map (·.1)=l.map (·.1):=by
 induction l with
 | nil=>intro i h;simp at h
 | cons p r ih =>
  intro i h
  cases i with
  | zero=>simp only [List.getElem?_cons_zero,Option.some.injEq] at h;subst h;rfl
  | succ i=>rw [List.getElem?_cons_succ] at h;simp only [List.set_cons_succ,List.map_cons,ih h]
theorem lk_init {rest:List Str} (nd:((binds.map λp=>(p.1,some p.2))++rest.map λx=>(x,(none:Option Value))).map (·.1) |>.Nodup) :
  (λx=>binds.reverse.lookup x)=lk ((binds.map λp=>(p.1,some p.2))++rest.map λx=>(x,none)):=by
 have key:∀(bs:List (Str×Value)) (x:Str),(bs.map (·.1)).Nodup→bs.reverse.lookup x=bs.lookup x:=by
  intro bs
  induction bs with
  | nil=>intro x _;rfl
  | cons p r ih =>
   intro x nd
   obtain ⟨k,v⟩:=p
   simp only [List.map_cons,List.nodup_cons] at nd
   rw [List.reverse_cons,List.lookup_append,ih x nd.2]
   by_cases hx:x=k
   ·subst hx
    have:List.lookup x r=none:=by
     rw [List.lookup_eq_none_iff]
     intro q hq
     have:x≠q.1:=λe=>nd.1 (by rw [e];exact List.mem_map_of_mem (f:=Prod.fst) hq)
     simpa using this
    simp [this,List.lookup_cons]
   ·have:(x == k)=false:=by simpa using hx
    simp [List.lookup_cons,this,hx]
 have nd1:(binds.map (·.1)).Nodup:=by
  rw [List.map_append,List.nodup_append] at nd
  have:=nd.1
  simpa [List.map_map,Function.comp_def] using this
 have rn:∀x,lk (rest.map λx=>(x,(none:Option Value))) x=none:=by
  intro x
  clear nd nd1 key
  induction rest with
  | nil=>rfl
  | cons y r ih=>simp only [List.map_cons,lk];by_cases h:x=y<;>simp [h,ih]
 funext x
 rw [key binds x nd1]
 clear nd nd1 key
 induction binds with
 | nil=>simp [rn]
 | cons p r ih =>
  obtain ⟨k,v⟩:=p
  simp only [List.map_cons,List.cons_append,lk,List.lookup_cons]
  by_cases hx:x=k
  ·subst hx;simp
  ·have:(x == k)=false:=by simpa using hx
   simp [this,hx,ih]
structure SS (h₀:Heap) (S X:List Addr) (L:Addr) (l:LS) (N:LN) (Φ:HP) (h:Heap):Prop where
 ns:h.Ns L (lk l)
 nd:(l.map (·.1)).Nodup
 keep:∀b o,b∉S→b≠L→h₀.get? b=some o→h.get? b=some o
 news:∀p∈N,h.get? p.1=some p.2∧p.1≠L∧(h₀.objs.size≤p.1∨p.1∈S)
 ndn:(N.map (·.1)).Nodup
 size:h₀.objs.size≤h.objs.size
 xlt:∀b∈X,b<h.objs.size
 fz:∀h',(∀b o,b≠L→b∉X→b∉N.map (·.1)→h.get? b=some o→h'.get? b=some o)→Φ h'
section
theorem SS.phi (x:SS h₀ S X L l N Φ h):Φ h:=x.fz h λ_ _ _ _ _ e=>e
theorem SS.new (x:SS h₀ S X L l N Φ h) {b:Addr} {o:Obj} (e:N[i]?=some (b,o)):h.get? b=some o:=(x.news _ (List.mem_of_getElem? e)).1
theorem SS.ltL (x:SS h₀ S X L l N Φ h):L<h.objs.size:=x.ns.lt
theorem SS.setL (x:SS h₀ S X L l N Φ h) (hn:h'.Ns L (lk l')) (nd:(l'.map (·.1)).Nodup) (hs:Heap.SameBut L h h'):SS h₀ S X L l' N Φ h' where
 ns:=hn
 nd:=nd
 keep:=λb o hb hL e=>(hs.2 b hL).trans (x.keep b o hb hL e)
 news:=λp hp=>⟨(hs.2 p.1 (x.news p hp).2.1).trans (x.news p hp).1,(x.news p hp).2⟩
 ndn:=x.ndn
 size:=by rw [hs.1];exact x.size
 xlt:=by rw [hs.1];exact x.xlt
 fz:=λh'' k=>x.fz h'' λb o b1 b2 b3 e=>k b o b1 b2 b3 ((hs.2 b b1).trans e)
theorem SS.grow (x:SS h₀ S X L l N Φ h) (hs:h.objs.size≤h'.objs.size) (k:∀b o,h.get? b=some o→h'.get? b=some o):SS h₀ S X L l N Φ h' where
 ns:=x.ns.keeps k
 nd:=x.nd
 keep:=λb o hb hL e=>k _ _ (x.keep b o hb hL e)
 news:=λp hp=>⟨k _ _ (x.news p hp).1,(x.news p hp).2⟩
 ndn:=x.ndn
 size:=Nat.le_trans x.size hs
 xlt:=λb hb=>Nat.lt_of_lt_of_le (x.xlt b hb) hs
 fz:=λh'' q=>x.fz h'' λb o b1 b2 b3 e=>q b o b1 b2 b3 (k b o e)
theorem SS.add (x:SS h₀ S X L l N Φ h) (hs:h.objs.size≤h'.objs.size) (k:∀b o,h.get? b=some o→h'.get? b=some o) (ha:h.objs.size≤a) (e:h'.get? a=some ob):SS h₀ S X L l (N++[(a,ob)]) Φ h' where
 ns:=x.ns.keeps k
 nd:=x.nd
 keep:=λb o hb hL e=>k _ _ (x.keep b o hb hL e)
 news:=λp hp=>by
  rcases List.mem_append.mp hp with hp | hp
  ·exact ⟨k _ _ (x.news p hp).1,(x.news p hp).2⟩
  ·obtain rfl:=List.mem_singleton.mp hp
   exact ⟨e,Nat.ne_of_gt (Nat.lt_of_lt_of_le x.ltL ha),.inl (Nat.le_trans x.size ha)⟩
 ndn:=by
  rw [List.map_append,List.nodup_append]
  refine ⟨x.ndn,by simp,?_⟩
  intro b hb c hc
  simp only [List.map_cons,List.map_nil,List.mem_singleton] at hc
  obtain ⟨p,hp,rfl⟩:=List.mem_map.mp hb
  subst hc
  exact Nat.ne_of_lt (Nat.lt_of_lt_of_le (Heap.lt_size (x.news p hp).1) ha)
 size:=Nat.le_trans x.size hs
 xlt:=λb hb=>Nat.lt_of_lt_of_le (x.xlt b hb) hs
 fz:=λh'' q=>x.fz h'' λb o b1 b2 b3 e=>q b o b1 b2 (by
  rw [List.map_append,List.mem_append,not_or]
  refine ⟨b3,λq=>?_⟩
  have q':=List.mem_singleton.mp q
  exact absurd (Heap.lt_size e) (Nat.not_lt.mpr (by rw [q'];exact ha))) (k b o e)
theorem SS.push (x:SS h₀ S X L l N Φ h) (ob:Obj) (hf:ob.isFreed=false:=by rfl):SS h₀ S X L l (N++[(h.objs.size,ob)]) Φ (h.push ob) :=
 x.add (by rw [Heap.size_push];lia) (λ_ _ e=>Heap.get?_push_of_some _ e) (Nat.le_refl _) (Heap.get?_push_size _ hf)
theorem SS.push' (x:SS h₀ S X L l N Φ h) (ob:Obj):SS h₀ S X L l N Φ (h.push ob) :=
 x.grow (by rw [Heap.size_push];lia) (λ_ _ e=>Heap.get?_push_of_some _ e)
theorem SS.upd (x:SS h₀ S X L l N Φ h) {ob':Obj} (e:N[i]?=some (a,ob)) (hs:Heap.SameBut a h h') (e':h'.get? a=some ob'):SS h₀ S X L l (N.set i (a,ob')) Φ h':=by
 have hm:=x.news _ (List.mem_of_getElem? e)
 have hlt:i<N.length:=(List.getElem?_eq_some_iff.mp e).1
 have hmap:(N.set i (a,ob')).map (·.1)=N.map (·.1):=by
  rw [List.map_set]
  apply List.ext_getElem?
  intro j
  rw [List.getElem?_set]
  by_cases hij:i=j
  ·subst hij
   have e1:(N.map (·.1))[i]?=some a:=by rw [List.getElem?_map,e];rfl
   have e2:N[i]=(a,ob):=(List.getElem?_eq_some_iff.mp e).2
   simp [hlt,e2]
  ·simp [hij]
 refine ⟨x.ns.sameBut hs (Ne.symm hm.2.1),x.nd,λb o hb hL eb=>(hs.2 b ?_).trans (x.keep b o hb hL eb),λp hp=>?_,by rw [hmap];exact x.ndn,by rw [hs.1];exact x.size,by rw [hs.1];exact x.xlt,?_⟩
 ·rintro rfl
  rcases hm.2.2 with q | q
  ·exact absurd (Heap.lt_size eb) (Nat.not_lt.mpr q)
  ·exact hb q
 ·obtain ⟨j,hj⟩:=List.mem_iff_getElem?.mp hp
  rw [List.getElem?_set] at hj
  by_cases hij:i=j
  ·subst hij
   rw [if_pos rfl,if_pos hlt] at hj
   cases hj
   exact ⟨e',hm.2⟩
  ·rw [if_neg hij] at hj
   have hp':=x.news p (List.mem_of_getElem? hj)
   refine ⟨(hs.2 p.1 λq=>?_).trans hp'.1,hp'.2⟩
   have e1:(N.map (·.1))[i]?=some a:=by rw [List.getElem?_map,e];rfl
   have e2:(N.map (·.1))[j]?=some a:=by rw [List.getElem?_map,hj];simp [q]
   have hi':i<(N.map (·.1)).length:=by simpa using hlt
   exact hij (List.getElem?_inj hi' x.ndn |>.mp (e1.trans e2.symm))
 ·intro h'' q
  refine x.fz h'' λb o b1 b2 b3 eb=>q b o b1 b2 (by rw [hmap];exact b3) ((hs.2 b λr=>?_).trans eb)
  exact b3 (by rw [r];exact List.mem_map_of_mem (f:=Prod.fst) (List.mem_of_getElem? e))
theorem SS.drop (x:SS h₀ S X L l N Φ h) (hs:N'.Sublist N):SS h₀ S X L l N' Φ h :=
 ⟨x.ns,x.nd,x.keep,λp hp=>x.news p (hs.subset hp),x.ndn.sublist (hs.map _),x.size,x.xlt,λh' k=>x.fz h' λb o b1 b2 b3 e=>k b o b1 b2 (λq=>b3 ((hs.map _).subset q)) e⟩
theorem SS.weaken (x:SS h₀ S X L l N Φ h) (k:∀h,Φ h→Φ' h):SS h₀ S X L l N Φ' h :=
 ⟨x.ns,x.nd,x.keep,x.news,x.ndn,x.size,x.xlt,λh' q=>k h' (x.fz h' q)⟩
theorem SS.know (x:SS h₀ S X L l N Φ h) {P:HP} (hP:∀h',(∀b o,b≠L→b∉X→b∉N.map (·.1)→h.get? b=some o→h'.get? b=some o)→P h'):SS h₀ S X L l N (λh=>Φ h∧P h) h :=
 ⟨x.ns,x.nd,x.keep,x.news,x.ndn,x.size,x.xlt,λh' q=>⟨x.fz h' q,hP h' q⟩⟩
noncomputable def Since (k:Nat) (h:Heap) (P:HP):Prop:=∀h',(∀b o,k≤b→h.get? b=some o→h'.get? b=some o)→P h'
theorem Since.here {P:HP} (x:Since k h P):P h:=x h λ_ _ _ e=>e
theorem Since.le {P:HP} (x:Since k h P) (hk:k'≤k):Since k' h P:=λh' q=>x h' λb o hb e=>q b o (Nat.le_trans hk hb) e
theorem Since.on {P:HP} (x:Since k h P) (q:∀b o,k≤b→h.get? b=some o→h'.get? b=some o):Since k h' P:=λh'' r=>x h'' λb o hb e=>r b o hb (q b o hb e)
theorem SS.belowN (x:SS h₀ S X L l N Φ h):∀p∈N,p.1<h.objs.size:=λp hp=>Heap.lt_size (x.news p hp).1
end
theorem nneq (nd:(N.map (·.1)).Nodup) (i j:Nat) {b:Addr} {o o':Obj} (hi:N[i]?=some (a,o):=by rfl) (hj:N[j]?=some (b,o'):=by rfl) (hij:i≠j:=by decide):a≠b:=λe=>by
 have e1:(N.map (·.1))[i]?=some a:=by rw [List.getElem?_map,hi];rfl
 have e2:(N.map (·.1))[j]?=some a:=by rw [List.getElem?_map,hj,e];rfl
 exact hij (List.getElem?_inj (List.getElem?_eq_some_iff.mp e1).1 nd |>.mp (e1.trans e2.symm))
structure W0 (K:Frag) (mg mb:Str→Option Value) (h:Heap):Prop where
 k:K.In h
 g:h.Ns mainGlobals mg
 b:h.Ns builtinsNs mb
 lim:h.NoLimit
 size:278≤h.objs.size
noncomputable def AOk (n:Nat) (A:Around):Prop:=A.handled=none∧A.depth+n<recursionLimit∧A.units+8*n<cLine∧A.guards=some []
theorem AOk.le (x:AOk n A) (h:m≤n):AOk m A:=⟨x.1,Nat.lt_of_le_of_lt (Nat.add_le_add_left h _) x.2.1,Nat.lt_of_le_of_lt (Nat.add_le_add_left (Nat.mul_le_mul_left 8 h) _) x.2.2.1,x.2.2.2⟩
theorem AOk.room (x:AOk n A):A.depth<recursionLimit:=Nat.lt_of_le_of_lt (Nat.le_add_right _ _) x.2.1
theorem AOk.room1 (x:AOk (n+1) A):A.depth+1<recursionLimit:=Nat.lt_of_le_of_lt (Nat.add_le_add_left (Nat.le_add_left 1 n) _) x.2.1
theorem AOk.lower (x:AOk (n+1) A) (h1:A'.handled=A.handled) (h2:A'.depth≤A.depth+1) (h3:A'.units≤A.units+8) (h4:A'.guards=A.guards):AOk n A' :=
 ⟨h1.trans x.1,Nat.lt_of_le_of_lt (Nat.add_le_add_right h2 n) (by rw [Nat.add_assoc,Nat.add_comm 1];exact x.2.1),Nat.lt_of_le_of_lt (Nat.add_le_add_right h3 _) (by rw [Nat.add_assoc,Nat.add_comm 8];exact x.2.2.1),h4.trans x.2.2.2⟩
theorem AOk.deeper (x:AOk (n+1) A) (env:Env):AOk n (A.deeper env):=x.lower rfl (Nat.le_refl _) (Nat.add_le_add_left (n:=3) (m:=8) (by decide) _) rfl
theorem AOk.in1 (x:AOk (n+1) A):AOk n A.in1:=x.lower rfl (Nat.le_succ _) (Nat.add_le_add_left (n:=1) (m:=8) (by decide) _) rfl
end
structure Cx where
 prog:Program
 w:World
 A:Around
 env:Env
 g:Array GenState
 d:Drawn
 o:OsState
 h₀:Heap
 S:List Addr
 X:List Addr
 L:Addr
 K:Frag
 mg:Str→Option Value
 mb:Str→Option Value
variable {c:Cx}
section
noncomputable def tabs:List Addr:=[130,137,144,151,158]
structure KDom (K:Frag):Prop where
 lt:∀a o,K.lookup a=some o→a<278∧a∉tabs
structure Cx.Ok (c:Cx) (n:Nat):Prop where
 kind:c.env.scope.kind = .function
 locals:c.env.locals=c.L
 globals:c.env.globals=mainGlobals
 builtins:c.env.builtins=builtinsNs
 A:AOk n c.A
 W:W0 c.K c.mg c.mb c.h₀
 dom:KDom c.K
 S:∀b∈c.S,278≤b∨b∈tabs
 L:278≤c.L
noncomputable abbrev Cx.st (c:Cx) (h:Heap) (t:Nat):Shared:=⟨h,c.g,c.d,t,c.o⟩
noncomputable abbrev Cx.SS (c:Cx) (l:LS) (N:LN) (Φ:HP) (h:Heap):Prop:=Mine.SS c.h₀ c.S c.X c.L l N Φ h
noncomputable abbrev Cx.wp (c:Cx) {α:Type} (t:Sem α) (Q:α→Shared→Prop) (E:VQ) (s:Shared):Prop:=wpAny (model c.prog c.w) c.A t Q E s
section
theorem low_notin (hS:∀b∈S,278≤b∨b∈tabs) {b:Addr} (h1:b<278) (h2:b∉tabs):b∉S:=λh=>by
 rcases hS b h with q | q
 ·exact absurd h1 (Nat.not_lt.mpr q)
 ·exact h2 q
theorem ns_keeps {m:Str→Option Value} (x:h.Ns a m) (k:∀b o,b∉S→h.get? b=some o→h'.get? b=some o) (ha:a∉S):h'.Ns a m :=
 let ⟨o,es,ep,e,r⟩:=x;⟨o,es,ep,k _ _ ha e,r⟩
theorem W0.keeps (x:W0 K mg mb h) (D:KDom K) (hS:∀b∈S,278≤b∨b∈tabs)
  (k:∀b o,b∉S→h.get? b=some o→h'.get? b=some o) (hz:h.objs.size≤h'.objs.size):W0 K mg mb h' where
 k:=λa o e=>k a o (low_notin hS (D.lt a o e).1 (D.lt a o e).2) (x.k a o e)
 g:=ns_keeps x.g k (low_notin hS (by decide) (by decide))
 b:=ns_keeps x.b k (low_notin hS (by decide) (by decide))
 lim:=let ⟨mc,p,q⟩:=x.lim;⟨mc,ns_keeps p k (low_notin hS (by decide) (by decide)),q⟩
 size:=Nat.le_trans x.size hz
theorem Cx.Ok.W1 (H:c.Ok n) (x:c.SS l N Φ h):W0 c.K c.mg c.mb h :=
 H.W.keeps (S:=c.L::c.S) H.dom (λb hb=>(List.mem_cons.mp hb).elim (λe=>.inl (e▸H.L)) (H.S b)) (λb o hb e=>x.keep b o (λq=>hb (List.mem_cons_of_mem _ q)) (λq=>hb (q▸List.mem_cons_self)) e) x.size
theorem ldn {Q:VQ} (H:c.Ok n) (F:c.SS l N Φ h) (hi:l[i]?=some (x,some v)) (hQ:Q v (c.st h t))
  (hl:Loc c.env x):c.wp (loadName c.env x) Q E (c.st h t) :=
 wpAny_loadName_local H.kind hl (by rw [H.locals];exact F.ns) (lk_at F.nd hi) hQ
theorem ld {Q:VQ} (H:c.Ok n) (F:c.SS l N Φ h) (hi:l[i]?=some (x,some v)) (hQ:Q v (c.st h t))
  (hl:Loc c.env x) (hd:ND x):c.wp (eval (.Name x pos) c.env) Q E (c.st h t) :=
 wpAny_Name (ldn H F hi hQ hl) hd
theorem gl {Q:VQ} (H:c.Ok n) (F:c.SS l N Φ h) (hv:c.mg x=some v) (hQ:Q v (c.st h t))
  (hl:Glo c.env x) (hd:ND x):c.wp (eval (.Name x pos) c.env) Q E (c.st h t) :=
 Name_function_global H.kind hl (loadGlobal_global (by rw [H.globals];exact (H.W1 F).g) hv hQ) hd
theorem bl {Q:VQ} (H:c.Ok n) (F:c.SS l N Φ h) (hm:c.mg x=none) (hv:c.mb x=some v) (hQ:Q v (c.st h t))
  (hl:Glo c.env x) (hd:ND x):c.wp (eval (.Name x pos) c.env) Q E (c.st h t) :=
 Name_function_global H.kind hl (loadGlobal_builtin (by rw [H.globals];exact (H.W1 F).g) hm (by rw [H.builtins];exact (H.W1 F).b) hv hQ) hd
theorem stn {w:Option Value} {Q:Unit→Shared→Prop} (H:c.Ok n) (F:c.SS l N Φ h) (hi:l[i]?=some (x,w))
  (hQ:∀h',c.SS (l.set i (x,some v)) N Φ h'→Q () (c.st h' (t+1))) (hl:Loc c.env x):c.wp (storeName c.env x v) Q E (c.st h t):=by
 refine wpAny_storeName_local hl (by rw [H.locals];exact F.ns) (λh' hn hs=>?_) ?_
 ·rw [H.locals] at hn hs
  refine hQ h' (F.setL ?_ (by rw [keys_set hi];exact F.nd) hs)
  rw [lk_set F.nd hi];exact hn
 ·rw [H.kind];rfl
noncomputable def EvI (c:Cx) (l:LS) (N:LN) (Φ:HP) (e:Expr) (v:Int):Prop :=
 ∀Φ':HP,(∀h,Φ' h→Φ h)→∀h t (Q E:VQ),c.SS l N Φ' h→(∀u h' t',c.SS l N Φ' h'→Q (.int v u) (c.st h' t'))→c.wp (eval e c.env) Q E (c.st h t)
noncomputable def EvV (c:Cx) (l:LS) (N:LN) (Φ:HP) (e:Expr) (v:Value):Prop :=
 ∀Φ':HP,(∀h,Φ' h→Φ h)→∀h t (Q:VQ) (E:VQ),c.SS l N Φ' h→(∀h' t',c.SS l N Φ' h'→Q v (c.st h' t'))→c.wp (eval e c.env) Q E (c.st h t)
theorem EvI.nm (i:Nat) {v:Int} (H:c.Ok n) (hi:l[i]?=some (x,some (.int v u))) (hl:Loc c.env x:=by rfl) (hd:ND x:=by decide):EvI c l N Φ (.Name x pos) v :=
 λ_ k h t _ _ F hQ=>ld H F hi (hQ u h t F) hl hd
theorem EvV.nm (i:Nat) (H:c.Ok n) (hi:l[i]?=some (x,some v)) (hl:Loc c.env x:=by rfl) (hd:ND x:=by decide):EvV c l N Φ (.Name x pos) v :=
 λ_ k h t _ _ F hQ=>ld H F hi (hQ h t F) hl hd
theorem EvV.gl (H:c.Ok n) (hv:c.mg x=some v) (hl:Glo c.env x:=by rfl) (hd:ND x:=by decide):EvV c l N Φ (.Name x pos) v :=
 λ_ k h t _ _ F hQ=>Mine.gl H F hv (hQ h t F) hl hd
theorem EvV.bl (H:c.Ok n) (hm:c.mg x=none) (hv:c.mb x=some v) (hl:Glo c.env x:=by rfl) (hd:ND x:=by decide):EvV c l N Φ (.Name x pos) v :=
 λ_ k h t _ _ F hQ=>Mine.bl H F hm hv (hQ h t F) hl hd
theorem EvI.const {i:Int}:EvI c l N Φ (.Constant (.int i) k pos) i:=λ_ _ h t _ _ F hQ=>wpAny_Constant_int (hQ t h (t+1) F)
theorem EvI.bin {op:Operator} {a b v:Int} (H1:EvI c l N Φ e₁ a) (H2:EvI c l N Φ e₂ b)
  (op_:∀(Φ:HP) u u' h t (Q E:VQ),c.SS l N Φ h→(∀u h' t',c.SS l N Φ h'→Q (.int v u) (c.st h' t'))→c.wp (binaryOp op (.int a u) (.int b u')) Q E (c.st h t)) :
  EvI c l N Φ (.BinOp e₁ op e₂ pos) v :=
 λ_ k h t _ _ F hQ=>wpAny_BinOp (H1 _ k h t _ _ F λ_ _ _ F1=>H2 _ k _ _ _ _ F1 λ_ _ _ F2=>op_ _ _ _ _ _ _ _ F2 hQ)
theorem EvI.add {a b:Int} (H1:EvI c l N Φ e₁ a) (H2:EvI c l N Φ e₂ b):EvI c l N Φ (.BinOp e₁ .Add e₂ pos) (a+b) :=
 .bin H1 H2 λ_ _ _ h t _ _ F hQ=>PyProof.Rows.add_int (hQ t h (t+1) F)
theorem EvI.sub {a b:Int} (H1:EvI c l N Φ e₁ a) (H2:EvI c l N Φ e₂ b):EvI c l N Φ (.BinOp e₁ .Sub e₂ pos) (a - b) :=
 .bin H1 H2 λ_ _ _ h t _ _ F hQ=>PyProof.Rows.sub_int (hQ t h (t+1) F)
theorem EvI.and {a b:Int} (H1:EvI c l N Φ e₁ a) (H2:EvI c l N Φ e₂ b):EvI c l N Φ (.BinOp e₁ .BitAnd e₂ pos) (Builtin.bitAnd a b) :=
 .bin H1 H2 λ_ _ _ h t _ _ F hQ=>PyProof.Rows.and_int (hQ t h (t+1) F)
theorem EvI.or {a b:Int} (H1:EvI c l N Φ e₁ a) (H2:EvI c l N Φ e₂ b):EvI c l N Φ (.BinOp e₁ .BitOr e₂ pos) (Builtin.bitOr a b) :=
 .bin H1 H2 λ_ _ _ h t _ _ F hQ=>PyProof.Rows.or_int (hQ t h (t+1) F)
theorem EvI.xor {a b:Int} (H1:EvI c l N Φ e₁ a) (H2:EvI c l N Φ e₂ b):EvI c l N Φ (.BinOp e₁ .BitXor e₂ pos) (Builtin.bitXor a b) :=
 .bin H1 H2 λ_ _ _ h t _ _ F hQ=>PyProof.Rows.xor_int (hQ t h (t+1) F)
theorem EvI.shr {a b:Int} (H1:EvI c l N Φ e₁ a) (H2:EvI c l N Φ e₂ b) (hb:0≤b):EvI c l N Φ (.BinOp e₁ .RShift e₂ pos) (a.fdiv (2 ^ b.toNat)) :=
 .bin H1 H2 λ_ _ _ h t _ _ F hQ=>PyProof.Rows.rshift_int hb (hQ t h (t+1) F)
theorem EvI.shl {a b:Int} (H1:EvI c l N Φ e₁ a) (H2:EvI c l N Φ e₂ b) (hb:0≤b) (hs:(Builtin.Int.intBits a:Int)+b≤2 ^ 27):EvI c l N Φ (.BinOp e₁ .LShift e₂ pos) (a*2 ^ b.toNat) :=
 .bin H1 H2 λ_ _ _ h t _ _ F hQ=>PyProof.Rows.lshift_int hb hs (hQ t h (t+1) F)
theorem EvI.mod {a b:Int} (H1:EvI c l N Φ e₁ a) (H2:EvI c l N Φ e₂ b) (hb:b≠0):EvI c l N Φ (.BinOp e₁ .Mod e₂ pos) (a.fmod b) :=
 .bin H1 H2 λ_ _ _ h t _ _ F hQ=>PyProof.Rows.mod_int' hb (hQ t h (t+1) F)
theorem EvI.mul {a b:Int} (H1:EvI c l N Φ e₁ a) (H2:EvI c l N Φ e₂ b) (hm:IntMulOk a b):EvI c l N Φ (.BinOp e₁ .Mult e₂ pos) (a*b) :=
 .bin H1 H2 λ_ _ _ h t _ _ F hQ=>PyProof.Rows.mul_int (hQ t h (t+1) F) hm
theorem EvI.cast {a b:Int} (H:EvI c l N Φ e a) (h:a=b):EvI c l N Φ e b:=h▸H
noncomputable def EvIs (c:Cx) (l:LS) (N:LN) (Φ:HP) (pos:Pos) (es:List Expr) (vs:List Int):Prop :=
 ∀Φ':HP,(∀h,Φ' h→Φ h)→∀h t (Q:List Value→Shared→Prop) (E:VQ),c.SS l N Φ' h→(∀us h' t',us.length=vs.length→c.SS l N Φ' h'→Q (List.zipWith Value.int vs us) (c.st h' t')) →
  c.wp (spliced (backTo pos (starEach es c.env))) Q E (c.st h t)
theorem EvIs.nil:EvIs c l N Φ pos [] []:=λ_ _ h t _ _ F hQ=>spliced_nil (hQ [] h t rfl F)
theorem EvIs.cons {v:Int} {vs:List Int} (H1:EvI c l N Φ e v) (H2:EvIs c l N Φ pos es vs)
  (he:Unst e es c.env:=by rfl):EvIs c l N Φ pos (e::es) (v::vs):=by
 intro Φ' k h t Q E F hQ
 rw [he]
 exact spliced_cons (H1 _ k h t _ _ F λu h1 t1 F1=>H2 _ k h1 t1 _ _ F1 λus h2 t2 hl F2=>hQ (u::us) h2 t2 (by simp [hl]) F2)
noncomputable def Grow (h h':Heap):Prop:=h.objs.size≤h'.objs.size∧∀b o,h.get? b=some o→h'.get? b=some o
theorem Grow.refl (h:Heap):Grow h h:=⟨Nat.le_refl _,λ_ _ e=>e⟩
theorem Grow.trans {h₁ h₃:Heap} (x:Grow h₁ h₂) (y:Grow h₂ h₃):Grow h₁ h₃:=⟨Nat.le_trans x.1 y.1,λb o e=>y.2 b o (x.2 b o e)⟩
theorem SS.grown (x:SS h₀ S X L l N Φ h) (y:Grow h h'):SS h₀ S X L l N Φ h':=x.grow y.1 y.2
noncomputable def FnI (prog:Program) (w:World) (K:Frag) (mg mb:Str→Option Value) (n:Nat) (f:Addr) (as:List Int) (v:Int):Prop :=
 ∀A h g d t o (us:List Tok) (R:Result→Shared→Prop),AOk n A→W0 K mg mb h→us.length=as.length →
  (∀u h' t',Grow h h'→R (.ok (.ret (.int v u))) ⟨h',g,d,t',o⟩)→codeAny (model prog w) A (.call (.ref f) ⟨List.zipWith Value.int as us,[]⟩) R ⟨h,g,d,t,o⟩
structure FnK (K:Frag) (f:Addr) (name:Str) (params:Arguments) (body:List Stmt) (scope:Scope) (cd:Value):Prop where
 fn:Ex5 λoc od os pm doc=>K.lookup f=some ⟨oc,od,.func (docDef name params body scope pm cd doc),os⟩
 code:codeIn K cd name=true
theorem evalArgs_all {f:Value} {args:List (Bool×Sem Value)} {Q:Args→Shared→Prop} (hp:args.any (·.1)=false)
  (H:wpAny M A (spliced args) (λvs s'=>Q ⟨vs,[]⟩ s') E s):wpAny M A (evalArgs f true args []) Q E s:=by
 cases args with
 | nil =>
  unfold evalArgs
  show wpAny M A (spliced [] >>= _) Q E s
  refine wpAny_bind (wpAny_mono H (λvs s' h'=>?_) λ_ _ x=>x)
  refine wpAny_holding ?_
  exact wpAny_bind (wpAny_pure (wpAny_bind (wpAny_pure (wpAny_pure h'))))
 | cons x r =>
  obtain ⟨b,x⟩:=x
  have hb:b=false:=by simp only [List.any_cons,Bool.or_eq_false_iff] at hp;exact hp.1
  subst hb
  exact evalArgs_plain H
theorem callWith_fn {args:List (Bool×Sem Value)} {Q:VQ} {o:Obj}
  (hp:args.any (·.1)=false) (hd:o.data = .func fd)
  (H:wpAny M A (spliced args) (λvs s₁=>s₁.heap.get? f=some o∧wpAny M A (call (.ref f) vs) Q E s₁) E s):wpAny M A (callWith pos (.ref f) [] args []) Q E s :=
 callWith_function (o:=o) (fd:=fd) (evalArgs_all hp (wpAny_mono H (λvs s₁ h₁=>⟨⟨h₁.1,hd⟩,h₁.2⟩) λ_ _ x=>x))
theorem EvI.call {as:List Int} {v:Int} {nm:Str}
  (H:c.Ok n) (hv:c.mg x=some (.ref f)) (hf:FnK c.K f nm params body scope cd) (ha:EvIs c l N Φ pos es as) (hc:FnI c.prog c.w c.K c.mg c.mb m f as v) (hm:m≤n)
  (hl:Glo c.env x:=by rfl) (hd:ND x:=by decide)
  (hp:Plain pos es c.env:=by rfl)
  (he:CallIs x np es pos c.env:=by rfl) :
  EvI c l N Φ (.Call (.Name x np) es [] pos) v:=by
 intro Φ' k h t Q E F hQ
 obtain ⟨oc,od,os,pm,doc,hk⟩:=hf.fn
 refine PyProof.Rows.Call_ ?_ he
 refine Mine.gl H F hv ?_ hl hd
 refine callWith_fn (o:=_) (fd:=_) hp rfl (ha _ k h t _ _ F λus h1 t1 hlen F1=>⟨(H.W1 F1).k _ _ hk,?_⟩)
 refine wpAny_call (hc c.A h1 c.g c.d t1 c.o us _ (H.A.le hm) (H.W1 F1) hlen λu h2 t2 G=>?_)
 exact hQ u h2 t2 (SS.grown F1 G)
end
end
section
theorem nat_xor_add (m n:Nat):(m ^^^ n)+2*(m &&& n)=m+n:=by
 have h1:=PyProof.Rows.nat_or_add_and m n
 have h2:=PyProof.Rows.nat_or_add_and (m ^^^ n) (m &&& n)
 have e1:(m ^^^ n) &&& (m &&& n)=0:=by
  apply Nat.eq_of_testBit_eq;intro i
  simp only [Nat.testBit_and,Nat.testBit_xor,Nat.zero_testBit]
  cases m.testBit i<;>cases n.testBit i<;>rfl
 have e2:(m ^^^ n) ||| (m &&& n)=m ||| n:=by
  apply Nat.eq_of_testBit_eq;intro i
  simp only [Nat.testBit_and,Nat.testBit_xor,Nat.testBit_or]
  cases m.testBit i<;>cases n.testBit i<;>rfl
 rw [e1,e2] at h2
 lia
theorem bitAnd_nat (a b:Nat):Builtin.bitAnd (a:Int) (b:Int)=((a &&& b:Nat):Int):=by
 rw [PyProof.Rows.bitAnd_pp (by trivial) (by trivial)];rfl
theorem bitOr_nat (a b:Nat):Builtin.bitOr (a:Int) (b:Int)=((a ||| b:Nat):Int):=by
 rw [PyProof.Rows.bitOr_and,bitAnd_nat]
 have:=PyProof.Rows.nat_or_add_and a b
 lia
theorem bitXor_nat (a b:Nat):Builtin.bitXor (a:Int) (b:Int)=((a ^^^ b:Nat):Int):=by
 unfold Builtin.bitXor
 rw [bitOr_nat,bitAnd_nat]
 have h1:=PyProof.Rows.nat_or_add_and a b
 have h2:=nat_xor_add a b
 lia
theorem shr_nat (a b:Nat):((a:Int)).fdiv (2 ^ ((b:Int)).toNat)=((a >>> b:Nat):Int):=by
 rw [Int.toNat_natCast,Nat.shiftRight_eq_div_pow,show ((2:Int) ^ b)=((2 ^ b:Nat):Int) by rw [Int.natCast_pow];rfl]
 rw [Int.fdiv_eq_ediv_of_nonneg _ (Int.natCast_nonneg _),Int.natCast_ediv]
theorem shl_nat (a b:Nat):(a:Int)*2 ^ ((b:Int)).toNat=((a <<< b:Nat):Int):=by
 rw [Int.toNat_natCast,Nat.shiftLeft_eq,Int.natCast_mul,Int.natCast_pow];rfl
theorem mod_nat (a b:Nat):((a:Int)).fmod (b:Int)=((a % b:Nat):Int):=by
 rw [Int.fmod_eq_emod_of_nonneg _ (by trivial),Int.natCast_emod]
theorem div_nat (a b:Nat):((a:Int)).fdiv (b:Int)=((a / b:Nat):Int):=by
 rw [Int.fdiv_eq_ediv_of_nonneg _ (Int.natCast_nonneg _),Int.natCast_ediv]
theorem bits_nat {a:Nat} (h:a<2 ^ m):Builtin.Int.intBits (a:Int)≤m:=intBits_le_iff.mpr (by simpa using h)
noncomputable def EvN (c:Cx) (l:LS) (N:LN) (Φ:HP) (e:Expr) (v:Nat):Prop:=EvI c l N Φ e (v:Int)
section
variable {a b:Nat}
theorem EvN.nm (i:Nat) {v:Nat} (H:c.Ok n) (hi:l[i]?=some (x,some (.int (v:Int) u)):=by rfl) (hl:Loc c.env x:=by rfl) (hd:ND x:=by decide):EvN c l N Φ (.Name x pos) v :=
 EvI.nm i H hi hl hd
theorem EvN.const {i:Int} (v:Nat) (h:i=(v:Int):=by rfl):EvN c l N Φ (.Constant (.int i) k pos) v:=by
 subst h;exact EvI.const
theorem EvN.add (H1:EvN c l N Φ e₁ a) (H2:EvN c l N Φ e₂ b):EvN c l N Φ (.BinOp e₁ .Add e₂ pos) (a+b):=EvI.cast (EvI.add H1 H2) (Int.natCast_add a b).symm
theorem EvN.sub (H1:EvN c l N Φ e₁ a) (H2:EvN c l N Φ e₂ b) (h:b≤a):EvN c l N Φ (.BinOp e₁ .Sub e₂ pos) (a - b):=EvI.cast (EvI.sub H1 H2) (by lia)
theorem EvN.and (H1:EvN c l N Φ e₁ a) (H2:EvN c l N Φ e₂ b):EvN c l N Φ (.BinOp e₁ .BitAnd e₂ pos) (a &&& b):=EvI.cast (EvI.and H1 H2) (bitAnd_nat a b)
theorem EvN.or (H1:EvN c l N Φ e₁ a) (H2:EvN c l N Φ e₂ b):EvN c l N Φ (.BinOp e₁ .BitOr e₂ pos) (a ||| b):=EvI.cast (EvI.or H1 H2) (bitOr_nat a b)
theorem EvN.xor (H1:EvN c l N Φ e₁ a) (H2:EvN c l N Φ e₂ b):EvN c l N Φ (.BinOp e₁ .BitXor e₂ pos) (a ^^^ b):=EvI.cast (EvI.xor H1 H2) (bitXor_nat a b)
theorem EvN.shr (H1:EvN c l N Φ e₁ a) (H2:EvN c l N Φ e₂ b):EvN c l N Φ (.BinOp e₁ .RShift e₂ pos) (a >>> b):=EvI.cast (EvI.shr H1 H2 (by trivial)) (shr_nat a b)
theorem EvN.shl (H1:EvN c l N Φ e₁ a) (H2:EvN c l N Φ e₂ b) (m:Nat) (ha:a<2 ^ m) (hm:m+b≤134217728):EvN c l N Φ (.BinOp e₁ .LShift e₂ pos) (a <<< b) :=
 EvI.cast (EvI.shl H1 H2 (by trivial) (by have:=bits_nat ha;lia)) (shl_nat a b)
theorem EvN.mod (H1:EvN c l N Φ e₁ a) (H2:EvN c l N Φ e₂ b) (hb:b≠0):EvN c l N Φ (.BinOp e₁ .Mod e₂ pos) (a % b):=EvI.cast (EvI.mod H1 H2 (by lia)) (mod_nat a b)
theorem EvN.mul (H1:EvN c l N Φ e₁ a) (H2:EvN c l N Φ e₂ b) (m k:Nat) (ha:a<2 ^ m) (hb:b<2 ^ k) (hm:m+k≤134217728):EvN c l N Φ (.BinOp e₁ .Mult e₂ pos) (a*b) :=
 EvI.cast (EvI.mul H1 H2 (IntMulOk.of_le (bits_nat ha) (bits_nat hb) hm)) (Int.natCast_mul a b).symm
theorem EvN.div (H1:EvN c l N Φ e₁ a) (H2:EvN c l N Φ e₂ b) (hb:b≠0) (hm:b<1073741824):EvN c l N Φ (.BinOp e₁ .FloorDiv e₂ pos) (a / b) :=
 EvI.cast (EvI.bin H1 H2 λ_ _ _ h t _ _ F hQ=>PyProof.Rows.floordiv_int (by lia) (hQ t h (t+1) F) (Or.inl (PyProof.noPylong_small (by trivial)))) (div_nat a b)
theorem EvN.cast (H:EvN c l N Φ e₁ a) (h:a=b):EvN c l N Φ e₁ b:=h▸H
end
end
section
@[reducible] noncomputable def frameCx (prog:Program) (w:World) (A:Around) (g:Array GenState) (d:Drawn) (o:OsState) (h:Heap) (S:List Addr) (K:Frag) (mg mb:Str→Option Value) (name:Str) (scope:Scope) (f:Addr) (cd:Value):Cx where
 prog:=prog
 w:=w
 A:=A.deeper (PyProof.Rows.envOf name scope h.objs.size f cd)
 env:=PyProof.Rows.envOf name scope h.objs.size f cd
 g:=g
 d:=d
 o:=o
 h₀:=h
 S:=S
 X:=[]
 L:=h.objs.size
 K:=K
 mg:=mg
 mb:=mb
theorem enter
  {name:Str} {args:List Value}
  (rest:List Str) (S:List Addr) (N:LN)
  (hf:FnK K f name params body scope cd) (hA:AOk (n+1) A) (W:W0 K mg mb h) (D:KDom K)
  (hbind:∀pm doc,bindArgs (docDef name params body scope pm cd doc) ⟨args,kw⟩=pure binds)
  {ns:List Str} (hns:binds.map (·.1)=ns) (hnd':decide ((ns++rest).Nodup)=true)
  (hS:∀b∈S,278≤b∨b∈tabs) (hN:∀p∈N,h.get? p.1=some p.2∧p.1∈S) (hNd:(N.map (·.1)).Nodup)
  (hsc:(ns.all (λx=>decide (scope.names.lookup x=some .local)) && decide (scope.kind = .function) && !scope.isCoroutine && !scope.isGenerator && scope.names.all λx=>decide (x.2≠.cell))=true)
  (H:∀h₁ t₁,let c:=frameCx prog w A g d o h S K mg mb name scope f cd;let l:LS:=(binds.map λp=>(p.1,some p.2))++rest.map λx=>(x,none);let QQ:Flow→Shared→Prop:=λfl s'=>R (.ok (.ret (match fl with | .ret v=>v | _=>.none))) s';c.Ok n→c.SS l N (λ_=>True) h₁→c.wp (execs body c.env) QQ (λ_ _=>False) (c.st h₁ t₁)) :
  codeAny (model prog w) A (.call (.ref f) ⟨args,kw⟩) R ⟨h,g,d,t,o⟩:=by
 simp only [Bool.and_eq_true,List.all_eq_true,decide_eq_true_eq,Bool.not_eq_true'] at hsc
 obtain ⟨⟨⟨⟨hloc',hk⟩,hco⟩,hgen⟩,hcell⟩:=hsc
 have hloc:∀x∈binds,scope.names.lookup x.1=some .local:=λx hx=>hloc' _ (by rw [←hns];exact List.mem_map_of_mem (f:=Prod.fst) hx)
 have hnd:(((binds.map λp=>(p.1,some p.2))++rest.map λx=>(x,(none:Option Value))).map (·.1)).Nodup:=by
  have e:((binds.map λp=>(p.1,some p.2))++rest.map λx=>(x,(none:Option Value))).map (·.1)=ns++rest:=by
   rw [List.map_append,←hns,List.map_map,List.map_map]
   simp [Function.comp_def]
  rw [e];exact of_decide_eq_true hnd'
 obtain ⟨oc,od,os,pm,doc,hl⟩:=hf.fn
 have ho:=W.k _ _ hl
 refine codeAny_call_function hA.room ho rfl hco hgen rfl (codeRec_of W.k hf.code) ?_
 rw [hbind pm doc]
 refine wpAny_pure (wpAny_newFunctionEnv hcell hloc (λh₁ hns hsb=>⟨W.lim.fresh _ hsb,?_⟩) hk)
 refine codeAny_func ?_
 have G:∀b o,h.get? b=some o→h₁.get? b=some o:=λb o e=>hsb.extBut b o (Nat.ne_of_lt (Heap.lt_size e)) (Heap.get?_push_of_some _ e)
 have ok:(frameCx prog w A g d o h S K mg mb name scope f cd).Ok n:=⟨hk,rfl,rfl,rfl,hA.deeper _,W,D,hS,W.size⟩
 have F:(frameCx prog w A g d o h S K mg mb name scope f cd).SS ((binds.map λp=>(p.1,some p.2))++rest.map λx=>(x,none)) N (λ_=>True) h₁:=by
  refine ⟨by rw [←lk_init hnd];exact hns,hnd,λb o _ _ e=>G b o e,λp hp=>⟨G _ _ (hN p hp).1,Nat.ne_of_lt (Heap.lt_size (hN p hp).1),.inr (hN p hp).2⟩,hNd,?_,(λ_ hb=>nomatch hb),λ_ _=>trivial⟩
  rw [hsb.1,Heap.size_push];exact Nat.le_succ _
 exact wpAny_mono (H h₁ _ ok F) (λ_ _ x=>x) λ_ _ x=>x.elim
section
theorem asI {v:Int} {w:Option Value} (i:Nat) (H:c.Ok n) (F:c.SS l N Φ h) (he:EvI c l N Φ e v)
  (hQ:∀u h' t',c.SS (l.set i (x,some (.int v u))) N Φ h'→c.wp (execs rest c.env) Q E (c.st h' t'))
  (hi:l[i]?=some (x,w):=by rfl) (hl:Loc c.env x:=by rfl) (hs:Swp e x p' pos c.env:=by rfl) :
  c.wp (execs (.Assign [.Name x p'] e pos::rest) c.env) Q E (c.st h t) :=
 wpAny_execs_cons (wpAny_Assign_Name (he _ (λ_ x=>x) h t _ _ F λu h1 t1 F1=>stn H F1 hi (λh2 F2=>hQ u h2 _ F2) hl) hs)
theorem retI {v:Int} (F:c.SS l N Φ h) (he:EvI c l N Φ e v) (hQ:∀u h' t',c.SS l N Φ h'→Q (.ret (.int v u)) (c.st h' t')) :
  c.wp (execs (.Return (some e) pos::rest) c.env) Q E (c.st h t) :=
 wpAny_execs_cons (wpAny_Return_some (he _ (λ_ x=>x) h t _ _ F λu h1 t1 F1=>hQ u h1 t1 F1))
end
theorem SS.growth (x:SS h₀ S X L l N Φ h) (hS:S=[]) (hL:h₀.objs.size≤L):Grow h₀ h:=by
 subst hS;exact ⟨x.size,λb o e=>x.keep b o (by simp) (Nat.ne_of_lt (Nat.lt_of_lt_of_le (Heap.lt_size e) hL)) e⟩
noncomputable def top (k:Nat):Stmt:=(PySem.Challenge.pw_lk0012_01.main.body[k]?).getD (.Pass default)
noncomputable def stB:Stmt→Expr×List Stmt
 | .While t b _ _=>(t,b)
 | .ClassDef _ _ _ b ..=>(.Constant .none 0 default,b)
 | _=>(.Constant .none 0 default,[])
noncomputable def dfR (s:Stmt):DefRec:=(DefRec.ofStmt? s).getD ⟨"",⟨[],[],none,[],[],none,[]⟩,(stB s).2,default,default⟩
noncomputable def arOf (s:Stmt):Arguments:=(dfR s).params
noncomputable def bdOf (s:Stmt):List Stmt:=(dfR s).body
noncomputable def scOf (s:Stmt):Scope:=(dfR s).scope
noncomputable def sub (k j:Nat):Stmt:=(bdOf (top k))[j]?.getD (.Pass default)
noncomputable def mDef (name qual:Str) (params:Arguments) (body:List Stmt) (scope:Scope) (dflt pm code doc:Value):FuncData :=
 {name,qualname:=qual,params,body:=.stmts body,scope,globals:=mainGlobals,closure:=[],defaults:=dflt,kwdefaults:=.none,
  doc,pyModule:=pm,code,builtins:=builtinsNs }
end
section
open PySem PySem.Spec PySem.Calls PySem.W PyProof.Rows
noncomputable section
noncomputable abbrev fnO (name qual:Str) (s:Stmt) (dflt pm code doc:Value):Obj:={ cls:=.type "function",data:=.func (mDef name qual (arOf s) (bdOf s) (scOf s) dflt pm code doc) }
noncomputable abbrev cdO (name qual:Str) (t:Tok) (line a b fl:Int) (r:Addr) (v1 v2 v3 v4:Value) (y:Nat):Obj :=
 {cls:=.type "code",data:=.fields #[.str name t,.str qual (t+1),.str "/claim/cut.py" (t+2),.int line 0,.int a 0,.int b 0,.int 0 0,.int fl 0,.ref r,.bool true,.int 317 0,.ref (r+1),v1,v2,v3,v4,.int (y:Int) 0,.int line 0,.str "/claim/cut.py" (y+1)] }
noncomputable abbrev kE (P:Params) (x:Str) (t:Tok) (v:Value):DictEntry:=⟨PyData.keyHash P x,.str x t,v⟩
noncomputable abbrev rS (x:Str) (v:Value):Str×Option Value:=(x,some v)
noncomputable abbrev rO (a:Addr) (o:Obj):Addr×Obj:=(a,o)
noncomputable abbrev rN (x:Str):Str×Option Value:=(x,none)
noncomputable def o4:Obj:=⟨.type "module",some 0,.plain,#[]⟩
noncomputable def o48:Obj:=cdO "ExpectedTypeError" "ExpectedTypeError" 325 3 3 0 3 43 (.none) (.ref 45) (.ref 46) (.ref 47) 331
noncomputable def o49:Obj:=fnO "ExpectedTypeError" "ExpectedTypeError" (top 2) (.none) (.str "passlib.exc" 323) (.ref 48) (.none)
noncomputable def o55:Obj:=cdO "ExpectedStringError" "ExpectedStringError" 334 5 2 0 3 50 (.none) (.ref 52) (.ref 53) (.ref 54) 339
noncomputable def o56:Obj:=fnO "ExpectedStringError" "ExpectedStringError" (top 3) (.none) (.str "passlib.exc" 323) (.ref 55) (.none)
noncomputable def o64:Obj:=⟨.type "tuple",none,.seq #[.str "utf-8" 354,.str "value" 355,.none] 0,#[]⟩
noncomputable def o70:Obj:=cdO "to_bytes" "to_bytes" 356 15 4 0 3 65 (.none) (.ref 67) (.ref 68) (.ref 69) 363
noncomputable def o71:Obj:=fnO "to_bytes" "to_bytes" (top 8) (.ref 64) (.str "passlib.utils" 344) (.ref 70) (.none)
noncomputable def o77:Obj:=cdO "salsa20" "salsa20" 368 27 1 0 3 72 (.none) (.ref 74) (.ref 75) (.ref 76) 406
noncomputable def o78:Obj:=fnO "salsa20" "salsa20" (top 10) (.none) (.str "passlib.crypto.scrypt._salsa" 366) (.ref 77) (.none)
noncomputable def o92:Obj:=cdO "__init__" "itemgetter.__init__" 425 118 2 2 7 87 (.none) (.ref 89) (.ref 90) (.ref 91) 431
noncomputable def o93:Obj:=fnO "__init__" "itemgetter.__init__" (sub 12 1) (.none) (.str "operator" 409) (.ref 92) (.none)
noncomputable def o99:Obj:=cdO "__call__" "itemgetter.__call__" 434 121 2 2 3 94 (.none) (.ref 96) (.ref 97) (.ref 98) 442
noncomputable def o100:Obj:=fnO "__call__" "itemgetter.__call__" (sub 12 2) (.none) (.str "operator" 409) (.ref 99) (.none)
noncomputable def o117 (P:Params):Obj:=⟨.type "dict",none,.dict #[kE P "__module__" 418 (.str "operator" 409),kE P "__firstlineno__" 422 (.int (115) 421),kE P "__slots__" 424 (.ref 86),kE P "__init__" 433 (.ref 93),kE P "__call__" 444 (.ref 100),kE P "__repr__" 452 (.ref 107),kE P "__reduce__" 459 (.ref 114),kE P "__static_attributes__" 461 (.ref 115),kE P "_items" 463 (.ref 119),kE P "__doc__" 464 (.none)] 3,#[]⟩
noncomputable def o118:Obj:=⟨.type "type",none,.cls { name:="itemgetter",bases:=[.type "object"],mro:=[.ref 118,.type "object"],ns:=117,qualname:="itemgetter",hasDict:=false,slotNames:=["_items"],subclasses:=[],abstract:=false,collection:=none,hasDel:=false },#[none,none,some (.str "itemgetter" 411),some (.str "itemgetter" 419),some (.builtin "object.__new__"),some (.bool false)]⟩
noncomputable def o119:Obj:=⟨.type "member_descriptor",none,.fields #[.str "_items" 462,.ref 118,.builtin "proto.slot",.builtin "proto.slot#set",.int (0) 0],#[]⟩
noncomputable def o134:Obj:=cdO "__init__" "ScryptEngine.__init__" 497 152 4 0 3 129 (.none) (.ref 131) (.ref 132) (.ref 133) 508
noncomputable def o135:Obj:=fnO "__init__" "ScryptEngine.__init__" (sub 14 9) (.none) (.str "passlib.crypto.scrypt._builtin" 467) (.ref 134) (.none)
noncomputable def o141:Obj:=cdO "run" "ScryptEngine.run" 511 175 5 0 3 136 (.none) (.ref 138) (.ref 139) (.ref 140) 524
noncomputable def o142:Obj:=fnO "run" "ScryptEngine.run" (sub 14 10) (.none) (.str "passlib.crypto.scrypt._builtin" 467) (.ref 141) (.none)
noncomputable def o148:Obj:=cdO "smix" "ScryptEngine.smix" 527 186 2 0 3 143 (.none) (.ref 145) (.ref 146) (.ref 147) 544
noncomputable def o149:Obj:=fnO "smix" "ScryptEngine.smix" (sub 14 11) (.none) (.str "passlib.crypto.scrypt._builtin" 467) (.ref 148) (.none)
noncomputable def o155:Obj:=cdO "bmix" "ScryptEngine.bmix" 547 211 3 0 3 150 (.none) (.ref 152) (.ref 153) (.ref 154) 558
noncomputable def o156:Obj:=fnO "bmix" "ScryptEngine.bmix" (sub 14 12) (.none) (.str "passlib.crypto.scrypt._builtin" 467) (.ref 155) (.none)
noncomputable def o162:Obj:=cdO "_bmix_1" "ScryptEngine._bmix_1" 561 222 3 0 3 157 (.none) (.ref 159) (.ref 160) (.ref 161) 569
noncomputable def o163:Obj:=fnO "_bmix_1" "ScryptEngine._bmix_1" (sub 14 13) (.none) (.str "passlib.crypto.scrypt._builtin" 467) (.ref 162) (.none)
noncomputable def o165 (P:Params):Obj:=⟨.type "dict",none,.dict #[kE P "__module__" 476 (.str "passlib.crypto.scrypt._builtin" 467),kE P "__firstlineno__" 480 (.int (141) 479),kE P "n" 482 (.int (0) 481),kE P "r" 484 (.int (0) 483),kE P "p" 486 (.int (0) 485),kE P "smix_bytes" 488 (.int (0) 487),kE P "iv_bytes" 490 (.int (0) 489),kE P "bmix_len" 492 (.int (0) 491),kE P "bmix_half_len" 494 (.int (0) 493),kE P "bmix_struct" 495 (.none),kE P "integerify" 496 (.none),kE P "__init__" 510 (.ref 135),kE P "run" 526 (.ref 142),kE P "smix" 546 (.ref 149),kE P "bmix" 560 (.ref 156),kE P "_bmix_1" 571 (.ref 163),kE P "__static_attributes__" 582 (.ref 164),kE P "__dict__" 584 (.ref 167),kE P "__weakref__" 586 (.ref 168),kE P "__doc__" 587 (.none)] 4,#[]⟩
noncomputable def o166:Obj:=⟨.type "type",none,.cls { name:="ScryptEngine",bases:=[.type "object"],mro:=[.ref 166,.type "object"],ns:=165,qualname:="ScryptEngine",hasDict:=true,slotNames:=[],subclasses:=[],abstract:=false,collection:=none,hasDel:=false },#[some (.ref 122),none,some (.str "ScryptEngine" 469),some (.str "ScryptEngine" 477),some (.builtin "object.__new__"),some (.bool true)]⟩
noncomputable def o176:Obj:=cdO "validate" "validate" 606 229 3 0 3 171 (.none) (.ref 173) (.ref 174) (.ref 175) 612
noncomputable def o177:Obj:=fnO "validate" "validate" (top 18) (.none) (.str "passlib.crypto.scrypt" 590) (.ref 176) (.none)
noncomputable def o178:Obj:=⟨.type "tuple",none,.seq #[.int (1) 615,.int (32) 616] 0,#[]⟩
noncomputable def o184:Obj:=cdO "scrypt" "scrypt" 617 239 7 0 3 179 (.none) (.ref 181) (.ref 182) (.ref 183) 627
noncomputable def o185:Obj:=fnO "scrypt" "scrypt" (top 19) (.ref 178) (.str "passlib.crypto.scrypt" 590) (.ref 184) (.none)
noncomputable def o191:Obj:=cdO "_law_mask" "_law_mask" 632 249 0 0 3 186 (.none) (.ref 188) (.ref 189) (.ref 190) 635
noncomputable def o192:Obj:=fnO "_law_mask" "_law_mask" (top 21) (.none) (.str "law_lk0012_01" 630) (.ref 191) (.none)
noncomputable def o198:Obj:=cdO "_law_kdf" "_law_kdf" 638 251 5 0 3 193 (.none) (.ref 195) (.ref 196) (.ref 197) 650
noncomputable def o199:Obj:=fnO "_law_kdf" "_law_kdf" (top 22) (.none) (.str "law_lk0012_01" 630) (.ref 198) (.none)
noncomputable def o205:Obj:=cdO "_law_any" "_law_any" 653 259 5 0 3 200 (.none) (.ref 202) (.ref 203) (.ref 204) 661
noncomputable def o206:Obj:=fnO "_law_any" "_law_any" (top 23) (.none) (.str "law_lk0012_01" 630) (.ref 205) (.none)
noncomputable def o210:Obj:=cdO "_law_load" "_law_load" 664 261 1 0 3 207 (.none) (.none) (.none) (.ref 209) 667
noncomputable def o211:Obj:=fnO "_law_load" "_law_load" (top 24) (.none) (.str "law_lk0012_01" 630) (.ref 210) (.none)
noncomputable def o215:Obj:=cdO "_law_store" "_law_store" 670 264 1 0 3 212 (.none) (.none) (.none) (.ref 214) 673
noncomputable def o216:Obj:=fnO "_law_store" "_law_store" (top 25) (.none) (.str "law_lk0012_01" 630) (.ref 215) (.none)
noncomputable def o222:Obj:=cdO "_law_step" "_law_step" 676 267 4 0 3 217 (.none) (.ref 219) (.ref 220) (.ref 221) 684
noncomputable def o223:Obj:=fnO "_law_step" "_law_step" (top 26) (.none) (.str "law_lk0012_01" 630) (.ref 222) (.none)
noncomputable def o229:Obj:=cdO "_law_pass" "_law_pass" 687 270 2 0 3 224 (.none) (.ref 226) (.ref 227) (.ref 228) 692
noncomputable def o230:Obj:=fnO "_law_pass" "_law_pass" (top 27) (.none) (.str "law_lk0012_01" 630) (.ref 229) (.none)
noncomputable def o234:Obj:=cdO "_law_salsa" "_law_salsa" 695 272 1 0 3 231 (.none) (.none) (.none) (.ref 233) 698
noncomputable def o235:Obj:=fnO "_law_salsa" "_law_salsa" (top 28) (.none) (.str "law_lk0012_01" 630) (.ref 234) (.none)
noncomputable def o239:Obj:=cdO "_law_crossed" "_law_crossed" 701 286 2 0 3 236 (.none) (.none) (.none) (.ref 238) 704
noncomputable def o240:Obj:=fnO "_law_crossed" "_law_crossed" (top 29) (.none) (.str "law_lk0012_01" 630) (.ref 239) (.none)
noncomputable def o246:Obj:=cdO "_law_blocks" "_law_blocks" 707 288 1 0 3 241 (.none) (.ref 243) (.ref 244) (.ref 245) 714
noncomputable def o247:Obj:=fnO "_law_blocks" "_law_blocks" (top 30) (.none) (.str "law_lk0012_01" 630) (.ref 246) (.none)
noncomputable def o251:Obj:=cdO "_law_mixed" "_law_mixed" 717 295 2 0 3 248 (.none) (.none) (.none) (.ref 250) 720
noncomputable def o252:Obj:=fnO "_law_mixed" "_law_mixed" (top 31) (.none) (.str "law_lk0012_01" 630) (.ref 251) (.none)
noncomputable def o256:Obj:=cdO "_law_due" "_law_due" 723 305 6 0 3 253 (.none) (.none) (.none) (.ref 255) 726
noncomputable def o257:Obj:=fnO "_law_due" "_law_due" (top 32) (.none) (.str "law_lk0012_01" 630) (.ref 256) (.none)
noncomputable def o263:Obj:=cdO "_law_wrong" "_law_wrong" 729 309 2 0 3 258 (.none) (.ref 260) (.ref 261) (.ref 262) 734
noncomputable def o264:Obj:=fnO "_law_wrong" "_law_wrong" (top 33) (.none) (.str "law_lk0012_01" 630) (.ref 263) (.none)
noncomputable def o270:Obj:=cdO "_law_answer" "_law_answer" 737 329 2 0 3 265 (.none) (.ref 267) (.ref 268) (.ref 269) 742
noncomputable def o271:Obj:=fnO "_law_answer" "_law_answer" (top 34) (.none) (.str "law_lk0012_01" 630) (.ref 270) (.none)
noncomputable def o275:Obj:=cdO "law" "law" 745 337 1 0 3 272 (.none) (.none) (.none) (.ref 274) 748
noncomputable def o276:Obj:=fnO "law" "law" (top 35) (.none) (.str "law_lk0012_01" 630) (.ref 275) (.none)
noncomputable def KW (P:Params):Frag:=[rO 4 o4,rO 48 o48,rO 49 o49,rO 55 o55,rO 56 o56,rO 64 o64,rO 70 o70,rO 71 o71,rO 77 o77,rO 78 o78,rO 92 o92,rO 93 o93,rO 99 o99,rO 100 o100,rO 117 (o117 P),rO 118 o118,rO 119 o119,rO 134 o134,rO 135 o135,rO 141 o141,rO 142 o142,rO 148 o148,rO 149 o149,rO 155 o155,rO 156 o156,rO 162 o162,rO 163 o163,rO 165 (o165 P),rO 166 o166,rO 176 o176,rO 177 o177,rO 178 o178,rO 184 o184,rO 185 o185,rO 191 o191,rO 192 o192,rO 198 o198,rO 199 o199,rO 205 o205,rO 206 o206,rO 210 o210,rO 211 o211,rO 215 o215,rO 216 o216,rO 222 o222,rO 223 o223,rO 229 o229,rO 230 o230,rO 234 o234,rO 235 o235,rO 239 o239,rO 240 o240,rO 246 o246,rO 247 o247,rO 251 o251,rO 252 o252,rO 256 o256,rO 257 o257,rO 263 o263,rO 264 o264,rO 270 o270,rO 271 o271,rO 275 o275,rO 276 o276]
noncomputable def aW:List Addr:=[4,48,49,55,56,64,70,71,77,78,92,93,99,100,117,118,119,134,135,141,142,148,149,155,156,162,163,165,166,176,177,178,184,185,191,192,198,199,205,206,210,211,215,216,222,223,229,230,234,235,239,240,246,247,251,252,256,257,263,264,270,271,275,276]
noncomputable def TW0:LS:=[rS "__builtins__" (.ref 4),rS "Struct" (.type "_struct.Struct"),rS "calcsize" (.builtin "_struct.calcsize"),rS "ExpectedTypeError" (.ref 49),rS "ExpectedStringError" (.ref 56),rS "unicode" (.type "str"),rS "izip" (.type "zip"),rS "to_bytes" (.ref 71),rS "salsa20" (.ref 78),rS "itemgetter" (.ref 118),rS "ScryptEngine" (.ref 166),rS "MAX_KEYLEN" (.int (137438953440) 598),rS "MAX_RP" (.int (1073741823) 604),rS "validate" (.ref 177),rS "scrypt" (.ref 185),rS "_law_mask" (.ref 192),rS "_law_kdf" (.ref 199),rS "_law_any" (.ref 206),rS "_law_load" (.ref 211),rS "_law_store" (.ref 216),rS "_law_step" (.ref 223),rS "_law_pass" (.ref 230),rS "_law_salsa" (.ref 235),rS "_law_crossed" (.ref 240),rS "_law_blocks" (.ref 247),rS "_law_mixed" (.ref 252),rS "_law_due" (.ref 257),rS "_law_wrong" (.ref 264),rS "_law_answer" (.ref 271),rS "law" (.ref 276),rN "range",rN "zip",rN "len",rN "sum",rN "int",rN "iter",rN "list",rN "tuple",rN "ValueError",rN "TypeError",rN "isinstance",rN "bytes",rN "str",rN "abs",rN "chr"]
end
end
section
open PySem PySem.Spec PySem.Calls PySem.W PyProof.Rows
namespace Tp
noncomputable section
noncomputable abbrev pW:Program:=PySem.Challenge.pw_lk0012_01
noncomputable abbrev oT:Obj:=⟨.type "tuple",none,.seq #[] 0,#[]⟩
noncomputable abbrev oF:Obj:=⟨.none,none,.fields #[],#[]⟩
noncomputable def zo0 (P:Params):Obj:=⟨.type "dict",none,.dict #[kE P "builtins" 162 (.ref 4),kE P "__main__" 163 (.ref 5),kE P "_struct" 285 (.ref 13)] 3,#[]⟩
noncomputable def zo1 (P:Params):Obj:=⟨.none,none,.dict #[kE P "\x69mport.loaded._struct" 186 (.bool true),kE P "class._frozen_importlib_external._LoaderBasics" 191 (.ref 16),kE P "watched.\x69mport" 207 (.ref 20),kE P "class._frozen_importlib_external.FileLoader" 208 (.ref 22),kE P "class._frozen_importlib_external.ExtensionFileLoader" 229 (.ref 27),kE P "class._frozen_importlib.ModuleSpec" 257 (.ref 33),kE P "sys.modules.booked-epoch" 286 (.int (3) 0),kE P "class.struct.error" 303 (.type "struct.error"),kE P "\x69mport.later-laid._struct" 305 (.bool true),kE P "watched.library" 307 (.ref 38),kE P "watched.library-objects" 0 (.str "\u000d" 0)] 11,#[]⟩
noncomputable def zo2 (P:Params):Obj:=⟨.type "dict",none,.dict #[kE P "__name__" 165 (.str "__main__" 164),kE P "__doc__" 166 (.none),kE P "__package__" 167 (.none),kE P "__loader__" 168 (.builtin "__main__.__loader__#opaque"),kE P "__spec__" 169 (.none),kE P "__annotations__" 170 (.ref 6),kE P "__builtins__" 171 (.ref 4),kE P "__file__" 173 (.str "/claim/cut.py" 172),kE P "__cached__" 174 (.none),kE P "Struct" 313 (.type "_struct.Struct"),kE P "calcsize" 316 (.builtin "_struct.calcsize")] 11,#[]⟩
noncomputable def zo3:Obj:=⟨.type "code",none,.fields #[.str "<module>" 318,.str "<module>" 319,.str "/claim/cut.py" 320,.int (1) 0,.int (0) 0,.int (0) 0,.int (0) 0,.int (0) 0,.ref 39,.bool false,.int (317) 0,.ref 40,.none,.none,.none,.none,.int (321) 0,.int (1) 0,.str "/claim/cut.py" 322],#[]⟩
noncomputable def zo4:Obj:=⟨.type "frame",none,.plain,#[some (.ref 41),some (.ref 3),some (.ref 3),none,some (.str "__main__" 164),none,some (.ref 0)]⟩
noncomputable def zo5 (P:Params):Obj:=⟨.type "dict",none,.dict #[kE P "__name__" 165 (.str "operator" 409),kE P "__doc__" 166 (.none),kE P "__package__" 167 (.none),kE P "__loader__" 168 (.builtin "__main__.__loader__#opaque"),kE P "__spec__" 169 (.none),kE P "__annotations__" 170 (.ref 6),kE P "__builtins__" 171 (.ref 4),kE P "__file__" 173 (.str "/claim/cut.py" 172),kE P "__cached__" 174 (.none),kE P "Struct" 313 (.type "_struct.Struct"),kE P "calcsize" 316 (.builtin "_struct.calcsize"),kE P "ExpectedTypeError" 333 (.ref 49),kE P "ExpectedStringError" 341 (.ref 56),kE P "unicode" 342 (.type "str"),kE P "izip" 343 (.type "zip"),kE P "is_same_codec" 353 (.ref 63),kE P "to_bytes" 365 (.ref 71),kE P "salsa20" 408 (.ref 78),kE P "itemgetter" 466 (.ref 118)] 19,#[]⟩
noncomputable def zo6:Obj:=⟨.none,none,.fields #[.int (3) 0,.int (0) 0,.ref 48,.int (5) 0,.int (0) 0,.ref 55,.int (10) 0,.int (0) 0,.ref 62,.int (15) 0,.int (0) 0,.ref 70,.int (27) 0,.int (0) 0,.ref 77,.int (115) 0,.int (0) 0,.ref 84],#[]⟩
noncomputable def zo7 (P:Params):Obj:=⟨.type "dict",none,.dict #[kE P "__name__" 165 (.str "passlib.crypto.scrypt._builtin" 467),kE P "__doc__" 166 (.none),kE P "__package__" 167 (.none),kE P "__loader__" 168 (.builtin "__main__.__loader__#opaque"),kE P "__spec__" 169 (.none),kE P "__annotations__" 170 (.ref 6),kE P "__builtins__" 171 (.ref 4),kE P "__file__" 173 (.str "/claim/cut.py" 172),kE P "__cached__" 174 (.none),kE P "Struct" 313 (.type "_struct.Struct"),kE P "calcsize" 316 (.builtin "_struct.calcsize"),kE P "ExpectedTypeError" 333 (.ref 49),kE P "ExpectedStringError" 341 (.ref 56),kE P "unicode" 342 (.type "str"),kE P "izip" 343 (.type "zip"),kE P "is_same_codec" 353 (.ref 63),kE P "to_bytes" 365 (.ref 71),kE P "salsa20" 408 (.ref 78),kE P "itemgetter" 466 (.ref 118),kE P "ScryptEngine" 589 (.ref 166)] 20,#[]⟩
noncomputable def zo8:Obj:=⟨.none,none,.fields #[.int (3) 0,.int (0) 0,.ref 48,.int (5) 0,.int (0) 0,.ref 55,.int (10) 0,.int (0) 0,.ref 62,.int (15) 0,.int (0) 0,.ref 70,.int (27) 0,.int (0) 0,.ref 77,.int (115) 0,.int (0) 0,.ref 84,.int (141) 0,.int (0) 0,.ref 127],#[]⟩
noncomputable def atH (h:Heap) (i:Nat):Obj:=(h.objs.toList.drop i).headD oF
noncomputable def hB (w:World):Heap:=((fencedOpening treeTable pW w 3430).map (·.heap)).getD {}
noncomputable def oB (w:World) (i:Nat):Obj:=atH (hB w) i
noncomputable def H0 (w:World):Heap:=⟨⟨[boot_o_0 w.params,zo0 w.params,zo1 w.params,zo2 w.params,boot_o_4 w.params,boot_o_5 w.params,boot_o_6 w.params,boot_o_7 w.params,boot_o_8 w.params,boot_o_9 w.params,boot_o_10 w.params,oB w 11,oB w 12,oB w 13,oB w 14,oB w 15,oB w 16,oT,oB w 18,oB w 19,oB w 20,oB w 21,oB w 22,oB w 23,oB w 24,oB w 25,oB w 26,oB w 27,oB w 28,oB w 29,oB w 30,oB w 31,oB w 32,oB w 33,oB w 34,oB w 35,oB w 36,oB w 37,oB w 38]⟩,{}⟩
noncomputable def H1 (w:World):Heap:=⟨⟨[boot_o_0 w.params,zo0 w.params,zo1 w.params,zo2 w.params,boot_o_4 w.params,boot_o_5 w.params,boot_o_6 w.params,boot_o_7 w.params,boot_o_8 w.params,boot_o_9 w.params,boot_o_10 w.params,oB w 11,oB w 12,oB w 13,oB w 14,oB w 15,oB w 16,oT,oB w 18,oB w 19,oB w 20,oB w 21,oB w 22,oB w 23,oB w 24,oB w 25,oB w 26,oB w 27,oB w 28,oB w 29,oB w 30,oB w 31,oB w 32,oB w 33,oB w 34,oB w 35,oB w 36,oB w 37,oB w 38,oT,oF,zo3,zo4]⟩,{}⟩
noncomputable def envW:Env:={ scope:=pW.main.scope,locals:=mainNs,globals:=mainNs,cells:=[],code:=.ref 41,frame:=some 42 }
noncomputable def bW:List Stmt:=behindTheImports pW
noncomputable def bW2:List Stmt:=bW.drop 12
noncomputable def bW3:List Stmt:=bW2.drop 2
noncomputable abbrev cW:Code:=.body bW envW
noncomputable abbrev q0:Pos:=⟨0,0,0,0⟩
noncomputable abbrev q1:Pos:=⟨115,0,139,40⟩
noncomputable abbrev q2:Pos:=⟨141,0,225,63⟩
noncomputable abbrev sW (h:Heap) (t:Nat) (os:OsState):Shared:=⟨h,#[],{},t,os⟩
noncomputable abbrev gW (w:World) (n:Nat) (s:Shared) (l:List Stmt) (q:Pos):Option (Flow×Shared×Code×Pos):=segRun treeTable pW w 39 (some (.ref 6)) 1 n s (piecesOf l envW cW q [topFrame q0])
noncomputable def hC (w:World) (os:OsState):Heap:=((gW w 588 (sW (H1 w) 323 os) (bW.take 12) q0).map (·.2.1.heap)).getD {}
noncomputable def oC (w:World) (os:OsState) (i:Nat):Obj:=atH (hC w os) i
noncomputable def H2 (w:World) (os:OsState):Heap:=⟨⟨[boot_o_0 w.params,zo0 w.params,zo1 w.params,zo5 w.params,boot_o_4 w.params,boot_o_5 w.params,boot_o_6 w.params,boot_o_7 w.params,boot_o_8 w.params,boot_o_9 w.params,boot_o_10 w.params,oB w 11,oB w 12,oB w 13,oB w 14,oB w 15,oB w 16,oT,oB w 18,oB w 19,oB w 20,oB w 21,oB w 22,oB w 23,oB w 24,oB w 25,oB w 26,oB w 27,oB w 28,oB w 29,oB w 30,oB w 31,oB w 32,oB w 33,oB w 34,oB w 35,oB w 36,oB w 37,oB w 38,oT,zo6,zo3,zo4,oT,oF,oC w os 45,oT,oC w os 47,o48,o49,oT,oF,oC w os 52,oT,oC w os 54,o55,o56,oT,oF,oC w os 59,oT,oC w os 61,oC w os 62,oC w os 63,o64,oT,oF,oC w os 67,oT,oC w os 69,o70,o71,oT,oF,oC w os 74,oT,oC w os 76,o77,o78,oT,oC w os 80,oC w os 81,oT,oC w os 83,oC w os 84,oC w os 85,oC w os 86,oT,oF,oC w os 89,oT,oC w os 91,o92,o93,oT,oF,oC w os 96,oT,oC w os 98,o99,o100,oT,oF,oC w os 103,oT,oC w os 105,oC w os 106,oC w os 107,oT,oF,oC w os 110,oT,oC w os 112,oC w os 113,oC w os 114,oC w os 115,oC w os 116,o117 w.params,o118,o119,oC w os 120,oC w os 121]⟩,{}⟩
noncomputable def hD (w:World) (os:OsState):Heap:=((gW w 496 (sW (H2 w os) 467 os) (bW2.take 2) q1).map (·.2.1.heap)).getD {}
noncomputable def oD (w:World) (os:OsState) (i:Nat):Obj:=atH (hD w os) i
noncomputable def H3 (w:World) (os:OsState):Heap:=⟨⟨[boot_o_0 w.params,zo0 w.params,zo1 w.params,zo7 w.params,boot_o_4 w.params,boot_o_5 w.params,boot_o_6 w.params,boot_o_7 w.params,boot_o_8 w.params,boot_o_9 w.params,boot_o_10 w.params,oB w 11,oB w 12,oB w 13,oB w 14,oB w 15,oB w 16,oT,oB w 18,oB w 19,oB w 20,oB w 21,oB w 22,oB w 23,oB w 24,oB w 25,oB w 26,oB w 27,oB w 28,oB w 29,oB w 30,oB w 31,oB w 32,oB w 33,oB w 34,oB w 35,oB w 36,oB w 37,oB w 38,oT,zo8,zo3,zo4,oT,oF,oC w os 45,oT,oC w os 47,o48,o49,oT,oF,oC w os 52,oT,oC w os 54,o55,o56,oT,oF,oC w os 59,oT,oC w os 61,oC w os 62,oC w os 63,o64,oT,oF,oC w os 67,oT,oC w os 69,o70,o71,oT,oF,oC w os 74,oT,oC w os 76,o77,o78,oT,oC w os 80,oC w os 81,oT,oC w os 83,oC w os 84,oC w os 85,oC w os 86,oT,oF,oC w os 89,oT,oC w os 91,o92,o93,oT,oF,oC w os 96,oT,oC w os 98,o99,o100,oT,oF,oC w os 103,oT,oC w os 105,oC w os 106,oC w os 107,oT,oF,oC w os 110,oT,oC w os 112,oC w os 113,oC w os 114,oC w os 115,oC w os 116,o117 w.params,o118,o119,oC w os 120,oC w os 121,oD w os 122,oD w os 123,oD w os 124,oT,oD w os 126,oD w os 127,oD w os 128,oT,oF,oD w os 131,oD w os 132,oD w os 133,o134,o135,oT,oF,oD w os 138,oD w os 139,oD w os 140,o141,o142,oT,oF,oD w os 145,oD w os 146,oD w os 147,o148,o149,oT,oF,oD w os 152,oT,oD w os 154,o155,o156,oT,oF,oD w os 159,oT,oD w os 161,o162,o163,oD w os 164,o165 w.params,o166,oD w os 167,oD w os 168,oD w os 169,oD w os 170]⟩,{}⟩
end
end Tp
noncomputable def qW:Program:=view PySem.Challenge.pw_lk0012_01 [0,35]
noncomputable def lsW:List Str:=["ExpectedTypeError","ExpectedStringError","unicode","izip","is_same_codec","to_bytes","salsa20","itemgetter","ScryptEngine","MAX_KEYLEN","MAX_RP","validate","scrypt","_law_mask","_law_kdf","_law_any","_law_load","_law_store","_law_step","_law_pass","_law_salsa","_law_crossed","_law_blocks","_law_mixed","_law_due","_law_wrong","_law_answer"]
noncomputable def YfW (s:Shared):List (Option Obj)×List (Option Value)×Nat×List (Option Obj):=(aW.map s.heap.get?,TW0.map λp=>s.heap.nsMap mainGlobals p.1,s.heap.objs.size,[137,144,151,158].map s.heap.get?)
noncomputable def YaW (w:World):List (Option Obj)×List (Option Value)×Nat×List (Option Obj):=((KW w.params).map λp=>some p.2,TW0.map λp=>p.2,277,[137,144,151,158].map λ_=>some (tabObj #[]))
namespace Tp
theorem cut0:∀w:World,(fencedOpening treeTable pW w 3430).map (λs=>(s.heap,s.gens,s.drawn,s.toks))=some (H0 w,#[],{},317):=λw=>by kernel_rfl
theorem cut1:∀w:World,((H0 w).isNs mainGlobals && (#[]:Array GenState).size == 0,(H0 w).objs.size,(H0 w).nsMap mainGlobals "__annotations__")=(true,39,some (.ref 6)):=λw=>by kernel_rfl
theorem cut2:∀(w:World) (os:OsState),topGo treeTable pW w 39 (some (.ref 6)) 12 (sW (H0 w) 317 os) (topStub pW)=some (sW (H1 w) 323 os,⟨denote treeTable cW,cW,q0,[topFrame q0]⟩):=λw os=>by kernel_rfl
theorem cut3:∀(w:World) (os:OsState),segRun treeTable pW w 39 (some (.ref 6)) 1 1 (sW (H1 w) 323 os) (blockOf bW envW cW q0 [topFrame q0])=some (.next,sW (H1 w) 323 os,cW,q0):=λw os=>by kernel_rfl
theorem cut4:∀(w:World) (os:OsState),gW w 588 (sW (H1 w) 323 os) (bW.take 12) q0=some (.next,sW (H2 w os) 467 os,cW,q1):=λw os=>by kernel_rfl
theorem cut5:∀(w:World) (os:OsState),gW w 496 (sW (H2 w os) 467 os) (bW2.take 2) q1=some (.next,sW (H3 w os) 590 os,cW,q2):=λw os=>by kernel_rfl
theorem cut6:∀(w:World) (os:OsState),(topRun treeTable pW w 39 (some (.ref 6)) 2333 (sW (H3 w os) 590 os) (restOf bW3 envW cW q2 [topFrame q0])).map (λs =>
  (staticsOk (importedModules pW.main.body) (H0 w) s.heap && namesBound pW s.heap && gensDone s && laidKept (H0 w) s.heap,openSeen qW lsW (importedModules pW.main.body) (λ_=>true) true s,YfW s))=some (true,openGood qW lsW,YaW w):=λw os=>by kernel_rfl
theorem left:LeftO pW qW lsW (λ_=>true) YfW YaW 3430:=λw=>by
 obtain ⟨⟨h,gs,d,k,os⟩,e,e'⟩:=Option.map_eq_some_iff.mp (cut0 w)
 obtain ⟨rfl,e'⟩:=Prod.mk.inj e'
 obtain ⟨rfl,e'⟩:=Prod.mk.inj e'
 obtain ⟨rfl,rfl⟩:=Prod.mk.inj e'
 obtain ⟨s,r,l⟩:=Option.map_eq_some_iff.mp (cut6 w os)
 obtain ⟨z1,z2⟩:=Prod.mk.inj (cut1 w)
 obtain ⟨z2,z3⟩:=Prod.mk.inj z2
 obtain ⟨l1,l2⟩:=Prod.mk.inj l
 have r2:=piece_app (n:=496) (N:=2333) (cut5 w os) r
 rw [show bW2.take 2++bW3=bW2 from List.take_append_drop 2 bW2] at r2
 have r1:=piece_app (n:=588) (N:=2829) (cut4 w os) r2
 rw [show bW.take 12++bW2=bW from List.take_append_drop 12 bW] at r1
 have r0:=go_top (n:=12) (N:=3418) (cut2 w os) (piece_block (n:=1) (N:=3417) (cut3 w os) r1)
 have f:topFrom treeTable pW w 3430 ⟨H0 w,#[],{},317,os⟩=some s:=by
  unfold topFrom
  dsimp only
  rw [z1,z2,z3]
  show Option.bind (topRun treeTable pW w 39 (some (.ref 6)) (12+3418) ⟨H0 w,#[],{},317,os⟩ (topStub pW)) _=_
  rw [r0]
  show (match staticsOk (importedModules pW.main.body) (H0 w) s.heap && namesBound pW s.heap && gensDone s && laidKept (H0 w) s.heap with | true=>_ | false=>_)=_
  rw [l1]
 unfold openEnds
 rw [e]
 show (topFrom treeTable pW w 3430 _).map _=_
 rw [f]
 exact congrArg some l2
end Tp
theorem left0:LeftO PySem.Challenge.pw_lk0012_01 qW lsW (λ_=>true) YfW YaW 3430:=Tp.left
end
section
open PySem PySem.Spec PySem.Calls PySem.W PyProof.Rows
theorem look1:(sreFenced PySem.Challenge.pw_lk0012_01.main && ((moduleNames PySem.Challenge.pw_lk0012_01.main.body).isEmpty || lookedIntoSs (moduleNames PySem.Challenge.pw_lk0012_01.main.body) PySem.Challenge.pw_lk0012_01.main.body))=true:=by kernel_rfl
theorem look2:namesResolve PySem.Challenge.pw_lk0012_01=true:=by kernel_rfl
theorem look3:PySem.Challenge.pw_lk0012_01.boundNames.all (λn=>!worldNames.contains n)=true:=by kernel_rfl
theorem look4:noRoadLSs { strict:=!(importedModules PySem.Challenge.pw_lk0012_01.main.body).all cThrough.contains,foot:=none,bare:=(["vars","dir","locals"]:List Str).filter (readsOut PySem.Challenge.pw_lk0012_01 PySem.Challenge.pw_lk0012_01.main.body) } PySem.Challenge.pw_lk0012_01.main.body=true:=by kernel_rfl
theorem look5:namesMeet PySem.Challenge.pw_lk0012_01 PySem.Challenge.pw_lk0012_01.main.body (λ_ n=>attrL n)=true:=by kernel_rfl
theorem look6:looksOpen PySem.Challenge.pw_lk0012_01=true:=look_both (look_both (look_both (look_both look1 look2) look3) look4) look5
theorem look7:OpenRow.partSaid PySem.Challenge.rw_lk0012_01.row=true:=by
 delta OpenRow.partSaid
 repeat' with_reducible refine look_both ?_ ?_
 ·exact look6
 all_goals kernel_rfl
theorem look8:PySem.Challenge.rw_lk0012_01.row.wellSaid=true:=by
 delta OpenRow.wellSaid
 refine look_both (look_both look7 ?_) ?_
 all_goals kernel_rfl
theorem saidW:PySem.Challenge.rw_lk0012_01.wellSaid=true:=by
 delta OpenLaw.wellSaid
 repeat' with_reducible refine look_both ?_ ?_
 ·exact look8
 all_goals kernel_rfl
end
section
noncomputable abbrev hs (s:Shared):Nat:=s.heap.objs.size
theorem runs_hs {Γ:Ctx} {p:Pos} {t:Sem Fin} {fs:List Frame} {e:End} (h:Runs M Γ p t fs s e s'):s.heap.objs.size≤s'.heap.objs.size:=by
 induction h<;>(try simp only [Shared.setGen,Heap.size_push,Heap.size_after_update] at *)<;>lia
theorem returns_hs {Γ:Ctx} {p:Pos} {r:Result} (h:Returns M Γ p s r s'):s.heap.objs.size≤s'.heap.objs.size:=runs_hs h
theorem wakes_hs {Γ:Ctx} {p:Pos} {g:Nat} {r:Resume} {res:GenResult} (h:Wakes M Γ p g r s res s'):s.heap.objs.size≤s'.heap.objs.size:=by
 unfold Wakes at h
 split at h
 ·exact h.elim
 ·split at h
  ·obtain ⟨e₁,s₁,hr,_,_,rfl⟩:=h;exact (runs_hs hr:(s.setGen g .running).heap.objs.size≤s₁.heap.objs.size)
  ·rw [h.2];exact Nat.le_refl _
  ·rw [h.2];exact Nat.le_refl _
 ·obtain ⟨e₁,s₁,hr,_,_,rfl⟩:=h;exact (runs_hs hr:(s.setGen g .running).heap.objs.size≤s₁.heap.objs.size)
 ·rw [h.2];exact Nat.le_refl _
 ·rw [h.2];exact Nat.le_refl _
theorem wp_hs {α:Type} (M:Model) (Γ:Ctx) (n:Nat) (t:Sem α):∀(Q:α→Pos→Shared→Prop) (E:Value→Pos→Shared→Prop) (p:Pos) (s:Shared),n≤hs s→Sem.wp M Γ t Q E p s →
  Sem.wp M Γ t (λa p' s'=>n≤hs s'∧Q a p' s') (λe p' s'=>n≤hs s'∧E e p' s') p s:=by
 induction t with
 | pure | raise=>intro Q E p s hn h;exact ⟨hn,h⟩
 | unsupported | finish | register | yield | fork | await=>intro Q E p s _ h;exact h
 | rule _ k ih | «at» _ k ih | point _ k ih | ask k ih | thread k ih | handled _ k ih | stack k ih | loadIfAlive _ k ih | fresh k ih | newGen _ k ih | os _ _ k ih=>intro Q E p s hn h;exact ih _ Q E _ _ hn h
 | alloc o k ih=>intro Q E p s hn h;exact ih _ Q E p _ (by show n≤(s.heap.push o).objs.size;rw [Heap.size_push];exact Nat.le_succ_of_le hn) h
 | load a _ k ih | genState g k ih=>intro Q E p s hn h;obtain ⟨o,ho,h⟩:=h;exact ⟨o,ho,ih _ Q E p s hn h⟩
 | update a _ f k ih=>intro Q E p s hn h;exact ⟨h.1,ih () Q E p _ (by show n≤(s.heap.update a f).objs.size;rw [Heap.size_after_update];exact hn) h.2⟩
 | choose src m k ih=>intro Q E p s hn h;exact ⟨h.1,ih _ Q E p _ hn h.2⟩
 | call c hd _ _ k ih=>intro Q E p s hn h;obtain ⟨r,s',hr,h⟩:=h;exact ⟨r,s',hr,ih r Q E p s' (Nat.le_trans hn (returns_hs hr)) h⟩
 | resume g r _ k ih=>intro Q E p s hn h;obtain ⟨res,s',hw,h⟩:=h;exact ⟨res,s',hw,ih res Q E p s' (Nat.le_trans hn (wakes_hs hw)) h⟩
section
variable {α:Type}
theorem wpAny_with_size {t:Sem α} {Q:α→Shared→Prop} (hn:n≤hs s)
  (h:wpAny M A t (λa s'=>n≤hs s'→Q a s') (λe s'=>n≤hs s'→E e s') s):wpAny M A t Q E s :=
 wpAny_mono (Q:=λa s'=>n≤hs s'∧(n≤hs s'→Q a s')) (E:=λe s'=>n≤hs s'∧(n≤hs s'→E e s'))
  (λΓ p hΓ=>wp_hs M Γ n t (λa _ s'=>n≤hs s'→Q a s') (λe _ s'=>n≤hs s'→E e s') p s hn (h Γ p hΓ)) (λ_ _ x=>x.2 x.1) (λ_ _ x=>x.2 x.1)
end
end
section
noncomputable def FBok (K:Frag):Prop:=findCls K (.type "int") (.type "type") (PySem.Str.ofString "from_bytes")=some (.get (.builtin "classmethod_descriptor.__get__") (.builtin "int.from_bytes") .none (.type "int"))
structure LK (K:Frag) (mg mb:Str→Option Value):Prop where
 dom:KDom K
 mask:FnK K 192 "_law_mask" (arOf (top 21)) (bdOf (top 21)) (scOf (top 21)) (.ref 191)
 gmask:mg "_law_mask"=some (.ref 192)
 kdf:FnK K 199 "_law_kdf" (arOf (top 22)) (bdOf (top 22)) (scOf (top 22)) (.ref 198)
 gkdf:mg "_law_kdf"=some (.ref 199)
 any:FnK K 206 "_law_any" (arOf (top 23)) (bdOf (top 23)) (scOf (top 23)) (.ref 205)
 gany:mg "_law_any"=some (.ref 206)
 load:FnK K 211 "_law_load" (arOf (top 24)) (bdOf (top 24)) (scOf (top 24)) (.ref 210)
 gload:mg "_law_load"=some (.ref 211)
 store:FnK K 216 "_law_store" (arOf (top 25)) (bdOf (top 25)) (scOf (top 25)) (.ref 215)
 gstore:mg "_law_store"=some (.ref 216)
 step:FnK K 223 "_law_step" (arOf (top 26)) (bdOf (top 26)) (scOf (top 26)) (.ref 222)
 gstep:mg "_law_step"=some (.ref 223)
 pass:FnK K 230 "_law_pass" (arOf (top 27)) (bdOf (top 27)) (scOf (top 27)) (.ref 229)
 gpass:mg "_law_pass"=some (.ref 230)
 salsa:FnK K 235 "_law_salsa" (arOf (top 28)) (bdOf (top 28)) (scOf (top 28)) (.ref 234)
 gsalsa:mg "_law_salsa"=some (.ref 235)
 crossed:FnK K 240 "_law_crossed" (arOf (top 29)) (bdOf (top 29)) (scOf (top 29)) (.ref 239)
 gcrossed:mg "_law_crossed"=some (.ref 240)
 blocks:FnK K 247 "_law_blocks" (arOf (top 30)) (bdOf (top 30)) (scOf (top 30)) (.ref 246)
 gblocks:mg "_law_blocks"=some (.ref 247)
 mixed:FnK K 252 "_law_mixed" (arOf (top 31)) (bdOf (top 31)) (scOf (top 31)) (.ref 251)
 gmixed:mg "_law_mixed"=some (.ref 252)
 due:FnK K 257 "_law_due" (arOf (top 32)) (bdOf (top 32)) (scOf (top 32)) (.ref 256)
 gdue:mg "_law_due"=some (.ref 257)
 wrong:FnK K 264 "_law_wrong" (arOf (top 33)) (bdOf (top 33)) (scOf (top 33)) (.ref 263)
 gwrong:mg "_law_wrong"=some (.ref 264)
 answer:FnK K 271 "_law_answer" (arOf (top 34)) (bdOf (top 34)) (scOf (top 34)) (.ref 270)
 ganswer:mg "_law_answer"=some (.ref 271)
 b_range:mg "range"=none∧mb "range"=some (.type "range")
 b_zip:mg "zip"=none∧mb "zip"=some (.type "zip")
 b_len:mg "len"=none∧mb "len"=some (.builtin "len")
 b_sum:mg "sum"=none∧mb "sum"=some (.builtin "sum")
 b_int:mg "int"=none∧mb "int"=some (.type "int")
 fb:FBok K
 b_bytes:mg "bytes"=none∧mb "bytes"=some (.type "bytes")
noncomputable def MASK:Nat:=4294967295+4294967295 <<< 64+4294967295 <<< 128+4294967295 <<< 192
noncomputable def nstep (t a b k:Nat):Nat:=t ^^^ ((((a+b) &&& MASK) <<< k ||| ((a+b) &&& MASK) >>> (32 - k)) &&& MASK)
noncomputable def npass (x k:Nat):Nat:=(x >>> (64*k) ||| x <<< (256 - 64*k)) &&& MASK
theorem and_mask_lt (x:Nat):x &&& MASK<2 ^ 256:=Nat.lt_of_le_of_lt Nat.and_le_right (by decide +kernel)
section
set_option maxHeartbeats 1000000
theorem law_mask (LKK:LK K mg mb):FnI prog w K mg mb 1 192 [] (MASK:Int):=by
 intro A h g d t o us R hA W hus hR
 refine enter (n:=0) (binds:=[]) [] [] [] LKK.mask hA W LKK.dom (by intro pm doc;kernel_rfl) rfl (by kernel_rfl) (by trivial) (by simp) (by trivial) (by kernel_rfl) ?_
 intro h₁ t₁ c l Q H F
 refine retI (v:=(MASK:Int)) F ?_ (λu h' t' F'=>hR u h' t' (F'.growth rfl (Nat.le_refl _)))
 exact EvN.add (EvN.add (EvN.add (.const 4294967295) (.shl (.const 4294967295) (.const 64) 32 (by decide) (by decide))) (.shl (.const 4294967295) (.const 128) 32 (by decide) (by decide))) (.shl (.const 4294967295) (.const 192) 32 (by decide) (by decide))
theorem EvN.mask (LKK:LK c.K c.mg c.mb) (H:c.Ok (n+1))
  (hl:Glo c.env "_law_mask":=by rfl):EvN c l N Φ (.Call (.Name "_law_mask" np) [] [] pos) MASK :=
 EvI.call H LKK.gmask LKK.mask .nil (law_mask LKK) (Nat.le_add_left 1 n) hl (by decide) rfl rfl
theorem law_step (LKK:LK K mg mb) {a b c:Nat} (h1:k≤32):FnI prog w K mg mb 2 223 [(a:Int),(b:Int),(c:Int),(k:Int)] (nstep a b c k:Nat):=by
 intro A h g d t o us R hA W hus hR
 obtain ⟨u1,u2,u3,u4,rfl⟩:Ex4 λa b c d=>us=[a,b,c,d]:=by
  match us,hus with | [a,b,c,d],_=>exact ⟨a,b,c,d,rfl⟩
 refine enter (n:=1) (binds:=[("target",.int a u1),("one",.int b u2),("two",.int c u3),("by",.int k u4)]) ["total"] [] [] LKK.step hA W LKK.dom (by intro pm doc;kernel_rfl) rfl (by kernel_rfl) (by trivial) (by simp) (by trivial) (by kernel_rfl) ?_
 intro h₁ t₁ c l Q H F
 refine asI 4 H F (EvN.and (.add (.nm 1 H) (.nm 2 H)) (.mask LKK H)) ?_
 intro u h2 t2 F2
 exact retI F2 (EvN.xor (.nm 0 H) (.and (.or (.shl (.nm 4 H) (.nm 3 H) 256 (and_mask_lt _) (by lia)) (.shr (.nm 4 H) (.sub (.const 32) (.nm 3 H) h1))) (.mask LKK H))) (λu h' t' F'=>hR u h' t' (F'.growth rfl (Nat.le_refl _)))
theorem law_pass (LKK:LK K mg mb) {x:Nat} (hx:x<2 ^ 256) (h1:k≤4):FnI prog w K mg mb 2 230 [(x:Int),(k:Int)] (npass x k:Nat):=by
 intro A h g d t o us R hA W hus hR
 obtain ⟨u1,u2,rfl⟩:Ex2 λa b=>us=[a,b]:=by
  match us,hus with | [a,b],_=>exact ⟨a,b,rfl⟩
 refine enter (n:=1) (binds:=[("lanes",.int x u1),("by",.int k u2)]) [] [] [] LKK.pass hA W LKK.dom (by intro pm doc;kernel_rfl) rfl (by kernel_rfl) (by trivial) (by simp) (by trivial) (by kernel_rfl) ?_
 intro h₁ t₁ c l Q H F
 have hk:k<2 ^ 3:=by trivial
 exact retI F (EvN.and (.or (.shr (.nm 0 H) (.mul (.const 64) (.nm 1 H) 7 3 (by decide) hk (by decide))) (.shl (.nm 0 H) (.sub (.const 256) (.mul (.const 64) (.nm 1 H) 7 3 (by decide) hk (by decide)) (by lia)) 256 hx (by lia))) (.mask LKK H)) (λu h' t' F'=>hR u h' t' (F'.growth rfl (Nat.le_refl _)))
end
end
section
noncomputable abbrev NoE:VQ:=λ_ _=>False
theorem ex {α:Type} {t:Sem α} {Q:α→Shared→Prop} (x:wpAny M A t Q NoE s):wpAny M A t Q E s :=
 wpAny_mono x (λ_ _ y=>y) λ_ _ y=>y.elim
noncomputable def Stands (h:Heap) (P:HP):Prop:=∀h',(∀b o,h.get? b=some o→h'.get? b=some o)→P h'
theorem Stands.grown {P:HP} (x:Stands h P) (g:Grow h h'):Stands h' P:=λh'' q=>x h'' λb o e=>q b o (g.2 b o e)
section
theorem SS.base (x:SS h₀ [] [] L l N Φ h) {P:HP} (hP:Stands h₀ P) (hL:h₀.objs.size≤L):SS h₀ [] [] L l N (λh=>Φ h∧P h) h:=by
 refine x.know λh' q=>hP h' λb o e=>q b o ?_ (by simp) ?_ (x.keep b o (by simp) ?_ e)
 ·exact Nat.ne_of_lt (Nat.lt_of_lt_of_le (Heap.lt_size e) hL)
 ·intro r
  obtain ⟨p,hp,rfl⟩:=List.mem_map.mp r
  rcases (x.news p hp).2.2 with r | r
  ·exact absurd (Heap.lt_size e) (Nat.not_lt.mpr r)
  ·simp at r
 ·exact Nat.ne_of_lt (Nat.lt_of_lt_of_le (Heap.lt_size e) hL)
theorem SS.since (x:SS h₀ S X L l N Φ h) (y:SS h₀ S X L l N Φ h') {P:HP} (p:Since h.objs.size h' P):SS h₀ S X L l N (λh=>Φ h∧P h) h' :=
 y.know λh'' q=>p h'' λb o hb e=>q b o (λr=>absurd x.ltL (Nat.not_lt.mpr (by rw [←r];exact hb))) (λr=>absurd (x.xlt b r) (Nat.not_lt.mpr hb)) (λr=>by
  obtain ⟨p,hp,rfl⟩:=List.mem_map.mp r
  exact absurd (x.belowN p hp) (Nat.not_lt.mpr hb)) e
noncomputable def EvF (c:Cx) (l:LS) (N:LN) (Φ:HP) (e:Expr) (P:VH):Prop :=
 ∀Φ':HP,(∀h,Φ' h→Φ h)→∀h t (Q:VQ) (E:VQ),c.SS l N Φ' h→(∀v h' t',c.SS l N Φ' h'→h.objs.size≤h'.objs.size→Since h.objs.size h' (P v)→Q v (c.st h' t'))→c.wp (eval e c.env) Q E (c.st h t)
noncomputable def EvR (c:Cx) (l:LS) (N:LN) (Φ:HP) (e:Expr) (P:VH):Prop :=
 ∀Φ':HP,(∀h,Φ' h→Φ h)→∀h t (Q:VQ) (E:VQ),c.SS l N Φ' h→(∀v h' t',c.SS l N (λh=>Φ' h∧P v h) h'→Q v (c.st h' t'))→c.wp (eval e c.env) Q E (c.st h t)
noncomputable def IntR (x:Int) (v:Value) (_:Heap):Prop:=∃u,v = .int x u
noncomputable def NatR (x:Nat) (v:Value) (_:Heap):Prop:=∃u,v = .int (x:Int) u
theorem EvF.toR {P:VH} (x:EvF c l N Φ e P):EvR c l N Φ e P:=λΦ' k h t Q E F hQ =>
 x Φ' k h t Q E F λv h' t' F' _ p=>hQ v h' t' (SS.since F F' p)
theorem EvI.toF {v:Int} (x:EvI c l N Φ e v):EvF c l N Φ e (IntR v):=λΦ' k h t Q E F hQ =>
 wpAny_with_size (Nat.le_refl _) (x Φ' k h t _ _ F λu h' t' F' hz=>hQ _ h' t' F' hz λ_ _=>⟨u,rfl⟩)
theorem EvN.toF {v:Nat} (x:EvN c l N Φ e v):EvF c l N Φ e (NatR v):=EvI.toF x
theorem EvV.toF (x:EvV c l N Φ e v):EvF c l N Φ e (λw _=>w=v):=λΦ' k h t Q E F hQ =>
 wpAny_with_size (Nat.le_refl _) (x Φ' k h t _ _ F λh' t' F' hz=>hQ _ h' t' F' hz λ_ _=>rfl)
theorem EvI.toR {v:Int} (x:EvI c l N Φ e v):EvR c l N Φ e (IntR v):=x.toF.toR
theorem EvN.toR {v:Nat} (x:EvN c l N Φ e v):EvR c l N Φ e (NatR v):=EvF.toR (EvN.toF x)
theorem EvV.toR (x:EvV c l N Φ e v):EvR c l N Φ e (λw _=>w=v):=x.toF.toR
theorem EvV.toRP (x:EvV c l N Φ e v) {P:VH} (hP:∀h,Φ h→P v h):EvR c l N Φ e P:=λΦ' k h t Q E F hQ =>
 x Φ' k h t _ _ F λh' t' F'=>hQ v h' t' (F'.weaken λh y=>⟨y,hP h (k h y)⟩)
theorem EvR.mono {P P':VH} (x:EvR c l N Φ e P) (k:∀v h,P v h→P' v h):EvR c l N Φ e P':=λΦ' q h t Q E F hQ =>
 x Φ' q h t _ _ F λv h' t' F'=>hQ v h' t' (F'.weaken λh y=>⟨y.1,k v h y.2⟩)
theorem EvF.mono {P P':VH} (x:EvF c l N Φ e P) (k:∀v h,P v h→P' v h):EvF c l N Φ e P':=λΦ' q h t Q E F hQ =>
 x Φ' q h t _ _ F λv h' t' F' hz p=>hQ v h' t' F' hz λh'' r=>k v h'' (p h'' r)
theorem EvR.toI {v:Int} (x:EvR c l N Φ e (IntR v)):EvI c l N Φ e v:=λΦ' k h t Q E F hQ =>
 x Φ' k h t _ _ F λw h' t' F'=>by obtain ⟨u,rfl⟩:=F'.phi.2;exact hQ u h' t' (F'.weaken λ_ y=>y.1)
theorem EvR.toN {v:Nat} (x:EvR c l N Φ e (NatR v)):EvN c l N Φ e v:=EvR.toI x
noncomputable def EvRs (c:Cx) (l:LS) (N:LN) (Φ:HP) (pos:Pos) (es:List Expr) (P:List Value→HP):Prop :=
 ∀Φ':HP,(∀h,Φ' h→Φ h)→∀h t (Q:List Value→Shared→Prop) (E:VQ),c.SS l N Φ' h→(∀vs h' t',c.SS l N (λh=>Φ' h∧P vs h) h'→Q vs (c.st h' t')) →
  c.wp (spliced (backTo pos (starEach es c.env))) Q E (c.st h t)
theorem EvRs.nil:EvRs c l N Φ pos [] (λvs _=>vs=[]):=λ_ _ h t _ _ F hQ=>spliced_nil (hQ [] h t (F.weaken λ_ y=>⟨y,rfl⟩))
theorem EvRs.cons {P:VH} {Ps:List Value→HP} (H1:EvR c l N Φ e P) (H2:EvRs c l N Φ pos es Ps)
  (he:Unst e es c.env:=by rfl):EvRs c l N Φ pos (e::es) (λvs h=>Ex2 λv vs'=>An3 (vs=v::vs') (P v h) (Ps vs' h)):=by
 intro Φ' k h t Q E F hQ
 rw [he]
 exact spliced_cons (H1 _ k h t _ _ F λv h1 t1 F1=>H2 _ (λh y=>k h y.1) h1 t1 _ _ F1 λvs h2 t2 F2=>hQ (v::vs) h2 t2 (F2.weaken λh y=>⟨y.1.1,v,vs,rfl,y.1.2,y.2⟩))
theorem EvRs.mono {P P':List Value→HP} (x:EvRs c l N Φ pos es P) (k:∀vs h,P vs h→P' vs h):EvRs c l N Φ pos es P':=λΦ' q h t Q E F hQ =>
 x Φ' q h t _ _ F λv h' t' F'=>hQ v h' t' (F'.weaken λh y=>⟨y.1,k v h y.2⟩)
theorem EvRs.nilU:EvRs c l N Φ pos [] (λvs _=>∃_u:Unit,vs=[]):=EvRs.nil.mono λ_ _ e=>⟨(),e⟩
theorem EvRs.consV {β:Type} {g:β→List Value} (H1:EvV c l N Φ e v) (H2:EvRs c l N Φ pos es (λvs _=>∃u,vs=g u))
  (he:Unst e es c.env:=by rfl):EvRs c l N Φ pos (e::es) (λvs _=>∃u,vs=v::g u) :=
 (EvRs.cons (EvV.toR H1) H2 he).mono λvs h x=>by obtain ⟨_,_,rfl,rfl,u,rfl⟩:=x;exact ⟨u,rfl⟩
theorem EvRs.consU {β γ:Type} {f:γ→Value} {g:β→List Value} (H1:EvF c l N Φ e (λv _=>∃u,v=f u)) (H2:EvRs c l N Φ pos es (λvs _=>∃u,vs=g u))
  (he:Unst e es c.env:=by rfl):EvRs c l N Φ pos (e::es) (λvs _=>∃u:γ×β,vs=f u.1::g u.2) :=
 (EvRs.cons H1.toR H2 he).mono λvs h x=>by obtain ⟨_,_,rfl,⟨u,rfl⟩,w,rfl⟩:=x;exact ⟨(u,w),rfl⟩
theorem EvRs.consI {β:Type} {x:Int} {g:β→List Value} (H1:EvI c l N Φ e x) (H2:EvRs c l N Φ pos es (λvs _=>∃u,vs=g u))
  (he:Unst e es c.env:=by rfl):EvRs c l N Φ pos (e::es) (λvs _=>∃u:Tok×β,vs = .int x u.1::g u.2):=.consU (f:=λu=>.int x u) H1.toF H2 he
noncomputable def FnAt (prog:Program) (w:World) (K:Frag) (mg mb:Str→Option Value) (n:Nat) (f:Addr) (args:Args) (h:Heap) (Post:VH):Prop :=
 ∀A g d t o (R:Result→Shared→Prop),AOk n A→W0 K mg mb h→(∀v h' t',Grow h h'→Since h.objs.size h' (Post v)→R (.ok (.ret v)) ⟨h',g,d,t',o⟩)→codeAny (model prog w) A (.call (.ref f) args) R ⟨h,g,d,t,o⟩
theorem EvF.call {Ps:List Value→HP} {nm:Str}
  (H:c.Ok n) (hv:c.mg x=some (.ref f)) (hf:FnK c.K f nm params body scope cd) (ha:EvRs c l N Φ pos es Ps)
  (hc:∀vs h,Φ h→Ps vs h→FnAt c.prog c.w c.K c.mg c.mb m f ⟨vs,[]⟩ h Post) (hm:m≤n)
  (hl:Glo c.env x:=by rfl) (hd:ND x:=by decide)
  (hp:Plain pos es c.env:=by rfl)
  (he:CallIs x np es pos c.env:=by rfl) :
  EvF c l N Φ (.Call (.Name x np) es [] pos) Post:=by
 intro Φ' k h t Q E F hQ
 obtain ⟨oc,od,os,pm,doc,hk⟩:=hf.fn
 refine PyProof.Rows.Call_ ?_ he
 refine Mine.gl H F hv ?_ hl hd
 refine callWith_fn (o:=_) (fd:=_) hp rfl (wpAny_with_size (Nat.le_refl _) (ha _ k h t _ _ F λvs h1 t1 F1 hz=>⟨(H.W1 F1).k _ _ hk,?_⟩))
 refine wpAny_call (hc vs h1 (k _ F1.phi.1) F1.phi.2 c.A c.g c.d t1 c.o _ (H.A.le hm) (H.W1 F1) λv h2 t2 G p=>?_)
 exact hQ v h2 t2 ((F1.weaken λ_ y=>y.1).grown G) (Nat.le_trans hz G.1) (p.le hz)
theorem EvF.callU {β:Type} {g:β→List Value} {nm:Str}
  (H:c.Ok n) (hv:c.mg x=some (.ref f)) (hf:FnK c.K f nm params body scope cd) (ha:EvRs c l N Φ pos es (λvs _=>∃u,vs=g u))
  (hc:∀u h,Φ h→FnAt c.prog c.w c.K c.mg c.mb m f ⟨g u,[]⟩ h Post) (hm:m≤n)
  (hl:Glo c.env x:=by rfl) (hd:ND x:=by decide)
  (hp:Plain pos es c.env:=by rfl)
  (he:CallIs x np es pos c.env:=by rfl) :
  EvF c l N Φ (.Call (.Name x np) es [] pos) Post:=.call H hv hf ha (λvs h hΦ q=>by obtain ⟨u,rfl⟩:=q;exact hc u h hΦ) hm hl hd hp he
theorem asV {w:Option Value} (i:Nat) (H:c.Ok n) (F:c.SS l N Φ h) (he:EvV c l N Φ e v)
  (hQ:∀h' t',let l':=l.set i (x,some v);c.SS l' N Φ h'→c.wp (execs rest c.env) Q E (c.st h' t'))
  (hi:l[i]?=some (x,w):=by rfl) (hl:Loc c.env x:=by rfl) (hs:Swp e x p' pos c.env:=by rfl) :
  c.wp (execs (.Assign [.Name x p'] e pos::rest) c.env) Q E (c.st h t) :=
 wpAny_execs_cons (wpAny_Assign_Name (he _ (λ_ x=>x) h t _ _ F λ_ _ F1=>stn H F1 hi (λh2 F2=>hQ h2 _ F2) hl) hs)
theorem asR {P:VH} {w:Option Value} (i:Nat) (H:c.Ok n) (F:c.SS l N Φ h) (he:EvR c l N Φ e P)
  (hQ:∀v h' t',let l':=l.set i (x,some v);c.SS l' N (λh=>Φ h∧P v h) h'→c.wp (execs rest c.env) Q E (c.st h' t'))
  (hi:l[i]?=some (x,w):=by rfl) (hl:Loc c.env x:=by rfl) (hs:Swp e x p' pos c.env:=by rfl) :
  c.wp (execs (.Assign [.Name x p'] e pos::rest) c.env) Q E (c.st h t) :=
 wpAny_execs_cons (wpAny_Assign_Name (he _ (λ_ x=>x) h t _ _ F λv _ _ F1=>stn H F1 hi (λh2 F2=>hQ v h2 _ F2) hl) hs)
theorem asU {β:Type} {f:β→Value} {w:Option Value} (i:Nat) (H:c.Ok n) (F:c.SS l N Φ h) (he:EvF c l N Φ e (λv _=>∃u,v=f u))
  (hQ:∀u h' t',let l':=l.set i (x,some (f u));c.SS l' N Φ h'→c.wp (execs rest c.env) Q E (c.st h' t'))
  (hi:l[i]?=some (x,w):=by rfl) (hl:Loc c.env x:=by rfl) (hs:Swp e x p' pos c.env:=by rfl) :
  c.wp (execs (.Assign [.Name x p'] e pos::rest) c.env) Q E (c.st h t) :=
 wpAny_execs_cons (wpAny_Assign_Name (he _ (λ_ x=>x) h t _ _ F λv _ _ F1 _ p=>by
  obtain ⟨u,rfl⟩:=p _ λ_ _ _ e=>e
  exact stn H F1 hi (λh2 F2=>hQ u h2 _ F2) hl) hs)
theorem retF {P:VH} (F:c.SS l N Φ h) (he:EvF c l N Φ e P) (hQ:∀v h' t',c.SS l N Φ h'→Since h.objs.size h' (P v)→Q (.ret v) (c.st h' t')) :
  c.wp (execs (.Return (some e) pos::rest) c.env) Q E (c.st h t) :=
 wpAny_execs_cons (wpAny_Return_some (he _ (λ_ x=>x) h t _ _ F λv h1 t1 F1 _ p=>hQ v h1 t1 F1 p))
noncomputable abbrev lobj (vs:List Value) (k:Nat):Obj:={ cls:=.type "list",data:=.seq vs.toArray k }
noncomputable abbrev tobj (vs:List Value):Obj:={ cls:=.type "tuple",data:=.seq vs.toArray }
variable {α:Type}
noncomputable def RL (R:α→VH) (xs:List α) (ys:List Value) (h:Heap):Prop:=ys.length=xs.length∧∀(i:Nat) (y:Value),ys[i]?=some y→∃x,xs[i]?=some x∧R x y h
noncomputable def LR (R:α→VH) (xs:List α) (v:Value) (h:Heap):Prop:=Ex3 λa ys k=>An3 (v = .ref a) (h.get? a=some (lobj ys k)) (RL R xs ys h)
theorem RL.get {R:α→VH} {xs:List α} (r:RL R xs ys h) {x:α} (e:xs[i]?=some x):∃y,ys[i]?=some y∧R x y h:=by
 have hi:i<ys.length:=by rw [r.1];exact (List.getElem?_eq_some_iff.mp e).1
 obtain ⟨x',e',q⟩:=r.2 i ys[i] (List.getElem?_eq_getElem hi)
 rw [e] at e';cases e'
 exact ⟨_,List.getElem?_eq_getElem hi,q⟩
theorem RL.nil {R:α→VH}:RL R [] [] h:=⟨rfl,λ_ _ e=>nomatch e⟩
theorem RL.cons {R:α→VH} {x:α} {xs:List α} {y:Value} (r:R x y h) (rs:RL R xs ys h):RL R (x::xs) (y::ys) h:=by
 refine ⟨congrArg (·+1) rs.1,λi z e=>?_⟩
 cases i with
 | zero=>exact ⟨x,rfl,Option.some.inj e▸r⟩
 | succ i=>exact rs.2 i z e
theorem RL.lift {R:α→VH} {G:List α→List Value→Prop} (h0:G [] []) (h1:∀x y xs ys,R x y h→G xs ys→G (x::xs) (y::ys)) {xs:List α}:∀ {ys:List Value},RL R xs ys h→G xs ys:=by
 induction xs with
 | nil=>intro ys r;cases ys with
  | nil=>exact h0
  | cons y ys=>exact absurd r.1 (Nat.succ_ne_zero _)
 | cons x xs ih=>intro ys r;cases ys with
  | nil=>exact absurd r.1.symm (Nat.succ_ne_zero _)
  | cons y ys =>
   obtain ⟨x',e,q⟩:=r.2 0 y rfl
   obtain rfl:x=x':=Option.some.inj e
   exact h1 _ _ _ _ q (ih ⟨Nat.succ.inj r.1,λi z e=>r.2 (i+1) z e⟩)
theorem RL.append {R:α→VH} {xs xs':List α} (r:RL R xs ys h) (r':RL R xs' ys' h):RL R (xs++xs') (ys++ys') h :=
 r.lift (G:=λxs ys=>RL R (xs++xs') (ys++ys') h) r' λ_ _ _ _ q g=>.cons q g
theorem RL.mono {R R':α→VH} {xs:List α} (r:RL R xs ys h) (k:∀x y,R x y h→R' x y h'):RL R' xs ys h' :=
 ⟨r.1,λi y e=>let ⟨x,ex,q⟩:=r.2 i y e;⟨x,ex,k x y q⟩⟩
end
end
section
theorem neA {a b:Nat} (h:a≠b):@Ne Addr a b:=h
structure Itr (prog:Program) (w:World) (A:Around) (g:Array GenState) (d:Drawn) (o:OsState) (it:Value) (target:Expr) (fp wr:List Addr) (m:Nat) (P:Nat→VH) (St:Nat→HP):Prop where
 sub:∀b∈wr,b∈fp
 frame:∀i h h',St i h→(∀b∈fp,∀o,h.get? b=some o→h'.get? b=some o)→St i h'
 item:∀i h t (Q:VQ),i<m→St i h→(∀v h' t',P i v h'→St (i+1) h'→h.objs.size≤h'.objs.size→(∀b o,b∉wr→h.get? b=some o→h'.get? b=some o)→Q v ⟨h',g,d,t',o⟩) →
  wpAny (model prog w) A (pyNext it) (λr s=>∃v,r=some v∧wpAny (model prog w) A (letOwnedTupleGo target it v) (λ_ s'=>Q v s') NoE s) NoE ⟨h,g,d,t,o⟩
 done:∀h t (Q:Shared→Prop),St m h→(∀h' t',h.objs.size≤h'.objs.size→(∀b o,b∉wr→h.get? b=some o→h'.get? b=some o)→Q ⟨h',g,d,t',o⟩) →
  wpAny (model prog w) A (pyNext it) (λr s=>r=none∧Q s) NoE ⟨h,g,d,t,o⟩
 self:∀h t (Q:Shared→Prop),St 0 h→Q ⟨h,g,d,t,o⟩→wpAny (model prog w) A (pyIter it) (λv s=>v=it∧Q s) NoE ⟨h,g,d,t,o⟩
theorem Itr.of {P:Nat→Value→Prop} {St:Nat→HP}
  (W:Walks prog w A I fp wr m P St) (ht:∀v,letOwnedTupleGo target (.ref I) v=pure ()):Itr prog w A g d o (.ref I) target fp wr m (λi v _=>P i v) St where
 sub:=W.sub
 frame:=W.frame
 item:=λi h t Q hi st hQ=>by
  refine wpAny_with_size (Nat.le_refl _) (W.item i _ _ _ hi st λv h' t' hp st' k hz=>⟨v,rfl,?_⟩)
  exact wpAny_of_eq (ht v) (hQ v h' t' hp st' hz k)
 done:=λh t Q st hQ=>wpAny_with_size (Nat.le_refl _) (W.done _ _ _ st λh' t' k hz=>⟨rfl,hQ h' t' hz k⟩)
 self:=λh t Q st hQ=>W.self 0 _ _ _ st ⟨rfl,hQ⟩
theorem compTurn_one (elt target iter:Expr) (scope:Scope) (pos:Pos) (it acc:Value) (env:Env) :
  compTurn (.ListComp elt [⟨target,iter,[],0⟩] scope pos) 0 it acc env=(standAt iter.pos >>= λ_=>pyNext it >>= λr=>match r with
   | none=>pure (.done .next)
   | some v=>letOwnedTupleGo target it v >>= λ_=>assign target env v >>= λ_ =>
    (eval elt env >>= λx=>call (.builtin "list.append") [acc,x] >>= λ_=>pure ()) >>= λ_ =>
     again (.compLoop (.ListComp elt [⟨target,iter,[],0⟩] scope pos) 0 it acc env)):=by rfl
theorem compLoop_any {acc:Value} (I:Nat→Shared→Prop)
  (turn:∀n s,I n s→wpAny (model prog w) A (pyNext it) (λr s₁=>match r with
   | none=>R (.ok .next) s₁
   | some v=>wpAny (model prog w) A (letOwnedTupleGo target it v) (λ_ s₁=>wpAny (model prog w) A (assign target env v) (λ_ s₂=>wpAny (model prog w) A (eval elt env) (λx s₃ =>
     wpAny (model prog w) A (call (.builtin "list.append") [acc,x]) (λ_ s₄=>∃m,m<n∧I m s₄) NoE s₃) NoE s₂) NoE s₁) NoE s₁) NoE s)
  (n:Nat) (h:I n s):codeAny (model prog w) A (.compLoop (.ListComp elt [⟨target,iter,[],0⟩] scope pos) 0 it acc env) R s:=by
 refine codeAny_loop rfl I (λn s hI=>?_) n h
 show wpAny _ _ ((compTurn (.ListComp elt [⟨target,iter,[],0⟩] scope pos) 0 it acc env).onRaise (λx=>do noteFrame x env;theTreesLotGoes x)) _ _ s
 have ex:∀ {α:Type} {t:Sem α} {Q:α→Shared→Prop} {E:VQ} {s:Shared},wpAny (model prog w) A t Q NoE s→wpAny (model prog w) A t Q E s :=
  λx=>wpAny_mono x (λ_ _ y=>y) λ_ _ y=>y.elim
 refine wpAny_onRaise ?_
 rw [compTurn_one]
 refine wpAny_bind (wpAny_standAt (wpAny_bind (wpAny_mono (turn n s hI) (λr s₁ h₁=>?_) λ_ _ y=>y.elim)))
 cases r with
 | none=>exact wpAny_pure h₁
 | some v =>
  exact wpAny_bind (wpAny_mono h₁ (λ_ s₁ h₁=>wpAny_bind (wpAny_mono h₁ (λ_ s₂ h₂=>wpAny_bind (wpAny_bind (wpAny_mono h₂ (λx s₃ h₃=>wpAny_bind (wpAny_mono h₃
   (λ_ s₄ h₄=>wpAny_pure (wpAny_pure ⟨rfl,h₄⟩)) λ_ _ y=>y.elim)) λ_ _ y=>y.elim))) λ_ _ y=>y.elim)) λ_ _ y=>y.elim)
@[reducible] noncomputable def compCx (c:Cx) (scope:Scope) (cl:List (Str×Addr)) (h:Heap) (C:Addr):Cx:={ c with env:=compEnvC scope cl C c.env,h₀:=h,S:=[],X:=[],L:=C }
noncomputable def Kept (wr:List Addr) (h h':Heap):Prop:=∀b o,b∉wr→h.get? b=some o→h'.get? b=some o
noncomputable abbrev cobj (v:Option Value):Obj:={ cls:=.type "cell",data:=.cell v }
noncomputable def cN:Bool→Addr→Option Value→LN
 | false,_,_=>[]
 | true,C,v=>[(C+1,cobj v)]
noncomputable def cK:Bool→Addr→Nat
 | false,C=>C+1
 | true,C=>C+2
theorem cN_in {b:Bool} {v:Option Value} {p:Addr×Obj} (h:p∈cN b C v):@LT.lt Nat _ C p.1∧@LT.lt Nat _ p.1 (cK b C):=by
 cases b with
 | false=>nomatch h
 | true=>rw [List.mem_singleton.mp h];exact ⟨Nat.lt_succ_self C,Nat.lt_succ_self (C+1)⟩
theorem cN_keys:∀(b:Bool) (C:Addr) (v w:Option Value),(cN b C v).map (·.1)=(cN b C w).map (·.1)
 | false,_,_,_=>rfl
 | true,_,_,_=>rfl
theorem cN_nodup:∀(b:Bool) (C:Addr) (v:Option Value),((cN b C v).map (·.1)).Nodup
 | false,_,_=>List.nodup_nil
 | true,_,_=>List.nodup_cons.mpr ⟨List.not_mem_nil,List.nodup_nil⟩
theorem cK_lt (b:Bool) (C:Addr):@LT.lt Nat _ C (cK b C):=by
 cases b with
 | false=>exact Nat.lt_succ_self C
 | true=>exact Nat.lt_succ_of_lt (Nat.lt_succ_self C)
theorem cN_out {b:Bool} {v:Option Value} (h:@LT.lt Nat _ a C∨@LE.le Nat _ (cK b C) a):a∉(cN b C v).map (·.1):=λq=>by
 obtain ⟨p,hp,rfl⟩:=List.mem_map.mp q
 have:=cN_in hp
 rcases h with h | h
 ·exact absurd this.1 (Nat.not_lt.mpr (Nat.le_of_lt h))
 ·exact absurd this.2 (Nat.not_lt.mpr h)
@[reducible] noncomputable def coreCx (c:Cx) (b:Bool) (env:Env) (C:Addr) (h:Heap):Cx:={ c with env:=env,h₀:=h,S:=(cN b C none).map (·.1),X:=[],L:=C }
theorem comp_core {P:Nat→VH} {St:Nat→HP}
  {use:Option (Value→Sem Unit)} {Q:VQ} (b:Bool) (names:List Str) (Fy:Nat→VH)
  (H:c.Ok n) (W₂:W0 c.K c.mg c.mb h₂) (IT:Itr c.prog c.w c.A c.g c.d c.o it target fp wr m P St) (hfp:∀b∈fp,b<h₂.objs.size) (hwr:∀b∈wr,278≤b) (hm:m≤sizeLine) (hnd:names.Nodup) (hDC:h₂.objs.size<C)
  (hok:∀h,W0 c.K c.mg c.mb h→(coreCx c b env C h).Ok n)
  (helt:∀i v h t lv cw,i<m→P i v h→lv.map (·.1)=names→(∀b o,b∉wr→h₂.get? b=some o→h.get? b=some o)→cK b C≤h.objs.size→(coreCx c b env C h).Ok n→(coreCx c b env C h).SS lv (cN b C cw) (Kept wr h₂) h →
   (coreCx c b env C h).wp (assign target env v) (λ_ s₂=>(coreCx c b env C h).wp (eval elt env) (λy s₃=>Ex4 λh₃ t₃ lv' cw'=>An4 (s₃=c.st h₃ t₃) (lv'.map (·.1)=names) ((coreCx c b env C h).SS lv' (cN b C cw') (λ_=>True) h₃) (Since (cK b C) h₃ (Fy i y))) NoE s₂) NoE (c.st h t))
  (hQ:∀ys h t k,ys.length=m→h.get? h₂.objs.size=some (lobj ys k)→(∀j y,ys[j]?=some y→Since (cK b C) h (Fy j y))→(∀b o,b∉wr→h₂.get? b=some o→h.get? b=some o)→h₂.objs.size≤h.objs.size→(∃mm,h.Ns C mm) →
   compPost (model c.prog c.w) c.A E use Q (.ref h₂.objs.size) C (.ok .next) (c.st h t)) :
  ∀h t,St 0 h→h.Ns C (lk (names.map λx=>(x,none)))→h.get? h₂.objs.size=some (lobj [] 0)→(∀b o,b∉wr→h₂.get? b=some o→h.get? b=some o)→cK b C≤h.objs.size→(∀p∈cN b C none,h.get? p.1=some p.2) →
   codeAny (model c.prog c.w) c.A (.compLoop (.ListComp elt [⟨target,iter,[],0⟩] scope pos) 0 it (.ref h₂.objs.size) env) (compPost (model c.prog c.w) c.A E use Q (.ref h₂.objs.size) C) (c.st h t):=by
 have hwlt:∀b:Nat,b∈wr→b<h₂.objs.size:=λb hb=>hfp b (IT.sub b hb)
 have hflt:∀b:Nat,b∈fp→b<h₂.objs.size:=hfp
 have lts:∀ {h:Heap} {b:Nat} {o:Obj},h.get? b=some o→b<h.objs.size:=λe=>Heap.lt_size e
 have hCK:@LT.lt Nat _ C (cK b C):=cK_lt b C
 have hCw:C∉wr:=λq=>absurd (hwlt C q) (Nat.not_lt.mpr (Nat.le_of_lt hDC))
 have hDw:h₂.objs.size∉wr:=λq=>absurd (hwlt _ q) (Nat.lt_irrefl _)
 intro h t hst0 hn0 hD0 hk0 hz0 hc0
 refine compLoop_any (λk s=>Ex7 λi h t lv ys kk cw=>An12 (s=c.st h t) (i≤m) (k=m - i) (St i h) (lv.map (·.1)=names) (h.Ns C (lk lv)) (h.get? h₂.objs.size=some (lobj ys kk)) (ys.length=i) (∀j y,ys[j]?=some y→Since (cK b C) h (Fy j y)) (∀b o,b∉wr→h₂.get? b=some o→h.get? b=some o) (cK b C≤h.objs.size) (∀p∈cN b C cw,h.get? p.1=some p.2)) ?_ (m - 0)
  ⟨0,h,t,names.map λx=>(x,none),[],0,none,rfl,Nat.zero_le _,rfl,hst0,by simp [Function.comp_def],hn0,hD0,rfl,by simp,hk0,hz0,hc0⟩
 rintro k s ⟨i,h,t,lv,ys,kk,cw,rfl,hi,rfl,hsti,hlv,hni,hDi,hlen,hF,hki,hzi,hci⟩
 by_cases hlt:i<m
 ·refine wpAny_mono (IT.item i h t (λv s₁=>Ex2 λh₁ t₁=>An5 (s₁=c.st h₁ t₁) (P i v h₁) (St (i+1) h₁) (h.objs.size≤h₁.objs.size) (Kept wr h h₁)) hlt hsti λv h' t' a b d e=>⟨h',t',rfl,a,b,d,e⟩) ?_ λ_ _ y=>y.elim
  rintro r s₁ ⟨v,rfl,hv⟩
  refine wpAny_mono hv (λ_ s₁ hv=>?_) λ_ _ y=>y
  obtain ⟨h',t',rfl,hP,hst',hz',hk'⟩:=hv
  have hk2:∀b o,b∉wr→h₂.get? b=some o→h'.get? b=some o:=λb o hb e=>hk' b o hb (hki b o hb e)
  have hz2:@LE.le Nat _ (cK b C) h'.objs.size:=Nat.le_trans hzi hz'
  have W':W0 c.K c.mg c.mb h':=W₂.keeps H.dom (λb hb=>.inl (hwr b hb)) hk2 (Nat.le_trans (Nat.le_of_lt (Nat.lt_trans hDC hCK)) hz2)
  have ok:=hok h' W'
  have hci':∀p∈cN b C cw,h'.get? p.1=some p.2:=λp hp=>hk' _ _ (λq=>absurd (hwlt _ q) (Nat.not_lt.mpr (Nat.le_of_lt (Nat.lt_trans hDC (cN_in hp).1)))) (hci p hp)
  have F':(coreCx c b env C h').SS lv (cN b C cw) (Kept wr h₂) h':=⟨ns_keeps hni hk' hCw,by rw [hlv];exact hnd,λ_ _ _ _ e=>e,
   λp hp=>⟨hci' p hp,Nat.ne_of_gt (cN_in hp).1,.inr (by show p.1∈(cN b C none).map (·.1);rw [cN_keys b C none cw];exact List.mem_map_of_mem hp)⟩,cN_nodup b C cw,Nat.le_refl _,(λ_ hb=>nomatch hb),
   λh'' k a o hb e=>k a o (Nat.ne_of_lt (Nat.lt_trans (lts e) hDC)) (λq=>nomatch q) (cN_out (.inl (Nat.lt_trans (lts e) hDC))) (hk2 a o hb e)⟩
  refine wpAny_mono (helt i v h' t' lv cw hlt hP hlv hk2 hz2 ok F') (λ_ s₂ h₂'=>wpAny_mono h₂' (λy s₃ h₃'=>?_) λ_ _ y=>y) λ_ _ y=>y
  obtain ⟨h₃,t₃,lv',cw',rfl,hlv',F₃,hFy⟩:=h₃'
  have k3:∀a o,a≠C→a∉(cN b C none).map (·.1)→h'.get? a=some o→h₃.get? a=some o:=λa o hb hb1 e=>F₃.keep a o hb1 hb e
  have lo:∀a:Addr,@LT.lt Nat _ a C→∀o,h'.get? a=some o→h₃.get? a=some o:=λa ha o e=>k3 a o (Nat.ne_of_lt ha) (cN_out (.inl ha)) e
  have hi3:∀a:Addr,@LE.le Nat _ (cK b C) a→∀o,h'.get? a=some o→h₃.get? a=some o:=λa ha o e=>k3 a o (Nat.ne_of_gt (Nat.lt_of_lt_of_le hCK ha)) (cN_out (.inr ha)) e
  have hD3:h₃.get? h₂.objs.size=some (lobj ys kk):=lo _ hDC _ (hk' _ _ hDw hDi)
  refine wpAny_list_append_plain (items:=ys.toArray) (hsz:=by simp only [List.size_toArray];lia) ⟨kk,hD3⟩ λh₅ hl₅ hs₅=>?_
  obtain ⟨k5,hD5⟩:=hl₅
  have k5':∀b o,b≠h₂.objs.size→h₃.get? b=some o→h₅.get? b=some o:=λb o hb e=>(hs₅.2 b hb).trans e
  have hiD:∀a:Addr,@LE.le Nat _ (cK b C) a→a≠h₂.objs.size:=λa ha=>Nat.ne_of_gt (Nat.lt_of_lt_of_le (Nat.lt_trans hDC hCK) ha)
  have hFm:∀j y',Since (cK b C) h (Fy j y')→Since (cK b C) h₅ (Fy j y'):=λj y' p=>p.on λa o hb e =>
   k5' a o (hiD a hb) (hi3 a hb o (hk' a o (λq=>absurd (hwlt a q) (Nat.not_lt.mpr (Nat.le_trans (Nat.le_of_lt (Nat.lt_trans hDC hCK)) hb))) e))
  refine ⟨m - (i+1),Nat.sub_lt_sub_left hlt (Nat.lt_succ_self i),i+1,h₅,t₃,lv',ys++[y],k5,cw',rfl,hlt,rfl,?_,hlv',?_,by rw [hD5];simp,by simp [hlen],?_,?_,?_,?_⟩
  ·exact IT.frame _ _ _ hst' λa hb o e=>k5' a o (Nat.ne_of_lt (hflt a hb)) (lo a (Nat.lt_trans (hflt a hb) hDC) o e)
  ·exact F₃.ns.sameBut hs₅ (Nat.ne_of_gt hDC)
  ·intro j y' hj
   rcases Nat.lt_trichotomy j ys.length with q | q | q
   ·rw [List.getElem?_append_left q] at hj
    exact hFm j y' (hF j y' hj)
   ·subst q
    simp only [List.getElem?_concat_length,Option.some.injEq] at hj
    subst hj
    rw [hlen]
    exact hFy.on λa o hb e=>k5' a o (hiD a hb) e
   ·rw [List.getElem?_eq_none (by rw [List.length_append];exact q)] at hj;cases hj
  ·intro a o hb e
   exact k5' a o (Nat.ne_of_lt (lts e)) (lo a (Nat.lt_trans (lts e) hDC) o (hk2 a o hb e))
  ·rw [hs₅.1];exact Nat.le_trans hz2 F₃.size
  ·exact λp hp=>k5' _ _ (Nat.ne_of_gt (Nat.lt_trans hDC (cN_in hp).1)) (F₃.news p hp).1
 ·have him:i=m:=Nat.le_antisymm hi (Nat.not_lt.mp hlt)
  subst him
  refine wpAny_mono (IT.done h t (λs₁=>compPost (model c.prog c.w) c.A E use Q (.ref h₂.objs.size) C (.ok .next) s₁) hsti ?_) ?_ (λ_ _ y=>y)
  ·intro h' t' hz' hk'
   refine hQ ys h' t' kk hlen (hk' _ _ hDw hDi) (λj y hj=>?_) (λb o hb e=>hk' b o hb (hki b o hb e)) (Nat.le_trans (Nat.le_trans (Nat.le_of_lt (Nat.lt_trans hDC hCK)) hzi) hz') ⟨_,ns_keeps hni hk' hCw⟩
   exact (hF j y hj).on λa o hb e=>hk' a o (λq=>absurd (hwlt a q) (Nat.not_lt.mpr (Nat.le_trans (Nat.le_of_lt (Nat.lt_trans hDC hCK)) hb))) e
  ·rintro r s₁ ⟨rfl,hs⟩
   exact hs
theorem comp_loop {P:Nat→VH} {St:Nat→HP} {t₂:Nat}
  {use:Option (Value→Sem Unit)} {Q:VQ}
  (names:List Str) (Fy:Nat→VH)
  (H:c.Ok n) (W₂:W0 c.K c.mg c.mb h₂) (IT:Itr c.prog c.w c.A c.g c.d c.o it target fp wr m P St) (st:St 0 h₂) (hfp:∀b∈fp,b<h₂.objs.size) (hwr:∀b∈wr,278≤b) (hm:m≤sizeLine)
  (hsc:(decide (scope.kind = .function) && (scope.names.all λx=>decide (x.2≠.cell)) && decide names.Nodup)=true)
  (helt:∀C i v h t lv,i<m→h₂.objs.size<C→P i v h→lv.map (·.1)=names→(∀b o,b∉wr→h₂.get? b=some o→h.get? b=some o)→C<h.objs.size→(compCx c scope cl h C).Ok n→(compCx c scope cl h C).SS lv [] (Kept wr h₂) h →
   (compCx c scope cl h C).wp (assign target (compEnvC scope cl C c.env) v) (λ_ s₂=>(compCx c scope cl h C).wp (eval elt (compEnvC scope cl C c.env)) (λy s₃=>Ex3 λh₃ t₃ lv'=>An4 (s₃=c.st h₃ t₃) (lv'.map (·.1)=names) ((compCx c scope cl h C).SS lv' [] (λ_=>True) h₃) (Since (C+1) h₃ (Fy i y))) NoE s₂) NoE (c.st h t))
  (hQ:∀D C ys h t k,h₂.objs.size≤D→D<C→ys.length=m→h.get? D=some (lobj ys k)→(∀j y,ys[j]?=some y→Since (C+1) h (Fy j y))→(∀b o,b∉wr→h₂.get? b=some o→h.get? b=some o)→h₂.objs.size≤h.objs.size→(∃mm,h.Ns C mm) →
   compPost (model c.prog c.w) c.A E use Q (.ref D) C (.ok .next) (c.st h t)) :
  c.wp (newList []) (λacc s₃=>c.wp (newFunctionEnv scope c.env.globals cl [] c.env.qual none .none (some c.env)) (λcenv s₄ =>
    codeAny (model c.prog c.w) c.A (.compStart (.ListComp elt [⟨target,iter,[],0⟩] scope pos) 0 it acc { cenv with scope:=relabel scope c.env }) (compPost (model c.prog c.w) c.A E use Q acc cenv.locals) s₄) E s₃) E (c.st h₂ t₂):=by
 simp only [Bool.and_eq_true,List.all_eq_true,decide_eq_true_eq] at hsc
 obtain ⟨⟨hk,hcell⟩,hnd⟩:=hsc
 have hCE:compEnvC scope cl (h₂.objs.size+1) c.env={ newEnv scope (h₂.objs.size+1) c.env.globals cl c.env.qual none .none (some c.env) builtinsNs with scope:=relabel scope c.env }:=rfl
 have lts:∀ {h:Heap} {b:Nat} {o:Obj},h.get? b=some o→b<h.objs.size:=λe=>Heap.lt_size e
 unfold newList
 refine wpAny_newObj_type (wpAny_newFunctionEnv hcell (by simp) (λh₄ hns hsb=>?_) hk) (by show (([]:List Value).toArray).size≤sizeLine;simp)
 have eC:(h₂.push (lobj [] 0)).objs.size=h₂.objs.size+1:=Heap.size_push ..
 have eD:({ cls:=.type "list",dict:=none,data:=.seq ([]:List Value).toArray }:Obj)=lobj [] 0:=rfl
 dsimp only at hns hsb ⊢
 rw [eD] at hns hsb
 simp only [eD]
 rw [eC] at hns hsb ⊢
 rw [←hCE]
 obtain ⟨C,hCd⟩:∃C,C=h₂.objs.size+1:=⟨_,rfl⟩
 rw [←hCd] at hns hsb ⊢
 clear hCE eC
 have hDC:h₂.objs.size<C:=by lia
 have k4:∀b o,(h₂.push (lobj [] 0)).get? b=some o→h₄.get? b=some o:=λb o e =>
  hsb.extBut b o (neA (by have:=lts e;rw [Heap.size_push] at this;lia)) (Heap.get?_push_of_some _ e)
 have hz4:C<h₄.objs.size:=by have:=hns.lt;exact this
 have hD4:h₄.get? h₂.objs.size=some (lobj [] 0):=k4 _ _ (Heap.get?_push_size _ rfl)
 have k24:∀b o,h₂.get? b=some o→h₄.get? b=some o:=λb o e=>k4 b o (Heap.get?_push_of_some _ e)
 have hn4:h₄.Ns C (lk (names.map λx=>(x,none))):=by
  have e:(λx=>List.lookup x ([]:List (Str×Value)).reverse)=lk (names.map λx=>(x,none)):=by
   funext x
   have:∀l:List Str,lk (l.map λx=>(x,(none:Option Value))) x=none:=by
    intro l;induction l with
    | nil=>rfl
    | cons y r ih=>simp only [List.map_cons,lk];by_cases hh:x=y<;>simp [hh,ih]
   rw [this];rfl
  rw [←e];exact hns
 have loop:=comp_core (use:=use) (Q:=Q) (E:=E) (iter:=iter) (pos:=pos) (scope:=scope) (env:=compEnvC scope cl C c.env) false names Fy H W₂ IT hfp hwr hm hnd hDC (λh W=>⟨hk,rfl,H.globals,H.builtins,H.A,W,H.dom,(λb hb=>nomatch hb),Nat.le_trans W₂.size (Nat.le_of_lt hDC)⟩)
  (λi v h t lv cw hlt hP hlv hk' hz ok F=>wpAny_mono (helt C i v h t lv hlt hDC hP hlv hk' hz ok F) (λ_ s q=>wpAny_mono q (λy s q=>by obtain ⟨h₃,t₃,lv',e1,e2,e3,e4⟩:=q;exact ⟨h₃,t₃,lv',none,e1,e2,e3,e4⟩) λ_ _ y=>y) λ_ _ y=>y)
  (λys h t k=>hQ h₂.objs.size C ys h t k (Nat.le_refl _) hDC)
 refine codeAny_compStart_list ?_ ?_
 ·exact loop h₄ _ (IT.frame _ _ _ st λb _ o e=>k24 b o e) hn4 hD4 (λb o _ e=>k24 b o e) hz4 (λ_ hp=>nomatch hp)
 ·refine ex (wpAny_mono (IT.self h₄ _ (λs=>∃t,s=c.st h₄ t) (IT.frame _ _ _ st λb _ o e=>k24 b o e) ⟨_,rfl⟩) ?_ λ_ _ y=>y)
  rintro it' s' ⟨rfl,t',rfl⟩
  exact loop h₄ t' (IT.frame _ _ _ st λb _ o e=>k24 b o e) hn4 hD4 (λb o _ e=>k24 b o e) hz4 (λ_ hp=>nomatch hp)
end
section
structure Vw (c:Cx) (l:LS) (N:LN) (Φ:HP) (h:Heap):Prop where
 ns:h.Ns c.L (lk l)
 news:∀p∈N,h.get? p.1=some p.2
 phi:Φ h
 root:∀b o,b∉c.S→b≠c.L→c.h₀.get? b=some o→h.get? b=some o
noncomputable def Asg (target:Expr) (names:List Str) (v:Value) (vs:List Value) (h:Heap):Prop :=
 (∀x p,target = .Name x p→vs=[v])∧∀(c:Cx) n lv Ψ t,c.Ok n→(∀x∈names,Loc c.env x)→lv.map (·.1)=names→c.SS lv [] Ψ h →
  c.wp (assign target c.env v) (λ_ s₂=>Ex2 λh' t'=>s₂=c.st h' t'∧c.SS (names.zip (vs.map some)) [] Ψ h') NoE (c.st h t)
theorem Asg.name {p:Pos}:Asg (.Name x p) [x] v [v] h:=by
 refine ⟨λ_ _ _=>rfl,?_⟩
 intro c n lv Ψ t H hl hlv F
 obtain ⟨w,r,rfl,hr⟩:=mkey hlv
 obtain rfl:=List.map_eq_nil_iff.mp hr
 exact wpAny_assign_Name (stn H F (i:=0) rfl (λh' F'=>⟨h',_,rfl,F'⟩) (hl x (by trivial)))
theorem assign_tup {x1} {t:Addr} {Q:Unit→Shared→Prop} (hh:A.handled=none) (ht:s.heap.IsTuple t items)
  (hn:(assignEach elts env).length=items.size) (hstar:(assignEach elts env).findIdx? (·.1)=none)
  (h:∀h',Grow s.heap h'→wpAny (model prog w) A (assignInOrder ((assignEach elts env).map (·.2)) items.toList) Q E { s with heap:=h' }) :
  wpAny (model prog w) A (assign (.Tuple elts x1 pos) env (.ref t)) Q E s:=by
 rw [arm_assign_Tuple]
 refine wpAny_bind (wpAny_standAt ?_)
 unfold unpack
 rw [hn,hstar]
 exact wpAny_bind (wpAny_holding (wpAny_with_size (Nat.le_refl _) (wpAny_unpackItems_tuple hh ht λh' he hz=>h h' ⟨hz,λb o e=>he b o (Nat.ne_of_lt (Heap.lt_size e)) e⟩)))
theorem Asg.pair {k} {T:Addr} {a b:Value} (hT:h.IsTuple T #[a,b]):Asg (.Tuple [.Name x px,.Name y py] k pos) [x,y] (.ref T) [a,b] h:=by
 refine ⟨λ_ _ e=>(nomatch e),?_⟩
 intro c n lv Ψ t H hl hlv F
 obtain ⟨w,r,rfl,hr⟩:=mkey hlv
 obtain ⟨w',r2,rfl,hr2⟩:=mkey hr
 obtain rfl:=List.map_eq_nil_iff.mp hr2
 refine assign_tup H.A.1 hT rfl rfl λh' G=>?_
 refine wpAny_assignInOrder_more (wpAny_assign_Name (stn H (F.grown G) (i:=0) rfl (λh2 F2=>?_) (hl x (by trivial))))
 refine wpAny_assignInOrder_more (wpAny_assign_Name (stn H F2 (i:=1) rfl (λh3 F3=>?_) (hl y (by trivial))))
 exact wpAny_assignInOrder_none ⟨h3,_,rfl,F3⟩
theorem SS.out (F:SS h₀ S X L l N Φ h) (ha:∀h,Φ h→∃o,h.get? a=some o):a≠L∧a∉X∧a∉N.map (·.1):=by
 have key:¬ ∀b o,b≠L→b∉X→b∉N.map (·.1)→h.get? b=some o→(h.update a λo=>{ o with data:=.freed }).get? b=some o:=by
  intro q
  obtain ⟨o,e⟩:=ha _ (F.fz _ q)
  have:(h.update a λo=>{ o with data:=.freed }).get? a=none:=by
   simp only [Heap.update,Heap.get?,Array.getElem?_modify,if_true]
   cases h.objs[a]?<;>rfl
  rw [this] at e;cases e
 refine Classical.byContradiction λhn=>key λb o b1 b2 b3 e=>?_
 rw [Heap.get?_update_ne _ _ _ _ (λr=>hn (by subst r;exact ⟨b1,b2,b3⟩))]
 exact e
noncomputable def ItrAt (c:Cx) (l:LS) (N:LN) (Φ:HP) (it:Value) (target:Expr) (names:List Str) (m:Nat) (P:Nat→List Value→HP) (h₂:Heap):Prop :=
 Ex4 λ(fp wr:List Addr) (St:Nat→HP) (P₀:Nat→VH)=>An6 (Itr c.prog c.w c.A c.g c.d c.o it target fp wr m P₀ St) (St 0 h₂) ((∀b∈fp,b<h₂.objs.size∧b≠c.L∧b∉N.map (·.1))) ((∀b∈wr,c.h₀.objs.size≤b∧b≠c.L∧b∉N.map (·.1))) (SS c.h₀ c.S (wr++c.X) c.L l N Φ h₂) ((∀i v h,P₀ i v h→∃vs,An3 (vs.length=names.length) (Asg target names v vs h) (∀h',(∀b o,b≠c.L→b∉wr++c.X→b∉N.map (·.1)→h₂.get? b=some o→h'.get? b=some o)→P i vs h')))
noncomputable def EvIt (c:Cx) (l:LS) (N:LN) (Φ:HP) (iter target:Expr) (names:List Str) (m:Nat) (P:Nat→List Value→HP):Prop :=
 ∀Φ':HP,(∀h,Φ' h→Φ h)→∀h t (Q:VQ),c.SS l N Φ' h→(∀it h₂ t₂,ItrAt c l N Φ' it target names m P h₂→h.objs.size≤h₂.objs.size→Q it (c.st h₂ t₂)) →
  c.wp (eval iter c.env) (λxv s₁=>c.wp (pyIter xv) Q NoE s₁) NoE (c.st h t)
section
theorem SS.but (x:SS h₀ S (wr++X) L l N Φ h₂) (hwr:∀b∈wr,h₀.objs.size≤b∧b≠L∧b∉N.map (·.1)) (k:Kept wr h₂ h') (hz:h₂.objs.size≤h'.objs.size):SS h₀ S X L l N Φ h' :=
 ⟨ns_keeps x.ns k (λq=>(hwr _ q).2.1 rfl),x.nd,λb o hb hL e=>k b o (λq=>absurd (Heap.lt_size e) (Nat.not_lt.mpr (hwr b q).1)) (x.keep b o hb hL e),
  λp hp=>⟨k _ _ (λq=>(hwr _ q).2.2 (List.mem_map_of_mem (f:=Prod.fst) hp)) (x.news p hp).1,(x.news p hp).2⟩,x.ndn,Nat.le_trans x.size hz,
  λb hb=>Nat.lt_of_lt_of_le (x.xlt b (List.mem_append_right _ hb)) hz,
  λh'' q=>x.fz h'' λb o b1 b2 b3 e=>q b o b1 (λr=>b2 (List.mem_append_right _ r)) b3 (k b o (λr=>b2 (List.mem_append_left _ r)) e)⟩
variable {P:Nat→List Value→HP} {names:List Str} {Fy:Nat→VH}
noncomputable def EltOk (c:Cx) (n:Nat) (l:LS) (N:LN) (Φ:HP) (elt:Expr) (scope:Scope) (cl:List (Str×Addr)) (m:Nat) (P:Nat→List Value→HP) (names:List Str) (Fy:Nat→VH):Prop :=
 ∀C h₀ vs i Ψ,i<m→vs.length=names.length→(∀h,Ψ h→P i vs h)→(∀h,Ψ h→Vw c l N Φ h)→(compCx c scope cl h₀ C).Ok n→EvF (compCx c scope cl h₀ C) (names.zip (vs.map some)) [] Ψ elt (Fy i)
noncomputable def LI (m:Nat) (Fy:Nat→VH) (v:Value) (h:Heap):Prop:=Ex3 λa ys k=>An4 (v = .ref a) (h.get? a=some (lobj ys k)) (ys.length=m) (∀i y,ys[i]?=some y→Fy i y h)
theorem comp_tail (F₂:SS c.h₀ c.S (wr++c.X) c.L l N Φ h₂) (hwr:∀b∈wr,c.h₀.objs.size≤b∧b≠c.L∧b∉N.map (·.1)) (hk:∀b o,b∉wr→h₂.get? b=some o→h'.get? b=some o) (hz:h₂.objs.size≤h'.objs.size)
  (hC:@LT.lt Nat _ h₂.objs.size C) (hCl:@LT.lt Nat _ C h'.objs.size):(∀b∈[C],c.h₀.objs.size≤b∧b≠c.L∧b∉N.map (·.1))∧SS c.h₀ c.S ([C]++c.X) c.L l N Φ h':=by
 have F1:c.SS l N Φ h':=F₂.but hwr hk hz
 refine ⟨f1 ⟨Nat.le_of_lt (Nat.lt_of_le_of_lt F₂.size hC),Nat.ne_of_gt (Nat.lt_trans F₂.ltL hC),λq=>?_⟩,F1.ns,F1.nd,F1.keep,F1.news,F1.ndn,F1.size,λb hb=>?_,λh'' q=>F₂.fz h'' λb o b1 b2 b3 e=>q b o b1 (λr=>?_) b3 (hk b o (λr=>b2 (List.mem_append_left _ r)) e)⟩
 ·obtain ⟨p,hp,e⟩:=List.mem_map.mp q
  exact absurd (Nat.lt_trans (F₂.belowN p hp) hC) (by rw [e];exact Nat.lt_irrefl _)
 ·rcases List.mem_append.mp hb with r | r
  ·rw [List.mem_singleton.mp r];exact hCl
  ·exact F1.xlt b r
 ·rcases List.mem_append.mp r with r | r
  ·rw [List.mem_singleton.mp r] at e
   exact absurd (Nat.lt_trans (Heap.lt_size e) hC) (Nat.lt_irrefl _)
  ·exact b2 (List.mem_append_right _ r)
theorem SS.vw (F₂:SS c.h₀ c.S (wr++c.X) c.L l N Φ h₂) (hwr:∀b∈wr,c.h₀.objs.size≤b∧b≠c.L∧b∉N.map (·.1)) (q:Kept wr h₂ h'):Vw c l N Φ h' :=
 ⟨ns_keeps F₂.ns q (λr=>(hwr _ r).2.1 rfl),λp hp=>q _ _ (λr=>(hwr _ r).2.2 (List.mem_map_of_mem (f:=Prod.fst) hp)) (F₂.news p hp).1,F₂.fz h' λb o _ b2 _ e=>q b o (λr=>b2 (List.mem_append_left _ r)) e,
  λb o hb hL e=>q b o (λr=>absurd (Heap.lt_size e) (Nat.not_lt.mpr (hwr b r).1)) (F₂.keep b o hb hL e)⟩
theorem comp_end {t':Nat} {K0:Nat} {Fy:Nat→VH} {Q:VQ} (F₂:SS c.h₀ c.S (wr++c.X) c.L l N Φ h₂) (hwr:∀b∈wr,c.h₀.objs.size≤b∧b≠c.L∧b∉N.map (·.1)) (hz0:h.objs.size≤h₂.objs.size)
  (hQ:∀v h' t',c.SS l N Φ h'→h.objs.size≤h'.objs.size→Since h.objs.size h' (LI m Fy v)→Q v (c.st h' t')) (hK:@LT.lt Nat _ C K0) (h1:@LE.le Nat _ h₂.objs.size D) (h2:@LT.lt Nat _ D C) (hlen:ys.length=m) (hD:h'.get? D=some (lobj ys k)) (hF:∀j y,ys[j]?=some y→Since K0 h' (Fy j y))
  (hk:∀b o,b∉wr→h₂.get? b=some o→h'.get? b=some o) (hz:h₂.objs.size≤h'.objs.size) (hn:∃mm,h'.Ns C mm):∃mm,h'.Ns C mm∧∀h'',Heap.SameBut C h' h''→Q (.ref D) (c.st h'' t'):=by
 obtain ⟨mm,hn⟩:=hn
 refine ⟨mm,hn,λh'' hs'=>?_⟩
 obtain ⟨hC,F1'⟩:=comp_tail F₂ hwr hk hz (Nat.lt_of_le_of_lt h1 h2) hn.lt
 have F2:c.SS l N Φ h'':=F1'.but hC (λb o hb e=>(hs'.2 b (λq=>hb (List.mem_singleton.mpr q))).trans e) (Nat.le_of_eq hs'.1.symm)
 refine hQ _ h'' t' F2 (by rw [hs'.1];exact Nat.le_trans hz0 hz) λh3 q=>⟨D,ys,k,rfl,?_,hlen,λj y hj=>?_⟩
 ·exact q _ _ (Nat.le_trans hz0 h1) ((hs'.2 D (neA (Nat.ne_of_lt h2))).trans hD)
 ·refine hF j y hj h3 λb o hb e=>?_
  have hCb:@LT.lt Nat _ C b:=Nat.lt_of_lt_of_le hK hb
  exact q _ _ (Nat.le_trans (Nat.le_trans hz0 h1) (Nat.le_of_lt (Nat.lt_trans h2 hCb))) ((hs'.2 b (neA (Nat.ne_of_gt hCb))).trans e)
theorem listComp (H:c.Ok n) (hclos:closureFor scope c.env=pure cl)
  (hsc:(decide (scope.kind = .function) && (scope.names.all λx=>decide (x.2≠.cell)) && decide names.Nodup && (scope.names.all λx=>decide (x.2 = .local→scope.names.lookup x.1=some .local)) && names.all λx=>decide (scope.names.lookup x=some .local))=true)
  (hm:m≤sizeLine) (hit:EvIt c l N Φ iter target names m P) (helt:EltOk c n l N Φ elt scope cl m P names Fy)
  (hs:∀x,foldedSetIterable iter c.env x=pure x:=by intro _;rfl):EvF c l N Φ (.ListComp elt [⟨target,iter,[],0⟩] scope pos) (LI m Fy):=by
 intro Φ' kΦ h t Q E F hQ
 simp only [Bool.and_eq_true] at hsc
 obtain ⟨⟨hsc,hnames⟩,hloc⟩:=hsc
 have hkind:scope.kind = .function:=by simp only [Bool.and_eq_true,decide_eq_true_eq] at hsc;exact hsc.1.1
 have hsc':(decide (scope.kind = .function) && (scope.names.all λx=>decide (x.2≠.cell)) && decide names.Nodup)=true:=by simp only [Bool.and_eq_true];exact hsc
 simp only [List.all_eq_true,decide_eq_true_eq] at hnames hloc
 rw [eval_ListComp]
 refine ex (wpAny_comprehension_free rfl hs hclos hkind hnames (wpAny_mono (hit Φ' kΦ h t (λit s₂=>Ex2 λh₂ t₂=>An3 (s₂=c.st h₂ t₂) (ItrAt c l N Φ' it target names m P h₂) (h.objs.size≤h₂.objs.size)) F λit h₂ t₂ hi hz=>⟨h₂,t₂,rfl,hi,hz⟩)
  (λxv s₁ h₁=>wpAny_mono h₁ (λit s₂ h₂=>?_) λ_ _ y=>y) λ_ _ y=>y))
 obtain ⟨h₂,t₂,rfl,⟨fp,wr,St,P₀,IT,st,hfp,hwr,F₂,conv⟩,hz0⟩:=h₂
 refine comp_loop names Fy H (H.W1 (F₂.but hwr (λ_ _ _ e=>e) (Nat.le_refl _))) IT st (λb hb=>(hfp b hb).1) (λb hb=>Nat.le_trans H.W.size (hwr b hb).1) hm hsc' ?_ ?_
 ·intro C i v h t lv hlt hDC hP hlv hk hCz ok F'
  obtain ⟨vs,hvl,asg,hsem⟩:=conv i v h hP
  have hl:∀x∈names,(compCx c scope cl h C).env.kindOf x=some .local:=λx hx=>lookup_relabel_local (hloc x hx)
  refine wpAny_mono (asg.2 _ n lv (Kept wr h₂) t ok hl hlv F') (λ_ s₂ h₂'=>?_) λ_ _ y=>y
  obtain ⟨h3,t3,rfl,F3⟩:=h₂'
  refine helt C h vs i (Kept wr h₂) hlt hvl (λh' q=>hsem h' λb o _ b2 _ e=>q b o (λr=>b2 (List.mem_append_left _ r)) e) (λh' q=>let v:=SS.vw F₂ hwr q;⟨v.1,v.2,kΦ _ v.3,v.4⟩) ok (Kept wr h₂) (λ_ x=>x) h3 t3 _ _ F3 λy h4 t4 F4 hz4 p=>?_
  exact ⟨h4,t4,_,rfl,by rw [List.map_fst_zip];simp [hvl],F4.weaken λ_ _=>trivial,p.le F3.ltL⟩
 intro D C ys h' t' k h1 h2 hlen hD hF hk hz hn
 exact comp_end F₂ hwr hz0 hQ (Nat.lt_succ_self C) h1 h2 hlen hD hF hk hz hn
end
end
section
theorem Itr.ofT {Pt:Nat→Array Value→Prop} {St:Nat→HP} {Mid:Nat→Addr→HP}
  (W:WalksT prog w A I fp wr m Pt St Mid):Itr prog w A g d o (.ref I) (.Tuple elts k pos) fp wr m (λi v h=>Ex2 λT vals=>An3 (v = .ref T) (h.IsTuple T vals) (Pt i vals)) St where
 sub:=W.sub
 frame:=W.frame
 item:=λi h t Q hi st hQ=>by
  refine wpAny_with_size (Nat.le_refl _) (W.item i _ _ _ hi st λT vals h' t' hp _ hT mid k hz=>⟨_,rfl,?_⟩)
  refine wpAny_with_size (Nat.le_refl _) (W.go _ _ _ i T _ _ _ mid λh'' st' k' hz'=>?_)
  refine hQ _ h'' t' ⟨T,vals,rfl,?_,hp⟩ st' (Nat.le_trans hz hz') λb o hb e=>k' b o hb (k b o hb e)
  obtain ⟨o,e,r⟩:=hT
  exact ⟨o,k' T o (W.apart _ _ _ mid) e,r⟩
 done:=λh t Q st hQ=>wpAny_with_size (Nat.le_refl _) (W.done _ _ _ st λh' t' k hz=>⟨rfl,hQ h' t' hz k⟩)
 self:=λh t Q st hQ=>W.self 0 _ _ _ st ⟨rfl,hQ⟩
theorem Itr.lenEq {m':Nat} {P:Nat→VH} {St:Nat→HP}
  (x:Itr prog w A g d o it target fp wr m P St) (e:m=m'):Itr prog w A g d o it target fp wr m' P St:=e▸x
section
theorem SS.growX (x:SS h₀ S X L l N Φ h) (g:Grow h h') (hwr:∀b∈wr,h.objs.size≤b∧b<h'.objs.size):SS h₀ S (wr++X) L l N Φ h':=by
 have y:=x.grow g.1 g.2
 refine ⟨y.ns,y.nd,y.keep,y.news,y.ndn,y.size,λb hb=>?_,λh'' q=>x.fz h'' λb o b1 b2 b3 e=>q b o b1 (λr=>?_) b3 (g.2 b o e)⟩
 ·rcases List.mem_append.mp hb with r | r
  ·exact (hwr b r).2
  ·exact y.xlt b r
 ·rcases List.mem_append.mp r with r | r
  ·exact absurd (Heap.lt_size e) (Nat.not_lt.mpr (hwr b r).1)
  ·exact b2 r
theorem SS.wrOk (x:SS h₀ S X L l N Φ h) (hwr:∀b∈wr,h.objs.size≤b):∀b∈wr,h₀.objs.size≤b∧b≠L∧b∉N.map (·.1):=λb hb =>
 ⟨Nat.le_trans x.size (hwr b hb),Nat.ne_of_gt (Nat.lt_of_lt_of_le x.ltL (hwr b hb)),λq=>by
  obtain ⟨p,hp,rfl⟩:=List.mem_map.mp q
  exact absurd (x.belowN p hp) (Nat.not_lt.mpr (hwr _ hb))⟩
theorem Grow.push (h:Heap) (o:Obj):Grow h (h.push o):=⟨by rw [Heap.size_push];lia,λ_ _ e=>Heap.get?_push_of_some _ e⟩
theorem lt_push (h:Heap) (o:Obj):h.objs.size<(h.push o).objs.size:=by rw [Heap.size_push];exact Nat.lt_succ_self _
theorem fitsLong {i:Int} (h0:0≤i) (h:i<2 ^ 41):Builtin.Range.rangeFitsLong i=true :=
 Bool.and_eq_true_iff.mpr ⟨decide_eq_true (Int.le_trans (by decide) h0),decide_eq_true (Int.lt_trans h (by decide))⟩
theorem small_up {a b c:Nat} (hc:0<c) (ha:a<2 ^ 40) (hb:b<2 ^ 40) (hc':c<2 ^ 40):Builtin.Range.small a b c=true:=by
 have h1:Builtin.Range.rangeFitsLong (Builtin.Range.rangeSize a b c)=true:=by
  unfold Builtin.Range.rangeSize
  rw [if_pos (Int.natCast_pos.mpr hc)]
  split
  ·have h:(0:Int)≤(b:Int) - a - 1:=by lia
   exact fitsLong (Int.le_trans (Int.ediv_nonneg h (Int.natCast_nonneg c)) (Int.le_of_lt (Int.lt_succ _))) (Int.lt_of_le_of_lt (Int.add_le_add_right (Int.ediv_le_self (c:Int) h) 1) (by lia))
  ·rfl
 unfold Builtin.Range.small
 rw [h1,fitsLong (by lia) (by lia),fitsLong (by lia) (by lia),fitsLong (by lia) (by lia),if_pos (Int.natCast_pos.mpr hc),fitsLong (by lia) (by lia),Bool.or_true];rfl
theorem rangeAt {Q:VQ} {a cc:Nat} {b:Int} {t v:Tok} (H:c.Ok n) (F1:c.SS l N Φ h1) (hs:Builtin.Range.small a b cc=true) (hm:Builtin.Range.rangeSize a b cc=(m:Int))
  (hQ:∀it h₂ t₂,ItrAt c l N Φ it (.Name x px) [x] m (λi vs _=>∃u,vs=[.int ((a+i*cc:Nat):Int) u]) h₂→h1.objs.size≤h₂.objs.size→Q it (c.st h₂ t₂)) :
  c.wp (pyIter (.ref h1.objs.size)) Q NoE (c.st (h1.push { cls:=.type "range",data:=.fields #[.int a t,.int b u,.int cc v] }) t1):=by
 refine wpAny_pyIter_range (IsRange.new _ _ _ _ _ _ _) hs ?_
 have g:Grow h1 ((h1.push { cls:=.type "range",data:=.fields #[.int a t,.int b u,.int cc v] }).push { cls:=.type "range_iterator",data:=.fields #[rawInt a,rawInt (Builtin.Range.rangeSize a b cc),rawInt cc] }):=(Grow.push _ _).trans (Grow.push _ _)
 have hI:h1.objs.size≤(h1.push { cls:=.type "range",data:=.fields #[.int (a:Int) t,.int b u,.int (cc:Int) v] }).objs.size:=by rw [Heap.size_push];lia
 refine hQ _ _ _ ⟨[(h1.push { cls:=.type "range",data:=.fields #[.int a t,.int b u,.int cc v] }).objs.size],[(h1.push { cls:=.type "range",data:=.fields #[.int a t,.int b u,.int cc v] }).objs.size],_,_,
  Itr.of (Walks.range H.A.1 _ a cc m) (λ_=>rfl),?_,?_,F1.wrOk ?_,F1.growX g ?_,?_⟩ g.1
 ·show _=_
  rw [hm]
  rw [show (a:Int)+((0:Nat):Int)*(cc:Int)=a by simp,show (m:Int) - ((0:Nat):Int)=m by simp]
  exact Heap.get?_push_size _ rfl
 ·intro b hb;rw [List.mem_singleton.mp hb];exact ⟨lt_push _ _,(F1.wrOk (wr:=[_]) (λb hb=>by rw [List.mem_singleton.mp hb];exact hI) _ (List.mem_singleton.mpr rfl)).2⟩
 ·intro b hb;rw [List.mem_singleton.mp hb];exact hI
 ·intro b hb;rw [List.mem_singleton.mp hb];exact ⟨hI,lt_push _ _⟩
 ·rintro i v h ⟨u,rfl⟩
  refine ⟨[_],rfl,Asg.name,λ_ _=>⟨u,?_⟩⟩
  push_cast;rfl
theorem EvIt.range1 (H:c.Ok n) (hr:c.mg "range"=none∧c.mb "range"=some (.type "range")) (he:EvN c l N Φ e m) (hm:m<2 ^ 40)
  (hl:Glo c.env "range":=by rfl)
  (hst:Unst e [] c.env:=by rfl)
  (hev:CallIs "range" np [e] pos c.env:=by rfl) :
  EvIt c l N Φ (.Call (.Name "range" np) [e] [] pos) (.Name x px) [x] m (λi vs _=>∃u,vs=[.int (i:Int) u]):=by
 intro Φ' k h t Q F hQ
 refine PyProof.Rows.Call_ (bl H F hr.1 hr.2 (PyProof.Rows.callWith_type1 ?_ hst) hl (by decide)) hev
 rw [hst]
 refine spliced_cons (wpAny_with_size (Nat.le_refl _) (he _ k h t _ _ F λu h1 t1 F1 hz=>spliced_nil (call_range_1 ?_)))
 refine rangeAt (x:=x) (px:=px) (a:=0) (cc:=1) (m:=m) H F1 (small_up (by decide) (by decide) hm (by decide)) (by rw [show ((1:Nat):Int)=1 from rfl,rangeSize_one];split<;>lia) λit h2 t2 I hz2=>?_
 simp only [Nat.zero_add,Nat.mul_one] at I
 exact hQ it h2 t2 I (Nat.le_trans hz hz2)
theorem EvIt.range3 {a b cc:Nat} (H:c.Ok n) (hr:c.mg "range"=none∧c.mb "range"=some (.type "range")) (he1:EvN c l N Φ e1 a) (he2:EvN c l N Φ e2 b) (he3:EvN c l N Φ e3 cc)
  (ha:a<2 ^ 30) (hb:b<2 ^ 30) (hc:cc<2 ^ 30) (hc0:0<cc) (hm:m=(b - a+(cc - 1)) / cc)
  (hl:Glo c.env "range":=by rfl)
  (hst:Unst e1 [e2,e3] c.env:=by rfl)
  (hst2:Unst e2 [e3] c.env:=by rfl)
  (hst3:Unst e3 [] c.env:=by rfl)
  (hplain:Plain pos [e2,e3] c.env:=by rfl)
  (hev:CallIs "range" np [e1,e2,e3] pos c.env:=by rfl) :
  EvIt c l N Φ (.Call (.Name "range" np) [e1,e2,e3] [] pos) (.Name x px) [x] m (λi vs _=>∃u,vs=[.int ((a+i*cc:Nat):Int) u]):=by
 intro Φ' k h t Q F hQ
 refine PyProof.Rows.Call_ (bl H F hr.1 hr.2 (PyProof.Rows.callWith_type1 ?_ hst hplain) hl (by decide)) hev
 rw [hst]
 refine spliced_cons (wpAny_with_size (Nat.le_refl _) (he1 _ k h t _ _ F λu1 h1 t1 F1 hz1=>?_))
 rw [hst2]
 refine spliced_cons (wpAny_with_size (Nat.le_refl _) (he2 _ k h1 t1 _ _ F1 λu2 h2 t2 F2 hz2=>?_))
 rw [hst3]
 refine spliced_cons (wpAny_with_size (Nat.le_refl _) (he3 _ k h2 t2 _ _ F2 λu3 h3 t3 F3 hz3=>spliced_nil (call_range_3 (by lia) ?_ (Or.inl (PyProof.noPylong_small (by trivial))))))
 refine rangeAt (x:=x) (px:=px) (m:=m) H F3 (small_up hc0 (by trivial) (by trivial) (by trivial)) ?_ λit h2 t2 I hz2'=>hQ it h2 t2 I (Nat.le_trans hz1 (Nat.le_trans hz2 (Nat.le_trans hz3 hz2')))
 unfold Builtin.Range.rangeSize
 rw [if_pos (by lia),hm]
 by_cases h:(a:Int)<b
 ·rw [if_pos h]
  have e:b - a+(cc - 1)=(b - a - 1)+cc:=by lia
  rw [e,Nat.add_div_right _ hc0]
  push_cast
  rw [show ((b - a - 1:Nat):Int)=(b:Int) - a - 1 by lia]
 ·rw [if_neg h]
  have e:b - a+(cc - 1)=cc - 1:=by lia
  rw [e,Nat.div_eq_of_lt (by trivial)];rfl
theorem LR.out {α:Type} {R:α→VH} {xs:List α} {v0:Value} (F:c.SS l N Φ h) (hΦ:∀h,Φ h→LR R xs v0 h) (hv0:v0 = .ref a):a≠c.L∧a∉c.X∧a∉N.map (·.1):=by
 subst hv0
 exact F.out (a:=a) λh y=>by obtain ⟨a',ys',k',e,ha',_⟩:=hΦ h y;cases e;exact ⟨_,ha'⟩
theorem LR.item {α:Type} {R:α→VH} {xs:List α} {v0:Value} {h'':Heap} (F:c.SS l N Φ h) (hΦ:∀h,Φ h→LR R xs v0 h) (hv0:v0 = .ref a) (ha:h.get? a=some (lobj ys kk))
  (q:∀b o,b≠c.L→b∉c.X→b∉N.map (·.1)→h.get? b=some o→h''.get? b=some o) (hv:ys[i]?=some v):Ex2 λw y=>An3 ([v]=[w]) (xs[i]?=some y) (R y w h''):=by
 subst hv0
 have o:=F.out (a:=a) λh y=>by obtain ⟨a',ys',k',e,ha',_⟩:=hΦ h y;cases e;exact ⟨_,ha'⟩
 obtain ⟨a',ys',kk2,e,ha',hR'⟩:=hΦ h'' (F.fz h'' q)
 cases e
 rw [q a _ o.1 o.2.1 o.2.2 ha] at ha'
 have:ys=ys':=by injection ha' with h;injection h with _ _ h;injection h with h;simpa using h
 subst this
 obtain ⟨y,e,r⟩:=hR'.2 i v hv
 exact ⟨v,y,rfl,e,r⟩
theorem EvIt.list {α:Type} {R:α→VH} {xs:List α} (H:c.Ok n) (he:EvR c l N Φ iter (LR R xs)) :
  EvIt c l N Φ iter (.Name x px) [x] xs.length (λi vs h=>Ex2 λv y=>An3 (vs=[v]) (xs[i]?=some y) (R y v h)):=by
 intro Φ' k h t Q F hQ
 refine wpAny_with_size (Nat.le_refl _) (he _ k h t _ _ F λv h1 t1 F1 hz=>?_)
 obtain ⟨a,ys,kk,rfl,ha,hR⟩:=F1.phi.2
 have hL:h1.IsList a ys.toArray:=⟨_,ha,rfl,_,rfl⟩
 refine wpAny_pyIter_list hL ?_
 have g:=Grow.push h1 { cls:=.type "list_iterator",data:=.fields #[.ref a,.int 0 0] }
 have hlt:@LT.lt Nat _ a h1.objs.size:=Heap.lt_size ha
 refine hQ _ _ _ ⟨[h1.objs.size,a],[h1.objs.size],_,_,Itr.of (Walks.list H.A.1 h1.objs.size a (neA (Nat.ne_of_lt hlt)) ys.toArray) (λ_=>rfl) |>.lenEq (by simp [hR.1]),?_,?_,F1.wrOk ?_,(F1.weaken λ_ y=>y.1).growX g ?_,?_⟩ (Nat.le_trans hz g.1)
 ·exact ⟨⟨_,Heap.get?_push_size _ rfl,rfl,rfl⟩,hL.push _⟩
 ·intro b hb
  revert b hb
  refine f2 ?_ ?_
  ·exact ⟨lt_push _ _,(F1.wrOk (wr:=[h1.objs.size]) (λb hb=>by rw [List.mem_singleton.mp hb];exact Nat.le_refl _) _ (List.mem_singleton.mpr rfl)).2⟩
  ·have o:=LR.out F1 (λ_ y=>y.2) rfl
   exact ⟨Nat.lt_trans hlt (lt_push _ _),o.1,o.2.2⟩
 ·intro b hb;rw [List.mem_singleton.mp hb];exact Nat.le_refl _
 ·intro b hb;rw [List.mem_singleton.mp hb];exact ⟨Nat.le_refl _,lt_push _ _⟩
 ·intro i v h' hv
  refine ⟨[v],rfl,Asg.name,λh'' q=>?_⟩
  have hv':ys[i]?=some v:=by simpa using hv
  exact LR.item F1 (λ_ y=>y.2) (a:=a) rfl ha (λb o b1 b2 b3 e=>q b o b1 (λr=>by
   rcases List.mem_append.mp r with r | r
   ·rw [List.mem_singleton.mp r] at e;exact absurd (Heap.lt_size e) (Nat.lt_irrefl _)
   ·exact b2 r) b3 (g.2 b o e)) hv'
theorem EvIt.zip {α β:Type} {R:α→VH} {R':β→VH} {xs:List α} {zs:List β} {tp:Pos} (H:c.Ok n) (hr:c.mg "zip"=none∧c.mb "zip"=some (.type "zip"))
  (he1:EvR c l N Φ e1 (LR R xs)) (he2:EvR c l N Φ e2 (LR R' zs)) (hm:m=min xs.length zs.length)
  (hl:Glo c.env "zip":=by rfl)
  (hst:Unst e1 [e2] c.env:=by rfl)
  (hst2:Unst e2 [] c.env:=by rfl)
  (hplain:Plain pos [e2] c.env:=by rfl)
  (hev:CallIs "zip" np [e1,e2] pos c.env:=by rfl) :
  EvIt c l N Φ (.Call (.Name "zip" np) [e1,e2] [] pos) (.Tuple [.Name x px,.Name y py] k tp) [x,y] m (λi vs h=>Ex4 λv w a b=>An5 (vs=[v,w]) (xs[i]?=some a) (zs[i]?=some b) (R a v h) (R' b w h)):=by
 intro Φ' kΦ h t Q F hQ
 refine PyProof.Rows.Call_ (bl H F hr.1 hr.2 (PyProof.Rows.callWith_type1 ?_ hst hplain) hl (by decide)) hev
 rw [hst]
 refine spliced_cons (wpAny_with_size (Nat.le_refl _) (he1 _ kΦ h t _ _ F λv h1 t1 F1 hz1=>?_))
 rw [hst2]
 refine spliced_cons (wpAny_with_size (Nat.le_refl _) (he2 _ (λh y=>kΦ h y.1) h1 t1 _ _ F1 λw h2 t2 F2 hz2=>spliced_nil ?_))
 obtain ⟨a,ys,kk,rfl,ha,hR⟩:=F2.phi.1.2
 obtain ⟨b,ws,kk',rfl,hb,hR'⟩:=F2.phi.2
 have hLa:h2.IsList a ys.toArray:=⟨_,ha,rfl,_,rfl⟩
 have hLb:h2.IsList b ws.toArray:=⟨_,hb,rfl,_,rfl⟩
 refine call_zip_2 hLa hLb λh3 z1 z2 z3 z4 z5 z6 z7=>?_
 have g:Grow h2 h3:=⟨by rw [z6];exact Nat.le_add_right _ _,z7⟩
 refine wpAny_pyIter_zip z1 ?_
 have ltA:@LT.lt Nat _ a h2.objs.size:=Heap.lt_size ha
 have ltB:@LT.lt Nat _ b h2.objs.size:=Heap.lt_size hb
 have D:ZipApart (h2.objs.size+4) (h2.objs.size+2) (h2.objs.size+3) h2.objs.size (h2.objs.size+1) a b:=by
  constructor<;>exact neA (by trivial)
 have hwr:∀q∈([h2.objs.size+4,h2.objs.size+3,h2.objs.size,h2.objs.size+1]:List Addr),h2.objs.size≤q∧q<h3.objs.size:=by
  intro q hq
  rw [z6]
  revert q hq
  refine f4 ?_ ?_ ?_ ?_
  ·exact ⟨show h2.objs.size≤h2.objs.size+4 by trivial,show h2.objs.size+4<h2.objs.size+5 by trivial⟩
  ·exact ⟨show h2.objs.size≤h2.objs.size+3 by trivial,show h2.objs.size+3<h2.objs.size+5 by trivial⟩
  ·exact ⟨Nat.le_refl _,show h2.objs.size<h2.objs.size+5 by trivial⟩
  ·exact ⟨show h2.objs.size≤h2.objs.size+1 by trivial,show h2.objs.size+1<h2.objs.size+5 by trivial⟩
 refine hQ _ _ _ ⟨_,[h2.objs.size+4,h2.objs.size+3,h2.objs.size,h2.objs.size+1],_,_,(Itr.ofT (WalksT.zip2 H.A.1 _ _ _ _ _ a b D ys.toArray ws.toArray)).lenEq (by simp [hR.1,hR'.1,hm]),?_,?_,F2.wrOk (λq hq=>(hwr q hq).1),((F2.weaken λ_ y=>y.1.1).growX g hwr),?_⟩ (Nat.le_trans hz1 (Nat.le_trans hz2 g.1))
 ·refine ⟨z1,z2,⟨_,_,z3⟩,z4,z5,?_,?_⟩
  ·exact ⟨_,g.2 _ _ ha,rfl,_,rfl⟩
  ·exact ⟨_,g.2 _ _ hb,rfl,_,rfl⟩
 ·have oa:=LR.out F2 (λ_ y=>y.1.2) rfl
  have ob:=LR.out F2 (λ_ y=>y.2) rfl
  have w5:∀q:Addr,h2.objs.size≤q→q<h2.objs.size+5→q<h3.objs.size∧q≠c.L∧q∉N.map (·.1):=λq h1 h2' =>
   ⟨by rw [z6];exact h2',(F2.wrOk (wr:=[q]) (λb hb=>by rw [List.mem_singleton.mp hb];exact h1) _ (List.mem_singleton.mpr rfl)).2⟩
  intro q hq
  revert q hq
  refine f7 ?_ ?_ ?_ ?_ ?_ ?_ ?_
  ·exact w5 _ (show h2.objs.size≤h2.objs.size+4 by trivial) (show h2.objs.size+4<h2.objs.size+5 by trivial)
  ·exact w5 _ (show h2.objs.size≤h2.objs.size+2 by trivial) (show h2.objs.size+2<h2.objs.size+5 by trivial)
  ·exact w5 _ (show h2.objs.size≤h2.objs.size+3 by trivial) (show h2.objs.size+3<h2.objs.size+5 by trivial)
  ·exact w5 _ (Nat.le_refl _) (show h2.objs.size<h2.objs.size+5 by trivial)
  ·exact w5 _ (show h2.objs.size≤h2.objs.size+1 by trivial) (show h2.objs.size+1<h2.objs.size+5 by trivial)
  ·exact ⟨by rw [z6];show @LT.lt Nat _ _ (h2.objs.size+5);lia,oa.1,oa.2.2⟩
  ·exact ⟨by rw [z6];show @LT.lt Nat _ _ (h2.objs.size+5);lia,ob.1,ob.2.2⟩
 ·rintro i v h' ⟨T,vals,rfl,hT,v1,v2,e1,e2,rfl⟩
  refine ⟨[v1,v2],rfl,Asg.pair hT,λh'' q=>?_⟩
  have q':∀b o,b≠c.L→b∉c.X→b∉N.map (·.1)→h2.get? b=some o→h''.get? b=some o:=λb o b1 b2 b3 e=>q b o b1 (λr=>by
   rcases List.mem_append.mp r with r | r
   ·exact absurd (Heap.lt_size e) (Nat.not_lt.mpr (hwr b r).1)
   ·exact b2 r) b3 (g.2 b o e)
  obtain ⟨w1,x1,e1',f1,r1⟩:=LR.item F2 (λ_ y=>y.1.2) rfl ha q' (i:=i) (v:=v1) (by simpa using e1)
  obtain ⟨w2,x2,e2',f2,r2⟩:=LR.item F2 (λ_ y=>y.2) rfl hb q' (i:=i) (v:=v2) (by simpa using e2)
  simp only [List.cons.injEq,and_true] at e1' e2'
  subst e1' e2'
  exact ⟨v1,v2,x1,x2,rfl,f1,f2,r1,r2⟩
end
end
section
section
theorem EvF.of_phi {P:VH} (x:(∃h,Φ h)→EvF c l N Φ e P):EvF c l N Φ e P:=λΦ' k h t Q E F hQ=>x ⟨h,k h F.phi⟩ Φ' k h t Q E F hQ
variable {P:Nat→List Value→HP} {names:List Str}
theorem LI.toLR {α:Type} {R:α→VH} {zs:List α} (hm:m=zs.length) (x:LI m (λi y h=>∃x,zs[i]?=some x∧R x y h) v h):LR R zs v h :=
 let ⟨a,ys,k,e,ha,hl,hy⟩:=x;⟨a,ys,k,e,ha,hl.trans hm,hy⟩
theorem listCompR {α:Type} {R:α→VH} (zs:List α) (H:c.Ok n) (hclos:closureFor scope c.env=pure cl)
  (hsc:(decide (scope.kind = .function) && (scope.names.all λx=>decide (x.2≠.cell)) && decide names.Nodup && (scope.names.all λx=>decide (x.2 = .local→scope.names.lookup x.1=some .local)) && names.all λx=>decide (scope.names.lookup x=some .local))=true)
  (hit:EvIt c l N Φ iter target names m P) (hm:m=zs.length) (hsz:zs.length≤1000000)
  (helt:∀C h₀ vs i Ψ z,zs[i]?=some z→(∀h,Ψ h→P i vs h)→(∀h,Ψ h→Vw c l N Φ h)→(compCx c scope cl h₀ C).Ok n→(∃h,Ψ h)→EvF (compCx c scope cl h₀ C) (names.zip (vs.map some)) [] Ψ elt (R z))
  (hs:∀x,foldedSetIterable iter c.env x=pure x:=by intro _;rfl):EvF c l N Φ (.ListComp elt [⟨target,iter,[],0⟩] scope pos) (LR R zs):=by
 refine (listComp (Fy:=λi y h=>∃x,zs[i]?=some x∧R x y h) H hclos hsc (by rw [hm];exact Nat.le_trans hsz (by decide)) hit ?_ hs).mono λv h x=>x.toLR hm
 intro C h₀ vs i Ψ hi hvl hP hV ok
 have hz:zs[i]?=some (zs[i]'(by lia)):=List.getElem?_eq_getElem _
 exact EvF.of_phi λhψ=>(helt C h₀ vs i Ψ _ hz hP hV ok hψ).mono λv h r=>⟨_,hz,r⟩
end
section
set_option maxHeartbeats 1000000
theorem zipWith_at {α β γ:Type} {f:α→β→γ} {xs:List α} {ys:List β} {z:γ} (e:(List.zipWith f xs ys)[i]?=some z):Ex2 λx y=>An3 (xs[i]?=some x) (ys[i]?=some y) (z=f x y):=by
 rw [List.getElem?_zipWith] at e
 split at e
 ·cases e;exact ⟨_,_,by assumption,by assumption,rfl⟩
 ·cases e
theorem law_crossed (LKK:LK K mg mb) {ys:List Nat} (h1:Stands h (LR NatR xs v1)) (h2:Stands h (LR NatR ys v2)) (hx:xs.length≤1000000) :
  FnAt prog w K mg mb 1 240 ⟨[v1,v2],[]⟩ h (LR NatR (List.zipWith (· ^^^ ·) xs ys)):=by
 intro A g d t o R hA W hR
 refine enter (n:=0) (binds:=[("one",v1),("two",v2)]) [] [] [] LKK.crossed hA W LKK.dom (by intro pm doc;kernel_rfl) rfl (by kernel_rfl) (by trivial) (by simp) (by trivial) (by kernel_rfl) ?_
 intro h₁ t₁ c l Q H F
 have F':=(F.base h1 (Nat.le_refl _)).base h2 (Nat.le_refl _)
 refine retF F' (listCompR (cl:=[]) (R:=NatR) (names:=["p","q"]) (List.zipWith (· ^^^ ·) xs ys) H (by rfl) (by kernel_rfl) (EvIt.zip H LKK.b_zip (EvV.toRP (.nm 0 H rfl) λ_ y=>y.1.2) (EvV.toRP (.nm 1 H rfl) λ_ y=>y.2) rfl) (by simp) (by simp only [List.length_zipWith];lia) ?_)
  (λv h' t' F' p=>hR v h' t' (F'.growth rfl (Nat.le_refl _)) (p.le F.size))
 intro C h₀ vs i Ψ z hz hP hV ok ⟨h3,hψ⟩
 obtain ⟨_,_,a,b,rfl,e1,e2,⟨u1,rfl⟩,⟨u2,rfl⟩⟩:=hP h3 hψ
 obtain ⟨a',b',e1',e2',rfl⟩:=zipWith_at hz
 rw [e1] at e1';rw [e2] at e2'
 cases e1';cases e2'
 exact EvN.toF (EvN.xor (.nm 0 ok) (.nm 1 ok))
end
end
section
noncomputable def SR {α:Type} (K:Nat) (R:α→VH) (x:α) (v:Value) (h:Heap):Prop:=Since K h (R x v)
theorem Since.dup {K:Nat} {P:HP} (x:Since k h P) (hk:K≤k):Since k h (λh=>Since K h P) :=
 λh' q=>λh'' r=>x h'' λb o hb e=>r b o (Nat.le_trans hk hb) (q b o hb e)
theorem Since.mono {P P':HP} (x:Since k h P) (f:∀h,P h→P' h):Since k h P':=λh' q=>f h' (x h' q)
noncomputable def LRk {α:Type} (K:Nat) (R:α→VH) (xs:List α) (v:Value) (h:Heap):Prop:=Ex3 λa ys k=>An4 (v = .ref a) (K≤a) (h.get? a=some (lobj ys k)) (RL R xs ys h)
theorem LRk.toLR {α:Type} {K:Nat} {R:α→VH} {xs:List α} (x:LRk K R xs v h):LR R xs v h:=let ⟨a,ys,k,e,_,r,s⟩:=x;⟨a,ys,k,e,r,s⟩
theorem lobj_inj (e:some (lobj ys k)=some (lobj ys' k')):ys=ys':=by
 injection e with h;injection h with _ _ h;injection h with h;simpa using h
theorem tobj_inj (e:some (tobj ys)=some (tobj ys')):ys=ys':=by
 injection e with h;injection h with _ _ h;injection h with h;simpa using h
theorem LRk.since {α:Type} {K:Nat} {R:α→VH} {xs:List α} (x:LRk K (SR K R) xs v h):SR K (LR R) xs v h:=by
 obtain ⟨a,ys,k,rfl,hK,ha,hR⟩:=x
 exact λh' q=>⟨a,ys,k,rfl,q a _ hK ha,hR.1,λi y e=>let ⟨z,hz,r⟩:=hR.2 i y e;⟨z,hz,r h' q⟩⟩
noncomputable def pickL {α:Type} (xs:List α) (lo hi st:Option Int):List α :=
 (sliceRange (sliceBounds lo hi st xs.length).1 (sliceBounds lo hi st xs.length).2.1 (sliceBounds lo hi st xs.length).2.2).filterMap (xs[·]?)
theorem RL.places {α:Type} {R:α→VH} {xs:List α} (r:RL R xs ys h) (js:List Nat):RL R (js.filterMap (xs[·]?)) (js.filterMap (ys[·]?)) h:=by
 induction js with
 | nil=>exact .nil
 | cons j js ih =>
  by_cases hj:j<ys.length
  ·obtain ⟨x,ex,q⟩:=r.2 j ys[j] (List.getElem?_eq_getElem hj)
   rw [List.filterMap_cons_some ex,List.filterMap_cons_some (List.getElem?_eq_getElem hj)]
   exact .cons q ih
  ·rw [List.filterMap_cons_none (List.getElem?_eq_none (r.1▸Nat.le_of_not_lt hj)),List.filterMap_cons_none (List.getElem?_eq_none (Nat.le_of_not_lt hj))]
   exact ih
theorem RL.pick {α:Type} {R:α→VH} {xs:List α} (r:RL R xs ys h) (lo hi st:Option Int):RL R (pickL xs lo hi st) (slicePick ys.toArray lo hi st).toList h:=by
 have e:(slicePick ys.toArray lo hi st).toList=pickL ys lo hi st:=by simp [slicePick,pickL]
 rw [e]
 unfold pickL
 rw [r.1]
 exact r.places _
section
theorem subTail {value slice:Expr} {o i:Value} {id:String} {Q:VQ} (hT:s.TypeIs o T)
  (hl:typeLookup (.type T) "__getitem__"=pure (some (.builtin id))) (h:c.wp (getItem o i) Q E s)
  (hs:subscripted slice false o i=operate ops (getItem o i)):c.wp (PyProof.Rows.subscriptTail value slice o i) Q E s:=by
 unfold PyProof.Rows.subscriptTail
 refine wpAny_bind ?_
 rw [getitemInPython_of_ne hT.not_modules]
 refine wpAny_bind (wpAny_specialOf hT hl ?_)
 have fin:wpAny (model c.prog c.w) c.A (subscripted slice false o i) (λr s₃=>wpAny (model c.prog c.w) c.A (letTemporaryGo value o r >>= λ_=>pure r) Q E s₃) E s:=by
  rw [hs]
  exact wpAny_operating (wpAny_mono h (λr s₃ h₃=>wpAny_bind (wpAny_letTemporaryGo (wpAny_pure h₃))) λ_ _ x=>x)
 first
  | exact wpAny_pure (wpAny_bind fin)
  | exact wpAny_bind (wpAny_pure (wpAny_bind fin))
  | exact wpAny_bind fin
theorem EvI.neg {v:Int} (x:EvI c l N Φ e v):EvI c l N Φ (.UnaryOp .USub e pos) (-v):=λΦ' k h t Q E F hQ =>
 wpAny_UnaryOp (x Φ' k h t _ _ F λu h' t' F'=>PyProof.Rows.neg_int (hQ _ h' _ F'))
theorem EvR.itemI {α:Type} {R:α→VH} {xs:List α} {i:Expr} {k:Int} {x:α} (he:EvR c l N Φ e (LR R xs)) (hi:EvI c l N Φ i k)
  (j:Nat) (hk:k=(j:Int)∨k=(j:Int) - xs.length) (hj:xs[j]?=some x) (hz:xs.length≤1000000)
  (hs:∀a u,subscripted i false (.ref a) (.int k u)=operate [.ref a,.int k u] (getItem (.ref a) (.int k u)):=by intro _ _;with_unfolding_all rfl) :
  EvR c l N Φ (.Subscript e i pos) (R x):=by
 intro Φ' kΦ h t Q E F hQ
 refine PyProof.Rows.Subscript_ (he _ kΦ h t _ _ F λo h1 t1 F1=>hi _ (λh y=>kΦ h y.1) h1 t1 _ _ F1 λu h2 t2 F2=>?_)
 obtain ⟨a,ys,kk,rfl,ha,hR⟩:=F2.phi.2
 have hL:h2.IsList a ys.toArray:=⟨_,ha,rfl,_,rfl⟩
 have hjl:j<xs.length:=(List.getElem?_eq_some_iff.mp hj).1
 obtain ⟨y,hy,r⟩:=hR.get hj
 have F3:c.SS l N (λh=>Φ' h∧R x y h) h2:=(F2.weaken λ_ y=>y.1).know λh' q=>by
  obtain ⟨w,x',e1,e2,r⟩:=LR.item F2 (λ_ y=>y.2) rfl ha q hy
  rw [hj] at e2;cases e2;cases e1;exact r
 refine subTail hL.typeIs slot_list_getitem.lookup ?_ (hs a u)
 rcases hk with rfl | rfl
 ·exact wpAny_getItem_list hL (by trivial) (by lia) (by simpa using hy) (hQ y h2 t2 F3)
 ·have hsz:ys.toArray.size=xs.length:=by simp [hR.1]
  exact wpAny_getItem_list_neg hL (by lia) (by rw [hsz];lia) (by lia) (by rw [hsz,show ((j:Int) - xs.length+xs.length).toNat=j by lia];simpa using hy) (hQ y h2 t2 F3)
noncomputable def EvPart (c:Cx) (l:LS) (N:LN) (Φ:HP):Option Expr→Option Int→Prop
 | none,v=>v=none
 | some e,v=>∃k,v=some k∧EvI c l N Φ e k
theorem EvPart.run {p:Option Expr} {v:Option Int} (x:EvPart c l N Φ p v) (k:∀h,Φ' h→Φ h) {Q:VQ} (F:c.SS l N Φ' h)
  (hQ:∀u h' t',IsPart u v→c.SS l N Φ' h'→Q u (c.st h' t')):c.wp (evalPart p c.env) Q E (c.st h t):=by
 cases p with
 | none=>rw [evalPart_none];subst x;exact wpAny_pure (hQ _ h t .none F)
 | some e=>obtain ⟨i,rfl,x⟩:=x;rw [evalPart_some];exact x Φ' k h t _ _ F λu h' t' F'=>hQ _ h' t' (.int i u) F'
theorem EvPart.none:EvPart c l N Φ none none:=rfl
theorem EvPart.of {k:Int} (x:EvI c l N Φ e k):EvPart c l N Φ (some e) (some k):=⟨k,rfl,x⟩
theorem evSlice {st:Option Expr} {a b s:Option Int} (ha:EvPart c l N Φ lo a) (hb:EvPart c l N Φ hi b) (hs:EvPart c l N Φ st s)
  (k:∀h,Φ' h→Φ h) {Q:VQ} (F:c.SS l N Φ' h)
  (hQ:∀u v w h' t',IsPart u a→IsPart v b→IsPart w s→c.SS l N Φ' h'→Q (.ref h'.objs.size) (c.st (h'.push { cls:=.type "slice",data:=.fields #[u,v,w] }) t')) :
  c.wp (eval (.Slice lo hi st pos) c.env) Q E (c.st h t) :=
 wpAny_Slice (ha.run k F λu h1 t1 p1 F1=>hb.run k F1 λv h2 t2 p2 F2=>hs.run k F2 λw h3 t3 p3 F3=>hQ u v w h3 t3 p1 p2 p3 F3)
theorem EvR.slice {α:Type} {R:α→VH} {xs:List α} {st:Option Expr} {a b s:Option Int} (he:EvR c l N Φ e (LR R xs)) (ha:EvPart c l N Φ lo a) (hb:EvPart c l N Φ hi b) (hst:EvPart c l N Φ st s)
  (h0:s≠some 0) (hz:xs.length≤1000000)
  (hs:∀a b,∃ops,subscripted (.Slice lo hi st sp) false (.ref a) (.ref b)=operate ops (getItem (.ref a) (.ref b)):=by intro _ _;exact ⟨_,by with_unfolding_all rfl⟩) :
  EvR c l N Φ (.Subscript e (.Slice lo hi st sp) pos) (LRk c.h₀.objs.size R (pickL xs a b s)):=by
 intro Φ' kΦ h t Q E F hQ
 refine PyProof.Rows.Subscript_ (he _ kΦ h t _ _ F λo h1 t1 F1=>evSlice ha hb hst (λh y=>kΦ h y.1) F1 λu v w h2 t2 p1 p2 p3 F2=>?_)
 obtain ⟨ad,ys,kk,rfl,had,hR⟩:=F2.phi.2
 have hL:h2.IsList ad ys.toArray:=⟨_,had,rfl,_,rfl⟩
 have o:=F2.out (a:=ad) λh y=>by obtain ⟨a',ys',k',e,ha',_⟩:=y.2;cases e;exact ⟨_,ha'⟩
 obtain ⟨ops,hops⟩:=hs ad h2.objs.size
 have hsz:ys.toArray.size≤sizeLine:=by rw [List.size_toArray,hR.1];exact Nat.le_trans hz (by decide)
 refine subTail (Heap.IsList.typeIs (s:=c.st (h2.push _) t2) (hL.push _)) slot_list_getitem.lookup (wpAny_getItem_list_slice (hL.push _) (Heap.IsSliceOf.new ..) p1 p2 p3 h0 ?_ hsz) hops
 have F3:=(F2.push' { cls:=.type "slice",data:=.fields #[u,v,w] })
 have G:=Grow.push (h2.push { cls:=.type "slice",data:=.fields #[u,v,w] }) { cls:=.type "list",data:=.seq (slicePick ys.toArray a b s) }
 have F4:=F3.grown G
 refine hQ _ _ _ ((F4.weaken λ_ y=>y.1).know λh' q=>?_)
 refine ⟨_,(slicePick ys.toArray a b s).toList,0,rfl,Nat.le_trans F3.size (Nat.le_refl _),?_,?_⟩
 ·refine q _ _ (Nat.ne_of_gt F3.ltL) (λr=>Nat.lt_irrefl _ (F3.xlt _ r)) (λr=>?_) (Heap.get?_push_size _ rfl)
  obtain ⟨p,hp,e⟩:=List.mem_map.mp r
  have:=F3.belowN p hp
  rw [e] at this;exact Nat.lt_irrefl _ this
 ·obtain ⟨a',ys',k',e,ha',hR'⟩:=(F4.fz h' q).2
  cases e
  rw [q ad _ o.1 o.2.1 o.2.2 (G.2 _ _ (Heap.get?_push_of_some _ had))] at ha'
  obtain rfl:=lobj_inj ha'
  exact hR'.pick a b s
theorem EvR.addLists {α:Type} {R:α→VH} {xs zs:List α} (h1:EvR c l N Φ e1 (LR R xs)) (h2:EvR c l N Φ e2 (LR R zs)) (hz:xs.length+zs.length≤1000000) :
  EvR c l N Φ (.BinOp e1 .Add e2 pos) (LRk c.h₀.objs.size R (xs++zs)):=by
 intro Φ' kΦ h t Q E F hQ
 refine wpAny_BinOp (h1 _ kΦ h t _ _ F λv h1 t1 F1=>h2 _ (λh y=>kΦ h y.1) h1 t1 _ _ F1 λw h2 t2 F2=>?_)
 obtain ⟨a,ys,kk,rfl,ha,hR⟩:=F2.phi.1.2
 obtain ⟨b,ws,kk',rfl,hb,hR'⟩:=F2.phi.2
 have e:ys.toArray++ws.toArray=(ys++ws).toArray:=by simp
 refine concat_meets ⟨_,ha,rfl⟩ ⟨_,hb,rfl⟩ noFill_list_add seq_list_add PySem.F.slot_list_add PySem.F.entry_list_add (PySem.F.args_list_add_2 _ _) (PyProof.Rows.list_addW a b ys.toArray ws.toArray _ _ _ _ _ _ ?_) ⟨ha,hb,?_⟩
 ·rw [List.size_toArray,List.size_toArray,hR.1,hR'.1];exact Nat.le_trans hz (by decide)
 rw [e]
 have G:=Grow.push h2 { cls:=.type "list",data:=.seq (ys++ws).toArray }
 have F3:=F2.grown G
 refine hQ _ _ _ ((F3.weaken λ_ y=>y.1.1).know λh' q=>⟨_,ys++ws,0,rfl,F2.size,?_,?_⟩)
 ·refine q _ _ (Nat.ne_of_gt F2.ltL) (λr=>Nat.lt_irrefl _ (F2.xlt _ r)) (λr=>?_) (Heap.get?_push_size _ rfl)
  obtain ⟨p,hp,e⟩:=List.mem_map.mp r
  have:=F2.belowN p hp
  rw [e] at this;exact Nat.lt_irrefl _ this
 ·have q':∀b o,b≠c.L→b∉c.X→b∉N.map (·.1)→h2.get? b=some o→h'.get? b=some o:=λb o b1 b2 b3 e=>q b o b1 b2 b3 (G.2 b o e)
  refine RL.append ⟨hR.1,λi y e=>?_⟩ ⟨hR'.1,λi y e=>?_⟩
  ·obtain ⟨w,x',e1,e2,r⟩:=LR.item F2 (λ_ y=>y.1.2) rfl ha q' e
   cases e1;exact ⟨x',e2,r⟩
  ·obtain ⟨w,x',e1,e2,r⟩:=LR.item F2 (λ_ y=>y.2) rfl hb q' e
   cases e1;exact ⟨x',e2,r⟩
theorem retR {P:VH} (F:c.SS l N Φ h) (he:EvR c l N Φ e P) (hQ:∀v h' t',c.SS l N (λh=>Φ h∧P v h) h'→Q (.ret v) (c.st h' t')) :
  c.wp (execs (.Return (some e) pos::rest) c.env) Q E (c.st h t) :=
 wpAny_execs_cons (wpAny_Return_some (he _ (λ_ x=>x) h t _ _ F λv h1 t1 F1=>hQ v h1 t1 F1))
end
end
section
theorem via_pure {α:Type} {t:Sem α} {Q:α→Shared→Prop} (h:wpAny M A (pure ()) (λ(_:Unit) s₁=>wpAny M A t Q E s₁) E s):wpAny M A t Q E s:=by
 have:=wpAny_bind (f:=λ_=>t) h
 exact this
@[reducible] noncomputable def Cx.mk' (c:Cx) (h:Heap) (S X:List Addr):Cx:={ c with h₀:=h,S:=S,X:=X }
section
theorem SS.rebase (x:SS h₀ S X L l N Φ h):SS h (N.map (·.1)) X L l N Φ h :=
 ⟨x.ns,x.nd,λ_ _ _ _ e=>e,λp hp=>⟨(x.news p hp).1,(x.news p hp).2.1,.inr (List.mem_map_of_mem (f:=Prod.fst) hp)⟩,x.ndn,Nat.le_refl _,x.xlt,x.fz⟩
theorem SS.unbase (x:SS h₀ S X L l N Φ h) (y:SS h (N.map (·.1)) X L l' N' Φ' h'):SS h₀ S X L l' N' Φ' h':=by
 refine ⟨y.ns,y.nd,λb o hb hL e=>y.keep b o (λq=>?_) hL (x.keep b o hb hL e),λp hp=>⟨(y.news p hp).1,(y.news p hp).2.1,?_⟩,y.ndn,Nat.le_trans x.size y.size,y.xlt,y.fz⟩
 ·obtain ⟨p,hp,rfl⟩:=List.mem_map.mp q
  rcases (x.news p hp).2.2 with r | r
  ·exact absurd (Heap.lt_size e) (Nat.not_lt.mpr r)
  ·exact hb r
 ·rcases (y.news p hp).2.2 with r | r
  ·exact .inl (Nat.le_trans x.size r)
  ·obtain ⟨p',hp',e⟩:=List.mem_map.mp r
   rw [←e];exact (x.news p' hp').2.2
theorem SS.butX (x:SS h₀ S (wr++X) L l N Φ h) (hwr:∀b∈wr,h₀.objs.size≤b∧b≠L∧b∉N.map (·.1)) (k:Kept wr h h') (hz:h.objs.size≤h'.objs.size):SS h₀ S (wr++X) L l N Φ h' :=
 ⟨ns_keeps x.ns k (λq=>(hwr _ q).2.1 rfl),x.nd,λb o hb hL e=>k b o (λq=>absurd (Heap.lt_size e) (Nat.not_lt.mpr (hwr b q).1)) (x.keep b o hb hL e),
  λp hp=>⟨k _ _ (λq=>(hwr _ q).2.2 (List.mem_map_of_mem (f:=Prod.fst) hp)) (x.news p hp).1,(x.news p hp).2⟩,x.ndn,Nat.le_trans x.size hz,
  λb hb=>Nat.lt_of_lt_of_le (x.xlt b hb) hz,λh'' q=>x.fz h'' λb o b1 b2 b3 e=>q b o b1 b2 b3 (k b o (λr=>b2 (List.mem_append_left _ r)) e)⟩
theorem SS.lessX (x:SS h₀ S (wr++X) L l N Φ h):SS h₀ S X L l N Φ h :=
 ⟨x.ns,x.nd,x.keep,x.news,x.ndn,x.size,λb hb=>x.xlt b (List.mem_append_right _ hb),λh' q=>x.fz h' λb o b1 b2 b3 e=>q b o b1 (λr=>b2 (List.mem_append_right _ r)) b3 e⟩
theorem forS {P:Nat→List Value→HP} (j:Nat)
  (Inv:Nat→LS→LN→(HP)→Prop)
  (H:c.Ok n) (F:c.SS l N Φ h) (h0:Inv 0 l N Φ) (hit:EvIt c l N Φ iter (.Name x px) [x] m P) (hj:∀i l N Φ,Inv i l N Φ→∃w,l[j]?=some (x,w))
  (turn:∀(h':Heap) (S X:List Addr) i l N Φ (Ψ:HP) hh t v,c.h₀.objs.size≤h'.objs.size→(c.mk' h' S X).Ok n→i<m→Inv i l N Φ→(∀h,Ψ h→P i [v] h)→(c.mk' h' S X).SS (l.set j (x,some v)) N (λh=>Φ h∧Ψ h) hh →
   (c.mk' h' S X).wp (execs body c.env) (λf s₃=>f = .next∧Ex5 λh₃ t₃ l' N' Φ'=>An3 (s₃=c.st h₃ t₃) (Inv (i+1) l' N' Φ') ((c.mk' h' S X).SS l' N' (λh=>Φ' h∧Ψ h) h₃)) NoE (c.st hh t))
  (fin:∀l N Φ h t,Inv m l N Φ→c.SS l N Φ h→c.wp (execs rest c.env) Q E (c.st h t))
  (hl:Loc c.env x:=by rfl)
  (hs:∀x,foldedSetIterable iter c.env x=pure x:=by intro _;rfl) :
  c.wp (execs (.For (.Name x px) iter body [] pos::rest) c.env) Q E (c.st h t):=by
 refine wpAny_execs_cons (wpAny_For (wpAny_mono (hit Φ (λ_ x=>x) h t (λit s₂=>Ex2 λh₂ t₂=>s₂=c.st h₂ t₂∧ItrAt c l N Φ it (.Name x px) [x] m P h₂) F λit h₂ t₂ hi _=>⟨h₂,t₂,rfl,hi⟩)
  (λxv s₁ h₁=>ex (wpAny_mono h₁ (λit s₂ h₂=>?_) λ_ _ y=>y)) λ_ _ y=>y.elim) hs)
 obtain ⟨h₂,t₂,rfl,fp,wr,St,P₀,IT,st,hfp,hwr,F₂,conv⟩:=h₂
 refine codeAny_forLoop (λk s=>Ex6 λi l N Φ h t=>An8 (s=c.st h t) (Inv i l N Φ) (SS c.h₀ c.S (wr++c.X) c.L l N Φ h) (St i h) ((∀b∈fp,b<h.objs.size∧b≠c.L∧b∉N.map (·.1))) ((∀v i' h',P₀ i' v h'→∀h'',(∀b o,b≠c.L→b∉wr++c.X→b∉N.map (·.1)→h.get? b=some o→h''.get? b=some o)→P i' [v] h'')) (i≤m) (k=m - i)) ?_ (m - 0)
  ⟨0,l,N,Φ,h₂,t₂,rfl,h0,F₂,st,hfp,λv i' h' p h'' q=>by obtain ⟨vs,_,a,r⟩:=conv i' v h' p;rw [←a.1 x px rfl];exact r h'' q,Nat.zero_le _,rfl⟩ (λ_=>rfl)
 rintro k s ⟨i,l,N,Φ,h,t,rfl,hI,F,hst,hfp,conv,hi,rfl⟩
 have hwr':∀b∈wr,c.h₀.objs.size≤b∧b≠c.L∧b∉N.map (·.1):=λb hb=>⟨(hwr b hb).1,(hfp b (IT.sub b hb)).2⟩
 by_cases hlt:i<m
 ·refine wpAny_mono (IT.item i h t (λv s₁=>Ex2 λh₁ t₁=>An5 (s₁=c.st h₁ t₁) (P₀ i v h₁) (St (i+1) h₁) (h.objs.size≤h₁.objs.size) (Kept wr h h₁)) hlt hst λv h' t' a b d e=>⟨h',t',rfl,a,b,d,e⟩) ?_ λ_ _ y=>y.elim
  rintro r s₁ ⟨v,rfl,hv⟩
  have hv':wpAny (model c.prog c.w) c.A (pure ()) (λ(_:Unit) s₁=>Ex2 λh₁ t₁=>An5 (s₁=c.st h₁ t₁) (P₀ i v h₁) (St (i+1) h₁) (h.objs.size≤h₁.objs.size) (Kept wr h h₁)) NoE s₁:=hv
  refine via_pure (wpAny_mono hv' (λ_ s₁ hv=>?_) λ_ _ y=>y.elim)
  obtain ⟨h₁,t₁,rfl,hP,hst₁,hz,hk⟩:=hv
  have F₁:=F.butX hwr' hk hz
  obtain ⟨w,hw⟩:=hj i l N Φ hI
  have G:=F₁.rebase
  have ok:(c.mk' h₁ (N.map (·.1)) (wr++c.X)).Ok n:=⟨H.kind,H.locals,H.globals,H.builtins,H.A,H.W1 F₁.lessX,H.dom,λb hb=>by
   obtain ⟨p,hp,rfl⟩:=List.mem_map.mp hb
   rcases (F₁.news p hp).2.2 with r | r
   ·exact .inl (Nat.le_trans H.W.size r)
   ·exact H.S _ r,H.L⟩
  have cv:∀h'',(∀b o,b≠c.L→b∉wr++c.X→b∉N.map (·.1)→h₁.get? b=some o→h''.get? b=some o)→P i [v] h'':=λh'' q =>
   conv v i h₁ hP h'' λb o b1 b2 b3 e=>q b o b1 b2 b3 (hk b o (λr=>b2 (List.mem_append_left _ r)) e)
  have G1:=SS.know G (P:=λh''=>P i [v] h''∧(∀h3,(∀b o,b≠c.L→b∉wr++c.X→b∉N.map (·.1)→h₁.get? b=some o→h3.get? b=some o)→P i [v] h3)) λh'' q=>⟨cv h'' q,cv⟩
  refine ex (wpAny_assign_Name (stn (c:=c.mk' h₁ (N.map (·.1)) (wr++c.X)) ok G1 hw (λh₂' F₂'=>?_) hl))
  refine wpAny_mono (turn h₁ (N.map (·.1)) (wr++c.X) i l N Φ (λh''=>P i [v] h''∧(∀h3,(∀b o,b≠c.L→b∉wr++c.X→b∉N.map (·.1)→h₁.get? b=some o→h3.get? b=some o)→P i [v] h3)) h₂' (t₁+1) v (Nat.le_trans F₁.size (Nat.le_refl _)) ok hlt hI (λ_ y=>y.1) F₂') (λf s₃ h₃=>?_) λ_ _ y=>y.elim
  obtain ⟨rfl,h₃,t₃,l',N',Φ',rfl,hI',F₃⟩:=h₃
  have hn:∀b,b<h₁.objs.size→b≠c.L→b∉N.map (·.1)→b∉N'.map (·.1):=λb hb hbL hbN hm=>by
   obtain ⟨p,hp,rfl⟩:=List.mem_map.mp hm
   rcases (F₃.news p hp).2.2 with r | r
   ·exact absurd hb (Nat.not_lt.mpr r)
   ·exact hbN r
  refine ⟨m - (i+1),by lia,i+1,l',N',Φ',h₃,t₃,rfl,hI',F₁.unbase (F₃.weaken λ_ y=>y.1),IT.frame _ _ _ hst₁ λb hb o e=>?_,λb hb=>?_,?_,hlt,rfl⟩
  ·have hf:=hfp b hb
   exact F₃.keep b o hf.2.2 hf.2.1 e
  ·have hf:=hfp b hb
   exact ⟨Nat.lt_of_lt_of_le (Nat.lt_of_lt_of_le hf.1 hz) F₃.size,hf.2.1,hn b (Nat.lt_of_lt_of_le hf.1 hz) hf.2.1 hf.2.2⟩
  ·intro v' i' h' hP' h'' q
   refine conv v' i' h' hP' h'' λb o b1 b2 b3 e=>q b o b1 b2 (hn b (Nat.lt_of_lt_of_le (Heap.lt_size e) hz) b1 b3) (F₃.keep b o b3 b1 (hk b o (λr=>b2 (List.mem_append_left _ r)) e))
 ·have him:i=m:=by lia
  subst him
  refine wpAny_mono (IT.done h t (λs₁=>Ex2 λh₁ t₁=>An3 (s₁=c.st h₁ t₁) (h.objs.size≤h₁.objs.size) (Kept wr h h₁)) hst λh' t' a b=>⟨h',t',rfl,a,b⟩) ?_ λ_ _ y=>y.elim
  rintro r s₁ ⟨rfl,h₁,t₁,rfl,hz,hk⟩
  exact wpAny_execs_nil (fin l N Φ h₁ t₁ hI (F.butX hwr' hk hz).lessX)
theorem forT {β:Type} {P:Nat→List Value→HP} (j:Nat)
  (L:Nat→β→LS) (NN:Nat→β→LN) (FF:Nat→β→HP) (b0:β)
  (H:c.Ok n) (F:c.SS (L 0 b0) (NN 0 b0) (FF 0 b0) h) (hit:EvIt c (L 0 b0) (NN 0 b0) (FF 0 b0) iter (.Name x px) [x] m P) (hj:∀i b,∃w,(L i b)[j]?=some (x,w))
  (turn:∀(h':Heap) (S X:List Addr) i b (Ψ:HP) hh t v,c.h₀.objs.size≤h'.objs.size→(c.mk' h' S X).Ok n→i<m→(∀h,Ψ h→P i [v] h)→let l':=(L i b).set j (x,some v);let N':=NN i b;(c.mk' h' S X).SS l' N' (λh=>FF i b h∧Ψ h) hh →
   (c.mk' h' S X).wp (execs body c.env) (λf s₃=>f = .next∧Ex3 λb' h₃ t₃=>s₃=c.st h₃ t₃∧(c.mk' h' S X).SS (L (i+1) b') (NN (i+1) b') (λh=>FF (i+1) b' h∧Ψ h) h₃) NoE (c.st hh t))
  (fin:∀b h t,let l':=L m b;let N':=NN m b;c.SS l' N' (FF m b) h→c.wp (execs rest c.env) Q E (c.st h t))
  (hl:Loc c.env x:=by rfl)
  (hs:∀x,foldedSetIterable iter c.env x=pure x:=by intro _;rfl) :
  c.wp (execs (.For (.Name x px) iter body [] pos::rest) c.env) Q E (c.st h t) :=
 forS j (λi l N Φ=>∃b,An3 (l=L i b) (N=NN i b) (Φ=FF i b)) H F ⟨b0,rfl,rfl,rfl⟩ hit (λi l N Φ q=>by obtain ⟨b,rfl,_⟩:=q;exact hj i b)
  (λh' S X i l N Φ Ψ hh t v hz ok hi q hP F=>by
   obtain ⟨b,rfl,rfl,rfl⟩:=q
   refine wpAny_mono (turn h' S X i b Ψ hh t v hz ok hi hP F) (λf s q=>?_) λ_ _ y=>y
   obtain ⟨e,b',h3,t3,es,F'⟩:=q
   exact ⟨e,h3,t3,_,_,_,es,⟨b',rfl,rfl,rfl⟩,F'⟩)
  (λl N Φ h t q F=>by obtain ⟨b,rfl,rfl,rfl⟩:=q;exact fin b h t F) hl hs
end
end
section
section
theorem SS.fresh (F:SS h₀ S X L l N Φ h) (ha:h.objs.size≤a):a≠L∧a∉X∧a∉N.map (·.1) :=
 ⟨Nat.ne_of_gt (Nat.lt_of_lt_of_le F.ltL ha),λr=>absurd (F.xlt a r) (Nat.not_lt.mpr ha),λr=>by
  obtain ⟨p,hp,rfl⟩:=List.mem_map.mp r
  exact absurd (F.belowN p hp) (Nat.not_lt.mpr ha)⟩
theorem ints_of (hl:us.length=(xs.map (λx:Nat=>(x:Int))).length):RL NatR xs (List.zipWith Value.int (xs.map λx:Nat=>(x:Int)) us) h:=by
 refine ⟨by simp only [List.length_zipWith,List.length_map] at hl ⊢;lia,λi y e=>?_⟩
 obtain ⟨x,u,e1,e2,rfl⟩:=zipWith_at e
 rw [List.getElem?_map] at e1
 cases e3:xs[i]? with
 | none=>rw [e3] at e1;cases e1
 | some z=>rw [e3] at e1;cases e1;exact ⟨z,rfl,u,rfl⟩
theorem EvF.listN (hes:EvIs c l N Φ pos es (xs.map λx:Nat=>(x:Int))) (hz:xs.length≤100000:=by simp):EvF c l N Φ (.List es pos) (LR NatR xs):=by
 intro Φ' k h t Q E F hQ
 refine PyProof.Rows.List_ (wpAny_with_size (Nat.le_refl _) (hes _ k h t _ _ F λus h1 t1 hl F1 hz1=>?_))
 refine wpAny_newList ?_ ?_
 ·refine hQ _ _ t1 (F1.push' _) (Nat.le_trans hz1 (Grow.push _ _).1) λh' q=>⟨h1.objs.size,_,0,rfl,q _ _ hz1 (Heap.get?_push_size _ rfl),ints_of hl⟩
 ·have:(List.zipWith Value.int (xs.map λx:Nat=>(x:Int)) us).length≤100000:=by simp only [List.length_zipWith,List.length_map];lia
  exact Nat.le_trans this (by decide)
theorem asNewList {lp:Pos} {w:Option Value} (i:Nat) (H:c.Ok n) (F:c.SS l N Φ h)
  (hQ:∀a h' t',c.SS (l.set i (x,some (.ref a))) (N++[(a,lobj [] 0)]) Φ h'→c.wp (execs rest c.env) Q E (c.st h' t'))
  (hi:l[i]?=some (x,w):=by rfl) (hl:Loc c.env x:=by rfl) (hs:Swp (.List [] lp) x p' pos c.env:=by rfl) :
  c.wp (execs (.Assign [.Name x p'] (.List [] lp) pos::rest) c.env) Q E (c.st h t):=by
 refine wpAny_execs_cons (wpAny_Assign_Name (PyProof.Rows.List_ (spliced_nil (wpAny_newList (stn H (F.push _) hi (λh2 F2=>hQ _ h2 _ F2) hl)))) hs)
theorem appendS {P:VH} (i j:Nat) (H:c.Ok n) (F:c.SS l N Φ h) (he:EvR c l N Φ e P)
  (hQ:∀v h' t',c.SS l (N.set i (a,lobj (ys++[v]) (k+1))) (λh=>Φ h∧P v h) h'→c.wp (execs rest c.env) Q E (c.st h' t'))
  (hj:l[j]?=some (x,some (.ref a)):=by rfl) (hi:N[i]?=some (a,lobj ys k):=by rfl) (hz:ys.length≤100000)
  (hl:Loc c.env x:=by rfl) (hd:ND x:=by decide)
  (he1:Unst e [] c.env:=by rfl)
  (hcall:eval (.Call (.Attribute (.Name x np) "append" ap) [e] [] cp) c.env=(do
   let ov←eval (.Name x np) c.env
   standAt ap.atName
   let (f,first)←holding [ov] (getMethod ov "append" pl)
   callWith cp f first (backTo cp (starEach [e] c.env)) []):=by rfl)
  (hint:interactive c.env=false:=by rfl) (hsw:swapsWith (.Call (.Attribute (.Name x np) "append" ap) [e] [] cp) none pos.line c.env=pure false:=by rfl) :
  c.wp (execs (.Expr (.Call (.Attribute (.Name x np) "append" ap) [e] [] cp) pos::rest) c.env) Q E (c.st h t):=by
 refine wpAny_execs_cons (wpAny_Expr_any ?_ hint hsw)
 refine PyProof.Rows.MethodCall_ (ld H F hj (Calls.getMethod_list_append (F.new hi) rfl rfl (PyProof.Rows.callWith_method1 ?_ he1)) hl hd) hcall
 rw [he1]
 refine spliced_cons (he _ (λ_ x=>x) h t _ _ F λv h1 t1 F1=>spliced_nil ?_)
 refine PyProof.Rows.append_at (F1.new hi) (λh2 hs2 e2=>?_) (by rw [List.size_toArray];exact Nat.le_trans hz (by decide))
 exact hQ v h2 t1 (F1.upd hi hs2 (by rw [e2];simp))
end
end
section
section
noncomputable def StoreAs (c:Cx) (f:Value→Sem Unit) (x:Str):Prop:=∀v (Q:Unit→Shared→Prop) (E:VQ) s,c.wp (storeName c.env x v) Q E s→c.wp (f v) Q E s
theorem StoreAs.assign {p:Pos}:StoreAs c (assign (.Name x p) c.env) x:=λ_ _ _ _ h=>wpAny_assign_Name h
theorem StoreAs.bind:StoreAs c (λv=>bindName c.env x v) x:=λ_ _ _ _ h=>wpAny_bindName h
noncomputable def StoresAs (c:Cx):List (Value→Sem Unit)→List (Nat×Str)→Prop
 | [],[]=>True
 | f::fs,p::ps=>StoreAs c f p.2∧StoresAs c fs ps
 | _,_=>False
noncomputable def sets:List (Nat×Str)→List Value→LS→LS
 | p::ps,v::vs,l=>sets ps vs (l.set p.1 (p.2,some v))
 | _,_,l=>l
theorem set_keys {v:Option Value} (h:(l.map (·.1))[i]?=some x):(l.set i (x,v)).map (·.1)=l.map (·.1):=by
 obtain ⟨hi,e⟩:=List.getElem?_eq_some_iff.mp h
 rw [List.map_set,←e];exact List.set_getElem_self hi
theorem storeAll (H:c.Ok n):∀(ns:List (Nat×Str)) (fs:List (Value→Sem Unit)) (vs:List Value) (l:LS) (h:Heap) (t:Nat) (Q:Unit→Shared→Prop) (E:VQ),
  StoresAs c fs ns→vs.length=ns.length→(∀p∈ns,(l.map (·.1))[p.1]?=some p.2)→(∀p∈ns,c.env.kindOf p.2=some .local)→c.SS l N Φ h →
  (∀h' t',c.SS (sets ns vs l) N Φ h'→Q () (c.st h' t'))→c.wp (assignInOrder fs vs) Q E (c.st h t):=by
 intro ns
 induction ns with
 | nil =>
  intro fs vs l h t Q E hs hl hk hloc F hQ
  cases fs with
  | cons f fs=>exact hs.elim
  | nil=>cases vs with
   | nil=>exact wpAny_assignInOrder_none (hQ h t F)
   | cons v vs=>exact absurd hl (Nat.succ_ne_zero _)
 | cons p ps ih =>
  intro fs vs l h t Q E hs hl hk hloc F hQ
  cases fs with
  | nil=>exact hs.elim
  | cons f fs=>cases vs with
   | nil=>exact absurd hl.symm (Nat.succ_ne_zero _)
   | cons v vs =>
    have hp:=hk p (List.mem_cons_self ..)
    obtain ⟨q,e,e2⟩:=Option.map_eq_some_iff.mp (List.getElem?_map.symm.trans hp)
    refine wpAny_assignInOrder_more (hs.1 _ _ _ _ (stn H F (w:=q.2) (e.trans (e2▸rfl)) (λh' F'=>?_) (hloc p (List.mem_cons_self ..))))
    refine ih fs vs _ h' _ Q E hs.2 (Nat.succ.inj hl) (λq hq=>?_) (λq hq=>hloc q (List.mem_cons_of_mem _ hq)) F' hQ
    rw [set_keys hp];exact hk q (List.mem_cons_of_mem _ hq)
noncomputable def Seq (ys:List Value) (v:Value) (h:Heap):Prop:=∃a,v = .ref a∧((∃k,h.get? a=some (lobj ys k))∨h.get? a=some (tobj ys))
theorem unpackSeq {Q:List Value→Shared→Prop} (hh:A.handled=none) (hv:Seq ys v s.heap) (hm:ys.length=m)
  (hQ:∀h',Grow s.heap h'→Q ys { s with heap:=h' }):wpAny (model prog w) A (unpackItems v m none) Q E s:=by
 obtain ⟨a,rfl,hv⟩:=hv
 subst hm
 rcases hv with ⟨k,ha⟩ | ha
 ·refine wpAny_with_size (Nat.le_refl _) (PySem.W.kun_itemsOf (items:=ys.toArray) hh ⟨_,ha,rfl,_,rfl⟩ λh' he hz=>?_)
  exact hQ h' ⟨hz,λb o e=>he b o (Nat.ne_of_lt (Heap.lt_size e)) e⟩
 ·refine wpAny_with_size (Nat.le_refl _) (wpAny_unpackItems_tuple (items:=ys.toArray) hh ⟨_,ha,rfl,_,rfl⟩ λh' he hz=>?_)
  exact hQ h' ⟨hz,λb o e=>he b o (Nat.ne_of_lt (Heap.lt_size e)) e⟩
theorem unpackAssign {Q:Unit→Shared→Prop} (hh:A.handled=none) (hv:Seq ys v s.heap)
  (hm:ys.length=(assignEach elts env).length) (hstar:(assignEach elts env).findIdx? (·.1)=none)
  (hQ:∀h',Grow s.heap h'→wpAny (model prog w) A (assignInOrder ((assignEach elts env).map (·.2)) ys) Q E { s with heap:=h' }):wpAny (model prog w) A (assign (.Tuple elts k pos) env v) Q E s:=by
 rw [arm_assign_Tuple]
 refine wpAny_bind (wpAny_standAt ?_)
 unfold unpack
 rw [hstar]
 exact wpAny_bind (wpAny_holding (unpackSeq hh hv hm hQ))
theorem unpackS {tp:Pos} {P:VH} (ns:List (Nat×Str)) (ks:List Str) (H:c.Ok n) (F:c.SS l N Φ h) (he:EvR c l N Φ e P)
  (hP:∀v h,P v h→∃ys,Seq ys v h∧ys.length=ns.length)
  (hQ:∀v ys h₁ h' t',Seq ys v h₁→P v h₁→c.SS (sets ns ys l) N (λh=>Φ h∧P v h) h'→c.wp (execs rest c.env) Q E (c.st h' t'))
  (hf:StoresAs c ((assignEach elts c.env).map (·.2)) ns)
  (hks:l.map (·.1)=ks:=by rfl) (hns:(ns.all λp=>decide (ks[p.1]?=some p.2) && decide (c.env.kindOf p.2=some .local))=true:=by kernel_rfl)
  (hlen:(assignEach elts c.env).length=ns.length:=by rfl) (hstar:(assignEach elts c.env).findIdx? (·.1)=none:=by rfl)
  (hs:swapsWithSole [.Tuple elts k tp] e pos.line c.env=pure false:=by rfl)
  (hw:swappedStores [.Tuple elts k tp] e c.env=pure none:=by rfl) :
  c.wp (execs (.Assign [.Tuple elts k tp] e pos::rest) c.env) Q E (c.st h t):=by
 simp only [List.all_eq_true,Bool.and_eq_true,decide_eq_true_eq] at hns
 refine wpAny_execs_cons (PyProof.Rows.Assign_Tuple (he _ (λ_ x=>x) h t _ _ F λv h1 t1 F1=>?_) hs hw)
 obtain ⟨ys,hy,hl⟩:=hP v h1 F1.phi.2
 refine unpackAssign H.A.1 hy (by rw [hlen,hl]) hstar λh2 G=>?_
 exact storeAll H ns _ ys l h2 t1 _ _ hf hl (λp hp=>by rw [hks];exact (hns p hp).1) (λp hp=>(hns p hp).2) (F1.grown G) λh' t' F'=>hQ v ys h1 h' t' hy F1.phi.2 F'
theorem swapS {tp vp:Pos} {xs:List Int} (ns:List (Nat×Str)) (ks:List Str) (H:c.Ok n) (F:c.SS l N Φ h) (he:EvIs c l N Φ vp es xs)
  (hQ:∀us h' t',us.length=xs.length→c.SS (sets ns.reverse (List.zipWith Value.int xs us).reverse l) N Φ h'→c.wp (execs rest c.env) Q E (c.st h' t'))
  (hl:xs.length=ns.length:=by rfl)
  (hw:swappedStores [.Tuple elts k tp] (.Tuple es k' vp) c.env=pure (some (ns.map (·.2))):=by rfl)
  (hks:l.map (·.1)=ks:=by rfl) (hns:(ns.all λp=>decide (ks[p.1]?=some p.2) && decide (c.env.kindOf p.2=some .local))=true:=by kernel_rfl)
  (hs:swapsWithSole [.Tuple elts k tp] (.Tuple es k' vp) pos.line c.env=pure false:=by rfl) (hz:ns.length≤1000:=by decide) :
  c.wp (execs (.Assign [.Tuple elts k tp] (.Tuple es k' vp) pos::rest) c.env) Q E (c.st h t):=by
 simp only [List.all_eq_true,Bool.and_eq_true,decide_eq_true_eq] at hns
 refine wpAny_execs_cons (PyProof.Rows.Assign_Tuple_swapped (PyProof.Rows.Tuple_ (he _ (λ_ x=>x) h t _ _ F λus h1 t1 hu F1=>?_)) hs hw)
 have hzl:(List.zipWith Value.int xs us).length=xs.length:=by simp only [List.length_zipWith];lia
 refine wpAny_newTuple ?_ (by rw [hzl,hl];exact Nat.le_trans hz (by decide))
 refine unpackSeq (ys:=List.zipWith Value.int xs us) H.A.1 ⟨_,rfl,.inr (Heap.get?_push_size _ rfl)⟩ (by rw [hzl,hl,List.length_map]) λh2 G=>?_
 have hst:∀(ps:List (Nat×Str)),StoresAs c ((ps.map (·.2)).map λn=>bindName c.env n) ps:=λps=>by
  induction ps with
  | nil=>trivial
  | cons p ps ih=>exact ⟨StoreAs.bind,ih⟩
 rw [←List.map_reverse]
 refine storeAll H ns.reverse _ (List.zipWith Value.int xs us).reverse l h2 t1 _ _ (hst ns.reverse) (by rw [List.length_reverse,List.length_reverse,hzl,hl]) (λp hp=>by rw [hks];exact (hns p (List.mem_reverse.mp hp)).1) (λp hp=>(hns p (List.mem_reverse.mp hp)).2) ((F1.push' _).grown G) λh' t' F'=>hQ us h' t' hu F'
end
end
section
structure Q4 where
 a:Nat
 b:Nat
 c:Nat
 d:Nat
noncomputable def dr (q:Q4):Q4 :=
 let b1:=nstep q.b q.a q.d 7
 let c1:=nstep q.c b1 q.a 9
 let d1:=nstep q.d c1 b1 13
 let a1:=nstep q.a d1 c1 18
 let b2:=npass b1 3
 let c2:=npass c1 2
 let d2:=npass d1 1
 let d3:=nstep d2 a1 b2 7
 let c3:=nstep c2 d3 a1 9
 let b3:=nstep b2 c3 d3 13
 let a3:=nstep a1 b3 c3 18
 ⟨a3,npass b3 1,npass c3 2,npass d3 3⟩
noncomputable def drn:Nat→Q4→Q4
 | 0,x=>x
 | n+1,x=>dr (drn n x)
noncomputable def Q4.ok (q:Q4):Prop:=q.a<2 ^ 256∧q.b<2 ^ 256∧q.c<2 ^ 256∧q.d<2 ^ 256
noncomputable def lsalsa (q:Q4):List Nat:=List.zipWith (λx y=>(x+y) &&& MASK) [q.a,q.b,q.c,q.d] [(drn 4 q).a,(drn 4 q).b,(drn 4 q).c,(drn 4 q).d]
theorem nstep_lt (h:t<2 ^ 256) (a b k:Nat):nstep t a b k<2 ^ 256:=Nat.xor_lt_two_pow h (and_mask_lt _)
theorem npass_lt (x k:Nat):npass x k<2 ^ 256:=and_mask_lt _
theorem dr_ok {q:Q4} (h:q.ok):(dr q).ok:=⟨nstep_lt (nstep_lt h.1 _ _ _) _ _ _,npass_lt _ _,npass_lt _ _,npass_lt _ _⟩
theorem drn_ok {q:Q4} (h:q.ok):∀n,(drn n q).ok
 | 0=>h
 | n+1=>dr_ok (drn_ok h n)
section
theorem EvN.step (LKK:LK c.K c.mg c.mb) (H:c.Ok (n+2)) {e4:Expr} {x a b:Nat} (h1:EvN c l N Φ e1 x) (h2:EvN c l N Φ e2 a) (h3:EvN c l N Φ e3 b) (h4:EvN c l N Φ e4 k) (hk:k≤32:=by decide)
  (hl:Glo c.env "_law_step":=by rfl)
  (s1:Unst e1 [e2,e3,e4] c.env:=by rfl) (s2:Unst e2 [e3,e4] c.env:=by rfl)
  (s3:Unst e3 [e4] c.env:=by rfl) (s4:Unst e4 [] c.env:=by rfl)
  (hp:Plain pos [e1,e2,e3,e4] c.env:=by rfl)
  (he:CallIs "_law_step" np [e1,e2,e3,e4] pos c.env:=by rfl) :
  EvN c l N Φ (.Call (.Name "_law_step" np) [e1,e2,e3,e4] [] pos) (nstep x a b k) :=
 EvI.call H LKK.gstep LKK.step (.cons h1 (.cons h2 (.cons h3 (.cons h4 .nil s4) s3) s2) s1) (law_step LKK hk) (Nat.le_add_left 2 n) hl (by decide) hp he
theorem EvN.pass (LKK:LK c.K c.mg c.mb) (H:c.Ok (n+2)) {x:Nat} (h1:EvN c l N Φ e1 x) (h2:EvN c l N Φ e2 k) (hx:x<2 ^ 256) (hk:k≤4:=by decide)
  (hl:Glo c.env "_law_pass":=by rfl)
  (s1:Unst e1 [e2] c.env:=by rfl) (s2:Unst e2 [] c.env:=by rfl)
  (hp:Plain pos [e1,e2] c.env:=by rfl)
  (he:CallIs "_law_pass" np [e1,e2] pos c.env:=by rfl) :
  EvN c l N Φ (.Call (.Name "_law_pass" np) [e1,e2] [] pos) (npass x k) :=
 EvI.call H LKK.gpass LKK.pass (.cons h1 (.cons h2 .nil s2) s1) (law_pass LKK hx hk) (Nat.le_add_left 2 n) hl (by decide) hp he
section
theorem asN {v:Nat} {w:Option Value} (i:Nat) (H:c.Ok n) (F:c.SS l N Φ h) (he:EvN c l N Φ e v)
  (hQ:∀(y:Nat) u h' t',y=v→let l':=l.set i (x,some (.int (y:Int) u));c.SS l' N Φ h'→c.wp (execs rest c.env) Q E (c.st h' t'))
  (hi:l[i]?=some (x,w):=by rfl) (hl:Loc c.env x:=by rfl) (hs:Swp e x p' pos c.env:=by rfl) :
  c.wp (execs (.Assign [.Name x p'] e pos::rest) c.env) Q E (c.st h t) :=
 asI i H F he (λu h' t' F'=>hQ v u h' t' rfl F') hi hl hs
end
theorem list3 {α:Type} {l:List α} (h:l.length=3):Ex3 λa b c=>l=[a,b,c]:=by
 obtain ⟨a,t1,e1,h⟩:=unc h
 obtain ⟨b,t2,e2,h⟩:=unc h
 obtain ⟨c,t3,e3,h⟩:=unc h
 exact ⟨a,b,c,by rw [e1,e2,e3,List.length_eq_zero_iff.mp h]⟩
theorem list4 {α:Type} {l:List α} (h:l.length=4):Ex4 λa b c d=>l=[a,b,c,d]:=by
 obtain ⟨a,t1,e1,h⟩:=unc h
 obtain ⟨b,t2,e2,h⟩:=list3 h
 exact ⟨a,b,t2,e2,by rw [e1,h]⟩
theorem list4_eq {α:Type} {l:List α} {a b c d:α} (h:l.length=4) (h0:l[0]?=some a) (h1:l[1]?=some b) (h2:l[2]?=some c) (h3:l[3]?=some d):l=[a,b,c,d]:=by
 obtain ⟨_,_,_,_,rfl⟩:=list4 h
 rw [Option.some.inj h0,Option.some.inj h1,Option.some.inj h2,Option.some.inj h3]
section
theorem swap3 {tp vp:Pos} {v1 v2 v3:Int} {x3:Str} (i1 i2 i3:Nat) (ks:List Str) (H:c.Ok n) (F:c.SS l N Φ h) (he:EvIs c l N Φ vp es [v1,v2,v3])
  (hQ:∀u1 u2 u3 h' t',let l':=((l.set i3 (x3,some (.int v3 u3))).set i2 (x2,some (.int v2 u2))).set i1 (x1,some (.int v1 u1));c.SS l' N Φ h'→c.wp (execs rest c.env) Q E (c.st h' t'))
  (hw:swappedStores [.Tuple elts k tp] (.Tuple es k' vp) c.env=pure (some [x1,x2,x3]):=by rfl)
  (hks:l.map (·.1)=ks:=by rfl) (hns:([(i1,x1),(i2,x2),(i3,x3)].all λp=>decide (ks[p.1]?=some p.2) && decide (c.env.kindOf p.2=some .local))=true:=by kernel_rfl)
  (hs:swapsWithSole [.Tuple elts k tp] (.Tuple es k' vp) pos.line c.env=pure false:=by rfl) :
  c.wp (execs (.Assign [.Tuple elts k tp] (.Tuple es k' vp) pos::rest) c.env) Q E (c.st h t) :=
 swapS [(i1,x1),(i2,x2),(i3,x3)] ks H F he (λus h' t' hu F'=>by obtain ⟨u1,u2,u3,rfl⟩:=list3 hu;exact hQ u1 u2 u3 h' t' F') rfl hw hks hns hs (Nat.le_of_ble_eq_true rfl)
theorem unpack4 {tp:Pos} {a b d f:Nat} {x3 x4:Str} (i1 i2 i3 i4:Nat) (ks:List Str) (H:c.Ok n) (F:c.SS l N Φ h) (he:EvR c l N Φ e (LR NatR [a,b,d,f]))
  (hQ:∀u1 u2 u3 u4 h' t',let l':=(((l.set i1 (x1,some (.int (a:Int) u1))).set i2 (x2,some (.int (b:Int) u2))).set i3 (x3,some (.int (d:Int) u3))).set i4 (x4,some (.int (f:Int) u4));c.SS l' N Φ h'→c.wp (execs rest c.env) Q E (c.st h' t'))
  (hf:StoresAs c ((assignEach elts c.env).map (·.2)) [(i1,x1),(i2,x2),(i3,x3),(i4,x4)])
  (hks:l.map (·.1)=ks:=by rfl) (hns:([(i1,x1),(i2,x2),(i3,x3),(i4,x4)].all λp=>decide (ks[p.1]?=some p.2) && decide (c.env.kindOf p.2=some .local))=true:=by kernel_rfl)
  (hlen:(assignEach elts c.env).length=4:=by rfl) (hstar:(assignEach elts c.env).findIdx? (·.1)=none:=by rfl) (hs:swapsWithSole [.Tuple elts k tp] e pos.line c.env=pure false:=by rfl)
  (hw:swappedStores [.Tuple elts k tp] e c.env=pure none:=by rfl) :
  c.wp (execs (.Assign [.Tuple elts k tp] e pos::rest) c.env) Q E (c.st h t):=by
 refine unpackS (P:=LR NatR [a,b,d,f]) [(i1,x1),(i2,x2),(i3,x3),(i4,x4)] ks H F he (λv h x=>?_) (λv' ys h₁ h2 t2 hs hP F2=>?_) hf hks hns hlen hstar hs hw
 ·obtain ⟨a,ys,k,rfl,ha,hR⟩:=x
  exact ⟨ys,⟨a,rfl,.inl ⟨k,ha⟩⟩,hR.1⟩
 have ⟨ua,ub,uc,ud,ey⟩:Ex4 λua ub uc ud=>ys=[.int a ua,.int b ub,.int d uc,.int f ud]:=by
  clear F2 hQ
  obtain ⟨a',ys',k',e,ha',hR⟩:=hP
  have ey:ys=ys':=by
   obtain ⟨a,ea,ha⟩:=hs
   cases ea.symm.trans e
   rcases ha with ⟨k,ha⟩ | ha
   ·exact lobj_inj (ha.symm.trans ha')
   ·exact absurd (show Value.type "tuple" = .type "list" from congrArg Obj.cls (Option.some.inj (ha.symm.trans ha'))) (by decide)
  obtain ⟨_,f0,u0,e0⟩:=hR.get (i:=0) rfl
  obtain ⟨_,f1,u1,e1⟩:=hR.get (i:=1) rfl
  obtain ⟨_,f2,u2,e2⟩:=hR.get (i:=2) rfl
  obtain ⟨_,f3,u3,e3⟩:=hR.get (i:=3) rfl
  exact ⟨u0,u1,u2,u3,by rw [ey,list4_eq hR.1 f0 f1 f2 f3,e0,e1,e2,e3]⟩
 subst ey
 exact hQ ua ub uc ud h2 t2 (F2.weaken λ_ y=>y.1)
end
set_option maxHeartbeats 2000000
theorem law_salsa (LKK:LK K mg mb) {q:Q4} (hv:Stands h (LR NatR [q.a,q.b,q.c,q.d] v)) (hq:q.ok) :
  FnAt prog w K mg mb 3 235 ⟨[v],[]⟩ h (LR NatR (lsalsa q)):=by
 intro A g d t o R hA W hR
 refine enter (n:=2) (binds:=[("rows",v)]) ["a","b","c","d","twice"] [] [] LKK.salsa hA W LKK.dom (by intro pm doc;kernel_rfl) rfl (by kernel_rfl) (by trivial) (by simp) (by trivial) (by kernel_rfl) ?_
 intro h₁ t₁ c l Q H F
 have F:=F.base hv (Nat.le_refl _)
 refine unpack4 1 2 3 4 _ H F (EvV.toRP (.nm 0 H rfl) λ_ y=>y.2) ?_ ⟨.assign,.assign,.assign,.assign,trivial⟩
 intro ua ub uc ud h2 t2 l F2
 have F3:=F2.weaken (Φ':=λh=>LR NatR [q.a,q.b,q.c,q.d] v h) λ_ y=>y.2
 clear F2
 refine forT 5 (λi (b:Tok×Tok×Tok×Tok×Option Value)=>[("rows",some v),("a",some (.int (drn i q).a b.1)),("b",some (.int (drn i q).b b.2.1)),("c",some (.int (drn i q).c b.2.2.1)),("d",some (.int (drn i q).d b.2.2.2.1)),("twice",b.2.2.2.2)]) (λ_ _=>[]) (λ_ _ h=>LR NatR [q.a,q.b,q.c,q.d] v h) (ua,ub,uc,ud,none)
  H F3 (EvIt.range1 (m:=4) H LKK.b_range (.const 4) (by decide)) (λi b=>⟨b.2.2.2.2,rfl⟩) ?_ ?_
 ·intro h' S X i b Ψ hh t v' hz H ilt _ l N F
  have ok:=drn_ok hq i
  refine asN 2 H F (EvN.step LKK H (.nm 2 H) (.nm 1 H) (.nm 4 H) (.const 7)) ?_
  intro b1 u _ _ e1 l F
  refine asN 3 H F (EvN.step LKK H (.nm 3 H) (.nm 2 H) (.nm 1 H) (.const 9)) ?_
  intro c1 u _ _ e2 l F
  refine asN 4 H F (EvN.step LKK H (.nm 4 H) (.nm 3 H) (.nm 2 H) (.const 13)) ?_
  intro d1 u _ _ e3 l F
  refine asN 1 H F (EvN.step LKK H (.nm 1 H) (.nm 4 H) (.nm 3 H) (.const 18)) ?_
  intro a1 u _ _ e4 l F
  refine swap3 2 3 4 _ H F (.cons (EvN.pass LKK H (.nm 2 H) (.const 3) (e1▸nstep_lt ok.2.1 _ _ _)) (.cons (EvN.pass LKK H (.nm 3 H) (.const 2) (e2▸nstep_lt ok.2.2.1 _ _ _)) (.cons (EvN.pass LKK H (.nm 4 H) (.const 1) (e3▸nstep_lt ok.2.2.2 _ _ _)) .nil))) ?_
  intro u1 u2 u3 _ _ l F
  refine asN 4 H F (EvN.step LKK H (.nm 4 H) (.nm 1 H) (.nm 2 H) (.const 7)) ?_
  intro d3 u _ _ e5 l F
  refine asN 3 H F (EvN.step LKK H (.nm 3 H) (.nm 4 H) (.nm 1 H) (.const 9)) ?_
  intro c3 u _ _ e6 l F
  refine asN 2 H F (EvN.step LKK H (.nm 2 H) (.nm 3 H) (.nm 4 H) (.const 13)) ?_
  intro b3 u _ _ e7 l F
  refine asN 1 H F (EvN.step LKK H (.nm 1 H) (.nm 2 H) (.nm 3 H) (.const 18)) ?_
  intro a2 u _ _ e8 l F
  refine swap3 2 3 4 _ H F (.cons (EvN.pass LKK H (.nm 2 H) (.const 1) (e7▸nstep_lt (npass_lt _ _) _ _ _)) (.cons (EvN.pass LKK H (.nm 3 H) (.const 2) (e6▸nstep_lt (npass_lt _ _) _ _ _)) (.cons (EvN.pass LKK H (.nm 4 H) (.const 3) (e5▸nstep_lt (npass_lt _ _) _ _ _)) .nil))) ?_
  intro u1 u2 u3 h5 t5 l F
  have e:drn (i+1) q=⟨a2,npass b3 1,npass c3 2,npass d3 3⟩:=by rw [e8,e7,e6,e5,e4,e3,e2,e1];rfl
  exact wpAny_execs_nil ⟨rfl,(_,_,_,_,_),h5,t5,rfl,by rw [e];exact F⟩
 ·intro b h t l N F
  refine retF F (listCompR (cl:=[]) (R:=NatR) (names:=["one","two"]) (lsalsa q) H (by rfl) (by kernel_rfl) (EvIt.zip H LKK.b_zip (EvV.toRP (.nm 0 H rfl) λ_ y=>y)
   (EvF.toR (EvF.listN (xs:=[(drn 4 q).a,(drn 4 q).b,(drn 4 q).c,(drn 4 q).d]) (.cons (EvN.nm 1 H) (.cons (EvN.nm 2 H) (.cons (EvN.nm 3 H) (.cons (EvN.nm 4 H) .nil)))))) rfl) rfl (by simp [lsalsa]) ?_)
   (λv h' t' F' p=>hR v h' t' (F'.growth rfl (Nat.le_refl _)) (p.le F.size))
  intro C h₀ vs i Ψ z hz hP hV ok ⟨h3,hψ⟩
  obtain ⟨_,_,a,b,rfl,e1,e2,⟨u1,rfl⟩,⟨u2,rfl⟩⟩:=hP h3 hψ
  obtain ⟨a',b',e1',e2',rfl⟩:=zipWith_at hz
  rw [e1] at e1';rw [e2] at e2'
  cases e1';cases e2'
  exact EvN.toF (EvN.and (.add (.nm 0 ok) (.nm 1 ok)) (.mask LKK ok))
end
end
section
noncomputable def Mono {α:Type} (R:α→VH):Prop:=∀x v h h',(∀b o,h.get? b=some o→h'.get? b=some o)→R x v h→R x v h'
theorem NatR.mono:Mono NatR:=λ_ _ _ _ _ r=>r
theorem LR.mono {α:Type} {R:α→VH} (m:Mono R):Mono (LR R):=λxs v h h' k r=>by
 obtain ⟨a,ys,kk,rfl,ha,hR⟩:=r
 exact ⟨a,ys,kk,rfl,k a _ ha,hR.1,λi y e=>let ⟨x,ex,q⟩:=hR.2 i y e;⟨x,ex,m x y h h' k q⟩⟩
theorem Mono.stands {α:Type} {R:α→VH} (m:Mono R) {x:α} (r:R x v h):Stands h (R x v):=λh' k=>m x v h h' k r
theorem ifp {p:Prop} [Decidable p] {a b:Int} {P:Int→Prop} (h:p) (x:P a):P (ite p a b):=by rw [if_pos h];exact x
theorem ifn {p:Prop} [Decidable p] {a b:Int} {P:Int→Prop} (h:¬ p) (x:P b):P (ite p a b):=by rw [if_neg h];exact x
theorem m1_le (n:Nat):(-1:Int)≤(n:Int) - 1:=Int.sub_le_sub_right (Int.natCast_nonneg n) 1
theorem pickL_length_le {α:Type} (xs:List α) (lo hi st:Option Int):(pickL xs lo hi st).length≤xs.length:=by
 refine Nat.le_trans (List.length_filterMap_le _ _) (sliceRange_length_le _ _ _ _ (λhc=>⟨?_,?_⟩) λhc=>⟨?_,?_⟩)
 ·cases lo with
  | none=>exact ifp (P:=(0≤·)) hc (Int.le_refl 0)
  | some i=>exact ifp (P:=(0≤·)) hc (Int.le_max_left _ _)
 ·cases hi with
  | none=>exact ifp (P:=(·≤(xs.length:Int))) hc (Int.le_refl _)
  | some i=>exact ifp (P:=(·≤(xs.length:Int))) hc (Int.max_le.mpr ⟨Int.natCast_nonneg _,Int.min_le_right _ _⟩)
 ·cases lo with
  | none=>exact ifn (P:=(·≤(xs.length:Int) - 1)) hc (Int.le_refl _)
  | some i=>exact ifn (P:=(·≤(xs.length:Int) - 1)) hc (Int.max_le.mpr ⟨m1_le _,Int.min_le_right _ _⟩)
 ·cases hi with
  | none=>exact ifn (P:=(-1≤·)) hc (Int.le_refl _)
  | some i=>exact ifn (P:=(-1≤·)) hc (Int.le_max_left _ _)
section
theorem EvF.toSR {P:VH} (x:EvF c l N Φ e P) {K:Nat} (hK:K≤c.h₀.objs.size):EvR c l N Φ e (λv h=>Since K h (P v)):=λΦ' k h t Q E F hQ =>
 x Φ' k h t Q E F λv h' t' F' _ p=>hQ v h' t' (SS.since F F' (p.dup (Nat.le_trans hK F.size)))
theorem SS.freeze (F:SS h₀ S [] L l N Φ h):SS h₀ S [] L l [] (λh=>Φ h∧∀p∈N,h.get? p.1=some p.2) h :=
 (F.drop (List.nil_sublist _)).know λh' q p hp=>q _ _ (F.news p hp).2.1 (by simp) (by simp) (F.news p hp).1
end
end
section
noncomputable def Q4.of:List Nat→Q4
 | [a,b,c,d]=>⟨a,b,c,d⟩
 | _=>⟨0,0,0,0⟩
noncomputable def RowOk (xs:List Nat):Prop:=xs.length=4∧∀x∈xs,x<2 ^ 256
noncomputable def xorL (xs ys:List Nat):List Nat:=List.zipWith (· ^^^ ·) xs ys
noncomputable def lsal (xs:List Nat):List Nat:=lsalsa (Q4.of xs)
theorem RowOk.four (h:RowOk xs):xs=[(Q4.of xs).a,(Q4.of xs).b,(Q4.of xs).c,(Q4.of xs).d]∧(Q4.of xs).ok:=by
 match xs,h with
 | [a,b,c,d],h=>exact ⟨rfl,h.2 a (by trivial),h.2 b (by trivial),h.2 c (by trivial),h.2 d (by trivial)⟩
 | [],h=>exact absurd h.1 (by trivial)
 | [_],h=>exact absurd h.1 (by simp)
 | [_,_],h=>exact absurd h.1 (by simp)
 | [_,_,_],h=>exact absurd h.1 (by simp)
 | _::_::_::_::_::_,h=>exact absurd h.1 (by simp)
theorem RowOk.sal (xs:List Nat):RowOk (lsal xs):=by
 refine ⟨by simp [lsal,lsalsa],λx hx=>?_⟩
 obtain ⟨i,hi⟩:=List.mem_iff_getElem?.mp hx
 obtain ⟨_,_,_,_,rfl⟩:=zipWith_at hi
 exact and_mask_lt _
theorem RowOk.xor {ys:List Nat} (h:RowOk xs) (h':RowOk ys):RowOk (xorL xs ys):=by
 refine ⟨by simp [xorL,h.1,h'.1],λx hx=>?_⟩
 obtain ⟨i,hi⟩:=List.mem_iff_getElem?.mp hx
 obtain ⟨a,b,e1,e2,rfl⟩:=zipWith_at hi
 exact Nat.xor_lt_two_pow (h.2 _ (List.mem_of_getElem? e1)) (h'.2 _ (List.mem_of_getElem? e2))
noncomputable def lrun (s:List Nat×List (List Nat)) (b:List Nat):List Nat×List (List Nat):=(lsal (xorL s.1 b),s.2++[lsal (xorL s.1 b)])
noncomputable def lfound (bs:List (List Nat)) (i:Nat):List Nat×List (List Nat):=(bs.take i).foldl lrun (bs.getLast?.getD [],[])
noncomputable def lblocks (bs:List (List Nat)):List (List Nat):=pickL (lfound bs bs.length).2 none none (some 2)++pickL (lfound bs bs.length).2 (some 1) none (some 2)
theorem lfound_succ {bs:List (List Nat)} {b:List Nat} (h:bs[i]?=some b):lfound bs (i+1)=lrun (lfound bs i) b:=by
 unfold lfound
 rw [List.take_succ,h]
 simp
theorem lfound_len {bs:List (List Nat)}:∀i,i≤bs.length→(lfound bs i).2.length=i
 | 0,_=>by simp [lfound]
 | i+1,h=>by
  rw [lfound_succ (List.getElem?_eq_getElem (by trivial:i<bs.length))]
  simp only [lrun,List.length_append,List.length_cons,List.length_nil]
  rw [lfound_len i (by trivial)]
theorem lfound_ok {bs:List (List Nat)} (hb:∀b∈bs,RowOk b) (h0:bs≠[]):∀i,i≤bs.length→RowOk (lfound bs i).1
 | 0,_=>by
  simp only [lfound,List.take_zero,List.foldl_nil]
  rw [List.getLast?_eq_some_getLast h0,Option.getD_some]
  exact hb _ (List.getLast_mem h0)
 | i+1,h=>by
  rw [lfound_succ (List.getElem?_eq_getElem (by trivial:i<bs.length))]
  exact RowOk.sal _
section
theorem law_sal (LKK:LK K mg mb) (hv:LR NatR xs v h) (hx:RowOk xs):FnAt prog w K mg mb 3 235 ⟨[v],[]⟩ h (LR NatR (lsal xs)):=by
 have e:=hx.four
 rw [e.1] at hv
 exact law_salsa LKK ((LR.mono NatR.mono).stands hv) e.2
theorem law_cross (LKK:LK K mg mb) {ys:List Nat} (h1:LR NatR xs v1 h) (h2:LR NatR ys v2 h) (hx:xs.length≤1000000):FnAt prog w K mg mb 1 240 ⟨[v1,v2],[]⟩ h (LR NatR (xorL xs ys)) :=
 law_crossed LKK ((LR.mono NatR.mono).stands h1) ((LR.mono NatR.mono).stands h2) hx
theorem EvF.sal (LKK:LK c.K c.mg c.mb) (H:c.Ok (n+3)) (h1:EvR c l N Φ e1 (LR NatR xs)) (hx:RowOk xs)
  (hl:Glo c.env "_law_salsa":=by rfl)
  (s1:Unst e1 [] c.env:=by rfl)
  (hp:Plain pos [e1] c.env:=by rfl)
  (he:CallIs "_law_salsa" np [e1] pos c.env:=by rfl) :
  EvF c l N Φ (.Call (.Name "_law_salsa" np) [e1] [] pos) (LR NatR (lsal xs)) :=
 EvF.call H LKK.gsalsa LKK.salsa (.cons h1 .nil s1) (λvs h _ hP=>by obtain ⟨v,vs,rfl,hv,rfl⟩:=hP;exact law_sal LKK hv hx) (Nat.le_add_left 3 n) hl (by decide) hp he
theorem EvF.cross (LKK:LK c.K c.mg c.mb) (H:c.Ok (n+1)) {ys:List Nat} (h1:EvR c l N Φ e1 (LR NatR xs)) (h2:EvR c l N Φ e2 (LR NatR ys)) (hx:xs.length≤1000000)
  (hl:Glo c.env "_law_crossed":=by rfl)
  (s1:Unst e1 [e2] c.env:=by rfl) (s2:Unst e2 [] c.env:=by rfl)
  (hp:Plain pos [e1,e2] c.env:=by rfl)
  (he:CallIs "_law_crossed" np [e1,e2] pos c.env:=by rfl) :
  EvF c l N Φ (.Call (.Name "_law_crossed" np) [e1,e2] [] pos) (LR NatR (xorL xs ys)) :=
 EvF.call H LKK.gcrossed LKK.crossed (.cons h1 (.cons h2 .nil s2) s1) (λvs h _ hP=>by obtain ⟨v,_,rfl,hv,w,_,rfl,hw,rfl⟩:=hP;exact law_cross LKK hv hw hx) (Nat.le_add_left 1 n) hl (by decide) hp he
set_option maxHeartbeats 2000000
theorem law_blocks (LKK:LK K mg mb) {bs:List (List Nat)} (hv:LR (LR NatR) bs v h) (hb:∀b∈bs,RowOk b) (h0:bs≠[]) (hz:bs.length≤1000) :
  FnAt prog w K mg mb 4 247 ⟨[v],[]⟩ h (LR (LR NatR) (lblocks bs)):=by
 intro A g d t o R hA W hR
 refine enter (n:=3) (binds:=[("blocks",v)]) ["last","found","block"] [] [] LKK.blocks hA W LKK.dom (by intro pm doc;kernel_rfl) rfl (by kernel_rfl) (by trivial) (by simp) (by trivial) (by kernel_rfl) ?_
 intro h₁ t₁ c l Q H F
 have F:=(F.base ((LR.mono (LR.mono NatR.mono)).stands hv) (Nat.le_refl _)).weaken (Φ':=LR (LR NatR) bs v) λ_ y=>y.2
 have hlen:0<bs.length:=List.length_pos_iff.mpr h0
 refine asR 1 H F (EvR.itemI (R:=LR NatR) (xs:=bs) (k := -1) (x:=bs.getLast h0) (EvV.toRP (.nm 0 H rfl) λ_ y=>y) (.neg .const) (bs.length - 1) (.inr (by lia)) ?_ (by trivial)) ?_
 ·rw [List.getLast_eq_getElem,List.getElem?_eq_getElem (by trivial)]
 intro vl h2 t2 l F2
 refine asNewList 2 H F2 ?_
 intro fa h3 t3 F3
 have hfa:h.objs.size≤fa:=by
  rcases (F3.news (fa,lobj [] 0) (by trivial)).2.2 with r | r
  ·exact r
  ·exact (nomatch (r:fa∈([]:List Addr)))
 refine forT 3 (λi (b:Value×Option Value×List Value×Nat)=>[("blocks",some v),("last",some b.1),("found",some (.ref fa)),("block",b.2.1)]) (λi b=>[(fa,lobj b.2.2.1 b.2.2.2)]) (λi b h'=>LR (LR NatR) bs v h'∧LR NatR (lfound bs i).1 b.1 h'∧RL (SR h.objs.size (LR NatR)) (lfound bs i).2 b.2.2.1 h') (vl,none,[],0)
  H (F3.weaken (Φ':=λh'=>LR (LR NatR) bs v h'∧LR NatR (lfound bs 0).1 vl h'∧RL (SR h.objs.size (LR NatR)) (lfound bs 0).2 [] h') λh' y=>⟨y.1,?_,RL.nil⟩)
  (EvIt.list (R:=LR NatR) (xs:=bs) H (EvV.toRP (.nm 0 H rfl) λ_ y=>y.1)) (λi b=>⟨b.2.1,rfl⟩) ?_ ?_
 ·simp only [lfound,List.take_zero,List.foldl_nil,List.getLast?_eq_some_getLast h0,Option.getD_some];exact y.2
 ·rintro h' S X i ⟨vl,tw,ys,k⟩ Ψ hh t v' hz' H ilt hP l N F
  obtain ⟨_,b,e,hbi,_⟩:=hP hh F.phi.2
  cases e
  have hlo:=lfound_ok hb h0 i (by trivial)
  refine asR 1 H F (P:=SR h.objs.size (LR NatR) (lsal (xorL (lfound bs i).1 b))) (EvF.toSR (EvF.sal LKK H (EvF.toR (EvF.cross LKK H (EvV.toRP (.nm 1 H rfl) λ_ y=>y.1.2.1) (EvV.toRP (.nm 3 H rfl) λh y=>?_) (by rw [hlo.1];lia))) (hlo.xor (hb b (List.mem_of_getElem? hbi)))) hz') ?_
  ·obtain ⟨_,b',e,hbi',r⟩:=hP h y.2
   cases e;rw [hbi] at hbi';cases hbi';exact r
  intro vl' h5 t5 l F5
  have hyl:ys.length≤1000:=by
   have:=F5.phi.1.1.2.2.1
   rw [lfound_len i (by trivial)] at this
   lia
  refine appendS 0 2 H F5 (P:=SR h.objs.size (LR NatR) (lsal (xorL (lfound bs i).1 b))) (EvV.toRP (.nm 1 H rfl) λ_ y=>y.2) (λv h6 t6 F6=>?_) rfl rfl (by trivial)
  refine wpAny_execs_nil ⟨rfl,(vl',_,ys++[v],k+1),h6,t6,rfl,F6.weaken λh y=>⟨⟨y.1.1.1.1,?_,?_⟩,y.1.1.2⟩⟩
  ·rw [lfound_succ hbi];exact Since.here y.1.2
  ·rw [lfound_succ hbi];exact RL.append y.1.1.1.2.2 (RL.cons y.2 RL.nil)
 ·rintro ⟨vl,tw,ys,k⟩ h4 t4 l N F4
  have F5:=SS.freeze F4
  have hlf:(lfound bs bs.length).2.length≤1000:=by rw [lfound_len _ (Nat.le_refl _)];exact hz
  refine retR F5 (EvR.addLists (R:=SR h.objs.size (LR NatR)) (EvR.mono (EvR.slice (EvV.toRP (.nm 2 H rfl) λh' y=>⟨fa,ys,k,rfl,y.2 (fa,lobj ys k) (List.mem_cons_self ..),y.1.2.2⟩) .none .none (.of .const) (by decide) (by trivial)) λ_ _=>LRk.toLR) (EvR.mono (EvR.slice (EvV.toRP (.nm 2 H rfl) λh' y=>⟨fa,ys,k,rfl,y.2 (fa,lobj ys k) (List.mem_cons_self ..),y.1.2.2⟩) (.of .const) .none (.of .const) (by decide) (by trivial)) λ_ _=>LRk.toLR) ?_) ?_
  ·have h1:=pickL_length_le (lfound bs bs.length).2 none none (some 2)
   have h2:=pickL_length_le (lfound bs bs.length).2 (some 1) none (some 2)
   lia
  ·intro v' h' t' F'
   exact hR v' h' t' (F'.growth rfl (Nat.le_refl _)) (LRk.since F'.phi.2)
end
end
section
theorem wpAny_newEnv0 {globals:Addr} {code:Value} {around:Option Env} {Q:Env→Shared→Prop}
  (hQ:Q (newEnv scope s.heap.objs.size globals (cellsFrom (s.heap.objs.size+1) scope.names closure) qual func code around builtins) { s with heap:=pushCells (s.heap.push { cls:=.type (if around.isSome then "dict" else "frame"),data:=.dict #[] }) scope.names }) :
  wpAny M A (newFunctionEnv scope globals closure [] qual func code around builtins) Q E s:=by
 unfold newFunctionEnv
 refine wpAny_bind (wpAny_alloc ?_)
 refine wpAny_bind (wpAny_layCells _ (λname kind cells=>by cases hkc:kind == NameKind.cell<;>simp [hkc]) _ _ _ _ ?_)
 rw [show ({ s with heap:=s.heap.push { cls:=.type (if around.isSome then "dict" else "frame"),data:=.dict #[] } }:Shared).heap.objs.size=s.heap.objs.size+1 from Heap.size_push ..]
 cases around with
 | none=>exact wpAny_pure hQ
 | some _=>exact wpAny_pure hQ
@[reducible] noncomputable def compCx1 (c:Cx) (scope:Scope) (x:Str) (cl:List (Str×Addr)) (h:Heap) (C:Addr):Cx:={ c with env:=compEnvC scope ((x,C+1)::cl) C c.env,h₀:=h,S:=[C+1],X:=[],L:=C }
theorem comp_loop1 {P:Nat→VH} {St:Nat→HP} {t₂:Nat}
  {use:Option (Value→Sem Unit)} {Q:VQ}
  (names:List Str) (Fy:Nat→VH)
  (H:c.Ok n) (W₂:W0 c.K c.mg c.mb h₂) (IT:Itr c.prog c.w c.A c.g c.d c.o it target fp wr m P St) (st:St 0 h₂) (hfp:∀b∈fp,b<h₂.objs.size) (hwr:∀b∈wr,278≤b) (hm:m≤sizeLine)
  (hcells:∀n,cellsFrom n scope.names cl=(x,n)::cl) (hpush:∀h,pushCells h scope.names=h.push (cobj none))
  (hsc:(decide (scope.kind = .function) && decide names.Nodup)=true)
  (helt:∀C i v h t lv cw,i<m→h₂.objs.size<C→P i v h→lv.map (·.1)=names→(∀b o,b∉wr→h₂.get? b=some o→h.get? b=some o)→C+1<h.objs.size→(compCx1 c scope x cl h C).Ok n→(compCx1 c scope x cl h C).SS lv [(C+1,cobj cw)] (Kept wr h₂) h →
   (compCx1 c scope x cl h C).wp (assign target (compEnvC scope ((x,C+1)::cl) C c.env) v) (λ_ s₂=>(compCx1 c scope x cl h C).wp (eval elt (compEnvC scope ((x,C+1)::cl) C c.env)) (λy s₃=>Ex4 λh₃ t₃ lv' cw'=>An4 (s₃=c.st h₃ t₃) (lv'.map (·.1)=names) ((compCx1 c scope x cl h C).SS lv' [(C+1,cobj cw')] (λ_=>True) h₃) (Since (C+2) h₃ (Fy i y))) NoE s₂) NoE (c.st h t))
  (hQ:∀D C ys h t k,h₂.objs.size≤D→D<C→ys.length=m→h.get? D=some (lobj ys k)→(∀j y,ys[j]?=some y→Since (C+2) h (Fy j y))→(∀b o,b∉wr→h₂.get? b=some o→h.get? b=some o)→h₂.objs.size≤h.objs.size→(∃mm,h.Ns C mm) →
   compPost (model c.prog c.w) c.A E use Q (.ref D) C (.ok .next) (c.st h t)) :
  c.wp (newList []) (λacc s₃=>c.wp (newFunctionEnv scope c.env.globals cl [] c.env.qual none .none (some c.env)) (λcenv s₄ =>
    codeAny (model c.prog c.w) c.A (.compStart (.ListComp elt [⟨target,iter,[],0⟩] scope pos) 0 it acc { cenv with scope:=relabel scope c.env }) (compPost (model c.prog c.w) c.A E use Q acc cenv.locals) s₄) E s₃) E (c.st h₂ t₂):=by
 simp only [Bool.and_eq_true,decide_eq_true_eq] at hsc
 obtain ⟨hk,hnd⟩:=hsc
 have hCE:compEnvC scope ((x,h₂.objs.size+1+1)::cl) (h₂.objs.size+1) c.env={ newEnv scope (h₂.objs.size+1) c.env.globals ((x,h₂.objs.size+1+1)::cl) c.env.qual none .none (some c.env) builtinsNs with scope:=relabel scope c.env }:=rfl
 unfold newList
 refine wpAny_newObj_type (wpAny_newEnv0 ?_) (by show (([]:List Value).toArray).size≤sizeLine;simp)
 have eC:(h₂.push (lobj [] 0)).objs.size=h₂.objs.size+1:=Heap.size_push ..
 have eD:({ cls:=.type "list",dict:=none,data:=.seq ([]:List Value).toArray }:Obj)=lobj [] 0:=rfl
 dsimp only
 rw [hpush,hcells]
 simp only [eD]
 rw [eC]
 rw [←hCE]
 obtain ⟨C,hCd⟩:∃C,C=h₂.objs.size+1:=⟨_,rfl⟩
 obtain ⟨h₄,hh4⟩:∃h₄,h₄=((h₂.push (lobj [] 0)).push { cls:=.type (if (some c.env).isSome then "dict" else "frame"),data:=.dict #[] }).push (cobj none):=⟨_,rfl⟩
 rw [←hh4,←hCd]
 have hns:h₄.Ns C λ_=>none:=by
  rw [hh4,hCd,←eC]
  exact (Heap.Ns.new (h₂.push (lobj [] 0)) (.type "dict")).keeps λb o e=>Heap.get?_push_of_some _ e
 have hcell4:h₄.get? (C+1)=some (cobj none):=by
  have e:((h₂.push (lobj [] 0)).push { cls:=.type (if (some c.env).isSome then "dict" else "frame"),data:=.dict #[] }).objs.size=C+1:=by rw [Heap.size_push,eC,hCd]
  rw [hh4,←e]
  exact Heap.get?_push_size _ rfl
 have k4:∀b o,(h₂.push (lobj [] 0)).get? b=some o→h₄.get? b=some o:=λb o e=>by
  rw [hh4];exact Heap.get?_push_of_some _ (Heap.get?_push_of_some _ e)
 have hz4:C+1<h₄.objs.size:=Heap.lt_size hcell4
 clear hCE eC hh4
 have hDC:h₂.objs.size<C:=by lia
 have hD4:h₄.get? h₂.objs.size=some (lobj [] 0):=k4 _ _ (Heap.get?_push_size _ rfl)
 have k24:∀b o,h₂.get? b=some o→h₄.get? b=some o:=λb o e=>k4 b o (Heap.get?_push_of_some _ e)
 have hn4:h₄.Ns C (lk (names.map λx=>(x,none))):=by
  have e:(λ_=>none)=lk (names.map λx=>(x,none)):=by
   funext x
   have:∀l:List Str,lk (l.map λx=>(x,(none:Option Value))) x=none:=by
    intro l;induction l with
    | nil=>rfl
    | cons y r ih=>simp only [List.map_cons,lk];by_cases hh:x=y<;>simp [hh,ih]
   rw [this]
  rw [←e];exact hns
 have loop:=comp_core (use:=use) (Q:=Q) (E:=E) (iter:=iter) (pos:=pos) (scope:=scope) (env:=compEnvC scope ((x,C+1)::cl) C c.env) true names Fy H W₂ IT hfp hwr hm hnd hDC (λh W=>⟨hk,rfl,H.globals,H.builtins,H.A,W,H.dom,f1 (.inl (Nat.le_trans W₂.size (Nat.le_of_lt (Nat.lt_succ_of_lt hDC)))),Nat.le_trans W₂.size (Nat.le_of_lt hDC)⟩)
  (λi v h t lv cw hlt hP hlv hk' hz ok F=>helt C i v h t lv cw hlt hDC hP hlv hk' hz ok F) (λys h t k=>hQ h₂.objs.size C ys h t k (Nat.le_refl _) hDC)
 refine codeAny_compStart_list ?_ ?_
 ·exact loop h₄ _ (IT.frame _ _ _ st λb _ o e=>k24 b o e) hn4 hD4 (λb o _ e=>k24 b o e) hz4 (f1 hcell4)
 ·refine ex (wpAny_mono (IT.self h₄ _ (λs=>∃t,s=c.st h₄ t) (IT.frame _ _ _ st λb _ o e=>k24 b o e) ⟨_,rfl⟩) ?_ λ_ _ y=>y)
  rintro it' s' ⟨rfl,t',rfl⟩
  exact loop h₄ t' (IT.frame _ _ _ st λb _ o e=>k24 b o e) hn4 hD4 (λb o _ e=>k24 b o e) hz4 (f1 hcell4)
end
section
theorem cellSet_at {c:Addr} {v:Option Value} {Q:Unit→Shared→Prop} (hc:s.heap.get? c=some (cobj v₀))
  (h:∀h',h'.get? c=some (cobj v)→Heap.SameBut c s.heap h'→Q () { s with heap:=h' }):wpAny M A (cellSet c v) Q E s:=by
 unfold cellSet
 refine wpAny_bind (wpAny_load hc ?_)
 exact wpAny_update hc (h _ (Heap.get?_update_self _ hc rfl) (Heap.SameBut.update ..))
section
theorem stc {Q:Unit→Shared→Prop} (H:c.Ok n) (F:c.SS l N Φ h) (hi:N[i]?=some (a,cobj v₀))
  (hc:c.env.cells.lookup x=some a) (hQ:∀h',c.SS l (N.set i (a,cobj (some v))) Φ h'→Q () (c.st h' t)) (hl:Cel c.env x):c.wp (storeName c.env x v) Q E (c.st h t):=by
 unfold storeName
 simp only [hl,H.kind]
 exact wpAny_bind (wpAny_cellOf hc (cellSet_at (F.new hi) λh' e hs=>hQ h' (F.upd hi hs e)))
theorem EvV.cell (H:c.Ok n) (hl:Cel c.env x) (hc:c.env.cells.lookup x=some a)
  (hv:∀h,c.SS l N Φ h→h.get? a=some (cobj (some v))) (hd:ND x:=by decide):EvV c l N Φ (.Name x pos) v :=
 λΦ' k h t _ _ F hQ=>wpAny_Name (wpAny_loadName_cell H.kind hl hc ⟨_,hv h (F.weaken k),rfl⟩ (hQ h t F)) hd
theorem EvV.cellN (i:Nat) (H:c.Ok n) (hi:N[i]?=some (a,cobj (some v)):=by rfl) (hl:Cel c.env x:=by rfl) (hc:c.env.cells.lookup x=some a:=by rfl)
  (hd:ND x:=by decide):EvV c l N Φ (.Name x pos) v:=EvV.cell H hl hc (λ_ F=>F.new hi) hd
theorem EvV.free (H:c.Ok n) (hl:c.env.kindOf x=some .free) (hc:c.env.cells.lookup x=some a)
  (hv:∀h,c.SS l N Φ h→h.get? a=some (cobj (some v))) (hd:ND x:=by decide) (hn:(x == ("__classdict__":Str))=false:=by decide):EvV c l N Φ (.Name x pos) v :=
 λΦ' k h t _ _ F hQ=>wpAny_Name (wpAny_loadName_free H.kind hl hc ⟨_,hv h (F.weaken k),rfl⟩ (hQ h t F) hn) hd
theorem EvV.toI {v:Int} (x:EvV c l N Φ e (.int v u)):EvI c l N Φ e v:=λΦ' k h t Q E F hQ=>x Φ' k h t Q E F λh' t' F'=>hQ u h' t' F'
theorem EvV.toN {v:Nat} (x:EvV c l N Φ e (.int (v:Int) u)):EvN c l N Φ e v:=EvV.toI x
variable {P:Nat→List Value→HP}
theorem listComp1 {Fy:Nat→VH} (H:c.Ok n) (hclos:closureFor scope c.env=pure cl)
  (hcells:∀n,cellsFrom n scope.names cl=(x,n)::cl) (hpush:∀h,pushCells h scope.names=h.push (cobj none))
  (hsc:(decide (scope.kind = .function) && (scope.names.all λx=>decide (x.2 = .local→scope.names.lookup x.1=some .local)))=true)
  (hcx:∀env,(compEnvC scope ((x,0)::cl) 0 env).kindOf x=some .cell)
  (hm:m≤sizeLine) (hit:EvIt c l N Φ iter (.Name x px) [x] m P)
  (helt:∀C h₀ v i Ψ,i<m→(∀h,Ψ h→P i [v] h)→(∀h,Ψ h→Vw c l N Φ h)→(compCx1 c scope x cl h₀ C).Ok n→EvF (compCx1 c scope x cl h₀ C) [] [(C+1,cobj (some v))] Ψ elt (Fy i))
  (hs:∀x,foldedSetIterable iter c.env x=pure x:=by intro _;rfl):EvF c l N Φ (.ListComp elt [⟨.Name x px,iter,[],0⟩] scope pos) (LI m Fy):=by
 intro Φ' kΦ h t Q E F hQ
 simp only [Bool.and_eq_true] at hsc
 obtain ⟨hkind,hnames⟩:=hsc
 have hsc':(decide (scope.kind = .function) && decide ([]:List Str).Nodup)=true:=by rw [hkind];rfl
 simp only [List.all_eq_true,decide_eq_true_eq] at hnames hkind
 rw [eval_ListComp]
 refine ex (wpAny_comprehension_free rfl hs hclos hkind hnames (wpAny_mono (hit Φ' kΦ h t (λit s₂=>Ex2 λh₂ t₂=>An3 (s₂=c.st h₂ t₂) (ItrAt c l N Φ' it (.Name x px) [x] m P h₂) (h.objs.size≤h₂.objs.size)) F λit h₂ t₂ hi hz=>⟨h₂,t₂,rfl,hi,hz⟩)
  (λxv s₁ h₁=>wpAny_mono h₁ (λit s₂ h₂=>?_) λ_ _ y=>y) λ_ _ y=>y))
 obtain ⟨h₂,t₂,rfl,⟨fp,wr,St,P₀,IT,st,hfp,hwr,F₂,conv⟩,hz0⟩:=h₂
 refine comp_loop1 [] Fy H (H.W1 (F₂.but hwr (λ_ _ _ e=>e) (Nat.le_refl _))) IT st (λb hb=>(hfp b hb).1) (λb hb=>Nat.le_trans H.W.size (hwr b hb).1) hm hcells hpush hsc' ?_ ?_
 ·intro C i v h t lv cw hlt hDC hP hlv hk hCz ok F'
  obtain ⟨vs,hvl,asg,hsem⟩:=conv i v h hP
  obtain rfl:=asg.1 x px rfl
  obtain rfl:lv=[]:=by simpa using hlv
  refine wpAny_assign_Name (stc (c:=compCx1 c scope x cl h C) ok F' (i:=0) rfl (by show List.lookup x ((x,C+1)::cl)=_;simp [List.lookup]) (λh3 F3=>?_) (hcx c.env))
  refine helt C h v i (Kept wr h₂) hlt (λh' q=>hsem h' λb o _ b2 _ e=>q b o (λr=>b2 (List.mem_append_left _ r)) e) (λh' q=>let v:=SS.vw F₂ hwr q;⟨v.1,v.2,kΦ _ v.3,v.4⟩) ok (Kept wr h₂) (λ_ x=>x) h3 t _ _ F3 λy h4 t4 F4 hz4 p=>?_
  exact ⟨h4,t4,_,_,rfl,rfl,F4.weaken λ_ _=>trivial,p.le (Heap.lt_size (F3.news _ (List.mem_singleton.mpr rfl)).1)⟩
 intro D C ys h' t' k h1 h2 hlen hD hF hk hz hn
 exact comp_end F₂ hwr hz0 hQ (Nat.lt_succ_of_lt (Nat.lt_succ_self C)) h1 h2 hlen hD hF hk hz hn
theorem listCompR1 {α:Type} {R:α→VH} (zs:List α) (H:c.Ok n) (hclos:closureFor scope c.env=pure cl)
  (hcells:∀n,cellsFrom n scope.names cl=(x,n)::cl) (hpush:∀h,pushCells h scope.names=h.push (cobj none))
  (hsc:(decide (scope.kind = .function) && (scope.names.all λx=>decide (x.2 = .local→scope.names.lookup x.1=some .local)))=true)
  (hcx:∀env,(compEnvC scope ((x,0)::cl) 0 env).kindOf x=some .cell)
  (hit:EvIt c l N Φ iter (.Name x px) [x] m P) (hm:m=zs.length) (hsz:zs.length≤1000000)
  (helt:∀C h₀ v i Ψ z,zs[i]?=some z→(∀h,Ψ h→P i [v] h)→(∀h,Ψ h→Vw c l N Φ h)→(compCx1 c scope x cl h₀ C).Ok n→(∃h,Ψ h)→EvF (compCx1 c scope x cl h₀ C) [] [(C+1,cobj (some v))] Ψ elt (R z))
  (hs:∀x,foldedSetIterable iter c.env x=pure x:=by intro _;rfl):EvF c l N Φ (.ListComp elt [⟨.Name x px,iter,[],0⟩] scope pos) (LR R zs):=by
 refine (listComp1 (Fy:=λi y h=>∃x,zs[i]?=some x∧R x y h) H hclos hcells hpush hsc hcx (by rw [hm];exact Nat.le_trans hsz (by decide)) hit ?_ hs).mono λv h x=>x.toLR hm
 intro C h₀ v i Ψ hi hP hV ok
 have hz:zs[i]?=some (zs[i]'(by lia)):=List.getElem?_eq_getElem _
 exact EvF.of_phi λhψ=>(helt C h₀ v i Ψ _ hz hP hV ok hψ).mono λv h r=>⟨_,hz,r⟩
end
end
section
noncomputable def cellsAt:Nat→List Str→LN
 | _,[]=>[]
 | n,_::r=>(n,cobj none)::cellsAt (n+1) r
theorem cellsAt_low:∀(cs:List Str) (n:Nat) (p:Addr×Obj),p∈cellsAt n cs→n≤p.1
 | [],_,_,h=>by simp [cellsAt] at h
 | _::r,n,p,h=>by
  rcases List.mem_cons.mp h with rfl | h
  ·exact Nat.le_refl _
  ·exact Nat.le_of_succ_le (cellsAt_low r (n+1) p h)
theorem cellsAt_nodup:∀(cs:List Str) (n:Nat),((cellsAt n cs).map (·.1)).Nodup
 | [],_=>List.nodup_nil
 | _::r,n=>by
  simp only [cellsAt,List.map_cons]
  refine List.nodup_cons.mpr ⟨λhm=>?_,cellsAt_nodup r (n+1)⟩
  obtain ⟨p,hp,e⟩:=List.mem_map.mp hm
  have:=cellsAt_low r (n+1) p hp
  have:@LE.le Nat _ (n+1) p.1:=this
  lia
theorem pushCells_size:∀(names:List (Str×NameKind)) (h:Heap),h.objs.size≤(pushCells h names).objs.size
 | [],_=>Nat.le_refl _
 | (_,kind)::r,h=>by
  unfold pushCells
  split
  ·exact Nat.le_trans (Nat.le_of_lt (lt_push _ _)) (pushCells_size r _)
  ·exact pushCells_size r h
theorem pushCells_at:∀(names:List (Str×NameKind)) (h:Heap) (p:Addr×Obj),p∈cellsAt h.objs.size ((names.filter λx=>x.2 == .cell).map (·.1))→(pushCells h names).get? p.1=some p.2
 | [],_,_,h=>by simp [cellsAt] at h
 | (x,kind)::r,h,p,hp=>by
  unfold pushCells
  by_cases hk:(kind == NameKind.cell)=true
  ·rw [if_pos hk]
   simp only [List.filter_cons,hk,if_true,List.map_cons,cellsAt] at hp
   rcases List.mem_cons.mp hp with rfl | hp
   ·exact pushCells_keeps r _ _ _ (Heap.get?_push_size _ rfl)
   ·refine pushCells_at r _ p ?_
    rw [Heap.size_push];exact hp
  ·rw [if_neg hk]
   have hk':(kind == NameKind.cell)=false:=by simpa using hk
   simp only [List.filter_cons,hk',Bool.false_eq_true,if_false] at hp
   exact pushCells_at r h p hp
theorem lk_nones (ls:List Str):(λ_=>none)=lk (ls.map λx=>(x,(none:Option Value))):=by
 funext x
 induction ls with
 | nil=>rfl
 | cons y r ih=>simp only [List.map_cons,lk];by_cases hh:x=y<;>simp [hh,←ih]
@[reducible] noncomputable def frameCxC (prog:Program) (w:World) (A:Around) (g:Array GenState) (d:Drawn) (o:OsState) (h:Heap) (S:List Addr) (K:Frag) (mg mb:Str→Option Value) (name:Str) (scope:Scope) (f:Addr) (cd:Value):Cx where
 prog:=prog
 w:=w
 A:=A.deeper { PyProof.Rows.envOf name scope h.objs.size f cd with cells:=cellsFrom (h.objs.size+1) scope.names [] }
 env:={ PyProof.Rows.envOf name scope h.objs.size f cd with cells:=cellsFrom (h.objs.size+1) scope.names [] }
 g:=g
 d:=d
 o:=o
 h₀:=h
 S:=S
 X:=[]
 L:=h.objs.size
 K:=K
 mg:=mg
 mb:=mb
noncomputable def bindF (env:Env) (p:Str×Value) (_:PUnit):Sem (ForInStep PUnit):=do
 storeName env p.1 p.2
 pure (.yield ⟨⟩)
@[reducible] noncomputable def Cx.at (c:Cx) (A:Around):Cx:={ c with A:=A }
section
variable {Q:PUnit→Shared→Prop} {r:List (Str×Value)}
theorem bindsNil (hq:Q ⟨⟩ (c.st h t)):(c.at A).wp (forIn ([]:List (Str×Value)) PUnit.unit (bindF c.env)) Q E (c.st h t):=by
 rw [List.forIn_nil];exact wpAny_pure hq
theorem bindsL {w:Option Value} (i:Nat) (H:(c.at A).Ok n) (F:c.SS l N Φ h) (hQ:∀h' t',let l':=l.set i (x,some v);c.SS l' N Φ h'→(c.at A).wp (forIn r PUnit.unit (bindF c.env)) Q E (c.st h' t'))
  (hi:l[i]?=some (x,w):=by rfl) (hl:Loc c.env x:=by rfl):(c.at A).wp (forIn ((x,v)::r) PUnit.unit (bindF c.env)) Q E (c.st h t):=by
 rw [List.forIn_cons]
 exact wpAny_bind (wpAny_bind (stn (c:=c.at A) H F hi (λh' F'=>wpAny_pure (hQ h' _ F')) hl))
theorem bindsC {w:Option Value} (i:Nat) (H:(c.at A).Ok n) (F:c.SS l N Φ h) (hQ:∀h' t',let N':=N.set i (a,cobj (some v));c.SS l N' Φ h'→(c.at A).wp (forIn r PUnit.unit (bindF c.env)) Q E (c.st h' t'))
  (hi:N[i]?=some (a,cobj w):=by rfl) (hc:c.env.cells.lookup x=some a:=by rfl) (hl:Cel c.env x:=by rfl):(c.at A).wp (forIn ((x,v)::r) PUnit.unit (bindF c.env)) Q E (c.st h t):=by
 rw [List.forIn_cons]
 exact wpAny_bind (wpAny_bind (stc (c:=c.at A) H F hi hc (λh' F'=>wpAny_pure (hQ h' _ F')) hl))
end
structure FnM (K:Frag) (f:Addr) (name qual:Str) (params:Arguments) (body:List Stmt) (scope:Scope) (dflt cd:Value):Prop where
 fn:Ex5 λoc od os pm doc=>K.lookup f=some ⟨oc,od,.func (mDef name qual params body scope dflt pm cd doc),os⟩
 code:codeIn K cd qual=true
theorem enterX
  {name:Str} {args:Args} (Bd:HP) (EE:Heap→VQ)
  (ls cs:List Str) (S:List Addr) (N:LN)
  (hf:FnM K f name qual params body scope dflt cd) (hA:AOk (n+1) A) (W:W0 K mg mb h) (D:KDom K)
  (hbind:∀pm doc (Q:List (Str×Value)→Shared→Prop),(∀h2 t2,Grow h h2→Bd h2→Q binds ⟨h2,g,d,t2,o⟩)→wpAny (model prog w) A.in1 (bindArgs (mDef name qual params body scope dflt pm cd doc) args) Q NoE ⟨h,g,d,t,o⟩)
  (hcs:(scope.names.filter λx=>x.2 == .cell).map (·.1)=cs) (hnd:decide ls.Nodup=true)
  (hS:∀b∈S,278≤b∨b∈tabs) (hN:∀p∈N,h.get? p.1=some p.2∧p.1∈S) (hNd:(N.map (·.1)).Nodup)
  (hsc:(decide (scope.kind = .function) && !scope.isCoroutine && !scope.isGenerator)=true)
  (H:∀h2,Bd h2→∀h₁ t₁,Grow h h2→let c:=frameCxC prog w A g d o h2 S K mg mb qual scope f cd;let l:LS:=ls.map λx=>(x,none);let NN:=cellsAt (h2.objs.size+1) cs++N;let QQ:Flow→Shared→Prop:=λfl s'=>R (.ok (.ret (match fl with | .ret v=>v | _=>.none))) s';
   let QB:PUnit→Shared→Prop:=λ_ s'=>Ex4 λh' t' l' N'=>An3 (s'=c.st h' t') (c.SS l' N' (λ_=>True) h') (c.wp (execs body c.env) QQ (EE h2) s');c.Ok n→(c.at A.in1).Ok n→c.SS l NN (λ_=>True) h₁→(c.at A.in1).wp (forIn binds PUnit.unit (bindF c.env)) QB NoE ⟨h₁,g,d,t₁,o⟩)
  (hE:∀h2 e s',EE h2 e s'→wpAny (model prog w) (A.deeper (frameCxC prog w A g d o h2 S K mg mb qual scope f cd).env) (leaving (frameCxC prog w A g d o h2 S K mg mb qual scope f cd).env e) (λ_ s''=>R (.error e) s'') (λe s''=>R (.error e) s'') s') :
  codeAny (model prog w) A (.call (.ref f) args) R ⟨h,g,d,t,o⟩:=by
 simp only [Bool.and_eq_true,decide_eq_true_eq,Bool.not_eq_true'] at hsc
 obtain ⟨⟨hk,hco⟩,hgen⟩:=hsc
 obtain ⟨oc,od,os,pm,doc,hl⟩:=hf.fn
 have ho:=W.k _ _ hl
 refine codeAny_call_function hA.room ho rfl hco hgen rfl (codeRec_of W.k hf.code) (ex (hbind pm doc _ λh2 t2 G B=>?_))
 have W2:W0 K mg mb h2:=W.keeps (S:=[]) D (by trivial) (λb o _ e=>G.2 b o e) G.1
 have hA':AOk n A.in1:=hA.in1
 have ok1:(frameCxC prog w A g d o h2 S K mg mb qual scope f cd).Ok n:=⟨hk,rfl,rfl,rfl,hA.deeper _,W2,D,hS,W2.size⟩
 have ok2:((frameCxC prog w A g d o h2 S K mg mb qual scope f cd).at A.in1).Ok n:=⟨hk,rfl,rfl,rfl,hA',W2,D,hS,W2.size⟩
 have szF:(h2.push { cls:=.type "frame",data:=.dict #[] }).objs.size=h2.objs.size+1:=Heap.size_push ..
 have keep:∀b o,h2.get? b=some o→(pushCells (h2.push { cls:=.type "frame",data:=.dict #[] }) scope.names).get? b=some o:=λb o e=>pushCells_keeps _ _ b o (Heap.get?_push_of_some _ e)
 have F0:(frameCxC prog w A g d o h2 S K mg mb qual scope f cd).SS (ls.map λx=>(x,none)) (cellsAt (h2.objs.size+1) cs++N) (λ_=>True) (pushCells (h2.push { cls:=.type "frame",data:=.dict #[] }) scope.names):=by
  refine ⟨?_,by simpa [Function.comp_def] using of_decide_eq_true hnd,λb o _ _ e=>keep b o e,λp hp=>?_,?_,Nat.le_trans (Nat.le_of_lt (lt_push _ _)) (pushCells_size _ _),(λ_ hb=>nomatch hb),λ_ _=>trivial⟩
  ·rw [←lk_nones ls]
   exact (Heap.Ns.new h2 (.type "frame")).keeps (pushCells_keeps _ _)
  ·rcases List.mem_append.mp hp with q | q
   ·have e:=pushCells_at scope.names (h2.push { cls:=.type "frame",data:=.dict #[] }) p (by rw [szF,hcs];exact q)
    have lo:=cellsAt_low _ _ _ q
    exact ⟨e,Nat.ne_of_gt lo,.inl (Nat.le_of_lt lo)⟩
   ·have e2:=G.2 _ _ (hN p q).1
    exact ⟨keep _ _ e2,Nat.ne_of_lt (Heap.lt_size e2),.inr (hN p q).2⟩
  ·rw [List.map_append,List.nodup_append]
   refine ⟨cellsAt_nodup _ _,hNd,λa ha b hb e=>?_⟩
   obtain ⟨p,hp,rfl⟩:=List.mem_map.mp ha
   obtain ⟨q,hq,rfl⟩:=List.mem_map.mp hb
   have h1:@LE.le Nat _ (h2.objs.size+1) p.1:=cellsAt_low _ _ _ hp
   have h2':@LT.lt Nat _ q.1 h2.objs.size:=Heap.lt_size (G.2 _ _ (hN q hq).1)
   have e':@Eq Nat p.1 q.1:=e
   lia
 have HH:=H h2 B _ t2 G ok1 ok2 F0
 show wpAny (model prog w) A.in1 (newFunctionEnv scope mainGlobals [] binds (qual++".<locals>.") (some f) cd none builtinsNs) _ _ _
 unfold newFunctionEnv
 simp only [Option.isSome_none,Bool.false_eq_true,if_false]
 refine wpAny_bind (wpAny_alloc ?_)
 refine wpAny_bind (wpAny_layCells _ (λname kind cells=>by cases hkc:kind == NameKind.cell<;>simp [hkc]) _ _ _ _ ?_)
 dsimp only
 rw [szF]
 refine wpAny_bind (wpAny_mono (ex HH) (λ_ s' hs=>wpAny_pure ?_) λ_ _ y=>y)
 obtain ⟨h',t',l',N',rfl,F',B'⟩:=hs
 have lim:=(ok1.W1 F').lim
 refine ⟨lim,codeAny_func ?_⟩
 exact wpAny_mono B' (λ_ _ x=>x) λe s' x=>hE _ e s' x
theorem enterM
  {name:Str} {args:Args} (Bd:HP) (EE:VQ)
  (ls cs:List Str) (S:List Addr) (N:LN)
  (hf:FnM K f name qual params body scope dflt cd) (hA:AOk (n+1) A) (W:W0 K mg mb h) (D:KDom K)
  (hbind:∀pm doc (Q:List (Str×Value)→Shared→Prop),(∀h2 t2,Grow h h2→Bd h2→Q binds ⟨h2,g,d,t2,o⟩)→wpAny (model prog w) A.in1 (bindArgs (mDef name qual params body scope dflt pm cd doc) args) Q NoE ⟨h,g,d,t,o⟩)
  (hcs:(scope.names.filter λx=>x.2 == .cell).map (·.1)=cs) (hnd:decide ls.Nodup=true)
  (hS:∀b∈S,278≤b∨b∈tabs) (hN:∀p∈N,h.get? p.1=some p.2∧p.1∈S) (hNd:(N.map (·.1)).Nodup)
  (hsc:(decide (scope.kind = .function) && !scope.isCoroutine && !scope.isGenerator)=true)
  (H:∀h2,Bd h2→∀h₁ t₁,Grow h h2→let c:=frameCxC prog w A g d o h2 S K mg mb qual scope f cd;let l:LS:=ls.map λx=>(x,none);let NN:=cellsAt (h2.objs.size+1) cs++N;let QQ:Flow→Shared→Prop:=λfl s'=>R (.ok (.ret (match fl with | .ret v=>v | _=>.none))) s';
   let QB:PUnit→Shared→Prop:=λ_ s'=>Ex4 λh' t' l' N'=>An3 (s'=c.st h' t') (c.SS l' N' (λ_=>True) h') (c.wp (execs body c.env) QQ (EE) s');c.Ok n→(c.at A.in1).Ok n→c.SS l NN (λ_=>True) h₁→(c.at A.in1).wp (forIn binds PUnit.unit (bindF c.env)) QB NoE ⟨h₁,g,d,t₁,o⟩)
  (hE:∀(env:Env) e s',EE e s'→wpAny (model prog w) (A.deeper env) (leaving env e) (λ_ s''=>R (.error e) s'') (λe s''=>R (.error e) s'') s') :
  codeAny (model prog w) A (.call (.ref f) args) R ⟨h,g,d,t,o⟩ :=
 enterX Bd (λ_=>EE) ls cs S N hf hA W D hbind hcs hnd hS hN hNd hsc H λ_ e s' q=>hE _ e s' q
theorem noLeave:∀(env:Env) e s',NoE e s'→wpAny (model prog w) (A.deeper env) (leaving env e) (λ_ s''=>R (.error e) s'') (λe s''=>R (.error e) s'') s':=λ_ _ _ h=>h.elim
theorem bindPure {args:Args} (hb:bindArgs fd args=pure binds) {Q:List (Str×Value)→Shared→Prop}
  (hQ:∀h2 t2,Grow h h2→h=h2→Q binds ⟨h2,g,d,t2,o⟩):wpAny (model prog w) A (bindArgs fd args) Q NoE ⟨h,g,d,t,o⟩:=by
 rw [hb];exact wpAny_pure (hQ h t (Grow.refl h) rfl)
theorem enterM0
  {name:Str} {args:Args}
  (ls cs:List Str) (S:List Addr) (N:LN)
  (hf:FnM K f name qual params body scope dflt cd) (hA:AOk (n+1) A) (W:W0 K mg mb h) (D:KDom K)
  (hbind:∀pm doc,bindArgs (mDef name qual params body scope dflt pm cd doc) args=pure binds)
  (hcs:(scope.names.filter λx=>x.2 == .cell).map (·.1)=cs) (hnd:decide ls.Nodup=true)
  (hS:∀b∈S,278≤b∨b∈tabs) (hN:∀p∈N,h.get? p.1=some p.2∧p.1∈S) (hNd:(N.map (·.1)).Nodup)
  (hsc:(decide (scope.kind = .function) && !scope.isCoroutine && !scope.isGenerator)=true)
  (H:∀h₁ t₁,let c:=frameCxC prog w A g d o h S K mg mb qual scope f cd;let l:LS:=ls.map λx=>(x,none);let NN:=cellsAt (h.objs.size+1) cs++N;let QQ:Flow→Shared→Prop:=λfl s'=>R (.ok (.ret (match fl with | .ret v=>v | _=>.none))) s';
   let QB:PUnit→Shared→Prop:=λ_ s'=>Ex4 λh' t' l' N'=>An3 (s'=c.st h' t') (c.SS l' N' (λ_=>True) h') (c.wp (execs body c.env) QQ NoE s');c.Ok n→(c.at A.in1).Ok n→c.SS l NN (λ_=>True) h₁→(c.at A.in1).wp (forIn binds PUnit.unit (bindF c.env)) QB NoE ⟨h₁,g,d,t₁,o⟩) :
  codeAny (model prog w) A (.call (.ref f) args) R ⟨h,g,d,t,o⟩ :=
 enterM (h:=h) (λh2=>h=h2) NoE ls cs S N hf hA W D (λpm doc Q hQ=>bindPure (hbind pm doc) hQ) hcs hnd hS hN hNd hsc (λh2 e h₁ t₁ _=>by subst e;exact H h₁ t₁) noLeave
theorem enterC
  {name:Str} {args:List Value}
  (ls cs:List Str) (S:List Addr) (N:LN)
  (hf:FnK K f name params body scope cd) (hA:AOk (n+1) A) (W:W0 K mg mb h) (D:KDom K)
  (hbind:∀pm doc,bindArgs (docDef name params body scope pm cd doc) ⟨args,kw⟩=pure binds)
  (hcs:(scope.names.filter λx=>x.2 == .cell).map (·.1)=cs) (hnd:decide ls.Nodup=true)
  (hS:∀b∈S,278≤b∨b∈tabs) (hN:∀p∈N,h.get? p.1=some p.2∧p.1∈S) (hNd:(N.map (·.1)).Nodup)
  (hsc:(decide (scope.kind = .function) && !scope.isCoroutine && !scope.isGenerator)=true)
  (H:∀h₁ t₁,let c:=frameCxC prog w A g d o h S K mg mb name scope f cd;let l:LS:=ls.map λx=>(x,none);let NN:=cellsAt (h.objs.size+1) cs++N;let QQ:Flow→Shared→Prop:=λfl s'=>R (.ok (.ret (match fl with | .ret v=>v | _=>.none))) s';
   let QB:PUnit→Shared→Prop:=λ_ s'=>Ex4 λh' t' l' N'=>An3 (s'=c.st h' t') (c.SS l' N' (λ_=>True) h') (c.wp (execs body c.env) QQ (NoE) s');c.Ok n→(c.at A.in1).Ok n→c.SS l NN (λ_=>True) h₁→(c.at A.in1).wp (forIn binds PUnit.unit (bindF c.env)) QB NoE ⟨h₁,g,d,t₁,o⟩) :
  codeAny (model prog w) A (.call (.ref f) ⟨args,kw⟩) R ⟨h,g,d,t,o⟩ :=
 enterM0 ls cs S N (dflt:=.none) ⟨hf.fn,hf.code⟩ hA W D hbind hcs hnd hS hN hNd hsc H
end
section
namespace Jn
open Builtin Builtin.Bytes
theorem slot:Slot "bytes" "join" "bytes.join" :=
 .of (owner:="bytes") (n:="join") (by rw [typeLookup_type,builtinLookup_eq_fast];kernel_rfl) (by decide +kernel) (by decide +kernel) (by decide +kernel)
  (by first | exact .inl (by decide +kernel) | exact .inr (by decide +kernel)) (by rw [isSubtype_type];kernel_rfl)
theorem type_eq:typeOf (.builtin "bytes.join")=pure (.type "method_descriptor"):=by show builtinType _=_;rw [builtinType_eq_fast];kernel_rfl
theorem entry:entryFor table "bytes.join"=some Builtin.«bytes.join»:=entryFor_of_fast (by kernel_rfl)
theorem args (a b:Value):argsOk "bytes.join" ⟨[a,b],[]⟩:=by unfold argsOk;kernel_rfl
section
theorem take_eq (b:Array UInt8) (t:Tok):takeBufferQuiet? "bytes.join" (.bytes b t) 0=pure (some (b,none)):=by kernel_rfl
theorem id_eq:(toString Kind.bytes.name++toString ".join")="bytes.join":=by decide +kernel
theorem seqItems_at {Q:Option (Array Value)→Shared→Prop} (ha:s.heap.get? a=some (lobj ys k)) (h:Q (some ys.toArray) s):wpAny M A (seqItems? (.ref a)) Q E s:=by
 unfold seqItems?
 exact wpAny_bind (wpAny_load ha (wpAny_pure h))
theorem joined_eq:∀(ps:List (Array UInt8)) (out:Array UInt8) (n:Nat),(ps.zipIdx n).foldl (λout (x:Array UInt8×Nat)=>(if x.2>0 then out++#[] else out)++x.1) out=out++(ps.map Array.toList).flatten.toArray
 | [],out,n=>by trivial
 | p::ps,out,n=>by
  rw [List.zipIdx_cons,List.foldl_cons,joined_eq ps]
  have:(if n>0 then out++#[] else out)=out:=by split<;>simp
  simp only [this,List.map_cons,List.flatten_cons]
  apply Array.ext'
  simp
theorem letGo_none:∀(taken:List (Value×Option Value)) (keep:List Value) (Q:Unit→Shared→Prop),(∀p∈taken,p.2=none)→Q () s→wpAny M A (joinLetGo taken keep) Q E s
 | [],_,_,_,h=>wpAny_pure h
 | (x,w)::rest,keep,Q,hn,h=>by
  have hw:w=none:=hn (x,w) (List.mem_cons_self ..)
  subst hw
  unfold joinLetGo
  refine wpAny_bind (m:=letGo [x] _) ?_
  unfold letGo
  refine wpAny_bind (wpAny_holding (wpAny_point ?_))
  unfold letGo
  exact wpAny_pure (letGo_none rest keep Q (λp hp=>hn p (List.mem_cons_of_mem _ hp)) h)
theorem foldl_size:∀(ps:List (Array UInt8)) (n:Nat),ps.foldl (λ(x1:Nat) (x2:Array UInt8)=>x1+x2.size) n=n+(ps.map Array.toList).flatten.length
 | [],n=>by trivial
 | p::ps,n=>by
  rw [List.foldl_cons,foldl_size ps]
  simp;lia
theorem join_runG {P:PySem.Fin→Shared→Prop} {bs:List (List UInt8)} {t:Tok} (R:Shared→Prop)
  (hj:∀(Q':VQ),(∀(s':Shared) (a:Addr) (ys:List Value) (k:Nat),s'.heap.get? a=some (lobj ys k)→(ys.length=bs.length∧∀(i:Nat) y,ys[i]?=some y→Ex2 λb t=>bs[i]?=some b∧y = .bytes b.toArray t)→R s'→Q' (.ref a) s')→wpAny M A (joinItems v) Q' E s)
  (hz:bs.flatten.length≤100000) (hne:0<bs.length)
  (h:∀s' t' k',R s'→P (.done (.ret (.bytes bs.flatten.toArray t'))) { s' with toks:=k' }):wpAny M A (Builtin.«bytes.join» ⟨[.bytes #[] t,v],[]⟩) P E s:=by
 show wpAny M A (joinM .bytes ⟨[.bytes #[] t,v],[]⟩) P E s
 unfold joinM
 refine wpAny_bind (wpAny_of_eq (a:=(.bytes #[] t,v)) rfl ?_)
 dsimp only
 refine wpAny_bind (hj _ λs' a ys k ha hy hR'=>?_)
 refine wpAny_bind (seqItems_at ha ?_)
 dsimp only
 rw [if_pos (by decide)]
 have go:∀ys':List Value,ys'=ys→∀(Q:Array (Array UInt8)×List (Value×Option Value)→Shared→Prop) (f:Nat→(Array (Array UInt8)×List (Value×Option Value))→Sem (ForInStep (Array (Array UInt8)×List (Value×Option Value)))),
   (∀i (st:Array (Array UInt8)×List (Value×Option Value)) (b:List UInt8) (t:Tok) (R:ForInStep (Array (Array UInt8)×List (Value×Option Value))→Shared→Prop),(∀p∈st.2,p.1.onHeap=false∧p.2=none)→ys[i]?=some (.bytes b.toArray t) →
    R (.yield (st.1.push b.toArray,st.2++[(.bytes b.toArray t,none)])) s'→wpAny M A (f i st) R E s') →
   (∀taken,(∀p∈taken,p.1.onHeap=false∧p.2=none)→Q ((bs.map List.toArray).toArray,taken) s')→wpAny M A (forIn [:ys'.toArray.size] (#[],[]) f) Q E s':=by
  intro ys' hys Q f hf hQ
  subst hys
  rw [Std.Legacy.Range.forIn_eq_forIn_range']
  have hsize:([:ys'.toArray.size]:Std.Legacy.Range).size=ys'.length:=by simp [Std.Legacy.Range.size]
  rw [hsize]
  refine wpAny_forIn_list f (λrest st s1=>s1=s'∧∃i,An4 (i≤ys'.length) (rest=List.range' i (ys'.length - i)) (st.1=((bs.take i).map List.toArray).toArray) (∀p∈st.2,p.1.onHeap=false∧p.2=none)) Q ?_ ?_ _ _ ⟨rfl,0,Nat.zero_le _,by trivial,by trivial,by trivial⟩
  ·rintro x rest st s1 ⟨rfl,i,hi,hr,h1,h2⟩
   have hlt:i<ys'.length:=by
    rcases Nat.lt_or_ge i ys'.length with h | h
    ·exact h
    ·rw [show ys'.length - i=0 by lia] at hr;simp at hr
   rw [show ys'.length - i=(ys'.length - (i+1))+1 by lia,List.range'_succ] at hr
   injection hr with hx hr
   subst hx
   obtain ⟨b,t1,e1,e2⟩:=hy.2 x ys'[x] (List.getElem?_eq_getElem hlt)
   refine hf x st b t1 _ h2 (by rw [List.getElem?_eq_getElem hlt,e2]) ⟨rfl,x+1,hlt,hr,?_,?_⟩
   ·rw [List.take_succ,e1,h1];simp
   ·intro p hp
    rcases List.mem_append.mp hp with hp | hp
    ·exact h2 p hp
    ·rw [List.mem_singleton.mp hp];exact ⟨rfl,rfl⟩
  ·rintro st s1 ⟨rfl,i,hi,hr,h1,h2⟩
   have hin:i=ys'.length:=by
    rcases Nat.lt_or_ge i ys'.length with h | h
    ·rw [show ys'.length - i=(ys'.length - (i+1))+1 by lia,List.range'_succ] at hr;cases hr
    ·lia
   have:st.1=(bs.map List.toArray).toArray:=by
    rw [h1,hin,hy.1,List.take_length]
   obtain ⟨p1,p2⟩:=st
   simp only at this
   subst this
   exact hQ p2 h2
 have flat:((bs.map List.toArray).map Array.toList).flatten=bs.flatten:=by
  simp [List.map_map,Function.comp_def]
 rcases ys with _ | ⟨y,_ | ⟨z,r⟩⟩
 case nil=>exact absurd hy.1 (Nat.ne_of_lt hne)
 case cons.nil =>
  obtain ⟨b,t1,e1,rfl⟩:=hy.2 0 y rfl
  refine wpAny_bind (m:=typeOf _) (wpAny_typeOf (typeIs_bytes _ _ _) ?_)
  rw [if_pos (by decide)]
  refine wpAny_bind (wpAny_rule ?_)
  have:bs=[b]:=by
   match bs,hy.1,e1 with
   | [b'],_,e=>simpa using e
  subst this
  have:=h s' t1 s'.toks hR'
  simp only [List.flatten_cons,List.flatten_nil,List.append_nil] at this
  exact wpAny_pure this
 refine wpAny_bind (m:=forIn _ _ _) (go _ rfl _ _ (λi st b t R hst hi hR=>?_) (λtaken htk=>?_))
 ·refine wpAny_bind (seqItems_at ha ?_)
  dsimp only
  have hany:(st.2.any λx=>x.1.onHeap)=false:=by
   rw [List.any_eq_false];intro p hp;rw [(hst p hp).1];decide
  rw [hany,if_neg (by decide),id_eq]
  have hget:∀(ys:List Value),ys[i]?=some (.bytes b.toArray t)→ys.toArray.getD i .none = .bytes b.toArray t:=λys e=>by
   have hi':i<ys.length:=(List.getElem?_eq_some_iff.mp e).1
   simp only [Array.getD,List.size_toArray,hi',dif_pos,List.getElem_toArray,Array.getInternal_eq_getElem]
   exact (List.getElem?_eq_some_iff.mp e).2
  rw [hget _ hi,take_eq]
  refine wpAny_bind (wpAny_holding (wpAny_pure ?_))
  dsimp only
  refine wpAny_bind (seqItems_at ha ?_)
  dsimp only
  rw [if_neg (by simp)]
  exact wpAny_pure hR
 ·dsimp only
  refine wpAny_bind (wpAny_of_eq (a:=#[]) rfl ?_)
  have hlen:(Array.foldl (λ(x1:Nat) (x2:Array UInt8)=>x1+x2.size) ((#[]:Array UInt8).size*((bs.map List.toArray).toArray.size - 1)) (bs.map List.toArray).toArray)=bs.flatten.length:=by
   rw [←Array.foldl_toList,foldl_size,flat];simp
  rw [hlen,if_neg (by unfold tooLong;rw [decide_eq_false (by have:sizeLine=16777216:=(by decide);lia)];decide)]
  have hj:joined #[] ((bs.map List.toArray).toArray).toList=bs.flatten.toArray:=by
   unfold joined
   rw [show (bs.map List.toArray).toArray.toList=bs.map List.toArray by simp]
   have:=joined_eq (bs.map List.toArray) #[] 0
   rw [flat] at this
   simpa using this
  rw [hj]
  refine wpAny_bind (wpAny_mkBytes ?_ (by have:sizeLine=16777216:=(by decide);rw [List.size_toArray];lia))
  refine wpAny_bind (wpAny_holding (wpAny_point ?_))
  exact wpAny_bind (letGo_none _ _ _ (λp hp=>(htk p hp).2) (wpAny_pure (h s' _ _ hR')))
theorem join_run {P:Fin→Shared→Prop} {bs:List (List UInt8)} {t:Tok} (ha:s.heap.get? a=some (lobj ys k)) (hy:ys.length=bs.length∧∀(i:Nat) y,ys[i]?=some y→Ex2 λb t=>bs[i]?=some b∧y = .bytes b.toArray t)
  (hz:bs.flatten.length≤100000) (hne:0<bs.length)
  (h:∀t' k',P (.done (.ret (.bytes bs.flatten.toArray t'))) { s with toks:=k' }):wpAny M A (Builtin.«bytes.join» ⟨[.bytes #[] t,.ref a],[]⟩) P E s :=
 join_runG (λs'=>s'=s) (λQ' hq=>by
  unfold joinItems
  refine wpAny_bind (wpAny_typeOf (show s.TypeIs (.ref a) "list" from ⟨_,ha,rfl⟩) ?_)
  rw [if_pos (by decide)]
  exact wpAny_pure (hq s a ys k ha hy rfl)) hz hne λs' t' k' e=>by subst e;exact h t' k'
end
end Jn
end
section
noncomputable def BR (b:List UInt8) (v:Value) (_:Heap):Prop:=∃t,v = .bytes b.toArray t
noncomputable def beN (bs:List UInt8):Nat:=bs.foldl (λ(acc:Nat) (b:UInt8)=>acc*256+b.toNat) 0
noncomputable def leN (bs:List UInt8):Nat:=beN bs.reverse
noncomputable def cut (bs:List UInt8) (a b:Nat):List UInt8:=(bs.drop a).take (b - a)
theorem beN_lt (bs:List UInt8):beN bs<256 ^ bs.length:=by
 have:=KFB.fold_lt bs 0
 rw [Nat.zero_add,Nat.one_mul] at this
 exact this
theorem cut_length_le (bs:List UInt8) (a b:Nat):(cut bs a b).length≤bs.length:=by
 exact Nat.le_trans (List.length_take_le' _ _) (by rw [List.length_drop];exact Nat.sub_le _ _)
namespace FBx
section
theorem grown {Q:VQ} (hn:n<2 ^ k) (hk:k≤1000000) (h:Q (.int (n:Int) s.toks) { s with toks:=s.toks+1 }):wpAny M A (mkIntGrown (n:Int)) Q E s:=by
 unfold mkIntGrown
 have hl:¬ ((n:Int).natAbs.log2 ≥ bitsLine):=by
  rw [Int.natAbs_natCast]
  have hb:bitsLine=134217728:=by first | rfl | decide
  by_cases hz:n=0
  ·subst hz
   rw [hb]
   decide
  ·have h1:=(Nat.log2_lt hz).mpr hn
   lia
 rw [if_neg hl]
 exact wpAny_mkInt h
theorem pow256 (n:Nat):256 ^ n=2 ^ (8*n):=by
 rw [Nat.pow_mul]
theorem tree_big {t:Tok} {P:Fin→Shared→Prop} (hl:b.length≤100000) (h:P (.done (.ret (.int (beN b:Nat) s.toks))) { s with toks:=s.toks+1 }) :
  wpAny M A (Builtin.«int.from_bytes» ⟨[.type "int",.bytes b.toArray t,.str (PySem.Str.ofString "big") u],[]⟩) P E s:=by
 have hn:beN b<2 ^ (8*b.length):=by rw [←pow256];exact beN_lt b
 unfold Builtin.«int.from_bytes»
 refine wpAny_bind (wpAny_of_eq (a:=true) KFB.type_int ?_)
 refine KFB.if_not rfl ?_
 refine wpAny_bind (wpAny_of_eq (a:=true) F.conv_sub_int ?_)
 refine KFB.if_not rfl ?_
 refine wpAny_bind (wpAny_of_eq (a:=[some (.bytes b.toArray t),some (.str (PySem.Str.ofString "big") u),none]) (by kernel_rfl) ?_)
 refine wpAny_bind (wpAny_of_eq (a:=PySem.Str.ofString "big") (by kernel_rfl) ?_)
 refine wpAny_bind (wpAny_of_eq (a:=false) rfl ?_)
 refine wpAny_bind (wpAny_of_eq (a:=false) (by kernel_rfl) ?_)
 refine wpAny_bind (wpAny_of_eq (a:=b.toArray) rfl ?_)
 show wpAny _ _ (mkIntGrown (b.toArray.toList.foldl (λ(acc:Int) (b:UInt8)=>acc*256+(b.toNat:Int)) ((0:Nat):Int)) >>= λv=>_) _ _ _
 rw [KFB.foldI_eq]
 refine wpAny_bind (grown hn (by lia) ?_)
 refine KFB.if_so (by decide +kernel) ?_
 exact wpAny_bind (wpAny_pure (wpAny_pure h))
theorem tree_little {t:Tok} {P:Fin→Shared→Prop} (hl:b.length≤100000) (h:P (.done (.ret (.int (leN b:Nat) s.toks))) { s with toks:=s.toks+1 }) :
  wpAny M A (Builtin.«int.from_bytes» ⟨[.type "int",.bytes b.toArray t,.str (PySem.Str.ofString "little") u],[]⟩) P E s:=by
 have hn:leN b<2 ^ (8*b.length):=by rw [←pow256];have:=beN_lt b.reverse;rwa [List.length_reverse] at this
 unfold Builtin.«int.from_bytes»
 refine wpAny_bind (wpAny_of_eq (a:=true) KFB.type_int ?_)
 refine KFB.if_not rfl ?_
 refine wpAny_bind (wpAny_of_eq (a:=true) F.conv_sub_int ?_)
 refine KFB.if_not rfl ?_
 refine wpAny_bind (wpAny_of_eq (a:=[some (.bytes b.toArray t),some (.str (PySem.Str.ofString "little") u),none]) (by kernel_rfl) ?_)
 refine wpAny_bind (wpAny_of_eq (a:=PySem.Str.ofString "little") (by kernel_rfl) ?_)
 refine wpAny_bind (wpAny_of_eq (a:=false) rfl ?_)
 refine wpAny_bind (wpAny_of_eq (a:=true) (by kernel_rfl) ?_)
 refine wpAny_bind (wpAny_of_eq (a:=b.toArray) rfl ?_)
 show wpAny _ _ (mkIntGrown (b.toArray.toList.reverse.foldl (λ(acc:Int) (b:UInt8)=>acc*256+(b.toNat:Int)) ((0:Nat):Int)) >>= λv=>_) _ _ _
 rw [KFB.foldI_eq]
 refine wpAny_bind (grown hn (by lia) ?_)
 refine KFB.if_so (by decide +kernel) ?_
 exact wpAny_bind (wpAny_pure (wpAny_pure h))
theorem getm {Q:Value×List Value→Shared→Prop} (X:K.In s.heap)
  (e:findCls K (.type "int") (.type "type") (PySem.Str.ofString "from_bytes")=some (.get (.builtin "classmethod_descriptor.__get__") (.builtin "int.from_bytes") .none (.type "int")))
  (h:Q (.ref s.heap.objs.size,[]) { s with heap:=s.heap.push KFB.bound,toks:=s.toks+1 }) :
  wpAny (model prog w) A (getMethod (.type "int") (PySem.Str.ofString "from_bytes") pl) Q E s:=by
 have hstub:opaqueClassAbove (.type "int")=pure none:=by unfold opaqueClassAbove;dsimp only;rw [show Manifest.isStub "int"=false by decide +kernel];rfl
 have ht:typeOf (.type "int")=pure (.type "type"):=by first | rfl | kernel_rfl
 have L0:Looks (model prog w) s.heap (typeOf (.type "int")) (.type "type"):=Looks.of_pure ht
 have hg:findIn K (.type "type") "__getattribute__"=some (some (.builtin "type.__getattribute__")):=type_tga
 unfold getMethod specialOf
 refine wpAny_bind (wpAny_bind (L0.here ((looks_findIn X hg).here ?_)))
 dsimp only
 rw [if_pos canon_tga]
 refine wpAny_bind (wpAny_mono (Q:=λv=>Q (v,[])) (E:=E) ?_ (λ_ _ z=>wpAny_pure z) λ_ _ z=>z)
 have LO:Looks (model prog w) s.heap (opaqueClassAbove (.type "int")) none:=Looks.of_pure hstub
 refine cls_open X LO L0 hg (looks_hook X (r:=none) (by rfl)) (by show subIn K _ _=_;rfl) e ?_
 show wpAny _ _ (holding [.builtin "int.from_bytes"] (call (.builtin "classmethod_descriptor.__get__") [.builtin "int.from_bytes",.none,.type "int"]) >>= λv=>ret v) _ _ _
 refine wpAny_bind (wpAny_holding (wpAny_call_entry KFB.slot_get KFB.type_fb KFB.entry_get (KFB.run_get ⟨_,rfl,wpAny_pure (wpAny_pure ?_)⟩) (KFB.args_get _ _ _)))
 exact h
end
end FBx
end
section
theorem clip_eq (n k:Nat):clipAt n (k:Int)=min k n:=clipAt_nat n k
theorem picked_cut (bs:List UInt8) (a b:Nat):KBy.picked bs.toArray (some (a:Int)) (some (b:Int))=(cut bs a b).toArray:=by
 rw [KBc.picked_eq]
 simp only [Option.elim,clip_eq,List.size_toArray,cut]
 congr 1
 rcases Nat.lt_or_ge a bs.length with h | h
 ·rw [Nat.min_eq_left (Nat.le_of_lt h)]
  rcases Nat.lt_or_ge b bs.length with h' | h'
  ·rw [Nat.min_eq_left (Nat.le_of_lt h')]
  ·rw [Nat.min_eq_right h',List.take_of_length_le (by rw [List.length_drop];exact Nat.le_refl _),List.take_of_length_le (by rw [List.length_drop];exact Nat.sub_le_sub_right h' a)]
 ·rw [Nat.min_eq_right h,List.drop_length,List.drop_of_length_le h,List.take_nil,List.take_nil]
theorem picked_upto (bs:List UInt8) (b:Nat):KBy.picked bs.toArray none (some (b:Int))=(bs.take b).toArray:=by
 rw [KBc.picked_eq]
 simp only [Option.elim,clip_eq,List.size_toArray]
 congr 1
 rw [List.drop_zero,Nat.sub_zero]
 rcases Nat.lt_or_ge b bs.length with h | h
 ·rw [Nat.min_eq_left (Nat.le_of_lt h)]
 ·rw [Nat.min_eq_right h,List.take_of_length_le h,List.take_of_length_le (Nat.le_refl _)]
section
theorem EvF.str {s:Str}:EvF c l N Φ (.Constant (.str s) k pos) (λv _=>∃u,v = .str s u):=λ_ _ h t _ _ F hQ =>
 Calls.Constant_str (hQ _ h (t+1) F (Nat.le_refl _) λ_ _=>⟨t,rfl⟩)
theorem EvF.bytes {s:List UInt8}:EvF c l N Φ (.Constant (.bytes s) k pos) (BR s):=λ_ _ h t _ _ F hQ =>
 Constant_bytes (hQ _ h (t+1) F (Nat.le_refl _) λ_ _=>⟨t,rfl⟩)
theorem EvF.addB {a:List UInt8} (h1:EvF c l N Φ e1 (BR a)) (h2:EvF c l N Φ e2 (BR b)) (hz:a.length+b.length≤100000):EvF c l N Φ (.BinOp e1 .Add e2 pos) (BR (a++b)):=by
 intro Φ' k h t Q E F hQ
 refine wpAny_BinOp (h1 _ k h t _ _ F λv h1 t1 F1 hz1 p1=>h2 _ k h1 t1 _ _ F1 λw h2 t2 F2 hz2 p2=>?_)
 obtain ⟨u,rfl⟩:=p1.here
 obtain ⟨u',rfl⟩:=p2.here
 exact bytes_add_K (by simp only [List.size_toArray];lia) rfl λt' k'=>hQ _ h2 k' F2 (Nat.le_trans hz1 hz2) λ_ _=>⟨t',rfl⟩
theorem EvN.lenB (H:c.Ok n) (hb:c.mg "len"=none∧c.mb "len"=some (.builtin "len")) (he:EvF c l N Φ e (BR b)) (hz:b.length≤100000)
  (hl:Glo c.env "len":=by rfl)
  (s1:Unst e [] c.env:=by rfl)
  (hev:CallIs "len" np [e] pos c.env:=by rfl) :
  EvN c l N Φ (.Call (.Name "len" np) [e] [] pos) b.length:=by
 intro Φ' k h t Q E F hQ
 refine PyProof.Rows.Call_ (bl H F hb.1 hb.2 (PyProof.Rows.callWith_builtin1 ?_ s1) hl (by decide)) hev
 rw [s1]
 refine spliced_cons (he _ k h t _ _ F λv h1 t1 F1 _ p=>spliced_nil ?_)
 obtain ⟨u,rfl⟩:=p.here
 have e1:(KBw.bInts b.toArray).length=b.length:=by rw [KBw.ints_length,List.size_toArray]
 refine KBw.len_K rfl (by rw [e1];lia) ?_
 rw [e1]
 exact hQ _ h1 _ F1
theorem EvF.cutB {a b:Option Int} {cs:List UInt8} (he:EvF c l N Φ e (BR bs)) (ha:EvPart c l N Φ lo a) (hb:EvPart c l N Φ hi b) (hz:bs.length≤100000)
  (hc:KBy.picked bs.toArray a b=cs.toArray)
  (hs:∀(b:Array UInt8) t a,∃ops,subscripted (.Slice lo hi none sp) false (.bytes b t) (.ref a)=operate ops (getItem (.bytes b t) (.ref a)):=by intro _ _ _;exact ⟨_,by with_unfolding_all rfl⟩) :
  EvF c l N Φ (.Subscript e (.Slice lo hi none sp) pos) (BR cs):=by
 intro Φ' kΦ h t Q E F hQ
 refine wpAny_with_size (Nat.le_refl _) (PyProof.Rows.Subscript_ (he _ kΦ h t _ _ F λo h1 t1 F1 hz1 p=>evSlice ha hb .none kΦ F1 λu v w h2 t2 p1 p2 p3 F2=>?_))
 obtain ⟨ub,rfl⟩:=p.here
 obtain ⟨ops,hops⟩:=hs bs.toArray ub h2.objs.size
 cases p3
 refine subTail (typeIs_bytes _ _ _) FB.slot_bytes_getitem.lookup (getItem_meets (typeIs_bytes _ _ _) (by decide) FB.slot_bytes_getitem FB.entry_bytes_getitem (FB.args_bytes_getitem_2 _ _) (KBc.meets_slice2 bs.toArray ub _ p1 p2)
  ⟨Heap.IsSliceOf.new _ _ _ _,Nat.le_trans (KBc.size_picked_le _ _ _) (by rw [List.size_toArray];exact Nat.le_trans hz (by decide)),λt' k=>?_⟩) hops
 rw [hc]
 exact λhz2=>hQ _ _ k (F2.push' _) hz2 λ_ _=>⟨t',rfl⟩
theorem EvN.fromB {v:Nat} (H:c.Ok n) (hb:c.mg "int"=none∧c.mb "int"=some (.type "int")) (hK:FBok c.K) (he:EvF c l N Φ e (BR bs))
  (tree:∀ {s:Shared} {t u:Tok} {P:Fin→Shared→Prop} {E':VQ} {A':Around},P (.done (.ret (.int (v:Int) s.toks))) { s with toks:=s.toks+1 }→wpAny (model c.prog c.w) A' (Builtin.«int.from_bytes» ⟨[.type "int",.bytes bs.toArray t,.str ord u],[]⟩) P E' s)
  (hl:Glo c.env "int":=by rfl)
  (s1:Unst e [.Constant (.str ord) kk kp] c.env:=by rfl)
  (s2:Unst (.Constant (.str ord) kk kp) [] c.env:=by rfl)
  (hplain:Plain pos [e,.Constant (.str ord) kk kp] c.env:=by rfl)
  (hev:eval (.Call (.Attribute (.Name "int" np) "from_bytes" ap) [e,.Constant (.str ord) kk kp] [] pos) c.env=(do
   let ov←eval (.Name "int" np) c.env
   standAt ap.atName
   let (f,first)←holding [ov] (getMethod ov "from_bytes" pl)
   callWith pos f first (backTo pos (starEach [e,.Constant (.str ord) kk kp] c.env)) []):=by rfl) :
  EvN c l N Φ (.Call (.Attribute (.Name "int" np) "from_bytes" ap) [e,.Constant (.str ord) kk kp] [] pos) v:=by
 intro Φ' k h t Q E F hQ
 refine PyProof.Rows.MethodCall_ (bl H F hb.1 hb.2 (FBx.getm (H.W1 F).k hK ?_) hl (by decide)) hev
 have F1:c.SS l N (λh'=>Φ' h'∧h'.get? h.objs.size=some KFB.bound) (h.push KFB.bound):=(F.push' KFB.bound).know λh' q=>by
  have f:=F.fresh (a:=h.objs.size) (Nat.le_refl _)
  exact q _ _ f.1 f.2.1 f.2.2 (Heap.get?_push_size _ rfl)
 refine KFB.callWith_fields hplain (evalArgs_all hplain ?_)
 rw [s1]
 refine spliced_cons (he _ (λh y=>k h y.1) _ (t+1) _ _ F1 λo h1 t1 F2 _ p=>?_)
 obtain ⟨ub,rfl⟩:=p.here
 rw [s2]
 refine spliced_cons (Calls.Constant_str (k:=kk) (pos:=kp) (spliced_nil ⟨F2.phi.2,?_⟩))
 refine KFB.call_of F2.phi.2 tree ?_
 exact hQ _ h1 _ (F2.weaken λ_ y=>y.1)
theorem EvN.fromLittle (H:c.Ok n) (hb:c.mg "int"=none∧c.mb "int"=some (.type "int")) (hK:FBok c.K) (he:EvF c l N Φ e (BR bs)) (hz:bs.length≤100000)
  (hl:Glo c.env "int":=by rfl)
  (s1:Unst e [.Constant (.str "little") kk kp] c.env:=by rfl)
  (s2:Unst (.Constant (.str "little") kk kp) [] c.env:=by rfl)
  (hplain:Plain pos [e,.Constant (.str "little") kk kp] c.env:=by rfl)
  (hev:eval (.Call (.Attribute (.Name "int" np) "from_bytes" ap) [e,.Constant (.str "little") kk kp] [] pos) c.env=(do
   let ov←eval (.Name "int" np) c.env
   standAt ap.atName
   let (f,first)←holding [ov] (getMethod ov "from_bytes" pl)
   callWith pos f first (backTo pos (starEach [e,.Constant (.str "little") kk kp] c.env)) []):=by rfl) :
  EvN c l N Φ (.Call (.Attribute (.Name "int" np) "from_bytes" ap) [e,.Constant (.str "little") kk kp] [] pos) (leN bs) :=
 EvN.fromB H hb hK he (λ{_ _ _ _ _ _} z=>FBx.tree_little hz z) hl s1 s2 hplain hev
end
end
section
noncomputable def toLE:Nat→Nat→List UInt8
 | 0,_=>[]
 | k+1,x=>UInt8.ofNat (x % 256)::toLE k (x / 256)
noncomputable def toBE (k x:Nat):List UInt8:=(toLE k x).reverse
theorem toLE_length:∀(k x:Nat),(toLE k x).length=k
 | 0,_=>rfl
 | k+1,x=>by simp [toLE,toLE_length k]
theorem toBE_length (k x:Nat):(toBE k x).length=k:=by simp [toBE,toLE_length]
theorem toLE_little:∀(k x:Nat),(toLE k x).map (λc=>((c.toNat:Nat):Int))=KTBy.little k (x:Int)
 | 0,_=>rfl
 | k+1,x=>by
  have e:((x:Int) / 256)=((x / 256:Nat):Int):=by trivial
  simp only [toLE,KTBy.little,List.map_cons,e,toLE_little k]
  congr 1
  rw [UInt8.toNat_ofNat']
  lia
theorem ints_inj:∀(a b:List UInt8),a.map (λc=>((c.toNat:Nat):Int))=b.map (λc=>((c.toNat:Nat):Int))→a=b
 | [],[],_=>rfl
 | [],_::_,h=>by simp at h
 | _::_,[],h=>by simp at h
 | x::a,y::b,h=>by
  simp only [List.map_cons,List.cons.injEq] at h
  have e:x=y:=UInt8.toNat_inj.mp (by lia)
  rw [ints_inj a b h.2,e]
theorem bInts_eq {b:Array UInt8} {l:List UInt8} (h:KBw.bInts b=l.map (λc=>((c.toNat:Nat):Int))):b=l.toArray:=by
 have e:b.toList=l:=ints_inj b.toList l h
 rw [←e,Array.toArray_toList]
namespace TBx
section
variable {x:Nat} {t v:Tok}
open PySem.Builtin.Int (intBits)
theorem to_big {Q:VQ} (hk:k≤1000) (h1:x<256 ^ k) (h:∀t' k',Q (.bytes (toBE k x).toArray t') { s with toks:=k' }) :
  wpAny (model prog w) A (call (.builtin "int.to_bytes") [.int (x:Int) t,.int (k:Int) u,.str (PySem.Str.ofString "big") v]) Q E s:=by
 refine wpAny_call_entry KTBy.slot (typeIs_int s x t) KTBy.entry ?_ (KTBy.args _ _ _)
 have h1':(x:Int)<256 ^ k:=by rw [KTBy.p256];lia
 have h0:(0:Int)≤x:=by trivial
 have hb:=KTBy.bits_le (B:=256 ^ k) rfl h0 h1'
 show wpAny _ _ (Builtin.Int.intOfSelf (.int x t) >>= λy=>_) _ _ s
 refine wpAny_bind (wpAny_of_eq (a:=(x:Int)) rfl ?_)
 show wpAny _ _ (Builtin.Int.intBindNamed "to_bytes" ["length","byteorder","signed"] 0 2 [.int (k:Int) u,.str (PySem.Str.ofString "big") v] [] >>= λl=>_) _ _ s
 refine wpAny_bind (wpAny_of_eq (a:=[some (.int (k:Int) u),some (.str (PySem.Str.ofString "big") v),none]) (by kernel_rfl) ?_)
 show wpAny _ _ (Builtin.Int.intIndex "int.to_bytes" (.int (k:Int) u) >>= λn=>_) _ _ s
 refine wpAny_bind (wpAny_of_eq (a:=(k:Int)) rfl ?_)
 refine KTBy.if_not (by show (decide ((k:Int) < -(2 ^ 63:Int)) || decide ((k:Int) ≥ 2 ^ 63))=false;rw [decide_eq_false (show ¬ ((k:Int) < -(2 ^ 63:Int)) by lia),decide_eq_false (show ¬ ((k:Int) ≥ 2 ^ 63) by lia)];rfl) ?_
 refine wpAny_bind (wpAny_of_eq (a:=PySem.Str.ofString "big") (by kernel_rfl) ?_)
 refine wpAny_bind (wpAny_of_eq (a:=false) rfl ?_)
 refine wpAny_bind (wpAny_of_eq (a:=false) (by kernel_rfl) ?_)
 refine wpAny_ite_false (decide_eq_false (show ¬ ((k:Int)<0) by lia)) ?_
 refine wpAny_ite_false (decide_eq_false (show ¬ ((k:Int)>2 ^ 63 - 1 - 33) by lia)) ?_
 refine wpAny_ite_false (decide_eq_false (show ¬ ((k:Int)>(sizeLine:Int)) by rw [sizeLine_eq];lia)) ?_
 refine KTBy.if_not (by show (decide ((x:Int)<0) && !false)=false;rw [decide_eq_false (show ¬ (x:Int)<0 by lia)];rfl) ?_
 refine KTBy.if_not (by show (_ && decide ((intBits (x:Int):Int)>8*(k:Int)))=false;rw [decide_eq_false (show ¬ ((intBits (x:Int):Int)>8*(k:Int)) by lia),Bool.and_false]) ?_
 refine wpAny_bind (wpAny_mkBytes (wpAny_pure ⟨_,rfl,?_⟩) (by show (List.reverse (KTBy.low x (Int.toNat (k:Int)))).length≤sizeLine;rw [List.length_reverse,KTBy.low_length,Int.toNat_natCast,sizeLine_eq];lia))
 have e:KTBy.low (x:Int) k=toLE k x:=ints_inj _ _ (by rw [KTBy.low_ints h0 h1',←KTBy.little_eq,toLE_little])
 show Q (.bytes (List.reverse (KTBy.low x (Int.toNat (k:Int)))).toArray _) _
 rw [Int.toNat_natCast,e]
 exact h _ _
theorem to_little {Q:VQ} (hk:k≤8) (h1:x<256 ^ k) (h:∀t' k',Q (.bytes (toLE k x).toArray t') { s with toks:=k' }) :
  wpAny (model prog w) A (call (.builtin "int.to_bytes") [.int (x:Int) t,.int (k:Int) u,.str (PySem.Str.ofString "little") v]) Q E s :=
 KTBy.to_little hk rfl (by trivial) (by rw [KTBy.p256];lia) λb t' k' e _=>by
  rw [bInts_eq (e.trans (toLE_little k x).symm)];exact h t' k'
end
end TBx
section
theorem EvF.toB {x:Nat} (he:EvN c l N Φ e x) (he2:EvN c l N Φ e2 k)
  (run:∀ {s:Shared} {t u v:Tok} {Q:VQ} {E:VQ},(∀t' k',Q (.bytes bs.toArray t') { s with toks:=k' })→wpAny (model c.prog c.w) c.A (PySem.call (.builtin "int.to_bytes") [.int (x:Int) t,.int (k:Int) u,.str ord v]) Q E s)
  (s1:Unst e2 [.Constant (.str ord) kk kp] c.env:=by rfl)
  (s2:Unst (.Constant (.str ord) kk kp) [] c.env:=by rfl)
  (hplain:Plain pos [.Constant (.str ord) kk kp] c.env:=by rfl)
  (hev:eval (.Call (.Attribute e "to_bytes" ap) [e2,.Constant (.str ord) kk kp] [] pos) c.env=(do
   let ov←eval e c.env
   standAt ap.atName
   let (f,first)←holding [ov] (getMethod ov "to_bytes" pl)
   callWith pos f first (backTo pos (starEach [e2,.Constant (.str ord) kk kp] c.env)) []):=by rfl) :
  EvF c l N Φ (.Call (.Attribute e "to_bytes" ap) [e2,.Constant (.str ord) kk kp] [] pos) (BR bs):=by
 intro Φ' kΦ h t Q E F hQ
 refine wpAny_with_size (Nat.le_refl _) (PyProof.Rows.MethodCall_ (he _ kΦ h t _ _ F λu h1 t1 F1=>KTBy.method (PyProof.Rows.callWith_method1 ?_ s1 hplain)) hev)
 rw [s1]
 refine spliced_cons (he2 _ kΦ h1 t1 _ _ F1 λu2 h2 t2 F2=>?_)
 rw [s2]
 refine spliced_cons (Calls.Constant_str (k:=kk) (pos:=kp) (spliced_nil ?_))
 exact run λt' k' hz=>hQ _ h2 k' F2 hz λ_ _=>⟨t',rfl⟩
theorem EvF.joinB {bss:List (List UInt8)} (he:EvR c l N Φ e (LR BR bss)) (hz:bss.flatten.length≤100000) (hne:0<bss.length)
  (s1:Unst e [] c.env:=by rfl)
  (hev:eval (.Call (.Attribute (.Constant (.bytes []) kk kp) "join" ap) [e] [] pos) c.env=(do
   let ov←eval (.Constant (.bytes []) kk kp) c.env
   standAt ap.atName
   let (f,first)←holding [ov] (getMethod ov "join" pl)
   callWith pos f first (backTo pos (starEach [e] c.env)) []):=by rfl) :
  EvF c l N Φ (.Call (.Attribute (.Constant (.bytes []) kk kp) "join" ap) [e] [] pos) (BR bss.flatten):=by
 intro Φ' kΦ h t Q E F hQ
 refine wpAny_with_size (Nat.le_refl _) (PyProof.Rows.MethodCall_ (Constant_bytes (k:=kk) (pos:=kp) (getMethod_builtin (typeIs_bytes _ _ _) FB.plainAttrs_bytes Jn.slot Jn.type_eq (λ_ e=>nomatch e) (PyProof.Rows.callWith_method1 ?_ s1))) hev)
 rw [s1]
 refine spliced_cons (he _ kΦ h (t+1) _ _ F λv h1 t1 F1=>spliced_nil ?_)
 obtain ⟨a,ys,k,rfl,ha,hR⟩:=F1.phi.2
 refine wpAny_call_entry Jn.slot (typeIs_bytes _ _ _) Jn.entry ?_ (Jn.args _ _)
 refine Jn.join_run ha ⟨hR.1,λi y e=>?_⟩ hz hne λt' k'=>⟨_,rfl,λhz=>hQ _ h1 k' (F1.weaken λ_ y=>y.1) hz λ_ _=>⟨t',rfl⟩⟩
 obtain ⟨b,e1,u,rfl⟩:=hR.2 i y e
 exact ⟨b,u,e1,rfl⟩
theorem ints_are (r:RL NatR xs ys h):PyProof.Rows.IntsAre ys (xs.map λx:Nat=>(x:Int)) :=
 r.lift (G:=λxs ys=>PyProof.Rows.IntsAre ys (xs.map λx:Nat=>(x:Int))) .nil λ_ _ _ _ ⟨u,e⟩ g=>e▸.cons _ u g
theorem EvN.sumL (H:c.Ok n) (hb:c.mg "sum"=none∧c.mb "sum"=some (.builtin "sum")) (he:EvF c l N Φ e (LR NatR xs))
  (hl:Glo c.env "sum":=by rfl)
  (s1:Unst e [] c.env:=by rfl)
  (hev:CallIs "sum" np [e] pos c.env:=by rfl) :
  EvN c l N Φ (.Call (.Name "sum" np) [e] [] pos) xs.sum:=by
 intro Φ' k h t Q E F hQ
 refine PyProof.Rows.Call_ (bl H F hb.1 hb.2 (PyProof.Rows.callWith_builtin1 ?_ s1) hl (by decide)) hev
 rw [s1]
 refine spliced_cons (he _ k h t _ _ F λv h1 t1 F1 _ p=>spliced_nil ?_)
 obtain ⟨a,ys,kk,rfl,ha,hR⟩:=p.here
 have hi:PyProof.Rows.IntsAre ys (xs.map λx:Nat=>(x:Int)):=ints_are hR
 obtain ⟨zs,hzs⟩:=hi.allInts.items
 have hL:h1.IsList a ys.toArray:=⟨_,ha,rfl,_,rfl⟩
 have hL':h1.IsList a (intItems zs):=hzs▸hL
 refine wpAny_with_size (Nat.le_refl _) (sum_intListG H.A.1 hL' λh' tk t' hk hz=>?_)
 have e1:(xs.map λx:Nat=>(x:Int))=zs.toList.map (·.1):=by
  rw [←nums_intItems,←hzs]
  exact (show numsOf ys.toArray.toList=(xs.map λx:Nat=>(x:Int)) from hi.numsOf).symm
 have e2:preSum (numAt zs) zs.size=((xs.sum:Nat):Int):=by
  rw [preSum_eq,List.take_of_length_le (by simp),←e1]
  clear e1 hL' hL hi hR ha p hQ he
  induction xs with
  | nil=>rfl
  | cons x xs ih=>simp [ih]
 rw [e2]
 exact hQ _ h' tk (F1.grow hz hk)
end
end
section
section
variable {spos:Pos} {P:Nat→List Value→HP} {names:List Str}
theorem asC {P:VH} {w:Option Value} (i:Nat) (H:c.Ok n) (F:c.SS l N Φ h) (he:EvR c l N Φ e P)
  (hQ:∀v h' t',let N':=N.set i (a,cobj (some v));c.SS l N' (λh=>Φ h∧P v h) h'→c.wp (execs rest c.env) Q E (c.st h' t'))
  (hi:N[i]?=some (a,cobj w):=by rfl) (hc:c.env.cells.lookup x=some a:=by rfl) (hl:Cel c.env x:=by rfl) (hs:Swp e x p' pos c.env:=by rfl) :
  c.wp (execs (.Assign [.Name x p'] e pos::rest) c.env) Q E (c.st h t) :=
 wpAny_execs_cons (wpAny_Assign_Name (he _ (λ_ x=>x) h t _ _ F λv _ _ F1=>stc H F1 hi hc (λh2 F2=>hQ v h2 _ F2) hl) hs)
theorem asCV {w:Option Value} (i:Nat) (H:c.Ok n) (F:c.SS l N Φ h) (he:EvV c l N Φ e v)
  (hQ:∀h' t',let N':=N.set i (a,cobj (some v));c.SS l N' Φ h'→c.wp (execs rest c.env) Q E (c.st h' t'))
  (hi:N[i]?=some (a,cobj w):=by rfl) (hc:c.env.cells.lookup x=some a:=by rfl) (hl:Cel c.env x:=by rfl) (hs:Swp e x p' pos c.env:=by rfl) :
  c.wp (execs (.Assign [.Name x p'] e pos::rest) c.env) Q E (c.st h t) :=
 wpAny_execs_cons (wpAny_Assign_Name (he _ (λ_ x=>x) h t _ _ F λ_ _ F1=>stc H F1 hi hc (λh2 F2=>hQ h2 _ F2) hl) hs)
theorem asCF {β:Type} {f:β→Value} {w:Option Value} (i:Nat) (H:c.Ok n) (F:c.SS l N Φ h) (he:EvF c l N Φ e (λv _=>∃u,v=f u))
  (hQ:∀u h' t',let N':=N.set i (a,cobj (some (f u)));c.SS l N' Φ h'→c.wp (execs rest c.env) Q E (c.st h' t'))
  (hi:N[i]?=some (a,cobj w):=by rfl) (hc:c.env.cells.lookup x=some a:=by rfl) (hl:Cel c.env x:=by rfl) (hs:Swp e x p' pos c.env:=by rfl) :
  c.wp (execs (.Assign [.Name x p'] e pos::rest) c.env) Q E (c.st h t) :=
 wpAny_execs_cons (wpAny_Assign_Name (he _ (λ_ x=>x) h t _ _ F λv _ _ F1 _ p=>by
  obtain ⟨u,rfl⟩:=p _ λ_ _ _ e=>e
  exact stc H F1 hi hc (λh2 F2=>hQ u h2 _ F2) hl) hs)
theorem asCU {β:Type} {f:β→Value} {R:β→HP} {w:Option Value} (i:Nat) (H:c.Ok n) (F:c.SS l N Φ h) (he:EvR c l N Φ e (λv h=>∃u,v=f u∧R u h))
  (hf:∀u u',f u=f u'→∀h,R u h→R u' h)
  (hQ:∀u h' t',let N':=N.set i (a,cobj (some (f u)));c.SS l N' (λh=>Φ h∧R u h) h'→c.wp (execs rest c.env) Q E (c.st h' t'))
  (hi:N[i]?=some (a,cobj w):=by rfl) (hc:c.env.cells.lookup x=some a:=by rfl) (hl:Cel c.env x:=by rfl) (hs:Swp e x p' pos c.env:=by rfl) :
  c.wp (execs (.Assign [.Name x p'] e pos::rest) c.env) Q E (c.st h t) :=
 asC i H F he (λv h' t' F'=>by
  obtain ⟨u,rfl,_⟩:=F'.phi.2
  exact hQ u h' t' (F'.weaken λh y=>⟨y.1,let ⟨u',e,q⟩:=y.2;hf u' u e.symm h q⟩)) hi hc hl hs
theorem asComp {w:Option Value} {Fy:Nat→VH} (i:Nat) (H:c.Ok n) (F:c.SS l N Φ h) (hclos:closureFor scope c.env=pure cl)
  (hsc:(decide (scope.kind = .function) && (scope.names.all λx=>decide (x.2≠.cell)) && decide names.Nodup && (scope.names.all λx=>decide (x.2 = .local→scope.names.lookup x.1=some .local)) && names.all λx=>decide (scope.names.lookup x=some .local))=true)
  (hm:m≤sizeLine) (hit:EvIt c l N Φ iter target names m P) (helt:EltOk c n l N Φ elt scope cl m P names Fy)
  (hQ:∀v h' t',let l':=l.set i (x,some v);c.SS l' N (λh'=>Φ h'∧Since h.objs.size h' (LI m Fy v)) h'→c.wp (execs rest c.env) Q E (c.st h' t'))
  (hi:l[i]?=some (x,w):=by rfl) (hl:Loc c.env x:=by rfl)
  (hsw:swapsWith (.ListComp elt [⟨target,iter,[],0⟩] scope pos) (some (.Name x p')) spos.line c.env=pure true:=by rfl)
  (hs:∀x,foldedSetIterable iter c.env x=pure x:=by intro _;rfl) :
  c.wp (execs (.Assign [.Name x p'] (.ListComp elt [⟨target,iter,[],0⟩] scope pos) spos::rest) c.env) Q E (c.st h t):=by
 simp only [Bool.and_eq_true] at hsc
 obtain ⟨⟨hsc,hnames⟩,hloc⟩:=hsc
 have hkind:scope.kind = .function:=by simp only [Bool.and_eq_true,decide_eq_true_eq] at hsc;exact hsc.1.1
 have hsc':(decide (scope.kind = .function) && (scope.names.all λx=>decide (x.2≠.cell)) && decide names.Nodup)=true:=by simp only [Bool.and_eq_true];exact hsc
 simp only [List.all_eq_true,decide_eq_true_eq] at hnames hloc
 refine wpAny_execs_cons ?_
 rw [exec_Assign_Name_used _ _ _ _ hsw]
 refine wpAny_bind (wpAny_standAt ?_)
 rw [arm_evalThenUse_ListComp]
 refine wpAny_bind (wpAny_bind (wpAny_mono (wpAny_comprehension_free (E:=E) rfl hs hclos hkind hnames (Q:=λ_ s'=>wpAny (model c.prog c.w) c.A (pure Flow.next) (λf s'=>match f with | .next=>c.wp (execs rest c.env) Q E s' | f=>Q f s') E s') (wpAny_mono (hit Φ (λ_ x=>x) h t (λit s₂=>Ex2 λh₂ t₂=>An3 (s₂=c.st h₂ t₂) (ItrAt c l N Φ it target names m P h₂) (h.objs.size≤h₂.objs.size)) F λit h₂ t₂ hi hz=>⟨h₂,t₂,rfl,hi,hz⟩)
  (λxv s₁ h₁=>ex (wpAny_mono h₁ (λit s₂ h₂=>?_) λ_ _ y=>y)) λ_ _ y=>y.elim)) (λ_ _ hq=>wpAny_pure hq) λ_ _ y=>y))
 obtain ⟨h₂,t₂,rfl,⟨fp,wr,St,P₀,IT,st,hfp,hwr,F₂,conv⟩,hz0⟩:=h₂
 refine comp_loop (use:=some (assign (.Name x p') c.env)) names Fy H (H.W1 (F₂.but hwr (λ_ _ _ e=>e) (Nat.le_refl _))) IT st (λb hb=>(hfp b hb).1) (λb hb=>Nat.le_trans H.W.size (hwr b hb).1) hm hsc' ?_ ?_
 ·intro C i v h t lv hlt hDC hP hlv hk hCz ok F'
  obtain ⟨vs,hvl,asg,hsem⟩:=conv i v h hP
  have hl:∀x∈names,(compCx c scope cl h C).env.kindOf x=some .local:=λx hx=>lookup_relabel_local (hloc x hx)
  refine wpAny_mono (asg.2 _ n lv (Kept wr h₂) t ok hl hlv F') (λ_ s₂ h₂'=>?_) λ_ _ y=>y
  obtain ⟨h3,t3,rfl,F3⟩:=h₂'
  refine helt C h vs i (Kept wr h₂) hlt hvl (λh' q=>hsem h' λb o _ b2 _ e=>q b o (λr=>b2 (List.mem_append_left _ r)) e) (λh' q=>SS.vw F₂ hwr q) ok (Kept wr h₂) (λ_ x=>x) h3 t3 _ _ F3 λy h4 t4 F4 hz4 p=>?_
  exact ⟨h4,t4,_,rfl,by rw [List.map_fst_zip];simp [hvl],F4.weaken λ_ _=>trivial,p.le F3.ltL⟩
 intro D C ys h' t' k h1 h2 hlen hD hF hk hz hn
 have hL:@LT.lt Nat _ c.L h₂.objs.size:=F₂.ltL
 have h0:c.h₀.objs.size≤h₂.objs.size:=F₂.size
 obtain ⟨mm,hn⟩:=hn
 have F1:c.SS l N Φ h':=F₂.but hwr hk hz
 obtain ⟨hC,F1'⟩:=comp_tail F₂ hwr hk hz (Nat.lt_of_le_of_lt h1 h2) hn.lt
 show wpAny (model c.prog c.w) c.A (assign (.Name x p') c.env (.ref D)) _ E (c.st h' t')
 refine wpAny_assign_Name (wpAny_storeName_local hl (by rw [H.locals];exact F1.ns) (λh3 hn3 hs3=>?_) (by rw [H.kind];rfl))
 rw [H.locals] at hn3 hs3
 have hCL:C≠c.L:=neA (by lia)
 refine ⟨mm,hn.sameBut hs3 hCL,λh4 hs4=>?_⟩
 have F3:SS c.h₀ c.S ([C]++c.X) c.L (l.set i (x,some (.ref D))) N Φ h3:=F1'.setL (by rw [lk_set F1.nd hi];exact hn3) (by rw [keys_set hi];exact F1.nd) hs3
 have F4:c.SS (l.set i (x,some (.ref D))) N Φ h4:=F3.but hC (λb o hb e=>(hs4.2 b (λq=>hb (by simp [q]))).trans e) (by rw [hs4.1];exact Nat.le_refl _)
 have kp:∀b o,b≠C→b≠c.L→h'.get? b=some o→h4.get? b=some o:=λb o b1 b2 e=>(hs4.2 b b1).trans ((hs3.2 b b2).trans e)
 have p:Since h.objs.size h4 (LI m Fy (.ref D)):=λh5 q=>⟨D,ys,k,rfl,q _ _ (by show @LE.le Nat _ _ D;lia) (kp D _ (neA (by trivial)) (neA (by lia)) hD),hlen,λj y hj=>hF j y hj h5 λb o hb e=>by
  have hb':@LE.le Nat _ (C+1) b:=hb
  exact q _ _ (by show @LE.le Nat _ _ b;lia) (kp b o (neA (by trivial)) (neA (by lia)) e)⟩
 exact wpAny_pure (hQ _ h4 _ (F4.know λh5 q=>p.dup (Nat.le_refl _) h5 λb o hb e=>q b o (λr=>absurd F.ltL (Nat.not_lt.mpr (by rw [←r];exact hb))) (λr=>absurd (F.xlt b r) (Nat.not_lt.mpr hb)) (λr=>by
  obtain ⟨p,hp,rfl⟩:=List.mem_map.mp r
  exact absurd (F.belowN p hp) (Nat.not_lt.mpr hb)) e))
theorem asCompR {α:Type} {R:α→VH} {w:Option Value} (i:Nat) (zs:List α) (H:c.Ok n) (F:c.SS l N Φ h) (hclos:closureFor scope c.env=pure cl)
  (hsc:(decide (scope.kind = .function) && (scope.names.all λx=>decide (x.2≠.cell)) && decide names.Nodup && (scope.names.all λx=>decide (x.2 = .local→scope.names.lookup x.1=some .local)) && names.all λx=>decide (scope.names.lookup x=some .local))=true)
  (hit:EvIt c l N Φ iter target names m P) (hm:m=zs.length) (hsz:zs.length≤1000000)
  (helt:∀C h₀ vs i Ψ z,zs[i]?=some z→(∀h,Ψ h→P i vs h)→(∀h,Ψ h→Vw c l N Φ h)→(compCx c scope cl h₀ C).Ok n→(∃h,Ψ h)→EvF (compCx c scope cl h₀ C) (names.zip (vs.map some)) [] Ψ elt (R z))
  (hQ:∀v h' t',let l':=l.set i (x,some v);c.SS l' N (λh'=>Φ h'∧Since h.objs.size h' (LR R zs v)) h'→c.wp (execs rest c.env) Q E (c.st h' t'))
  (hi:l[i]?=some (x,w):=by rfl) (hl:Loc c.env x:=by rfl)
  (hsw:swapsWith (.ListComp elt [⟨target,iter,[],0⟩] scope pos) (some (.Name x p')) spos.line c.env=pure true:=by rfl)
  (hs:∀x,foldedSetIterable iter c.env x=pure x:=by intro _;rfl) :
  c.wp (execs (.Assign [.Name x p'] (.ListComp elt [⟨target,iter,[],0⟩] scope pos) spos::rest) c.env) Q E (c.st h t):=by
 refine asComp (Fy:=λi y h=>∃x,zs[i]?=some x∧R x y h) i H F hclos hsc (by rw [hm];exact Nat.le_trans hsz (by decide)) hit ?_ (λv h' t' F'=>hQ v h' t' (F'.weaken λ_ y=>⟨y.1,y.2.mono λ_ z=>z.toLR hm⟩)) hi hl hsw hs
 intro C h₀ vs i Ψ hi hvl hP hV ok
 have hz:zs[i]?=some (zs[i]'(by lia)):=List.getElem?_eq_getElem _
 exact EvF.of_phi λhψ=>(helt C h₀ vs i Ψ _ hz hP hV ok hψ).mono λv h r=>⟨_,hz,r⟩
end
end
section
noncomputable def lword (bs:List UInt8) (k:Nat):Nat:=leN (cut bs (4*k) (4*k+4))
noncomputable def lwords (bs:List UInt8):List Nat:=(List.range 16).map (lword bs)
noncomputable def lrowL (ws:List Nat) (r:Nat):List Nat:=(List.range 4).map λk=>(ws[(5*k+4*r) % 16]?.getD 0) <<< (64*k)
noncomputable def lload (bs:List UInt8):List (Nat):=(List.range 4).map λr=>(lrowL (lwords bs) r).sum
theorem range_at {α:Type} (n:Nat) (f:Nat→α) {x:α} (e:((List.range n).map f)[i]?=some x):i<n∧x=f i:=by
 rw [List.getElem?_map] at e
 by_cases h:i<n
 ·rw [List.getElem?_range h] at e;cases e;exact ⟨h,rfl⟩
 ·rw [List.getElem?_eq_none (by simpa using h)] at e;cases e
theorem lword_lt (bs:List UInt8) (k:Nat):lword bs k<2 ^ 32:=by
 have:=beN_lt (cut bs (4*k) (4*k+4)).reverse
 have h2:(cut bs (4*k) (4*k+4)).reverse.length≤4:=by
  rw [List.length_reverse];unfold cut;rw [List.length_take,Nat.add_sub_cancel_left];exact Nat.min_le_left _ _
 have h3:256 ^ (cut bs (4*k) (4*k+4)).reverse.length≤256 ^ 4:=Nat.pow_le_pow_right (by decide) h2
 exact Nat.lt_of_lt_of_le this (Nat.le_trans h3 (by decide))
section
set_option maxHeartbeats 600000
theorem law_load (LKK:LK K mg mb) {tv:Tok} (hz:bs.length≤10000) :
  FnAt prog w K mg mb 1 211 ⟨[.bytes bs.toArray tv],[]⟩ h (LR NatR (lload bs)):=by
 intro A g d t o R hA W hR
 refine enterC (n:=0) (binds:=[("octets",.bytes bs.toArray tv)]) [] ["octets","words"] [] [] LKK.load hA W LKK.dom (by intro pm doc;kernel_rfl) (by kernel_rfl) (by kernel_rfl) (by trivial) (by simp) (by trivial) (by kernel_rfl) ?_
 intro h₁ t₁ c l N Q QB H H0 F
 refine bindsC 0 H0 F ?_
 intro h2 t2 N F
 refine bindsNil ⟨h2,t2,_,_,rfl,F,?_⟩
 refine asC (P:=LR NatR (lwords bs)) 1 H F (EvF.toR (listCompR (R:=NatR) (names:=["k"]) (lwords bs) H (by rfl) (by kernel_rfl) (EvIt.range1 (m:=16) H LKK.b_range (.const 16) (by decide)) (by simp [lwords]) (by simp [lwords]) ?_)) ?_
 ·intro C h₀ vs i Ψ z hz' hP hV ok ⟨h3,hψ⟩
  obtain ⟨u,rfl⟩:=hP h3 hψ
  obtain ⟨hi,rfl⟩:=range_at 16 (lword bs) hz'
  refine EvN.toF (EvN.fromLittle ok LKK.b_int LKK.fb (EvF.cutB (cs:=cut bs (4*i) (4*i+4)) (EvF.mono (EvV.toF (EvV.cell (v:=.bytes bs.toArray tv) ok (by rfl) (by rfl) λh F=>(hV h F.phi).news _ (List.mem_cons_self ..))) λw _ e=>⟨tv,e⟩)
   (.of (EvN.mul (.const 4) (.nm 0 ok) 3 4 (by decide) (by trivial) (by decide))) (.of (EvN.add (.mul (.const 4) (.nm 0 ok) 3 4 (by decide) (by trivial) (by decide)) (.const 4))) (by trivial) (picked_cut bs (4*i) (4*i+4))) ?_)
  have:=cut_length_le bs (4*i) (4*i+4)
  lia
 intro vw h3 t3 N F3
 refine retF F3 (P:=LR NatR (lload bs)) ?_ ?_
 ·refine listCompR1 (R:=NatR) (lload bs) H (by rfl) (by intro n;rfl) (by intro n;rfl) (by kernel_rfl) (by intro n;rfl) (EvIt.range1 (m:=4) H LKK.b_range (.const 4) (by decide)) (by simp [lload]) (by simp [lload]) ?_
  ·intro C h₀ v i Ψ z hz' hP hV ok ⟨h4,hψ⟩
   obtain ⟨u,e⟩:=hP h4 hψ
   cases e
   obtain ⟨hi,ez⟩:=range_at 4 (λr=>(lrowL (lwords bs) r).sum) hz'
   rw [ez]
   refine EvN.toF (EvN.sumL (xs:=lrowL (lwords bs) i) ok LKK.b_sum (listCompR (R:=NatR) (names:=["k"]) (lrowL (lwords bs) i) ok (by rfl) (by kernel_rfl) (EvIt.range1 (m:=4) ok LKK.b_range (.const 4) (by decide)) (by simp [lrowL]) (by simp [lrowL]) ?_))
   intro C' h₀' vs' i' Ψ' z' hz'' hP' hV' ok' ⟨h5,hψ'⟩
   obtain ⟨u',rfl⟩:=hP' h5 hψ'
   obtain ⟨hi',ez'⟩:=range_at 4 (λk=>((lwords bs)[(5*k+4*i) % 16]?.getD 0) <<< (64*k)) hz''
   rw [ez']
   have hw:(lwords bs)[(5*i'+4*i) % 16]?=some (lword bs ((5*i'+4*i) % 16)):=by
    unfold lwords
    rw [List.getElem?_map,List.getElem?_range (Nat.mod_lt _ (by decide))];rfl
   rw [hw]
   refine EvN.toF (EvN.shl (EvR.toN (EvR.itemI (R:=NatR) (xs:=lwords bs) (EvV.toRP (EvV.cell (v:=vw) ok' (by rfl) (by rfl) λh F=>(hV h (hV' h F.phi).phi).news _ (List.mem_cons_of_mem _ (List.mem_cons_self ..))) λh y=>(hV h (hV' h y).phi).phi.2)
    (EvN.mod (.add (.mul (.const 5) (.nm 0 ok') 3 2 (by decide) (by trivial) (by decide)) (.mul (.const 4) (EvV.toN (EvV.cell (v:=.int (i:Int) u) ok' (by rfl) (by rfl) λh F=>(hV' h F.phi).news _ (List.mem_cons_self ..))) 3 2 (by decide) (by trivial) (by decide))) (.const 16) (by decide)) ((5*i'+4*i) % 16) (.inl rfl) hw (by simp [lwords])))
    (.mul (.const 64) (.nm 0 ok') 7 2 (by decide) (by trivial) (by decide)) 32 (lword_lt _ _) (by lia))
 ·intro v h' t' F' p
  exact hR v h' t' (F'.growth rfl (Nat.le_refl _)) (p.le F3.size)
end
end
section
noncomputable def sword (rows:List Nat) (k:Nat):Nat:=((rows[(k / 4+4 - k % 4) % 4]?.getD 0) >>> (64*(k % 4))) % 4294967296
noncomputable def swords (rows:List Nat):List Nat:=(List.range 16).map (sword rows)
noncomputable def lstore (rows:List Nat):List UInt8:=((swords rows).map (toLE 4)).flatten
theorem lstore_length (rows:List Nat):(lstore rows).length=64:=by
 unfold lstore
 rw [List.length_flatten,List.map_map]
 have:(List.map (List.length ∘ toLE 4) (swords rows))=(swords rows).map λ_=>4:=List.map_congr_left λx _=>toLE_length 4 x
 rw [this]
 unfold swords
 rw [List.map_map]
 rfl
theorem sub4 (a b:Int):a - b=a+4 - b - 4:=by lia
theorem map_at {α β:Type} {f:α→β} {xs:List α} {y:β} (e:(xs.map f)[i]?=some y):∃x,xs[i]?=some x∧y=f x:=by
 let ⟨x,h,q⟩:=Option.map_eq_some_iff.mp (List.getElem?_map.symm.trans e)
 exact ⟨x,h,q.symm⟩
section
set_option maxHeartbeats 600000
theorem law_store (LKK:LK K mg mb) (hv:LR NatR rows v h) (hr:rows.length=4) :
  FnAt prog w K mg mb 1 216 ⟨[v],[]⟩ h (BR (lstore rows)):=by
 intro A g d t o R hA W hR
 refine enterC (n:=0) (binds:=[("rows",v)]) ["words"] ["rows"] [] [] LKK.store hA W LKK.dom (by intro pm doc;kernel_rfl) (by kernel_rfl) (by kernel_rfl) (by trivial) (by simp) (by trivial) (by kernel_rfl) ?_
 intro h₁ t₁ c l N Q QB H H0 F
 refine bindsC 0 H0 F ?_
 intro h2 t2 N F
 refine bindsNil ⟨h2,t2,_,_,rfl,F,?_⟩
 have F:=F.base ((LR.mono NatR.mono).stands hv) (Nat.le_refl _)
 refine asCompR (R:=NatR) (names:=["k"]) 0 (swords rows) H F (by rfl) (by kernel_rfl) (EvIt.range1 (m:=16) H LKK.b_range (.const 16) (by decide)) (by simp [swords]) (by simp [swords]) ?_ ?_
 ·intro C h₀ vs i Ψ z hz' hP hV ok ⟨h3,hψ⟩
  obtain ⟨u,rfl⟩:=hP h3 hψ
  obtain ⟨hi,ez⟩:=range_at 16 (sword rows) hz'
  rw [ez]
  have hw:rows[(i / 4+4 - i % 4) % 4]?=some (rows[(i / 4+4 - i % 4) % 4]?.getD 0):=by
   rw [List.getElem?_eq_getElem (by rw [hr];exact Nat.mod_lt _ (by decide))];rfl
  unfold sword
  refine EvN.toF (EvN.mod (.shr (EvR.toN (EvR.itemI (R:=NatR) (xs:=rows) (EvV.toRP (EvV.cell (v:=v) ok (by rfl) (by rfl) λh F=>(hV h F.phi).news _ (List.mem_cons_self ..)) λh y=>(hV h y).phi.2)
   (EvI.cast (EvI.mod (.sub (EvN.div (.nm 0 ok) (.const 4) (by decide) (by decide)) (EvN.mod (.nm 0 ok) (.const 4) (by decide))) .const (by decide)) ?_) ((i / 4+4 - i % 4) % 4) (.inl rfl) hw (by rw [hr];decide)))
   (.mul (.const 64) (.mod (.nm 0 ok) (.const 4) (by decide)) 7 2 (by decide) (Nat.mod_lt _ (by decide)) (by decide))) (.const 4294967296) (by decide))
  have e:((i / 4:Nat):Int) - ((i % 4:Nat):Int)=((i / 4+4 - i % 4:Nat):Int) - 4:=by
   rw [Int.ofNat_sub (Nat.le_trans (Nat.le_of_lt (Nat.mod_lt i (by decide))) (Nat.le_add_left 4 _)),Int.natCast_add];exact sub4 _ _
  show (((i / 4:Nat):Int) - ((i % 4:Nat):Int)).fmod 4=_
  rw [Int.fmod_eq_emod_of_nonneg _ (by decide),e,Int.sub_emod_right];rfl
 intro vw h3 t3 l F3
 refine retF F3 (P:=BR (lstore rows)) ?_ ?_
 ·refine EvF.joinB (EvF.toR (listCompR (R:=BR) (names:=["word"]) ((swords rows).map (toLE 4)) H (by rfl) (by kernel_rfl) (EvIt.list (R:=NatR) (xs:=swords rows) H (EvV.toRP (.nm 0 H rfl) λ_ y=>y.2.here)) (by trivial) (by simp [swords]) ?_)) ?_ (by simp [swords])
  ·intro C h₀ vs i Ψ z hz' hP hV ok ⟨h4,hψ⟩
   obtain ⟨_,x,rfl,hx,u,rfl⟩:=hP h4 hψ
   obtain ⟨x',hx',ez⟩:=map_at hz'
   rw [hx] at hx';cases hx'
   rw [ez]
   obtain ⟨hi,ex⟩:=range_at 16 (sword rows) hx
   refine EvF.toB (x:=x) (k:=4) (.nm 0 ok) (.const 4) λ{_ _ _ _ _ _} r=>TBx.to_little (by decide) ?_ r
   rw [ex]
   exact Nat.mod_lt _ (by decide)
  ·have:=lstore_length rows
   exact Nat.le_trans (Nat.le_of_eq this) (by decide)
 ·intro v h' t' F' p
  exact hR v h' t' (F'.growth rfl (Nat.le_refl _)) (p.le F3.size)
end
end
section
noncomputable def lchunks (bs:List UInt8) (m:Nat):List (List Nat):=(List.range m).map λi=>lload (cut bs (64*i) (64*i+64))
noncomputable def lB (b0:List (List Nat)):Nat→List (List Nat)
 | 0=>b0
 | i+1=>lblocks (lB b0 i)
noncomputable def lIdx (bs:List (List Nat)) (n:Nat):Nat:=(bs.getLast?.getD [])[0]?.getD 0 % 4294967296 % n
noncomputable def lX (b0:List (List Nat)) (n:Nat):Nat→List (List Nat)
 | 0=>lB b0 n
 | i+1=>lblocks (List.zipWith xorL (lX b0 n i) (lB b0 (lIdx (lX b0 n i) n)))
noncomputable def lmixed (bs:List UInt8) (m n:Nat):List UInt8:=((lX (lchunks bs m) n n).map lstore).flatten
noncomputable def BlkOk (m:Nat) (bs:List (List Nat)):Prop:=bs.length=m∧∀b∈bs,RowOk b
theorem two4 (h:m=2∨m=4):0<m∧m≤4:=or2 (P:=λm=>0<m∧m≤4) h (by decide) (by decide)
theorem sum_const {α:Type} (k:Nat):∀l:List α,(l.map λ_=>k).sum=k*l.length
 | []=>rfl
 | _::l=>by rw [List.map_cons,List.sum_cons,sum_const k l,List.length_cons,Nat.mul_succ];lia
theorem RowOk.load (bs:List UInt8):RowOk (lload bs):=by
 refine ⟨by simp [lload],λx hx=>?_⟩
 obtain ⟨i,hi⟩:=List.mem_iff_getElem?.mp hx
 obtain ⟨_,e⟩:=range_at 4 (λr=>(lrowL (lwords bs) r).sum) hi
 have hw:∀j:Nat,(lwords bs)[j]?.getD 0<2 ^ 32:=λj=>by
  cases e:(lwords bs)[j]? with
  | none=>exact Nat.two_pow_pos 32
  | some z=>obtain ⟨_,ez⟩:=range_at 16 (lword bs) e;rw [Option.getD_some,ez];exact lword_lt _ _
 rw [e]
 show (lrowL (lwords bs) i).sum<2 ^ 256
 have hb:∀ {x k:Nat},x<2 ^ 32→k≤192→x <<< k<2 ^ 224:=λ{x k} hx hk=>by
  rw [Nat.shiftLeft_eq]
  exact Nat.lt_of_lt_of_le (Nat.mul_lt_mul_of_pos_right hx (Nat.two_pow_pos k)) (Nat.mul_le_mul_left _ (Nat.pow_le_pow_right (by decide) hk))
 have h0:=hw ((5*0+4*i) % 16)
 have h1:=hw ((5*1+4*i) % 16)
 have h2:=hw ((5*2+4*i) % 16)
 have h3:=hw ((5*3+4*i) % 16)
 have es:(lrowL (lwords bs) i).sum=(lwords bs)[(5*0+4*i) % 16]?.getD 0 <<< (64*0)+((lwords bs)[(5*1+4*i) % 16]?.getD 0 <<< (64*1)+((lwords bs)[(5*2+4*i) % 16]?.getD 0 <<< (64*2)+((lwords bs)[(5*3+4*i) % 16]?.getD 0 <<< (64*3)+0))):=rfl
 rw [es]
 exact Nat.lt_of_lt_of_le (Nat.add_lt_add (hb h0 (by decide)) (Nat.add_lt_add (hb h1 (by decide)) (Nat.add_lt_add (hb h2 (by decide)) (hb h3 (by decide))))) (by decide)
theorem pick2a {α:Type} (x y:α):pickL [x,y] none none (some 2)=[x]:=by kernel_rfl
theorem pick2b {α:Type} (x y:α):pickL [x,y] (some 1) none (some 2)=[y]:=by kernel_rfl
theorem pick4a {α:Type} (x y z w:α):pickL [x,y,z,w] none none (some 2)=[x,z]:=by kernel_rfl
theorem pick4b {α:Type} (x y z w:α):pickL [x,y,z,w] (some 1) none (some 2)=[y,w]:=by kernel_rfl
theorem lfound_mem {bs:List (List Nat)}:∀i,i≤bs.length→∀b∈(lfound bs i).2,RowOk b
 | 0,_=>by simp [lfound]
 | i+1,h=>by
  rw [lfound_succ (List.getElem?_eq_getElem (by trivial:i<bs.length))]
  intro b hb
  rcases List.mem_append.mp hb with hb | hb
  ·exact lfound_mem i (by trivial) b hb
  ·rw [List.mem_singleton.mp hb];exact RowOk.sal _
theorem BlkOk.blocks {bs:List (List Nat)} (h:BlkOk m bs) (hm:m=2∨m=4):BlkOk m (lblocks bs):=by
 have hl:=lfound_len (bs:=bs) bs.length (Nat.le_refl _)
 have hmem:=lfound_mem (bs:=bs) bs.length (Nat.le_refl _)
 unfold lblocks
 generalize (lfound bs bs.length).2=f at hl hmem
 rw [h.1] at hl
 rcases hm with rfl | rfl
 ·match f,hl with
  | [x,y],_=>rw [pick2a,pick2b];exact ⟨rfl,λb hb=>hmem b (by simpa using hb)⟩
 ·match f,hl with
  | [x,y,z,w],_ =>
   rw [pick4a,pick4b]
   refine ⟨rfl,λb hb=>hmem b ?_⟩
   simp only [List.cons_append,List.nil_append,List.mem_cons,List.not_mem_nil,or_false] at hb ⊢
   rcases hb with h | h | h | h<;>simp [h]
theorem BlkOk.chunks (bs:List UInt8) (m:Nat):BlkOk m (lchunks bs m):=by
 refine ⟨by simp [lchunks],λb hb=>?_⟩
 obtain ⟨i,hi⟩:=List.mem_iff_getElem?.mp hb
 obtain ⟨_,e⟩:=range_at m (λi=>lload (cut bs (64*i) (64*i+64))) hi
 rw [e];exact RowOk.load _
theorem BlkOk.lB {b0:List (List Nat)} (h:BlkOk m b0) (hm:m=2∨m=4):∀i,BlkOk m (lB b0 i)
 | 0=>h
 | i+1=>(BlkOk.lB h hm i).blocks hm
theorem BlkOk.zip {a b:List (List Nat)} (h:BlkOk m a) (h':BlkOk m b):BlkOk m (List.zipWith xorL a b):=by
 refine ⟨by simp [h.1,h'.1],λx hx=>?_⟩
 obtain ⟨i,hi⟩:=List.mem_iff_getElem?.mp hx
 obtain ⟨u,v,e1,e2,rfl⟩:=zipWith_at hi
 exact (h.2 _ (List.mem_of_getElem? e1)).xor (h'.2 _ (List.mem_of_getElem? e2))
theorem BlkOk.lX {b0:List (List Nat)} (h:BlkOk m b0) (hm:m=2∨m=4):∀i,BlkOk m (lX b0 n i)
 | 0=>h.lB hm n
 | i+1=>((BlkOk.lX h hm i).zip (h.lB hm _)).blocks hm
section
theorem EvF.blk (LKK:LK c.K c.mg c.mb) (H:c.Ok (n+4)) {bs:List (List Nat)} (h1:EvR c l N Φ e1 (LR (LR NatR) bs)) (hb:BlkOk m bs) (hm:m=2∨m=4)
  (hl:Glo c.env "_law_blocks":=by rfl)
  (s1:Unst e1 [] c.env:=by rfl)
  (hp:Plain pos [e1] c.env:=by rfl)
  (he:CallIs "_law_blocks" np [e1] pos c.env:=by rfl) :
  EvF c l N Φ (.Call (.Name "_law_blocks" np) [e1] [] pos) (LR (LR NatR) (lblocks bs)) :=
 EvF.call H LKK.gblocks LKK.blocks (.cons h1 .nil s1) (λvs h _ hP=>by
  obtain ⟨v,vs,rfl,hv,rfl⟩:=hP
  exact law_blocks LKK hv hb.2 (λe=>absurd ((congrArg List.length e).symm.trans hb.1) (Nat.ne_of_lt (two4 hm).1)) (Nat.le_trans (Nat.le_of_eq hb.1) (Nat.le_trans (two4 hm).2 (by decide)))) (Nat.le_add_left 4 n) hl (by decide) hp he
set_option maxHeartbeats 1000000
theorem law_mixed (LKK:LK K mg mb) {tv:Tok} (hz:bs.length=64*m) (hm:m=2∨m=4) (hn:0<n) (hn':n≤1000) :
  FnAt prog w K mg mb 5 252 ⟨[.bytes bs.toArray tv,.int (n:Int) un],[]⟩ h (BR (lmixed bs m n)):=by
 intro A g d t o R hA W hR
 refine enterC (n:=4) (binds:=[("octets",.bytes bs.toArray tv),("n",.int (n:Int) un)]) ["n","k","blocks","kept","chosen"] ["octets"] [] [] LKK.mixed hA W LKK.dom (by intro pm doc;kernel_rfl) (by kernel_rfl) (by kernel_rfl) (by trivial) (by simp) (by trivial) (by kernel_rfl) ?_
 intro h₁ t₁ c l N Q QB H H0 F
 refine bindsC 0 H0 F ?_
 intro h2 t2 N F
 refine bindsL 0 H0 F ?_
 intro h2 t2 l F
 refine bindsNil ⟨h2,t2,_,_,rfl,F,?_⟩
 have hm4:=two4 hm
 have hch:=BlkOk.chunks bs m
 refine asCompR (R:=LR NatR) (names:=["k"]) 2 (lchunks bs m) H F (by rfl) (by kernel_rfl)
  (EvIt.range3 (a:=0) (b:=bs.length) (cc:=64) (m:=m) H LKK.b_range (.const 0) (EvN.lenB H LKK.b_len (EvF.mono (EvV.toF (EvV.cellN 0 H)) λw _ e=>⟨tv,e⟩) (by lia)) (.const 64) (by decide) (by lia) (by decide) (by decide) (by rw [hz,Nat.sub_zero,Nat.mul_add_div (by decide)];rfl)) hch.1.symm (by rw [hch.1];exact Nat.le_trans hm4.2 (by decide)) ?_ ?_
 ·intro C h₀ vs i Ψ z hz' hP hV ok ⟨h3,hψ⟩
  obtain ⟨u,rfl⟩:=hP h3 hψ
  obtain ⟨hi,ez⟩:=range_at m (λi=>lload (cut bs (64*i) (64*i+64))) hz'
  rw [ez,show ((0+i*64:Nat):Int)=((64*i:Nat):Int) by lia]
  have hcl:=cut_length_le bs (64*i) (64*i+64)
  refine EvF.call (m:=1) ok LKK.gload LKK.load (.cons (EvF.toR (EvF.cutB (cs:=cut bs (64*i) (64*i+64)) (EvF.mono (EvV.toF (EvV.cell (v:=.bytes bs.toArray tv) ok (by rfl) (by rfl) λh F=>(hV h F.phi).news _ (List.mem_cons_self ..))) λw _ e=>⟨tv,e⟩)
   (.of (EvN.nm 0 ok)) (.of (EvN.add (.nm 0 ok) (.const 64))) (by lia) (picked_cut bs (64*i) (64*i+64)))) .nil) (λvs h _ hP=>?_) (by decide)
  obtain ⟨v,_,rfl,⟨tb,rfl⟩,rfl⟩:=hP
  exact law_load LKK (by lia)
 intro vb h3 t3 l F3
 refine asNewList 3 H F3 ?_
 intro ka h4 t4 F4
 refine forT 1 (λi (b:Value×Option Value×List Value×Nat)=>[("n",some (.int (n:Int) un)),("k",b.2.1),("blocks",some b.1),("kept",some (.ref ka)),("chosen",none)]) (λi b=>[(h.objs.size+1,cobj (some (.bytes bs.toArray tv))),(ka,lobj b.2.2.1 b.2.2.2)])
  (λi b h'=>LR (LR NatR) (lB (lchunks bs m) i) b.1 h'∧RL (LR (LR NatR)) ((List.range i).map (lB (lchunks bs m))) b.2.2.1 h') (vb,none,[],0)
  H (F4.weaken (Φ':=λh'=>LR (LR NatR) (lB (lchunks bs m) 0) vb h'∧RL (LR (LR NatR)) ((List.range 0).map (lB (lchunks bs m))) [] h') λh' y=>⟨y.2.here,RL.nil⟩)
  (EvIt.range1 (m:=n) H LKK.b_range (.nm 0 H) (by trivial)) (λi b=>⟨b.2.1,rfl⟩) ?_ ?_
 ·rintro h' S X i ⟨vb,tw,ys,k⟩ Ψ hh t v' hz' H ilt hP l N F
  have hyl:ys.length≤1000:=by
   have:=F.phi.1.2.1
   simp only [List.length_map,List.length_range] at this
   lia
  refine appendS 1 3 H F (P:=LR (LR NatR) (lB (lchunks bs m) i)) (EvV.toRP (.nm 2 H rfl) λ_ y=>y.1.1) (λv h6 t6 F6=>?_) rfl rfl (by trivial)
  refine asR 2 H F6 (P:=LR (LR NatR) (lB (lchunks bs m) (i+1))) (EvF.toR (EvF.blk LKK H (EvV.toRP (.nm 2 H rfl) λ_ y=>y.1.1.1) (hch.lB hm i) hm)) ?_
  intro v2 h7 t7 l F7
  refine wpAny_execs_nil ⟨rfl,(v2,_,ys++[v],k+1),h7,t7,rfl,F7.weaken λh y=>⟨⟨y.2,?_⟩,y.1.1.2⟩⟩
  rw [List.range_succ,List.map_append]
  exact RL.append y.1.1.1.2 (RL.cons y.1.2 RL.nil)
 ·rintro ⟨vb,tw,ys,k⟩ h5 t5 l N F5
  have F6:=(SS.freeze F5).weaken (Φ':=λh'=>LR (LR NatR) (lX (lchunks bs m) n 0) vb h'∧LR (LR (LR NatR)) ((List.range n).map (lB (lchunks bs m))) (.ref ka) h') λh' y=>⟨y.1.1,ka,ys,k,rfl,y.2 (ka,lobj ys k) (List.mem_cons_of_mem _ (List.mem_cons_self ..)),y.1.2⟩
  refine forT 1 (λi (b:Value×Option Value×Option Value)=>[("n",some (.int (n:Int) un)),("k",b.2.1),("blocks",some b.1),("kept",some (.ref ka)),("chosen",b.2.2)]) (λ_ _=>[]) (λi b h'=>LR (LR NatR) (lX (lchunks bs m) n i) b.1 h'∧LR (LR (LR NatR)) ((List.range n).map (lB (lchunks bs m))) (.ref ka) h') (vb,tw,none)
   H F6 (EvIt.range1 (m:=n) H LKK.b_range (.nm 0 H) (by trivial)) (λi b=>⟨b.2.1,rfl⟩) ?_ ?_
  ·rintro h' S X i ⟨vb,tw,tc⟩ Ψ hh t v' hz' H ilt hP l N F
   have hX:=hch.lX (n:=n) hm i
   have hne:lX (lchunks bs m) n i≠[]:=λe=>absurd ((congrArg List.length e).symm.trans hX.1) (Nat.ne_of_lt hm4.1)
   have hj:lIdx (lX (lchunks bs m) n i) n<n:=Nat.mod_lt _ hn
   have hxs:((List.range n).map (lB (lchunks bs m)))[lIdx (lX (lchunks bs m) n i) n]?=some (lB (lchunks bs m) (lIdx (lX (lchunks bs m) n i) n)):=by
    rw [List.getElem?_map,List.getElem?_range hj];rfl
   have hlast:(lX (lchunks bs m) n i)[m - 1]?=some ((lX (lchunks bs m) n i).getLast hne):=by
    rw [show m - 1=(lX (lchunks bs m) n i).length - 1 by rw [hX.1],List.getLast_eq_getElem,List.getElem?_eq_getElem (Nat.sub_lt (hX.1.symm▸hm4.1) (by decide))]
   have hrow:=hX.2 _ (List.getLast_mem hne)
   have h0':((lX (lchunks bs m) n i).getLast hne)[0]?=some (((lX (lchunks bs m) n i).getLast?.getD [])[0]?.getD 0):=by
    rw [List.getLast?_eq_some_getLast hne,Option.getD_some,List.getElem?_eq_getElem (by rw [hrow.1];decide)];rfl
   refine asR 4 H F (P:=LR (LR NatR) (lB (lchunks bs m) (lIdx (lX (lchunks bs m) n i) n))) (EvR.itemI (R:=LR (LR NatR)) (xs:=(List.range n).map (lB (lchunks bs m))) (k:=(lIdx (lX (lchunks bs m) n i) n:Nat)) (EvV.toRP (.nm 3 H rfl) λ_ y=>y.1.2)
    (EvN.mod (.mod (EvR.toN (EvR.itemI (R:=NatR) (k:=0) (EvR.itemI (R:=LR NatR) (k := -1) (EvV.toRP (.nm 2 H rfl) λ_ y=>y.1.1) (.neg .const) (m - 1) (.inr (by rw [hX.1];lia)) hlast (by rw [hX.1];lia)) .const 0 (.inl rfl) h0' (by rw [hrow.1];decide))) (.const 4294967296) (by decide)) (.nm 0 H) (by trivial))
    (lIdx (lX (lchunks bs m) n i) n) (.inl rfl) hxs (by simp;lia)) (λvc h7 t7 F7=>?_)
   refine asR 2 H F7 (P:=LR (LR NatR) (lX (lchunks bs m) n (i+1))) (EvF.toR (EvF.blk LKK H (EvF.toR (listCompR (cl:=[]) (R:=LR NatR) (names:=["one","two"]) (List.zipWith xorL (lX (lchunks bs m) n i) (lB (lchunks bs m) (lIdx (lX (lchunks bs m) n i) n))) H (by rfl) (by kernel_rfl)
    (EvIt.zip (R:=LR NatR) (R':=LR NatR) H LKK.b_zip (EvV.toRP (.nm 2 H rfl) λ_ y=>y.1.1.1) (EvV.toRP (.nm 4 H rfl) λ_ y=>y.2) rfl) (by simp) (by rw [List.length_zipWith,hX.1];exact Nat.le_trans (Nat.min_le_left _ _) (Nat.le_trans hm4.2 (by decide))) ?_)) (hX.zip (hch.lB hm _)) hm)) (λv2 h8 t8 F8=>?_)
   ·intro C h₀ vs i' Ψ' z hz'' hP' hV' ok ⟨h9,hψ⟩
    obtain ⟨v1,v2,a,b,rfl,e1,e2,_,_⟩:=hP' h9 hψ
    obtain ⟨a',b',e1',e2',rfl⟩:=zipWith_at hz''
    rw [e1] at e1';rw [e2] at e2'
    cases e1';cases e2'
    refine EvF.cross LKK ok (EvV.toRP (.nm 0 ok rfl) λh y=>?_) (EvV.toRP (.nm 1 ok rfl) λh y=>?_) (by have:=(hX.2 _ (List.mem_of_getElem? e1)).1;lia)
    ·obtain ⟨_,_,a',b',e,e1',_,r,_⟩:=hP' h y
     simp only [List.cons.injEq,and_true] at e
     obtain ⟨rfl,rfl⟩:=e
     rw [e1] at e1';cases e1';exact r
    ·obtain ⟨_,_,a',b',e,_,e2',_,r⟩:=hP' h y
     simp only [List.cons.injEq,and_true] at e
     obtain ⟨rfl,rfl⟩:=e
     rw [e2] at e2';cases e2';exact r
   ·exact wpAny_execs_nil ⟨rfl,(v2,_,_),h8,t8,rfl,F8.weaken λh y=>⟨⟨y.2,y.1.1.1.2⟩,y.1.1.2⟩⟩
  ·rintro ⟨vb,tw,tc⟩ h6 t6 l N F7
   have hX:=hch.lX (n:=n) hm n
   refine retF F7 (P:=BR (lmixed bs m n)) ?_ ?_
   ·refine EvF.joinB (EvF.toR (listCompR (cl:=[]) (R:=BR) (names:=["rows"]) ((lX (lchunks bs m) n n).map lstore) H (by rfl) (by kernel_rfl) (EvIt.list (R:=LR NatR) (xs:=lX (lchunks bs m) n n) H (EvV.toRP (.nm 2 H rfl) λ_ y=>y.1)) (by simp) (by rw [List.length_map,hX.1];lia) ?_)) ?_ (by rw [List.length_map,hX.1];lia)
    ·intro C h₀ vs i Ψ z hz' hP hV ok ⟨h4,hψ⟩
     obtain ⟨v,x,rfl,hx,_⟩:=hP h4 hψ
     obtain ⟨x',hx',ez⟩:=map_at hz'
     rw [hx] at hx';cases hx'
     rw [ez]
     refine EvF.call (m:=1) ok LKK.gstore LKK.store (.cons (P:=LR NatR x) (EvV.toRP (.nm 0 ok rfl) λh y=>?_) .nil) (λvs h _ hP=>?_) (by decide)
     ·obtain ⟨_,x',e,hx',r⟩:=hP h y
      cases e;rw [hx] at hx';cases hx';exact r
     ·obtain ⟨v,_,rfl,r,rfl⟩:=hP
      exact law_store LKK r (hX.2 _ (List.mem_of_getElem? hx)).1
    ·rw [List.length_flatten,List.map_map]
     have:(List.map (List.length ∘ lstore) (lX (lchunks bs m) n n))=(lX (lchunks bs m) n n).map λ_=>64:=List.map_congr_left λx _=>lstore_length x
     rw [this,sum_const,hX.1]
     lia
   ·intro v h' t' F' p
    exact hR v h' t' (F'.growth rfl (Nat.le_refl _)) (p.le F7.size)
end
end
section
section
noncomputable def EvT (c:Cx) (l:LS) (N:LN) (Φ:HP) (e:Expr) (b:Bool):Prop :=
 ∀Φ':HP,(∀h,Φ' h→Φ h)→∀h t (Q:Bool→Shared→Prop) (E:VQ),c.SS l N Φ' h→(∀h' t',c.SS l N Φ' h'→Q b (c.st h' t'))→c.wp (isTrue e c.env (eval e c.env)) Q E (c.st h t)
theorem EvT.cast {a b:Bool} (x:EvT c l N Φ e a) (h:a=b):EvT c l N Φ e b:=h▸x
theorem EvT.cmp {op:CmpOp} {a b:Int} {r:Bool} (h1:EvI c l N Φ e1 a) (h2:EvI c l N Φ e2 b)
  (hop:∀u u' (s:Shared) (Q:VQ) (E:VQ),Q (.bool r) s→c.wp (compareOp op (.int a u) (.int b u')) Q E s)
  (hm:behindInMarks op e2=false:=by with_unfolding_all rfl):EvT c l N Φ (.Compare e1 [op] [e2] pos) r:=λΦ' k h t Q E F hQ =>
 wpAny_isTrue_Compare1 (h1 _ k h t _ _ F λu h1 t1 F1=>h2 _ k h1 t1 _ _ F1 λu' h2 t2 F2=>hop u u' _ _ _ (wpAny_truthy_bool (hQ h2 t2 F2))) hm
theorem EvT.lt {a b:Int} (h1:EvI c l N Φ e1 a) (h2:EvI c l N Φ e2 b) (hm:behindInMarks .Lt e2=false:=by with_unfolding_all rfl):EvT c l N Φ (.Compare e1 [.Lt] [e2] pos) (decide (a<b)) :=
 .cmp h1 h2 (λ_ _ _ _ _ h=>PyProof.Rows.lt_int h) hm
theorem EvT.gt {a b:Int} (h1:EvI c l N Φ e1 a) (h2:EvI c l N Φ e2 b) (hm:behindInMarks .Gt e2=false:=by with_unfolding_all rfl):EvT c l N Φ (.Compare e1 [.Gt] [e2] pos) (decide (b<a)) :=
 .cmp h1 h2 (λ_ _ _ _ _ h=>PyProof.Rows.gt_int h) hm
theorem EvT.eq {a b:Int} (h1:EvI c l N Φ e1 a) (h2:EvI c l N Φ e2 b) (hm:behindInMarks .Eq e2=false:=by with_unfolding_all rfl):EvT c l N Φ (.Compare e1 [.Eq] [e2] pos) (a == b) :=
 .cmp h1 h2 (λ_ _ _ _ _ h=>PyProof.Rows.eq_int h) hm
noncomputable def StrR (x:Str) (v:Value) (_:Heap):Prop:=∃u,v = .str x u
theorem EvT.eqS {a b:Str} (h1:EvF c l N Φ e1 (StrR a)) (h2:EvF c l N Φ e2 (StrR b)) (hm:behindInMarks .Eq e2=false:=by with_unfolding_all rfl):EvT c l N Φ (.Compare e1 [.Eq] [e2] pos) (a == b):=λΦ' k h t Q E F hQ =>
 wpAny_isTrue_Compare1 (h1 _ k h t _ _ F λv h1 t1 F1 _ p1=>h2 _ k h1 t1 _ _ F1 λw h2 t2 F2 _ p2=>by
  obtain ⟨u,rfl⟩:=p1.here
  obtain ⟨u',rfl⟩:=p2.here
  exact PyProof.Rows.eq_str (wpAny_truthy_bool (hQ h2 t2 F2))) hm
theorem EvT.and {a b:Bool} (x1:EvT c l N Φ e1 a) (x2:EvT c l N Φ e2 b):EvT c l N Φ (.BoolOp .And [e1,e2] pos) (a && b):=λΦ' k h t Q E F hQ =>
 wpAny_isTrue_BoolOp (wpAny_allTrue_And_cons (x1 _ k h t _ _ F λg1 t1 F1=>by
  cases a with
  | false=>exact hQ g1 t1 F1
  | true=>exact wpAny_allTrue_And_cons (x2 _ k g1 t1 _ _ F1 λg2 t2 F2=>by
    cases b with
    | false=>exact hQ g2 t2 F2
    | true=>exact wpAny_allTrue_And_nil (hQ g2 t2 F2))))
theorem EvF.ifexp {test body:Expr} {b:Bool} {P:VH} (x1:EvT c l N Φ test b) (x2:b=true→EvF c l N Φ body P) (x3:b=false→EvF c l N Φ orelse P):EvF c l N Φ (.IfExp test body orelse pos) P:=λΦ' k h t Q E F hQ =>
 wpAny_IfExp (wpAny_with_size (Nat.le_refl _) (x1 _ k h t _ _ F λg t1 F1 hz=>by
  cases b with
  | true=>exact x2 rfl _ k g t1 _ _ F1 λv g2 t2 F2 hz2 p=>hQ v g2 t2 F2 (Nat.le_trans hz hz2) (p.le hz)
  | false=>exact x3 rfl _ k g t1 _ _ F1 λv g2 t2 F2 hz2 p=>hQ v g2 t2 F2 (Nat.le_trans hz hz2) (p.le hz)))
theorem EvI.pow {a b:Int} (h1:EvI c l N Φ e1 a) (h2:EvI c l N Φ e2 b) (ha:1<a) (hb:0<b) (hf:Builtin.Int.intTooBig (((Builtin.Int.intBits a:Nat):Int)*b)=false):EvI c l N Φ (.BinOp e1 .Pow e2 pos) (a ^ b.toNat) :=
 .bin h1 h2 λ_ _ _ h t _ _ F hQ=>AutoIntOps.pow_4 (by lia) (by simp;lia) (by simp;lia) (by simp;lia) (by rw [hf];decide) (hQ t h (t+1) F)
theorem iadd_bytes {d:List UInt8} {t:Tok} {Q:VQ} (hsz:b.length+d.length≤16777216) (h:∀t' k,Q (.bytes (b++d).toArray t') { s with toks:=k }) :
  wpAny (model prog w) A (inplaceOp .Add (.bytes b.toArray t) (.bytes d.toArray u)) Q E s:=by
 refine iconcat_gives (typeIs_bytes s _ t) (typeIs_bytes s _ u) (by rw [typeLookup_type,builtinLookup_eq_fast];kernel_rfl) KBy.noFill_bytes_add KBy.seq_bytes_add FB.slot_bytes_add FB.entry_bytes_add (FB.args_bytes_add_2 _ _) (KBy.gives_bytes_add (KBy.tooLong_not (by simpa using hsz))) ?_
 by_cases hb:b.toArray.isEmpty=true
 ·rw [if_pos hb]
  have e:b=[]:=by simpa using hb
  have h':=h u s.toks
  rw [e,List.nil_append] at h'
  exact h'
 ·rw [if_neg hb]
  by_cases hc:d.toArray.isEmpty=true
  ·rw [if_pos hc]
   have e:d=[]:=by simpa using hc
   have h':=h t s.toks
   rw [e,List.append_nil] at h'
   exact h'
  ·rw [if_neg hc]
   have h':=h s.toks (s.toks+1)
   refine ⟨?_,?_⟩
   ·simp only [Array.size_append,List.size_toArray]
    exact Nat.le_trans hsz (by decide)
   ·rw [List.append_toArray];exact h'
theorem augB {a:List UInt8} (i:Nat) (H:c.Ok n) (F:c.SS l N Φ h) (he:EvF c l N Φ e (BR b)) (hz:a.length+b.length≤100000)
  (hQ:∀u h' t',let l':=l.set i (x,some (.bytes (a++b).toArray u));c.SS l' N Φ h'→c.wp (execs rest c.env) Q E (c.st h' t'))
  (hi:l[i]?=some (x,some (.bytes a.toArray u)):=by rfl) (hl:Loc c.env x:=by rfl) :
  c.wp (execs (.AugAssign (.Name x p') .Add e pos::rest) c.env) Q E (c.st h t) :=
 wpAny_execs_cons (wpAny_AugAssign_Name (ldn H F hi (he _ (λ_ x=>x) h t _ _ F λv h1 t1 F1 _ p=>by
  obtain ⟨u',rfl⟩:=p.here
  exact iadd_bytes (by trivial) λt' k'=>stn H F1 hi (λh2 F2=>hQ t' h2 _ F2) hl) hl))
end
end
section
noncomputable def KC:Nat:=210306068529402873165736369884012333108
noncomputable def KP:Nat:=2 ^ 255 - 19
noncomputable def kseed (secret salt:List UInt8) (keylen:Nat):Nat→Nat
 | 0=>beN ([1]++secret++[0]++salt)*4+1
 | i+1=>(kseed secret salt keylen i*KC+keylen+1) % KP
noncomputable def kfound (secret salt:List UInt8) (keylen:Nat):Nat→List UInt8
 | 0=>[]
 | i+1=>kfound secret salt keylen i++toBE 32 (kseed secret salt keylen (i+1))
noncomputable def lkdf (secret salt:List UInt8) (keylen:Nat):List UInt8:=(kfound secret salt keylen ((keylen+31) / 32)).take keylen
theorem kfound_length (secret salt:List UInt8) (keylen:Nat):∀i,(kfound secret salt keylen i).length=32*i
 | 0=>rfl
 | i+1=>by simp only [kfound,List.length_append,kfound_length secret salt keylen i,toBE_length];lia
theorem lkdf_length (secret salt:List UInt8) (keylen:Nat):(lkdf secret salt keylen).length=keylen:=by
 unfold lkdf
 rw [List.length_take,kfound_length]
 lia
theorem kseed_lt (h1:secret.length≤1000) (h2:salt.length≤1000):∀i,kseed secret salt keylen i<2 ^ 20000
 | 0=>by
  have:=beN_lt ([1]++secret++[0]++salt)
  rw [FBx.pow256] at this
  have hl:8*([1]++secret++[0]++salt).length≤16016:=by simp only [List.length_append,List.length_cons,List.length_nil];lia
  have h3:2 ^ (8*([1]++secret++[0]++salt).length)≤2 ^ 16016:=Nat.pow_le_pow_right (by decide) hl
  have h4:(2:Nat) ^ 20000=2 ^ 16016*2 ^ 3984:=by rw [←Nat.pow_add]
  have h5:2 ^ 3≤2 ^ 3984:=Nat.pow_le_pow_right (by decide) (by decide)
  unfold kseed
  rw [h4]
  omega
 | i+1=>by
  have h1:kseed secret salt keylen (i+1)<KP:=Nat.mod_lt _ (by decide +kernel)
  have h2:KP≤2 ^ 255:=Nat.sub_le _ _
  have h3:2 ^ 255≤2 ^ 20000:=Nat.pow_le_pow_right (by decide) (by decide)
  omega
section
theorem EvN.fromBig (H:c.Ok n) (hb:c.mg "int"=none∧c.mb "int"=some (.type "int")) (hK:FBok c.K) (he:EvF c l N Φ e (BR bs)) (hz:bs.length≤100000)
  (hl:Glo c.env "int":=by rfl)
  (s1:Unst e [.Constant (.str "big") kk kp] c.env:=by rfl)
  (s2:Unst (.Constant (.str "big") kk kp) [] c.env:=by rfl)
  (hplain:Plain pos [e,.Constant (.str "big") kk kp] c.env:=by rfl)
  (hev:eval (.Call (.Attribute (.Name "int" np) "from_bytes" ap) [e,.Constant (.str "big") kk kp] [] pos) c.env=(do
   let ov←eval (.Name "int" np) c.env
   standAt ap.atName
   let (f,first)←holding [ov] (getMethod ov "from_bytes" pl)
   callWith pos f first (backTo pos (starEach [e,.Constant (.str "big") kk kp] c.env)) []):=by rfl) :
  EvN c l N Φ (.Call (.Attribute (.Name "int" np) "from_bytes" ap) [e,.Constant (.str "big") kk kp] [] pos) (beN bs) :=
 EvN.fromB H hb hK he (λ{_ _ _ _ _ _} z=>FBx.tree_big hz z) hl s1 s2 hplain hev
set_option maxHeartbeats 1000000
theorem law_kdf (LKK:LK K mg mb) {u4 u5:Tok} {args:Args} (h1:secret.length≤1000) (h2:salt.length≤1000) (h3:keylen≤1000)
  (hbind:∀pm doc,bindArgs (docDef "_law_kdf" (arOf (top 22)) (bdOf (top 22)) (scOf (top 22)) pm (.ref 198) doc) args=pure ([("digest",.str "sha256" u1),("secret",.bytes secret.toArray u2),("salt",.bytes salt.toArray u3),("rounds",.int 1 u4),("keylen",.int (keylen:Int) u5)]:List (Str×Value))) :
  FnAt prog w K mg mb 1 199 args h (BR (lkdf secret salt keylen)):=by
 intro A g d t o R hA W hR
 refine enter (n:=0) (args:=args.pos) (kw:=args.kw) (binds:=[("digest",.str "sha256" u1),("secret",.bytes secret.toArray u2),("salt",.bytes salt.toArray u3),("rounds",.int 1 u4),("keylen",.int (keylen:Int) u5)]) ["mark","seed","found","k"] [] [] LKK.kdf hA W LKK.dom hbind rfl (by kernel_rfl) (by trivial) (by simp) (by trivial) (by kernel_rfl) ?_
 intro h₁ t₁ c l Q H F
 refine asU (f:=λu=>.int ((1:Nat):Int) u) 5 H F (EvF.ifexp (EvT.and (EvT.eqS (a:="sha256") (b:="sha256") (EvF.mono (EvV.toF (.nm 0 H rfl)) λv _ e=>⟨u1,e⟩) EvF.str) (EvT.eq (.nm 3 H rfl) .const)) (λ_=>EvN.toF (.const 1)) (λe=>absurd e (by decide))) ?_
 intro um h2' t2 l F2
 refine asI 6 H F2 (EvN.add (.mul (EvN.fromBig H LKK.b_int LKK.fb (EvF.addB (EvF.addB (EvF.addB EvF.bytes (EvF.mono (EvV.toF (.nm 1 H rfl)) λv _ e=>⟨u2,e⟩) (by simp;lia)) EvF.bytes (by simp;lia)) (EvF.mono (EvV.toF (.nm 2 H rfl)) λv _ e=>⟨u3,e⟩) (by simp;lia)) (by simp;lia)) (.const 4) 20000 3 ?_ (by decide) (by decide)) (.nm 5 H)) ?_
 ·have:=kseed_lt (keylen:=keylen) h1 h2 0
  unfold kseed at this
  exact Nat.lt_of_le_of_lt (by omega) this
 intro us h3' t3 F3
 refine asU (f:=λu=>.bytes ([]:List UInt8).toArray u) 7 H F3 EvF.bytes ?_
 intro uf h4 t4 l F4
 refine forT 8 (λi (b:Tok×Tok×Option Value)=>[("digest",some (.str "sha256" u1)),("secret",some (.bytes secret.toArray u2)),("salt",some (.bytes salt.toArray u3)),("rounds",some (.int 1 u4)),("keylen",some (.int (keylen:Int) u5)),
   ("mark",some (.int 1 um)),("seed",some (.int (kseed secret salt keylen i:Nat) b.1)),("found",some (.bytes (kfound secret salt keylen i).toArray b.2.1)),("k",b.2.2)]) (λ_ _=>[]) (λ_ _ _=>True) (us,uf,none)
  H (F4.weaken (Φ':=λ_=>True) λ_ _=>trivial) (EvIt.range1 (m:=(keylen+31) / 32) H LKK.b_range (EvN.div (.add (.nm 4 H) (.const 31)) (.const 32) (by decide) (by decide)) (by lia)) (λi b=>⟨b.2.2,rfl⟩) ?_ ?_
 ·rintro h' S X i ⟨us,uf,tw⟩ Ψ hh t v' hz' H ilt hP l N F
  refine asI 6 H F (EvN.mod (.add (.add (.mul (.nm 6 H) (.const KC) 20000 200 (kseed_lt h1 h2 i) (by decide +kernel) (by decide)) (.nm 4 H)) (.const 1)) (show EvN _ _ _ _ _ KP from EvI.cast (EvI.sub (EvI.pow .const .const (by decide) (by decide) (by decide +kernel)) .const) (by decide +kernel)) (by decide +kernel)) (λus h5 t5 F5=>?_)
  have hlt:kseed secret salt keylen (i+1)<256 ^ 32:=by
   have h1:kseed secret salt keylen (i+1)<KP:=Nat.mod_lt _ (by decide +kernel)
   have h2:KP≤256 ^ 32:=by decide +kernel
   omega
  refine augB 7 H F5 (b:=toBE 32 (kseed secret salt keylen (i+1))) (EvF.toB (x:=kseed secret salt keylen (i+1)) (k:=32) (.nm 6 H) (.const 32) λ{_ _ _ _ _ _} r=>TBx.to_big (by decide) hlt r) ?_ ?_
  ·rw [kfound_length,toBE_length];lia
  intro uf h6 t6 l F6
  exact wpAny_execs_nil ⟨rfl,(us,uf,_),h6,t6,rfl,F6⟩
 ·rintro ⟨us,uf,tw⟩ h5 t5 l N F5
  refine retF F5 (P:=BR (lkdf secret salt keylen)) (EvF.cutB (EvF.mono (EvV.toF (.nm 7 H rfl)) λv _ e=>⟨uf,e⟩) .none (.of (EvN.nm 4 H)) (by rw [kfound_length];lia) (picked_upto _ keylen)) ?_
  intro v h' t' F' p
  exact hR v h' t' (F'.growth rfl (Nat.le_refl _)) (p.le F5.size)
end
end
section
noncomputable def lmix (secret salt:List UInt8) (n r p:Nat):List UInt8 :=
 ((List.range p).map λi=>lmixed (cut (lkdf secret salt (128*r*p)) (128*r*i) (128*r*i+128*r)) (2*r) n).flatten
noncomputable def ldue (secret salt:List UInt8) (n r p keylen:Nat):List UInt8:=lkdf secret (lmix secret salt n r p) keylen
theorem lmixed_length (hm:m=2∨m=4):(lmixed bs m n).length=64*m:=by
 have hX:=(BlkOk.chunks bs m).lX (n:=n) hm n
 unfold lmixed
 rw [List.length_flatten,List.map_map]
 have:(List.map (List.length ∘ lstore) (lX (lchunks bs m) n n))=(lX (lchunks bs m) n n).map λ_=>64:=List.map_congr_left λx _=>lstore_length x
 rw [this,sum_const,hX.1]
theorem one2 (h:r=1∨r=2):0<r∧r≤2:=or2 (P:=λr=>0<r∧r≤2) h (by decide) (by decide)
theorem lmix_length (hr:r=1∨r=2):(lmix secret salt n r p).length=128*r*p:=by
 unfold lmix
 rw [List.length_flatten,List.map_map]
 have:(List.map (List.length ∘ λi=>lmixed (cut (lkdf secret salt (128*r*p)) (128*r*i) (128*r*i+128*r)) (2*r) n) (List.range p))=(List.range p).map λ_=>128*r:=List.map_congr_left λx _=>by
  show (lmixed _ (2*r) n).length=_
  rw [lmixed_length (hr.imp (congrArg (2*·)) (congrArg (2*·)))];exact (Nat.mul_assoc 64 2 r).symm
 rw [this,sum_const,List.length_range]
section
set_option maxHeartbeats 1000000
theorem law_due (LKK:LK K mg mb) {u4 u5 u6:Tok} (h1:secret.length≤1000) (h2:salt.length≤1000) (hn:0<n) (hn':n≤1000) (hr:r=1∨r=2) (hp:p=1∨p=2) (h3:keylen≤1000) :
  FnAt prog w K mg mb 6 257 ⟨[.bytes secret.toArray u1,.bytes salt.toArray u2,.int (n:Int) u3,.int (r:Int) u4,.int (p:Int) u5,.int (keylen:Int) u6],[]⟩ h (BR (ldue secret salt n r p keylen)):=by
 intro A g d t o R hA W hR
 have hr2:=one2 hr
 have hp2:=one2 hp
 have hx:128*r*p≤512:=Nat.mul_le_mul (Nat.mul_le_mul_left 128 hr2.2) hp2.2
 have hr4:r<2 ^ 2:=Nat.lt_of_le_of_lt hr2.2 (by decide)
 have hp4:p<2 ^ 2:=Nat.lt_of_le_of_lt hp2.2 (by decide)
 have hrl:128*r<2 ^ 10:=Nat.lt_of_le_of_lt (Nat.mul_le_mul_left 128 hr2.2) (by decide)
 refine enterC (n:=5) (binds:=[("secret",.bytes secret.toArray u1),("salt",.bytes salt.toArray u2),("n",.int (n:Int) u3),("r",.int (r:Int) u4),("p",.int (p:Int) u5),("keylen",.int (keylen:Int) u6)]) ["secret","salt","p","keylen","mixed"] ["n","r","octets"] [] [] LKK.due hA W LKK.dom (by intro pm doc;kernel_rfl) (by kernel_rfl) (by kernel_rfl) (by trivial) (by simp) (by trivial) (by kernel_rfl) ?_
 intro h₁ t₁ c l N Q QB H H0 F
 refine bindsL 0 H0 F ?_
 intro hh2 t2 l F
 refine bindsL 1 H0 F ?_
 intro hh2 t2 l F
 refine bindsC 0 H0 F ?_
 intro hh2 t2 N F
 refine bindsC 1 H0 F ?_
 intro hh2 t2 N F
 refine bindsL 2 H0 F ?_
 intro hh2 t2 l F
 refine bindsL 3 H0 F ?_
 intro hh2 t2 l F
 refine bindsNil ⟨hh2,t2,_,_,rfl,F,?_⟩
 refine asCF (f:=λu=>.bytes (lkdf secret salt (128*r*p)).toArray u) 2 H F (EvF.callU (m:=1) H LKK.gkdf LKK.kdf (.consU (EvF.str (s:="sha256")) (.consV (.nm 0 H rfl) (.consV (.nm 1 H rfl) (.consI (EvN.const 1) (.consI (x:=((128*r*p:Nat):Int)) (EvN.mul (.mul (.const 128) (EvV.toN (.cellN 1 H)) 8 2 (by decide) hr4 (by decide)) (.nm 2 H) 10 2 hrl hp4 (by decide)) .nilU))))) (λu h _=>?_) (by decide)) ?_
 ·exact law_kdf LKK (u1:=u.1) (u2:=u1) (u3:=u2) (u4:=u.2.1) (u5:=u.2.2.1) h1 h2 (Nat.le_trans hx (by decide)) (by intro pm doc;kernel_rfl)
 intro uo h3' t3 N F3
 have F3:=F3.weaken (Φ':=λ_=>True) λ_ _=>trivial
 have hol:=lkdf_length secret salt (128*r*p)
 refine asU (f:=λu=>.bytes (lmix secret salt n r p).toArray u) 4 H F3 (EvF.joinB (EvF.toR (listCompR (cl:=_) (R:=BR) (names:=["k"]) ((List.range p).map λi=>lmixed (cut (lkdf secret salt (128*r*p)) (128*r*i) (128*r*i+128*r)) (2*r) n) H (by rfl) (by kernel_rfl)
  (EvIt.range3 (a:=0) (b:=128*r*p) (cc:=128*r) (m:=p) H LKK.b_range (.const 0) (EvN.mul (.mul (.const 128) (EvV.toN (.cellN 1 H)) 8 2 (by decide) hr4 (by decide)) (.nm 2 H) 10 2 hrl hp4 (by decide)) (.mul (.const 128) (EvV.toN (.cellN 1 H)) 8 2 (by decide) hr4 (by decide)) (by decide) (Nat.lt_of_le_of_lt hx (by decide)) (Nat.lt_trans hrl (by decide)) (Nat.mul_pos (by decide) hr2.1) ?_) (by simp) (by simp;lia) ?_)) ?_ (by rw [List.length_map,List.length_range];exact hp2.1)) ?_
 ·exact or2 hr (or2 hp (by rfl) (by rfl)) (or2 hp (by rfl) (by rfl))
 ·intro C h₀ vs i Ψ z hz' hP hV ok ⟨h3,hψ⟩
  obtain ⟨u,rfl⟩:=hP h3 hψ
  obtain ⟨hi,ez⟩:=range_at p (λi=>lmixed (cut (lkdf secret salt (128*r*p)) (128*r*i) (128*r*i+128*r)) (2*r) n) hz'
  rw [ez,show ((0+i*(128*r):Nat):Int)=((128*r*i:Nat):Int) by rw [Nat.zero_add,Nat.mul_comm]]
  have hle:128*r*i+128*r≤128*r*p:=by
   have:i+1≤p:=hi
   calc 128*r*i+128*r=128*r*(i+1):=by rw [Nat.mul_add,Nat.mul_one]
    _≤128*r*p:=Nat.mul_le_mul_left _ this
  have hcl:(cut (lkdf secret salt (128*r*p)) (128*r*i) (128*r*i+128*r)).length=64*(2*r):=by
   unfold cut;rw [List.length_take,List.length_drop,hol,Nat.add_sub_cancel_left,Nat.min_eq_left (Nat.le_sub_of_add_le' hle)];exact Nat.mul_assoc 64 2 r
  refine EvF.call (m:=5) ok LKK.gmixed LKK.mixed (.cons (EvF.toR (EvF.cutB (cs:=cut (lkdf secret salt (128*r*p)) (128*r*i) (128*r*i+128*r)) (EvF.mono (EvV.toF (EvV.cell (v:=.bytes (lkdf secret salt (128*r*p)).toArray uo) ok (by rfl) (by rfl) λh F=>(hV h F.phi).news _ (List.mem_cons_of_mem _ (List.mem_cons_of_mem _ (List.mem_cons_self ..))))) λw _ e=>⟨uo,e⟩)
   (.of (EvN.nm 0 ok)) (.of (EvN.add (.nm 0 ok) (.mul (.const 128) (EvV.toN (EvV.cell (v:=.int (r:Int) u4) ok (by rfl) (by rfl) λh F=>(hV h F.phi).news _ (List.mem_cons_of_mem _ (List.mem_cons_self ..)))) 8 2 (by decide) hr4 (by decide)))) (Nat.le_trans (Nat.le_of_eq hol) (Nat.le_trans hx (by decide))) (picked_cut _ _ _))) (.cons (EvV.toR (EvV.cell (v:=.int (n:Int) u3) ok (by rfl) (by rfl) λh F=>(hV h F.phi).news _ (List.mem_cons_self ..))) .nil)) (λvs h _ hP=>?_) (by decide)
  obtain ⟨v,_,rfl,⟨tb,rfl⟩,_,_,rfl,rfl,rfl⟩:=hP
  exact law_mixed LKK hcl (hr.imp (congrArg (2*·)) (congrArg (2*·))) hn hn'
 ·have:=lmix_length (secret:=secret) (salt:=salt) (n:=n) (r:=r) (p:=p) hr
  exact Nat.le_trans (Nat.le_of_eq this) (Nat.le_trans hx (by decide))
 intro um h4 t4 l F4
 refine retF F4 (P:=BR (ldue secret salt n r p keylen)) (EvF.callU (m:=1) H LKK.gkdf LKK.kdf (.consU (EvF.str (s:="sha256")) (.consV (.nm 0 H rfl) (.consV (.nm 4 H rfl) (.consI (EvN.const 1) (.consV (.nm 3 H rfl) .nilU))))) (λu h _=>?_) (by decide)) ?_
 ·have hlm:=lmix_length (secret:=secret) (salt:=salt) (n:=n) (r:=r) (p:=p) hr
  exact law_kdf LKK (u1:=u.1) (u2:=u1) (u3:=um) (u4:=u.2.1) (u5:=u6) h1 (Nat.le_trans (Nat.le_of_eq hlm) (Nat.le_trans hx (by decide))) h3 (by intro pm doc;kernel_rfl)
 ·intro v h' t' F' p
  exact hR v h' t' (F'.growth rfl (Nat.le_refl _)) (p.le F4.size)
end
end
section
open Builtin.SmallTypes (nextOf)
structure ZIt (prog:Program) (w:World) (i:Addr) (fp:List Addr) (n:Nat) (P:Nat→Value→Prop) (St:Nat→HP):Prop where
 mem:i∈fp
 frame:∀k h h',St k h→(∀b∈fp,∀o,h.get? b=some o→h'.get? b=some o)→St k h'
 live:∀k h,St k h→∃o,h.get? i=some o
 item:∀k (s:Shared) A (Q:VQ) (E:VQ),k<n→St k s.heap→(∀v h',P k v→St (k+1) h'→Heap.SameBut i s.heap h'→Q v { s with heap:=h' })→wpAny (model prog w) A (nextOf (.ref i)) Q E s
 done:∀(s:Shared) A (Q:VQ) (E:VQ),A.handled=none→St n s.heap →
  (∀e h',(∃o,h'.get? e=some o∧o.cls = .type "StopIteration")→Heap.ExtBut i s.heap h'→E (.ref e) { s with heap:=h' })→wpAny (model prog w) A (nextOf (.ref i)) Q E s
theorem ZIt.list (i ax:Addr) (hne:ax≠i) (items:Array Value):ZIt prog w i [i,ax] items.size (λk v=>items[k]?=some v) (λk h=>h.IsListIter i ax k∧h.IsList ax items) where
 mem:=by trivial
 frame:=λ_ _ _ st hk=>⟨st.1.at λo e=>hk i (by trivial) o e,st.2.at λo e=>hk ax (by trivial) o e⟩
 live:=λ_ _ st=>let ⟨o,e,_⟩:=st.1;⟨o,e⟩
 item:=λk s A Q E hk st hQ=>wpAny_nextOf_list_item st.1 st.2 (x:=items[k]) (by simp [hk]) λh' hit hs=>hQ _ h' (by simp [hk]) ⟨hit,st.2.extBut hs.extBut hne⟩ hs
 done:=λs A Q E hh st hE=>wpAny_nextOf_list_end hh st.1 st.2 (by simp) λh' e he hx=>hE e h' hx he
section
theorem nextOf_tuple_item {it t:Addr} {x:Value} {Q:VQ} (hit:s.heap.IsTupleIter it t i) (ht:s.heap.IsTuple t items) (hx:items[i]?=some x)
  (hQ:∀h',h'.IsTupleIter it t (i+1)→Heap.SameBut it s.heap h'→Q x { s with heap:=h' }):wpAny (model prog w) A (nextOf (.ref it)) Q E s:=by
 obtain ⟨o,ho,hc,hd⟩:=id hit
 obtain ⟨ol,hol,_,nl,hdl⟩:=ht
 refine wpAny_bind (wpAny_callSpecial?_slot (name:=Str.ofString "__next__") hit.typeIs F.slot_tuple_iterator_next
  (wpAny_call_entry F.slot_tuple_iterator_next hit.typeIs F.entry_tuple_iterator_next ?_ (F.args_tuple_iterator_next_1 _)))
 refine wpAny_bind (m:=field (.ref it) 0) (wpAny_field ho hd (x:=.ref t) rfl ?_)
 show wpAny _ _ (if (Value.ref t == Value.none)=true then _ else _) _ _ s
 rw [if_neg (by intro e;cases e)]
 refine wpAny_bind (m:=field (.ref it) 1) (wpAny_field ho hd (x:=.int i 0) rfl ?_)
 refine wpAny_bind (m:=seqItems? (.ref t)) (wpAny_seqItems hol hdl ?_)
 simp only [Int.toNat_natCast,hx]
 refine wpAny_bind (wpAny_setField ho hd (by simp) (wpAny_pure ⟨x,rfl,wpAny_pure (hQ _ ?_ (Heap.SameBut.update ..))⟩))
 exact ⟨_,Heap.get?_update_self _ ho (Obj.isFreed_of_fields (Obj.data_mapFields hd _)),(Obj.cls_mapFields ..).trans hc,by rw [Obj.data_mapFields hd];simp [rawInt]⟩
theorem nextOf_tuple_end {it t:Addr} {Q:VQ} (hh:A.handled=none) (hit:s.heap.IsTupleIter it t i) (ht:s.heap.IsTuple t items) (hx:items[i]?=none)
  (hE:∀e h',(∃o,h'.get? e=some o∧o.cls = .type "StopIteration")→Heap.ExtBut it s.heap h'→E (.ref e) { s with heap:=h' }):wpAny (model prog w) A (nextOf (.ref it)) Q E s:=by
 obtain ⟨o,ho,hc,hd⟩:=id hit
 obtain ⟨ol,hol,_,nl,hdl⟩:=ht
 refine wpAny_bind (wpAny_callSpecial?_slot (name:=Str.ofString "__next__") hit.typeIs F.slot_tuple_iterator_next
  (wpAny_call_entry F.slot_tuple_iterator_next hit.typeIs F.entry_tuple_iterator_next ?_ (F.args_tuple_iterator_next_1 _)))
 refine wpAny_bind (m:=field (.ref it) 0) (wpAny_field ho hd (x:=.ref t) rfl ?_)
 show wpAny _ _ (if (Value.ref t == Value.none)=true then _ else _) _ _ s
 rw [if_neg (by intro e;cases e)]
 refine wpAny_bind (m:=field (.ref it) 1) (wpAny_field ho hd (x:=.int i 0) rfl ?_)
 refine wpAny_bind (m:=seqItems? (.ref t)) (wpAny_seqItems hol hdl ?_)
 simp only [Int.toNat_natCast,hx]
 refine wpAny_bind (wpAny_rule (wpAny_bind (wpAny_setField ho hd (by simp) ?_)))
 refine wpAny_bind (m:=newExc (.type "StopIteration") []) ?_
 simp only [newExc,newTuple]
 refine wpAny_bind (wpAny_newObj_type ?_ (by size_fits))
 refine wpAny_bind (m:=firstArgMember _ _) (wpAny_of_eq (a:=Value.none) (by first | rfl | (simp only [firstArgMember];rfl)) ?_)
 refine wpAny_newObj_type ?_ (by size_fits)
 simp only [raiseNew]
 refine wpAny_bind (wpAny_handled ?_)
 first | rw [show A.in1.handled=none from hh] | rw [hh]
 refine wpAny_bind (wpAny_pure (wpAny_throw ?_))
 exact hE _ _ ⟨_,Heap.get?_push_size _ rfl,rfl⟩ (((Heap.SameBut.update ..).extBut.push _).push _)
end
theorem ZIt.tuple (i ax:Addr) (hne:ax≠i) (items:Array Value):ZIt prog w i [i,ax] items.size (λk v=>items[k]?=some v) (λk h=>h.IsTupleIter i ax k∧h.IsTuple ax items) where
 mem:=by trivial
 frame:=λ_ _ _ st hk=>⟨(let ⟨o,e,r⟩:=st.1;⟨o,hk i (by trivial) o e,r⟩),(let ⟨o,e,r⟩:=st.2;⟨o,hk ax (by trivial) o e,r⟩)⟩
 live:=λ_ _ st=>let ⟨o,e,_⟩:=st.1;⟨o,e⟩
 item:=λk s A Q E hk st hQ=>nextOf_tuple_item st.1 st.2 (x:=items[k]) (by simp [hk]) λh' hit hs=>hQ _ h' (by simp [hk]) ⟨hit,st.2.extBut hs.extBut hne⟩ hs
 done:=λs A Q E hh st hE=>nextOf_tuple_end hh st.1 st.2 (by simp) hE
theorem ZIt.shift {i:Addr} {P:Nat→Value→Prop} {St:Nat→HP} (Z:ZIt prog w i fp n P St) (j:Nat) (hj:j≤n):ZIt prog w i fp (n - j) (λk=>P (j+k)) (λk=>St (j+k)) where
 mem:=Z.mem
 frame:=λk h h'=>Z.frame (j+k) h h'
 live:=λk h=>Z.live (j+k) h
 item:=λk s A Q E hk st hQ=>Z.item (j+k) s A Q E (by lia) st hQ
 done:=λs A Q E hh st hE=>Z.done s A Q E hh (by rw [show j+(n - j)=n by lia] at st;exact st) hE
end
section
open Builtin.SmallTypes (nextOf)
theorem neOf {i:Addr} {f:List Addr} (h1:i∈f) (h2:a∉f):a≠i:=λe=>h2 (by rw [e];exact h1)
structure ZApart (z TI TO i1 i2:Addr) (f1 f2:List Addr):Prop where
 TIz:TI≠z
 TOz:TO≠z
 TIO:TI≠TO
 z1:z∉f1
 z2:z∉f2
 TI1:TI∉f1
 TI2:TI∉f2
 TO1:TO∉f1
 TO2:TO∉f2
 i12:i1∉f2
 i21:i2∉f1
section
variable {z TI TO i1:Addr} {f1 f2:List Addr} {n1 n2:Nat} {P1 P2:Nat→Value→Prop} {S1 S2:Nat→HP}
noncomputable def ZSt (z TI TO i1 i2:Addr) (S1 S2:Nat→HP) (f0:Value) (k1 k2:Nat) (h:Heap):Prop:=IsZip h z TI TO f0∧IsPair h TI (.ref i1) (.ref i2)∧(Ex2 λa b=>IsPair h TO a b)∧S1 k1 h∧S2 k2 h
theorem ZIt.stay {i:Addr} {P:Nat→Value→Prop} {St:Nat→HP} (Z:ZIt prog w i fp n P St) (st:St k h) (hs:Heap.SameBut a h h') (ha:a∉fp):St k h' :=
 Z.frame k h h' st λb hb o e=>(hs.2 b λr=>ha (r▸hb)).trans e
theorem zip_start {Q:Fin→Shared→Prop} (Z1:ZIt prog w i1 f1 n1 P1 S1) (Z2:ZIt prog w i2 f2 n2 P2 S2) (D:ZApart z TI TO i1 i2 f1 f2) (hz:ZSt z TI TO i1 i2 S1 S2 .none k1 k2 s.heap)
  (end1:∀h',ZSt z TI TO i1 i2 S1 S2 .ellipsis k1 k2 h'→Heap.SameBut z s.heap h'→wpAny (model prog w) A (nextOf (.ref i1)) (λx s₁ =>
   ∃h₁,An5 (s₁={ s with heap:=h₁ }) (P1 k1 x) (S1 (k1+1) h₁) (Heap.SameBut i1 h' h₁) (∀h₂,ZSt z TI TO i1 i2 S1 S2 .ellipsis (k1+1) k2 h₂→(∃b,IsPair h₂ TO x b)→(∀b o,b≠i1→b≠TO→h'.get? b=some o→h₂.get? b=some o)→h₂.objs.size=h'.objs.size →
    wpAny (model prog w) A (nextOf (.ref i2)) (λy s₃=>∃h₃,An4 (s₃={ s with heap:=h₃ }) (S2 (k2+1) h₃) (Heap.SameBut i2 h₂ h₃) (∀h₄,ZSt z TI TO i1 i2 S1 S2 .ellipsis (k1+1) (k2+1) h₄→IsPair h₄ TO x y→(∀b o,b≠i2→b≠TO→h₂.get? b=some o→h₄.get? b=some o)→h₄.objs.size=h₂.objs.size →
      ∀h₅,IsZip h₅ z TI TO (rawInt h₄.objs.size)→IsPair h₅ h₄.objs.size x y→h₅.objs.size=h₄.objs.size+1→(∀b o,b≠z→h₄.get? b=some o→h₅.get? b=some o)→Q (.done (.ret (.ref h₄.objs.size))) { s with heap:=h₅ }))
     (λe s₃=>∃h₃,An3 (s₃={ s with heap:=h₃ }) (IsZip h₃ z TI TO .ellipsis) (∀h₄,Heap.SameBut z h₃ h₄→E e { s with heap:=h₄ })) { s with heap:=h₂ }))
   (λe s₁=>∃h₁,An3 (s₁={ s with heap:=h₁ }) (IsZip h₁ z TI TO .ellipsis) (∀h₂,Heap.SameBut z h₁ h₂→E e { s with heap:=h₂ })) { s with heap:=h' }) :
  wpAny (model prog w) A (Builtin.«zip.__next__» ⟨[.ref z],[]⟩) Q E s:=by
 obtain ⟨hz0,hTI,⟨a,b,hTO⟩,hs1,hs2⟩:=hz
 refine wpAny_bind (m:=field (.ref z) 2) (wpAny_field hz0 rfl (x:=.bool false) rfl ?_)
 refine wpAny_bind (m:=field (.ref z) 3) (wpAny_field hz0 rfl (x:=.ref TI) rfl ?_)
 refine wpAny_bind (wpAny_seqItems hTI rfl ?_)
 refine wpAny_bind (m:=Builtin.SmallTypes.ownedTupleIsFree (.ref z)) ?_
 unfold Builtin.SmallTypes.ownedTupleIsFree
 refine wpAny_bind (wpAny_field hz0 rfl (x:=.none) rfl (wpAny_pure ?_))
 simp only [if_true]
 refine wpAny_bind (wpAny_rule (wpAny_bind (wpAny_field hz0 rfl (x:=.ref TO) rfl ?_)))
 refine wpAny_bind (wpAny_setField_rec hz0 (by simp) λh₁ hz₁ q1=>?_)
 replace hz₁:IsZip h₁ z TI TO .ellipsis:=hz₁
 have st1:ZSt z TI TO i1 i2 S1 S2 .ellipsis k1 k2 h₁:=⟨hz₁,(q1.2 _ D.TIz).trans hTI,⟨a,b,(q1.2 _ D.TOz).trans hTO⟩,Z1.stay hs1 q1 D.z1,Z2.stay hs2 q1 D.z2⟩
 refine wpAny_bind ?_
 simp only [List.zipIdx_cons,List.zipIdx_nil,List.forIn_cons,List.forIn_nil]
 refine wpAny_bind (wpAny_bind (wpAny_onRaise ?_))
 refine wpAny_bind (m:=nextOf (.ref i1)) (wpAny_mono (end1 h₁ st1 q1) (λx s₁ hx=>wpAny_pure ?_) λe s₁ he=>?_)
 ·obtain ⟨h₂,rfl,hp1,hs1',q2,cont⟩:=hx
  have hTO₂:IsPair h₂ TO a b:=(q2.2 _ (neOf Z1.mem D.TO1)).trans ((q1.2 _ D.TOz).trans hTO)
  refine wpAny_bind (wpAny_seqItems hTO₂ rfl ?_)
  refine wpAny_bind (wpAny_updateSeq_pair hTO₂ λh₃ hTO₃ q3=>?_)
  replace hTO₃:IsPair h₃ TO x b:=hTO₃
  refine wpAny_bind (wpAny_letGo (wpAny_pure ?_))
  have st3:ZSt z TI TO i1 i2 S1 S2 .ellipsis (k1+1) k2 h₃:=⟨(q3.2 _ D.TOz.symm).trans ((q2.2 _ (neOf Z1.mem D.z1)).trans hz₁),(q3.2 _ D.TIO).trans ((q2.2 _ (neOf Z1.mem D.TI1)).trans st1.2.1),⟨x,b,hTO₃⟩,
   Z1.stay hs1' q3 D.TO1,Z2.stay (Z2.stay st1.2.2.2.2 q2 D.i12) q3 D.TO2⟩
  refine wpAny_bind (wpAny_bind (wpAny_onRaise ?_))
  refine wpAny_bind (m:=nextOf (.ref i2)) (wpAny_mono (cont h₃ st3 ⟨b,hTO₃⟩ (λc o c1 c2 e=>(q3.2 c c2).trans ((q2.2 c c1).trans e)) (by rw [q3.1,q2.1])) (λy s₄ hy=>wpAny_pure ?_) λe s₄ he=>?_)
  ·obtain ⟨h₄,rfl,hs2',q4,cont⟩:=hy
   have hTO₄:IsPair h₄ TO x b:=(q4.2 _ (neOf Z2.mem D.TO2)).trans hTO₃
   refine wpAny_bind (wpAny_seqItems hTO₄ rfl ?_)
   refine wpAny_bind (wpAny_updateSeq_pair hTO₄ λh₅ hTO₅ q5=>?_)
   replace hTO₅:IsPair h₅ TO x y:=hTO₅
   refine wpAny_bind (wpAny_letGo (wpAny_pure (wpAny_pure ?_)))
   refine wpAny_bind (wpAny_seqItems hTO₅ rfl ?_)
   have st5:ZSt z TI TO i1 i2 S1 S2 .ellipsis (k1+1) (k2+1) h₅:=⟨(q5.2 _ D.TOz.symm).trans ((q4.2 _ (neOf Z2.mem D.z2)).trans st3.1),(q5.2 _ D.TIO).trans ((q4.2 _ (neOf Z2.mem D.TI2)).trans st3.2.1),⟨x,y,hTO₅⟩,
    Z1.stay (Z1.stay st3.2.2.2.1 q4 D.i21) q5 D.TO1,Z2.stay hs2' q5 D.TO2⟩
   refine wpAny_bind (wpAny_newTuple ?_)
   refine wpAny_bind (m:=Builtin.SmallTypes.ownedTupleHandOut (.ref z) (.ref h₅.objs.size)) ?_
   unfold Builtin.SmallTypes.ownedTupleHandOut
   have hzlt:z<h₅.objs.size:=Heap.lt_size st5.1
   have hz₆:IsZip (h₅.push { cls:=.type "tuple",data:=.seq #[x,y] }) z TI TO .ellipsis:=Heap.get?_push_of_some _ st5.1
   refine wpAny_bind (wpAny_setField_rec hz₆ (by simp) λh₇ hz₇ q7=>?_)
   replace hz₇:IsZip h₇ z TI TO (rawInt h₅.objs.size):=hz₇
   refine wpAny_setField_rec hz₇ (by simp) λh₈ hz₈ q8=>?_
   replace hz₈:IsZip h₈ z TI TO (rawInt h₅.objs.size):=hz₈
   refine wpAny_pure (cont h₅ st5 hTO₅ (λc o c1 c2 e=>(q5.2 c c2).trans ((q4.2 c c1).trans e)) (by rw [q5.1,q4.1]) h₈ hz₈ ?_ (by rw [q8.1,q7.1,Heap.size_push]) λc o c1 e=>(q8.2 c c1).trans ((q7.2 c c1).trans (Heap.get?_push_of_some _ e)))
   exact (q8.2 _ (Nat.ne_of_gt hzlt)).trans ((q7.2 _ (Nat.ne_of_gt hzlt)).trans (Heap.get?_push_size _ rfl))
  ·obtain ⟨h₄,rfl,hz4,cont⟩:=he
   exact wpAny_setField_rec hz4 (by simp) λh₅ _ q5=>cont h₅ q5
 ·obtain ⟨h₂,rfl,hz2,cont⟩:=he
  exact wpAny_setField_rec hz2 (by simp) λh₃ _ q3=>cont h₃ q3
end
end
section
open Builtin.SmallTypes (nextOf)
section
variable {z TI TO i1:Addr} {f1 f2:List Addr} {n1 n2:Nat} {P1 P2:Nat→Value→Prop} {S1 S2:Nat→HP}
theorem ZSt.frame (Z1:ZIt prog w i1 f1 n1 P1 S1) (Z2:ZIt prog w i2 f2 n2 P2 S2) {f0:Value} (st:ZSt z TI TO i1 i2 S1 S2 f0 k1 k2 h)
  (hk:∀b∈z::TI::TO::(f1++f2),∀o,h.get? b=some o→h'.get? b=some o):ZSt z TI TO i1 i2 S1 S2 f0 k1 k2 h':=by
 obtain ⟨hz,hTI,⟨a,b,hTO⟩,s1,s2⟩:=st
 exact ⟨hk z (by trivial) _ hz,hk TI (by trivial) _ hTI,⟨a,b,hk TO (by trivial) _ hTO⟩,Z1.frame _ _ _ s1 λb hb o e=>hk b (by simp [hb]) o e,Z2.frame _ _ _ s2 λb hb o e=>hk b (by simp [hb]) o e⟩
theorem zipU (hh:A.handled=none) (Z1:ZIt prog w i1 f1 n1 P1 S1) (Z2:ZIt prog w i2 f2 n2 P2 S2) (D:ZApart z TI TO i1 i2 f1 f2) (hle:n1≤n2) :
  WalksU prog w A z (z::TI::TO::(f1++f2)) [z,TO,i1,i2] n1 (λk vals=>Ex2 λx y=>An3 (P1 k x) (P2 k y) (vals=#[x,y])) (λk h=>ZSt z TI TO i1 i2 S1 S2 .none k k h)
   (λk T h=>ZSt z TI TO i1 i2 S1 S2 (rawInt T) (k+1) (k+1) h∧T≠z∧T≠TO∧T≠i1∧T≠i2) where
 sub:=λb hb=>by
  revert b hb
  refine f4 ?_ ?_ ?_ ?_
  ·simp
  ·simp
  ·simp [Z1.mem]
  ·simp [Z2.mem]
 frame:=λk h h' st hk=>ZSt.frame Z1 Z2 st hk
 item:=λk s Q E hk st hQ=>by
  have hT:s.TypeIs (.ref z) "zip":=⟨_,st.1,rfl⟩
  refine wpAny_bind (wpAny_attempt (wpAny_callSpecial?_slot (name:=Str.ofString "__next__") hT F.slot_zip_next (wpAny_call_entry F.slot_zip_next hT F.entry_zip_next ?_ (F.args_zip_next_1 _))))
  refine zip_start Z1 Z2 D st λh₁ st1 q1=>?_
  refine Z1.item k { s with heap:=h₁ } _ _ _ hk st1.2.2.2.1 λx h₂ hp1 hs1 q2=>⟨h₂,rfl,hp1,hs1,q2,λh₃ st3 hTO3 k3 z3=>?_⟩
  refine Z2.item k { s with heap:=h₃ } _ _ _ (by trivial) st3.2.2.2.2 λy h₄ hp2 hs2 q4=>⟨h₄,rfl,hs2,q4,λh₅ st5 hTO5 k5 z5 h₆ hz6 hT6 z6 k6=>⟨_,rfl,?_⟩⟩
  have lt:∀ {c:Addr} {o:Obj},h₅.get? c=some o→h₅.objs.size≠c:=λe=>Nat.ne_of_gt (Heap.lt_size e)
  have st6:ZSt z TI TO i1 i2 S1 S2 (rawInt h₅.objs.size) (k+1) (k+1) h₆:=⟨hz6,k6 _ _ D.TIz st5.2.1,⟨x,y,k6 _ _ D.TOz hTO5⟩,Z1.frame _ _ _ st5.2.2.2.1 λb hb o e=>k6 b o (λr=>D.z1 (by rw [←r];exact hb)) e,Z2.frame _ _ _ st5.2.2.2.2 λb hb o e=>k6 b o (λr=>D.z2 (by rw [←r];exact hb)) e⟩
  obtain ⟨o1,e1⟩:=Z1.live _ _ st5.2.2.2.1
  obtain ⟨o2,e2⟩:=Z2.live _ _ st5.2.2.2.2
  refine wpAny_pure (hQ h₅.objs.size #[x,y] h₆ s.toks ⟨x,y,hp1,hp2,rfl⟩ ⟨_,hT6,rfl,_,rfl⟩ ⟨st6,lt st5.1,lt hTO5,lt e1,lt e2⟩ λb o hb e=>?_)
  simp only [List.mem_cons,List.not_mem_nil,or_false,not_or] at hb
  exact k6 b o hb.1 (k5 b o hb.2.2.2 hb.2.1 (k3 b o hb.2.2.1 hb.2.1 ((q1.2 b hb.1).trans e)))
 go:=λelts k pos i T s Q E hm hQ=>by
  obtain ⟨⟨hz,hTI,hTO,s1,s2⟩,_⟩:=hm
  refine wpAny_letOwnedTupleGo_zip hz λh' hz' q=>hQ h' ⟨hz',(q.2 _ D.TIz).trans hTI,(let ⟨a,b,e⟩:=hTO;⟨a,b,(q.2 _ D.TOz).trans e⟩),Z1.stay s1 q D.z1,Z2.stay s2 q D.z2⟩ λb o hb e=>?_
  have hb:=nrs hb
  exact (q.2 b hb.1).trans e
 apart:=λi T h hm hT=>by
  obtain ⟨_,t1,t2,t3,t4⟩:=hm
  have hT:=ors hT
  rcases hT with r | r | r | r
  ·exact t1 r
  ·exact t2 r
  ·exact t3 r
  ·exact t4 r
 done:=λs Q E st hQ=>by
  have hT:s.TypeIs (.ref z) "zip":=⟨_,st.1,rfl⟩
  refine wpAny_bind (wpAny_attempt (wpAny_callSpecial?_slot (name:=Str.ofString "__next__") hT F.slot_zip_next (wpAny_call_entry F.slot_zip_next hT F.entry_zip_next ?_ (F.args_zip_next_1 _))))
  refine zip_start Z1 Z2 D st λh₁ st1 q1=>?_
  refine Z1.done { s with heap:=h₁ } _ _ _ hh st1.2.2.2.1 λe h₂ he q2=>⟨h₂,rfl,q2 _ _ (neOf Z1.mem D.z1) st1.1,λh₃ q3=>?_⟩
  obtain ⟨oe,hoe,hce⟩:=he
  have hz₂:IsZip h₂ z TI TO .ellipsis:=q2 _ _ (neOf Z1.mem D.z1) st1.1
  have hez:e≠z:=λr=>by subst r;rw [hz₂] at hoe;cases hoe;simp at hce
  refine wpAny_bind (wpAny_isInstance (T:="StopIteration") (b:=true) ⟨oe,(q3.2 e hez).trans hoe,hce⟩ isSubtype_stop ?_)
  refine wpAny_pure (hQ h₃ s.toks λb o hb e=>?_)
  have hb:=nrs hb
  exact (q3.2 b hb.1).trans (q2 b o hb.2.2.1 ((q1.2 b hb.1).trans e))
 self:=λi s Q E st hQ=>wpAny_pyIter_zip st.1 hQ
end
end
section
noncomputable abbrev liObj (l:Addr):Obj:={ cls:=.type "list_iterator",data:=.fields #[.ref l,.int 0 0] }
noncomputable abbrev tiObj (l:Addr):Obj:={ cls:=.type "tuple_iterator",data:=.fields #[.ref l,.int 0 0] }
noncomputable abbrev zH (h:Heap) (i1 i2:Addr):Heap:=((h.push { cls:=.type "tuple",data:=.seq #[.ref i1,.ref i2] }).push { cls:=.type "tuple",data:=.seq #[.none,.none] }).push
 {cls:=.type "zip",data:=.fields #[.none,.bool false,.bool false,.ref h.objs.size,.ref (h.push { cls:=.type "tuple",data:=.seq #[.ref i1,.ref i2] }).objs.size] }
noncomputable abbrev zA (h:Heap) (i1 i2:Addr):Addr:=((h.push { cls:=.type "tuple",data:=.seq #[.ref i1,.ref i2] }).push { cls:=.type "tuple",data:=.seq #[.none,.none] }).objs.size
theorem meets_zip_tt (l1 l2:Addr) (xs ys:Array Value) :
  Meets (Builtin.«zip.__new__» ⟨[.type "zip",.ref l1,.ref l2],[]⟩) (λ_ R s=>s.heap.IsTuple l1 xs∧s.heap.IsTuple l2 ys ∧
   R (.ok (.ret (.ref (zA ((s.heap.push (tiObj l1)).push (tiObj l2)) s.heap.objs.size (s.heap.push (tiObj l1)).objs.size)))) { s with heap:=zH ((s.heap.push (tiObj l1)).push (tiObj l2)) s.heap.objs.size (s.heap.push (tiObj l1)).objs.size }) :=
 .of_wp λprog w A R s h=>by
  obtain ⟨hp,g,d,tk,os⟩:=s;obtain ⟨hl1,hl2,h⟩:=h
  have hsub:=sub_zip
  have hL1:Heap.IsTuple (Shared.heap ⟨hp,g,d,tk,os⟩) l1 xs:=hl1
  have hL2:Heap.IsTuple (Shared.heap ⟨hp.push { cls:=.type "tuple_iterator",data:=.fields #[.ref l1,.int 0 0] },g,d,tk,os⟩) l2 ys:=Heap.IsTuple.push hl2 _
  wp_walk using wpAny_pyIter_tuple hL1,wpAny_pyIter_tuple hL2
  exact ⟨_,rfl,h⟩
theorem meets_zip_lt (l1 l2:Addr) (xs ys:Array Value) :
  Meets (Builtin.«zip.__new__» ⟨[.type "zip",.ref l1,.ref l2],[]⟩) (λ_ R s=>s.heap.IsList l1 xs∧s.heap.IsTuple l2 ys ∧
   R (.ok (.ret (.ref (zA ((s.heap.push (liObj l1)).push (tiObj l2)) s.heap.objs.size (s.heap.push (liObj l1)).objs.size)))) { s with heap:=zH ((s.heap.push (liObj l1)).push (tiObj l2)) s.heap.objs.size (s.heap.push (liObj l1)).objs.size }) :=
 .of_wp λprog w A R s h=>by
  obtain ⟨hp,g,d,tk,os⟩:=s;obtain ⟨hl1,hl2,h⟩:=h
  have hsub:=sub_zip
  have hL1:Heap.IsList (Shared.heap ⟨hp,g,d,tk,os⟩) l1 xs:=hl1
  have hL2:Heap.IsTuple (Shared.heap ⟨hp.push { cls:=.type "list_iterator",data:=.fields #[.ref l1,.int 0 0] },g,d,tk,os⟩) l2 ys:=Heap.IsTuple.push hl2 _
  wp_walk using wpAny_pyIter_list hL1,wpAny_pyIter_tuple hL2
  exact ⟨_,rfl,h⟩
theorem meets_zip_ti (l1 i2 l2:Addr) (xs:Array Value) (k:Nat) :
  Meets (Builtin.«zip.__new__» ⟨[.type "zip",.ref l1,.ref i2],[]⟩) (λ_ R s=>s.heap.IsTuple l1 xs∧s.heap.IsTupleIter i2 l2 k ∧
   R (.ok (.ret (.ref (zA (s.heap.push (tiObj l1)) s.heap.objs.size i2)))) { s with heap:=zH (s.heap.push (tiObj l1)) s.heap.objs.size i2 }) :=
 .of_wp λprog w A R s h=>by
  obtain ⟨hp,g,d,tk,os⟩:=s;obtain ⟨hl1,hl2,h⟩:=h
  have hsub:=sub_zip
  have hL1:Heap.IsTuple (Shared.heap ⟨hp,g,d,tk,os⟩) l1 xs:=hl1
  have hL2:Heap.IsTupleIter (Shared.heap ⟨hp.push { cls:=.type "tuple_iterator",data:=.fields #[.ref l1,.int 0 0] },g,d,tk,os⟩) i2 l2 k:=let ⟨o,e,r⟩:=hl2;⟨o,Heap.get?_push_of_some _ e,r⟩
  wp_walk using wpAny_pyIter_tuple hL1,wpAny_pyIter_tupleiter hL2
  exact ⟨_,rfl,h⟩
end
section
section
theorem whileS {test:Expr} (Inv:Nat→Shared→Prop) (h0:Inv 0 (c.st h t))
  (turn:∀i s,i<m→Inv i s→c.wp (isTrue test c.env (eval test c.env)) (λb s₂=>b=true∧c.wp (execs body c.env) (λf s₃=>f = .next∧Inv (i+1) s₃) NoE s₂) NoE s)
  (fin:∀s,Inv m s→c.wp (isTrue test c.env (eval test c.env)) (λb s₂=>b=false∧c.wp (execs rest c.env) Q E s₂) NoE s) :
  c.wp (execs (.While test body [] pos::rest) c.env) Q E (c.st h t):=by
 refine wpAny_execs_cons (wpAny_While ?_)
 refine codeAny_whileLoop (λk s=>∃i,An3 (i≤m) (k=m - i) (Inv i s)) ?_ (m - 0) ⟨0,Nat.zero_le _,rfl,h0⟩
 rintro k s ⟨i,hi,rfl,hI⟩
 by_cases hlt:i<m
 ·refine wpAny_mono (turn i s hlt hI) (λb s₂ hb=>?_) λ_ _ x=>x.elim
  obtain ⟨rfl,hb⟩:=hb
  refine wpAny_mono hb (λf s₃ hf=>?_) λ_ _ x=>x.elim
  obtain ⟨rfl,hf⟩:=hf
  exact ⟨m - (i+1),by lia,i+1,hlt,rfl,hf⟩
 ·have:i=m:=by lia
  subst this
  refine wpAny_mono (fin s hI) (λb s₂ hb=>?_) λ_ _ x=>x.elim
  obtain ⟨rfl,hb⟩:=hb
  exact wpAny_execs_nil hb
theorem augX {a b:Nat} (i:Nat) (H:c.Ok n) (F:c.SS l N Φ h) (he:EvN c l N Φ e b)
  (hQ:∀(y:Nat) u h' t',y=a ^^^ b→let l':=l.set i (x,some (.int (y:Int) u));c.SS l' N Φ h'→c.wp (execs rest c.env) Q E (c.st h' t'))
  (hi:l[i]?=some (x,some (.int (a:Int) u)):=by rfl) (hl:Loc c.env x:=by rfl) :
  c.wp (execs (.AugAssign (.Name x p') .BitXor e pos::rest) c.env) Q E (c.st h t) :=
 wpAny_execs_cons (wpAny_AugAssign_Name (ldn H F hi (he _ (λ_ x=>x) h t _ _ F λu' h1 t1 F1=>PyProof.Rows.ixor_int (by
  rw [bitXor_nat]
  exact stn H F1 hi (λh2 F2=>hQ _ _ h2 _ rfl F2) hl)) hl))
theorem augA {a b:Nat} (i:Nat) (H:c.Ok n) (F:c.SS l N Φ h) (he:EvN c l N Φ e b)
  (hQ:∀u h' t',let l':=l.set i (x,some (.int ((a+b:Nat):Int) u));c.SS l' N Φ h'→c.wp (execs rest c.env) Q E (c.st h' t'))
  (hi:l[i]?=some (x,some (.int (a:Int) u)):=by rfl) (hl:Loc c.env x:=by rfl) :
  c.wp (execs (.AugAssign (.Name x p') .Add e pos::rest) c.env) Q E (c.st h t) :=
 wpAny_execs_cons (wpAny_AugAssign_Name (ldn H F hi (he _ (λ_ x=>x) h t _ _ F λu' h1 t1 F1=>PyProof.Rows.iadd_int (by
  rw [←Int.natCast_add]
  exact stn H F1 hi (λh2 F2=>hQ _ h2 _ F2) hl)) hl))
end
end
section
noncomputable def qv (a b c m k:Nat):Nat:=a ^^^ ((((b+c) &&& 4294967295) &&& m) <<< k ||| ((b+c) &&& 4294967295) >>> (32 - k))
noncomputable def qs (iv ix iy m k:Nat) (s:List Nat):List Nat:=s.set iv (qv (s[iv]?.getD 0) (s[ix]?.getD 0) (s[iy]?.getD 0) m k)
noncomputable def wround (s:List Nat):List Nat :=
 let s:=qs 4 0 12 33554431 7 s
 let s:=qs 8 4 0 8388607 9 s
 let s:=qs 12 8 4 524287 13 s
 let s:=qs 0 12 8 16383 18 s
 let s:=qs 9 5 1 33554431 7 s
 let s:=qs 13 9 5 8388607 9 s
 let s:=qs 1 13 9 524287 13 s
 let s:=qs 5 1 13 16383 18 s
 let s:=qs 14 10 6 33554431 7 s
 let s:=qs 2 14 10 8388607 9 s
 let s:=qs 6 2 14 524287 13 s
 let s:=qs 10 6 2 16383 18 s
 let s:=qs 3 15 11 33554431 7 s
 let s:=qs 7 3 15 8388607 9 s
 let s:=qs 11 7 3 524287 13 s
 let s:=qs 15 11 7 16383 18 s
 let s:=qs 1 0 3 33554431 7 s
 let s:=qs 2 1 0 8388607 9 s
 let s:=qs 3 2 1 524287 13 s
 let s:=qs 0 3 2 16383 18 s
 let s:=qs 6 5 4 33554431 7 s
 let s:=qs 7 6 5 8388607 9 s
 let s:=qs 4 7 6 524287 13 s
 let s:=qs 5 4 7 16383 18 s
 let s:=qs 11 10 9 33554431 7 s
 let s:=qs 8 11 10 8388607 9 s
 let s:=qs 9 8 11 524287 13 s
 let s:=qs 10 9 8 16383 18 s
 let s:=qs 12 15 14 33554431 7 s
 let s:=qs 13 12 15 8388607 9 s
 let s:=qs 14 13 12 524287 13 s
 let s:=qs 15 14 13 16383 18 s
 s
noncomputable def wrounds:Nat→List Nat→List Nat
 | 0,s=>s
 | n+1,s=>wround (wrounds n s)
noncomputable def wsalsa (bs:List Nat):List Nat:=List.zipWith (λb v=>(b+v) &&& 4294967295) bs (wrounds 4 bs)
theorem wround_chain {x0 x1 x2 x3 x4 x5 x6 x7 x8 x9 x10 x11 x12 x13 x14 x15 y0 y1 y2 y3 y4 y5 y6 y7 y8 y9 y10 y11 y12 y13 y14 y15 y16 y17 y18 y19 y20 y21 y22 y23 y24 y25 y26 y27 y28 y29 y30 y31:Nat}
  (h0:y0=qv x4 x0 x12 33554431 7)
  (h1:y1=qv x8 y0 x0 8388607 9)
  (h2:y2=qv x12 y1 y0 524287 13)
  (h3:y3=qv x0 y2 y1 16383 18)
  (h4:y4=qv x9 x5 x1 33554431 7)
  (h5:y5=qv x13 y4 x5 8388607 9)
  (h6:y6=qv x1 y5 y4 524287 13)
  (h7:y7=qv x5 y6 y5 16383 18)
  (h8:y8=qv x14 x10 x6 33554431 7)
  (h9:y9=qv x2 y8 x10 8388607 9)
  (h10:y10=qv x6 y9 y8 524287 13)
  (h11:y11=qv x10 y10 y9 16383 18)
  (h12:y12=qv x3 x15 x11 33554431 7)
  (h13:y13=qv x7 y12 x15 8388607 9)
  (h14:y14=qv x11 y13 y12 524287 13)
  (h15:y15=qv x15 y14 y13 16383 18)
  (h16:y16=qv y6 y3 y12 33554431 7)
  (h17:y17=qv y9 y16 y3 8388607 9)
  (h18:y18=qv y12 y17 y16 524287 13)
  (h19:y19=qv y3 y18 y17 16383 18)
  (h20:y20=qv y10 y7 y0 33554431 7)
  (h21:y21=qv y13 y20 y7 8388607 9)
  (h22:y22=qv y0 y21 y20 524287 13)
  (h23:y23=qv y7 y22 y21 16383 18)
  (h24:y24=qv y14 y11 y4 33554431 7)
  (h25:y25=qv y1 y24 y11 8388607 9)
  (h26:y26=qv y4 y25 y24 524287 13)
  (h27:y27=qv y11 y26 y25 16383 18)
  (h28:y28=qv y2 y15 y8 33554431 7)
  (h29:y29=qv y5 y28 y15 8388607 9)
  (h30:y30=qv y8 y29 y28 524287 13)
  (h31:y31=qv y15 y30 y29 16383 18) :
  wround [x0,x1,x2,x3,x4,x5,x6,x7,x8,x9,x10,x11,x12,x13,x14,x15]=[y19,y16,y17,y18,y22,y23,y20,y21,y25,y26,y27,y24,y28,y29,y30,y31]:=by
 have e0:qs 4 0 12 33554431 7 [x0,x1,x2,x3,x4,x5,x6,x7,x8,x9,x10,x11,x12,x13,x14,x15]=[x0,x1,x2,x3,y0,x5,x6,x7,x8,x9,x10,x11,x12,x13,x14,x15]:=by rw [h0];rfl
 have e1:qs 8 4 0 8388607 9 [x0,x1,x2,x3,y0,x5,x6,x7,x8,x9,x10,x11,x12,x13,x14,x15]=[x0,x1,x2,x3,y0,x5,x6,x7,y1,x9,x10,x11,x12,x13,x14,x15]:=by rw [h1];rfl
 have e2:qs 12 8 4 524287 13 [x0,x1,x2,x3,y0,x5,x6,x7,y1,x9,x10,x11,x12,x13,x14,x15]=[x0,x1,x2,x3,y0,x5,x6,x7,y1,x9,x10,x11,y2,x13,x14,x15]:=by rw [h2];rfl
 have e3:qs 0 12 8 16383 18 [x0,x1,x2,x3,y0,x5,x6,x7,y1,x9,x10,x11,y2,x13,x14,x15]=[y3,x1,x2,x3,y0,x5,x6,x7,y1,x9,x10,x11,y2,x13,x14,x15]:=by rw [h3];rfl
 have e4:qs 9 5 1 33554431 7 [y3,x1,x2,x3,y0,x5,x6,x7,y1,x9,x10,x11,y2,x13,x14,x15]=[y3,x1,x2,x3,y0,x5,x6,x7,y1,y4,x10,x11,y2,x13,x14,x15]:=by rw [h4];rfl
 have e5:qs 13 9 5 8388607 9 [y3,x1,x2,x3,y0,x5,x6,x7,y1,y4,x10,x11,y2,x13,x14,x15]=[y3,x1,x2,x3,y0,x5,x6,x7,y1,y4,x10,x11,y2,y5,x14,x15]:=by rw [h5];rfl
 have e6:qs 1 13 9 524287 13 [y3,x1,x2,x3,y0,x5,x6,x7,y1,y4,x10,x11,y2,y5,x14,x15]=[y3,y6,x2,x3,y0,x5,x6,x7,y1,y4,x10,x11,y2,y5,x14,x15]:=by rw [h6];rfl
 have e7:qs 5 1 13 16383 18 [y3,y6,x2,x3,y0,x5,x6,x7,y1,y4,x10,x11,y2,y5,x14,x15]=[y3,y6,x2,x3,y0,y7,x6,x7,y1,y4,x10,x11,y2,y5,x14,x15]:=by rw [h7];rfl
 have e8:qs 14 10 6 33554431 7 [y3,y6,x2,x3,y0,y7,x6,x7,y1,y4,x10,x11,y2,y5,x14,x15]=[y3,y6,x2,x3,y0,y7,x6,x7,y1,y4,x10,x11,y2,y5,y8,x15]:=by rw [h8];rfl
 have e9:qs 2 14 10 8388607 9 [y3,y6,x2,x3,y0,y7,x6,x7,y1,y4,x10,x11,y2,y5,y8,x15]=[y3,y6,y9,x3,y0,y7,x6,x7,y1,y4,x10,x11,y2,y5,y8,x15]:=by rw [h9];rfl
 have e10:qs 6 2 14 524287 13 [y3,y6,y9,x3,y0,y7,x6,x7,y1,y4,x10,x11,y2,y5,y8,x15]=[y3,y6,y9,x3,y0,y7,y10,x7,y1,y4,x10,x11,y2,y5,y8,x15]:=by rw [h10];rfl
 have e11:qs 10 6 2 16383 18 [y3,y6,y9,x3,y0,y7,y10,x7,y1,y4,x10,x11,y2,y5,y8,x15]=[y3,y6,y9,x3,y0,y7,y10,x7,y1,y4,y11,x11,y2,y5,y8,x15]:=by rw [h11];rfl
 have e12:qs 3 15 11 33554431 7 [y3,y6,y9,x3,y0,y7,y10,x7,y1,y4,y11,x11,y2,y5,y8,x15]=[y3,y6,y9,y12,y0,y7,y10,x7,y1,y4,y11,x11,y2,y5,y8,x15]:=by rw [h12];rfl
 have e13:qs 7 3 15 8388607 9 [y3,y6,y9,y12,y0,y7,y10,x7,y1,y4,y11,x11,y2,y5,y8,x15]=[y3,y6,y9,y12,y0,y7,y10,y13,y1,y4,y11,x11,y2,y5,y8,x15]:=by rw [h13];rfl
 have e14:qs 11 7 3 524287 13 [y3,y6,y9,y12,y0,y7,y10,y13,y1,y4,y11,x11,y2,y5,y8,x15]=[y3,y6,y9,y12,y0,y7,y10,y13,y1,y4,y11,y14,y2,y5,y8,x15]:=by rw [h14];rfl
 have e15:qs 15 11 7 16383 18 [y3,y6,y9,y12,y0,y7,y10,y13,y1,y4,y11,y14,y2,y5,y8,x15]=[y3,y6,y9,y12,y0,y7,y10,y13,y1,y4,y11,y14,y2,y5,y8,y15]:=by rw [h15];rfl
 have e16:qs 1 0 3 33554431 7 [y3,y6,y9,y12,y0,y7,y10,y13,y1,y4,y11,y14,y2,y5,y8,y15]=[y3,y16,y9,y12,y0,y7,y10,y13,y1,y4,y11,y14,y2,y5,y8,y15]:=by rw [h16];rfl
 have e17:qs 2 1 0 8388607 9 [y3,y16,y9,y12,y0,y7,y10,y13,y1,y4,y11,y14,y2,y5,y8,y15]=[y3,y16,y17,y12,y0,y7,y10,y13,y1,y4,y11,y14,y2,y5,y8,y15]:=by rw [h17];rfl
 have e18:qs 3 2 1 524287 13 [y3,y16,y17,y12,y0,y7,y10,y13,y1,y4,y11,y14,y2,y5,y8,y15]=[y3,y16,y17,y18,y0,y7,y10,y13,y1,y4,y11,y14,y2,y5,y8,y15]:=by rw [h18];rfl
 have e19:qs 0 3 2 16383 18 [y3,y16,y17,y18,y0,y7,y10,y13,y1,y4,y11,y14,y2,y5,y8,y15]=[y19,y16,y17,y18,y0,y7,y10,y13,y1,y4,y11,y14,y2,y5,y8,y15]:=by rw [h19];rfl
 have e20:qs 6 5 4 33554431 7 [y19,y16,y17,y18,y0,y7,y10,y13,y1,y4,y11,y14,y2,y5,y8,y15]=[y19,y16,y17,y18,y0,y7,y20,y13,y1,y4,y11,y14,y2,y5,y8,y15]:=by rw [h20];rfl
 have e21:qs 7 6 5 8388607 9 [y19,y16,y17,y18,y0,y7,y20,y13,y1,y4,y11,y14,y2,y5,y8,y15]=[y19,y16,y17,y18,y0,y7,y20,y21,y1,y4,y11,y14,y2,y5,y8,y15]:=by rw [h21];rfl
 have e22:qs 4 7 6 524287 13 [y19,y16,y17,y18,y0,y7,y20,y21,y1,y4,y11,y14,y2,y5,y8,y15]=[y19,y16,y17,y18,y22,y7,y20,y21,y1,y4,y11,y14,y2,y5,y8,y15]:=by rw [h22];rfl
 have e23:qs 5 4 7 16383 18 [y19,y16,y17,y18,y22,y7,y20,y21,y1,y4,y11,y14,y2,y5,y8,y15]=[y19,y16,y17,y18,y22,y23,y20,y21,y1,y4,y11,y14,y2,y5,y8,y15]:=by rw [h23];rfl
 have e24:qs 11 10 9 33554431 7 [y19,y16,y17,y18,y22,y23,y20,y21,y1,y4,y11,y14,y2,y5,y8,y15]=[y19,y16,y17,y18,y22,y23,y20,y21,y1,y4,y11,y24,y2,y5,y8,y15]:=by rw [h24];rfl
 have e25:qs 8 11 10 8388607 9 [y19,y16,y17,y18,y22,y23,y20,y21,y1,y4,y11,y24,y2,y5,y8,y15]=[y19,y16,y17,y18,y22,y23,y20,y21,y25,y4,y11,y24,y2,y5,y8,y15]:=by rw [h25];rfl
 have e26:qs 9 8 11 524287 13 [y19,y16,y17,y18,y22,y23,y20,y21,y25,y4,y11,y24,y2,y5,y8,y15]=[y19,y16,y17,y18,y22,y23,y20,y21,y25,y26,y11,y24,y2,y5,y8,y15]:=by rw [h26];rfl
 have e27:qs 10 9 8 16383 18 [y19,y16,y17,y18,y22,y23,y20,y21,y25,y26,y11,y24,y2,y5,y8,y15]=[y19,y16,y17,y18,y22,y23,y20,y21,y25,y26,y27,y24,y2,y5,y8,y15]:=by rw [h27];rfl
 have e28:qs 12 15 14 33554431 7 [y19,y16,y17,y18,y22,y23,y20,y21,y25,y26,y27,y24,y2,y5,y8,y15]=[y19,y16,y17,y18,y22,y23,y20,y21,y25,y26,y27,y24,y28,y5,y8,y15]:=by rw [h28];rfl
 have e29:qs 13 12 15 8388607 9 [y19,y16,y17,y18,y22,y23,y20,y21,y25,y26,y27,y24,y28,y5,y8,y15]=[y19,y16,y17,y18,y22,y23,y20,y21,y25,y26,y27,y24,y28,y29,y8,y15]:=by rw [h29];rfl
 have e30:qs 14 13 12 524287 13 [y19,y16,y17,y18,y22,y23,y20,y21,y25,y26,y27,y24,y28,y29,y8,y15]=[y19,y16,y17,y18,y22,y23,y20,y21,y25,y26,y27,y24,y28,y29,y30,y15]:=by rw [h30];rfl
 have e31:qs 15 14 13 16383 18 [y19,y16,y17,y18,y22,y23,y20,y21,y25,y26,y27,y24,y28,y29,y30,y15]=[y19,y16,y17,y18,y22,y23,y20,y21,y25,y26,y27,y24,y28,y29,y30,y31]:=by rw [h31];rfl
 unfold wround
 simp only [e0,e1,e2,e3,e4,e5,e6,e7,e8,e9,e10,e11,e12,e13,e14,e15,e16,e17,e18,e19,e20,e21,e22,e23,e24,e25,e26,e27,e28,e29,e30,e31]
end
section
section
variable {G:Array GenState→Array GenState→Prop} {P:Nat→Value→Prop} {St:Nat→Shared→Prop}
end
end
section
structure EK (K:Frag) (mg mb:Str→Option Value):Prop where
 dom:KDom K
 salsa:FnK K 78 "salsa20" (arOf (top 10)) (bdOf (top 10)) (scOf (top 10)) (.ref 77)
 gsalsa:mg "salsa20"=some (.ref 78)
noncomputable def TupN (xs:List Nat) (v:Value) (h:Heap):Prop:=Ex2 λus a=>An3 (us.length=xs.length) (v = .ref a) (h.get? a=some (tobj (List.zipWith Value.int (xs.map λx:Nat=>(x:Int)) us)))
section
theorem EvF.tupN (hes:EvIs c l N Φ pos es (xs.map λx:Nat=>(x:Int))) (hz:xs.length≤100000):EvF c l N Φ (.Tuple es k pos) (TupN xs):=by
 intro Φ' kΦ h t Q E F hQ
 refine PyProof.Rows.Tuple_ (wpAny_with_size (Nat.le_refl _) (hes _ kΦ h t _ _ F λus h1 t1 hl F1 hz1=>?_))
 rw [List.length_map] at hl
 refine wpAny_newTuple ?_ ?_
 ·refine hQ _ _ t1 (F1.push' _) (Nat.le_trans hz1 (Grow.push _ _).1) λh' q=>⟨us,h1.objs.size,hl,rfl,q _ _ hz1 (Heap.get?_push_size _ rfl)⟩
 ·have:(List.zipWith Value.int (xs.map λx:Nat=>(x:Int)) us).length≤100000:=by simp only [List.length_zipWith,List.length_map];lia
  exact Nat.le_trans this (by decide)
theorem ints_all (hl:ys.length=xs.length) (hy:∀(j:Nat) y,ys[j]?=some y→Ex2 λx u=>xs[j]?=some x∧y = .int (x:Int) u) :
  ∃us,us.length=xs.length∧ys=List.zipWith Value.int (xs.map λx:Nat=>(x:Int)) us:=by
 induction xs generalizing ys with
 | nil=>exact ⟨[],rfl,by simpa using hl⟩
 | cons x xs ih =>
  match ys,hl with
  | y::ys,hl =>
   obtain ⟨x',u,e,rfl⟩:=hy 0 y rfl
   cases e
   obtain ⟨us,hu,e⟩:=ih (ys:=ys) (by simpa using hl) λj y e=>hy (j+1) y (by simpa using e)
   exact ⟨u::us,by simp [hu],by rw [e];rfl⟩
end
theorem list16 {α:Type} {xs:List α} (h:xs.length=16):Ex16 λa b c d e f g i j k l m n o p q=>xs=[a,b,c,d,e,f,g,i,j,k,l,m,n,o,p,q]:=by
 obtain ⟨a,t1,e0,h⟩:=unc h
 obtain ⟨b,t2,e1,h⟩:=unc h
 obtain ⟨c,t3,e2,h⟩:=unc h
 obtain ⟨d,t4,e3,h⟩:=unc h
 obtain ⟨e,t5,e4,h⟩:=unc h
 obtain ⟨f,t6,e5,h⟩:=unc h
 obtain ⟨g,t7,e6,h⟩:=unc h
 obtain ⟨i,t8,e7,h⟩:=unc h
 obtain ⟨j,t9,e8,h⟩:=unc h
 obtain ⟨k,t10,e9,h⟩:=unc h
 obtain ⟨l,t11,e10,h⟩:=unc h
 obtain ⟨m,t12,e11,h⟩:=unc h
 obtain ⟨n,t13,e12,h⟩:=unc h
 obtain ⟨o,t14,e13,h⟩:=unc h
 obtain ⟨p,t15,e14,h⟩:=unc h
 obtain ⟨q,t16,e15,h⟩:=unc h
 exact ⟨a,b,c,d,e,f,g,i,j,k,l,m,n,o,p,q,by rw [e0,e1,e2,e3,e4,e5,e6,e7,e8,e9,e10,e11,e12,e13,e14,e15,List.length_eq_zero_iff.mp h]⟩
end
section
noncomputable def NB:List Str:=["b0","b1","b2","b3","b4","b5","b6","b7","b8","b9","b10","b11","b12","b13","b14","b15"]
noncomputable def NV:List Str:=["v0","v1","v2","v3","v4","v5","v6","v7","v8","v9","v10","v11","v12","v13","v14","v15"]
noncomputable def NI:List Str:=["i","t"]
noncomputable def zl:List Str→List Nat→List Tok→LS
 | x::xs,n::ns,u::us=>(x,some (.int (n:Int) u))::zl xs ns us
 | _,_,_=>[]
theorem zl_len:∀ {xs:List Str} {ns:List Nat} {us:List Tok},ns.length=xs.length→us.length=xs.length→(zl xs ns us).length=xs.length
 | [],[],[],_,_=>rfl
 | _::xs,_::ns,_::us,h1,h2=>congrArg (·+1) (zl_len (xs:=xs) (Nat.succ.inj h1) (Nat.succ.inj h2))
theorem zl_get:∀ {xs:List Str} {ns:List Nat} {us:List Tok} {k:Nat} {x:Str},ns.length=xs.length→us.length=xs.length→xs[k]?=some x→∃u,(zl xs ns us)[k]?=some (x,some (.int ((ns[k]?.getD 0:Nat):Int) u))
 | [],_,_,_,_,_,_,e=>nomatch e
 | _::xs,n::ns,u::us,0,x,_,_,e=>by cases e;exact ⟨u,rfl⟩
 | _::xs,n::ns,u::us,k+1,x,h1,h2,e=>zl_get (xs:=xs) (ns:=ns) (us:=us) (Nat.succ.inj h1) (Nat.succ.inj h2) e
theorem zl_set:∀ {xs:List Str} {ns:List Nat} {us:List Tok} {k:Nat} {x:Str} {y:Nat} {u:Tok},ns.length=xs.length→us.length=xs.length→xs[k]?=some x→(zl xs ns us).set k (x,some (.int (y:Int) u))=zl xs (ns.set k y) (us.set k u)
 | [],_,_,_,_,_,_,_,_,e=>nomatch e
 | _::xs,n::ns,u::us,0,x,_,_,_,_,e=>by cases e;rfl
 | _::xs,n::ns,u::us,k+1,x,_,_,h1,h2,e=>congrArg (_::·) (zl_set (xs:=xs) (ns:=ns) (us:=us) (Nat.succ.inj h1) (Nat.succ.inj h2) e)
noncomputable def pL (pre:LS) (zs:List Nat) (qs:List Tok) (iv tv:Option Value):LS:=pre++(zl NV zs qs++([("i",iv),("t",tv)]:LS))
section
variable {qs:List Tok} (hp:pre.length=17) (hz:zs.length=16) (hq:qs.length=16)
include hp hz hq
theorem pL_v (e:NV[k]?=some x):∃u,(pL pre zs qs iv tv)[17+k]?=some (x,some (.int ((zs[k]?.getD 0:Nat):Int) u)):=by
 obtain ⟨u,e'⟩:=zl_get (xs:=NV) hz hq e
 refine ⟨u,?_⟩
 unfold pL
 rw [List.getElem?_append_right (by rw [hp];exact Nat.le_add_right 17 k),hp,Nat.add_sub_cancel_left,List.getElem?_append_left (List.getElem?_eq_some_iff.mp e').1]
 exact e'
theorem pL_i:(pL pre zs qs iv tv)[33]?=some (("i":Str),iv):=by
 unfold pL
 rw [List.getElem?_append_right (by rw [hp];decide),hp,List.getElem?_append_right (by rw [zl_len (xs:=NV) hz hq];decide),zl_len (xs:=NV) hz hq];rfl
theorem pL_t:(pL pre zs qs iv tv)[34]?=some (("t":Str),tv):=by
 unfold pL
 rw [List.getElem?_append_right (by rw [hp];decide),hp,List.getElem?_append_right (by rw [zl_len (xs:=NV) hz hq];decide),zl_len (xs:=NV) hz hq];rfl
theorem pL_setv {y:Nat} (e:NV[k]?=some x):(pL pre zs qs iv tv).set (17+k) (x,some (.int (y:Int) u))=pL pre (zs.set k y) (qs.set k u) iv tv:=by
 have hk:k<16:=(List.getElem?_eq_some_iff.mp e).1
 unfold pL
 rw [List.set_append_right _ _ (by rw [hp];exact Nat.le_add_right 17 k),hp,Nat.add_sub_cancel_left,List.set_append_left _ _ (by rw [zl_len (xs:=NV) hz hq];exact hk),zl_set hz hq e]
theorem pL_seti {v:Option Value}:(pL pre zs qs iv tv).set 33 ("i",v)=pL pre zs qs v tv:=by
 unfold pL
 rw [List.set_append_right _ _ (by rw [hp];decide),hp,List.set_append_right _ _ (by rw [zl_len (xs:=NV) hz hq];decide),zl_len (xs:=NV) hz hq];rfl
theorem pL_sett {v:Option Value}:(pL pre zs qs iv tv).set 34 ("t",v)=pL pre zs qs iv v:=by
 unfold pL
 rw [List.set_append_right _ _ (by rw [hp];decide),hp,List.set_append_right _ _ (by rw [zl_len (xs:=NV) hz hq];decide),zl_len (xs:=NV) hz hq];rfl
end
theorem nv_dbg (e:NV[k]?=some x):ND x :=
 (by decide +kernel:∀x∈NV,ND x) x (List.mem_of_getElem? e)
section
theorem qstep {sv sx sy:Str} {p10 p11 p12 p13 p14 p15 p16 p17 p18:Pos} {k3 k4:Nat} {M S R:Int} (jv jx jy m k:Nat) (H:c.Ok n) (F:c.SS (pL pre zs us iv tv) N Φ h) (hp:pre.length=17) (hz:zs.length=16) (hq:us.length=16)
  (hl:∀x∈NV++NI,Loc c.env x)
  (hQ:∀zs' us' tv' h' t',zs'=qs jv jx jy m k zs→zs'.length=16→us'.length=16→c.SS (pL pre zs' us' iv tv') N Φ h'→c.wp (execs rest c.env) Q E (c.st h' t'))
  (ev:NV[jv]?=some sv:=by rfl) (ex:NV[jx]?=some sx:=by rfl) (ey:NV[jy]?=some sy:=by rfl) (hM:M=(m:Int):=by rfl) (hS:S=(k:Int):=by rfl) (hR:R=((32 - k:Nat):Int):=by rfl) (hm:m<2 ^ 32:=by decide) (hk:32+k≤134217728:=by decide)
  (hs:swapsWith (.BinOp (.BinOp (.Name sx p2) .Add (.Name sy p3) p4) .BitAnd (.Constant (.int 4294967295) k1 p5) p6) (some (.Name "t" p1)) p7.line c.env=pure false:=by rfl) :
  c.wp (execs (.Assign [.Name "t" p1] (.BinOp (.BinOp (.Name sx p2) .Add (.Name sy p3) p4) .BitAnd (.Constant (.int 4294967295) k1 p5) p6) p7 ::
   .AugAssign (.Name sv p8) .BitXor (.BinOp (.BinOp (.BinOp (.Name "t" p9) .BitAnd (.Constant (.int M) k2 p10) p11) .LShift (.Constant (.int S) k3 p12) p13) .BitOr (.BinOp (.Name "t" p14) .RShift (.Constant (.int R) k4 p15) p16) p17) p18::rest) c.env) Q E (c.st h t):=by
 obtain ⟨u1,e1⟩:=pL_v (iv:=iv) (tv:=tv) hp hz hq ex
 obtain ⟨u2,e2⟩:=pL_v (iv:=iv) (tv:=tv) hp hz hq ey
 have hv:∀ {j:Nat} {x:Str},NV[j]?=some x→Loc c.env x:=λe=>hl _ (List.mem_append_left _ (List.mem_of_getElem? e))
 have ht:Loc c.env "t":=hl _ (by simp [NI])
 refine asN 34 H F (EvN.and (.add (.nm (17+jx) H e1 (hv ex) (nv_dbg ex)) (.nm (17+jy) H e2 (hv ey) (nv_dbg ey))) (.const 4294967295)) (λyt ut h1 t1 ey' F1=>?_) (pL_t hp hz hq) ht hs
 have F1:c.SS (pL pre zs us iv (some (.int (yt:Int) ut))) N Φ h1:=by rw [←pL_sett (tv:=tv) hp hz hq];exact F1
 obtain ⟨u3,e3⟩:=pL_v (iv:=iv) (tv:=some (.int (yt:Int) ut)) hp hz hq ev
 refine augX (a:=zs[jv]?.getD 0) (u:=u3) (17+jv) H F1 (EvN.or (.shl (.and (.nm 34 H (pL_t hp hz hq) ht) (.const m hM)) (.const k hS) 32 (Nat.lt_of_le_of_lt Nat.and_le_right hm) hk) (.shr (.nm 34 H (pL_t hp hz hq) ht) (.const (32 - k) hR))) (λy u h2 t2 e F2=>?_) e3 (hv ev)
 have F2:c.SS (pL pre (zs.set jv y) (us.set jv u) iv (some (.int (yt:Int) ut))) N Φ h2:=by rw [←pL_setv hp hz hq ev];exact F2
 refine hQ (zs.set jv y) _ _ h2 t2 ?_ (by rw [List.length_set];exact hz) (by rw [List.length_set];exact hq) F2
 rw [e,ey'];rfl
end
noncomputable def wbody:List Stmt:=bdOf (((bdOf (top 10))[3]?).getD (.Pass default))
theorem salsa_turn {tt:Nat} {ni:Nat} (H:c.Ok n) (F:c.SS (pL pre zs us (some (.int (ni:Int) ui)) tv) N (λ_=>True) hh) (hp:pre.length=17) (hz:zs.length=16) (hq:us.length=16)
  (hl:∀x∈NV++NI,Loc c.env x) :
  c.wp (execs wbody c.env) (λf s=>f = .next∧Ex5 λhh' tt' us' ui' tv'=>An4 (s=c.st hh' tt') (us'.length=16) ((wround zs).length=16) (c.SS (pL pre (wround zs) us' (some (.int ((ni+1:Nat):Int) ui')) tv') N (λ_=>True) hh')) NoE (c.st hh tt):=by
 refine qstep 4 0 12 33554431 7 H F hp hz hq hl (λz0 us tv h t e0 hz hq F=>?_)
 refine qstep 8 4 0 8388607 9 H F hp hz hq hl (λz1 us tv h t e1 hz hq F=>?_)
 refine qstep 12 8 4 524287 13 H F hp hz hq hl (λz2 us tv h t e2 hz hq F=>?_)
 refine qstep 0 12 8 16383 18 H F hp hz hq hl (λz3 us tv h t e3 hz hq F=>?_)
 refine qstep 9 5 1 33554431 7 H F hp hz hq hl (λz4 us tv h t e4 hz hq F=>?_)
 refine qstep 13 9 5 8388607 9 H F hp hz hq hl (λz5 us tv h t e5 hz hq F=>?_)
 refine qstep 1 13 9 524287 13 H F hp hz hq hl (λz6 us tv h t e6 hz hq F=>?_)
 refine qstep 5 1 13 16383 18 H F hp hz hq hl (λz7 us tv h t e7 hz hq F=>?_)
 refine qstep 14 10 6 33554431 7 H F hp hz hq hl (λz8 us tv h t e8 hz hq F=>?_)
 refine qstep 2 14 10 8388607 9 H F hp hz hq hl (λz9 us tv h t e9 hz hq F=>?_)
 refine qstep 6 2 14 524287 13 H F hp hz hq hl (λz10 us tv h t e10 hz hq F=>?_)
 refine qstep 10 6 2 16383 18 H F hp hz hq hl (λz11 us tv h t e11 hz hq F=>?_)
 refine qstep 3 15 11 33554431 7 H F hp hz hq hl (λz12 us tv h t e12 hz hq F=>?_)
 refine qstep 7 3 15 8388607 9 H F hp hz hq hl (λz13 us tv h t e13 hz hq F=>?_)
 refine qstep 11 7 3 524287 13 H F hp hz hq hl (λz14 us tv h t e14 hz hq F=>?_)
 refine qstep 15 11 7 16383 18 H F hp hz hq hl (λz15 us tv h t e15 hz hq F=>?_)
 refine qstep 1 0 3 33554431 7 H F hp hz hq hl (λz16 us tv h t e16 hz hq F=>?_)
 refine qstep 2 1 0 8388607 9 H F hp hz hq hl (λz17 us tv h t e17 hz hq F=>?_)
 refine qstep 3 2 1 524287 13 H F hp hz hq hl (λz18 us tv h t e18 hz hq F=>?_)
 refine qstep 0 3 2 16383 18 H F hp hz hq hl (λz19 us tv h t e19 hz hq F=>?_)
 refine qstep 6 5 4 33554431 7 H F hp hz hq hl (λz20 us tv h t e20 hz hq F=>?_)
 refine qstep 7 6 5 8388607 9 H F hp hz hq hl (λz21 us tv h t e21 hz hq F=>?_)
 refine qstep 4 7 6 524287 13 H F hp hz hq hl (λz22 us tv h t e22 hz hq F=>?_)
 refine qstep 5 4 7 16383 18 H F hp hz hq hl (λz23 us tv h t e23 hz hq F=>?_)
 refine qstep 11 10 9 33554431 7 H F hp hz hq hl (λz24 us tv h t e24 hz hq F=>?_)
 refine qstep 8 11 10 8388607 9 H F hp hz hq hl (λz25 us tv h t e25 hz hq F=>?_)
 refine qstep 9 8 11 524287 13 H F hp hz hq hl (λz26 us tv h t e26 hz hq F=>?_)
 refine qstep 10 9 8 16383 18 H F hp hz hq hl (λz27 us tv h t e27 hz hq F=>?_)
 refine qstep 12 15 14 33554431 7 H F hp hz hq hl (λz28 us tv h t e28 hz hq F=>?_)
 refine qstep 13 12 15 8388607 9 H F hp hz hq hl (λz29 us tv h t e29 hz hq F=>?_)
 refine qstep 14 13 12 524287 13 H F hp hz hq hl (λz30 us tv h t e30 hz hq F=>?_)
 refine qstep 15 14 13 16383 18 H F hp hz hq hl (λz31 us tv h t e31 hz hq F=>?_)
 refine augA (a:=ni) (b:=1) 33 H F (.const 1) (λui h9 t9 F=>?_) (pL_i hp hz hq) (hl _ (by simp [NI]))
 have ew:wround zs=z31:=by rw [e31,e30,e29,e28,e27,e26,e25,e24,e23,e22,e21,e20,e19,e18,e17,e16,e15,e14,e13,e12,e11,e10,e9,e8,e7,e6,e5,e4,e3,e2,e1,e0];rfl
 refine wpAny_execs_nil ⟨rfl,h9,t9,us,ui,tv,rfl,hq,?_,?_⟩
 ·rw [ew];exact hz
 ·rw [ew,←pL_seti hp hz hq];exact F
end
section
noncomputable def en:Nat→List Str→List (Nat×Str)
 | _,[]=>[]
 | n,x::r=>(n,x)::en (n+1) r
theorem zl_keys:∀ {xs:List Str} {ns:List Nat} {us:List Tok},ns.length=xs.length→us.length=xs.length→(zl xs ns us).map (·.1)=xs
 | [],[],[],_,_=>rfl
 | x::xs,_::ns,_::us,h1,h2=>congrArg (x::·) (zl_keys (xs:=xs) (Nat.succ.inj h1) (Nat.succ.inj h2))
noncomputable abbrev noned (xs:List Str):LS:=xs.map λx=>(x,none)
theorem sets_zl {xs:List Str}:∀ {ns:List Nat} {us:List Tok} {pre post:LS} {n:Nat},pre.length=n→ns.length=xs.length→us.length=xs.length →
  sets (en n xs) (List.zipWith Value.int (ns.map λx:Nat=>(x:Int)) us) (pre++(noned xs++post))=pre++(zl xs ns us++post):=by
 induction xs with
 | nil =>
  intro ns us pre post n h h1 h2
  obtain rfl:=List.length_eq_zero_iff.mp h1
  rfl
 | cons x xs ih =>
  intro ns us pre post n h h1 h2
  cases ns with
  | nil=>exact absurd h1.symm (Nat.succ_ne_zero _)
  | cons a ns=>cases us with
   | nil=>exact absurd h2.symm (Nat.succ_ne_zero _)
   | cons u us =>
    have e:(pre++((x,none)::(noned xs++post))).set n (x,some (.int (a:Int) u))=(pre++[(x,some (.int (a:Int) u))])++(noned xs++post):=by
     rw [List.set_append_right _ _ (Nat.le_of_eq h),h,Nat.sub_self,List.set_cons_zero,List.append_assoc];rfl
    show sets (en (n+1) xs) (List.zipWith Value.int (ns.map λx:Nat=>(x:Int)) us) ((pre++((x,none)::(noned xs++post))).set n (x,some (.int (a:Int) u)))=_
    rw [e]
    exact (ih (n:=n+1) (by rw [List.length_append,h];rfl) (Nat.succ.inj h1) (Nat.succ.inj h2)).trans (by rw [List.append_assoc];rfl)
theorem wround_len (s:List Nat):(wround s).length=s.length:=by
 have q:∀iv ix iy m k (s:List Nat),(qs iv ix iy m k s).length=s.length:=λ_ _ _ _ _ _=>by simp [qs]
 unfold wround
 simp only [q]
theorem wrounds_len (s:List Nat):∀n,(wrounds n s).length=s.length
 | 0=>rfl
 | n+1=>(wround_len _).trans (wrounds_len s n)
theorem wsalsa_len (s:List Nat):(wsalsa s).length=s.length:=by simp [wsalsa,wrounds_len]
section
theorem EvIs.names (H:c.Ok n) {xs:List Str}:∀ {ns:List Nat} {us:List Tok} {ps:List Pos} {pre post:LS} {k:Nat},pre.length=k→ns.length=xs.length→us.length=xs.length→ps.length=xs.length →
  (∀x∈xs,Loc c.env x∧ND x)→l=pre++(zl xs ns us++post)→EvIs c l N Φ pos (List.zipWith Expr.Name xs ps) (ns.map λx:Nat=>(x:Int)):=by
 induction xs with
 | nil =>
  intro ns us ps pre post k h h1 h2 h3 hx e
  obtain rfl:=List.length_eq_zero_iff.mp h1
  exact .nil
 | cons x xs ih =>
  intro ns us ps pre post k h h1 h2 h3 hx e
  cases ns with
  | nil=>exact absurd h1.symm (Nat.succ_ne_zero _)
  | cons a ns=>cases us with
   | nil=>exact absurd h2.symm (Nat.succ_ne_zero _)
   | cons u us=>cases ps with
    | nil=>exact absurd h3.symm (Nat.succ_ne_zero _)
    | cons p ps =>
     have h0:=hx x (List.mem_cons_self ..)
     refine .cons (EvI.nm (v:=(a:Int)) (u:=u) k H ?_ h0.1 h0.2) (ih (pre:=pre++[(x,some (.int (a:Int) u))]) (post:=post) (k:=k+1) (by rw [List.length_append,h];rfl) (Nat.succ.inj h1) (Nat.succ.inj h2) (Nat.succ.inj h3) (λy hy=>hx y (List.mem_cons_of_mem _ hy)) (e.trans ?_))
     ·rw [e,List.getElem?_append_right (Nat.le_of_eq h),h,Nat.sub_self];rfl
     ·rw [List.append_assoc];rfl
noncomputable def fW (b v:Nat):Nat:=(b+v) &&& 4294967295
noncomputable def mixL (j:Nat) (xs zs:List Nat):List Nat:=(List.zipWith fW xs zs).take j++xs.drop j
theorem mixL_set (h1:j<xs.length) (h2:xs.length=zs.length):(mixL j xs zs).set j (fW ((mixL j xs zs)[j]?.getD 0) (zs[j]?.getD 0))=mixL (j+1) xs zs:=by
 have hl:(List.zipWith fW xs zs).length=xs.length:=by rw [List.length_zipWith,←h2,Nat.min_self]
 have ht:((List.zipWith fW xs zs).take j).length=j:=by rw [List.length_take,hl];exact Nat.min_eq_left (Nat.le_of_lt h1)
 have hg:(mixL j xs zs)[j]?=some xs[j]:=by
  unfold mixL
  rw [List.getElem?_append_right (Nat.le_of_eq ht),ht,Nat.sub_self,List.getElem?_drop,Nat.add_zero,List.getElem?_eq_getElem h1]
 have hz:zs[j]?=some (zs[j]'(h2▸h1)):=List.getElem?_eq_getElem (h2▸h1)
 rw [hg,hz]
 unfold mixL
 rw [List.set_append_right _ _ (Nat.le_of_eq ht),ht,Nat.sub_self,List.drop_eq_getElem_cons h1,List.set_cons_zero,List.take_succ_eq_append_getElem (by rw [hl];exact h1),List.getElem_zipWith,List.append_assoc]
 rfl
theorem nb_dbg (e:NB[k]?=some x):ND x :=
 (by decide +kernel:∀x∈NB,ND x) x (List.mem_of_getElem? e)
theorem bstep {sb sv:Str} {v0:Str×Option Value} {bs:List Nat} {ub uz:List Tok} (j:Nat) (H:c.Ok n) (F:c.SS (pL (v0::zl NB bs ub) zs uz iv tv) N Φ h) (hB:bs=mixL j xs zs) (hx:xs.length=16) (hb:bs.length=16) (hub:ub.length=16) (hz:zs.length=16) (hq:uz.length=16)
  (hl:∀x∈NB++(NV++NI),Loc c.env x)
  (hQ:∀bs' ub' h' t',bs'=mixL (j+1) xs zs→bs'.length=16→ub'.length=16→c.SS (pL (v0::zl NB bs' ub') zs uz iv tv) N Φ h'→c.wp (execs rest c.env) Q E (c.st h' t'))
  (eb:NB[j]?=some sb:=by rfl) (ev:NV[j]?=some sv:=by rfl) (hj:j<16:=by decide)
  (hs:swapsWith (.BinOp (.BinOp (.Name sb p2) .Add (.Name sv p3) p4) .BitAnd (.Constant (.int 4294967295) k1 p5) p6) (some (.Name sb p1)) p7.line c.env=pure false:=by rfl) :
  c.wp (execs (.Assign [.Name sb p1] (.BinOp (.BinOp (.Name sb p2) .Add (.Name sv p3) p4) .BitAnd (.Constant (.int 4294967295) k1 p5) p6) p7::rest) c.env) Q E (c.st h t):=by
 have hp:(v0::zl NB bs ub).length=17:=congrArg (·+1) (zl_len (xs:=NB) hb hub)
 obtain ⟨u1,e1⟩:=pL_v (iv:=iv) (tv:=tv) hp hz hq ev
 obtain ⟨u2,e2⟩:=zl_get (xs:=NB) hb hub eb
 have hjl:j<(zl NB bs ub).length:=(List.getElem?_eq_some_iff.mp e2).1
 have e3:(pL (v0::zl NB bs ub) zs uz iv tv)[j+1]?=some (sb,some (.int ((bs[j]?.getD 0:Nat):Int) u2)):=by
  unfold pL
  rw [List.getElem?_append_left (Nat.succ_lt_succ hjl),List.getElem?_cons_succ];exact e2
 have kb:Loc c.env sb:=hl _ (List.mem_append_left _ (List.mem_of_getElem? eb))
 have kv:Loc c.env sv:=hl _ (List.mem_append_right _ (List.mem_append_left _ (List.mem_of_getElem? ev)))
 refine asN (j+1) H F (EvN.and (.add (.nm (j+1) H e3 kb (nb_dbg eb)) (.nm (17+j) H e1 kv (nv_dbg ev))) (.const 4294967295)) (λy u h1 t1 ey F1=>?_) e3 kb hs
 have F1:c.SS (pL (v0::zl NB (bs.set j y) (ub.set j u)) zs uz iv tv) N Φ h1:=by
  rw [←zl_set hb hub eb]
  unfold pL at F1 ⊢
  rw [List.set_append_left _ _ (Nat.succ_lt_succ hjl),List.set_cons_succ] at F1
  exact F1
 refine hQ _ _ h1 t1 ?_ (by rw [List.length_set];exact hb) (by rw [List.length_set];exact hub) F1
 rw [ey,hB]
 exact mixL_set (by rw [hx];exact hj) (by rw [hx,hz])
end
theorem unpackAssignU {Q:Unit→Shared→Prop}
  (hm:n=(assignEach elts env).length) (hstar:(assignEach elts env).findIdx? (·.1)=none)
  (hQ:wpAny (model prog w) A (unpackItems v n none) (λys s'=>wpAny (model prog w) A (assignInOrder ((assignEach elts env).map (·.2)) ys) Q E s') E s):wpAny (model prog w) A (assign (.Tuple elts k pos) env v) Q E s:=by
 rw [arm_assign_Tuple]
 refine wpAny_bind (wpAny_standAt ?_)
 unfold unpack
 rw [hstar]
 refine wpAny_bind (wpAny_holding ?_)
 rw [←hm]
 exact hQ
theorem EvT.run {b:Bool} {Q:Bool→Shared→Prop} (x:EvT c l N Φ e b) (F:c.SS l N Φ h)
  (hQ:∀h' t',c.SS l N Φ h'→Q b (c.st h' t')):c.wp (isTrue e c.env (eval e c.env)) Q E (c.st h t):=x Φ (λ_ y=>y) h t Q E F hQ
theorem storeAllB {fs:List (Value→Sem Unit)} {Q:Unit→Shared→Prop} (ns:List (Nat×Str)) (ks:List Str) (H:c.Ok n) (F:c.SS l N Φ h)
  (hf:StoresAs c fs ns) (hl:vs.length=ns.length) (hQ:∀h' t',c.SS (sets ns vs l) N Φ h'→Q () (c.st h' t'))
  (hks:l.map (·.1)=ks:=by rfl) (hns:(ns.all λp=>decide (ks[p.1]?=some p.2) && decide (c.env.kindOf p.2=some .local))=true:=by kernel_rfl):c.wp (assignInOrder fs vs) Q E (c.st h t):=by
 simp only [List.all_eq_true,Bool.and_eq_true,decide_eq_true_eq] at hns
 exact storeAll H ns fs vs l h t Q E hf hl (λp hp=>by rw [hks];exact (hns p hp).1) (λp hp=>(hns p hp).2) F hQ
section
set_option maxHeartbeats 600000
theorem salsa20 (EKK:EK K mg mb) {G:Array GenState→Array GenState→Prop}
  (hA:AOk 2 A) (W:W0 K mg mb h) (hxs:xs.length=16)
  (hU:∀A' h' t' (Q:List Value→Shared→Prop) (E:VQ),A'.handled=none→A'.depth<recursionLimit→Grow h h' →
   (∀ys s',ys.length=16→(∀(j:Nat) y,ys[j]?=some y→Ex2 λx u=>xs[j]?=some x∧y = .int (x:Int) u)→Moved wr G ⟨h',g,d,t',o⟩ s'→(∀p∈N0,s'.heap.get? p.1=some p.2)→Q ys s') →
   wpAny (model prog w) A' (unpackItems (.ref I) 16 none) Q E ⟨h',g,d,t',o⟩)
  (hN0:∀p∈N0,p.1∈wr) (hN0d:(N0.map (·.1)).Nodup)
  (hwr:∀b∈wr,278≤b∨b∈tabs) (hwl:∀b∈wr,b<h.objs.size)
  (hR:∀v h' g' t',(∀b o,b∉wr→h.get? b=some o→h'.get? b=some o)→h.objs.size≤h'.objs.size→G g g'→(∀p∈N0,h'.get? p.1=some p.2)→Since h.objs.size h' (TupN (wsalsa xs) v)→R (.ok (.ret v)) ⟨h',g',d,t',o⟩) :
  codeAny (model prog w) A (.call (.ref 78) ⟨[.ref I],[]⟩) R ⟨h,g,d,t,o⟩:=by
 refine enter (n:=1) (binds:=[("source",.ref I)]) (NB++NV++NI) [] [] EKK.salsa hA W EKK.dom (by intro pm doc;kernel_rfl) rfl (by kernel_rfl) (by trivial) (by simp) (by trivial) (by kernel_rfl) ?_
 intro h₁ t₁ c l Q H F
 have hAd:(A.deeper (PyProof.Rows.envOf (Str.ofString "salsa20") (scOf (top 10)) h.objs.size 78 (.ref 77))).depth<recursionLimit:=by have:=hA.2.1;show A.depth+1<_;lia
 have hgr:Grow h h₁:=F.growth rfl (Nat.le_refl _)
 refine wpAny_execs_cons (PyProof.Rows.Assign_Tuple (ld H F (i:=0) rfl ?_ rfl (by decide)))
 refine unpackAssignU (n:=16) (by rfl) (by rfl) (wpAny_with_size (Nat.le_refl _) (hU _ h₁ t₁ _ _ H.A.1 hAd hgr λys s' hyl hyP mv hN hzz=>?_))
 obtain ⟨h2,g2,d2,t2,o2⟩:=s'
 have ed:d=d2:=mv.drawn.symm
 have eo:o=o2:=mv.os.symm
 have eg:G g g2:=mv.gens
 have ek:∀b o,b∉wr→h₁.get? b=some o→h2.get? b=some o:=mv.heap
 subst ed eo
 have hz2:h₁.objs.size≤h2.objs.size:=hzz
 have hLw:h.objs.size∉wr:=λq=>absurd (hwl _ q) (Nat.lt_irrefl _)
 let c2:Cx:=frameCx prog w A g2 d o h wr K mg mb (Str.ofString "salsa20") (scOf (top 10)) 78 (.ref 77)
 have H2:c2.Ok 1:=⟨H.kind,H.locals,H.globals,H.builtins,H.A,W,EKK.dom,hwr,W.size⟩
 have hl:∀x∈NB++(NV++NI),Loc c2.env x:=by
  have:((NB++(NV++NI)).all λx=>decide ((scOf (top 10)).names.lookup x=some .local))=true:=by decide +kernel
  exact λx hx=>of_decide_eq_true (List.all_eq_true.mp this x hx)
 have F2:c2.SS (([("source",some (.ref I))]:LS)++(noned NB++noned (NV++NI))) N0 (λ_=>True) h2:=⟨ns_keeps F.ns ek hLw,F.nd,λb o hb hL e=>ek b o hb (hgr.2 b o e),(λp hp=>⟨hN p hp,(λr=>hLw (by have r':p.1=h.objs.size:=r;rw [←r'];exact hN0 p hp)),.inr (hN0 p hp)⟩),hN0d,Nat.le_trans F.size hz2,(λ_ hb=>nomatch hb),λ_ _=>trivial⟩
 obtain ⟨us,hus,rfl⟩:=ints_all (xs:=xs) (hyl.trans hxs.symm) hyP
 rw [hxs] at hus
 refine storeAllB (c:=c2) (en 1 NB) _ H2 F2 (⟨.assign,⟨.assign,⟨.assign,⟨.assign,⟨.assign,⟨.assign,⟨.assign,⟨.assign,⟨.assign,⟨.assign,⟨.assign,⟨.assign,⟨.assign,⟨.assign,⟨.assign,⟨.assign,trivial⟩⟩⟩⟩⟩⟩⟩⟩⟩⟩⟩⟩⟩⟩⟩⟩) (by rw [hyl];rfl) (λh3 t3 F3=>?_)
 rw [sets_zl (pre:=[("source",some (.ref I))]) (n:=1) rfl hxs hus] at F3
 have hps:∀(ps:List Pos) (pos:Pos),ps.length=16→EvIs c2 (([("source",some (.ref I))]:LS)++(zl NB xs us++noned (NV++NI))) N0 (λ_=>True) pos (List.zipWith Expr.Name NB ps) (xs.map λx:Nat=>(x:Int)):=λps pos hp=>EvIs.names H2 rfl hxs hus hp (λx hx=>⟨hl x (List.mem_append_left _ hx),(by decide +kernel:∀x∈NB,ND x) x hx⟩) rfl
 refine unpackS (P:=TupN xs) (en 17 NV) (("source":Str)::(NB++(NV++NI))) H2 F3 (EvF.toR (EvF.tupN (hps [_,_,_,_,_,_,_,_,_,_,_,_,_,_,_,_] _ rfl) (by lia))) (λv h x=>?_) (λv' ys h₁' h4 t4 hs hP F4=>?_) (⟨.assign,⟨.assign,⟨.assign,⟨.assign,⟨.assign,⟨.assign,⟨.assign,⟨.assign,⟨.assign,⟨.assign,⟨.assign,⟨.assign,⟨.assign,⟨.assign,⟨.assign,⟨.assign,trivial⟩⟩⟩⟩⟩⟩⟩⟩⟩⟩⟩⟩⟩⟩⟩⟩) (by rw [List.map_append,List.map_append,zl_keys hxs hus];rfl)
 ·obtain ⟨us,a,hu,rfl,ha⟩:=x
  exact ⟨_,⟨a,rfl,.inr ha⟩,by rw [List.length_zipWith,hu,List.length_map,hxs];rfl⟩
 obtain ⟨vs,hvs,rfl⟩:∃us,us.length=xs.length∧ys=List.zipWith Value.int (xs.map λx:Nat=>(x:Int)) us:=by
  obtain ⟨a,rfl,ha⟩:=hs
  obtain ⟨us,a',hu,e,ha'⟩:=hP
  cases e
  refine ⟨us,hu,?_⟩
  rcases ha with ⟨k,ha⟩ | ha
  ·rw [ha] at ha';injection ha' with h;injection h with h _;injection h with h;exact absurd h (by decide)
  ·rw [ha] at ha';exact tobj_inj ha'
 rw [hxs] at hvs
 have F4:c2.SS (pL (("source",some (.ref I))::zl NB xs us) xs vs none none) N0 (λ_=>True) h4:=by
  have e:=sets_zl (pre:=([("source",some (.ref I))]:LS)++zl NB xs us) (post:=noned NI) (n:=17) (xs:=NV) (by rw [List.length_append,zl_len (xs:=NB) hxs hus];rfl) hxs hvs
  have e2:(([("source",some (.ref I))]:LS)++(zl NB xs us++noned (NV++NI)))=(([("source",some (.ref I))]:LS)++zl NB xs us)++(noned NV++noned NI):=by rw [List.append_assoc];rfl
  rw [e2,e] at F4
  exact F4.weaken λ_ _=>trivial
 have hp:∀ {bs:List Nat} {ub:List Tok},bs.length=16→ub.length=16→((("source":Str),some (.ref I))::zl NB bs ub).length=17:=λh1 h2=>congrArg (·+1) (zl_len (xs:=NB) h1 h2)
 refine asI 33 H2 F4 (EvN.const 0) (λui h5 t5 F5=>?_) (pL_i (hp hxs hus) hxs hvs) (hl _ (by simp [NI]))
 have F5:c2.SS (pL (("source",some (.ref I))::zl NB xs us) xs vs (some (.int 0 ui)) none) N0 (λ_=>True) h5:=by rw [←pL_seti (iv:=none) (hp hxs hus) hxs hvs];exact F5
 have hzl:∀k,(wrounds k xs).length=16:=λk=>(wrounds_len xs k).trans hxs
 refine whileS (c:=c2) (m:=4) (λk s=>Ex5 λhh tt us' ui tv=>An3 (s=c2.st hh tt) (us'.length=16) (c2.SS (pL (("source",some (.ref I))::zl NB xs us) (wrounds k xs) us' (some (.int (k:Int) ui)) tv) N0 (λ_=>True) hh)) ⟨h5,t5,vs,ui,none,rfl,hvs,F5⟩ ?_ ?_
 ·rintro k s hk ⟨hh,tt,us',ui,tv,rfl,hu,F⟩
  refine EvT.run (b:=true) (EvT.cast (EvT.lt (.nm 33 H2 (pL_i (hp hxs hus) (hzl k) hu) (hl _ (by simp [NI]))) .const) (decide_eq_true (by lia))) F λh6 t6 F6=>⟨rfl,?_⟩
  refine wpAny_mono (salsa_turn H2 F6 (hp hxs hus) (hzl k) hu λx hx=>hl x (List.mem_append_right _ hx)) (λf s' hs=>?_) λ_ _ x=>x.elim
  obtain ⟨rfl,h7,t7,us',ui',tv',rfl,hu',_,F7⟩:=hs
  exact ⟨rfl,h7,t7,us',ui',tv',rfl,hu',F7⟩
 ·rintro s ⟨hh,tt,uz,ui,tv,rfl,hu,F⟩
  refine EvT.run (b:=false) (EvT.cast (EvT.lt (.nm 33 H2 (pL_i (hp hxs hus) (hzl 4) hu) (hl _ (by simp [NI]))) .const) (decide_eq_false (by trivial))) F λh6 t6 F=>⟨rfl,?_⟩
  have e:xs=mixL 0 xs (wrounds 4 xs):=rfl
  refine bstep 0 H2 F e hxs hxs hus (hzl 4) hu hl (λbs1 us hh t e hb hus F=>?_)
  refine bstep 1 H2 F e hxs hb hus (hzl 4) hu hl (λbs2 us hh t e hb hus F=>?_)
  refine bstep 2 H2 F e hxs hb hus (hzl 4) hu hl (λbs3 us hh t e hb hus F=>?_)
  refine bstep 3 H2 F e hxs hb hus (hzl 4) hu hl (λbs4 us hh t e hb hus F=>?_)
  refine bstep 4 H2 F e hxs hb hus (hzl 4) hu hl (λbs5 us hh t e hb hus F=>?_)
  refine bstep 5 H2 F e hxs hb hus (hzl 4) hu hl (λbs6 us hh t e hb hus F=>?_)
  refine bstep 6 H2 F e hxs hb hus (hzl 4) hu hl (λbs7 us hh t e hb hus F=>?_)
  refine bstep 7 H2 F e hxs hb hus (hzl 4) hu hl (λbs8 us hh t e hb hus F=>?_)
  refine bstep 8 H2 F e hxs hb hus (hzl 4) hu hl (λbs9 us hh t e hb hus F=>?_)
  refine bstep 9 H2 F e hxs hb hus (hzl 4) hu hl (λbs10 us hh t e hb hus F=>?_)
  refine bstep 10 H2 F e hxs hb hus (hzl 4) hu hl (λbs11 us hh t e hb hus F=>?_)
  refine bstep 11 H2 F e hxs hb hus (hzl 4) hu hl (λbs12 us hh t e hb hus F=>?_)
  refine bstep 12 H2 F e hxs hb hus (hzl 4) hu hl (λbs13 us hh t e hb hus F=>?_)
  refine bstep 13 H2 F e hxs hb hus (hzl 4) hu hl (λbs14 us hh t e hb hus F=>?_)
  refine bstep 14 H2 F e hxs hb hus (hzl 4) hu hl (λbs15 us hh t e hb hus F=>?_)
  refine bstep 15 H2 F e hxs hb hus (hzl 4) hu hl (λbs16 us hh t e hb hus F=>?_)
  have ew:wsalsa xs=bs16:=by
   rw [e];unfold mixL wsalsa
   rw [List.take_of_length_le (by rw [List.length_zipWith,hzl,hxs];decide),List.drop_of_length_le (Nat.le_of_eq hxs),List.append_nil];rfl
  refine retF F (P:=TupN (wsalsa xs)) ?_ (λv h' t' F' p=>?_)
  ·rw [ew]
   exact EvF.tupN (EvIs.names (pre:=[("source",some (.ref I))]) (post:=zl NV (wrounds 4 xs) uz++([("i",some (.int ((4:Nat):Int) ui)),("t",tv)]:LS)) (ps:=[_,_,_,_,_,_,_,_,_,_,_,_,_,_,_,_]) H2 rfl hb hus rfl (λx hx=>⟨hl x (List.mem_append_left _ hx),(by decide +kernel:∀x∈NB,ND x) x hx⟩) rfl) (by lia)
  ·exact hR v h' g2 t' (λb o hb e=>F'.keep b o hb (Nat.ne_of_lt (Heap.lt_size e)) e) F'.size eg (λp hp=>(F'.news p hp).1) (p.le F.size)
end
end
section
structure PIt (prog:Program) (w:World) (A:Around) (I:Addr) (fp wr:List Addr) (n:Nat) (Pt:Nat→Value→Value→Prop) (St:Nat→HP) (Mid:Nat→Addr→HP) (Fin:HP):Prop where
 sub:∀b∈wr,b∈fp
 frame:∀i h h',St i h→(∀b∈fp,∀o,h.get? b=some o→h'.get? b=some o)→St i h'
 item:∀i (s:Shared) (Q:Option Value→Shared→Prop) (E:VQ),i<n→St i s.heap →
  (∀T x y h' tk,Pt i x y→h'.IsTuple T #[x,y]→Mid i T h'→(∀b o,b∉wr→s.heap.get? b=some o→h'.get? b=some o)→Q (some (.ref T)) { s with heap:=h',toks:=tk })→wpAny (model prog w) A (pyNext (.ref I)) Q E s
 go:∀(elts:List Expr) (k:Nat) (pos:Pos) i T (s:Shared) (Q:Unit→Shared→Prop) (E:VQ),Mid i T s.heap →
  (∀h',St (i+1) h'→(∀b o,b∉wr→s.heap.get? b=some o→h'.get? b=some o)→Q () { s with heap:=h' })→wpAny (model prog w) A (letOwnedTupleGo (.Tuple elts k pos) (.ref I) (.ref T)) Q E s
 apart:∀i T h,Mid i T h→T∉wr
 done:∀(s:Shared) (Q:Option Value→Shared→Prop) (E:VQ),St n s.heap →
  (∀h' tk,(∀b o,b∉wr→s.heap.get? b=some o→h'.get? b=some o)→Fin h'→Q none { s with heap:=h',toks:=tk })→wpAny (model prog w) A (pyNext (.ref I)) Q E s
 self:∀i (s:Shared) (Q:VQ) (E:VQ),St i s.heap→Q (.ref I) s→wpAny (model prog w) A (pyIter (.ref I)) Q E s
section
variable {z TI TO i1:Addr} {f1 f2:List Addr} {n1 n2:Nat} {P1 P2:Nat→Value→Prop} {S1 S2:Nat→HP}
theorem zipP (hh:A.handled=none) (Z1:ZIt prog w i1 f1 n1 P1 S1) (Z2:ZIt prog w i2 f2 n2 P2 S2) (D:ZApart z TI TO i1 i2 f1 f2) (hle:n1≤n2) :
  PIt prog w A z (z::TI::TO::(f1++f2)) [z,TO,i1,i2] n1 (λk x y=>P1 k x∧P2 k y) (λk h=>ZSt z TI TO i1 i2 S1 S2 .none k k h)
   (λk T h=>ZSt z TI TO i1 i2 S1 S2 (rawInt T) (k+1) (k+1) h∧T≠z∧T≠TO∧T≠i1∧T≠i2) (S2 n1) where
 sub:=(zipU hh Z1 Z2 D hle).sub
 frame:=(zipU hh Z1 Z2 D hle).frame
 item:=λi s Q E hi st hQ=>(zipU hh Z1 Z2 D hle).item i s Q E hi st λT vals h' tk hp hT hm hk=>by
  obtain ⟨x,y,hx,hy,rfl⟩:=hp
  exact hQ T x y h' tk ⟨hx,hy⟩ hT hm hk
 go:=(zipU hh Z1 Z2 D hle).go
 apart:=(zipU hh Z1 Z2 D hle).apart
 done:=λs Q E st hQ=>by
  have hT:s.TypeIs (.ref z) "zip":=⟨_,st.1,rfl⟩
  refine wpAny_bind (wpAny_attempt (wpAny_callSpecial?_slot (name:=Str.ofString "__next__") hT F.slot_zip_next (wpAny_call_entry F.slot_zip_next hT F.entry_zip_next ?_ (F.args_zip_next_1 _))))
  refine zip_start Z1 Z2 D st λh₁ st1 q1=>?_
  refine Z1.done { s with heap:=h₁ } _ _ _ hh st1.2.2.2.1 λe h₂ he q2=>⟨h₂,rfl,q2 _ _ (neOf Z1.mem D.z1) st1.1,λh₃ q3=>?_⟩
  obtain ⟨oe,hoe,hce⟩:=he
  have hz₂:IsZip h₂ z TI TO .ellipsis:=q2 _ _ (neOf Z1.mem D.z1) st1.1
  have hez:e≠z:=λr=>by subst r;rw [hz₂] at hoe;cases hoe;simp at hce
  refine wpAny_bind (wpAny_isInstance (T:="StopIteration") (b:=true) ⟨oe,(q3.2 e hez).trans hoe,hce⟩ isSubtype_stop ?_)
  refine wpAny_pure (hQ h₃ s.toks (λb o hb e=>?_) ?_)
  ·have hb:=nrs hb
   exact (q3.2 b hb.1).trans (q2 b o hb.2.2.1 ((q1.2 b hb.1).trans e))
  ·exact Z2.frame _ _ _ st1.2.2.2.2 λb hb o e=>(q3.2 b (λr=>D.z2 (by rw [←r];exact hb))).trans (q2 b o (λr=>D.i12 (by rw [←r];exact hb)) e)
 self:=(zipU hh Z1 Z2 D hle).self
end
noncomputable def gProto (C:Addr) (fp wr:List Addr) (n₀:Nat) (F:Nat→Value→Prop):Protocol:=λm s₀ v s kap =>
 (∃i,i+1+m=n₀∧F i v)∧GenSince C wr s₀ s∧∀s'':Shared,(∀b∈C::fp,∀o,s.heap.get? b=some o→s''.heap.get? b=some o)→kap (.send .none) s''
noncomputable def gEnd (C:Addr) (wr:List Addr) (Fin:HP):GenEnd:=λn s₀ r s₁=>r = .ok .next∧(n=0∧GenSince C wr s₀ s₁∧Fin s₁.heap)
section
theorem gLoop {Pt:Nat→Value→Value→Prop} {St:Nat→HP} {Mid:Nat→Addr→HP} {Fin:HP}
  (hh:A.handled=none) (W:∀A':Around,A'.handled=none→PIt prog w A' I fp wr n₀ Pt St Mid Fin) (F:Nat→Value→Prop) (hab:xa≠xb)
  (hxa:cenv.kindOf xa=some .local) (hxb:cenv.kindOf xb=some .local) (hp:(cenv.scope.kind == .class || (cenv.scope.kind == .module && cenv.locals != cenv.globals))=false)
  (hco:cenv.scope.isCoroutine=false) (hCf:cenv.locals∉fp)
  (hq:∀(A':Around) (E':VQ) i va vb (s₂:Shared) m₂,A'.handled=none→Pt i va vb→s₂.heap.Ns cenv.locals m₂→m₂ xa=some va→m₂ xb=some vb→wpAny (model prog w) A' (eval elt cenv) (λy s₃=>F i y∧Keeps s₂ s₃) E' s₂) :
  ∀(k i:Nat) (s₀ s:Shared) (m:Str→Option Value),n₀ - i=k→i≤n₀→St i s.heap→s.heap.Ns cenv.locals m→GenSince cenv.locals wr s₀ s →
   Seg (model prog w) A (gEnd cenv.locals wr Fin) (gProto cenv.locals fp wr n₀ F) k s₀
    (.compLoop (.GeneratorExp elt [⟨.Tuple [.Name xa pa,.Name xb pb] kt pt,iter,[],0⟩] scope pos) 0 (.ref I) .none cenv)
    ((model prog w).den (.compLoop (.GeneratorExp elt [⟨.Tuple [.Name xa pa,.Name xb pb] kt pt,iter,[],0⟩] scope pos) 0 (.ref I) .none cenv)) [] s:=by
 have hh':(A.over (.compLoop (.GeneratorExp elt [⟨.Tuple [.Name xa pa,.Name xb pb] kt pt,iter,[],0⟩] scope pos) 0 (.ref I) .none cenv) []).handled=none:=hh
 have hCw:cenv.locals∉wr:=λh=>hCf ((W A hh).sub _ h)
 intro k
 induction k with
 | zero =>
  intro i s₀ s m hk hi hst hn hsince
  obtain rfl:i=n₀:=by lia
  show Seg _ A _ _ _ s₀ _ ((compTurn (.GeneratorExp elt [⟨.Tuple [.Name xa pa,.Name xb pb] kt pt,iter,[],0⟩] scope pos) 0 (.ref I) .none cenv).onRaise (leaving cenv)) [] s
  rw [compTurn_gen,Sem.onRaise_eq_wrap]
  refine seg_bind_wrap (wpAny_standAt (seg_bind_wrap ((W _ hh').done s _ _ hst λh' tk hk' hf=>?_)))
  exact seg_end (.ok .next) ⟨rfl,rfl,hsince.step λb o _ hw e=>hk' b o hw e,hf⟩
 | succ k ih =>
  intro i s₀ s m hk hi hst hn hsince
  have hlt:i<n₀:=by lia
  show Seg _ A _ _ _ s₀ _ ((compTurn (.GeneratorExp elt [⟨.Tuple [.Name xa pa,.Name xb pb] kt pt,iter,[],0⟩] scope pos) 0 (.ref I) .none cenv).onRaise (leaving cenv)) [] s
  rw [compTurn_gen,Sem.onRaise_eq_wrap]
  refine seg_bind_wrap (wpAny_standAt (seg_bind_wrap ((W _ hh').item i s _ _ hlt hst λT va vb h₁ tk₁ hPt hT hmid hk₁=>?_)))
  refine seg_bind_wrap ((W _ hh').go _ _ _ i T _ _ _ hmid λh₂ hst₂ hk₂=>?_)
  have hT₂:h₂.IsTuple T #[va,vb]:=let ⟨o,e,r⟩:=hT;⟨o,hk₂ T o ((W A hh).apart _ _ _ hmid) e,r⟩
  have hn₂:h₂.Ns cenv.locals m:=hn.at' λo e=>hk₂ _ o hCw (hk₁ _ o hCw e)
  have up₂:∀b o,b≠cenv.locals→b∉wr→s.heap.get? b=some o→h₂.get? b=some o:=λb o _ hbw e=>hk₂ b o hbw (hk₁ b o hbw e)
  refine seg_bind_wrap (wpAny_assign_Tuple hh' hT₂ rfl rfl λh₃ hk₃=>?_)
  have k₃:∀b o,h₂.get? b=some o→h₃.get? b=some o:=λb o e=>hk₃ b o (Nat.ne_of_lt (Heap.lt_size e)) e
  refine wpAny_assignInOrder_more (wpAny_assign_Name (wpAny_storeName_local hxa (hn₂.keeps k₃) (λh₄ hn₄ hs₄=>?_) hp))
  refine wpAny_assignInOrder_more (wpAny_assign_Name (wpAny_storeName_local hxb hn₄ (λh₅ hn₅ hs₅=>?_) hp))
  refine wpAny_assignInOrder_none ?_
  have up₅:∀b o,b≠cenv.locals→h₂.get? b=some o→h₅.get? b=some o:=λb o hb e=>(hs₅.2 b hb).trans ((hs₄.2 b hb).trans (k₃ b o e))
  have hst₅:St (i+1) h₅:=(W A hh).frame _ _ _ hst₂ λb hb o e=>up₅ b o (λr=>hCf (r▸hb)) e
  have hsince₅:GenSince cenv.locals wr s₀ { s with heap:=h₅,toks:=tk₁+1+1 }:=hsince.step λb o hbC hbw e=>up₅ b o hbC (up₂ b o hbC hbw e)
  refine seg_bind_wrap (m:=forIn ([]:List Expr) true _) ?_
  rw [List.forIn_nil]
  refine wpAny_pure ?_
  simp only [if_true]
  have hy:∀v,yieldOut cenv v=yieldValue v:=λv=>by simp only [yieldOut,hco,Bool.false_eq_true,if_false]
  simp only [hy]
  rw [Sem.bind_eq_wrap',Sem.bind_eq_wrap',Sem.wrap_wrap,Sem.wrap_wrap]
  refine seg_wrap (wpAny_mono (hq _ _ i va vb _ _ hh' hPt hn₅ (by simp [hab]) (by simp)) (λy s₆ h₆=>?_) λ_ _ e=>e)
  obtain ⟨hFy,h₆,tk₆,rfl,hk₆⟩:=h₆
  refine seg_at (seg_yield rfl rfl rfl ⟨⟨i,by lia,hFy⟩,hsince₅.step λb o _ _ e=>hk₆ b o e,λs'' hal=>?_⟩)
  exact seg_again rfl (ih (i+1) s'' s'' _ (by lia) hlt ((W A hh).frame _ _ _ hst₅ λb hb o e=>hal b (List.mem_cons_of_mem _ hb) o (hk₆ b o e))
   ((hn₅.keeps hk₆).at' λo e=>hal _ (List.mem_cons_self ..) o e) (GenSince.refl _ _ _))
end
end
section
section
theorem gStart {Pt:Nat→Value→Value→Prop} {St:Nat→HP} {Mid:Nat→Addr→HP} {Fin:HP}
  (hh:A.handled=none) (W:∀A':Around,A'.handled=none→PIt prog w A' I fp wr n₀ Pt St Mid Fin) (F:Nat→Value→Prop) (hab:xa≠xb)
  (hxa:cenv.kindOf xa=some .local) (hxb:cenv.kindOf xb=some .local) (hp:(cenv.scope.kind == .class || (cenv.scope.kind == .module && cenv.locals != cenv.globals))=false)
  (hco:cenv.scope.isCoroutine=false) (hCf:cenv.locals∉fp)
  (hq:∀(A':Around) (E':VQ) i va vb (s₂:Shared) m₂,A'.handled=none→Pt i va vb→s₂.heap.Ns cenv.locals m₂→m₂ xa=some va→m₂ xb=some vb→wpAny (model prog w) A' (eval elt cenv) (λy s₃=>F i y∧Keeps s₂ s₃) E' s₂)
  (s₀ s:Shared) (m:Str→Option Value) (hst:St 0 s.heap) (hn:s.heap.Ns cenv.locals m) (hsince:GenSince cenv.locals wr s₀ s) :
  Seg (model prog w) A (gEnd cenv.locals wr Fin) (gProto cenv.locals fp wr n₀ F) n₀ s₀
   (.compStart (.GeneratorExp elt [⟨.Tuple [.Name xa pa,.Name xb pb] kt pt,iter,[],0⟩] scope pos) 0 (.ref I) .none cenv)
   ((model prog w).den (.compStart (.GeneratorExp elt [⟨.Tuple [.Name xa pa,.Name xb pb] kt pt,iter,[],0⟩] scope pos) 0 (.ref I) .none cenv)) [] s:=by
 have hh':(A.over (.compStart (.GeneratorExp elt [⟨.Tuple [.Name xa pa,.Name xb pb] kt pt,iter,[],0⟩] scope pos) 0 (.ref I) .none cenv) []).handled=none:=hh
 have loop:=gLoop (iter:=iter) (pa:=pa) (pb:=pb) (pt:=pt) (kt:=kt) (scope:=scope) (pos:=pos) hh W F hab hxa hxb hp hco hCf hq n₀ 0 s₀ s m (Nat.sub_zero _) (Nat.zero_le _) hst hn hsince
 show Seg _ A _ _ _ s₀ _ ((compStart (.GeneratorExp elt [⟨.Tuple [.Name xa pa,.Name xb pb] kt pt,iter,[],0⟩] scope pos) 0 (.ref I) .none cenv).onRaise (leaving cenv)) [] s
 unfold compStart
 rw [Sem.onRaise_eq_wrap]
 show Seg _ A _ _ _ s₀ _ ((ask >>= _).wrap _ _ _ _) [] s
 refine seg_bind_wrap (wpAny_askSetting ?_)
 split
 ·exact seg_again rfl loop
 ·first
   | exact seg_bind_wrap (wpAny_rule (seg_bind_wrap (wpAny_standAt (seg_bind_wrap ((W _ hh').self 0 s _ _ hst (seg_again rfl loop))))))
   | (refine seg_bind_wrap (wpAny_rule ?_);show Seg _ A _ _ _ s₀ _ ((standAt iter.pos >>= _).wrap _ _ _ _) [] s;exact seg_bind_wrap (wpAny_standAt (seg_bind_wrap ((W _ hh').self 0 s _ _ hst (seg_again rfl loop)))))
noncomputable def GAt (prog:Program) (w:World) (A:Around) (a:Addr) (g:Nat) (C:Addr) (fp wr:List Addr) (n₀:Nat) (F:Nat→Value→Prop) (Fin:HP) (j:Nat) (s:Shared):Prop :=
 s.heap.IsGen a g∧s.heap.NoLimit∧∃gs,s.gens[g]?=some gs∧∀s'':Shared,(∀b∈C::fp,∀o,s.heap.get? b=some o→s''.heap.get? b=some o) →
  gs.Goes (model prog w) A.in1 (gEnd C wr Fin) (gProto C fp wr n₀ F) (n₀ - j) (.send .none) s''
structure GMoved (C:Addr) (wr:List Addr) (g:Nat) (s s':Shared):Prop where
 heap:∀b o,b≠C→b∉wr→s.heap.get? b=some o→s'.heap.get? b=some o
 gens:GenOnlyQ g s.gens s'.gens
 drawn:s'.drawn=s.drawn
 os:s'.os=s.os
section
variable {g:Nat} {F:Nat→Value→Prop} {Fin:HP}
theorem gNext (hh:A.handled=none) (hroom:A.depth<recursionLimit) (haC:a≠C) (haw:a∉wr) (hcC:cStatics≠C) (hcw:cStatics∉wr) (hj:j<n₀) (st:GAt prog w A a g C fp wr n₀ F Fin j s)
  {Q:Option Value→Shared→Prop} (hQ:∀v s',F j v→GAt prog w A a g C fp wr n₀ F Fin (j+1) s'→GMoved C wr g s s'→Q (some v) s'):wpAny (model prog w) A (pyNext (.ref a)) Q E s:=by
 obtain ⟨hg,hl,gs,hgs,hgo⟩:=st
 obtain ⟨m,hm⟩:∃m,n₀ - j=m+1:=⟨n₀ - j - 1,by lia⟩
 rw [hm] at hgo
 refine wpAny_pyNext_genexpQ (P:=λn s₀ s₁=>n=0∧GenSince C wr s₀ s₁∧Fin s₁.heap) hh hl hroom hg hgs (hgo _ λ_ _ _ e=>e) (λv s₁ gs' hb hv=>?_) (λs₁ hp h' hk=>?_)
 ·obtain ⟨⟨i,hi,hF⟩,⟨h₁,tk₁,rfl,hk₁⟩,hkap⟩:=hv
  obtain rfl:i=j:=by lia
  refine hQ v _ hF ⟨let ⟨o,nm,qn,ho,r⟩:=hg;⟨o,nm,qn,hk₁ a o haC haw ho,r⟩,(let ⟨mc,hns,hnn⟩:=hl;⟨mc,hns.at' λo e=>hk₁ cStatics o hcC hcw e,hnn⟩),gs',setGen_self (gs:=.running) (setGen_self hgs),λs'' hal=>?_⟩
   ⟨λb o hbC hbw e=>hk₁ b o hbC hbw e,.inr ⟨(GenOnly.setGen s g .running).trans (GenOnly.setGen _ g gs'),λx hx=>?_⟩,rfl,rfl⟩
  ·have e:n₀ - (i+1)=m:=by lia
   rw [e]
   exact hkap s'' hal
  ·have:=setGen_self (x:=gs') (gs:=.running) (setGen_self (x:=.running) hgs)
   rw [show ({ (s.setGen g .running) with heap:=h₁,toks:=tk₁ }:Shared).setGen g gs'=_ from rfl] at hx
   have e2:(((s.setGen g .running).setGen g gs').gens)[g]?=some gs':=this
   have hx':(((s.setGen g .running).setGen g gs').gens)[g]?=some x:=hx
   rw [e2] at hx';cases hx';exact hb
 ·exact absurd hp.1 (Nat.succ_ne_zero m)
theorem gDone (hh:A.handled=none) (hroom:A.depth<recursionLimit) (st:GAt prog w A a g C fp wr n₀ F Fin n₀ s) (hfin:∀h h',Fin h→(∀b o,h.get? b=some o→h'.get? b=some o)→Fin h')
  {Q:Option Value→Shared→Prop} (hQ:∀s',GMoved C wr g s s'→Fin s'.heap→Q none s'):wpAny (model prog w) A (pyNext (.ref a)) Q E s:=by
 obtain ⟨hg,hl,gs,hgs,hgo⟩:=st
 rw [Nat.sub_self] at hgo
 refine wpAny_pyNext_genexpQ (P:=λn s₀ s₁=>n=0∧GenSince C wr s₀ s₁∧Fin s₁.heap) hh hl hroom hg hgs (hgo _ λ_ _ _ e=>e) (λv s₁ gs' _ hv=>?_) (λs₁ hp h' hk=>?_)
 ·obtain ⟨_,_,hkap⟩:=hv
  exact False.elim (hkap s₁ λ_ _ _ e=>e)
 ·obtain ⟨_,⟨h₁,tk₁,rfl,hk₁⟩,hf⟩:=hp
  refine hQ _ ⟨λb o hbC hbw e=>hk b o (hk₁ b o hbC hbw e),.inr ⟨(GenOnly.setGen s g .running).trans (GenOnly.setGen _ g .finished),λx hx=>?_⟩,rfl,rfl⟩ (hfin _ _ hf hk)
  have e2:(((s.setGen g .running).setGen g .finished).gens)[g]?=some .finished:=setGen_self (gs:=.running) (setGen_self hgs)
  have hx':(((s.setGen g .running).setGen g .finished).gens)[g]?=some x:=hx
  rw [e2] at hx';cases hx';rfl
end
end
end
section
section
variable {g:Nat} {F:Nat→Value→Prop} {Fin:HP}
theorem GMoved.refl (s:Shared):GMoved C wr g s s:=⟨λ_ _ _ _ e=>e,.inl rfl,rfl,rfl⟩
theorem GMoved.trans {s'':Shared} (x:GMoved C wr g s s') (y:GMoved C wr g s' s''):GMoved C wr g s s'' :=
 ⟨λb o hC hw e=>y.heap b o hC hw (x.heap b o hC hw e),x.gens.trans y.gens,y.drawn.trans x.drawn,y.os.trans x.os⟩
theorem drawG (hh:A.handled=none) (hroom:A.depth<recursionLimit) (haC:a≠C) (haw:a∉wr) (hcC:cStatics≠C) (hcw:cStatics∉wr):∀(k i:Nat) (s:Shared) (Q:List Value→Shared→Prop),i+k≤n₀→GAt prog w A a g C fp wr n₀ F Fin i s →
  (∀ys s',ys.length=k→(∀(j:Nat) y,ys[j]?=some y→F (i+j) y)→GAt prog w A a g C fp wr n₀ F Fin (i+k) s'→GMoved C wr g s s'→Q ys s')→wpAny (model prog w) A (draw (.ref a) k) Q E s
 | 0,i,s,Q,_,st,hQ=>wpAny_pure (hQ [] s rfl (by simp) st (GMoved.refl s))
 | k+1,i,s,Q,hle,st,hQ=>by
  show wpAny _ _ (pyNext (.ref a) >>= _) Q E s
  refine wpAny_bind (gNext hh hroom haC haw hcC hcw (by lia) st λv s₁ hv st₁ m₁=>?_)
  refine wpAny_bind (wpAny_holding (drawG hh hroom haC haw hcC hcw k (i+1) s₁ _ (by lia) st₁ λys s₂ hl hy st₂ m₂=>wpAny_pure ?_))
  refine hQ (v::ys) s₂ (by simp [hl]) (λj y e=>?_) (by rw [show i+(k+1)=i+1+k by lia];exact st₂) (m₁.trans m₂)
  cases j with
  | zero=>simp only [List.getElem?_cons_zero,Option.some.injEq] at e;subst e;exact hv
  | succ j=>rw [List.getElem?_cons_succ] at e;rw [show i+(j+1)=i+1+j by lia];exact hy j y e
theorem unpackG {Q:List Value→Shared→Prop} (hh:A.handled=none) (hroom:A.depth<recursionLimit) (haC:a≠C) (haw:a∉wr) (hcC:cStatics≠C) (hcw:cStatics∉wr) (st:GAt prog w A a g C fp wr n₀ F Fin 0 s)
  (hfin:∀h h',Fin h→(∀b o,h.get? b=some o→h'.get? b=some o)→Fin h')
  (hQ:∀ys s',ys.length=n₀→(∀(j:Nat) y,ys[j]?=some y→F j y)→GMoved C wr g s s'→Fin s'.heap→Q ys s'):wpAny (model prog w) A (unpackItems (.ref a) n₀ none) Q E s:=by
 unfold unpackItems
 refine wpAny_bind ?_
 unfold notIterableAtAll
 refine wpAny_bind (wpAny_specialOf st.1.typeIs slot_gen_iter.lookup ?_)
 refine wpAny_pure ?_
 simp only [Bool.false_eq_true,if_false]
 refine wpAny_bind (wpAny_holding (wpAny_pyIter_gen st.1 ?_))
 refine wpAny_bind (wpAny_holding (drawG hh hroom haC haw hcC hcw n₀ 0 s _ (by lia) st λys s₁ hl hy st₁ m₁=>?_))
 rw [if_neg (by simp [hl])]
 rw [Nat.zero_add] at st₁
 refine wpAny_bind (wpAny_holding (gDone hh hroom st₁ hfin λs₂ m₂ hf=>?_))
 simp only [Option.isSome_none,Bool.false_eq_true,if_false]
 exact wpAny_pure (hQ ys s₂ hl (λj y e=>by have:=hy j y e;rwa [Nat.zero_add] at this) (m₁.trans m₂) hf)
theorem GAt.fresh {Pt:Nat→Value→Value→Prop} {St:Nat→HP} {Mid:Nat→Addr→HP}
  (hh:A.handled=none) (W:∀A':Around,A'.handled=none→PIt prog w A' I fp wr n₀ Pt St Mid Fin) (hab:xa≠xb)
  (hxa:cenv.kindOf xa=some .local) (hxb:cenv.kindOf xb=some .local) (hp:(cenv.scope.kind == .class || (cenv.scope.kind == .module && cenv.locals != cenv.globals))=false)
  (hco:cenv.scope.isCoroutine=false) (hCf:cenv.locals∉fp)
  (hq:∀(A':Around) (E':VQ) i va vb (s₂:Shared) m₂,A'.handled=none→Pt i va vb→s₂.heap.Ns cenv.locals m₂→m₂ xa=some va→m₂ xb=some vb→wpAny (model prog w) A' (eval elt cenv) (λy s₃=>F i y∧Keeps s₂ s₃) E' s₂)
  {m:Str→Option Value} (hg:s.heap.IsGen a g) (hgs:s.gens[g]?=some (.fresh (.compStart (.GeneratorExp elt [⟨.Tuple [.Name xa pa,.Name xb pb] kt pt,iter,[],0⟩] scope pos) 0 (.ref I) .none cenv)))
  (hst:St 0 s.heap) (hn:s.heap.Ns cenv.locals m) (hl:s.heap.NoLimit):GAt prog w A a g cenv.locals fp wr n₀ F Fin 0 s :=
 ⟨hg,hl,_,hgs,λs'' hal=>⟨rfl,gStart (A:=A.in1) hh W F hab hxa hxb hp hco hCf hq s'' s'' m ((W A hh).frame _ _ _ hst λb hb o e=>hal b (List.mem_cons_of_mem _ hb) o e)
  (hn.at' λo e=>hal _ (List.mem_cons_self ..) o e) (GenSince.refl _ _ _)⟩⟩
end
end
section
open Builtin.SmallTypes (nextOf)
noncomputable abbrev tiX (l:Addr) (k:Nat):Obj:={ cls:=.type "tuple_iterator",data:=.fields #[.ref l,.int (k:Int) 0] }
theorem tiX_is {i l:Addr} (e:h.get? i=some (tiX l k)):h.IsTupleIter i l k:=⟨_,e,rfl,rfl⟩
section
theorem nextOf_tuple_itemX {it t:Addr} {x:Value} {Q:VQ} (hit:s.heap.get? it=some (tiX t i)) (ht:s.heap.IsTuple t items) (hx:items[i]?=some x)
  (hQ:∀h',h'.get? it=some (tiX t (i+1))→Heap.SameBut it s.heap h'→Q x { s with heap:=h' }):wpAny (model prog w) A (nextOf (.ref it)) Q E s:=by
 have hit':=tiX_is hit
 obtain ⟨ol,hol,_,nl,hdl⟩:=ht
 refine wpAny_bind (wpAny_callSpecial?_slot (name:=Str.ofString "__next__") hit'.typeIs F.slot_tuple_iterator_next
  (wpAny_call_entry F.slot_tuple_iterator_next hit'.typeIs F.entry_tuple_iterator_next ?_ (F.args_tuple_iterator_next_1 _)))
 refine wpAny_bind (m:=field (.ref it) 0) (wpAny_field hit rfl (x:=.ref t) rfl ?_)
 show wpAny _ _ (if (Value.ref t == Value.none)=true then _ else _) _ _ s
 rw [if_neg (by intro e;cases e)]
 refine wpAny_bind (m:=field (.ref it) 1) (wpAny_field hit rfl (x:=.int i 0) rfl ?_)
 refine wpAny_bind (m:=seqItems? (.ref t)) (wpAny_seqItems hol hdl ?_)
 simp only [Int.toNat_natCast,hx]
 refine wpAny_bind (wpAny_setField_rec hit (by simp) λh' hit'' hs=>wpAny_pure ⟨x,rfl,wpAny_pure (hQ h' ?_ hs)⟩)
 rw [hit'']
 simp [rawInt]
end
theorem ZIt.tupleX (i ax:Addr) (hne:ax≠i) (items:Array Value):ZIt prog w i [i,ax] items.size (λk v=>items[k]?=some v) (λk h=>h.get? i=some (tiX ax k)∧h.IsTuple ax items) where
 mem:=by trivial
 frame:=λ_ _ _ st hk=>⟨hk i (by trivial) _ st.1,(let ⟨o,e,r⟩:=st.2;⟨o,hk ax (by trivial) o e,r⟩)⟩
 live:=λ_ _ st=>⟨_,st.1⟩
 item:=λk s A Q E hk st hQ=>nextOf_tuple_itemX st.1 st.2 (x:=items[k]) (by simp [hk]) λh' hit hs=>hQ _ h' (by simp [hk]) ⟨hit,st.2.extBut hs.extBut hne⟩ hs
 done:=λs A Q E hh st hE=>nextOf_tuple_end hh (tiX_is st.1) st.2 (by simp) hE
end
section
noncomputable def CodeTab (K:Frag) (cc P:Addr):Prop:=Ex9 λo vs file tf flags tg inF text tt=>An8 (K.lookup cc=some o) (o.data = .fields vs) (vs.getD 11 .none = .ref P) (vs.getD 18 .none = .str file tf) (vs.getD 7 .none = .int flags tg) (vs.getD 9 .none = .bool inF) (vs.getD 10 .none = .int text tt) (cc≠P)
noncomputable def TabOk (op:Obj):Prop:=∃ps,op=tabObj ps∧TriplesOk ps.toList
theorem CodeTab.isCode {P:Addr} (x:CodeTab K cc P) (hK:K.In h) (hP:h.get? P=some (tabObj ps)) (ht:TriplesOk ps.toList):h.IsCode cc P ps:=by
 obtain ⟨o,vs,file,tf,flags,tg,inF,text,tt,e,hd,h1,h2,h3,h4,h5,h6⟩:=x
 exact ⟨o,vs,file,tf,flags,tg,inF,text,tt,_,hK _ _ e,hd,h1,h2,h3,h4,h5,hP,rfl,ht,h6⟩
noncomputable def TabNew (pos:Pos) (ps ps':Array Value):Prop:=ps'=ps∨(codeAmong pos ps.toList=none∧∃c',ps'=ps++#[rawInt pos.line,rawInt pos.col,.ref c'])
theorem codeAmong_app {c:Value} (l r:List Value) (ht:TriplesOk l) (h:codeAmong pos l=some c):codeAmong pos (l++r)=some c:=by
 fun_induction TriplesOk l with
 | case1=>cases h
 | case2 a t b u x rest ih =>
  have h:(if (a == pos.line && b == pos.col)=true then some x else codeAmong pos rest)=some c:=h
  show (if (a == pos.line && b == pos.col)=true then some x else codeAmong pos (rest++r))=some c
  by_cases hc:(a == pos.line && b == pos.col)=true
  ·rw [if_pos hc] at h ⊢;exact h
  ·rw [if_neg hc] at h ⊢;exact ih ht h
 | case3=>exact ht.elim
theorem TabNew.among {q:Pos} (x:TabNew pos ps ps') (ht:TriplesOk ps.toList) {c:Value} (h:codeAmong q ps.toList=some c):codeAmong q ps'.toList=some c:=by
 rcases x with rfl | ⟨_,c',rfl⟩
 ·exact h
 ·rw [Array.toList_append];exact codeAmong_app _ _ ht h
theorem TabNew.ok (x:TabNew pos ps ps') (h:TriplesOk ps.toList):TriplesOk ps'.toList:=by
 rcases x with rfl | ⟨_,c',rfl⟩
 ·exact h
 ·rw [Array.toList_append];exact TriplesOk_snoc _ _ _ _ h
theorem genCodeT {c P:Addr} {qualname:Str} {Q:VQ} (hc:env.code = .ref c) (hok:s.heap.IsCode c P ps) (hP:s.heap.get? P=some (tabObj ps))
  (hQ:∀code h' tk ps',Heap.ExtBut P s.heap h'→TabNew pos ps ps'→h'.get? P=some (tabObj ps')→Q code { s with heap:=h',toks:=tk }) :
  wpAny M A (genexprCode env pos qualname scope) Q E s:=by
 obtain ⟨o,vs,file,tf,flags,tg,inF,text,tt,op,ho,hd,h11,h2,h7,h9,h10,hop,hpd,htr,hne⟩:=id hok
 unfold genexprCode codeAt
 rw [hc,if_neg (show ¬ ((Value.ref c == Value.none)=true) from Bool.false_ne_true)]
 refine wpAny_bind (wpAny_fieldsOf ho hd ?_)
 rw [h11]
 refine wpAny_bind (wpAny_fieldsOf hop hpd ?_)
 cases hnf:codeAmong pos ps.toList with
 | some cv=>exact wpAny_pure (hQ cv s.heap s.toks ps (Heap.ExtBut.refl _ _) (.inl rfl) hP)
 | none =>
  rw [h2,h7,h9,h10]
  refine wpAny_bind (wpAny_newCode λc' P' h' tk hk hc' hP' hcode' hrec'=>?_)
  have hop':=hk _ _ hop
  refine wpAny_bind (wpAny_updateFieldsOfTheText hop' hpd ?_)
  have hnew:(Obj.mapFields (λvs=>if (codeAmong pos vs.toList).isSome=true then vs else vs++#[rawInt pos.line,rawInt pos.col,.ref c']) op).data =
    .fields (ps++#[rawInt pos.line,rawInt pos.col,.ref c']):=by
   rw [Obj.data_mapFields hpd,hnf];rfl
  have hget:=Heap.get?_update_self (h:=h') (λo=>Obj.mapFields (λvs=>if (codeAmong pos vs.toList).isSome=true then vs else
   vs++#[rawInt pos.line,rawInt pos.col,.ref c']) o) hop' (Obj.isFreed_of_fields hnew)
  refine wpAny_bind (wpAny_fieldsOf hget hnew ?_)
  have hl:(ps++#[rawInt pos.line,rawInt pos.col,Value.ref c']).toList=ps.toList++[rawInt pos.line,rawInt pos.col,.ref c']:=by simp
  rw [hl,codeAmong_snoc _ htr hnf]
  refine wpAny_pure (hQ _ _ _ (ps++#[rawInt pos.line,rawInt pos.col,.ref c']) (λb o' hb e=>((Heap.SameBut.update ..).extBut b o' hb (hk b o' e))) (.inr ⟨hnf,c',rfl⟩) ?_)
  have e1:op=tabObj ps:=Option.some.inj (hop.symm.trans hP)
  rw [hget,e1]
  simp only [Obj.mapFields,hnf]
  rfl
noncomputable def BiOk (K:Frag) (mg:Str→Option Value):Prop:=Ex2 λbm o=>An6 (mg "__builtins__"=some (.ref bm)) (bm≠builtinsNs) (K.lookup bm=some o) (o.cls = .type "module") (o.dict=some builtinsNs) (o.data = .plain)
noncomputable def GensOk (g g':Array GenState):Prop:=(∀y∈g,y.bare=true)→∀y∈g',y.bare=true
section
structure ZOut (prog:Program) (w:World) (as bs:List Nat) (P:Addr) (N0:LN) (wrOld:List Addr) (h h1:Heap) (z TI TO i1 i2:Addr) (f1 f2:List Addr) (n2:Nat) (P1 P2:Nat→Value→Prop) (S1 S2:Nat→HP):Prop where
 z1:ZIt prog w i1 f1 16 P1 S1
 z2:ZIt prog w i2 f2 n2 P2 S2
 ap:ZApart z TI TO i1 i2 f1 f2
 le:16≤n2
 st:ZSt z TI TO i1 i2 S1 S2 .none 0 0 h1
 fp:∀b∈z::TI::TO::(f1++f2),b<h1.objs.size∧b≠P
 wr:∀b∈[z,TO,i1,i2],278≤b∧(h.objs.size≤b∨b∈wrOld)
 p1:∀(i:Nat) x,P1 i x→Ex2 λ(m:Nat) (u:Tok)=>as[i]?=some m∧x = .int (m:Int) u
 p2:∀(i:Nat) x,P2 i x→Ex2 λ(m:Nat) (u:Tok)=>bs[i]?=some m∧x = .int (m:Int) u
 fin:∀h,S2 16 h→∀p∈N0,h.get? p.1=some p.2
 n0:∀p∈N0,p.1=i2
 kept:∀b o,h.get? b=some o→h1.get? b=some o
 size:h.objs.size≤h1.objs.size
structure ZN (prog:Program) (w:World) (as bs:List Nat) (P:Addr) (h h1:Heap) (z TI TO i1 i2:Addr) (f1 f2:List Addr) (n2:Nat) (P1 P2:Nat→Value→Prop) (S1 S2:Nat→HP):Prop where
 z1:ZIt prog w i1 f1 as.length P1 S1
 z2:ZIt prog w i2 f2 n2 P2 S2
 ap:ZApart z TI TO i1 i2 f1 f2
 le:as.length≤n2
 st:ZSt z TI TO i1 i2 S1 S2 .none 0 0 h1
 fp:∀b∈z::TI::TO::(f1++f2),b<h1.objs.size∧b≠P
 wr:∀b∈[z,TO,i1,i2],h.objs.size≤b
 p1:∀(i:Nat) x,P1 i x→Ex2 λ(m:Nat) (u:Tok)=>as[i]?=some m∧x = .int (m:Int) u
 p2:∀(i:Nat) x,P2 i x→Ex2 λ(m:Nat) (u:Tok)=>bs[i]?=some m∧x = .int (m:Int) u
 kept:∀b o,h.get? b=some o→h1.get? b=some o
 size:h.objs.size≤h1.objs.size
theorem ZN.out {bs:List Nat} {P:Addr} {z TI TO i1:Addr} {f1 f2:List Addr} {n2:Nat} {P1 P2:Nat→Value→Prop} {S1 S2:Nat→HP} (x:ZN prog w as bs P hh h1 z TI TO i1 i2 f1 f2 n2 P1 P2 S1 S2)
  (has:as.length=16) (h278:278≤hh.objs.size) (hk:∀b o,h.get? b=some o→hh.get? b=some o) (hz:h.objs.size≤hh.objs.size):ZOut prog w as bs P [] wrOld h h1 z TI TO i1 i2 f1 f2 n2 P1 P2 S1 S2 where
 z1:=has▸x.z1
 z2:=x.z2
 ap:=x.ap
 le:=has▸x.le
 st:=x.st
 fp:=x.fp
 wr:=λb hb=>⟨Nat.le_trans h278 (x.wr b hb),.inl (Nat.le_trans hz (x.wr b hb))⟩
 p1:=x.p1
 p2:=x.p2
 fin:=λ_ _ _ hp=>nomatch hp
 n0:=λ_ hp=>nomatch hp
 kept:=λb o e=>x.kept b o (hk b o e)
 size:=Nat.le_trans hz x.size
theorem PIt.finMono {Pt:Nat→Value→Value→Prop} {St:Nat→HP} {Mid:Nat→Addr→HP} {Fin Fin':HP} (x:PIt prog w A I fp wr n Pt St Mid Fin) (hf:∀h,Fin h→Fin' h):PIt prog w A I fp wr n Pt St Mid Fin' where
 sub:=x.sub
 frame:=x.frame
 item:=x.item
 go:=x.go
 apart:=x.apart
 done:=λs Q E st hQ=>x.done s Q E st λh' tk hk f=>hQ h' tk hk (hf h' f)
 self:=x.self
theorem salsaGen (EKK:EK K mg mb) (hbi:BiOk K mg) {P:Addr} {bs:List Nat} {Q:VQ}
  (hk:env.scope.kind = .function) (hgl:env.globals=mainGlobals) (hcode:env.code = .ref cc) (hct:CodeTab K cc P) (hP:h.get? P=some op) (htab:TabOk op) (hPt:P∈tabs)
  (hA:AOk 3 A) (W:W0 K mg mb h) (has:as.length=16) (hbs:16≤bs.length) (hN0:(N0.map (·.1)).Nodup) (hlow:∀b∈wrOld,b<h.objs.size∧b≠P)
  (hiter:∀(Q:VQ),(∀z TI TO i1 i2 f1 f2 n2 P1 P2 S1 S2 h1 t1,ZOut prog w as bs P N0 wrOld h h1 z TI TO i1 i2 f1 f2 n2 P1 P2 S1 S2→Q (.ref z) ⟨h1,g,d,t1,o⟩)→wpAny (model prog w) A (eval iter env) Q E ⟨h,g,d,t,o⟩)
  (helt:∀(C:Addr) (code:Value) (bi:Addr) (A':Around) (E':VQ) (i:Nat) va vb (s₂:Shared) m₂,A'.handled=none→(Ex2 λ(m:Nat) (u:Tok)=>as[i]?=some m∧va = .int (m:Int) u)→(Ex2 λ(m:Nat) (u:Tok)=>bs[i]?=some m∧vb = .int (m:Int) u) →
   s₂.heap.Ns C m₂→m₂ xa=some va→m₂ xb=some vb→wpAny (model prog w) A' (eval elt (genEnv scope cl C code bi env)) (λy s₃=>(Ex2 λ(m:Nat) (u:Tok)=>(xorL as bs)[i]?=some m∧y = .int (m:Int) u)∧Keeps s₂ s₃) E' s₂)
  (hclos:closureFor scope env=pure cl) (hcell:∀y∈scope.names,y.2≠.cell) (h0:scope.names.lookup (".0":Str)=some NameKind.local) (hkind:scope.kind = .function) (hco:scope.isCoroutine=false)
  (hxa:scope.names.lookup xa=some .local) (hxb:scope.names.lookup xb=some .local) (hab:xa≠xb) (hfold:∀x,genFold iter env x=pure x)
  (hgsal:env.kindOf "salsa20"=some .globalImplicit)
  (s1:Unst (.GeneratorExp elt [⟨.Tuple [.Name xa pa,.Name xb pb] kt pt,iter,[],0⟩] scope gpos) [] env)
  (hev:CallIs "salsa20" np [.GeneratorExp elt [⟨.Tuple [.Name xa pa,.Name xb pb] kt pt,iter,[],0⟩] scope gpos] pos env)
  (hQ:∀v h' g' t' op',(∀b o,b≠P→b∉wrOld→h.get? b=some o→h'.get? b=some o)→h.objs.size≤h'.objs.size→h'.get? P=some op'→TabOk op'→GensOk g g'→(∀p∈N0,h'.get? p.1=some p.2)→Since h.objs.size h' (TupN (wsalsa (xorL as bs)) v)→Q v ⟨h',g',d,t',o⟩) :
  wpAny (model prog w) A (eval (.Call (.Name "salsa20" np) [.GeneratorExp elt [⟨.Tuple [.Name xa pa,.Name xb pb] kt pt,iter,[],0⟩] scope gpos] [] pos) env) Q E ⟨h,g,d,t,o⟩:=by
 obtain ⟨oc,od,os,pm,doc,hkf⟩:=EKK.salsa.fn
 refine PyProof.Rows.Call_ ?_ hev
 refine Name_function_global hk hgsal (loadGlobal_global (by rw [hgl];exact W.g) EKK.gsalsa ?_) (by decide)
 refine callWith_fn (o:=⟨oc,od,.func (docDef "salsa20" (arOf (top 10)) (bdOf (top 10)) (scOf (top 10)) pm (.ref 77) doc),os⟩) (by rw [s1];rfl) rfl ?_
 rw [s1]
 refine spliced_cons (wpAny_GeneratorExp_make hco hclos hcell h0 hkind hA.room (hiter _ λz TI TO i1 i2 f1 f2 n2 P1 P2 S1 S2 h1 t1 Z=>?_) hfold)
 have W1:W0 K mg mb h1:=W.keeps (S:=[]) EKK.dom (by trivial) (λb o _ e=>Z.kept b o e) Z.size
 have hP1:=Z.kept _ _ hP
 refine wpAny_pyIter_zip Z.st.1 ⟨W1.lim,?_⟩
 obtain ⟨ps,rfl,htr⟩:=htab
 refine wpAny_with_size (Nat.le_refl _) (genCodeT hcode (hct.isCode W1.k hP1 htr) hP1 λcode h2 tk2 ps' hext htn hP2 hz2=>?_)
 have htab2:TabOk (tabObj ps'):=⟨ps',rfl,htn.ok htr⟩
 have hz2:h1.objs.size≤h2.objs.size:=hz2
 have W2:W0 K mg mb h2:=W1.keeps (S:=[P]) EKK.dom (λb hb=>.inr (by rw [List.mem_singleton.mp hb];exact hPt)) (λb o hb e=>hext b o (λr=>hb (List.mem_singleton.mpr r)) e) hz2
 obtain ⟨bm,ob,hb1,hb2,hb3,hb4,hb5,hb6⟩:=hbi
 refine wpAny_builtinsFor (by rw [hgl];exact W2.g) hb1 hb2 (W2.k _ _ hb3) hb4 hb5 hb6 ?_
 intro h3 hn3 hs3
 have hz3:h3.objs.size=h2.objs.size+1:=by rw [hs3.1,Heap.size_push]
 have k3:∀b o,h2.get? b=some o→h3.get? b=some o:=λb o e=>(hs3.2 b (Nat.ne_of_lt (Heap.lt_size e))).trans (Heap.get?_push_of_some _ e)
 refine spliced_nil ⟨?_,?_⟩
 ·exact Heap.get?_push_of_some _ (k3 _ _ (W2.k _ _ hkf))
 have hlen:(xorL as bs).length=16:=by simp only [xorL,List.length_zipWith,has];lia
 have hC0:h.objs.size≤h2.objs.size:=Nat.le_trans Z.size hz2
 have k12:∀b o,b≠P→h1.get? b=some o→h2.get? b=some o:=λb o hb e=>hext b o hb e
 generalize hgo:({ cls:=.type "generator",data:=.fields #[.int g.size 0,.str "<genexpr>" (tk2+1),.str (env.qual++"<genexpr>") (tk2+1+1)] }:Obj)=gobj
 have hlt4:h3.objs.size<(h3.push gobj).objs.size:=lt_push _ _
 have k34:∀b o,h2.get? b=some o→(h3.push gobj).get? b=some o:=λb o e=>Heap.get?_push_of_some _ (k3 b o e)
 have W4:W0 K mg mb (h3.push gobj):=W2.keeps (S:=[]) EKK.dom (by trivial) (λb o _ e=>k34 b o e) (by lia)
 have st1:ZSt z TI TO i1 i2 S1 S2 .none 0 0 h2:=ZSt.frame Z.z1 Z.z2 Z.st λb hb o e=>k12 b o (Z.fp b hb).2 e
 have hfl:∀b:Nat,b∈z::TI::TO::(f1++f2)→b<h2.objs.size:=λb hb=>Nat.lt_of_lt_of_le (Z.fp b hb).1 hz2
 have hsub:∀b∈[z,TO,i1,i2],b∈z::TI::TO::(f1++f2):=(zipU (A:=A) hA.1 Z.z1 Z.z2 Z.ap Z.le).sub
 have hcs:@LT.lt Nat _ cStatics 278:=by decide
 have h278:278≤h2.objs.size:=W2.size
 refine wpAny_call (salsa20 EKK (xs:=xorL as bs) (wr:=h2.objs.size::[z,TO,i1,i2]) (N0:=N0) (G:=GenOnlyQ g.size) (hA.le (by decide)) W4 hlen ?_ ?_ hN0 ?_ ?_ ?_)
 ·intro A' h5 t5 Q' E' hh hroom hgr hcont
  refine wpAny_with_toks (Nat.le_refl _) (unpackG (C:=h2.objs.size) (g:=g.size) (fp:=z::TI::TO::(f1++f2)) (wr:=[z,TO,i1,i2]) (F:=λi y=>Ex2 λ(m:Nat) (u:Tok)=>(xorL as bs)[i]?=some m∧y = .int (m:Int) u) (Fin:=λh=>∀p∈N0,h.get? p.1=some p.2)
   hh hroom (neA (by lia)) (λq=>absurd (hfl _ (hsub _ q)) (by lia)) (neA (Nat.ne_of_lt (Nat.lt_of_lt_of_le hcs h278))) (λq=>absurd (Z.wr _ q).1 (Nat.not_le.mpr hcs)) ?_ (λh h' hf k p hp=>k _ _ (hf p hp)) (λys s' hl hy mv hf htk=>?_))
  ·refine GAt.fresh (cenv:=genEnv scope cl h2.objs.size code builtinsNs env) hh (λA' hA'=>zipP hA' Z.z1 Z.z2 Z.ap Z.le |>.finMono Z.fin) hab hxa hxb (by simp [genEnv,hkind]) hco (λq=>absurd (hfl _ q) (Nat.lt_irrefl _))
    (λA' E' i va vb s₂ m₂ hA' hPt hn ha hb=>helt h2.objs.size code builtinsNs A' E' i va vb s₂ m₂ hA' (Z.p1 i va hPt.1) (Z.p2 i vb hPt.2) hn ha hb)
    ⟨_,_,_,hgr.2 _ _ (by rw [←hgo];exact Heap.get?_push_size _ rfl),rfl,rfl,rfl⟩ (Array.getElem?_push_size ..) (ZSt.frame Z.z1 Z.z2 st1 λb _ o e=>hgr.2 b o (k34 b o e)) ((hn3.push gobj).keeps hgr.2) (W4.lim.keeps hgr.2)
  ·exact hcont ys s' hl hy ⟨λb o hb e=>mv.heap b o (λr=>hb (by rw [r];exact List.mem_cons_self ..)) (λr=>hb (List.mem_cons_of_mem _ r)) e,mv.gens,mv.drawn,mv.os,htk⟩ hf
 ·intro p hp
  rw [Z.n0 p hp];simp
 ·intro b hb
  rcases List.mem_cons.mp hb with rfl | hb
  ·exact .inl h278
  ·exact .inl (Z.wr b hb).1
 ·intro b hb
  rcases List.mem_cons.mp hb with rfl | hb
  ·show @LT.lt Nat _ _ _;lia
  ·have:=hfl b (hsub b hb)
   show @LT.lt Nat _ _ _;lia
 ·intro v h' g' t' hkk hz' hG hN hp
  refine hQ v h' g' t' (tabObj ps') (λb o hbP hbw e=>?_) (by lia) ?_ htab2 (λhb=>?_) hN (hp.le (by lia))
  ·have hlt:@LT.lt Nat _ b h.objs.size:=Heap.lt_size e
   refine hkk b o (λq=>?_) (k34 b o (k12 b o hbP (Z.kept b o e)))
   rcases List.mem_cons.mp q with q | q
   ·have q':@Eq Nat b h2.objs.size:=q
    lia
   ·rcases (Z.wr b q).2 with r | r
    ·exact absurd hlt (Nat.not_lt.mpr r)
    ·exact hbw r
  ·have hPl:@LT.lt Nat _ P 278:=by
    have:=hPt
    simp only [tabs,List.mem_cons,List.not_mem_nil,or_false] at this
    rcases this with rfl | rfl | rfl | rfl | rfl<;>decide
   refine hkk P (tabObj ps') (λq=>?_) (k34 P (tabObj ps') hP2)
   rcases List.mem_cons.mp q with q | q
   ·have q':@Eq Nat P h2.objs.size:=q
    lia
   ·exact absurd (Z.wr P q).1 (Nat.not_le.mpr hPl)
  ·refine GenOnlyQ.bare hG λy hy=>?_
   rcases Array.mem_push.mp hy with hy | rfl
   ·exact hb y hy
   ·rfl
end
end
section
noncomputable def IsTN (h:Heap) (a:Addr) (xs:List Nat):Prop:=∃us,us.length=xs.length∧h.get? a=some (tobj (List.zipWith Value.int (xs.map λx:Nat=>(x:Int)) us))
theorem IsTN.tuple (x:IsTN h a xs):∃items:Array Value,An3 (h.IsTuple a items) (items.size=xs.length) (∀(i:Nat) v,items[i]?=some v→Ex2 λ(m:Nat) (u:Tok)=>xs[i]?=some m∧v = .int (m:Int) u):=by
 obtain ⟨us,hu,e⟩:=x
 refine ⟨_,⟨_,e,rfl,_,rfl⟩,by simp [hu],λi v hv=>?_⟩
 rw [List.getElem?_toArray] at hv
 obtain ⟨x,u,e1,e2,rfl⟩:=zipWith_at hv
 rw [List.getElem?_map] at e1
 cases e3:xs[i]? with
 | none=>rw [e3] at e1;cases e1
 | some z=>rw [e3] at e1;cases e1;exact ⟨z,u,rfl,rfl⟩
section
theorem zH_at (hh:Heap) (i1 i2:Addr):IsZip (zH hh i1 i2) (zA hh i1 i2) hh.objs.size (hh.objs.size+1) .none∧IsPair (zH hh i1 i2) hh.objs.size (.ref i1) (.ref i2)∧IsPair (zH hh i1 i2) (hh.objs.size+1) .none .none ∧
  zA hh i1 i2=hh.objs.size+2∧(zH hh i1 i2).objs.size=hh.objs.size+3∧∀b o,hh.get? b=some o→(zH hh i1 i2).get? b=some o:=by
 have e1:(hh.push { cls:=.type "tuple",data:=.seq #[.ref i1,.ref i2] }).objs.size=hh.objs.size+1:=Heap.size_push ..
 have e2:zA hh i1 i2=hh.objs.size+2:=by show ((hh.push _).push _).objs.size=_;rw [Heap.size_push,e1]
 refine ⟨?_,?_,?_,e2,?_,λb o e=>Heap.get?_push_of_some _ (Heap.get?_push_of_some _ (Heap.get?_push_of_some _ e))⟩
 ·have e:(zH hh i1 i2).get? (zA hh i1 i2)=some { cls:=.type "zip",data:=.fields #[.none,.bool false,.bool false,.ref hh.objs.size,.ref (hh.push { cls:=.type "tuple",data:=.seq #[.ref i1,.ref i2] }).objs.size] }:=Heap.get?_push_size _ rfl
  rw [e1] at e
  exact e
 ·exact Heap.get?_push_of_some _ (Heap.get?_push_of_some _ (Heap.get?_push_size _ rfl))
 ·have e:(zH hh i1 i2).get? (hh.push { cls:=.type "tuple",data:=.seq #[.ref i1,.ref i2] }).objs.size=some { cls:=.type "tuple",data:=.seq #[.none,.none] }:=Heap.get?_push_of_some _ (Heap.get?_push_size _ rfl)
  rw [e1] at e
  exact e
 ·show (((hh.push _).push _).push _).objs.size=_
  rw [Heap.size_push,Heap.size_push,e1]
end
end
section
section
variable {P:Addr} {bs:List Nat} {Q:VQ}
theorem notin2 {a b c:Nat} (h1:a≠b) (h2:a≠c):@Not (@Membership.mem Addr (List Addr) _ [b,c] a):=λh=>by
 rcases List.mem_cons.mp h with r | h
 ·exact h1 r
 ·exact h2 (List.mem_singleton.mp h)
theorem zipCallTI (hk:∀b o,h.get? b=some o→hh.get? b=some o) (hz:h.objs.size≤hh.objs.size) (ha:IsTN hh l1 as) (has:as.length=16) (hi:hh.get? i2=some (tiX l2 k)) (hb:IsTN hh l2 bs) (hle:k+16≤bs.length)
  (h278:278≤hh.objs.size) (hP:P<278) (hl1:l1≠P) (hl2:l2≠P) (hi2:278≤i2∧(h.objs.size≤i2∨i2∈wrOld)) (hn0:N0=[]∨N0=[(i2,tiX l2 (k+16))])
  (hQ:∀z TI TO i1 i2 f1 f2 n2 P1 P2 S1 S2 h1 t1,ZOut prog w as (bs.drop k) P N0 wrOld h h1 z TI TO i1 i2 f1 f2 n2 P1 P2 S1 S2→Q (.ref z) ⟨h1,g,d,t1,o⟩) :
  wpAny (model prog w) A (call (.type "zip") [.ref l1,.ref i2]) Q E ⟨hh,g,d,t,o⟩:=by
 obtain ⟨xs,hxs,hxl,hxv⟩:=ha.tuple
 obtain ⟨ys,hys,hyl,hyv⟩:=hb.tuple
 refine callType_new F.called_zip (by decide) (F.typeCall_zip_2 _ _) (F.newCall_zip_2 _ _) (λobj=>F.args_object_init_3 obj _ _) F.entry_zip_new (meets_zip_ti l1 i2 l2 xs k) ⟨hxs,tiX_is hi,?_⟩
 have e0:(hh.push (tiObj l1)).objs.size=hh.objs.size+1:=Heap.size_push ..
 obtain ⟨z1,z2,z3,z4,z5,z6⟩:=zH_at (hh.push (tiObj l1)) hh.objs.size i2
 rw [e0] at z1 z2 z3 z4 z5
 refine ⟨⟨_,z1,rfl⟩,?_⟩
 have k6:∀b o,hh.get? b=some o→(zH (hh.push (tiObj l1)) hh.objs.size i2).get? b=some o:=λb o e=>z6 b o (Heap.get?_push_of_some _ e)
 have lt1:@LT.lt Nat _ l1 hh.objs.size:=by obtain ⟨o,e,_⟩:=hxs;exact Heap.lt_size e
 have lt2:@LT.lt Nat _ l2 hh.objs.size:=by obtain ⟨o,e,_⟩:=hys;exact Heap.lt_size e
 have lti:@LT.lt Nat _ i2 hh.objs.size:=Heap.lt_size hi
 have i2l:l2≠i2:=λr=>by
  obtain ⟨o,e,hc,_⟩:=hys
  rw [r,hi] at e;cases e;simp at hc
 have i1l:l1≠i2:=λr=>by
  obtain ⟨o,e,hc,_⟩:=hxs
  rw [r,hi] at e;cases e;simp at hc
 have hPn:@LT.lt Nat _ P 278:=hP
 rw [z4] at z1 ⊢
 refine hQ (hh.objs.size+1+2) (hh.objs.size+1) (hh.objs.size+1+1) hh.objs.size i2 [hh.objs.size,l1] [i2,l2] (ys.size - k) _ _ _ _ _ t
  {z1:=has▸hxl▸ZIt.tuple hh.objs.size l1 (neA (Nat.ne_of_lt lt1)) xs,z2:=(ZIt.tupleX i2 l2 i2l ys).shift k (by lia),ap:=?_,le:=by lia,st:=?_,fp:=?_,wr:=?_,p1:=λi x hx=>hxv i x hx,p2:=λi x hx=>?_,fin:=?_,n0:=?_,kept:=λb o e=>k6 b o (hk b o e),size:=Nat.le_trans hz (by show _≤(zH (hh.push (tiObj l1)) hh.objs.size i2).objs.size;rw [z5];lia) }
 ·exact ⟨neA (by trivial),neA (by trivial),neA (by trivial),notin2 (by lia) (by lia),notin2 (by lia) (by lia),notin2 (by trivial) (by trivial),notin2 (by trivial) (by trivial),notin2 (by lia) (by lia),notin2 (by lia) (by lia),notin2 (by trivial) (by trivial),notin2 (Nat.ne_of_lt lti) i1l.symm⟩
 ·exact ⟨z1,z2,⟨_,_,z3⟩,⟨⟨_,z6 _ _ (Heap.get?_push_size _ rfl),rfl,rfl⟩,(let ⟨o,e,r⟩:=hxs;⟨o,k6 _ _ e,r⟩)⟩,⟨k6 _ _ hi,(let ⟨o,e,r⟩:=hys;⟨o,k6 _ _ e,r⟩)⟩⟩
 ·have w:∀q:Nat,q<hh.objs.size+1+3→q≠P→@LT.lt Nat _ q (zH (hh.push (tiObj l1)) hh.objs.size i2).objs.size∧@Ne Addr q P:=λq h1 h2=>⟨by rw [z5];exact h1,h2⟩
  have hi2P:@Ne Nat i2 P:=λr=>by have:=hi2.1;have:@LE.le Nat _ 278 i2:=this;lia
  refine f7 ?_ ?_ ?_ ?_ ?_ ?_ ?_
  ·exact w _ (by trivial) (by lia)
  ·exact w _ (by trivial) (by lia)
  ·exact w _ (by trivial) (by lia)
  ·exact w _ (by trivial) (by lia)
  ·exact w _ (by lia) hl1
  ·exact w _ (by lia) hi2P
  ·exact w _ (by lia) hl2
 ·have w:∀q:Nat,hh.objs.size≤q→@LE.le Nat _ 278 q∧(@LE.le Nat _ h.objs.size q∨@Membership.mem Addr (List Addr) _ wrOld q):=λq h1=>⟨by trivial,.inl (by trivial)⟩
  refine f4 ?_ ?_ ?_ ?_
  ·exact w _ (by lia)
  ·exact w _ (by lia)
  ·exact w _ (by lia)
  ·exact hi2
 ·obtain ⟨m,u,e,r⟩:=hyv (k+i) x hx
  exact ⟨m,u,by rw [List.getElem?_drop];exact e,r⟩
 ·intro h' st p hp
  rcases hn0 with rfl | rfl
  ·simp at hp
  ·rw [List.mem_singleton.mp hp];exact st.1
 ·intro p hp
  rcases hn0 with rfl | rfl
  ·simp at hp
  ·rw [List.mem_singleton.mp hp]
end
end
section
section
variable {P:Addr} {bs:List Nat} {Q:VQ}
theorem zipEnd {x1:Obj} {P1:Nat→Value→Prop} {S1:Nat→HP} {ys:Array Value} (hf:x1.isFreed=false) (Z1:ZIt prog w hh.objs.size [hh.objs.size,l1] as.length P1 S1) (p1:∀(i:Nat) x,P1 i x→Ex2 λ(m:Nat) (u:Tok)=>as[i]?=some m∧x = .int (m:Int) u)
  (hS:∀h',h'.get? hh.objs.size=some x1→(∀b o,hh.get? b=some o→h'.get? b=some o)→S1 0 h') (lt1:@LT.lt Nat _ l1 hh.objs.size) (hys:hh.IsTuple l2 ys) (hyl:ys.size=bs.length) (hyv:∀(i:Nat) x,ys[i]?=some x→Ex2 λ(m:Nat) (u:Tok)=>bs[i]?=some m∧x = .int (m:Int) u) (hle:as.length≤bs.length)
  (h278:278≤hh.objs.size) (hP:P<278) (hl1:l1≠P) (hl2:l2≠P)
  (hQ:∀z TI TO i1 i2 f1 f2 n2 P1 P2 S1 S2 h1 t1,ZN prog w as bs P hh h1 z TI TO i1 i2 f1 f2 n2 P1 P2 S1 S2→Q (.ref z) ⟨h1,g,d,t1,o⟩) :
  (⟨zH ((hh.push x1).push (tiObj l2)) hh.objs.size (hh.push x1).objs.size,g,d,t,o⟩:Shared).TypeIs (.ref (zA ((hh.push x1).push (tiObj l2)) hh.objs.size (hh.push x1).objs.size)) "zip"∧Q (.ref (zA ((hh.push x1).push (tiObj l2)) hh.objs.size (hh.push x1).objs.size)) ⟨zH ((hh.push x1).push (tiObj l2)) hh.objs.size (hh.push x1).objs.size,g,d,t,o⟩:=by
 have e0:(hh.push x1).objs.size=hh.objs.size+1:=Heap.size_push ..
 have e1:((hh.push x1).push (tiObj l2)).objs.size=hh.objs.size+2:=by rw [Heap.size_push,e0]
 obtain ⟨z1,z2,z3,z4,z5,z6⟩:=zH_at ((hh.push x1).push (tiObj l2)) hh.objs.size (hh.objs.size+1)
 rw [e1] at z1 z2 z3 z4 z5
 rw [e0]
 refine ⟨⟨_,z1,rfl⟩,?_⟩
 have k6:∀b o,hh.get? b=some o→(zH ((hh.push x1).push (tiObj l2)) hh.objs.size (hh.objs.size+1)).get? b=some o:=λb o e=>z6 b o (Heap.get?_push_of_some _ (Heap.get?_push_of_some _ e))
 have lt2:@LT.lt Nat _ l2 hh.objs.size:=by obtain ⟨o,e,_⟩:=hys;exact Heap.lt_size e
 have hPn:@LT.lt Nat _ P 278:=hP
 have hi2:(zH ((hh.push x1).push (tiObj l2)) hh.objs.size (hh.objs.size+1)).get? (hh.objs.size+1)=some (tiX l2 0):=by
  have:=z6 _ _ (Heap.get?_push_size (hh.push x1) (rfl:(tiObj l2).isFreed=false))
  rw [e0] at this;exact this
 rw [z4] at z1 ⊢
 refine hQ (hh.objs.size+2+2) (hh.objs.size+2) (hh.objs.size+2+1) hh.objs.size (hh.objs.size+1) [hh.objs.size,l1] [hh.objs.size+1,l2] ys.size _ _ _ _ _ t
  {z1:=Z1,z2:=ZIt.tupleX (hh.objs.size+1) l2 (neA (by trivial)) ys,ap:=?_,le:=hyl▸hle,st:=⟨z1,z2,⟨_,_,z3⟩,hS _ (z6 _ _ (Heap.get?_push_of_some _ (Heap.get?_push_size _ hf))) k6,⟨hi2,(let ⟨o,e,r⟩:=hys;⟨o,k6 _ _ e,r⟩)⟩⟩,fp:=?_,wr:=f4 (Nat.le_add_right hh.objs.size 4) (Nat.le_add_right hh.objs.size 3) (Nat.le_refl _) (Nat.le_add_right hh.objs.size 1),p1:=p1,p2:=λi x hx=>hyv i x hx,kept:=k6,size:=by show _≤(zH ((hh.push x1).push (tiObj l2)) hh.objs.size (hh.objs.size+1)).objs.size;rw [z5];exact Nat.le_add_right hh.objs.size 5 }
 ·exact ⟨neA (by trivial),neA (by trivial),neA (by trivial),notin2 (by lia) (by lia),notin2 (by lia) (by lia),notin2 (by trivial) (by trivial),notin2 (by trivial) (by trivial),notin2 (by lia) (by lia),notin2 (by lia) (by lia),notin2 (by trivial) (by trivial),notin2 (by trivial) (by trivial)⟩
 ·have w:∀q:Nat,q<hh.objs.size+2+3→q≠P→@LT.lt Nat _ q (zH ((hh.push x1).push (tiObj l2)) hh.objs.size (hh.objs.size+1)).objs.size∧@Ne Addr q P:=λq h1 h2=>⟨by rw [z5];exact h1,h2⟩
  exact f7 (w _ (by trivial) (by lia)) (w _ (by trivial) (by lia)) (w _ (by trivial) (by lia)) (w _ (by lia) (by lia)) (w _ (by lia) hl1) (w _ (by trivial) (by lia)) (w _ (by lia) hl2)
theorem zipCallTT (hk:∀b o,h.get? b=some o→hh.get? b=some o) (hz:h.objs.size≤hh.objs.size) (ha:IsTN hh l1 as) (has:as.length=16) (hb:IsTN hh l2 bs) (hle:16≤bs.length)
  (h278:278≤hh.objs.size) (hP:P<278) (hl1:l1≠P) (hl2:l2≠P)
  (hQ:∀z TI TO i1 i2 f1 f2 n2 P1 P2 S1 S2 h1 t1,ZOut prog w as bs P [] wrOld h h1 z TI TO i1 i2 f1 f2 n2 P1 P2 S1 S2→Q (.ref z) ⟨h1,g,d,t1,o⟩) :
  wpAny (model prog w) A (call (.type "zip") [.ref l1,.ref l2]) Q E ⟨hh,g,d,t,o⟩:=by
 obtain ⟨xs,hxs,hxl,hxv⟩:=ha.tuple
 obtain ⟨ys,hys,hyl,hyv⟩:=hb.tuple
 have lt1:@LT.lt Nat _ l1 hh.objs.size:=by obtain ⟨o,e,_⟩:=hxs;exact Heap.lt_size e
 exact callType_new F.called_zip (by decide) (F.typeCall_zip_2 _ _) (F.newCall_zip_2 _ _) (λobj=>F.args_object_init_3 obj _ _) F.entry_zip_new (meets_zip_tt l1 l2 xs ys) ⟨hxs,hys,zipEnd rfl (hxl▸ZIt.tuple hh.objs.size l1 (neA (Nat.ne_of_lt lt1)) xs) (λi x hx=>hxv i x hx) (λh' e k=>⟨⟨_,e,rfl,rfl⟩,(let ⟨o,e,r⟩:=hxs;⟨o,k _ _ e,r⟩)⟩) lt1 hys hyl hyv (has▸hle) h278 hP hl1 hl2 λz TI TO i1 i2 f1 f2 n2 P1 P2 S1 S2 h1 t1 Z=>hQ z TI TO i1 i2 f1 f2 n2 P1 P2 S1 S2 h1 t1 (Z.out has h278 hk hz)⟩
end
end
section
theorem xorElt {E':VQ} {bs:List Nat} {va vb:Value} {s₂:Shared}
  (hk:cenv.scope.kind = .function) (hla:cenv.kindOf xa=some .local) (hlb:cenv.kindOf xb=some .local)
  (hda:ND xa) (hdb:ND xb)
  (ha:Ex2 λ(m:Nat) (u:Tok)=>as[i]?=some m∧va = .int (m:Int) u) (hb:Ex2 λ(m:Nat) (u:Tok)=>bs[i]?=some m∧vb = .int (m:Int) u)
  (hn:s₂.heap.Ns cenv.locals m₂) (hma:m₂ xa=some va) (hmb:m₂ xb=some vb) :
  wpAny (model prog w) A' (eval (.BinOp (.Name xa p1) .BitXor (.Name xb p2) p3) cenv) (λy s₃=>(Ex2 λ(m:Nat) (u:Tok)=>(xorL as bs)[i]?=some m∧y = .int (m:Int) u)∧Keeps s₂ s₃) E' s₂:=by
 obtain ⟨a,ua,ea,rfl⟩:=ha
 obtain ⟨b,ub,eb,rfl⟩:=hb
 refine wpAny_BinOp (wpAny_Name (wpAny_loadName_local hk hla hn hma (wpAny_Name (wpAny_loadName_local hk hlb hn hmb ?_) hdb)) hda)
 refine PyProof.Rows.xor_int ⟨⟨a ^^^ b,_,?_,by rw [bitXor_nat]⟩,⟨s₂.heap,_,rfl,λ_ _ e=>e⟩⟩
 unfold xorL
 rw [List.getElem?_zipWith,ea,eb]
end
section
section
theorem adjust_at (i:Int) (a n:Nat) (ha:a≤n) (hi:i=(a:Int)∨(i=(a:Int) - n∧i<0)):Builtin.Slice.sliceAdjust (some i) none 1 (n:Int)=((a:Int),(n:Int)):=by
 unfold Builtin.Slice.sliceAdjust
 have h1:¬ ((1:Int)<0):=by trivial
 simp only [h1,if_false]
 rcases hi with rfl | ⟨rfl,hn⟩
 ·have h2:¬ ((a:Int)<0):=by lia
  simp only [h2,if_false]
  congr 1
  lia
 ·simp only [hn,if_true]
  congr 1
  lia
theorem sliceApplied_at {i:Int} {a:Nat} {Q:Int×Int×Nat→Shared→Prop} (hs:s.heap.IsSliceOf sl (.int i u) .none .none) (ha:a≤n) (hi:i=(a:Int)∨(i=(a:Int) - n∧i<0)) (h:Q ((a:Int),1,n - a) s) :
  wpAny (model prog w) A (Builtin.Slice.sliceApplied (.ref sl) (pure (n:Int))) Q E s:=by
 obtain ⟨os,hos,hcs,hds⟩:=id hs
 unfold Builtin.Slice.sliceApplied Builtin.Slice.sliceFields
 refine wpAny_bind (wpAny_bind (wpAny_field hos hds (x:=.int i u) rfl (wpAny_bind (wpAny_field hos hds (x:=.none) rfl (wpAny_bind (wpAny_field hos hds (x:=.none) rfl (wpAny_pure ?_)))))))
 refine wpAny_bind (PyProof.Rows.slicePart_none ?_)
 show wpAny _ _ (if ((1:Int) == 0)=true then _ else _) _ _ s
 rw [if_neg (by decide)]
 refine wpAny_bind (PyProof.Rows.slicePart_int (wpAny_bind (PyProof.Rows.slicePart_none (wpAny_bind (wpAny_pure ?_)))))
 show wpAny _ _ (match Builtin.Slice.sliceAdjust (some i) none 1 (n:Int) with | (lo,hi)=>pure (lo,(1:Int),Builtin.Slice.slicePlaces lo hi 1)) _ _ s
 rw [adjust_at i a n ha hi]
 show wpAny _ _ (pure ((a:Int),(1:Int),Builtin.Slice.slicePlaces (a:Int) (n:Int) 1)) _ _ s
 rw [PyProof.Rows.places_from a n ha]
 exact wpAny_pure h
theorem getItem_tuple_at {t:Addr} {items:List Value} {i:Int} {a:Nat} {Q:VQ} (ht:s.heap.get? t=some (tobj items)) (hs:s.heap.IsSliceOf sl (.int i u) .none .none) (h1:1≤a) (ha:a≤items.length)
  (hi:i=(a:Int)∨(i=(a:Int) - items.length∧i<0))
  (h:Q (.ref s.heap.objs.size) { s with heap:=s.heap.push (tobj (items.drop a)) })
  (hsz:items.length≤1000000):wpAny (model prog w) A (getItem (.ref t) (.ref sl)) Q E s:=by
 have ht:PyProof.Rows.IsTup s.heap t items.toArray:=⟨_,ht,rfl,_,rfl⟩
 have hdrop:sizeOk (.seq (items.drop a).toArray):=by
  show (items.drop a).toArray.size≤sizeLine
  rw [List.size_toArray,List.length_drop]
  exact Nat.le_trans (Nat.sub_le _ _) (Nat.le_trans hsz (by decide))
 obtain ⟨os,hos,hcs,hds⟩:=id hs
 have hTs:s.TypeIs (.ref sl) "slice":=⟨os,hos,hcs⟩
 unfold getItem
 try with_reducible refine wpAny_holding ?_
 first | refine wpAny_bind (wpAny_pure ?_) | skip
 refine wpAny_bind (wpAny_sequenceKey ht.typeIs (by decide) ?_)
 refine wpAny_bind (wpAny_callSpecial?_slot (name:=Str.ofString "__getitem__") ht.typeIs PyProof.Rows.slot_tuple_getitem
  (wpAny_call_entry PyProof.Rows.slot_tuple_getitem ht.typeIs PyProof.Rows.entry_tuple_getitem ?_ (PyProof.Rows.args_tuple_getitem _ _)))
 show wpAny _ _ (Builtin.Tuple.tupleItemsOf (.ref t) >>= _) _ _ s
 refine wpAny_bind (PyProof.Rows.tupleItemsOf_ ht ?_)
 refine wpAny_bind (wpAny_typeOf hTs ?_)
 rw [if_pos (by decide)]
 have hsz':items.toArray.size=items.length:=by trivial
 refine wpAny_bind (sliceApplied_at (n:=items.toArray.size) hs (by rw [hsz'];exact ha) (by rw [hsz'];exact hi) ?_)
 have hno:¬ (((a:Int) == 0 && (1:Int) == 1 && (items.toArray.size - a) == items.toArray.size)=true):=by
  have:((a:Int) == 0)=false:=by rw [beq_eq_false_iff_ne];lia
  rw [this];simp
 show wpAny _ _ (if ((a:Int) == 0 && (1:Int) == 1 && (items.toArray.size - a) == items.toArray.size)=true then _ else _) _ _ s
 rw [if_neg hno,PyProof.Rows.pick_from items.toArray a (by rw [hsz'];exact ha)]
 have h:Q (.ref s.heap.objs.size) { s with heap:=s.heap.push { cls:=.type "tuple",data:=.seq (items.toArray.toList.drop a).toArray } }:=h
 first
  | exact wpAny_bind (m:=Builtin.Tuple.tupleExact _) (wpAny_newObj_type (wpAny_pure ⟨_,rfl,wpAny_pure h⟩) hdrop)
  | exact wpAny_bind (m:=Builtin.Tuple.tupleExact _) (wpAny_newObj_type (wpAny_bind (wpAny_pure (wpAny_pure ⟨_,rfl,wpAny_pure h⟩))) hdrop)
  | exact wpAny_bind (wpAny_bind (m:=Builtin.Tuple.tupleExact _) (wpAny_newObj_type (wpAny_pure (wpAny_pure ⟨_,rfl,wpAny_pure h⟩)) hdrop))
  | exact wpAny_bind (wpAny_bind (m:=Builtin.Tuple.tupleExact _) (wpAny_newObj_type (wpAny_pure ⟨_,rfl,wpAny_pure h⟩) hdrop))
theorem setItem_list_slice {l:Addr} {xs:List Value} {vl vu:Value} {lo hi:Option Int} {a b:Nat} {Q:Unit→Shared→Prop} (hl:s.heap.get? l=some (lobj xs k)) (ht:s.heap.get? tp=some (tobj ys))
  (hs:s.heap.IsSliceOf sl vl vu .none) (pl:IsPart vl lo) (pu:IsPart vu hi) (hb:sliceBounds lo hi none xs.length=((a:Int),(b:Int),1)) (hab:a≤b) (hz:xs.length+ys.length≤100000)
  (hQ:∀h' k',h'.get? l=some (lobj (xs.take a++ys++xs.drop b) k')→Heap.SameBut l s.heap h'→Q () { s with heap:=h' }) :
  wpAny (model prog w) A (setItem (.ref l) (.ref sl) (.ref tp)) Q E s:=by
 have hL:s.heap.IsList l xs.toArray:=⟨_,hl,rfl,_,rfl⟩
 obtain ⟨os,hos,hcs,hds⟩:=id hs
 have hTs:s.TypeIs (.ref sl) "slice":=⟨os,hos,hcs⟩
 have hTt:s.TypeIs (.ref tp) "tuple":=⟨_,ht,rfl⟩
 have hne:l≠tp:=by intro e;subst e;rw [hl] at ht;simp at ht
 unfold setItem
 try with_reducible refine wpAny_holding ?_
 first | refine wpAny_bind (wpAny_pure ?_) | skip
 refine wpAny_bind (wpAny_sequenceKey hL.typeIs (by decide) ?_)
 refine wpAny_bind (wpAny_callSpecial?_slot (name:=Str.ofString "__setitem__") hL.typeIs slot_list_setitem
  (wpAny_call_entry slot_list_setitem hL.typeIs entry_list_setitem ?_ (args_list_setitem _ _ _)))
 show wpAny _ _ (Builtin.List.listSubscript? (.ref sl) >>= _) _ _ s
 refine wpAny_bind ?_
 unfold Builtin.List.listSubscript?
 refine wpAny_bind (wpAny_specialOf hTs slice_no_index ?_)
 simp only [Option.isNone_none,if_true]
 refine wpAny_pure ?_
 show wpAny _ _ (typeOf (.ref sl) >>= _) _ _ s
 refine wpAny_bind (wpAny_typeOf hTs ?_)
 rw [if_neg (by decide)]
 rw [listSliceParts_eq]
 refine wpAny_bind (wpAny_bind (wpAny_field hos hds (x:=.none) rfl (wpAny_bind (wpAny_listPart .none ?_))))
 rw [if_neg (by decide)]
 refine wpAny_bind (wpAny_field hos hds (x:=vl) rfl (wpAny_bind (wpAny_listPart pl ?_)))
 refine wpAny_bind (wpAny_field hos hds (x:=vu) rfl (wpAny_bind (wpAny_listPart pu (wpAny_pure ?_))))
 have hsr:Builtin.List.listSameRef (.ref l) (.ref tp)=false:=by
  show (l == tp)=false
  exact beq_eq_false_iff_ne.mpr hne
 rw [if_neg (show ¬ Builtin.List.listSameRef (.ref l) (.ref tp)=true by rw [hsr];decide)]
 refine wpAny_bind (m:=Builtin.List.listAllItems (.ref tp) _) ?_
 unfold Builtin.List.listAllItems
 refine wpAny_bind (wpAny_typeOf hTt ?_)
 rw [if_pos (by decide)]
 unfold Builtin.List.listItems
 refine wpAny_bind (wpAny_seqItems ht rfl (wpAny_pure ?_))
 refine wpAny_bind (wpAny_bind (wpAny_seqItems hl rfl (wpAny_pure ?_)))
 have hb':sliceBounds lo hi none xs.toArray.size=((a:Int),(b:Int),1):=by rw [List.size_toArray];exact hb
 refine wpAny_bind (wpAny_of_eq (sliceIndices_raw lo hi none xs.toArray.size (by trivial)) ?_)
 rw [hb']
 dsimp only
 rw [if_pos (by decide)]
 refine wpAny_bind (wpAny_rule ?_)
 have hnl:¬ Builtin.List.listTooLong (xs.toArray.size+ys.toArray.size)=true:=by
  unfold Builtin.List.listTooLong
  rw [List.size_toArray,List.size_toArray,decide_eq_true_eq]
  exact Nat.not_lt.mpr (Nat.le_trans hz (by decide))
 rw [if_neg hnl]
 have hmax:max (a:Int) (b:Int)=b:=by lia
 skip
 rw [hmax,Int.toNat_natCast,Int.toNat_natCast]
 have hmk:xs.toArray.extract 0 a++ys.toArray++xs.toArray.extract b=(xs.take a++ys++xs.drop b).toArray:=by
  have:(xs.drop b).take (xs.length - b)=xs.drop b:=List.take_of_length_le (by simp)
  simp [this]
 obtain ⟨n',hd'⟩:=Obj.data_mapSeq (o:=lobj xs k) rfl (λxs=>xs.extract 0 a++ys.toArray++xs.extract b)
 refine wpAny_bind (wpAny_updateSeq hl rfl ?_ ?_ ?_)
 ·refine wpAny_bind (wpAny_letGo (wpAny_pure ⟨_,rfl,wpAny_pure (hQ _ n' ?_ (Heap.SameBut.update ..))⟩))
  rw [Heap.get?_update_self _ hl (Obj.isFreed_of_seq hd')]
  rw [hmk] at hd'
  unfold Obj.mapSeq at hd' ⊢
  dsimp only at hd' ⊢
  rw [hd']
 ·rw [List.size_toArray];exact Nat.le_trans (Nat.le_trans (Nat.le_add_right _ _) hz) (by decide)
 ·rw [hmk,List.size_toArray]
  refine Nat.le_trans (m:=200000) ?_ (by decide)
  simp only [List.length_append,List.length_take,List.length_drop]
  lia
end
end
section
@[reducible] noncomputable def Cx.gn (c:Cx) (g:Array GenState):Cx:={ c with g:=g }
theorem Cx.Ok.gn (H:c.Ok n) (g:Array GenState):(c.gn g).Ok n:=⟨H.kind,H.locals,H.globals,H.builtins,H.A,H.W,H.dom,H.S,H.L⟩
theorem GensOk.refl (g:Array GenState):GensOk g g:=λh=>h
theorem GensOk.trans {g' g'':Array GenState} (x:GensOk g g') (y:GensOk g' g''):GensOk g g'':=λh=>y (x h)
theorem SS.calls (x:SS h₀ S X L l N Φ h)
  (hN:N'.map (·.1)=N.map (·.1)) (hW:∀b∈W,b∈N.map (·.1)) (k:∀b o,b∉W→h.get? b=some o→h'.get? b=some o) (hz:h.objs.size≤h'.objs.size) (news:∀p∈N',h'.get? p.1=some p.2):SS h₀ S X L l N' Φ h':=by
 have hL:L∉W:=λq=>by
  obtain ⟨p,hp,e⟩:=List.mem_map.mp (hW _ q)
  exact (x.news p hp).2.1 e
 refine ⟨ns_keeps x.ns k hL,x.nd,λb o hb hbL e=>k b o (λq=>?_) (x.keep b o hb hbL e),λp hp=>⟨news p hp,?_⟩,by rw [hN];exact x.ndn,Nat.le_trans x.size hz,λb hb=>Nat.lt_of_lt_of_le (x.xlt b hb) hz,?_⟩
 ·obtain ⟨p,hp,rfl⟩:=List.mem_map.mp (hW _ q)
  rcases (x.news p hp).2.2 with r | r
  ·exact absurd (Heap.lt_size e) (Nat.not_lt.mpr r)
  ·exact hb r
 ·have:p.1∈N.map (·.1):=by rw [←hN];exact List.mem_map_of_mem hp
  obtain ⟨q,hq,e⟩:=List.mem_map.mp this
  rw [←e]
  exact (x.news q hq).2
 ·intro h'' q
  refine x.fz h'' λb o b1 b2 b3 e=>q b o b1 b2 (by rw [hN];exact b3) (k b o (λr=>b3 (hW b r)) e)
theorem SS.knowNew (x:SS h₀ S X L l N Φ h) (y:SS h₀ S X L l N' Φ h') (hN:N'.map (·.1)=N.map (·.1)) {P:HP} (p:Since h.objs.size h' P) :
  SS h₀ S X L l N' (λh=>Φ h∧P h) h' :=
 y.know λh'' q=>p h'' λb o hb e=>q b o (λr=>absurd x.ltL (Nat.not_lt.mpr (by rw [←r];exact hb))) (λr=>absurd (x.xlt b r) (Nat.not_lt.mpr hb)) (λr=>by
  rw [hN] at r
  obtain ⟨p,hp,rfl⟩:=List.mem_map.mp r
  exact absurd (x.belowN p hp) (Nat.not_lt.mpr hb)) e
theorem set_keysN {ob':Obj} (e:N[i]?=some (a,ob)):(N.set i (a,ob')).map (·.1)=N.map (·.1):=by
 rw [List.map_set]
 apply List.ext_getElem?
 intro j
 rw [List.getElem?_set]
 by_cases hij:i=j
 ·subst hij
  have hlt:i<N.length:=(List.getElem?_eq_some_iff.mp e).1
  have e2:N[i]=(a,ob):=(List.getElem?_eq_some_iff.mp e).2
  simp [hlt,e2]
 ·simp [hij]
theorem nodup_at (nd:(N.map (·.1)).Nodup) {o o':Obj} (e:N[i]?=some (a,o)) (e':N[j]?=some (a,o')):i=j:=by
 have hi:i<(N.map (·.1)).length:=by have:=(List.getElem?_eq_some_iff.mp e).1;simpa using this
 have e1:(N.map (·.1))[i]?=some a:=by rw [List.getElem?_map,e];rfl
 have e2:(N.map (·.1))[j]?=some a:=by rw [List.getElem?_map,e'];rfl
 exact (List.getElem?_inj hi nd).mp (e1.trans e2.symm)
theorem TupN.at (x:TupN xs v h):∃a,v = .ref a∧IsTN h a xs:=let ⟨us,a,hu,e,r⟩:=x;⟨a,e,us,hu,r⟩
section
theorem zipWith_drop {α β γ:Type} (f:α→β→γ):∀(k:Nat) (xs:List α) (ys:List β),(List.zipWith f xs ys).drop k=List.zipWith f (xs.drop k) (ys.drop k)
 | 0,_,_=>rfl
 | _+1,[],_=>by trivial
 | _+1,_::_,[]=>by simp
 | k+1,_::xs,_::ys=>by simp [zipWith_drop f k xs ys]
theorem EvR.tupFrom {lo:Expr} {i:Int} {a:Nat} (he:EvR c l N Φ e (TupN xs)) (ha:EvI c l N Φ lo i) (hg:1≤a) (hle:a≤xs.length) (hi:i=(a:Int)∨(i=(a:Int) - xs.length∧i<0)) (hz:xs.length≤100000)
  (hs:∀a b,∃ops,subscripted (.Slice (some lo) none none sp) false (.ref a) (.ref b)=operate ops (getItem (.ref a) (.ref b)):=by intro _ _;exact ⟨_,by with_unfolding_all rfl⟩) :
  EvR c l N Φ (.Subscript e (.Slice (some lo) none none sp) pos) (TupN (xs.drop a)):=by
 intro Φ' kΦ h t Q E F hQ
 refine PyProof.Rows.Subscript_ (he _ kΦ h t _ _ F λo h1 t1 F1=>evSlice (EvPart.of ha) .none .none (λh y=>kΦ h y.1) F1 λu v w h2 t2 p1 p2 p3 F2=>?_)
 obtain ⟨us,ad,hu,rfl,had⟩:=F2.phi.2
 have had':(h2.push { cls:=.type "slice",data:=.fields #[u,v,w] }).get? ad=_:=Heap.get?_push_of_some _ had
 obtain ⟨ops,hops⟩:=hs ad h2.objs.size
 cases p2;cases p3
 cases p1 with
 | int _ u' =>
 have hlen:(List.zipWith Value.int (xs.map λx:Nat=>(x:Int)) us).length=xs.length:=by simp [hu]
 refine subTail (T:="tuple") (id:="tuple.__getitem__") ⟨_,had',rfl⟩ PyProof.Rows.slot_tuple_getitem.lookup (getItem_tuple_at had' (Heap.IsSliceOf.new ..) hg (by rw [hlen];exact hle) (by rw [hlen];exact hi) ?_ (by rw [hlen];lia)) hops
 have F3:=(F2.push' { cls:=.type "slice",data:=.fields #[.int i u',.none,.none] })
 have F4:=F3.push' (tobj ((List.zipWith Value.int (xs.map λx:Nat=>(x:Int)) us).drop a))
 refine hQ _ _ _ ((F4.weaken λ_ y=>y.1).know λh' q=>⟨us.drop a,_,by simp [hu],rfl,?_⟩)
 rw [List.map_drop,←zipWith_drop]
 refine q _ _ (Nat.ne_of_gt F3.ltL) (λr=>Nat.lt_irrefl _ (F3.xlt _ r)) (λr=>?_) (Heap.get?_push_size _ rfl)
 obtain ⟨p,hp,e⟩:=List.mem_map.mp r
 have:=F3.belowN p hp
 rw [e] at this;exact Nat.lt_irrefl _ this
end
end
section
section
noncomputable def EvZ (c:Cx) (l:LS) (N:LN) (Φ:HP) (iter:Expr) (as bs:List Nat) (P:Addr) (N0:LN) (wrOld:List Addr):Prop :=
 ∀Φ':HP,(∀h,Φ' h→Φ h)→∀h t (Q:VQ) (E:VQ),c.SS l N Φ' h →
  (∀z TI TO i1 i2 f1 f2 n2 P1 P2 S1 S2 h1 t1,ZOut c.prog c.w as bs P N0 wrOld h h1 z TI TO i1 i2 f1 f2 n2 P1 P2 S1 S2→Q (.ref z) (c.st h1 t1))→c.wp (eval iter c.env) Q E (c.st h t)
noncomputable def EvS (c:Cx) (l:LS) (N:LN) (Φ:HP) (e:Expr) (NN:LN→Prop) (P:VH):Prop :=
 ∀Φ':HP,(∀h,Φ' h→Φ h)→∀h t (Q:VQ) (E:VQ),c.SS l N Φ' h →
  (∀v N' h' g' t',NN N'→GensOk c.g g'→c.SS l N' (λh=>Φ' h∧P v h) h'→Q v ⟨h',g',c.d,t',c.o⟩)→c.wp (eval e c.env) Q E (c.st h t)
theorem EvS.salsa (EKK:EK c.K c.mg c.mb) (hbi:BiOk c.K c.mg) (H:c.Ok n) (hn:3≤n) {P:Addr} {bs:List Nat} (i:Nat)
  (hcode:c.env.code = .ref cc) (hct:CodeTab c.K cc P) (hi:N[i]?=some (P,op)) (htab:TabOk op) (hPt:P∈tabs) (has:as.length=16) (hbs:16≤bs.length) (hN0:(N0.map (·.1)).Nodup) (hold:∀b∈wrOld,b∈N.map (·.1)∧b≠P)
  (hiter:EvZ c l N Φ iter as bs P N0 wrOld)
  (NN:Obj→LN) (hNN:∀op',(NN op').map (·.1)=N.map (·.1)) (hNp:∀op' p,p∈NN op'→p=(P,op')∨p∈N0∨(p∈N∧p.1≠P∧p.1∉wrOld))
  (hclos:closureFor scope c.env=pure cl) (hcell:∀y∈scope.names,y.2≠.cell) (h0:scope.names.lookup (".0":Str)=some NameKind.local) (hkind:scope.kind = .function) (hco:scope.isCoroutine=false)
  (hxa:scope.names.lookup xa=some .local) (hxb:scope.names.lookup xb=some .local) (hab:xa≠xb) (hda:ND xa) (hdb:ND xb) (hfold:∀x,genFold iter c.env x=pure x)
  (hka:∀C code bi,(genEnv scope cl C code bi c.env).kindOf xa=some .local) (hkb:∀C code bi,(genEnv scope cl C code bi c.env).kindOf xb=some .local)
  (hgsal:Glo c.env "salsa20")
  (s1:Unst (.GeneratorExp (.BinOp (.Name xa p1) .BitXor (.Name xb p2) p3) [⟨.Tuple [.Name xa pa,.Name xb pb] kt pt,iter,[],0⟩] scope gpos) [] c.env)
  (hev:CallIs "salsa20" np [.GeneratorExp (.BinOp (.Name xa p1) .BitXor (.Name xb p2) p3) [⟨.Tuple [.Name xa pa,.Name xb pb] kt pt,iter,[],0⟩] scope gpos] pos c.env) :
  EvS c l N Φ (.Call (.Name "salsa20" np) [.GeneratorExp (.BinOp (.Name xa p1) .BitXor (.Name xb p2) p3) [⟨.Tuple [.Name xa pa,.Name xb pb] kt pt,iter,[],0⟩] scope gpos] [] pos) (λN'=>∃op',N'=NN op'∧TabOk op') (TupN (wsalsa (xorL as bs))):=by
 intro Φ' k h t Q E F hQ
 have lt:∀b∈N.map (·.1),@LT.lt Nat _ b h.objs.size:=λb hb=>by obtain ⟨p,hp,rfl⟩:=List.mem_map.mp hb;exact F.belowN p hp
 refine salsaGen EKK hbi H.kind H.globals hcode hct (F.new hi) htab hPt (H.A.le hn) (H.W1 F) has hbs hN0 (wrOld:=wrOld) (N0:=N0) (cl:=cl) (λb hb=>⟨lt b (hold b hb).1,(hold b hb).2⟩)
  (λQ hq=>hiter Φ' k h t Q E F hq) (λC code bi A' E' i va vb s₂ m₂ hA' ha hb hn ma mb=>xorElt (by simp [genEnv,hkind]) (hka C code bi) (hkb C code bi) hda hdb ha hb hn ma mb)
  hclos hcell h0 hkind hco hxa hxb hab hfold hgsal s1 hev (λv h' g' t' op' hk hz hP ht hg hn0 hv=>?_)
 have F':c.SS l (NN op') Φ' h':=SS.calls F (W:=P::wrOld) (hNN op') (λb hb=>?_) (λb o hb e=>hk b o (λq=>hb (q▸List.mem_cons_self ..)) (λq=>hb (List.mem_cons_of_mem _ q)) e) hz (λp hp=>?_)
 ·exact hQ v (NN op') h' g' t' ⟨op',rfl,ht⟩ hg (SS.knowNew F F' (hNN op') hv)
 ·rcases List.mem_cons.mp hb with rfl | hb
  ·exact List.mem_map_of_mem (f:=Prod.fst) (List.mem_of_getElem? hi)
  ·exact (hold b hb).1
 ·rcases hNp op' p hp with rfl | q | ⟨q,q1,q2⟩
  ·exact hP
  ·exact hn0 p q
  ·exact hk _ _ q1 q2 (F.news p q).1
end
end
section
section
theorem iter_tuple {t:Addr} {Q:VQ} (ht:s.heap.IsTuple t items) (h:Q (.ref s.heap.objs.size) { s with heap:=s.heap.push (tiX t 0) }) :
  wpAny (model prog w) A (call (.builtin "iter") [.ref t]) Q E s:=by
 refine call_function_entry (by decide +kernel) (by decide +kernel) kdk_entry_iter (kdk_args_iter _) ?_
 unfold Builtin.«iter»
 refine wpAny_bind (m:=someArgs "iter" 1 2 _) (wpAny_of_eq (a:=[Value.ref t]) (by first | rfl | kernel_rfl!) ?_)
 show wpAny _ _ (pyIter (.ref t) >>= _) _ _ _
 refine wpAny_bind (wpAny_pyIter_tuple ht ?_)
 exact wpAny_pure ⟨_,rfl,h⟩
end
section
theorem IsTN.out (F:c.SS l N Φ h) (hA:∀h,Φ h→IsTN h a xs):a≠c.L∧a∉c.X∧a∉N.map (·.1):=F.out λh y=>let ⟨us,_,e⟩:=hA h y;⟨_,e⟩
theorem tab_lt {P:Addr} (h:P∈tabs):P<278:=by
 simp only [tabs,List.mem_cons,List.not_mem_nil,or_false] at h
 rcases h with rfl | rfl | rfl | rfl | rfl<;>decide
theorem ne_of_out {P:Addr} (hi:N[i]?=some (P,op)) (h:a∉N.map (·.1)):a≠P:=λe=>h (by rw [e];exact List.mem_map_of_mem (f:=Prod.fst) (List.mem_of_getElem? hi))
theorem EvZ.tt {q1 q2:Pos} {P:Addr} {bs:List Nat} (i j1 j2:Nat) (H:c.Ok n) (hzip:c.mg "izip"=some (.type "zip"))
  (h1:l[j1]?=some (x1,some (.ref l1))) (h2:l[j2]?=some (x2,some (.ref l2))) (hA:∀h,Φ h→IsTN h l1 as) (hB:∀h,Φ h→IsTN h l2 bs) (has:as.length=16) (hbs:16≤bs.length)
  (hi:N[i]?=some (P,op)) (hPt:P∈tabs)
  (k1:Loc c.env x1:=by rfl) (k2:Loc c.env x2:=by rfl) (kz:Glo c.env "izip":=by rfl)
  (d1:ND x1:=by decide) (d2:ND x2:=by decide)
  (hst:Unst (.Name x1 q1) [.Name x2 q2] c.env:=by rfl)
  (hst2:Unst (.Name x2 q2) [] c.env:=by rfl)
  (hplain:Plain pos [.Name x2 q2] c.env:=by rfl)
  (hev:CallIs "izip" np [.Name x1 q1,.Name x2 q2] pos c.env:=by rfl) :
  EvZ c l N Φ (.Call (.Name "izip" np) [.Name x1 q1,.Name x2 q2] [] pos) as bs P [] wrOld:=by
 intro Φ' k h t Q E F hQ
 refine PyProof.Rows.Call_ (gl H F hzip (PyProof.Rows.callWith_type1 ?_ hst hplain) kz (by decide)) hev
 rw [hst]
 refine spliced_cons (ld H F h1 ?_ k1 d1)
 rw [hst2]
 refine spliced_cons (ld H F h2 (spliced_nil ?_) k2 d2)
 have o1:=IsTN.out F λh y=>hA h (k h y)
 have o2:=IsTN.out F λh y=>hB h (k h y)
 exact zipCallTT (λ_ _ e=>e) (Nat.le_refl _) (hA h (k h F.phi)) has (hB h (k h F.phi)) hbs (H.W1 F).size (tab_lt hPt) (ne_of_out hi o1.2.2) (ne_of_out hi o2.2.2) hQ
theorem EvZ.ti {q1 q2 np2 pos2:Pos} {P:Addr} {bs:List Nat} (i j1 j2:Nat) (H:c.Ok n) (hzip:c.mg "izip"=some (.type "zip")) (hit:c.mg "iter"=none∧c.mb "iter"=some (.builtin "iter"))
  (h1:l[j1]?=some (x1,some (.ref l1))) (h2:l[j2]?=some (x2,some (.ref l2))) (hA:∀h,Φ h→IsTN h l1 as) (hB:∀h,Φ h→IsTN h l2 bs) (has:as.length=16) (hbs:16≤bs.length)
  (hi:N[i]?=some (P,op)) (hPt:P∈tabs)
  (k1:Loc c.env x1:=by rfl) (k2:Loc c.env x2:=by rfl) (kz:Glo c.env "izip":=by rfl) (ki:Glo c.env "iter":=by rfl)
  (d1:ND x1:=by decide) (d2:ND x2:=by decide)
  (hst:Unst (.Name x1 q1) [.Call (.Name "iter" np2) [.Name x2 q2] [] pos2] c.env:=by rfl)
  (hst2:Unst (.Call (.Name "iter" np2) [.Name x2 q2] [] pos2) [] c.env:=by rfl)
  (hplain:Plain pos [.Call (.Name "iter" np2) [.Name x2 q2] [] pos2] c.env:=by rfl)
  (hev:CallIs "izip" np [.Name x1 q1,.Call (.Name "iter" np2) [.Name x2 q2] [] pos2] pos c.env:=by rfl)
  (hst3:Unst (.Name x2 q2) [] c.env:=by rfl)
  (hev2:CallIs "iter" np2 [.Name x2 q2] pos2 c.env:=by rfl) :
  EvZ c l N Φ (.Call (.Name "izip" np) [.Name x1 q1,.Call (.Name "iter" np2) [.Name x2 q2] [] pos2] [] pos) as bs P [] wrOld:=by
 intro Φ' k h t Q E F hQ
 refine PyProof.Rows.Call_ (gl H F hzip (PyProof.Rows.callWith_type1 ?_ hst hplain) kz (by decide)) hev
 rw [hst]
 refine spliced_cons (ld H F h1 ?_ k1 d1)
 rw [hst2]
 refine spliced_cons (PyProof.Rows.Call_ (bl H F hit.1 hit.2 (PyProof.Rows.callWith_builtin1 ?_ hst3) ki (by decide)) hev2)
 rw [hst3]
 refine spliced_cons (ld H F h2 (spliced_nil ?_) k2 d2)
 have o1:=IsTN.out F λh y=>hA h (k h y)
 have o2:=IsTN.out F λh y=>hB h (k h y)
 have hb:=hB h (k h F.phi)
 have hw:=H.W1 F
 obtain ⟨items,ht,_,_⟩:=hb.tuple
 refine iter_tuple ht (spliced_nil ?_)
 have g:∀b o,h.get? b=some o→(h.push (tiX l2 0)).get? b=some o:=λ_ _ e=>Heap.get?_push_of_some _ e
 have up:∀ {a xs},IsTN h a xs→IsTN (h.push (tiX l2 0)) a xs:=λx=>let ⟨us,hu,e⟩:=x;⟨us,hu,g _ _ e⟩
 have hz:h.objs.size≤(h.push (tiX l2 0)).objs.size:=by rw [Heap.size_push];lia
 refine zipCallTI (k:=0) (wrOld:=wrOld) g hz (up (hA h (k h F.phi))) has (Heap.get?_push_size _ rfl) (up hb) (by trivial) (Nat.le_trans hw.size hz) (tab_lt hPt) (ne_of_out hi o1.2.2) (ne_of_out hi o2.2.2) ⟨hw.size,.inl (Nat.le_refl _)⟩ (.inl rfl) ?_
 rw [List.drop_zero];exact hQ
theorem EvZ.tj {q1 q2:Pos} {P:Addr} {bs:List Nat} (i j j1 j2:Nat) (H:c.Ok n) (hzip:c.mg "izip"=some (.type "zip"))
  (h1:l[j1]?=some (x1,some (.ref l1))) (h2:l[j2]?=some (x2,some (.ref i2))) (hA:∀h,Φ h→IsTN h l1 as) (hB:∀h,Φ h→IsTN h l2 bs) (has:as.length=16) (hbs:kk+16≤bs.length)
  (hi:N[i]?=some (P,op)) (hj:N[j]?=some (i2,tiX l2 kk)) (hi2:278≤i2) (hPt:P∈tabs)
  (k1:Loc c.env x1:=by rfl) (k2:Loc c.env x2:=by rfl) (kz:Glo c.env "izip":=by rfl)
  (d1:ND x1:=by decide) (d2:ND x2:=by decide)
  (hst:Unst (.Name x1 q1) [.Name x2 q2] c.env:=by rfl)
  (hst2:Unst (.Name x2 q2) [] c.env:=by rfl)
  (hplain:Plain pos [.Name x2 q2] c.env:=by rfl)
  (hev:CallIs "izip" np [.Name x1 q1,.Name x2 q2] pos c.env:=by rfl) :
  EvZ c l N Φ (.Call (.Name "izip" np) [.Name x1 q1,.Name x2 q2] [] pos) as (bs.drop kk) P [(i2,tiX l2 (kk+16))] [i2]:=by
 intro Φ' k h t Q E F hQ
 refine PyProof.Rows.Call_ (gl H F hzip (PyProof.Rows.callWith_type1 ?_ hst hplain) kz (by decide)) hev
 rw [hst]
 refine spliced_cons (ld H F h1 ?_ k1 d1)
 rw [hst2]
 refine spliced_cons (ld H F h2 (spliced_nil ?_) k2 d2)
 have o1:=IsTN.out F λh y=>hA h (k h y)
 have o2:=IsTN.out F λh y=>hB h (k h y)
 exact zipCallTI (λ_ _ e=>e) (Nat.le_refl _) (hA h (k h F.phi)) has (F.new hj) (hB h (k h F.phi)) hbs (H.W1 F).size (tab_lt hPt) (ne_of_out hi o1.2.2) (ne_of_out hi o2.2.2) ⟨hi2,.inr (List.mem_singleton.mpr rfl)⟩ (.inr rfl) hQ
end
end
section
theorem wpAny_assign_Sub {o i:Expr} {pos':Pos} {Q:Unit→Shared→Prop}
  (h:wpAny M A (eval o env) (λov s₂=>wpAny M A (eval i env) (λiv s₃=>wpAny M A (setItem ov iv v) Q E s₃) E s₂) E s):wpAny M A (assign (.Subscript o i pos') env v) Q E s:=λΓ p hΓ=>by
 obtain ⟨f,e⟩:∃f:Value→Value→List Value,assign (.Subscript o i pos') env v=(do
  let ov←holding [v] (eval o env)
  let iv←holding [v,ov] (eval i env)
  standAt pos'
  holding [v,ov,iv] (setItem ov iv v)
  release (f ov iv) []):=⟨_,assign_Subscript o i pos' v⟩
 simp only [e,Sem.wp_bind',Sem.wp_holding,Sem.wp_cmd_standAt,Sem.wp_release,Sem.wp_pure']
 exact Sem.wp_mono M Γ _ (λov p₂ s₂ h₂=>Sem.wp_mono M Γ _ (λiv _ s₃ h₃=>h₃ Γ _ hΓ)
  (λ_ _ _ h'=>h') _ _ (h₂ Γ p₂ hΓ)) (λ_ _ _ h'=>h') _ _ (h Γ p hΓ)
section
noncomputable abbrev nums (zs:List Nat) (us:List Tok):List Value:=List.zipWith Value.int (zs.map λx:Nat=>(x:Int)) us
theorem storeSl {pp:Pos} {a b:Option Int} {A B:Nat} {xs:List Value} (i j:Nat) (H:c.Ok n) (F:c.SS l N Φ h) (hv:∀h,Φ h→TupN zs v h)
  (hj:l[j]?=some (x,some (.ref tg))) (hi':N[i]?=some (tg,lobj xs kk)) (ha:EvPart c l N Φ lo a) (hb:EvPart c l N Φ hi b) (hbd:sliceBounds a b none xs.length=((A:Int),(B:Int),1)) (hAB:A≤B) (hz:xs.length+zs.length≤100000)
  (hQ:∀us k' h' t',us.length=zs.length→c.SS l (N.set i (tg,lobj (xs.take A++nums zs us++xs.drop B) k')) Φ h'→QQ () (c.st h' t'))
  (kx:Loc c.env x) (dx:ND x) :
  c.wp (assign (.Subscript (.Name x px) (.Slice lo hi none sp) pp) c.env v) QQ E (c.st h t):=by
 refine wpAny_assign_Sub (ld H F hj ?_ kx dx)
 refine evSlice ha hb .none (λ_ y=>y) F λu v' w h2 t2 p1 p2 p3 F2=>?_
 cases p3
 obtain ⟨us,ad,hu,rfl,had⟩:=hv _ F2.phi
 have F3:=F2.push' { cls:=.type "slice",data:=.fields #[u,v',.none] }
 refine setItem_list_slice (F3.new hi') (Heap.get?_push_of_some _ had) (Heap.IsSliceOf.new ..) p1 p2 hbd hAB (by simp [hu];exact hz) λh' k' e hs=>?_
 exact hQ us k' h' t2 hu (F3.upd hi' hs e)
theorem asSl1 {pp:Pos} {a b:Option Int} {A B:Nat} {xs:List Value} {NN:LN→Prop} (i j:Nat) (H:c.Ok n) (F:c.SS l N Φ h) (he:EvS c l N Φ e NN (TupN zs))
  (hj:l[j]?=some (x,some (.ref tg))) (hi':∀N',NN N'→N'[i]?=some (tg,lobj xs kk)) (ha:∀g N' Φ,EvPart (c.gn g) l N' Φ lo a) (hb:∀g N' Φ,EvPart (c.gn g) l N' Φ hi b) (hbd:sliceBounds a b none xs.length=((A:Int),(B:Int),1)) (hAB:A≤B) (hz:xs.length+zs.length≤100000)
  (hQ:∀N' us k' g' h' t',NN N'→GensOk c.g g'→us.length=zs.length→c.SS l (N'.set i (tg,lobj (xs.take A++nums zs us++xs.drop B) k')) Φ h'→(c.gn g').wp (execs rest c.env) Q E ((c.gn g').st h' t'))
  (kx:Loc c.env x:=by rfl) (dx:ND x:=by decide) (hs:swapsWith e (some (.Subscript (.Name x px) (.Slice lo hi none sp) pp)) pos.line c.env=pure false:=by rfl) :
  c.wp (execs (.Assign [.Subscript (.Name x px) (.Slice lo hi none sp) pp] e pos::rest) c.env) Q E (c.st h t):=by
 refine wpAny_execs_cons ?_
 refine wpAny_Assign_Subscript (he _ (λ_ y=>y) h t _ _ F λv N' h1 g1 t1 hN hg F1=>?_) hs
 have F1:(c.gn g1).SS l N' (λh=>Φ h∧TupN zs v h) h1:=F1
 refine ld (c:=c.gn g1) (H.gn g1) F1 hj ?_ kx dx
 refine evSlice (c:=c.gn g1) (ha g1 N' _) (hb g1 N' _) .none (λ_ y=>y) F1 λu v' w h2 t2 p1 p2 p3 F2=>?_
 cases p3
 obtain ⟨us,ad,hu,rfl,had⟩:=F2.phi.2
 have F3:=F2.push' { cls:=.type "slice",data:=.fields #[u,v',.none] }
 refine setItem_list_slice (F3.new (hi' N' hN)) (Heap.get?_push_of_some _ had) (Heap.IsSliceOf.new ..) p1 p2 hbd hAB (by simp [hu];exact hz) λh' k' e hs=>?_
 exact hQ N' us k' g1 h' t2 hN hg hu ((F3.upd (hi' N' hN) hs e).weaken λ_ y=>y.1)
theorem asSl2 {pp:Pos} {a b:Option Int} {A B:Nat} {xs:List Value} {NN:LN→Prop} (i j jy:Nat) (H:c.Ok n) (F:c.SS l N Φ h) (he:EvS c l N Φ e NN (TupN zs))
  (hj:l[j]?=some (x,some (.ref tg))) (hi':∀N',NN N'→N'[i]?=some (tg,lobj xs kk)) (ha:∀g N' Φ,EvPart (c.gn g) l N' Φ lo a) (hb:∀g N' Φ,EvPart (c.gn g) l N' Φ hi b) (hbd:sliceBounds a b none xs.length=((A:Int),(B:Int),1)) (hAB:A≤B) (hz:xs.length+zs.length≤100000)
  (hjy:l[jy]?=some (y,w0))
  (hQ:∀a N' us k' g' h' t' ys,ys=xs.take A++nums zs us++xs.drop B→NN N'→GensOk c.g g'→us.length=zs.length→let l':=l.set jy (y,some (.ref a));let N2:=N'.set i (tg,lobj ys k');c.SS l' N2 (λh=>Φ h∧IsTN h a zs) h'→(c.gn g').wp (execs rest c.env) Q E ((c.gn g').st h' t'))
  (kx:Loc c.env x:=by rfl) (ky:Loc c.env y:=by rfl) (dx:ND x:=by decide)
  (hae:(assignEach [.Subscript (.Name x px) (.Slice lo hi none sp) pp,.Name y py] c.env).map (·.2)=[assign (.Subscript (.Name x px) (.Slice lo hi none sp) pp) c.env,assign (.Name y py) c.env]:=by rfl)
  (hw:swappedStores [.Subscript (.Name x px) (.Slice lo hi none sp) pp,.Name y py] e c.env=pure none:=by rfl) :
  c.wp (execs (.Assign [.Subscript (.Name x px) (.Slice lo hi none sp) pp,.Name y py] e pos::rest) c.env) Q E (c.st h t):=by
 refine wpAny_execs_cons (wpAny_Assign_two (he _ (λ_ y=>y) h t _ _ F λv N' h1 g1 t1 hN hg F1=>?_) hae hw)
 have F1:(c.gn g1).SS l N' (λh=>Φ h∧TupN zs v h) h1:=F1
 refine storeSl (c:=c.gn g1) i j (H.gn g1) F1 (λh y=>y.2) hj (hi' N' hN) (ha g1 N' _) (hb g1 N' _) hbd hAB hz (λus k' h2 t2 hu F2=>?_) kx dx
 refine wpAny_assign_Name (stn (c:=c.gn g1) (H.gn g1) F2 hjy (λh3 F3=>?_) ky)
 obtain ⟨a,rfl,_⟩:=F3.phi.2.at
 exact hQ a N' us k' g1 h3 _ _ rfl hN hg hu (F3.weaken λh y=>⟨y.1,let ⟨_,e,q⟩:=y.2.at;Value.ref.inj e▸q⟩)
theorem asTN {w:Option Value} (i:Nat) (H:c.Ok n) (F:c.SS l N Φ h) (he:EvR c l N Φ e (TupN zs))
  (hQ:∀a h' t',let l':=l.set i (x,some (.ref a));c.SS l' N (λh=>Φ h∧IsTN h a zs) h'→c.wp (execs rest c.env) Q E (c.st h' t'))
  (hi:l[i]?=some (x,w):=by rfl) (hl:Loc c.env x:=by rfl) (hs:Swp e x p' pos c.env:=by rfl) :
  c.wp (execs (.Assign [.Name x p'] e pos::rest) c.env) Q E (c.st h t) :=
 asR i H F he (λv h' t' F'=>by
  obtain ⟨a,rfl,_⟩:=F'.phi.2.at
  exact hQ a h' t' (F'.weaken λh y=>⟨y.1,let ⟨_,e,q⟩:=y.2.at;Value.ref.inj e▸q⟩)) hi hl hs
end
end
section
end
section
structure EM (K:Frag) (mg mb:Str→Option Value):Prop where
 ek:EK K mg mb
 bi:BiOk K mg
 zip:mg "izip"=some (.type "zip")
 iter:mg "iter"=none∧mb "iter"=some (.builtin "iter")
 list:mg "list"=none∧mb "list"=some (.type "list")
 tuple:mg "tuple"=none∧mb "tuple"=some (.type "tuple")
 bmix1:FnM K 163 "_bmix_1" "ScryptEngine._bmix_1" (arOf (sub 14 13)) (bdOf (sub 14 13)) (scOf (sub 14 13)) .none (.ref 162)
 bmix:FnM K 156 "bmix" "ScryptEngine.bmix" (arOf (sub 14 12)) (bdOf (sub 14 12)) (scOf (sub 14 12)) .none (.ref 155)
 smix:FnM K 149 "smix" "ScryptEngine.smix" (arOf (sub 14 11)) (bdOf (sub 14 11)) (scOf (sub 14 11)) .none (.ref 148)
 run:FnM K 142 "run" "ScryptEngine.run" (arOf (sub 14 10)) (bdOf (sub 14 10)) (scOf (sub 14 10)) .none (.ref 141)
 init:FnM K 135 "__init__" "ScryptEngine.__init__" (arOf (sub 14 9)) (bdOf (sub 14 9)) (scOf (sub 14 9)) .none (.ref 134)
 ct1:CodeTab K 162 158
 ct2:CodeTab K 155 151
 ct3:CodeTab K 148 144
 ct4:CodeTab K 141 137
 own:∀name∈(["n","r","p","smix_bytes","iv_bytes","bmix_len","bmix_half_len","bmix_struct","integerify","bmix"]:List Str),∀(od:Obj) (v:Value),lookIn name od=some (some v)→findObj K 166 (some od) name=some (.value v)
 ga:findIn K (.ref 166) "__getattribute__"=some (some (.builtin "object.__getattribute__"))
 gattr:findIn K (.ref 166) "__getattr__"=some none
 meth:∀p∈([("run",142),("smix",149),("bmix",156),("_bmix_1",163)]:List (Str×Addr)),(∀od:Obj,lookIn p.1 od=some none→findObj K 166 (some od) p.1=some (.bind (.builtin "function.__get__") (.ref p.2)))∧typeIn K (.ref p.2)=some (.type "function")
noncomputable def FnX (prog:Program) (w:World) (K:Frag) (mg mb:Str→Option Value) (n:Nat) (f:Addr) (args:Args) (S:List Addr) (h:Heap) (g:Array GenState) (Post:VH):Prop :=
 ∀A d t o (R:Result→Shared→Prop),AOk n A→W0 K mg mb h →
  (∀v h' g' t',(∀b o,b∉S→h.get? b=some o→h'.get? b=some o)→h.objs.size≤h'.objs.size→GensOk g g'→Post v h'→R (.ok (.ret v)) ⟨h',g',d,t',o⟩) →
  codeAny (model prog w) A (.call (.ref f) args) R ⟨h,g,d,t,o⟩
theorem SS.knowOld (x:SS h₀ S X L l N Φ h) (e:h₀.get? a=some ob) (hS:a∉S) (hX:a∉X) (hL:h₀.objs.size≤L) :
  SS h₀ S X L l N (λh=>Φ h∧h.get? a=some ob) h:=by
 have hlt:=Heap.lt_size e
 have hal:a≠L:=Nat.ne_of_lt (Nat.lt_of_lt_of_le hlt hL)
 refine x.know λh' q=>q a ob hal hX ?_ (x.keep a ob hS hal e)
 intro r
 obtain ⟨p,hp,rfl⟩:=List.mem_map.mp r
 rcases (x.news p hp).2.2 with r | r
 ·exact absurd hlt (Nat.not_lt.mpr r)
 ·exact hS r
theorem SS.kept (x:SS h₀ S X L l N Φ h) (hL:h₀.objs.size≤L):∀b o,b∉S→h₀.get? b=some o→h.get? b=some o :=
 λb o hb e=>x.keep b o hb (Nat.ne_of_lt (Nat.lt_of_lt_of_le (Heap.lt_size e) hL)) e
noncomputable def wblk1 (src:List Nat):List Nat :=
 let t1:=wsalsa (xorL (src.drop 16) src)
 t1++wsalsa (xorL t1 (src.drop 16))
theorem xorL_len {a b:List Nat}:(xorL a b).length=min a.length b.length:=by simp [xorL]
section
theorem nums_len (h:us.length=zs.length):(nums zs us).length=zs.length:=by simp [h]
theorem nums_app {a b:List Nat} {vs:List Tok} (h:us.length=a.length):nums (a++b) (us++vs)=nums a us++nums b vs:=by
 unfold nums
 rw [List.map_append,List.zipWith_append (by simp [h])]
theorem lobj_tup' {zs:List Value} (e:lobj vs k=tobj zs):False:=absurd (show Value.type "list" = .type "tuple" from congrArg Obj.cls e) (by decide)
set_option maxHeartbeats 1000000
theorem bmix_1 (EMM:EM K mg mb) {sv:Value} {xs:List Value} (hs:IsTN h ls src) (hsl:src.length=32) (htg:h.get? tg=some (lobj xs k)) (hxl:xs.length=32)
  (h278:278≤tg) (hop:h.get? 158=some op) (hok:TabOk op) :
  FnX prog w K mg mb 5 163 ⟨[sv,.ref ls,.ref tg],[]⟩ [158,tg] h g (λv h'=>v = .none∧(∃op',h'.get? 158=some op'∧TabOk op')∧Ex2 λus k'=>us.length=32∧h'.get? tg=some (lobj (nums (wblk1 src) us) k')):=by
 intro A d t o R hA W hR
 obtain ⟨us0,hu0,hs⟩:=hs
 have hst:ls≠tg:=by intro e;rw [e,htg] at hs;exact lobj_tup' (Option.some.inj hs)
 have hsp:ls≠158:=by intro e;rw [e,hop] at hs;cases hs;obtain ⟨_,hd,_⟩:=hok;cases hd
 have htp:tg≠158:=by intro e;rw [e] at h278;exact absurd h278 (by decide)
 refine enterM0 (n:=4) (binds:=[("self",sv),("source",.ref ls),("target",.ref tg)]) ["self","source","target","B","tmp"] [] [158,tg] [(158,op),(tg,lobj xs k)] EMM.bmix1 hA W EMM.ek.dom
  (λpm doc=>by kernel_rfl) (by kernel_rfl) (by kernel_rfl) ?_ ?_ ?_ (by kernel_rfl) ?_
 ·intro b hb
  revert b hb
  refine f2 ?_ ?_
  ·exact .inr (by decide)
  ·exact .inl h278
 ·intro p hp
  revert p hp
  refine f2 ?_ ?_
  ·exact ⟨hop,by trivial⟩
  ·exact ⟨htg,by trivial⟩
 ·exact List.nodup_cons.mpr ⟨n1 htp.symm,List.nodup_cons.mpr ⟨List.not_mem_nil,List.nodup_nil⟩⟩
 intro h₁ t₁
 intro c l N Q QB H H0 F
 refine bindsL 0 H0 F ?_
 intro h2 t2 l F
 refine bindsL 1 H0 F ?_
 intro h2 t2 l F
 refine bindsL 2 H0 F ?_
 intro h2 t2 l F
 refine bindsNil ⟨h2,t2,_,_,rfl,F,?_⟩
 have F:=(F.knowOld hs (n2 hsp hst) (λq=>nomatch q) (Nat.le_refl _)).weaken (Φ':=λh=>IsTN h ls src) λh y=>⟨us0,hu0,y.2⟩
 refine asTN (zs:=src.drop 16) 3 H F (EvR.tupFrom (EvV.toRP (.nm 1 H rfl) λh y=>?_) .const (by decide) (by lia) (.inl rfl) (by lia)) ?_
 ·obtain ⟨us,hu,e⟩:=y;exact ⟨us,ls,hu,rfl,e⟩
 intro lB h3 t3 l F3
 refine asSl2 (a:=none) (b:=some 16) (A:=0) (B:=16) (zs:=wsalsa (xorL (src.drop 16) src)) (xs:=xs) (kk:=k) (tg:=tg) 1 2 4 H F3
  (EvS.salsa (n:=4) (N0:=[]) (wrOld:=[]) (cl:=[]) EMM.ek EMM.bi H (by decide) 0 rfl EMM.ct1 (by rfl) hok (by decide) (by simp [hsl]) (by lia) (by trivial) (by simp)
   (EvZ.ti 0 3 1 H EMM.zip EMM.iter (by rfl) (by rfl) (λh y=>y.2) (λh y=>y.1) (by simp [hsl]) (by lia) (by rfl) (by decide))
   (λop'=>[(158,op'),(tg,lobj xs k)]) ?_ ?_ (by rfl) (by decide) (by rfl) (by rfl) (by rfl) (by rfl) (by rfl) (by decide) (by decide) (by decide) (λ_=>by rfl) (λ_ _ _=>by rfl) (λ_ _ _=>by rfl) (by rfl) (by rfl) (by rfl))
  (by rfl) ?_ ?_ ?_ ?_ (by decide) ?_ (by rfl) ?_
 ·intro op';rfl
 ·intro op' p hp
  revert p hp
  refine f2 ?_ ?_
  ·exact .inl rfl
  ·exact .inr (.inr ⟨List.mem_cons_of_mem _ (List.mem_cons_self ..),htp,by simp⟩)
 ·rintro N' ⟨op',rfl,_⟩;rfl
 ·intro g N' Φ;exact .none
 ·intro g N' Φ;exact .of .const
 ·rw [hxl];decide
 ·rw [wsalsa_len,xorL_len,hxl];simp [hsl]
 rintro lt _ us1 k1 g1 h4 t4 xs2 hx2 ⟨op1,rfl,hok1⟩ hg1 hu1 l N F4
 have F4:=F4.weaken (Φ':=λh=>IsTN h lt (wsalsa (xorL (src.drop 16) src))∧IsTN h lB (src.drop 16)) λh y=>⟨y.2,y.1.2⟩
 have hl1:(wsalsa (xorL (src.drop 16) src)).length=16:=by rw [wsalsa_len,xorL_len];simp [hsl]
 have H1:=H.gn g1
 refine asSl1 (a:=some 16) (b:=none) (A:=16) (B:=32) (xs:=xs2) (zs:=wsalsa (xorL (wsalsa (xorL (src.drop 16) src)) (src.drop 16))) (kk:=k1) (tg:=tg) 1 2 H1 F4
  (EvS.salsa (n:=4) (N0:=[]) (wrOld:=[]) (cl:=[]) EMM.ek EMM.bi H1 (by decide) 0 rfl EMM.ct1 (by rfl) hok1 (by decide) hl1 (by simp [hsl]) (by trivial) (by simp)
   (EvZ.tt 0 4 3 H1 EMM.zip (by rfl) (by rfl) (λh y=>y.1) (λh y=>y.2) hl1 (by simp [hsl]) (by rfl) (by decide))
   (λop'=>[(158,op'),(tg,lobj xs2 k1)]) (λop'=>rfl) ?_ (by rfl) (by decide) (by rfl) (by rfl) (by rfl) (by rfl) (by rfl) (by decide) (by decide) (by decide) (λ_=>by rfl) (λ_ _ _=>by rfl) (λ_ _ _=>by rfl) (by rfl) (by rfl) (by rfl))
  (by rfl) ?_ ?_ ?_ ?_ (by decide) ?_ ?_
 ·intro op' p hp
  revert p hp
  refine f2 ?_ ?_
  ·exact .inl rfl
  ·exact .inr (.inr ⟨List.mem_cons_of_mem _ (List.mem_cons_self ..),htp,by simp⟩)
 ·rintro N' ⟨op',rfl,_⟩;rfl
 ·intro g N' Φ;exact .of .const
 ·intro g N' Φ;exact .none
 ·rw [hx2];simp [hu1,hl1,hxl];decide
 ·rw [hx2];simp [hu1,hl1,hxl,wsalsa_len,xorL_len,hsl]
 rintro _ us2 k2 g2 h5 t5 ⟨op2,rfl,hok2⟩ hg2 hu2 F5
 refine wpAny_execs_nil (hR _ h5 g2 t5 (F5.kept (Nat.le_refl _)) F5.size (hg1.trans hg2) ⟨rfl,⟨op2,F5.new (i:=0) rfl,hok2⟩,?_⟩)
 have e5:=F5.new (i:=1) rfl
 refine ⟨us1++us2,k2,?_,?_⟩
 ·rw [List.length_append,hu1,hu2,hl1,wsalsa_len,xorL_len];simp [hl1,hsl]
 ·have e1:xs2.take 16=nums (wsalsa (xorL (src.drop 16) src)) us1:=by
   rw [hx2,List.take_zero,List.nil_append,List.take_left' (by rw [nums_len hu1,hl1])]
  have e2:xs2.drop 32=[]:=by
   rw [hx2,List.drop_eq_nil_iff];simp [hu1,hl1,hxl]
  rw [e5,e1,e2,List.append_nil]
  show _=some (lobj (nums (wsalsa (xorL (src.drop 16) src)++_) (us1++us2)) k2)
  rw [nums_app hu1]
end
end
section
noncomputable def SelfV (h:Heap) (sf:Addr) (name:Str) (v:Value):Prop:=Ex2 λdx od=>An3 (h.get? sf=some (instObj 166 dx)) (h.get? dx=some od) (lookIn name od=some (some v))
noncomputable def SelfN (h:Heap) (sf:Addr) (name:Str):Prop:=Ex2 λdx od=>An3 (h.get? sf=some (instObj 166 dx)) (h.get? dx=some od) (lookIn name od=some none)
section
theorem EvV.attr {name:Str} (EMM:EM c.K c.mg c.mb) (H:c.Ok n) (he:EvV c l N Φ (.Name x px) (.ref sf)) (hs:∀h,Φ h→SelfV h sf name v) (hh:handedIn v=true)
  (hn:name∈(["n","r","p","smix_bytes","iv_bytes","bmix_len","bmix_half_len","bmix_struct","integerify","bmix"]:List Str):=by decide):EvV c l N Φ (.Attribute (.Name x px) name pos) v:=by
 intro Φ' k h t Q E F hQ
 refine PyProof.Rows.Attribute_name (he _ k h t _ _ F λh1 t1 F1=>?_)
 obtain ⟨dx,od,h2,h3,h4⟩:=hs h1 (k _ F1.phi)
 refine get_value (s:=c.st h1 t1) (od:=some od) (C:=166) (ox:=instObj 166 dx) (H.W1 F1).k ⟨h2,rfl,rfl,h3⟩ EMM.ga (EMM.own name hn od v h4) hh ?_
 exact hQ h1 _ F1
theorem EvF.bound {name:Str} (EMM:EM c.K c.mg c.mb) (H:c.Ok n) (he:EvV c l N Φ (.Name x px) (.ref sf)) (hs:∀h,Φ h→SelfN h sf name)
  (hn:(name,f)∈([("run",142),("smix",149),("bmix",156),("_bmix_1",163)]:List (Str×Addr)):=by decide):EvF c l N Φ (.Attribute (.Name x px) name pos) (λv h=>∃b,v = .ref b∧h.get? b=some (methodObj (.ref f) (.ref sf))):=by
 intro Φ' k h t Q E F hQ
 refine PyProof.Rows.Attribute_name (wpAny_with_size (Nat.le_refl _) (he _ k h t _ _ F λh1 t1 F1 hz=>?_))
 obtain ⟨dx,od,h2,h3,h4⟩:=hs h1 (k _ F1.phi)
 obtain ⟨m1,m2⟩:=EMM.meth (name,f) hn
 refine get_bind (s:=c.st h1 t1) (od:=some od) (C:=166) (ox:=instObj 166 dx) (H.W1 F1).k ⟨h2,rfl,rfl,h3⟩ EMM.ga (m1 od h4) EMM.gattr ?_
 refine wpAny_call (fn_get (H.W1 F1).k m2 ?_)
 refine handed_on rfl ?_
 refine hQ _ _ _ (F1.push' _) (Nat.le_trans hz (Grow.push _ _).1) λh' q=>⟨_,rfl,q _ _ hz (Heap.get?_push_size _ rfl)⟩
theorem asIter {w:Option Value} (i j:Nat) (EMM:EM c.K c.mg c.mb) (H:c.Ok n) (F:c.SS l N Φ h) (hj:l[j]?=some (y,some (.ref ls))) (hs:∀h,Φ h→IsTN h ls src)
  (hQ:∀a h' t',h.objs.size≤a→c.SS (l.set i (x,some (.ref a))) (N++[(a,tiX ls 0)]) Φ h'→c.wp (execs rest c.env) Q E (c.st h' t'))
  (hi:l[i]?=some (x,w):=by rfl) (hl:Loc c.env x:=by rfl) (hly:Loc c.env y:=by rfl) (ki:Glo c.env "iter":=by rfl) (dy:ND y:=by decide)
  (hst3:Unst (.Name y py) [] c.env:=by rfl)
  (hev2:CallIs "iter" np [.Name y py] cp c.env:=by rfl)
  (hsw:Swp (.Call (.Name "iter" np) [.Name y py] [] cp) x p' pos c.env:=by rfl) :
  c.wp (execs (.Assign [.Name x p'] (.Call (.Name "iter" np) [.Name y py] [] cp) pos::rest) c.env) Q E (c.st h t):=by
 refine wpAny_execs_cons (wpAny_Assign_Name (PyProof.Rows.Call_ (bl H F EMM.iter.1 EMM.iter.2 (PyProof.Rows.callWith_builtin1 ?_ hst3) ki (by decide)) hev2) hsw)
 rw [hst3]
 refine spliced_cons (ld H F hj (spliced_nil ?_) hly dy)
 obtain ⟨items,ht,_,_⟩:=(hs h F.phi).tuple
 refine iter_tuple ht ?_
 exact stn H (F.push (tiX ls 0)) hi (λh2 F2=>hQ _ h2 _ (Nat.le_refl _) F2) hl
end
end
section
noncomputable def ws (src:List Nat):Nat→List Nat
 | 0=>src.drop (src.length - 16)
 | i+1=>wsalsa (xorL (ws src i) (src.drop (16*i)))
noncomputable def wblk2 (src:List Nat):List Nat:=ws src 1++ws src 3++ws src 2++ws src 4
theorem ws_len (h:src.length=64):∀i,i≤4→(ws src i).length=16
 | 0,_=>by simp [ws,h]
 | i+1,hi=>by
  have:=ws_len h i (by trivial)
  unfold ws
  rw [wsalsa_len,xorL_len,this,List.length_drop,h]
  exact Nat.min_eq_left (Nat.le_sub_of_add_le' (Nat.mul_le_mul_left 16 hi))
theorem put1 {α:Type} {a X b Y L:List α} (hL:L=a++(X++b)) (ha:a.length=n) (hm:a.length+X.length=m):L.take n++Y++L.drop m=a++(Y++b):=by
 subst hL hm ha
 have e:List.drop (a.length+X.length) (a++(X++b))=b:=by rw [←List.length_append,←List.append_assoc,List.drop_left]
 rw [List.take_left,e,List.append_assoc]
theorem put4 {α:Type} {p0 p1 p2 p3 A B:List α} (h0:p0.length=16) (h1:p1.length=16) (h2:p2.length=16) (h3:p3.length=16) (hA:A.length=16) (hB:B.length=16) (i:Nat) (hi:i<2) :
  ((p0++p1++p2++p3).take (16*i)++A++(p0++p1++p2++p3).drop (16*i+16)).take (32+16*i)++B++((p0++p1++p2++p3).take (16*i)++A++(p0++p1++p2++p3).drop (16*i+16)).drop (32+(16*i+16)) =
   if i=0 then A++p1++B++p3 else p0++A++p2++B:=by
 rcases (show i=0∨i=1 by lia) with rfl | rfl
 ·rw [put1 (n:=16*0) (m:=16*0+16) (a:=[]) (X:=p0) (b:=p1++(p2++p3)) (Y:=A) (by simp) rfl (by rw [h0];rfl),put1 (n:=32+16*0) (m:=32+(16*0+16)) (a:=A++p1) (X:=p2) (b:=p3) (Y:=B) (by simp) (by rw [List.length_append,hA,h1]) (by rw [List.length_append,hA,h1,h2]),if_pos rfl]
  simp
 ·rw [put1 (n:=16*1) (m:=16*1+16) (a:=p0) (X:=p1) (b:=p2++p3) (Y:=A) (by simp) (by rw [h0]) (by rw [h0,h1]),put1 (n:=32+16*1) (m:=32+(16*1+16)) (a:=p0++(A++p2)) (X:=p3) (b:=[]) (Y:=B) (by simp) (by rw [List.length_append,List.length_append,h0,hA,h2]) (by rw [List.length_append,List.length_append,h0,hA,h2,h3]),if_neg (by decide)]
  simp
noncomputable def Cont (src:List Nat) (i:Nat) (ys:List Value):Prop:=Ex4 λ(p0 p1 p2 p3:List Value)=>An7 (p0.length=16) (p1.length=16) (p2.length=16) (p3.length=16) (ys=p0++p1++p2++p3) ((1≤i→Ex2 λus us'=>An4 (us.length=16) (us'.length=16) (p0=nums (ws src 1) us) (p2=nums (ws src 2) us'))) ((2≤i→Ex2 λus us'=>An4 (us.length=16) (us'.length=16) (p1=nums (ws src 3) us) (p3=nums (ws src 4) us')))
theorem Cont.start (h:ys.length=64):Cont src 0 ys:=by
 refine ⟨ys.take 16,(ys.drop 16).take 16,(ys.drop 32).take 16,ys.drop 48,by simp [h],by simp [h],by simp [h],by simp [h],?_,λq=>absurd q (by decide),λq=>absurd q (by decide)⟩
 have e1:(ys.drop 32).take 16++ys.drop 48=ys.drop 32:=by
  have:=List.take_append_drop 16 (ys.drop 32)
  rw [List.drop_drop] at this;exact this
 have e2:(ys.drop 16).take 16++ys.drop 32=ys.drop 16:=by
  have:=List.take_append_drop 16 (ys.drop 16)
  rw [List.drop_drop] at this;exact this
 rw [List.append_assoc,e1,List.append_assoc,e2,List.take_append_drop]
theorem Cont.len (h:Cont src i ys):ys.length=64:=by
 obtain ⟨p0,p1,p2,p3,h0,h1,h2,h3,rfl,_⟩:=h
 simp [h0,h1,h2,h3]
theorem Cont.step (h:Cont src i ys) (hi:i<2) {us':List Tok} (hs:src.length=64) (hu:us.length=16) (hu':us'.length=16) :
  Cont src (i+1) ((ys.take (16*i)++nums (ws src (2*i+1)) us++ys.drop (16*i+16)).take (32+16*i)++nums (ws src (2*i+2)) us'++(ys.take (16*i)++nums (ws src (2*i+1)) us++ys.drop (16*i+16)).drop (32+(16*i+16))):=by
 obtain ⟨p0,p1,p2,p3,h0,h1,h2,h3,rfl,c1,c2⟩:=h
 have hA:(nums (ws src (2*i+1)) us).length=16:=by rw [nums_len (by rw [hu,ws_len hs _ (by lia)]),ws_len hs _ (by lia)]
 have hB:(nums (ws src (2*i+2)) us').length=16:=by rw [nums_len (by rw [hu',ws_len hs _ (by lia)]),ws_len hs _ (by lia)]
 rw [put4 h0 h1 h2 h3 hA hB i hi]
 rcases (show i=0∨i=1 by lia) with rfl | rfl
 ·exact ⟨_,p1,_,p3,hA,h1,hB,h3,rfl,λ_=>⟨us,us',hu,hu',rfl,rfl⟩,λq=>absurd q (by decide)⟩
 ·exact ⟨p0,_,p2,_,h0,hA,h2,hB,rfl,λ_=>c1 (by decide),λ_=>⟨us,us',hu,hu',rfl,rfl⟩⟩
theorem Cont.fin (h:Cont src 2 ys) (hs:src.length=64):∃us,us.length=64∧ys=nums (wblk2 src) us:=by
 obtain ⟨p0,p1,p2,p3,h0,h1,h2,h3,rfl,c1,c2⟩:=h
 obtain ⟨u0,u2,l0,l2,rfl,rfl⟩:=c1 (by decide)
 obtain ⟨u1,u3,l1,l3,rfl,rfl⟩:=c2 (by decide)
 have w:=λi hi=>ws_len hs i hi
 refine ⟨u0++u1++u2++u3,by simp [l0,l1,l2,l3],?_⟩
 unfold wblk2
 rw [nums_app (by simp [l0,l1,l2,w]),nums_app (by simp [l0,l1,w]),nums_app (by simp [l0,w])]
end
section
theorem slB (a b n:Nat) (h1:a≤b) (h2:b≤n):sliceBounds (some (a:Int)) (some (b:Int)) none n=((a:Int),(b:Int),1):=by
 simp only [sliceBounds,Option.getD_none]
 have h1:¬ ((a:Int)<0):=by lia
 have h2:¬ ((b:Int)<0):=by lia
 simp only [h1,h2,if_false,show (1:Int)>0 by decide,if_true]
 congr 1
 ·lia
 ·congr 1;lia
section
set_option maxHeartbeats 1000000
theorem bmix_2 (EMM:EM K mg mb) {xs:List Value} {uh:Tok} (hs:IsTN h ls src) (hsl:src.length=64) (htg:h.get? tg=some (lobj xs k)) (hxl:xs.length=64)
  (h278:278≤tg) (hop:h.get? 151=some op) (hok:TabOk op) (hself:SelfV h sf "bmix_half_len" (.int 32 uh)) :
  FnX prog w K mg mb 5 156 ⟨[.ref sf,.ref ls,.ref tg],[]⟩ [151,tg] h g (λv h'=>v = .none∧(∃op',h'.get? 151=some op'∧TabOk op')∧Ex2 λus k'=>us.length=64∧h'.get? tg=some (lobj (nums (wblk2 src) us) k')):=by
 intro A d t o R hA W hR
 obtain ⟨us0,hu0,hs⟩:=hs
 obtain ⟨dx,od,hs1,hs2,hs3⟩:=hself
 have hst:ls≠tg:=by intro e;rw [e,htg] at hs;exact lobj_tup' (Option.some.inj hs)
 have hsp:ls≠151:=by intro e;rw [e,hop] at hs;cases hs;obtain ⟨_,hd,_⟩:=hok;cases hd
 have htp:tg≠151:=by intro e;rw [e] at h278;exact absurd h278 (by decide)
 have hft:sf≠tg:=by intro e;rw [e,htg] at hs1;simp at hs1
 have hfp:sf≠151:=by intro e;rw [e,hop] at hs1;cases hs1;obtain ⟨_,hd,_⟩:=hok;cases hd
 have hdt:dx≠tg:=by intro e;rw [e,htg] at hs2;cases hs2;cases hs3
 have hdp:dx≠151:=by intro e;rw [e,hop] at hs2;cases hs2;obtain ⟨_,hd,_⟩:=hok;unfold lookIn at hs3;rw [hd] at hs3;cases hs3
 refine enterM0 (n:=4) (binds:=[("self",.ref sf),("source",.ref ls),("target",.ref tg)]) ["self","source","target","half","tmp","siter","j","jn"] [] [151,tg] [(151,op),(tg,lobj xs k)] EMM.bmix hA W EMM.ek.dom
  (λpm doc=>by kernel_rfl) (by kernel_rfl) (by kernel_rfl) ?_ ?_ ?_ (by kernel_rfl) ?_
 ·intro b hb
  revert b hb
  refine f2 ?_ ?_
  ·exact .inr (by decide)
  ·exact .inl h278
 ·intro p hp
  revert p hp
  refine f2 ?_ ?_
  ·exact ⟨hop,by trivial⟩
  ·exact ⟨htg,by trivial⟩
 ·exact List.nodup_cons.mpr ⟨n1 htp.symm,List.nodup_cons.mpr ⟨List.not_mem_nil,List.nodup_nil⟩⟩
 intro h₁ t₁
 intro c l N Q QB H H0 F
 refine bindsL 0 H0 F ?_
 intro h2 t2 l F
 refine bindsL 1 H0 F ?_
 intro h2 t2 l F
 refine bindsL 2 H0 F ?_
 intro h2 t2 l F
 refine bindsNil ⟨h2,t2,_,_,rfl,F,?_⟩
 have F:=(((F.knowOld hs (n2 hsp hst) (λq=>nomatch q) (Nat.le_refl _)).knowOld hs1 (n2 hfp hft) (λq=>nomatch q) (Nat.le_refl _)).knowOld hs2 (n2 hdp hdt) (λq=>nomatch q) (Nat.le_refl _)).weaken (Φ':=λh=>IsTN h ls src∧SelfV h sf "bmix_half_len" (.int 32 uh)) λh y=>⟨⟨us0,hu0,y.1.1.2⟩,dx,od,y.1.2,y.2,hs3⟩
 refine asV 3 H F (EvV.attr EMM H (.nm 0 H rfl) (λh y=>y.2) rfl) ?_
 intro h3 t3 l F3
 refine asTN (zs:=ws src 0) 4 H F3 ?_ ?_
 ·refine EvR.tupFrom (a:=src.length - 16) (EvV.toRP (.nm 1 H rfl) λh y=>?_) (EvI.neg .const) (by lia) (by lia) (.inr ⟨by lia,by decide⟩) (by lia)
  obtain ⟨us,hu,e⟩:=y.1;exact ⟨us,ls,hu,rfl,e⟩
 intro lt h4 t4 l F4
 have F4:=F4.weaken (Φ':=λh=>IsTN h ls src∧IsTN h lt (ws src (2*0))) λh y=>⟨y.1.1,y.2⟩
 refine asIter 5 1 EMM H F4 (by rfl) (λh y=>y.1) (λsi h5 t5 hsi F5=>?_)
 refine asI 6 H F5 (.const (i:=0)) (λuj h6 t6 F6=>?_)
 have hsi278:278≤si:=Nat.le_trans (H.W1 F4).size hsi
 have hsp':si≠151:=by intro e;rw [e] at hsi278;exact absurd hsi278 (by decide)
 have hst':si≠tg:=by
  have:([151,tg,si]:List Addr).Nodup:=F5.ndn
  exact (nneq (N:=[(151,op),(tg,lobj xs k),(si,lobj [] 0)]) this 2 1)
 refine whileS (m:=2) (λi s=>Ex9 λh' t' g' op' ys k' lt uj tw=>An5 (s=⟨h',g',d,t',o⟩) (GensOk g g') (TabOk op') (Cont src i ys) (c.SS
    ([("self",some (.ref sf)),("source",some (.ref ls)),("target",some (.ref tg)),("half",some (.int 32 uh)),("tmp",some (.ref lt)),("siter",some (.ref si)),("j",some (.int ((16*i:Nat):Int) uj)),("jn",tw)]:LS)
    [(151,op'),(tg,lobj ys k'),(si,tiX ls (16*(2*i)))] (λh=>IsTN h ls src∧IsTN h lt (ws src (2*i))) h'))
  ⟨h6,t6,g,op,xs,k,lt,uj,none,rfl,GensOk.refl g,hok,Cont.start hxl,F6⟩ ?_ ?_
 ·rintro i s hi ⟨h7,t7,g7,op7,ys,k7,lt7,uj7,tw,rfl,hg7,hok7,hc7,F7⟩
  have H7:=H.gn g7
  have e16:(ws src (2*i)).length=16:=ws_len hsl _ (by lia)
  have e16':(ws src (2*i+1)).length=16:=ws_len hsl _ (by lia)
  have e16'':(ws src (2*i+2)).length=16:=ws_len hsl _ (by lia)
  refine EvT.run (c:=c.gn g7) (EvT.cast (EvT.lt (.nm 6 H7 (by rfl)) (.nm 3 H7 (by rfl))) (b:=true) (by rw [decide_eq_true_eq];lia)) F7 (λh8 t8 F8=>⟨rfl,?_⟩)
  refine asI (c:=c.gn g7) 7 H7 F8 (EvN.add (a:=16*i) (.nm 6 H7) (.const 16)) (λujn h9 t9 F9=>?_)
  have hz7:=hc7.len
  refine asSl2 (c:=c.gn g7) (a:=some ((16*i:Nat):Int)) (b:=some ((16*i+16:Nat):Int)) (A:=16*i) (B:=16*i+16) (zs:=ws src (2*i+1)) (xs:=ys) (kk:=k7) (tg:=tg) 1 2 4 H7 F9
   (EvS.salsa (n:=4) (N0:=[(si,tiX ls (16*(2*i)+16))]) (wrOld:=[si]) (cl:=[]) (as:=ws src (2*i)) (bs:=src.drop (16*(2*i))) EMM.ek EMM.bi H7 (by decide) 0 rfl EMM.ct2 (by rfl) hok7 (by decide) e16 (by rw [List.length_drop];lia) (by simp) ?_
    (EvZ.tj (l1:=lt7) (l2:=ls) (kk:=16*(2*i)) 0 2 4 5 H7 EMM.zip (by rfl) (by rfl) (λh y=>y.2) (λh y=>y.1) e16 (by lia) (by rfl) (by rfl) hsi278 (by decide))
    (λop'=>[(151,op'),(tg,lobj ys k7),(si,tiX ls (16*(2*i)+16))]) (λop'=>rfl) ?_ (by rfl) (by decide) (by rfl) (by rfl) (by rfl) (by rfl) (by rfl) (by decide) (by decide) (by decide) (λ_=>by rfl) (λ_ _ _=>by rfl) (λ_ _ _=>by rfl) (by rfl) (by rfl) (by rfl))
   (by rfl) ?_ ?_ ?_ ?_ (by trivial) ?_ (by rfl) ?_
  ·intro b hb
   rw [List.mem_singleton.mp hb]
   exact ⟨by trivial,hsp'⟩
  ·intro op' p hp
   revert p hp
   refine f3 ?_ ?_ ?_
   ·exact .inl rfl
   ·exact .inr (.inr ⟨by trivial,htp,n1 (Ne.symm hst')⟩)
   ·exact .inr (.inl (by trivial))
  ·rintro N' ⟨op',rfl,_⟩;rfl
  ·intro g N' Φ;exact .of (EvN.nm 6 (H.gn g))
  ·intro g N' Φ;exact .of (EvN.nm 7 (H.gn g))
  ·rw [hz7];exact slB _ _ _ (by trivial) (by lia)
  ·lia
  rintro lt1 _ us1 k1 g1 h10 t10 ys2 hx2 ⟨op1,rfl,hok1⟩ hg1 hu1 l N F10
  have F10:=F10.weaken (Φ':=λh=>IsTN h ls src∧IsTN h lt1 (ws src (2*i+1))) λh y=>⟨y.1.1,y.2⟩
  have H10:=H.gn g1
  have hy2:ys2.length=64:=by
   rw [hx2,List.length_append,List.length_append,nums_len hu1,e16',List.length_take,List.length_drop];lia
  refine asSl2 (c:=c.gn g1) (a:=some ((32+16*i:Nat):Int)) (b:=some ((32+(16*i+16):Nat):Int)) (A:=32+16*i) (B:=32+(16*i+16)) (zs:=ws src (2*i+2)) (xs:=ys2) (kk:=k1) (tg:=tg) 1 2 4 H10 F10
   (EvS.salsa (n:=4) (N0:=[(si,tiX ls (16*(2*i+1)+16))]) (wrOld:=[si]) (cl:=[]) (as:=ws src (2*i+1)) (bs:=src.drop (16*(2*i+1))) EMM.ek EMM.bi H10 (by decide) 0 rfl EMM.ct2 (by rfl) hok1 (by decide) e16' (by rw [List.length_drop];lia) (by simp) ?_
    (EvZ.tj (l1:=lt1) (l2:=ls) (kk:=16*(2*i+1)) 0 2 4 5 H10 EMM.zip (by rfl) (by rfl) (λh y=>y.2) (λh y=>y.1) e16' (by lia) (by rfl) (by rfl) hsi278 (by decide))
    (λop'=>[(151,op'),(tg,lobj ys2 k1),(si,tiX ls (16*(2*i+1)+16))]) (λop'=>rfl) ?_ (by rfl) (by decide) (by rfl) (by rfl) (by rfl) (by rfl) (by rfl) (by decide) (by decide) (by decide) (λ_=>by rfl) (λ_ _ _=>by rfl) (λ_ _ _=>by rfl) (by rfl) (by rfl) (by rfl))
   (by rfl) ?_ ?_ ?_ ?_ (by lia) ?_ (by rfl) ?_
  ·intro b hb
   rw [List.mem_singleton.mp hb]
   exact ⟨by trivial,hsp'⟩
  ·intro op' p hp
   revert p hp
   refine f3 ?_ ?_ ?_
   ·exact .inl rfl
   ·exact .inr (.inr ⟨by trivial,htp,n1 (Ne.symm hst')⟩)
   ·exact .inr (.inl (by trivial))
  ·rintro N' ⟨op',rfl,_⟩;rfl
  ·intro g N' Φ;exact .of (EvN.add (.nm 3 (H.gn g)) (.nm 6 (H.gn g)))
  ·intro g N' Φ;exact .of (EvN.add (.nm 3 (H.gn g)) (.nm 7 (H.gn g)))
  ·rw [hy2];exact slB _ _ _ (by lia) (by lia)
  ·lia
  rintro lt2 _ us2 k2 g2 h11 t11 ys3 hx3 ⟨op2,rfl,hok2⟩ hg2 hu2 l N F11
  have F11:=F11.weaken (Φ':=λh=>IsTN h ls src∧IsTN h lt2 (ws src (2*(i+1)))) λh y=>⟨y.1.1,y.2⟩
  refine asI (c:=c.gn g2) 6 (H.gn g2) F11 (EvN.nm (v:=16*i+16) 7 (H.gn g2)) (λuj2 h12 t12 F12=>?_)
  refine wpAny_execs_nil ⟨rfl,h12,t12,g2,op2,_,k2,lt2,uj2,_,rfl,(hg7.trans hg1).trans hg2,hok2,?_,F12⟩
  rw [hx3,hx2]
  exact hc7.step hi hsl (hu1.trans e16') (hu2.trans e16'')
 ·rintro s ⟨h7,t7,g7,op7,ys,k7,lt7,uj7,tw,rfl,hg7,hok7,hc7,F7⟩
  have H7:=H.gn g7
  refine EvT.run (c:=c.gn g7) (EvT.cast (EvT.lt (.nm 6 H7 (by rfl)) (.nm 3 H7 (by rfl))) (b:=false) (by rw [decide_eq_false_iff_not];lia)) F7 (λh8 t8 F8=>⟨rfl,?_⟩)
  obtain ⟨us,hu,rfl⟩:=hc7.fin hsl
  exact wpAny_execs_nil (hR _ h8 g7 t8 (F8.kept (Nat.le_refl _)) F8.size hg7 ⟨rfl,⟨op7,F8.new (i:=0) rfl,hok7⟩,us,k7,hu,F8.new (i:=1) rfl⟩)
end
end
section
structure EI (K:Frag) (mg mb:Str→Option Value):Prop where
 em:EM K mg mb
 call:FnM K 100 "__call__" "itemgetter.__call__" (arOf (sub 12 2)) (bdOf (sub 12 2)) (scOf (sub 12 2)) .none (.ref 99)
 init:FnM K 93 "__init__" "itemgetter.__init__" (arOf (sub 12 1)) (bdOf (sub 12 1)) (scOf (sub 12 1)) .none (.ref 92)
 slot:slotIn K 119 118=some 0
 find:findObj K 118 (some emptyDict) "_items"=some (.bind (.builtin "member_descriptor.__get__") (.ref 119))
 ga:findIn K (.ref 118) "__getattribute__"=some (some (.builtin "object.__getattribute__"))
 gattr:findIn K (.ref 118) "__getattr__"=some none
 callF:findIn K (.ref 118) "__call__"=some (some (.ref 100))
 fn:isFn K (.ref 100)=true
 fn':fnIn K 100=true
 len:mg "len"=none∧mb "len"=some (.builtin "len")
noncomputable abbrev igObj (tp dg:Addr):Obj:={ cls:=.ref 118,dict:=some dg,data:=.plain,slots:=#[some (.ref tp)] }
noncomputable def IgAt (h:Heap) (ig:Addr):Prop:=Ex3 λtp dg u=>An3 (h.get? ig=some (igObj tp dg)) (h.get? dg=some emptyDict) (h.get? tp=some (tobj [.int (-16) u]))
section
theorem ifS {test:Expr} {orelse:List Stmt} {b:Bool} (F:c.SS l N Φ h) (x:EvT c l N Φ test b) (hQ:∀h' t',c.SS l N Φ h'→c.wp (execs (if b then body else orelse) c.env) (λf s'=>match f with | .next=>c.wp (execs rest c.env) Q E s' | f=>Q f s') E (c.st h' t')) :
  c.wp (execs (.If test body orelse pos::rest) c.env) Q E (c.st h t):=by
 refine wpAny_execs_cons (wpAny_If (x _ (λ_ y=>y) h t _ _ F λh' t' F'=>?_))
 cases b<;>exact hQ h' t' F'
theorem EvF.igItems {ig:Addr} (EII:EI c.K c.mg c.mb) (H:c.Ok n) (he:EvV c l N Φ (.Name x px) (.ref ig)) (hs:∀h,Φ h→h.get? ig=some (igObj tp dg)∧h.get? dg=some emptyDict):EvV c l N Φ (.Attribute (.Name x px) "_items" pos) (.ref tp):=by
 intro Φ' k h t Q E F hQ
 refine PyProof.Rows.Attribute_name (he _ k h t _ _ F λh1 t1 F1=>?_)
 obtain ⟨e,e'⟩:=hs h1 (k _ F1.phi)
 refine get_bind (s:=c.st h1 t1) (od:=some emptyDict) (C:=118) (ox:=igObj tp dg) (H.W1 F1).k ⟨e,rfl,rfl,e'⟩ EII.ga EII.find EII.gattr ?_
 refine wpAny_call (slot_get (H.W1 F1).k ⟨e,rfl,rfl,e'⟩ (od:=some emptyDict) EII.slot (by rfl) ?_)
 exact handed_on rfl (hQ h1 _ F1)
theorem EvI.lenT (hl:c.mg "len"=none∧c.mb "len"=some (.builtin "len")) (H:c.Ok n) (he:EvV c l N Φ (.Name x xp) (.ref tp)) (hs:∀h,Φ h→h.get? tp=some (tobj ys)) (hz:ys.length≤100000)
  (kl:Glo c.env "len":=by rfl)
  (s1:Unst (.Name x xp) [] c.env:=by rfl)
  (hev:CallIs "len" np [.Name x xp] pos c.env:=by rfl) :
  EvN c l N Φ (.Call (.Name "len" np) [.Name x xp] [] pos) ys.length:=by
 intro Φ' k h t Q E F hQ
 refine PyProof.Rows.Call_ (bl H F hl.1 hl.2 (PyProof.Rows.callWith_builtin1 ?_ s1) kl (by decide)) hev
 rw [s1]
 refine spliced_cons (he _ k h t _ _ F λh1 t1 F1=>spliced_nil ?_)
 have e:=hs h1 (k _ F1.phi)
 refine PyProof.Rows.len_tuple (items:=ys.toArray) ⟨_,e,rfl,_,rfl⟩ (by rw [List.size_toArray];lia) ?_
 rw [List.size_toArray]
 exact hQ _ h1 _ F1
theorem EvV.itemT (he:EvV c l N Φ (.Name x xp) (.ref tp)) (hi:EvI c l N Φ e (j:Int)) (hs:∀h,Φ h→h.get? tp=some (tobj ys)) (hj:ys[j]?=some v) (hz:ys.length≤100000)
  (hss:∀t u,subscripted e false (.ref t) (.int (j:Int) u)=operate [.ref t,.int (j:Int) u] (getItem (.ref t) (.int (j:Int) u)):=by intro _ _;with_unfolding_all rfl):EvV c l N Φ (.Subscript (.Name x xp) e pos) v:=by
 intro Φ' k h t Q E F hQ
 refine PyProof.Rows.Subscript_ (he _ k h t _ _ F λh1 t1 F1=>hi _ k h1 t1 _ _ F1 λu h2 t2 F2=>?_)
 have e2:=hs h2 (k _ F2.phi)
 have hjl:j<ys.length:=(List.getElem?_eq_some_iff.mp hj).1
 refine PyProof.Rows.item_tupleL (l:=ys) (j:=j) ⟨_,e2,rfl,_,rfl⟩ (by trivial) (by lia) ?_ hj (hQ h2 t2 F2) (hss tp u)
 unfold seqIndex?
 have h1:¬ ((j:Int)<0):=by lia
 have h2:(0≤(j:Int) && (j:Int)<(ys.length:Int))=true:=by rw [Bool.and_eq_true,decide_eq_true_eq,decide_eq_true_eq];lia
 simp only [h1,if_false]
 rw [if_pos h2,Int.toNat_natCast]
end
section
theorem ig_call (EII:EI K mg mb) {ig:Addr} {x:Nat} (hi:IgAt h ig) (hb:h.get? bf=some (lobj (nums xs us) k)) (hu:us.length=xs.length) (hx:xs[xs.length - 16]?=some x) (h16:16≤xs.length) (hz:xs.length≤1000) :
  FnAt prog w K mg mb 2 100 ⟨[.ref ig,.ref bf],[]⟩ h (NatR x):=by
 intro A g d t o R hA W hR
 obtain ⟨tp,dg,u,hi1,hi3,hi2⟩:=hi
 refine enterM0 (n:=1) (binds:=[("self",.ref ig),("obj",.ref bf)]) ["self","obj","items","result","item"] [] [] [] EII.call hA W EII.em.ek.dom
  (λpm doc=>by kernel_rfl) (by kernel_rfl) (by kernel_rfl) (by trivial) (by simp) (by trivial) (by kernel_rfl) ?_
 intro h₁ t₁
 intro c l N Q QB H H0 F
 refine bindsL 0 H0 F ?_
 intro h2 t2 l F
 refine bindsL 1 H0 F ?_
 intro h2 t2 l F
 refine bindsNil ⟨h2,t2,_,_,rfl,F,?_⟩
 have F:=((((F.knowOld hi1 (λq=>nomatch q) (λq=>nomatch q) (Nat.le_refl _)).knowOld hi3 (λq=>nomatch q) (λq=>nomatch q) (Nat.le_refl _)).knowOld hi2 (λq=>nomatch q) (λq=>nomatch q) (Nat.le_refl _)).knowOld hb (λq=>nomatch q) (λq=>nomatch q) (Nat.le_refl _)).weaken (Φ':=λh=>(h.get? ig=some (igObj tp dg)∧h.get? dg=some emptyDict)∧h.get? tp=some (tobj [.int (-16) u])∧h.get? bf=some (lobj (nums xs us) k)) λh y=>⟨⟨y.1.1.1.2,y.1.1.2⟩,y.1.2,y.2⟩
 refine asV 2 H F (EvF.igItems EII H (.nm 0 H rfl) λh y=>y.1) ?_
 intro h3 t3 l F3
 refine ifS F3 (b:=true) (EvT.cast (EvT.eq (EvI.lenT (ys:=[.int (-16) u]) EII.len H (.nm 2 H rfl) (λh y=>y.2.1) (by simp)) .const) (by trivial)) (λh4 t4 F4=>?_)
 refine retR F4 (P:=NatR x) (EvR.itemI (R:=NatR) (xs:=xs) (k := -16) (EvV.toRP (.nm 1 H rfl) λh y=>⟨bf,nums xs us,k,rfl,y.2.2,?_⟩) (EvV.toI (v := -16) (u:=u) (EvV.itemT (j:=0) (ys:=[.int (-16) u]) (.nm 2 H rfl) .const (λh y=>y.2.1) rfl (by simp))) (xs.length - 16) (.inr (by lia)) hx (by trivial)) ?_
 ·exact ints_of (by simp [hu])
 intro v h' t' F'
 obtain ⟨u',rfl⟩:=F'.phi.2
 exact hR _ h' t' (F'.growth rfl (Nat.le_refl _)) λ_ _=>⟨u',rfl⟩
end
end
section
namespace St
open Builtin Builtin.Bytes Builtin.Struct
theorem plain:PlainAttrs "_struct.Struct":=⟨⟨"_struct.Struct.__getattribute__",by rw [typeLookup_type,builtinLookup_eq_fast];kernel_rfl,by decide +kernel⟩,by rw [typeLookup_type,builtinLookup_eq_fast];kernel_rfl⟩
theorem slot:Slot "_struct.Struct" "unpack" "_struct.Struct.unpack" :=
 .of (owner:="_struct.Struct") (n:="unpack") (by rw [typeLookup_type,builtinLookup_eq_fast];kernel_rfl) (by decide +kernel) (by decide +kernel) (by decide +kernel)
  (by first | exact .inl (by decide +kernel) | exact .inr (by decide +kernel)) (by rw [isSubtype_type];kernel_rfl)
theorem type_eq:typeOf (.builtin "_struct.Struct.unpack")=pure (.type "method_descriptor"):=by show builtinType _=_;rw [builtinType_eq_fast];kernel_rfl
theorem entry:entryFor table "_struct.Struct.unpack"=some Builtin.«_struct.Struct.unpack»:=entryFor_of_fast (by kernel_rfl)
theorem args (a b:Value):argsOk "_struct.Struct.unpack" ⟨[a,b],[]⟩:=by unfold argsOk;kernel_rfl
theorem slotP:SlotG "_struct.Struct" "pack" "_struct.Struct.pack" :=
 .of (owner:="_struct.Struct") (n:="pack") (by rw [typeLookup_type,builtinLookup_eq_fast];kernel_rfl) (by decide +kernel) (by decide +kernel) (by decide +kernel)
  (by first | exact .inl (by decide +kernel) | exact .inr (by decide +kernel)) (by rw [isSubtype_type];kernel_rfl)
theorem type_eqP:typeOf (.builtin "_struct.Struct.pack")=pure (.type "method_descriptor"):=by show builtinType _=_;rw [builtinType_eq_fast];kernel_rfl
theorem entryP:entryFor table "_struct.Struct.pack"=some Builtin.«_struct.Struct.pack»:=entryFor_of_fast (by kernel_rfl)
noncomputable def fmt (r:Nat):List UInt8:=if r=1 then [60,51,50,73] else [60,54,52,73]
noncomputable def fm (r:Nat):Format:={ bigEndian:=false,native:=false,codes:=[⟨'I',32*r,0,4⟩],size:=128*r,items:=32*r }
theorem parse_eq (h:r=1∨r=2):parse (fmt r).toArray=pure (fm r):=by
 rcases h with rfl | rfl
 ·kernel_rfl
 ·kernel_rfl
noncomputable def StAt (h:Heap) (st:Addr) (r:Nat):Prop:=∃t,h.get? st=some { cls:=.type "_struct.Struct",data:=.fields #[.bytes (fmt r).toArray t] }
section
theorem format_run {st:Addr} {Q:Array UInt8×Format→Shared→Prop} (hr:r=1∨r=2) (h:StAt s.heap st r) (hQ:Q ((fmt r).toArray,fm r) s):wpAny M A (structFormat (.ref st)) Q E s:=by
 obtain ⟨t,h⟩:=h
 unfold structFormat
 refine wpAny_bind (wpAny_field h rfl (x:=.bytes (fmt r).toArray t) rfl ?_)
 rw [if_neg (show ¬ ((Value.bytes (fmt r).toArray t == Value.none)=true) from Bool.false_ne_true)]
 refine wpAny_bind (m:=payload (.bytes (fmt r).toArray t)) (wpAny_of_eq (a:=(fmt r).toArray) rfl ?_)
 refine wpAny_bind (wpAny_of_eq (parse_eq hr) (wpAny_pure hQ))
theorem forIn_list {β:Type} {Inv:Nat→β→Shared→Prop} {f:Nat→β→Sem (ForInStep β)} {Q:β→Shared→Prop}
  (turn:∀k b s,k<m→Inv k b s→wpAny M A (f k b) (λr s'=>∃b',r = .yield b'∧Inv (k+1) b' s') E s) (fin:∀b s,Inv m b s→Q b s) :
  ∀(n k:Nat) (b:β) (s:Shared),k+n=m→Inv k b s→wpAny M A (forIn (List.range' k n 1) b f) Q E s
 | 0,k,b,s,e,h=>by
  rw [List.range'_zero,List.forIn_nil]
  have:k=m:=e
  subst this
  exact wpAny_pure (fin b s h)
 | n+1,k,b,s,e,h=>by
  rw [List.range'_succ,List.forIn_cons]
  refine wpAny_bind (wpAny_mono (turn k b s (by lia) h) (λr s' hr=>?_) λ_ _ x=>x)
  obtain ⟨b',rfl,h'⟩:=hr
  exact forIn_list turn fin n (k+1) b' s' (by lia) h'
theorem forIn_range {β:Type} (Inv:Nat→β→Shared→Prop) {f:Nat→β→Sem (ForInStep β)} {init:β} {Q:β→Shared→Prop} (h0:Inv 0 init s)
  (turn:∀k b s,k<m→Inv k b s→wpAny M A (f k b) (λr s'=>∃b',r = .yield b'∧Inv (k+1) b' s') E s) (fin:∀b s,Inv m b s→Q b s) :
  wpAny M A (forIn [:m] init f) Q E s:=by
 rw [Std.Legacy.Range.forIn_eq_forIn_range']
 have e:([:m]:Std.Legacy.Range).size=m:=by simp [Std.Legacy.Range.size]
 rw [e]
 exact forIn_list turn fin m 0 init s (Nat.zero_add m) h0
theorem le_foldr:∀l:List UInt8,l.foldr (λ(c:UInt8) (n:Nat)=>n*256+c.toNat) 0=leN l
 | []=>rfl
 | c::l=>by
  unfold leN beN
  rw [List.reverse_cons,List.foldl_append,List.foldr_cons,le_foldr l]
  rfl
theorem natOf_eq (raw:Array UInt8):natOf false raw=leN raw.toList:=by
 unfold natOf
 rw [if_neg (by decide)]
 unfold Memoryview.littleEndian
 rw [←Array.foldr_toList,le_foldr]
theorem extract_cut (bs:List UInt8) (a b:Nat) (h:b≤bs.length):(bs.toArray.extract a b).toList=cut bs a b:=by
 unfold cut
 rw [Array.toList_extract,List.extract_eq_take_drop]
theorem unpacked_run {Q:VQ} (hr:r=1∨r=2) (hb:bs.length=128*r)
  (hQ:∀us k',us.length=32*r→Q (.ref s.heap.objs.size) { s with heap:=s.heap.push (tobj (nums ((List.range (32*r)).map (lword bs)) us)),toks:=k' }):wpAny M A (Struct.unpacked "_struct.Struct.unpack" (fm r) bs.toArray 0) Q E s:=by
 unfold Struct.unpacked fm
 dsimp only
 rw [List.forIn_cons]
 refine wpAny_bind (wpAny_bind ?_)
 have hnl:¬ (tooLong (32*r)=true):=or2 hr (by decide) (by decide)
 show wpAny M A (if tooLong (32*r)=true then _ else _) _ _ _
 rw [if_neg hnl]
 refine wpAny_bind (forIn_range (λk (out:Array Value) s'=>Ex2 λus k'=>An3 (us.length=k) (out.toList=nums ((List.range k).map (lword bs)) us) (s'={ s with toks:=k' })) ⟨[],s.toks,rfl,rfl,rfl⟩ ?_ ?_)
 ·rintro k out s' hk ⟨us,k',hu,ho,rfl⟩
  show wpAny M A (mkInt (if (Char.isLower 'I' && decide (natOf false (bs.toArray.extract (0+0+k*4) (0+0+(k+1)*4)) ≥ 2 ^ (8*4 - 1)))=true then _ else ((natOf false (bs.toArray.extract (0+0+k*4) (0+0+(k+1)*4)):Nat):Int)) >>= _) _ _ _
  rw [if_neg (by rw [show Char.isLower 'I'=false by decide];simp)]
  refine wpAny_bind (wpAny_mkInt (wpAny_pure ⟨_,rfl,us++[k'],k'+1,by simp [hu],?_,rfl⟩))
  rw [natOf_eq,extract_cut _ _ _ (by lia),Array.toList_push,ho,List.range_succ,List.map_append,nums_app (by simp [hu])]
  rw [show 0+0+k*4=4*k by lia,show 0+0+(k+1)*4=4*k+4 by lia]
  rfl
 ·rintro out s' ⟨us,k',hu,ho,rfl⟩
  refine wpAny_pure ?_
  dsimp only
  rw [List.forIn_nil]
  refine wpAny_pure ?_
  rw [ho]
  refine wpAny_newTuple (hQ us k' hu) ?_
  have hu':us.length=32*r:=hu
  refine Nat.le_trans (m:=100000) ?_ (by decide)
  simp only [nums,List.length_zipWith,List.length_map,List.length_range,hu']
  lia
theorem intBytes_eq (x:Nat) (h:x<2 ^ 32):(intBytes false 4 (x:Int)).toList=toLE 4 x:=by
 unfold intBytes
 rw [if_neg (by decide)]
 unfold Memoryview.toLittleEndian
 have:((x:Int) % 2 ^ (8*4)).toNat=x:=by lia
 rw [this]
 show (((List.range 4).map λk=>(x / 256 ^ k % 256).toUInt8).toArray).toList=_
 simp only [List.range,List.range.loop,List.map_cons,List.map_nil]
 show [(x / 256 ^ 0 % 256).toUInt8,(x / 256 ^ 1 % 256).toUInt8,(x / 256 ^ 2 % 256).toUInt8,(x / 256 ^ 3 % 256).toUInt8]=_
 simp only [toLE]
 have e1:x / 256 ^ 0=x:=by lia
 have e2:x / 256 ^ 2=x / 256 / 256:=by rw [Nat.div_div_eq_div_mul]
 have e3:x / 256 ^ 3=x / 256 / 256 / 256:=by rw [Nat.div_div_eq_div_mul,Nat.div_div_eq_div_mul]
 rw [e1,e2,e3,Nat.pow_one]
theorem place_eq (P:Array UInt8→Nat→Array UInt8→Array UInt8) (hP:∀out p raw,P out p raw=raw.toList.zipIdx.foldl (λout (x:UInt8×Nat)=>out.setIfInBounds (p+x.2) x.1) out) (done:List UInt8) (m:Nat) (raw:Array UInt8) (hr:raw.size=4) (out:Array UInt8)
  (ho:out.toList=done++List.replicate (4+m) 0):(P out done.length raw).toList=done++raw.toList++List.replicate m 0:=by
 rw [hP]
 obtain ⟨raw⟩:=raw
 match raw,hr with
 | [a,b,c,d],_ =>
  simp only [List.zipIdx,List.foldl_cons,List.foldl_nil,Array.toList_setIfInBounds,ho]
  have e:List.replicate (4+m) (0:UInt8)=0::0::0::0::List.replicate m 0:=by
   rw [Nat.add_comm];rfl
  rw [e]
  have s:∀(l:List UInt8) (j:Nat) (v:UInt8),(done++l).set (done.length+j) v=done++l.set j v:=λl j v=>by
   rw [List.set_append_right _ _ (by trivial)]
   congr 2;lia
  rw [s,s,s,s]
  simp
noncomputable def wpack (xs:List Nat):List UInt8:=(xs.map (toLE 4)).flatten
theorem wpack_len:∀xs:List Nat,(wpack xs).length=4*xs.length
 | []=>rfl
 | x::xs=>by
  have:=wpack_len xs
  unfold wpack at this ⊢
  rw [List.map_cons,List.flatten_cons,List.length_append,this,toLE_length,List.length_cons];lia
theorem pack_turn (P:Array UInt8→Nat→Array UInt8→Array UInt8) (hP:∀out p raw,P out p raw=raw.toList.zipIdx.foldl (λout (x:UInt8×Nat)=>out.setIfInBounds (p+x.2) x.1) out) (hx:xs.length=32*r) (hb:∀x∈xs,x<2 ^ 32) (hu:us.length=xs.length) (hk:k<32*r)
  (O:Value→Sem (Array UInt8)) (hO:∀(x:Nat) u (Q:Array UInt8→Shared→Prop),x<2 ^ 32→Q (intBytes false 4 (x:Int)) s→wpAny M A (O (.int (x:Int) u)) Q E s) {b:Array UInt8×List Value} (h1:b.1.toList=wpack (xs.take k)++List.replicate (128*r - 4*k) 0) (h2:b.2=(nums xs us).drop k) :
  wpAny M A (match b.2 with
   | x::more=>do
    let y←O x
    let state←pure (P b.1 (0+k*4) y)
    pure (ForInStep.yield (state,more))
   | _=>do
    unsupported (toString "internal:"++toString "_struct.Struct.pack")
    pure (ForInStep.yield (b.1,b.2))) (λr' s'=>∃b',r' = .yield b'∧b'.1.toList=wpack (xs.take (k+1))++List.replicate (128*r - 4*(k+1)) 0∧b'.2=(nums xs us).drop (k+1)∧s'=s) E s:=by
 have hkx:k<xs.length:=by lia
 have hlen:(nums xs us).length=xs.length:=by simp [hu]
 have e:(nums xs us).drop k=(nums xs us)[k]::(nums xs us).drop (k+1):=List.drop_eq_getElem_cons (by lia)
 have ev:(nums xs us)[k] = .int (xs[k]:Int) us[k]:=by simp [nums]
 rw [h2,e,ev]
 refine wpAny_bind (hO _ _ _ (hb _ (List.getElem_mem hkx)) (wpAny_bind (wpAny_pure (wpAny_pure ⟨_,rfl,?_,rfl,rfl⟩))))
 have hw:(wpack (xs.take k)).length=4*k:=by rw [wpack_len,List.length_take];lia
 have h4:(intBytes false 4 ((xs[k]:Nat):Int)).size=4:=by rw [←Array.length_toList,intBytes_eq _ (hb _ (List.getElem_mem hkx)),toLE_length]
 have pe:=place_eq P hP (wpack (xs.take k)) (128*r - 4*(k+1)) (intBytes false 4 ((xs[k]:Nat):Int)) h4 b.1 (by rw [h1];congr 2;lia)
 rw [hw,show 4*k=0+k*4 by lia] at pe
 rw [pe,intBytes_eq _ (hb _ (List.getElem_mem hkx))]
 congr 1
 rw [List.take_succ,List.getElem?_eq_getElem hkx]
 unfold wpack
 rw [List.map_append,List.flatten_append]
 simp
theorem packed_run {Q:PySem.Fin→Shared→Prop} (hr:r=1∨r=2) (hx:xs.length=32*r) (hb:∀x∈xs,x<2 ^ 32) (hu:us.length=xs.length)
  (hQ:∀t' k',Q (.done (.ret (.bytes (wpack xs).toArray t'))) { s with toks:=k' }):wpAny M A (Struct.packed "_struct.Struct.pack" "pack" (fm r) (nums xs us)) Q E s:=by
 unfold Struct.packed fm
 dsimp only
 have hlen:(nums xs us).length=32*r:=by simp [hu,hx]
 rw [if_neg (by rw [hlen];simp),if_neg (by exact or2 hr (by decide) (by decide))]
 unfold packEach
 dsimp only
 rw [List.forIn_cons]
 refine wpAny_bind (wpAny_bind (wpAny_bind ?_))
 rw [if_neg (show ¬ (('I' == 'x')=true) by decide),if_neg (show ¬ (('I' == 's' || 'I' == 'p')=true) by decide)]
 refine wpAny_bind (forIn_range (λk (b:Array UInt8×List Value) s'=>b.1.toList=wpack (xs.take k)++List.replicate (128*r - 4*k) 0∧b.2=(nums xs us).drop k∧s'=s) ⟨by simp [wpack],rfl,rfl⟩ ?_ ?_)
 ·rintro k b s' hk ⟨h1,h2,rfl⟩
  have hk:k<32*r:=hk
  refine wpAny_mono (pack_turn _ (λ_ _ _=>rfl) hx hb hu hk _ ?_ h1 h2) (λr' s' h=>h) λ_ _ x=>x
  intro x u Q' hx' hq
  refine wpAny_bind (wpAny_of_eq (a:=.ok (x:Int)) rfl ?_)
  dsimp only
  refine wpAny_bind (wpAny_pure ?_)
  have hc:¬ ((decide ((x:Int)<if Char.isLower 'I'=true then -2 ^ (8*4 - 1) else 0) || decide ((x:Int)>(if Char.isLower 'I'=true then 2 ^ (8*4 - 1) else 2 ^ (8*4)) - 1))=true):=by
   rw [if_neg (show ¬ (Char.isLower 'I'=true) by decide),if_neg (show ¬ (Char.isLower 'I'=true) by decide)]
   simp only [Bool.or_eq_true,decide_eq_true_eq,not_or]
   lia
  rw [if_neg hc]
  exact wpAny_pure hq
 ·rintro b s' ⟨h1,h2,rfl⟩
  refine wpAny_pure ?_
  dsimp only
  rw [List.forIn_nil]
  refine wpAny_pure (wpAny_pure ?_)
  dsimp only at h1 ⊢
  have e:b.1=(wpack xs).toArray:=by
   apply Array.ext'
   rw [h1,List.take_of_length_le (by lia)]
   simp
   lia
  rw [e]
  have hw:=wpack_len xs
  refine wpAny_bind (wpAny_mkBytes (wpAny_pure (hQ _ _)) ?_)
  rw [List.size_toArray,hw]
  exact Nat.le_trans (m:=100000) (by lia) (by decide)
end
section
theorem call_unpack {st:Addr} {t:Tok} {Q:VQ} (hr:r=1∨r=2) (h:StAt s.heap st r) (hb:bs.length=128*r)
  (hQ:∀us k',us.length=32*r→Q (.ref s.heap.objs.size) { s with heap:=s.heap.push (tobj (nums ((List.range (32*r)).map (lword bs)) us)),toks:=k' }) :
  wpAny (model prog w) A (call (.builtin "_struct.Struct.unpack") [.ref st,.bytes bs.toArray t]) Q E s:=by
 have h':=h
 obtain ⟨tt,h'⟩:=h'
 refine wpAny_call_entry slot ⟨_,h',rfl⟩ entry ?_ (args _ _)
 unfold Builtin.«_struct.Struct.unpack»
 refine wpAny_bind (wpAny_of_eq (a:=(.ref st,.bytes bs.toArray t)) rfl ?_)
 dsimp only
 unfold unpackExact
 refine wpAny_bind (wpAny_of_eq (a:=bs.toArray) (by kernel_rfl) ?_)
 refine wpAny_bind (wpAny_bind (format_run hr h (wpAny_pure ?_)))
 have hn:¬ ((bs.toArray.size != (fm r).size)=true):=by
  rw [List.size_toArray,hb];simp [fm]
 dsimp only
 rw [if_neg hn]
 exact wpAny_bind (unpacked_run hr hb λus k' hu=>wpAny_pure ⟨_,rfl,hQ us k' hu⟩)
end
end St
end
section
structure GWalk (prog:Program) (w:World) (A:Around) (I D:Addr) (n:Nat) (St Fin:List Value→Shared→Prop):Prop where
 typ:∀ys s,St ys s→s.TypeIs (.ref I) "generator"
 frame:∀ys (s:Shared) h',St ys s→h'.objs.size=s.heap.objs.size→(∀b o,b≠D→s.heap.get? b=some o→h'.get? b=some o)→(Ex2 λzs k=>h'.get? D=some (lobj zs k))→St ys { s with heap:=h' }
 item:∀ys (s:Shared) (Q:Option Value→Shared→Prop) (E:VQ),ys.length<n→St ys s →
  (∀v s',St (ys++[v]) s'→(∀o,s.heap.get? D=some o→s'.heap.get? D=some o)→Q (some v) s')→wpAny (model prog w) A (pyNext (.ref I)) Q E s
 done:∀ys (s:Shared) (Q:Option Value→Shared→Prop) (E:VQ),ys.length=n→St ys s →
  (∀s',Fin ys s'→(∀o,s.heap.get? D=some o→s'.heap.get? D=some o)→Q none s')→wpAny (model prog w) A (pyNext (.ref I)) Q E s
 self:∀ys (s:Shared) (Q:VQ) (E:VQ),St ys s→Q (.ref I) s→wpAny (model prog w) A (pyIter (.ref I)) Q E s
section
variable {St Fin:List Value→Shared→Prop}
theorem extendLoopW (W:GWalk prog w A.in1 I D n St Fin) (hn:n≤100000) (res:Value):∀(k:Nat) (ys:List Value) (s:Shared) (c:Nat),ys.length+k=n→St ys s→s.heap.get? D=some (lobj ys c) →
  (∀s' ys' c',ys'.length=n→Fin ys' s'→s'.heap.get? D=some (lobj ys' c')→R (.ok (.ret res)) s') →
  codeAny (model prog w) A (.builtin "list.extend.loop" ⟨[.ref D,.ref I,res],[]⟩) R s
 | 0,ys,s,c,hk,hst,hD,hR=>by
  refine codeAny_builtin F.entry_extend_loop ?_
  rw [Around.under_plainId F.plain_extend_loop _]
  show wpAny _ A.in1 (pyNext (.ref I) >>= _) _ _ s
  refine wpAny_bind (W.done ys s _ _ hk hst λs' hf hd=>?_)
  exact wpAny_pure (hR s' ys c hk hf (hd _ hD))
 | k+1,ys,s,c,hk,hst,hD,hR=>by
  refine codeAny_builtin F.entry_extend_loop ?_
  rw [Around.under_plainId F.plain_extend_loop _]
  show wpAny _ A.in1 (pyNext (.ref I) >>= _) _ _ s
  refine wpAny_bind (W.item ys s _ _ (by lia) hst λv s' hst' hd=>?_)
  have hS':=hd _ hD
  have hD':(s'.heap.update D (Obj.mapSeq (·.push v))).get? D=some (lobj (ys++[v]) (c+1)):=by
   rw [Heap.get?_update_self _ hS' rfl,PyProof.Rows.mapSeq_push]
   simp
  show wpAny _ A.in1 (updateSeq D (·.push v) >>= _) _ _ _
  refine wpAny_bind ?_
  refine wpAny_updateSeq hS' rfl (wpAny_pure ⟨plainId_quiet F.plain_extend_loop _,extendLoopW W hn res k (ys++[v]) _ (c+1) (by simp;lia) (W.frame _ s' _ hst' (Heap.size_after_update ..) (λb o hb e=>?_) ⟨_,_,hD'⟩) hD' hR⟩) ?_ ?_
  ·exact (Heap.get?_update_other _ _ (λh:D=b=>hb h.symm)).trans e
  ·rw [List.size_toArray];exact Nat.le_trans (m:=100000) (by lia) (by decide)
  ·rw [Array.size_push,List.size_toArray];exact Nat.le_trans (m:=100001) (by lia) (by decide)
theorem extendW (W:GWalk prog w A.in1 I D n St Fin) (hn:n≤100000) (res:Value) {c₀:Nat} (hne:D≠I) (hst:St [] s) (hS:s.heap.get? D=some (lobj [] c₀))
  (hR:∀s' ys' c',ys'.length=n→Fin ys' s'→s'.heap.get? D=some (lobj ys' c')→R (.ok (.ret res)) s') :
  wpAny (model prog w) A.in1 (Builtin.List.listExtendWith (.ref D) (.ref I) res)
   (λfin s'=>match fin with | .done f=>R (.ok f) s' | .again c'=>c'.quiet=true∧codeAny (model prog w) A c' R s') (λe s'=>R (.error e) s') s:=by
 unfold Builtin.List.listExtendWith
 refine wpAny_bind (wpAny_typeOf (W.typ [] _ hst) ?_)
 have h1:Builtin.List.listSameRef (.ref D) (.ref I)=false:=by simp [Builtin.List.listSameRef,hne]
 have h2:(Value.type "generator" == Value.type "list")=false:=by decide
 have h3:(Value.type "generator" == Value.type "tuple")=false:=by decide
 simp only [h1,h2,h3,Bool.or_false,Bool.false_eq_true,if_false]
 refine wpAny_bind (W.self [] _ _ _ hst ?_)
 refine wpAny_bind (wpAny_holding ?_)
 unfold Builtin.List.listLengthHint
 refine wpAny_bind (wpAny_specialOf (W.typ [] _ hst) F.gen_no_len ?_)
 show wpAny _ A.in1 (specialOf (Value.ref I) (Str.ofString "__length_hint__") >>= _) _ _ _
 refine wpAny_bind (wpAny_specialOf (W.typ [] _ hst) F.gen_no_hint ?_)
 refine wpAny_pure ?_
 show wpAny _ A.in1 (rule "list.extend.makes-room" >>= λ_=>Builtin.List.listTouch (.ref D) >>= λ_ =>
  again (.builtin "list.extend.loop" ⟨[.ref D,.ref I,res],[]⟩)) _ _ _
 refine wpAny_bind (wpAny_rule ?_)
 refine wpAny_bind ?_
 show wpAny _ A.in1 (updateSeq D (·.push .none) >>= λ_=>updateSeq D (·.pop)) _ _ _
 refine wpAny_bind (wpAny_updateSeq hS rfl ?_)
 have hS₂:=Heap.get?_update_self (Obj.mapSeq (·.push Value.none)) hS rfl
 refine wpAny_updateSeq (hz:=by seq_fits) hS₂ rfl ?_
 have hS₃:=Heap.get?_update_self (Obj.mapSeq (·.pop)) hS₂ rfl
 have oth:∀b o,b≠D→s.heap.get? b=some o→((s.heap.update D (Obj.mapSeq (·.push Value.none))).update D (Obj.mapSeq (·.pop))).get? b=some o :=
  λb o hb e=>(Heap.get?_update_other _ _ (Ne.symm hb)).trans ((Heap.get?_update_other _ _ (Ne.symm hb)).trans e)
 refine wpAny_pure ⟨plainId_quiet F.plain_extend_loop _,extendLoopW W hn res n [] _ _ (by simp) (W.frame [] s _ hst (by rw [Heap.size_after_update,Heap.size_after_update]) oth ⟨[],_,hS₃⟩) hS₃ hR⟩
theorem call_listW {Q:VQ} (hlt:I<s.heap.objs.size) (W:GWalk prog w A.in1.in1 I s.heap.objs.size n St Fin) (hn:n≤100000)
  (hst:St [] { s with heap:=s.heap.push (lobj [] 0) })
  (hQ:∀s' ys c',ys.length=n→Fin ys s'→s'.heap.get? s.heap.objs.size=some (lobj ys c')→Q (.ref s.heap.objs.size) s'):wpAny (model prog w) A (call (.type "list") [.ref I]) Q E s:=by
 refine callType_codes (Q₁:=λobj s₁=>obj = .ref s.heap.objs.size∧s₁={ s with heap:=s.heap.push { cls:=.type "list",data:=.seq #[] } }) F.called_list (F.typeCall_list_1 _) F.entry_list_init
  (code_list_new _ ⟨rfl,rfl⟩) λobj s₁ h₁=>?_
 obtain ⟨rfl,rfl⟩:=h₁
 have hS:(s.heap.push (lobj [] 0)).get? s.heap.objs.size=some (lobj [] 0):=Heap.get?_push_size _ rfl
 refine ⟨⟨_,hS,rfl⟩,F.args_list_init_2 _ _,?_⟩
 show wpAny _ A.in1.in1 (do let old←Builtin.List.listItems (.ref s.heap.objs.size);Builtin.List.listUpdate (.ref s.heap.objs.size) (λ_=>#[]);letGo old.toList.reverse;Builtin.List.listExtendWith (.ref s.heap.objs.size) (.ref I) .none) _ _ _
 refine wpAny_bind ?_
 unfold Builtin.List.listItems
 refine wpAny_bind (wpAny_seqItems hS rfl (wpAny_pure ?_))
 show wpAny _ A.in1.in1 (updateSeq s.heap.objs.size (λ_=>#[]) >>= λ_=>letGo (#[]:Array Value).toList.reverse >>= λ_=>Builtin.List.listExtendWith (.ref s.heap.objs.size) (.ref I) .none) _ _ _
 refine wpAny_bind (wpAny_updateSeq hS rfl ?_)
 have hS₂:=Heap.get?_update_self (Obj.mapSeq (λ_=>(#[]:Array Value))) hS rfl
 have oth:∀b o,b≠s.heap.objs.size→(s.heap.push (lobj [] 0)).get? b=some o→((s.heap.push (lobj [] 0)).update s.heap.objs.size (Obj.mapSeq (λ_=>(#[]:Array Value)))).get? b=some o :=
  λb o hb e=>(Heap.get?_update_other _ _ (Ne.symm hb)).trans e
 refine wpAny_bind (wpAny_letGo ?_)
 exact extendW (R:=λr s'=>wants (λr s₂=>r = .none∧Q (.ref s.heap.objs.size) s₂) E r s') (A:=A.in1) W hn .none (neA (Nat.ne_of_gt hlt)) (W.frame [] _ _ hst (Heap.size_after_update ..) oth ⟨[],_,hS₂⟩) hS₂ (λs' ys' c' hl hf hd=>⟨rfl,hQ s' ys' c' hl hf hd⟩)
end
end
section
noncomputable abbrev gz (s:Shared):Nat:=s.gens.size
theorem runs_gz {Γ:Ctx} {p:Pos} {t:Sem Fin} {fs:List Frame} {e:End} (h:Runs M Γ p t fs s e s'):s.gens.size≤s'.gens.size:=by
 induction h<;>(try simp only [Shared.setGen,Array.size_push,Array.size_setIfInBounds] at *)<;>lia
theorem returns_gz {Γ:Ctx} {p:Pos} {r:Result} (h:Returns M Γ p s r s'):s.gens.size≤s'.gens.size:=runs_gz h
theorem wakes_gz {Γ:Ctx} {p:Pos} {g:Nat} {r:Resume} {res:GenResult} (h:Wakes M Γ p g r s res s'):s.gens.size≤s'.gens.size:=by
 have z:∀(s:Shared) (x:GenState),(s.setGen g x).gens.size=s.gens.size:=λs x=>by simp [Shared.setGen]
 unfold Wakes at h
 split at h
 ·exact h.elim
 ·split at h
  ·obtain ⟨e₁,s₁,hr,_,_,rfl⟩:=h;have:=runs_gz hr;rw [z] at this ⊢;exact this
  ·rw [h.2];first | exact Nat.le_refl _ | (rw [z];exact Nat.le_refl _)
  ·rw [h.2];first | exact Nat.le_refl _ | (rw [z];exact Nat.le_refl _)
 ·obtain ⟨e₁,s₁,hr,_,_,rfl⟩:=h;have:=runs_gz hr;rw [z] at this ⊢;exact this
 ·rw [h.2];exact Nat.le_refl _
 ·rw [h.2];exact Nat.le_refl _
theorem wp_gz {α:Type} (M:Model) (Γ:Ctx) (n:Nat) (t:Sem α):∀(Q:α→Pos→Shared→Prop) (E:Value→Pos→Shared→Prop) (p:Pos) (s:Shared),n≤gz s→Sem.wp M Γ t Q E p s →
  Sem.wp M Γ t (λa p' s'=>n≤gz s'∧Q a p' s') (λe p' s'=>n≤gz s'∧E e p' s') p s:=by
 induction t with
 | pure | raise=>intro Q E p s hn h;exact ⟨hn,h⟩
 | unsupported | finish | register | yield | fork | await=>intro Q E p s _ h;exact h
 | rule _ k ih | «at» _ k ih | point _ k ih | ask k ih | thread k ih | handled _ k ih | stack k ih | loadIfAlive _ k ih | fresh k ih | os _ _ k ih=>intro Q E p s hn h;exact ih _ Q E _ _ hn h
 | newGen _ k ih=>intro Q E p s hn h;exact ih _ Q E _ _ (by show n≤(s.gens.push _).size;rw [Array.size_push];exact Nat.le_succ_of_le hn) h
 | alloc o k ih=>intro Q E p s hn h;exact ih _ Q E p _ hn h
 | load a _ k ih | genState g k ih=>intro Q E p s hn h;obtain ⟨o,ho,h⟩:=h;exact ⟨o,ho,ih _ Q E p s hn h⟩
 | update a _ f k ih=>intro Q E p s hn h;exact ⟨h.1,ih () Q E p _ hn h.2⟩
 | choose src m k ih=>intro Q E p s hn h;exact ⟨h.1,ih _ Q E p _ hn h.2⟩
 | call c hd _ _ k ih=>intro Q E p s hn h;obtain ⟨r,s',hr,h⟩:=h;exact ⟨r,s',hr,ih r Q E p s' (Nat.le_trans hn (returns_gz hr)) h⟩
 | resume g r _ k ih=>intro Q E p s hn h;obtain ⟨res,s',hw,h⟩:=h;exact ⟨res,s',hw,ih res Q E p s' (Nat.le_trans hn (wakes_gz hw)) h⟩
section
variable {α:Type}
theorem wpAny_with_gz {t:Sem α} {Q:α→Shared→Prop} (hn:n≤gz s)
  (h:wpAny M A t (λa s'=>n≤gz s'→Q a s') (λe s'=>n≤gz s'→E e s') s):wpAny M A t Q E s :=
 wpAny_mono (Q:=λa s'=>n≤gz s'∧(n≤gz s'→Q a s')) (E:=λe s'=>n≤gz s'∧(n≤gz s'→E e s'))
  (λΓ p hΓ=>wp_gz M Γ n t (λa _ s'=>n≤gz s'→Q a s') (λe _ s'=>n≤gz s'→E e s') p s hn (h Γ p hΓ)) (λ_ _ x=>x.2 x.1) (λ_ _ x=>x.2 x.1)
end
end
section
noncomputable def vst:Stmt:=((bdOf (sub 14 11))[5]?).getD (.Pass default)
noncomputable def vbody:List Stmt:=bdOf vst
noncomputable def vscope:Scope:=scOf vst
noncomputable def vargs:Arguments:=arOf vst
noncomputable def vqual:Str:="ScryptEngine.smix.<locals>.vgen"
noncomputable def vwhile:Stmt:=(vbody[1]?).getD (.Pass default)
noncomputable def vtest:Expr:=(stB vwhile).1
noncomputable def vwb:List Stmt:=bdOf vwhile
theorem over_func (h:AOk (k+1) A) (b:List Stmt) (env:Env):AOk k (A.over (.func b env) []):=h.lower rfl (Nat.le_refl _) (Nat.add_le_add_left (n:=3) (m:=8) (by decide) _) rfl
theorem over_while (h:AOk (k+1) A) (t:Expr) (b o:List Stmt) (env:Env) (b':List Stmt) (K:Result→Sem PySem.Fin) (p:Pos) :
  AOk k (A.over (.whileLoop t b o env) [.ret K none false [] (.func b' env) p []]):=h.lower rfl (Nat.le_refl _) (Nat.add_le_add_left (n:=3) (m:=8) (by decide) _) rfl
end
section
noncomputable def wblk (r:Nat) (src:List Nat):List Nat:=if r=1 then wblk1 src else wblk2 src
noncomputable def fbm (r:Nat):Addr:=if r=1 then 163 else 156
noncomputable def FB (r:Nat) (sf bm:Addr) (h:Heap):Prop:=h.get? bm=some (methodObj (.ref (fbm r)) (.ref sf))∧∃uh,SelfV h sf "bmix_half_len" (.int ((16*r:Nat):Int) uh)
noncomputable def Tab (P:Addr) (h:Heap):Prop:=∃op,h.get? P=some op∧TabOk op
theorem Tab.kept {P:Addr} (x:Tab P h) (k:∀o,h.get? P=some o→h'.get? P=some o):Tab P h':=let ⟨op,e,t⟩:=x;⟨op,k _ e,t⟩
theorem wblk_len (hr:r=1∨r=2) (h:src.length=32*r):(wblk r src).length=32*r:=by
 rcases hr with rfl | rfl
 ·show (wblk1 src).length=32
  unfold wblk1
  simp only [List.length_append,wsalsa_len,xorL_len,List.length_drop,h]
  lia
 ·show (wblk2 src).length=64
  unfold wblk2
  simp only [List.length_append,ws_len h _ (by decide:1≤4),ws_len h _ (by decide:2≤4),ws_len h _ (by decide:3≤4),ws_len h _ (by decide:4≤4)]
theorem FB.fn (EMM:EM K mg mb) (hr:r=1∨r=2):fnIn K (fbm r)=true:=by
 have key:∀ {f nm q p b sc dv cd},FnM K f nm q p b sc dv cd→fnIn K f=true:=λx=>by
  obtain ⟨oc,od,os,pm,doc,e⟩:=x.fn
  unfold fnIn;rw [e]
 rcases hr with rfl | rfl
 ·exact key EMM.bmix1
 ·exact key EMM.bmix
theorem bm_call (EMM:EM K mg mb) (hr:r=1∨r=2) {xs:List Value} (hF:FB r sf bm h) (hs:IsTN h ls src) (hsl:src.length=32*r)
  (htg:h.get? tg=some (lobj xs k)) (hxl:xs.length=32*r) (h278:278≤tg) (h1:Tab 151 h) (h2:Tab 158 h) (hA:AOk 6 A) (W:W0 K mg mb h)
  (hR:∀h' g' t',(∀b o,b∉[151,158,tg]→h.get? b=some o→h'.get? b=some o)→h.objs.size≤h'.objs.size→GensOk g g'→Tab 151 h'→Tab 158 h'→(Ex2 λus k'=>us.length=32*r∧h'.get? tg=some (lobj (nums (wblk r src) us) k'))→R (.ok (.ret .none)) ⟨h',g',d,t',o⟩) :
  codeAny (model prog w) A (.call (.ref bm) ⟨[.ref ls,.ref tg],[]⟩) R ⟨h,g,d,t,o⟩:=by
 obtain ⟨hb,uh,hv⟩:=hF
 obtain ⟨o1,e1,k1⟩:=h1
 obtain ⟨o2,e2,k2⟩:=h2
 have hA5:AOk 5 A:=hA.le (by decide)
 have n1:∀ {P:Addr},P<278→P≠tg:=λhp e=>by rw [e] at hp;exact absurd hp (Nat.not_lt.mpr h278)
 rcases hr with rfl | rfl
 ·refine ks_codeAny_call_bound hb ?_
  refine bmix_1 EMM hs hsl htg hxl h278 e2 k2 A d t o R hA5 W λv h' g' t' hk hz hg hpost=>?_
  obtain ⟨rfl,hp,hq⟩:=hpost
  refine hR h' g' t' (λb o hb e=>hk b o (λq=>hb ?_) e) hz hg ⟨o1,hk 151 o1 ?_ e1,k1⟩ hp hq
  ·simp only [List.mem_cons,List.not_mem_nil,or_false] at q ⊢
   rcases q with rfl | rfl<;>simp
  ·exact n2 (by decide) (n1 (by decide))
 ·refine ks_codeAny_call_bound hb ?_
  refine bmix_2 EMM hs hsl htg hxl h278 e1 k1 hv A d t o R hA5 W λv h' g' t' hk hz hg hpost=>?_
  obtain ⟨rfl,hp,hq⟩:=hpost
  refine hR h' g' t' (λb o hb e=>hk b o (λq=>hb ?_) e) hz hg hp ⟨o2,hk 158 o2 ?_ e2,k2⟩ hq
  ·simp only [List.mem_cons,List.not_mem_nil,or_false] at q ⊢
   rcases q with rfl | rfl<;>simp
  ·exact n2 (by decide) (n1 (by decide))
theorem exec_of_execs {st:Stmt} (h:wpAny M A (execs [st] env) Q E s):wpAny M A (exec st env) Q E s:=λΓ p hΓ=>by
 have:=h Γ p hΓ
 rw [execs_cons,Sem.wp_bind'] at this
 refine Sem.wp_mono M Γ _ (λf p' s' h'=>?_) (λ_ _ _ h'=>h') _ _ this
 cases f<;>exact h'
section
theorem collect_sz {Q:List Value→Shared→Prop} (it:Addr) {o:Obj} (ho:s.heap.get? it=some o) (hc:o.cls = .type "list") (hd:o.data = .seq items n)
  (hQ:∀h',(∀b o',s.heap.get? b=some o'→h'.get? b=some o')→s.heap.objs.size≤h'.objs.size→Q items.toList { s with heap:=h' }) (hsz:items.size≤sizeLine):wpAny (model prog w) A (collect (.ref it)) Q E s :=
 wpAny_with_size (Nat.le_refl _) (wpAny_collect_seq it (.inl rfl) ho hc hd (λh' hk hz=>hQ h' hk hz) hsz)
theorem meets_tuple_sz (l:Addr) (o:Obj) (items:Array Value) (n:Nat) (hc:o.cls = .type "list") (hd:o.data = .seq items n) (hsz:items.size≤sizeLine) :
  Meets (Builtin.«tuple.__new__» ⟨[.type "tuple",.ref l],[]⟩)
   (λ_ R s=>s.heap.get? l=some o∧∀h':Heap,(∀b o',s.heap.get? b=some o'→h'.get? b=some o')→s.heap.objs.size≤h'.objs.size→R (.ok (.ret (.ref h'.objs.size))) { s with heap:=h'.push { cls:=.type "tuple",data:=.seq items } }) :=
 .of_wp λprog w A R s h=>by
  obtain ⟨hp,g,d,tk,os⟩:=s;obtain ⟨ht,h⟩:=h
  have hsub:=sub_tuple_self
  have hinit:=init_tuple_lookup
  have hmh:=madeHere_tuple
  have hT:Shared.TypeIs ⟨hp,g,d,tk,os⟩ (.ref l) "list":=⟨o,ht,hc⟩
  wp_walk using AutoSeq1.wpAny_loadPart' ht,wpAny_typeOf hT,collect_sz (hsz:=hsz) l ht hc hd
  intro h' hk hz
  show wpAny _ _ (Builtin.Tuple.tupleExact items.toList.toArray >>= λv=>ret v) _ _ _
  unfold Builtin.Tuple.tupleExact
  refine wpAny_bind (wpAny_newObj_type ?_ (by show items.toList.toArray.size≤sizeLine;simpa using hsz))
  refine wpAny_pure ⟨_,rfl,?_⟩
  have e:items.toList.toArray=items:=by trivial
  rw [e]
  exact h h' hk hz
theorem call_tuple_sz {l:Addr} {Q:VQ} (hl:s.heap.IsList l items)
  (h:∀h':Heap,(∀b o',s.heap.get? b=some o'→h'.get? b=some o')→s.heap.objs.size≤h'.objs.size→Q (.ref h'.objs.size) { s with heap:=h'.push { cls:=.type "tuple",data:=.seq items } }) (hsz:items.size≤sizeLine) :
  wpAny (model prog w) A (call (.type "tuple") [.ref l]) Q E s:=by
 obtain ⟨o,ho,hc,n,hd⟩:=hl
 exact callType_new F.called_tuple (by decide) (F.typeCall_tuple_1 _) (F.newCall_tuple_1 _) (λobj=>F.args_object_init_2 obj _) F.entry_tuple_new
  (meets_tuple_sz l o items n hc hd hsz) ⟨ho,λh' hk hz=>⟨⟨_,Heap.get?_push_size _ rfl,rfl⟩,h h' hk hz⟩⟩
theorem EvF.tupleOf (i:Nat) (ht:c.mg "tuple"=none∧c.mb "tuple"=some (.type "tuple")) (H:c.Ok n) (he:EvV c l N Φ (.Name x xp) (.ref bf)) (hi:N[i]?=some (bf,lobj (nums xs us) k)) (hu:us.length=xs.length) (hz:xs.length≤100000)
  (kt:Glo c.env "tuple":=by rfl)
  (s1:Unst (.Name x xp) [] c.env:=by rfl)
  (hev:CallIs "tuple" np [.Name x xp] pos c.env:=by rfl) :
  EvF c l N Φ (.Call (.Name "tuple" np) [.Name x xp] [] pos) (TupN xs):=by
 intro Φ' kΦ h t Q E F hQ
 refine PyProof.Rows.Call_ (bl H F ht.1 ht.2 (PyProof.Rows.callWith_type1 ?_ s1) kt (by decide)) hev
 rw [s1]
 refine spliced_cons (wpAny_with_size (Nat.le_refl _) (he _ kΦ h t _ _ F λh1 t1 F1 hz1=>spliced_nil ?_))
 have e:=F1.new hi
 refine call_tuple_sz (items:=(nums xs us).toArray) ⟨_,e,rfl,_,rfl⟩ (λh' hk hz=>?_) ?_
 ·have F2:c.SS l N Φ' h':=SS.grown F1 ⟨hz,hk⟩
  have hz':h.objs.size≤h'.objs.size:=Nat.le_trans hz1 hz
  refine hQ _ _ t1 (F2.push' _) (Nat.le_trans hz' (Grow.push _ _).1) λh'' q=>⟨us,h'.objs.size,hu,rfl,q _ _ hz' (Heap.get?_push_size _ rfl)⟩
 ·rw [List.size_toArray]
  exact Nat.le_trans (m:=100000) (by simp [hu];lia) (by decide)
end
end
section
noncomputable def wB (r:Nat) (b0:List Nat):Nat→List Nat
 | 0=>b0
 | i+1=>wblk r (wB r b0 i)
theorem wB_len (hr:r=1∨r=2) (h:b0.length=32*r):∀i,(wB r b0 i).length=32*r
 | 0=>h
 | i+1=>wblk_len hr (wB_len hr h i)
noncomputable def VRel (C bf:Addr) (s₀ s:Shared):Prop:=(∀b o,b∉[C,151,158,bf]→s₀.heap.get? b=some o→s.heap.get? b=some o)∧s₀.heap.objs.size≤s.heap.objs.size∧GensOk s₀.gens s.gens∧gz s₀≤gz s∧s.drawn=s₀.drawn∧s.os=s₀.os
noncomputable def BufAt (bf:Addr) (xs:List Nat) (h:Heap):Prop:=Ex2 λus k=>us.length=xs.length∧h.get? bf=some (lobj (nums xs us) k)
noncomputable def VY (r n:Nat) (b0:List Nat) (C bf D:Addr):Protocol:=λm s₀ v s kap =>
 (Ex2 λi e=>An4 (i+1+m=n) (v = .ref e) (e∉[C,151,158,bf,D]) (IsTN s.heap e (wB r b0 i)))∧VRel C bf s₀ s∧∀s'':Shared,(∀b o,b≠D→s.heap.get? b=some o→s''.heap.get? b=some o)→s.heap.objs.size≤s''.heap.objs.size→kap (.send .none) s''
noncomputable def VP (r n:Nat) (b0:List Nat) (C bf:Addr) (m:Nat) (s₀ s₁:Shared):Prop:=m=0∧VRel C bf s₀ s₁∧BufAt bf (wB r b0 n) s₁.heap∧Tab 151 s₁.heap∧Tab 158 s₁.heap
noncomputable def VE (r n:Nat) (b0:List Nat) (C bf:Addr):GenEnd:=λm s₀ x s₁=>x = .ok (.ret .none)∧VP r n b0 C bf m s₀ s₁
noncomputable def VF (r n:Nat) (un:Tok) (sf bm bf cB cF cN:Addr) (h:Heap):Prop:=FB r sf bm h∧h.get? cB=some (cobj (some (.ref bm)))∧h.get? cF=some (cobj (some (.ref bf)))∧h.get? cN=some (cobj (some (.int (n:Int) un)))
@[reducible] noncomputable def vCx (prog:Program) (w:World) (A:Around) (g:Array GenState) (d:Drawn) (o:OsState) (h0:Heap) (K:Frag) (mg mb:Str→Option Value) (f C bf D:Addr) (cd:Value) (cl:List (Str×Addr)):Cx where
 prog:=prog
 w:=w
 A:=A
 env:=envX vqual vscope C f cd cl
 g:=g
 d:=d
 o:=o
 h₀:=h0
 S:=[151,158,bf]
 X:=[D]
 L:=C
 K:=K
 mg:=mg
 mb:=mb
section
variable {cN:Addr}
theorem vOk {h0:Heap} (hA:AOk k A) (W:W0 K mg mb h0) (D':KDom K) (hb:278≤bf) (hC:278≤C):(vCx prog w A g d o h0 K mg mb f C bf D cd cl).Ok k where
 kind:=by rfl
 locals:=rfl
 globals:=rfl
 builtins:=rfl
 A:=hA
 W:=W
 dom:=D'
 S:=λb hb'=>by
  simp only [List.mem_cons,List.not_mem_nil,or_false] at hb'
  rcases hb' with rfl | rfl | rfl
  ·exact .inr (by decide)
  ·exact .inr (by decide)
  ·exact .inl hb
 L:=hC
theorem SS.rewake (x:SS h₀ S [D] L l N Φ h) (k:∀b o,b≠D→h.get? b=some o→h'.get? b=some o) (hz:h.objs.size≤h'.objs.size) (hL:L≠D) (hN:D∉N.map (·.1)) :
  SS h' (N.map (·.1)) [D] L l N Φ h':=by
 refine ⟨ns_keeps (S:=[D]) x.ns (λb o hb e=>k b o (λq=>hb (by rw [q];exact List.mem_singleton.mpr rfl)) e) (by simpa using hL),x.nd,λ_ _ _ _ e=>e,λp hp=>?_,x.ndn,Nat.le_refl _,λb hb=>Nat.lt_of_lt_of_le (x.xlt b hb) hz,λh'' q=>x.fz h'' λb o b1 b2 b3 e=>q b o b1 b2 b3 (k b o (λe'=>b2 (by rw [e'];exact List.mem_singleton.mpr rfl)) e)⟩
 have m:p.1∈N.map (·.1):=List.mem_map_of_mem (f:=Prod.fst) hp
 exact ⟨k _ _ (λe=>hN (by rw [←e];exact m)) (x.news p hp).1,(x.news p hp).2.1,.inr m⟩
set_option maxHeartbeats 1000000
theorem vLoop (EMM:EM K mg mb) (hr:r=1∨r=2) (hb0:b0.length=32*r) (hA:AOk 8 A) (h278:278≤bf) (hC:278≤C) (hCD:C≠D) (hD:D∉[151,158,bf]) (hD2:278≤D)
  (hclB:cl.lookup ("bmix":Str)=some cB) (hclF:cl.lookup ("buffer":Str)=some cF) (hclN:cl.lookup ("n":Str)=some cN)
  (K0:Result→Sem PySem.Fin) (hK0:K0 (.ok .next) = .pure (.done (.ret .none))) (p0:Pos) (b':List Stmt) :
  ∀(m i:Nat) (s₀:Shared) (h:Heap) (g:Array GenState) (t:Nat) (lv:Option Value) (ui:Tok) (us:List Tok) (k:Nat) (o1 o2:Obj),i+m=n→us.length=32*r→TabOk o1→TabOk o2 →
   SS s₀.heap [151,158,bf] [D] C ([("i",some (.int (i:Int) ui)),("last",lv)]:LS) [(151,o1),(158,o2),(bf,lobj (nums (wB r b0 i) us) k)] (VF r n un sf bm bf cB cF cN) h →
   W0 K mg mb s₀.heap→GensOk s₀.gens g→gz s₀≤g.size →
   Seg (model prog w) A (VE r n b0 C bf) (VY r n b0 C bf D) m s₀ (.whileLoop vtest vwb [] (envX vqual vscope C f cd cl)) ((model prog w).den (.whileLoop vtest vwb [] (envX vqual vscope C f cd cl)))
    [.ret K0 none false [] (.func b' (envX vqual vscope C f cd cl)) p0 []] ⟨h,g,s₀.drawn,t,s₀.os⟩:=by
 have hA':=over_while (k:=7) hA vtest vwb [] (envX vqual vscope C f cd cl) b' K0 p0
 have Hok:∀(s₀:Shared) (g:Array GenState),W0 K mg mb s₀.heap→(vCx prog w (A.over (.whileLoop vtest vwb [] (envX vqual vscope C f cd cl)) [.ret K0 none false [] (.func b' (envX vqual vscope C f cd cl)) p0 []]) g s₀.drawn s₀.os s₀.heap K mg mb f C bf D cd cl).Ok 7:=λs₀ g W=>vOk hA' W EMM.ek.dom h278 hC
 have rel:∀ {s₀:Shared} {h:Heap} {g:Array GenState} {t:Nat} {l N} {Φ:HP},SS s₀.heap [151,158,bf] [D] C l N Φ h→GensOk s₀.gens g→gz s₀≤g.size→VRel C bf s₀ ⟨h,g,s₀.drawn,t,s₀.os⟩:=λF hg hz =>
  ⟨λb o hb e=>F.keep b o (λq=>hb (List.mem_cons_of_mem _ q)) (λq=>hb (by rw [q];exact List.mem_cons_self ..)) e,F.size,hg,hz,rfl,rfl⟩
 intro m
 induction m with
 | zero =>
  intro i s₀ h g t lv ui us k o1 o2 him hu k1 k2 F W hg hz
  have H:=Hok s₀ g W
  refine seg_whileLoop ?_
  refine EvT.run (c:=vCx prog w (A.over (.whileLoop vtest vwb [] (envX vqual vscope C f cd cl)) [.ret K0 none false [] (.func b' (envX vqual vscope C f cd cl)) p0 []]) g s₀.drawn s₀.os s₀.heap K mg mb f C bf D cd cl)
   (EvT.cast (EvT.lt (.nm 0 H rfl) (EvV.toI (EvV.free H (by rfl) hclN λh F=>F.phi.2.2.2))) (b:=false) (by rw [decide_eq_false_iff_not];lia)) F (λh8 t8 F8=>?_)
  rw [if_neg Bool.false_ne_true]
  refine seg_execs_nil ?_
  have hi:i=n:=by trivial
  subst hi
  refine seg_leaf (.ok .next) ?_
  rw [hK0]
  exact seg_end (.ok (.ret .none)) ⟨rfl,rfl,rel F8 hg hz,⟨us,k,by rw [hu,wB_len hr hb0],F8.new (i:=2) rfl⟩,⟨o1,F8.new (i:=0) rfl,k1⟩,⟨o2,F8.new (i:=1) rfl,k2⟩⟩
 | succ m ih =>
  intro i s₀ h g t lv ui us k o1 o2 him hu k1 k2 F W hg hz
  have H:=Hok s₀ g W
  refine seg_whileLoop ?_
  refine EvT.run (c:=vCx prog w (A.over (.whileLoop vtest vwb [] (envX vqual vscope C f cd cl)) [.ret K0 none false [] (.func b' (envX vqual vscope C f cd cl)) p0 []]) g s₀.drawn s₀.os s₀.heap K mg mb f C bf D cd cl)
   (EvT.cast (EvT.lt (.nm 0 H rfl) (EvV.toI (EvV.free H (by rfl) hclN λh F=>F.phi.2.2.2))) (b:=true) (by rw [decide_eq_true_eq];lia)) F (λh8 t8 F8=>?_)
  rw [if_pos rfl]
  have hlen:=wB_len hr hb0 i
  refine seg_execs_cons (seg_wrap (exec_of_execs ?_))
  refine asR (c:=vCx prog w (A.over (.whileLoop vtest vwb [] (envX vqual vscope C f cd cl)) [.ret K0 none false [] (.func b' (envX vqual vscope C f cd cl)) p0 []]) g s₀.drawn s₀.os s₀.heap K mg mb f C bf D cd cl) 1 H F8 (P:=TupN (wB r b0 i))
   (EvF.toR (EvF.tupleOf 2 EMM.tuple H (EvV.free H (by rfl) hclF λh F=>F.phi.2.2.1) rfl (hu.trans hlen.symm) (by lia))) (λv9 h9 t9 F9=>?_)
  refine wpAny_execs_nil ?_
  obtain ⟨lt,rfl,hlt⟩:=F9.phi.2.at
  refine seg_execs_cons (seg_Expr_Yield rfl rfl rfl ?_ (by rfl) (by rfl))
  refine (EvV.nm 1 H rfl:EvV (vCx prog w (A.over (.whileLoop vtest vwb [] (envX vqual vscope C f cd cl)) [.ret K0 none false [] (.func b' (envX vqual vscope C f cd cl)) p0 []]) g s₀.drawn s₀.os s₀.heap K mg mb f C bf D cd cl) _ _ _ (.Name "last" _) (.ref lt)) _ (λ_ y=>y) _ _ _ _ F9 (λh10 t10 F10=>?_)
  intro kap hkap
  have hlt10:IsTN h10 lt (wB r b0 i):=let ⟨a,e,q⟩:=F10.phi.2.at;by cases e;exact q
  have hlo:=F10.out (a:=lt) λh y=>by obtain ⟨a,e,us,_,q⟩:=y.2.at;cases e;exact ⟨_,q⟩
  have hltD:lt∉[C,151,158,bf,D]:=by
   simp only [List.mem_cons,List.not_mem_nil,or_false,not_or]
   have h2:=hlo.2.1
   have h3:=hlo.2.2
   simp only [List.map_cons,List.map_nil,List.mem_cons,List.not_mem_nil,or_false,not_or] at h2 h3
   exact ⟨hlo.1,h3.1,h3.2.1,h3.2.2,h2⟩
  refine ⟨⟨i,lt,by lia,rfl,hltD,hlt10⟩,rel F10 hg hz,λs2 hal hz2=>hkap .none s2 ?_⟩
  have W2:W0 K mg mb s2.heap:=(H.W1 F10).keeps (S:=[D]) EMM.ek.dom (λb hb=>.inl (by rw [List.mem_singleton.mp hb];exact hD2)) (λb o hb e=>hal b o (λq=>hb (by rw [q];exact List.mem_singleton.mpr rfl)) e) hz2
  have F11:SS s2.heap [151,158,bf] [D] C _ _ _ s2.heap:=SS.rewake F10 hal hz2 hCD hD
  have F11:=F11.weaken (Φ':=λh=>VF r n un sf bm bf cB cF cN h∧IsTN h lt (wB r b0 i)) λh y=>⟨y.1,let ⟨a,e,q⟩:=y.2.at;by cases e;exact q⟩
  have H2:=Hok s2 s2.gens W2
  show Seg _ _ _ _ m s2 _ _ _ ⟨s2.heap,s2.gens,s2.drawn,s2.toks,s2.os⟩
  refine seg_execs_cons (seg_wrap (exec_of_execs (wpAny_execs_cons (wpAny_Expr_any ?_ (by rfl) (by rfl)))))
  refine PyProof.Rows.Call_ (EvV.free (c:=vCx prog w (A.over (.whileLoop vtest vwb [] (envX vqual vscope C f cd cl)) [.ret K0 none false [] (.func b' (envX vqual vscope C f cd cl)) p0 []]) s2.gens s2.drawn s2.os s2.heap K mg mb f C bf D cd cl) (x:="bmix") H2 (by rfl) hclB (λh F=>F.phi.1.2.1) (by decide) (by decide) _ (λ_ y=>y) _ _ _ _ F11 (λh12 t12 F12=>?_)) (by rfl)
  refine callWith_of (P:=MethP K bm (fbm r) (.ref sf)) (by rfl) (keeps_M (FB.fn EMM hr)) (evalArgs_all (by rfl) ?_)
  refine spliced_cons (ld (c:=vCx prog w (A.over (.whileLoop vtest vwb [] (envX vqual vscope C f cd cl)) [.ret K0 none false [] (.func b' (envX vqual vscope C f cd cl)) p0 []]) s2.gens s2.drawn s2.os s2.heap K mg mb f C bf D cd cl) (i:=1) (x:="last") H2 F12 rfl ?_ (by rfl) (by decide))
  refine spliced_cons (EvV.free (c:=vCx prog w (A.over (.whileLoop vtest vwb [] (envX vqual vscope C f cd cl)) [.ret K0 none false [] (.func b' (envX vqual vscope C f cd cl)) p0 []]) s2.gens s2.drawn s2.os s2.heap K mg mb f C bf D cd cl) (x:="buffer") H2 (by rfl) hclF (λh F=>F.phi.1.2.2.1) (by decide) (by decide) _ (λ_ y=>y) _ _ _ _ F12 (λh13 t13 F13=>spliced_nil ?_))
  refine ⟨⟨F13.phi.1.1.1,(H2.W1 F13).k⟩,?_⟩
  refine wpAny_with_gz (Nat.le_refl _) (wpAny_call (bm_call EMM hr F13.phi.1.1 F13.phi.2 hlen (F13.new (i:=2) rfl) (by rw [nums_len (hu.trans hlen.symm),hlen]) h278 ⟨o1,F13.new (i:=0) rfl,k1⟩ ⟨o2,F13.new (i:=1) rfl,k2⟩ (hA'.le (by decide)) (H2.W1 F13) ?_))
  rintro h14 g14 t14 hk14 hz14 hg14 ⟨o1',e1',k1'⟩ ⟨o2',e2',k2'⟩ ⟨us',k',hu',ebf⟩ hgz
  have F14:SS s2.heap [151,158,bf] [D] C _ ([(151,o1'),(158,o2'),(bf,lobj (nums (wB r b0 (i+1)) us') k')]:LN) _ h14:=SS.calls F13 (W:=[151,158,bf]) rfl (λb hb=>hb) hk14 hz14 (by
   intro p hp
   revert p hp
   refine f3 ?_ ?_ ?_
   ·exact e1'
   ·exact e2'
   ·exact ebf)
  have F14:=F14.weaken (Φ':=VF r n un sf bm bf cB cF cN) λh y=>y.1
  refine wpAny_execs_nil ?_
  have H3:=Hok s2 g14 W2
  refine seg_execs_cons (seg_wrap (exec_of_execs ?_))
  refine augA (c:=vCx prog w (A.over (.whileLoop vtest vwb [] (envX vqual vscope C f cd cl)) [.ret K0 none false [] (.func b' (envX vqual vscope C f cd cl)) p0 []]) g14 s2.drawn s2.os s2.heap K mg mb f C bf D cd cl) 0 H3 F14 (.const 1) ?_
  intro ui2 h15 t15 l F15
  refine wpAny_execs_nil (seg_execs_nil ?_)
  exact seg_again rfl (ih (i+1) s2 h15 g14 t15 _ ui2 us' k' o1' o2' (by lia) hu' k1' k2' F15 W2 hg14 hgz)
end
end
section
section
variable {cN:Addr}
set_option maxHeartbeats 1000000
theorem vStart (EMM:EM K mg mb) (hr:r=1∨r=2) (hb0:b0.length=32*r) (hA:AOk 8 A) (h278:278≤bf) (hC:278≤C) (hCD:C≠D) (hD:D∉[151,158,bf]) (hD2:278≤D)
  (hclB:cl.lookup ("bmix":Str)=some cB) (hclF:cl.lookup ("buffer":Str)=some cF) (hclN:cl.lookup ("n":Str)=some cN)
  (s₀:Shared) (us:List Tok) (k:Nat) (o1 o2:Obj) (hu:us.length=32*r) (k1:TabOk o1) (k2:TabOk o2)
  (F:SS s₀.heap [151,158,bf] [D] C ([("i",none),("last",none)]:LS) [(151,o1),(158,o2),(bf,lobj (nums b0 us) k)] (VF r n un sf bm bf cB cF cN) s₀.heap) (W:W0 K mg mb s₀.heap) :
  Seg (model prog w) A (VE r n b0 C bf) (VY r n b0 C bf D) n s₀ (.func vbody (envX vqual vscope C f cd cl)) ((model prog w).den (.func vbody (envX vqual vscope C f cd cl))) [] s₀:=by
 have hA':=over_func (k:=7) hA vbody (envX vqual vscope C f cd cl)
 have H:(vCx prog w (A.over (.func vbody (envX vqual vscope C f cd cl)) []) s₀.gens s₀.drawn s₀.os s₀.heap K mg mb f C bf D cd cl).Ok 7:=vOk hA' W EMM.ek.dom h278 hC
 refine seg_func ?_
 refine seg_execs_cons (seg_wrap (exec_of_execs ?_))
 refine asI (c:=vCx prog w (A.over (.func vbody (envX vqual vscope C f cd cl)) []) s₀.gens s₀.drawn s₀.os s₀.heap K mg mb f C bf D cd cl) (h:=s₀.heap) (t:=s₀.toks) 0 H F (.const (i:=0)) (λui h2 t2 F2=>?_)
 refine wpAny_execs_nil ?_
 refine seg_execs_cons (seg_While λp=>?_)
 exact vLoop EMM hr hb0 hA h278 hC hCD hD hD2 hclB hclF hclN _ (by rfl) p vbody n 0 s₀ h2 s₀.gens t2 none ui us k o1 o2 (Nat.zero_add n) hu k1 k2 F2 W (GensOk.refl _) (Nat.le_refl _)
end
end
section
section
variable {cN:Addr} {gi:Nat}
noncomputable def YsOk (r:Nat) (b0:List Nat) (C bf D:Addr) (ys:List Value) (h:Heap):Prop:=∀(j:Nat) y,ys[j]?=some y→∃e,An3 (y = .ref e) (e∉[C,151,158,bf,D]) (IsTN h e (wB r b0 j))
structure VSince (C bf D:Addr) (gi:Nat) (s₀ s:Shared):Prop where
 heap:∀b o,b∉[C,151,158,bf,D]→s₀.heap.get? b=some o→s.heap.get? b=some o
 bare:(∀y∈s₀.gens,y.bare=true)→∀j x,j≠gi→s.gens[j]?=some x→x.bare=true
 drawn:s.drawn=s₀.drawn
 os:s.os=s₀.os
structure VSt (prog:Program) (w:World) (A:Around) (K:Frag) (mg mb:Str→Option Value) (r n:Nat) (b0:List Nat) (a C bf D:Addr) (gi:Nat) (s₀:Shared) (ys:List Value) (s:Shared):Prop where
 gen:s.heap.IsGen a gi
 W:W0 K mg mb s.heap
 goes:∃gs,s.gens[gi]?=some gs∧∀s'':Shared,(∀b o,b≠D→s.heap.get? b=some o→s''.heap.get? b=some o)→s.heap.objs.size≤s''.heap.objs.size →
  gs.Goes (model prog w) A.in1 (VE r n b0 C bf) (VY r n b0 C bf D) (n - ys.length) (.send .none) s''
 ys:YsOk r b0 C bf D ys s.heap
 since:VSince C bf D gi s₀ s
structure VFin (r n:Nat) (b0:List Nat) (C bf D:Addr) (s₀:Shared) (ys:List Value) (s:Shared):Prop where
 ys:YsOk r b0 C bf D ys s.heap
 heap:∀b o,b∉[C,151,158,bf,D]→s₀.heap.get? b=some o→s.heap.get? b=some o
 bare:GensOk s₀.gens s.gens
 drawn:s.drawn=s₀.drawn
 os:s.os=s₀.os
 buf:BufAt bf (wB r b0 n) s.heap
 t1:Tab 151 s.heap
 t2:Tab 158 s.heap
theorem setGen_other {g:Nat} {x y:GenState} (h:j≠g) (e:(s.setGen g x).gens[j]?=some y):s.gens[j]?=some y:=by
 simp only [Shared.setGen] at e
 rw [Array.getElem?_setIfInBounds] at e
 rwa [if_neg (Ne.symm h)] at e
theorem setGen_at {g:Nat} {x y:GenState} (e:(s.setGen g x).gens[g]?=some y):y=x:=by
 simp only [Shared.setGen] at e
 rw [Array.getElem?_setIfInBounds] at e
 simp only [if_true] at e
 split at e
 ·cases e;rfl
 ·cases e
theorem allBare_set {g:Nat} {x:GenState} (hx:x.bare=true) (h:∀j y,j≠g→s.gens[j]?=some y→y.bare=true):∀y∈(s.setGen g x).gens,y.bare=true:=by
 intro y hy
 obtain ⟨j,hj,rfl⟩:=Array.mem_iff_getElem.mp hy
 by_cases e:j=g
 ·subst e
  rw [setGen_at (s:=s) (g:=j) (x:=x) (Array.getElem?_eq_getElem hj)];exact hx
 ·exact h j _ e (setGen_other e (Array.getElem?_eq_getElem hj))
theorem IsTN.kept {e:Addr} (x:IsTN h e xs) (k:∀o,h.get? e=some o→h'.get? e=some o):IsTN h' e xs:=let ⟨us,hu,q⟩:=x;⟨us,hu,k _ q⟩
theorem IsGen.kept {g:Nat} (x:h.IsGen a g) (k:∀o,h.get? a=some o→h'.get? a=some o):h'.IsGen a g:=let ⟨o,nm,qn,e,q⟩:=x;⟨o,nm,qn,k _ e,q⟩
theorem vWalk (hh:A.handled=none) (hroom:A.depth<recursionLimit) (D':KDom K) (h278:278≤bf) (hC:278≤C) (hD:D∉[C,151,158,bf]) (hD2:278≤D) (ha:a∉[C,151,158,bf]) (haD:a≠D) (s₀:Shared) :
  GWalk prog w A a D n (VSt prog w A K mg mb r n b0 a C bf D gi s₀) (VFin r n b0 C bf D s₀) where
 typ:=λys s st=>st.gen.typeIs
 frame:=λys s h' st hz hk _=>by
  refine ⟨IsGen.kept st.gen λo e=>hk a o haD e,?_,?_,λj y e=>?_,?_⟩
  ·exact st.W.keeps (S:=[D]) D' (λb hb=>.inl (by rw [List.mem_singleton.mp hb];exact hD2)) (λb o hb e=>hk b o (λq=>hb (by rw [q];exact List.mem_singleton.mpr rfl)) e) (Nat.le_of_eq hz.symm)
  ·obtain ⟨gs,hgs,hgo⟩:=st.goes
   exact ⟨gs,hgs,λs'' k z=>hgo s'' (λb o hb e=>k b o hb (hk b o hb e)) (Nat.le_trans (Nat.le_of_eq hz.symm) z)⟩
  ·obtain ⟨e',rfl,hne,ht⟩:=st.ys j y e
   exact ⟨e',rfl,hne,ht.kept λo q=>hk e' o (λr=>hne (by rw [r];simp)) q⟩
  ·exact ⟨λb o hb e=>hk b o (λq=>hb (by rw [q];simp)) (st.since.heap b o hb e),st.since.bare,st.since.drawn,st.since.os⟩
 item:=λys s Q E hlt st hQ=>by
  obtain ⟨gs,hgs,hgo⟩:=st.goes
  obtain ⟨m,hm⟩:∃m,n - ys.length=m+1:=⟨n - ys.length - 1,by lia⟩
  rw [hm] at hgo
  refine wpAny_pyNext_gen (P:=VP r n b0 C bf) hh st.W.lim hroom st.gen hgs (hgo (s.setGen gi .running) (λ_ _ _ e=>e) (Nat.le_refl _)) (λv s₁ gs' hv=>?_) (λs₁ hp h' hk=>?_)
  ·obtain ⟨⟨i,e,hi,rfl,hne,ht⟩,⟨hk,hz,hg,hgz,hd,ho⟩,hkap⟩:=hv
   have hi':i=ys.length:=by lia
   subst hi'
   have hDk:D∉[C,151,158,bf]:=hD
   have hs1:(s₁.setGen gi gs').gens[gi]?=some gs':=by
    have hlt':gi<s.gens.size:=(Array.getElem?_eq_some_iff.mp hgs).1
    have:gi<s₁.gens.size:=Nat.lt_of_lt_of_le hlt' (by have:=hgz;simpa [gz,Shared.setGen] using this)
    simp only [Shared.setGen]
    rw [Array.getElem?_setIfInBounds_self_of_lt this]
   refine hQ (.ref e) _ ⟨IsGen.kept st.gen λo q=>hk a o ha q,?_,⟨gs',hs1,λs'' k z=>?_⟩,λj y q=>?_,?_⟩ λo q=>hk D o hDk q
   ·refine st.W.keeps (S:=[C,151,158,bf]) D' (λb hb=>?_) (λb o hb q=>hk b o hb q) hz
    revert b hb
    refine f4 ?_ ?_ ?_ ?_
    ·exact .inl hC
    ·exact .inr (by decide)
    ·exact .inr (by decide)
    ·exact .inl h278
   ·have e1:n - (ys++[Value.ref e]).length=m:=by simp;lia
    rw [e1]
    exact hkap s'' k z
   ·by_cases hj:j<ys.length
    ·rw [List.getElem?_append_left hj] at q
     obtain ⟨e',rfl,hne',ht'⟩:=st.ys j y q
     refine ⟨e',rfl,hne',ht'.kept λo q=>hk e' o (λhm=>hne' ?_) q⟩
     exact f4 (P:=(·∈_)) (by trivial) (by trivial) (by trivial) (by trivial) _ hm
    ·have:j=ys.length:=by
      have:=(List.getElem?_eq_some_iff.mp q).1
      simp at this;lia
     subst this
     simp at q
     subst q
     exact ⟨e,rfl,hne,ht⟩
   ·refine ⟨λb o hb q=>hk b o (λhm=>hb ?_) (st.since.heap b o hb q),λhb j x hj q=>?_,hd.trans st.since.drawn,ho.trans st.since.os⟩
    ·exact f4 (P:=(·∈_)) (by trivial) (by trivial) (by trivial) (by trivial) _ hm
    ·exact hg (allBare_set rfl (st.since.bare hb)) x (Array.mem_of_getElem? (setGen_other hj q))
  ·exact absurd hp.1 (by lia)
 done:=λys s Q E hlen st hQ=>by
  obtain ⟨gs,hgs,hgo⟩:=st.goes
  have e0:n - ys.length=0:=by lia
  rw [e0] at hgo
  refine wpAny_pyNext_gen (P:=VP r n b0 C bf) hh st.W.lim hroom st.gen hgs (hgo (s.setGen gi .running) (λ_ _ _ e=>e) (Nat.le_refl _)) (λv s₁ gs' hv=>?_) (λs₁ hp h' hk'=>?_)
  ·obtain ⟨_,_,hkap⟩:=hv
   exact (hkap s₁ (λ_ _ _ e=>e) (Nat.le_refl _)).elim
  ·obtain ⟨_,⟨hk,hz,hg,hgz,hd,ho⟩,hbuf,t1,t2⟩:=hp
   refine hQ _ ⟨λj y q=>?_,λb o hb q=>hk' b o (hk b o (λhm=>hb ?_) (st.since.heap b o hb q)),λhb=>?_,hd.trans st.since.drawn,ho.trans st.since.os,?_,t1.kept (hk' 151),t2.kept (hk' 158)⟩ λo q=>hk' D o (hk D o hD q)
   ·obtain ⟨e',rfl,hne',ht'⟩:=st.ys j y q
    refine ⟨e',rfl,hne',ht'.kept λo q=>hk' e' o (hk e' o (λhm=>hne' ?_) q)⟩
    exact f4 (P:=(·∈_)) (by trivial) (by trivial) (by trivial) (by trivial) _ hm
   ·exact f4 (P:=(·∈_)) (by trivial) (by trivial) (by trivial) (by trivial) _ hm
   ·have hb1:=hg (allBare_set rfl (st.since.bare hb))
    exact allBare_set (s:=s₁) rfl λj x _ q=>hb1 x (Array.mem_of_getElem? q)
   ·obtain ⟨us,k,hu,e⟩:=hbuf
    exact ⟨us,k,hu,hk' _ _ e⟩
 self:=λys s Q E st hQ=>wpAny_pyIter_gen st.gen hQ
end
end
section
structure ES (K:Frag) (mg mb:Str→Option Value):Prop where
 ei:EI K mg mb
 hd3:codeHdIn K 148 144=true
noncomputable def vdpos:Pos:=vst.pos
noncomputable abbrev vfn (cl:List (Str×Addr)) (doc pm:Value) (c':Addr) (ctv:Value):Obj:={ cls:=.type "function",data:=.func (fnX "vgen" vqual vargs vbody vscope cl .none .none doc pm none (.ref c') ctv) }
theorem CodeRec.fresh (x:h.CodeRec (.ref c') q) (k:∀o,h.get? c'=some o→h'.get? c'=some o):h'.CodeRec (.ref c') q:=by
 obtain ⟨c,oc,vs,tq,e,h1,r⟩:=x
 cases e
 exact ⟨c',oc,vs,tq,rfl,k _ h1,r⟩
theorem SS.knowNew2 (x:SS h₀ S X L l N Φ h) (y:SS h₀ S X L l' N' Φ' h') (hN:N'.map (·.1)=N.map (·.1)) {P:HP} (p:Since h.objs.size h' P) :
  SS h₀ S X L l' N' (λh=>Φ' h∧P h) h' :=
 y.know λh'' q=>p h'' λb o hb e=>q b o (λr=>absurd x.ltL (Nat.not_lt.mpr (by rw [←r];exact hb))) (λr=>absurd (x.xlt b r) (Nat.not_lt.mpr hb)) (λr=>by
  rw [hN] at r
  obtain ⟨p,hp,rfl⟩:=List.mem_map.mp r
  exact absurd (x.belowN p hp) (Nat.not_lt.mpr hb)) e
section
theorem builtinsAt {P:Addr} (D:KDom c.K) (hb:BiOk c.K c.mg) (hP:P∈tabs) (W:W0 c.K c.mg c.mb h):h.BuiltinsAt c.mg P:=by
 obtain ⟨bm,o,h1,h2,h3,h4,h5,h6⟩:=hb
 have e:=W.k _ _ h3
 refine ⟨bm,o,h1,h2,?_,?_,e,h4,h5,h6⟩
 ·rintro rfl
  obtain ⟨o',es,ep,e',hd,_⟩:=W.g
  rw [e] at e';cases e';rw [h6] at hd;cases hd
 ·rintro rfl
  exact (D.lt _ _ h3).2 hP
theorem defVgen (i j:Nat) (ESS:ES c.K c.mg c.mb) (H:c.Ok n) (F:c.SS l N Φ h) (hi:N[i]?=some (144,op)) (hj:l[j]?=some (("vgen":Str),w0)) (hcode:c.env.code = .ref 148) (hcl:closureFor vscope c.env=pure cl)
  (hvt:∃ps,An3 (op=tabObj ps) (TriplesOk ps.toList) (codeAmong vdpos ps.toList=none∨∃c',codeAmong vdpos ps.toList=some (.ref c')∧∀h,Φ h→h.CodeRec (.ref c') vqual))
  (hQ:∀fa c' ps' ctv doc pm h' t',codeAmong vdpos ps'.toList=some (.ref c')→TriplesOk ps'.toList →
   c.SS (l.set j ("vgen",some (.ref fa))) (N.set i (144,tabObj ps')) (λh=>Φ h∧h.CodeRec (.ref c') vqual∧h.get? fa=some (vfn cl doc pm c' ctv)) h'→c.wp (execs rest c.env) Q E (c.st h' t'))
  (hq:qualnameIn c.env "vgen" "vgen"=vqual) (kv:Loc c.env "vgen") :
  c.wp (execs (vst::rest) c.env) Q E (c.st h t):=by
 refine wpAny_execs_cons (nestDef_K (name:="vgen") (params:=vargs) (body:=vbody) (scope:=vscope) (pos:=vdpos) (by rfl) (by rfl) (by rfl) ?_)
 rw [hq]
 have W:=H.W1 F
 have EMM:=ESS.ei.em
 obtain ⟨ps,rfl,ht,hp⟩:=hvt
 have hP:=F.new hi
 have hgP:mainGlobals≠(144:Addr):=by decide
 rcases hp with hn | ⟨c',hs,hrec⟩
 ·refine makeFunction_K (mg:=c.mg) hcl H.globals W.g hcode (codeHd_of_K W.k ESS.hd3) hP ht hn hgP (builtinsAt EMM.ek.dom EMM.bi (by decide) W) λc' ctv doc h' tk hx hge hlt hrec htb=>?_
  have F2:c.SS l (N.set i (144,tabObj (ps++#[rawInt vdpos.line,rawInt vdpos.col,.ref c']))) Φ h':=SS.calls F (W:=[144]) (set_keysN hi) (λb hb=>by rw [List.mem_singleton.mp hb];exact List.mem_map_of_mem (f:=Prod.fst) (List.mem_of_getElem? hi)) (λb o hb e=>hx b o (λq=>hb (List.mem_singleton.mpr q)) e) (Nat.le_trans hge (Nat.le_of_lt hlt)) (λp hp=>?_)
  ·have hrec':Since h.objs.size h' (λh=>h.CodeRec (.ref c') vqual):=λh'' q=>CodeRec.fresh hrec λo e=>q c' o hge e
   have F3:=SS.knowNew2 F F2 (set_keysN hi) hrec'
   have F4:=F3.push' (vfn cl doc ((c.mg "__name__").getD .none) c' ctv)
   have hfa:Since h.objs.size (h'.push (vfn cl doc ((c.mg "__name__").getD .none) c' ctv)) (λhh=>hh.get? h'.objs.size=some (vfn cl doc ((c.mg "__name__").getD .none) c' ctv)):=λh'' q=>q _ _ (Nat.le_trans hge (Nat.le_of_lt hlt)) (Heap.get?_push_size _ rfl)
   have F5:=SS.knowNew2 F F4 (set_keysN hi) hfa
   refine stn H F5 hj (λh3 F6=>hQ h'.objs.size c' (ps++#[rawInt vdpos.line,rawInt vdpos.col,.ref c']) ctv doc ((c.mg "__name__").getD .none) h3 _ ?_ ?_ (F6.weaken λh y=>⟨y.1.1,y.1.2,y.2⟩)) kv
   ·rw [Array.toList_append]
    exact codeAmong_snoc _ ht hn
   ·rw [Array.toList_append]
    exact TriplesOk_snoc _ _ _ _ ht
  ·obtain ⟨k,hk⟩:=List.mem_iff_getElem?.mp hp
   rw [List.getElem?_set] at hk
   by_cases hik:i=k
   ·subst hik
    rw [if_pos rfl,if_pos (List.getElem?_eq_some_iff.mp hi).1] at hk
    cases hk;exact htb
   ·rw [if_neg hik] at hk
    refine hx _ _ (λq=>?_) (F.new hk)
    obtain ⟨pa,po⟩:=p
    dsimp only at q
    subst q
    exact hik (nodup_at F.ndn hi hk)
 ·refine makeFunction_hit (mg:=c.mg) hcl H.globals W.g hcode (codeHd_of_K W.k ESS.hd3) hP ht hs (builtinsAt EMM.ek.dom EMM.bi (by decide) W) λctv doc h' tk hk hz=>?_
  have F2:c.SS l N Φ h':=SS.grown F ⟨hz,hk⟩
  have F4:=F2.push' (vfn cl doc ((c.mg "__name__").getD .none) c' ctv)
  have hfa:Since h.objs.size (h'.push (vfn cl doc ((c.mg "__name__").getD .none) c' ctv)) (λhh=>hh.get? h'.objs.size=some (vfn cl doc ((c.mg "__name__").getD .none) c' ctv)):=λh'' q=>q _ _ hz (Heap.get?_push_size _ rfl)
  have F5:=SS.knowNew2 F F4 rfl hfa
  have e:N.set i (144,tabObj ps)=N:=by
   obtain ⟨hl,he⟩:=List.getElem?_eq_some_iff.mp hi
   rw [←he];exact List.set_getElem_self hl
  refine stn H F5 hj (λh3 F6=>hQ h'.objs.size c' ps ctv doc ((c.mg "__name__").getD .none) h3 _ hs ht ?_) kv
  rw [e]
  exact F6.weaken λh y=>⟨y.1,hrec h y.1,y.2⟩
end
end
section
noncomputable def VLst (r n:Nat) (b0:List Nat) (V:Addr) (h:Heap):Prop:=Ex2 λys k=>An3 (ys.length=n) (h.get? V=some (lobj ys k)) (∀(j:Nat) y,ys[j]?=some y→∃e,y = .ref e∧IsTN h e (wB r b0 j))
noncomputable abbrev smN (cB cF cN bm bf:Addr) (n:Nat) (un:Tok) (o3 o1 o2 ob:Obj):LN :=
 [(cB,cobj (some (.ref bm))),(cF,cobj (some (.ref bf))),(cN,cobj (some (.int (n:Int) un))),(144,o3),(151,o1),(158,o2),(bf,ob)]
section
variable {Q:VQ} {cN fa:Addr} {ctv:Value}
theorem tup_out (F:c.SS l N Φ h) (e:h.get? a=some (tobj ys)) (hN:∀p∈N,∀zs,p.2≠tobj zs):a≠c.L∧a∉N.map (·.1):=by
 refine ⟨?_,λq=>?_⟩
 ·rintro rfl
  obtain ⟨o,es,ep,e',hd,_⟩:=F.ns
  rw [e] at e';cases e';cases hd
 ·obtain ⟨p,hp,rfl⟩:=List.mem_map.mp q
  have:=(F.news p hp).1
  rw [e] at this
  exact hN p hp ys (Option.some.inj this).symm
theorem cobj_tup {v:Option Value} {zs:List Value}:cobj v≠tobj zs:=λe=>absurd (show Value.type "cell" = .type "tuple" from congrArg Obj.cls e) (by decide)
theorem lobj_tup {zs:List Value}:lobj vs k≠tobj zs:=λe=>absurd (show Value.type "list" = .type "tuple" from congrArg Obj.cls e) (by decide)
theorem TabOk.not_tup (x:TabOk op):∀zs,op≠tobj zs:=λzs e=>by obtain ⟨ps,hd,_⟩:=x;rw [e] at hd;cases hd
theorem vcell:∀x∈vscope.names,x.2≠NameKind.cell:=by decide +kernel
set_option maxHeartbeats 1000000
theorem listGen (ESS:ES c.K c.mg c.mb) (H:c.Ok m) (hm:12≤m) (hX:c.X=[]) (hr:r=1∨r=2) (hb0:b0.length=32*r) (hn:n≤1000) (hu:us.length=32*r) (h278:278≤bf) (k1:TabOk o1) (k2:TabOk o2) (hk3:∀zs,o3≠tobj zs)
  (F:c.SS l (smN cB cF cN bm bf n un o3 o1 o2 (lobj (nums b0 us) k)) Φ h)
  (hΦ:∀h,Φ h→FB r sf bm h∧h.CodeRec (.ref c') vqual∧h.get? fa=some (vfn [("n",cN),("buffer",cF),("bmix",cB)] doc pm c' ctv))
  (hQ:∀V o1' o2' us' k' h' g' t',TabOk o1'→TabOk o2'→us'.length=32*r→GensOk c.g g' →
   c.SS l (smN cB cF cN bm bf n un o3 o1' o2' (lobj (nums (wB r b0 n) us') k')) (λh=>Φ h∧VLst r n b0 V h) h'→Q (.ref V) ⟨h',g',c.d,t',c.o⟩) :
  c.wp (call (.ref fa) []) (λv s₁=>c.wp (call (.type "list") [v]) Q E s₁) E (c.st h t):=by
 have EMM:=ESS.ei.em
 have W:=H.W1 F
 obtain ⟨hFB,hcr,hfa⟩:=hΦ h F.phi
 refine wpAny_call (codeAny_call_generator (fd:=fnX "vgen" vqual vargs vbody vscope [("n",cN),("buffer",cF),("bmix",cB)] .none .none doc pm none (.ref c') ctv) (body:=vbody) H.A.room hfa rfl (by rfl) (by rfl) rfl hcr ?_)
 refine wpAny_of_eq (a:=[]) (by kernel_rfl) ?_
 refine wpAny_newFunctionEnv vcell (by simp) (λh1 hns hsb=>?_) (by rfl)
 have hz1:h1.objs.size=h.objs.size+1:=by rw [hsb.1,Heap.size_push]
 have k01:∀b o,h.get? b=some o→h1.get? b=some o:=λb o e=>hsb.extBut b o (Nat.ne_of_lt (Heap.lt_size e)) (Heap.get?_push_of_some _ e)
 have W1:W0 c.K c.mg c.mb h1:=W.keeps (S:=[]) H.dom (by trivial) (λb o _ e=>k01 b o e) (by lia)
 refine ⟨W1.lim,?_⟩
 generalize hgo:({ cls:=.type "generator",data:=.fields #[.int c.g.size 0,.str "vgen" _,.str vqual _] }:Obj)=gobj
 have hs2:(h1.push gobj).objs.size=h.objs.size+2:=by rw [Heap.size_push,hz1]
 have k12:∀b o,h.get? b=some o→(h1.push gobj).get? b=some o:=λb o e=>Heap.get?_push_of_some _ (k01 b o e)
 have W2:W0 c.K c.mg c.mb (h1.push gobj):=W.keeps (S:=[]) H.dom (by trivial) (λb o _ e=>k12 b o e) (by lia)
 have hsz:=W.size
 have ltN:∀p∈smN cB cF cN bm bf n un o3 o1 o2 (lobj (nums b0 us) k),@LT.lt Nat _ p.1 h.objs.size:=λp hp=>F.belowN p hp
 have hbfl:@LT.lt Nat _ bf h.objs.size:=ltN (bf,lobj (nums b0 us) k) (by trivial)
 have lt144:@LT.lt Nat _ 278 (h.objs.size+1):=by lia
 have hD:h.objs.size+2∉([h.objs.size,151,158,bf]:List Addr):=by
  exact n4 (neA (by trivial)) (neA (by lia)) (neA (by lia)) (neA (by trivial))
 have ha:h1.objs.size∉([h.objs.size,151,158,bf]:List Addr):=by
  rw [hz1]
  exact n4 (neA (by trivial)) (neA (by lia)) (neA (by lia)) (neA (by trivial))
 have hAA:AOk 8 c.A.in1.in1.in1:=(((H.A.le hm).in1.in1.in1).le (by decide))
 have hD':(h1.push gobj).objs.size∉([h.objs.size,151,158,bf]:List Addr):=by rw [hs2];exact hD
 show c.wp (call (.type "list") [.ref h1.objs.size]) Q E ⟨h1.push gobj,c.g.push (.fresh (.func vbody (envX vqual vscope h.objs.size fa (.ref c') [("n",cN),("buffer",cF),("bmix",cB)]))),c.d,_,c.o⟩
 refine wpAny_with_size (n:=h.objs.size) (by show h.objs.size≤(h1.push gobj).objs.size;lia) (call_listW (n:=n) (I:=h1.objs.size) (by show h1.objs.size<(h1.push gobj).objs.size;lia)
  (St:=VSt c.prog c.w c.A.in1.in1 c.K c.mg c.mb r n b0 h1.objs.size h.objs.size bf (h1.push gobj).objs.size c.g.size ⟨h1.push gobj,c.g.push (.fresh (.func vbody (envX vqual vscope h.objs.size fa (.ref c') [("n",cN),("buffer",cF),("bmix",cB)]))),c.d,0,c.o⟩)
  (Fin:=VFin r n b0 h.objs.size bf (h1.push gobj).objs.size ⟨h1.push gobj,c.g.push (.fresh (.func vbody (envX vqual vscope h.objs.size fa (.ref c') [("n",cN),("buffer",cF),("bmix",cB)]))),c.d,0,c.o⟩) ?_ (by trivial) ?_ ?_)
 ·have hA2:AOk 8 c.A.in1.in1:=((H.A.le hm).in1.in1).le (by decide)
  exact vWalk hA2.1 hA2.room EMM.ek.dom h278 hsz hD' (by rw [hs2];show @LE.le Nat _ 278 _;lia) ha (neA (by rw [hs2,hz1];lia)) _
 ·refine ⟨⟨gobj,_,_,Heap.get?_push_of_some _ (Heap.get?_push_size _ (by rw [←hgo];rfl)),by rw [←hgo],by rw [←hgo],by rw [←hgo]⟩,W2.keeps (S:=[]) H.dom (by trivial) (λb o _ e=>Heap.get?_push_of_some _ e) (by have:=Heap.size_push (h1.push gobj) (lobj [] 0);show (h1.push gobj).objs.size≤((h1.push gobj).push (lobj [] 0)).objs.size;lia),⟨_,Array.getElem?_push_size ..,λs'' hk hz=>?_⟩,by intro j y e;simp at e,⟨λb o _ e=>Heap.get?_push_of_some _ e,λhb j x _ q=>hb x (Array.mem_of_getElem? q),rfl,rfl⟩⟩
  refine ⟨rfl,?_⟩
  have k3:∀b o,b≠(h1.push gobj).objs.size→(h1.push gobj).get? b=some o→s''.heap.get? b=some o:=λb o hb e=>hk b o hb (Heap.get?_push_of_some _ e)
  have k4:∀b o,h.get? b=some o→s''.heap.get? b=some o:=λb o e=>k3 b o (neA (by rw [hs2];have:@LT.lt Nat _ b h.objs.size:=Heap.lt_size e;lia)) (k12 b o e)
  have hz3:h.objs.size+3≤s''.heap.objs.size:=Nat.le_trans (by have:=Heap.size_push (h1.push gobj) (lobj [] 0);show h.objs.size+3≤((h1.push gobj).push (lobj [] 0)).objs.size;lia) hz
  have W3:W0 c.K c.mg c.mb s''.heap:=W.keeps (S:=[]) H.dom (by trivial) (λb o _ e=>k4 b o e) (by lia)
  have nd:=F.ndn
  have F0:SS s''.heap [151,158,bf] [(h1.push gobj).objs.size] h.objs.size ([("i",none),("last",none)]:LS) [(151,o1),(158,o2),(bf,lobj (nums b0 us) k)] (VF r n un sf bm bf cB cF cN) s''.heap:=by
   refine ⟨?_,by decide,λ_ _ _ _ e=>e,λp hp=>?_,?_,Nat.le_refl _,λb hb=>?_,λh'' q=>?_⟩
   ·show s''.heap.Ns h.objs.size (lk ((["i","last"]:List Str).map λx=>(x,(none:Option Value))))
    rw [←lk_nones ["i","last"]]
    have hns':h1.Ns h.objs.size (λ_=>none):=hns
    exact ((hns'.push gobj).at' λo e=>k3 _ o (neA (by rw [hs2];lia)) e)
   ·have hp':p∈smN cB cF cN bm bf n un o3 o1 o2 (lobj (nums b0 us) k):=by
     exact f3 (P:=(·∈_)) (by trivial) (by trivial) (by trivial) _ hp
    exact ⟨k4 _ _ (F.news p hp').1,Nat.ne_of_lt (ltN p hp'),.inr (by
     exact f3 (P:=λp:Addr×Obj=>p.1∈([151,158,bf]:List Addr)) (by trivial) (by trivial) (by trivial) _ hp)⟩
   ·have hb1:(151:Addr)≠bf:=neA (by have:@LE.le Nat _ 278 bf:=h278;lia)
    have hb2:(158:Addr)≠bf:=neA (by have:@LE.le Nat _ 278 bf:=h278;lia)
    exact List.nodup_cons.mpr ⟨n2 (show (151:Addr)≠158 by decide) hb1,List.nodup_cons.mpr ⟨n1 hb2,List.nodup_cons.mpr ⟨List.not_mem_nil,List.nodup_nil⟩⟩⟩
   ·rw [List.mem_singleton.mp hb,hs2]
    show @LT.lt Nat _ _ _;lia
   ·have kk:∀b o,b∉([151,158,bf]:List Addr)→h.get? b=some o→h''.get? b=some o:=λb o hb e =>
     have hl:@LT.lt Nat _ b h.objs.size:=Heap.lt_size e
     q b o (neA (by trivial)) (λq=>by have:=List.mem_singleton.mp q;rw [hs2] at this;have t':@Eq Nat b (h.objs.size+2):=this;lia) hb (k4 b o e)
    have hΦ':Φ h'':=F.fz h'' λb o _ _ b3 e=>kk b o (λq=>b3 (f3 (P:=λb=>b∈(smN cB cF cN bm bf n un o3 o1 o2 (lobj (nums b0 us) k)).map (·.1)) (by trivial) (by trivial) (by trivial) b q)) e
    have cell:∀p∈smN cB cF cN bm bf n un o3 o1 o2 (lobj (nums b0 us) k),p.1∉([151,158,bf]:List Addr)→h''.get? p.1=some p.2:=λp hp hn=>kk _ _ hn (F.news p hp).1
    refine ⟨(hΦ h'' hΦ').1,cell (cB,_) (by trivial) ?_,cell (cF,cobj (some (.ref bf))) (by trivial) ?_,cell (cN,cobj (some (.int (n:Int) un))) (by trivial) ?_⟩
    ·exact n3 (nneq nd 0 4) (nneq nd 0 5) (nneq nd 0 6)
    ·exact n3 (nneq nd 1 4) (nneq nd 1 5) (nneq nd 1 6)
    ·exact n3 (nneq nd 2 4) (nneq nd 2 5) (nneq nd 2 6)
  exact vStart EMM hr hb0 hAA h278 hsz (neA (by rw [hs2];lia)) (λq=>hD' (List.mem_cons_of_mem _ q)) (by rw [hs2];show @LE.le Nat _ 278 _;lia) (by rfl) (by rfl) (by rfl) s'' us k o1 o2 hu k1 k2 F0 W3
 ·intro s' ys kk hlen hf hD'' hz
  obtain ⟨h',g',d',t',o'⟩:=s'
  obtain ⟨hys,hk,hb,rfl,rfl,⟨us',k',hu',hbf⟩,⟨o1',e1,q1⟩,⟨o2',e2,q2⟩⟩:=hf
  have hz:h.objs.size≤h'.objs.size:=hz
  have hkk:∀b o,b∉([151,158,bf]:List Addr)→h.get? b=some o→h'.get? b=some o:=λb o hb e=>by
   have hl:@LT.lt Nat _ b h.objs.size:=Heap.lt_size e
   refine hk b o ?_ (k12 b o e)
   exact n5 (neA (by trivial)) (nrs hb).1 (nrs hb).2.1 (nrs hb).2.2.1 (neA (by rw [hs2];lia))
  have hmap:(smN cB cF cN bm bf n un o3 o1' o2' (lobj (nums (wB r b0 n) us') k')).map (·.1)=(smN cB cF cN bm bf n un o3 o1 o2 (lobj (nums b0 us) k)).map (·.1):=rfl
  have nd:=F.ndn
  have F2:c.SS l (smN cB cF cN bm bf n un o3 o1' o2' (lobj (nums (wB r b0 n) us') k')) Φ h':=SS.calls F (W:=[151,158,bf]) hmap (λb hb=>?_) hkk hz (λp hp=>?_)
  ·have hcls:∀p∈smN cB cF cN bm bf n un o3 o1' o2' (lobj (nums (wB r b0 n) us') k'),∀zs,p.2≠tobj zs:=by
    intro p hp zs
    revert p hp
    exact f7 (P:=λp:Addr×Obj=>p.2≠tobj zs) cobj_tup cobj_tup cobj_tup (hk3 zs) (q1.not_tup zs) (q2.not_tup zs) lobj_tup
   have outV:(h1.push gobj).objs.size≠c.L∧(h1.push gobj).objs.size∉(smN cB cF cN bm bf n un o3 o1' o2' (lobj (nums (wB r b0 n) us') k')).map (·.1):=by
    have hLlt:@LT.lt Nat _ c.L h.objs.size:=F.ltL
    refine ⟨neA (by rw [hs2];lia),λq=>?_⟩
    rw [hmap] at q
    obtain ⟨p,hp,e⟩:=List.mem_map.mp q
    have:=ltN p hp
    have e':@Eq Nat p.1 (h1.push gobj).objs.size:=e
    lia
   refine hQ _ o1' o2' us' k' h' g' t' q1 q2 (by rw [hu',wB_len hr hb0]) (λhb'=>hb λy hy=>?_) (F2.know λh'' q=>⟨ys,kk,hlen,q _ _ outV.1 (by rw [hX];simp) outV.2 hD'',λj y e=>?_⟩)
   ·rcases Array.mem_push.mp hy with hy | rfl
    ·exact hb' y hy
    ·rfl
   ·obtain ⟨e',rfl,_,ht⟩:=hys j y e
    obtain ⟨us0,hu0,he⟩:=ht
    have ho:=tup_out F2 he hcls
    exact ⟨e',rfl,us0,hu0,q _ _ ho.1 (by rw [hX];simp) ho.2 he⟩
  ·revert b hb
   refine f3 ?_ ?_ ?_<;>trivial
  ·revert p hp
   refine f7 ?_ ?_ ?_ ?_ ?_ ?_ ?_
   ·exact hkk _ _ (n3 (nneq nd 0 4) (nneq nd 0 5) (nneq nd 0 6)) (F.news (cB,_) (by trivial)).1
   ·exact hkk _ _ (n3 (nneq nd 1 4) (nneq nd 1 5) (nneq nd 1 6)) (F.news (cF,cobj (some (.ref bf))) (by trivial)).1
   ·exact hkk _ _ (n3 (nneq nd 2 4) (nneq nd 2 5) (nneq nd 2 6)) (F.news (cN,cobj (some (.int (n:Int) un))) (by trivial)).1
   ·exact hkk _ _ (n3 (nneq nd 3 4) (nneq nd 3 5) (nneq nd 3 6)) (F.news (144,o3) (by trivial)).1
   ·exact e1
   ·exact e2
   ·exact hbf
end
end
section
namespace Gi
open Builtin
theorem lookup:typeLookup (.type "list") "__getitem__"=pure (some (.builtin "list.__getitem__")):=slot_list_getitem.lookup
theorem ty:typeOf (.builtin "list.__getitem__")=pure (.type "method_descriptor"):=by show builtinType _=_;rw [builtinType_eq_fast];kernel_rfl
theorem get:typeLookup (.type "method_descriptor") "__get__"=pure (some (.builtin "method_descriptor.__get__")):=by rw [typeLookup_type,builtinLookup_eq_fast];kernel_rfl
theorem noset:typeLookup (.type "method_descriptor") "__set__"=pure none:=by rw [typeLookup_type,builtinLookup_eq_fast];kernel_rfl
theorem nodel:typeLookup (.type "method_descriptor") "__delete__"=pure none:=by rw [typeLookup_type,builtinLookup_eq_fast];kernel_rfl
theorem slotG:Slot "method_descriptor" "__get__" "method_descriptor.__get__" :=
 .of (owner:="method_descriptor") (n:="__get__") get (by decide +kernel) (by decide +kernel) (by decide +kernel)
  (by first | exact .inl (by decide +kernel) | exact .inr (by decide +kernel)) (by rw [isSubtype_type];kernel_rfl)
theorem entryG:entryFor table "method_descriptor.__get__"=some Builtin.«method_descriptor.__get__»:=entryFor_of_tree (by kernel_rfl)
theorem argsG (a b c:Value):argsOk "method_descriptor.__get__" ⟨[a,b,c],[]⟩:=by unfold argsOk;kernel_rfl
noncomputable abbrev giObj (V:Addr):Obj:={ cls:=.type "builtin_function_or_method",data:=.fields #[.builtin "list.__getitem__",.ref V] }
section
theorem getRun {Q:PySem.Fin→Shared→Prop} (hT:s.TypeIs (.ref V) "list") (h:Q (.done (.ret (.ref s.heap.objs.size))) { s with heap:=s.heap.push (giObj V) }) :
  wpAny (model prog w) A (Builtin.«method_descriptor.__get__» ⟨[.builtin "list.__getitem__",.ref V,.type "list"],[]⟩) Q E s:=by
 have f6:Manifest.toldItsClass.contains "list.__getitem__"=false:=by decide +kernel
 unfold Builtin.«method_descriptor.__get__»
 refine wpAny_bind ?_
 refine wpAny_of_eq (a:=(.builtin "list.__getitem__",some (.ref V),some (.type "list"))) rfl ?_
 simp only [f6,Bool.false_eq_true,if_false]
 refine wpAny_bind ?_
 refine wpAny_bind ?_
 refine wpAny_of_eq (a:=(Str.ofString "__getitem__",.type "list")) (by kernel_rfl) ?_
 have fl:isSubtype (.type "list") (.type "list")=pure true:=by rw [isSubtype_type];kernel_rfl
 repeat (any_goals (first | assumption | wp_step))
theorem attrRun {Q:PySem.Fin→Shared→Prop} (hV:s.heap.get? V=some (lobj ys k)) (h:Q (.done (.ret (.ref s.heap.objs.size))) { s with heap:=s.heap.push (giObj V) }) :
  wpAny (model prog w) A (Builtin.«object.__getattribute__» ⟨[.ref V,.str "__getitem__" u],[]⟩) Q E s:=by
 obtain ⟨hp,g,d,tk,os⟩:=s
 have hT:(⟨hp,g,d,tk,os⟩:Shared).TypeIs (.ref V) "list":=⟨_,hV,rfl⟩
 have hV':hp.get? V=some { cls:=.type "list",dict:=none,data:=.seq ys.toArray k,slots:=#[] }:=hV
 have f1:=lookup
 have f2:=ty
 have f3:=get
 have f4:=noset
 have f5:=nodel
 unfold Builtin.«object.__getattribute__»
 repeat (any_goals (first | assumption | wp_step))
 refine codeAny_call_builtin slotG.plain entryG (slotG.check _ _ _ _ _ _ _ _ (show Shared.TypeIs _ _ _ from f2) (argsG _ _ _) ?_)
 refine getRun hT ?_
 exact wpAny_pure h
theorem attr {Q:VQ} (hV:s.heap.get? V=some (lobj ys k)) (h:∀tk',Q (.ref s.heap.objs.size) { s with heap:=s.heap.push (giObj V),toks:=tk' }) :
  wpAny (model prog w) A (getAttr (.ref V) "__getitem__" true) Q E s:=by
 obtain ⟨hp,g,d,tk,os⟩:=s
 have hT:∀tk',(⟨hp,g,d,tk',os⟩:Shared).TypeIs (.ref V) "list":=λ_=>⟨_,hV,rfl⟩
 have f3:=F.slot_list_getattribute.lookup
 have f4:=F.slot_list_getattribute.bind (.ref V)
 have f5:=am_list_getattr_none
 unfold getAttr getAttrBy
 repeat (any_goals (first | assumption | exact hT _ | wp_step))
 refine codeAny_call_builtin F.slot_list_getattribute.plain am_entry_list_getattribute (F.slot_list_getattribute.check _ _ _ _ _ _ _ _ (hT _) (F.args_list_getattribute_2 _ _) (attrRun hV ?_))
 show wpAny _ _ (handedOut _) _ _ _
 unfold handedOut
 repeat (any_goals (first | assumption | wp_step))
 all_goals first | exact h _ | trace_state
end
end Gi
end
section
namespace Gi
theorem quiet {as:Args}:(Code.builtin "list.__getitem__" as).quiet=true:=Code.quiet_builtin _ (by decide +kernel)
theorem sig:∃sg,Manifest.signature? "list.__getitem__"=some sg:=by
 have:(Manifest.signature? "list.__getitem__").isSome=true:=by decide +kernel
 exact Option.isSome_iff_exists.mp this
theorem kind:builtinKind "list.__getitem__"=some .method:=by decide +kernel
theorem va:Manifest.varargsMethods.contains "list.__getitem__"=false:=by decide +kernel
theorem notMod:isSubtype (.type "list") (.type "module")=pure false:=by rw [isSubtype_type];kernel_rfl
theorem args2 (a b:Value):(match Manifest.signature? "list.__getitem__" with | some sig=>Bind.checkArgs "list.__getitem__" { sig with full:=s!"{Bind.lastOf "list"}.{Bind.lastOf "list.__getitem__"}" } ⟨[a,b],[]⟩ | none=>pure ())=pure ():=by kernel_rfl
section
theorem check {i:Value} {P:Unit→Shared→Prop} (ho:s.heap.get? V=some (lobj ys k)) (h:P () s):wpAny (model prog w) A (checkBoundCall "list.__getitem__" ⟨[.ref V,i],[]⟩) P E s:=by
 have hT:s.TypeIs (.ref V) "list":=⟨_,ho,rfl⟩
 obtain ⟨sg,hs⟩:=sig
 have ha:=args_list_getitem (.ref V) i
 simp only [argsOk,hs] at ha
 unfold checkBoundCall
 simp only [hs,kind,va]
 have ha2:=args2 (.ref V) i
 simp only [hs] at ha2
 refine KFB.if_not (by decide) ?_
 refine wpAny_bind (wpAny_isInstance hT notMod ?_)
 refine KFB.if_not (by decide) ?_
 refine wpAny_bind ?_
 repeat (any_goals (first | assumption | wp_step))
theorem run {k:Int} {P:PySem.Fin→Shared→Prop} (hV:s.heap.get? V=some (lobj ys n)) (h0:0≤k) (hfit:k<2 ^ 63) (hj:ys[k.toNat]?=some v) (h:P (.done (.ret v)) s) :
  wpAny (model prog w) A (Builtin.«list.__getitem__» ⟨[.ref V,.int k u],[]⟩) P E s:=by
 show wpAny _ _ (Builtin.List.listSubscript? (.int k u) >>= _) _ _ s
 refine wpAny_bind (wpAny_listSubscript_int (fitsIndex_of h0 hfit) ?_)
 clear hfit
 obtain ⟨j,rfl⟩:=Int.eq_ofNat_of_zero_le h0
 have hx':ys.toArray[j]?=some v:=by rw [List.getElem?_toArray];exact hj
 show wpAny _ _ ((seqItemAt V j >>= λr=>pure (r.map (j,·))) >>= _) _ _ s
 refine wpAny_bind (wpAny_bind (wpAny_seqItemAt hV rfl (wpAny_pure ?_)))
 rw [hx']
 first
  | exact wpAny_bind (wpAny_pure (wpAny_pure h))
  | exact wpAny_pure (wpAny_pure h)
  | exact wpAny_pure h
theorem callGi {k:Int} {Q:VQ} (hg:s.heap.get? gi=some (giObj V)) (hV:s.heap.get? V=some (lobj ys n)) (h0:0≤k) (hfit:k<2 ^ 63) (hj:ys[k.toNat]?=some v) (h:Q v s) :
  wpAny (model prog w) A (call (.ref gi) [.int k u]) Q E s:=by
 refine wpAny_call (codeAny_of_tree ?_)
 show wpAny _ A.in1 (callAny (.ref gi) ⟨[.int k u],[]⟩) _ _ s
 simp only [callAny]
 refine wpAny_bind (wpAny_load hg ?_)
 simp only [show (Value.type "builtin_function_or_method" == Value.type "method" || Value.type "builtin_function_or_method" == Value.type "builtin_function_or_method" || Value.type "builtin_function_or_method" == Value.type "method-wrapper")=true by decide,if_true]
 refine KFB.if_so (by decide) ?_
 refine wpAny_bind (check hV ?_)
 refine wpAny_bind (wpAny_pure (wpAny_pure ?_))
 refine ⟨quiet,codeAny_builtin entry_list_getitem ?_⟩
 exact run hV h0 hfit hj h
theorem keeps (h:Heap) (X:h.get? gi=some (giObj V)):∃k,(k=Keeper.frame∨k=Keeper.machine∨k=Keeper.boundFrame)∧Looks M h (keeperOf (.ref gi)) k:=by
 refine ⟨.machine,.inr (.inl rfl),(Looks.ld (part:=none) X).andThen ?_⟩
 exact Looks.now
end
end Gi
end
section
noncomputable def XorF (as bs:List Nat) (i:Nat) (y:Value):Prop:=Ex2 λ(m:Nat) (u:Tok)=>(xorL as bs)[i]?=some m∧y = .int (m:Int) u
section
variable {g:Nat} {F:Nat→Value→Prop} {Fin:HP}
theorem GAt.walks (hh:A.handled=none) (hroom:A.depth<recursionLimit) (haC:a≠C) (haw:a∉wr) (hcC:cStatics≠C) (hcw:cStatics∉wr) (hsub:∀b∈wr,b∈fp) (hfin:∀h h',Fin h→(∀b o,h.get? b=some o→h'.get? b=some o)→Fin h') :
  WalksS prog w A a (a::cStatics::C::fp) (C::wr) (GenOnlyQ g) n₀ F (GAt prog w A a g C fp wr n₀ F Fin) where
 sub:=λb hb=>by
  rcases List.mem_cons.mp hb with rfl | hb
  ·simp
  ·exact List.mem_cons_of_mem _ (List.mem_cons_of_mem _ (List.mem_cons_of_mem _ (hsub b hb)))
 grefl:=λ_=>.inl rfl
 gtrans:=λ_ _ _ x y=>x.trans y
 frame:=λi s h' tk st _ hk=>by
  obtain ⟨hg,hl,gs,hgs,hgo⟩:=st
  refine ⟨let ⟨o,nm,qn,ho,r⟩:=hg;⟨o,nm,qn,hk a (by trivial) o ho,r⟩,let ⟨mc,hns,hnn⟩:=hl;⟨mc,hns.at' λo e=>hk cStatics (by trivial) o e,hnn⟩,gs,hgs,λs'' hal=>hgo s'' λb hb o e=>hal b hb o (hk b ?_ o e)⟩
  exact List.mem_cons_of_mem _ (List.mem_cons_of_mem _ hb)
 item:=λi s Q E hi st hQ=>wpAny_with_toks (Nat.le_refl _) (gNext hh hroom haC haw hcC hcw hi st λv s' hF st' m htk=>hQ v s' hF st' ⟨λb o hb e=>m.heap b o (λr=>hb (by rw [r];simp)) (λr=>hb (List.mem_cons_of_mem _ r)) e,m.gens,m.drawn,m.os,htk⟩)
 done:=λs Q E st hQ=>wpAny_with_toks (Nat.le_refl _) (gDone hh hroom st hfin λs' m _ htk=>hQ s' ⟨λb o hb e=>m.heap b o (λr=>hb (by rw [r];simp)) (λr=>hb (List.mem_cons_of_mem _ r)) e,m.gens,m.drawn,m.os,htk⟩)
 self:=λi s Q E st hQ=>wpAny_pyIter_gen st.1 hQ
end
section
set_option maxHeartbeats 1000000
theorem genMake (D:KDom K) (hbi:BiOk K mg) {P:Addr} {bs:List Nat} {Q:VQ}
  (hgl:env.globals=mainGlobals) (hcode:env.code = .ref cc) (hct:CodeTab K cc P) (hP:h.get? P=some (tabObj ps)) (htab:TriplesOk ps.toList) (hPt:P∈tabs)
  (hA:AOk 3 A) (W:W0 K mg mb h) (hbs:as.length=bs.length)
  (hiter:∀(Q:VQ),(∀z TI TO i1 i2 f1 f2 n2 P1 P2 S1 S2 h1 t1,ZN prog w as bs P h h1 z TI TO i1 i2 f1 f2 n2 P1 P2 S1 S2→Q (.ref z) ⟨h1,g,d,t1,o⟩)→wpAny (model prog w) A (eval iter env) Q E ⟨h,g,d,t,o⟩)
  (helt:∀(C:Addr) (code:Value) (bi:Addr) (A':Around) (E':VQ) (i:Nat) va vb (s₂:Shared) m₂,A'.handled=none→(Ex2 λ(m:Nat) (u:Tok)=>as[i]?=some m∧va = .int (m:Int) u)→(Ex2 λ(m:Nat) (u:Tok)=>bs[i]?=some m∧vb = .int (m:Int) u) →
   s₂.heap.Ns C m₂→m₂ xa=some va→m₂ xb=some vb→wpAny (model prog w) A' (eval elt (genEnv scope cl C code bi env)) (λy s₃=>XorF as bs i y∧Keeps s₂ s₃) E' s₂)
  (hclos:closureFor scope env=pure cl) (hcell:∀y∈scope.names,y.2≠.cell) (h0:scope.names.lookup (".0":Str)=some NameKind.local) (hkind:scope.kind = .function) (hco:scope.isCoroutine=false)
  (hxa:scope.names.lookup xa=some .local) (hxb:scope.names.lookup xb=some .local) (hab:xa≠xb) (hfold:∀x,genFold iter env x=pure x)
  (hQ:∀a C fp wr h' t' gst ps',(∀b∈wr,b∈fp)→(∀A':Around,A'.handled=none→GAt prog w A' a g.size C fp wr as.length (XorF as bs) (λ_=>True) 0 ⟨h',g.push gst,d,t',o⟩)→(∀b∈a::C::wr,h.objs.size≤b)→a≠C→a∉wr→(∀b∈a::C::fp,b<h'.objs.size )→gst.bare=true →
   (∀b o,b≠P→h.get? b=some o→h'.get? b=some o)→h.objs.size≤h'.objs.size→TabNew gpos ps ps'→h'.get? P=some (tabObj ps')→Q (.ref a) ⟨h',g.push gst,d,t',o⟩) :
  wpAny (model prog w) A (eval (.GeneratorExp elt [⟨.Tuple [.Name xa pa,.Name xb pb] kt pt,iter,[],0⟩] scope gpos) env) Q E ⟨h,g,d,t,o⟩:=by
 refine wpAny_GeneratorExp_make hco hclos hcell h0 hkind hA.room (hiter _ λz TI TO i1 i2 f1 f2 n2 P1 P2 S1 S2 h1 t1 Z=>?_) hfold
 have W1:W0 K mg mb h1:=W.keeps (S:=[]) D (by trivial) (λb o _ e=>Z.kept b o e) Z.size
 have hP1:=Z.kept _ _ hP
 refine wpAny_pyIter_zip Z.st.1 ⟨W1.lim,?_⟩
 have hic:=hct.isCode W1.k hP1 htab
 refine wpAny_with_size (Nat.le_refl _) (genCodeT hcode hic hP1 λcode h2 tk2 ps' hext htn hP2 hz2=>?_)
 have hz2:h1.objs.size≤h2.objs.size:=hz2
 have W2:W0 K mg mb h2:=W1.keeps (S:=[P]) D (λb hb=>.inr (by rw [List.mem_singleton.mp hb];exact hPt)) (λb o hb e=>hext b o (λr=>hb (List.mem_singleton.mpr r)) e) hz2
 obtain ⟨bm,ob,hb1,hb2,hb3,hb4,hb5,hb6⟩:=hbi
 refine wpAny_builtinsFor (by rw [hgl];exact W2.g) hb1 hb2 (W2.k _ _ hb3) hb4 hb5 hb6 ?_
 intro h3 hn3 hs3
 have hz3:h3.objs.size=h2.objs.size+1:=by rw [hs3.1,Heap.size_push]
 have k3:∀b o,h2.get? b=some o→h3.get? b=some o:=λb o e=>(hs3.2 b (Nat.ne_of_lt (Heap.lt_size e))).trans (Heap.get?_push_of_some _ e)
 have hC0:h.objs.size≤h2.objs.size:=Nat.le_trans Z.size hz2
 have k12:∀b o,b≠P→h1.get? b=some o→h2.get? b=some o:=λb o hb e=>hext b o hb e
 generalize hgo:({ cls:=.type "generator",data:=.fields #[.int g.size 0,.str "<genexpr>" (tk2+1),.str (env.qual++"<genexpr>") (tk2+1+1)] }:Obj)=gobj
 have hz4:(h3.push gobj).objs.size=h2.objs.size+2:=by rw [Heap.size_push,hz3]
 have k34:∀b o,h2.get? b=some o→(h3.push gobj).get? b=some o:=λb o e=>Heap.get?_push_of_some _ (k3 b o e)
 have W4:W0 K mg mb (h3.push gobj):=W2.keeps (S:=[]) D (by trivial) (λb o _ e=>k34 b o e) (by lia)
 have st1:ZSt z TI TO i1 i2 S1 S2 .none 0 0 h2:=ZSt.frame Z.z1 Z.z2 Z.st λb hb o e=>k12 b o (Z.fp b hb).2 e
 have hfl:∀b:Nat,b∈z::TI::TO::(f1++f2)→b<h2.objs.size:=λb hb=>Nat.lt_of_lt_of_le (Z.fp b hb).1 hz2
 have hsub:∀b∈[z,TO,i1,i2],b∈z::TI::TO::(f1++f2):=(zipU (A:=A) hA.1 Z.z1 Z.z2 Z.ap Z.le).sub
 refine hQ h3.objs.size h2.objs.size (z::TI::TO::(f1++f2)) [z,TO,i1,i2] (h3.push gobj) _ _ ps' hsub (λA' hA'=>?_) ?_ (neA (by lia)) (λq=>absurd (hfl _ (hsub _ q)) (by lia)) ?_ rfl (λb o hbP e=>k34 b o (k12 b o hbP (Z.kept b o e))) (by lia) htn (k34 P _ hP2)
 ·refine GAt.fresh (cenv:=genEnv scope cl h2.objs.size code builtinsNs env) hA' (λA' hA'=>zipP hA' Z.z1 Z.z2 Z.ap Z.le |>.finMono λ_ _=>trivial) hab hxa hxb (by simp [genEnv,hkind]) hco (λq=>absurd (hfl _ q) (Nat.lt_irrefl _))
   (λA' E' i va vb s₂ m₂ hA' hPt hn ha hb=>helt h2.objs.size code builtinsNs A' E' i va vb s₂ m₂ hA' (Z.p1 i va hPt.1) (Z.p2 i vb hPt.2) hn ha hb)
   ⟨_,_,_,by rw [←hgo];exact Heap.get?_push_size _ rfl,rfl,rfl,rfl⟩ (Array.getElem?_push_size ..) (ZSt.frame Z.z1 Z.z2 st1 λb _ o e=>k34 b o e) (hn3.push gobj) W4.lim
 ·intro b hb
  rcases List.mem_cons.mp hb with rfl | hb
  ·show @LE.le Nat _ _ _;lia
  ·rcases List.mem_cons.mp hb with rfl | hb
   ·exact hC0
   ·exact Z.wr b hb
 ·intro b hb
  rcases List.mem_cons.mp hb with rfl | hb
  ·show @LT.lt Nat _ _ _;lia
  ·rcases List.mem_cons.mp hb with rfl | hb
   ·show @LT.lt Nat _ _ _;lia
   ·have:=hfl b hb
    show @LT.lt Nat _ _ _;lia
end
end
section
theorem nums_at (h:(nums xs us)[i]?=some v):Ex2 λ(m:Nat) (u:Tok)=>xs[i]?=some m∧v = .int (m:Int) u:=by
 obtain ⟨x,u,e1,e2,rfl⟩:=zipWith_at h
 rw [List.getElem?_map] at e1
 cases e3:xs[i]? with
 | none=>rw [e3] at e1;cases e1
 | some z=>rw [e3] at e1;cases e1;exact ⟨z,u,rfl,rfl⟩
section
variable {P:Addr} {bs:List Nat} {Q:VQ}
theorem zipCallLT (ha:h.get? l1=some (lobj (nums as us) k)) (hu:us.length=as.length) (hb:IsTN h l2 bs) (hle:as.length≤bs.length)
  (h278:278≤h.objs.size) (hP:P<278) (hl1:l1≠P) (hl2:l2≠P)
  (hQ:∀z TI TO i1 i2 f1 f2 n2 P1 P2 S1 S2 h1 t1,ZN prog w as bs P h h1 z TI TO i1 i2 f1 f2 n2 P1 P2 S1 S2→Q (.ref z) ⟨h1,g,d,t1,o⟩) :
  wpAny (model prog w) A (call (.type "zip") [.ref l1,.ref l2]) Q E ⟨h,g,d,t,o⟩:=by
 have hxs:h.IsList l1 (nums as us).toArray:=⟨_,ha,rfl,_,rfl⟩
 have hxl:(nums as us).toArray.size=as.length:=by rw [List.size_toArray];exact nums_len hu
 obtain ⟨ys,hys,hyl,hyv⟩:=hb.tuple
 have lt1:@LT.lt Nat _ l1 h.objs.size:=Heap.lt_size ha
 exact callType_new F.called_zip (by decide) (F.typeCall_zip_2 _ _) (F.newCall_zip_2 _ _) (λobj=>F.args_object_init_3 obj _ _) F.entry_zip_new (meets_zip_lt l1 l2 (nums as us).toArray ys) ⟨hxs,hys,zipEnd rfl (hxl▸ZIt.list h.objs.size l1 (neA (Nat.ne_of_lt lt1)) (nums as us).toArray) (λi x hx=>nums_at (by rw [List.getElem?_toArray] at hx;exact hx)) (λh' e k=>⟨⟨_,e,rfl,rfl⟩,(let ⟨o,e,r⟩:=hxs;⟨o,k _ _ e,r⟩)⟩) lt1 hys hyl hyv hle h278 hP hl1 hl2 hQ⟩
end
section
theorem giCall {Q:VQ} (i jy:Nat) (H:c.Ok n) (F:c.SS l N Φ h)
  (hi:l[i]?=some (x,some (.ref gi))) (hj:l[jy]?=some (y,some (.int (j:Int) u))) (hg:h.get? gi=some (Gi.giObj V)) (hV:h.get? V=some (lobj ys kk)) (hv:ys[j]?=some v) (hy:ys.length≤1000) (hQ:Q v (c.st h t))
  (kx:Loc c.env x) (ky:Loc c.env y) (dx:ND x) (dy:ND y)
  (hst:Unst (.Name y py) [] c.env)
  (hplain:Plain pos [] c.env)
  (hev:CallIs x px [.Name y py] pos c.env) :
  c.wp (eval (.Call (.Name x px) [.Name y py] [] pos) c.env) Q E (c.st h t):=by
 refine PyProof.Rows.Call_ (ld H F hi ?_ kx dx) hev
 rw [hst]
 refine callWith_of (P:=λh=>h.get? gi=some (Gi.giObj V)) (by show ((false || (backTo pos (starEach [] c.env)).any (·.1)) || false)=false;rw [hplain];rfl) (λh X=>Gi.keeps h X) (evalArgs_plain (spliced_cons (ld H F hj (spliced_nil ?_) ky dy)))
 have hl:j<ys.length:=(List.getElem?_eq_some_iff.mp hv).1
 refine ⟨hg,Gi.callGi (k:=(j:Int)) hg hV (by trivial) ?_ (by rw [Int.toNat_natCast];exact hv) hQ⟩
 have h2:(1000:Int)<2 ^ 63:=by decide
 lia
end
end
section
theorem nums_ex (xs:List Nat) (vs:List Value) (hl:vs.length=xs.length) (hv:∀(j:Nat) v,vs[j]?=some v→Ex2 λ(m:Nat) (u:Tok)=>xs[j]?=some m∧v = .int (m:Int) u):∃us,us.length=xs.length∧vs=nums xs us :=
 RL.lift (R:=NatR) (h:=default) (G:=λxs vs=>∃us,us.length=xs.length∧vs=nums xs us) ⟨[],rfl,rfl⟩ (λ_ _ _ _ ⟨u,e⟩ ⟨us,hu,e2⟩=>⟨u::us,congrArg (·+1) hu,by rw [e,e2];rfl⟩)
  ⟨hl,λj v e=>let ⟨m,u,e1,e2⟩:=hv j v e;⟨m,e1,u,e2⟩⟩
section
theorem EvS.tup (EMM:EM c.K c.mg c.mb) (H:c.Ok n) (hn:7≤n) {P:Addr} {bs:List Nat} (i:Nat)
  (hcode:c.env.code = .ref cc) (hct:CodeTab c.K cc P) (hi:N[i]?=some (P,tabObj ps)) (htab:TriplesOk ps.toList) (hPt:P∈tabs) (hbs:as.length=bs.length) (has:as.length≤1000)
  (hiter:∀Φ':HP,(∀h,Φ' h→Φ h)→∀h t (Q:VQ) (E:VQ),c.SS l N Φ' h →
   (∀z TI TO i1 i2 f1 f2 n2 P1 P2 S1 S2 h1 t1,ZN c.prog c.w as bs P h h1 z TI TO i1 i2 f1 f2 n2 P1 P2 S1 S2→Q (.ref z) (c.st h1 t1))→c.wp (eval iter c.env) Q E (c.st h t))
  (hclos:closureFor scope c.env=pure cl) (hcell:∀y∈scope.names,y.2≠.cell) (h0:scope.names.lookup (".0":Str)=some NameKind.local) (hkind:scope.kind = .function) (hco:scope.isCoroutine=false)
  (hxa:scope.names.lookup xa=some .local) (hxb:scope.names.lookup xb=some .local) (hab:xa≠xb) (hda:ND xa) (hdb:ND xb) (hfold:∀x,genFold iter c.env x=pure x)
  (hka:∀C code bi,(genEnv scope cl C code bi c.env).kindOf xa=some .local) (hkb:∀C code bi,(genEnv scope cl C code bi c.env).kindOf xb=some .local)
  (kt':Glo c.env "tuple")
  (s1:Unst (.GeneratorExp (.BinOp (.Name xa p1) .BitXor (.Name xb p2) p3) [⟨.Tuple [.Name xa pa,.Name xb pb] kt pt,iter,[],0⟩] scope gpos) [] c.env)
  (hev:CallIs "tuple" np [.GeneratorExp (.BinOp (.Name xa p1) .BitXor (.Name xb p2) p3) [⟨.Tuple [.Name xa pa,.Name xb pb] kt pt,iter,[],0⟩] scope gpos] pos c.env) :
  EvS c l N Φ (.Call (.Name "tuple" np) [.GeneratorExp (.BinOp (.Name xa p1) .BitXor (.Name xb p2) p3) [⟨.Tuple [.Name xa pa,.Name xb pb] kt pt,iter,[],0⟩] scope gpos] [] pos) (λN'=>∃ps',N'=N.set i (P,tabObj ps')∧TabNew gpos ps ps') (TupN (xorL as bs)):=by
 intro Φ' k h t Q E F hQ
 have hA:=H.A.le hn
 have hP:=F.new hi
 have W:=H.W1 F
 have hPt':@LT.lt Nat _ P 278:=by
  have:=hPt
  simp only [tabs,List.mem_cons,List.not_mem_nil,or_false] at this
  rcases this with rfl | rfl | rfl | rfl | rfl<;>decide
 have hcs:@LT.lt Nat _ cStatics 278:=by decide
 have h278:278≤h.objs.size:=W.size
 refine PyProof.Rows.Call_ (bl H F EMM.tuple.1 EMM.tuple.2 (PyProof.Rows.callWith_type1 ?_ s1) kt' (by decide)) hev
 rw [s1]
 refine spliced_cons (genMake EMM.ek.dom EMM.bi H.globals hcode hct hP htab hPt (hA.le (by decide)) W hbs (λQ hq=>hiter Φ' k h t Q E F hq)
  (λC code bi A' E' i va vb s₂ m₂ hA' ha hb hn ma mb=>xorElt (by simp [genEnv,hkind]) (hka C code bi) (hkb C code bi) hda hdb ha hb hn ma mb)
  hclos hcell h0 hkind hco hxa hxb hab hfold (λa C fp wr h1 t1 gst ps' hsub hG hge haC haw hlt hbare hk hz htn hP1=>spliced_nil ?_))
 have hA3:AOk 4 c.A.in1.in1.in1:=(hA.in1.in1.in1)
 have hcsz:∀b∈a::C::wr,cStatics≠b:=λb hb=>neA (Nat.ne_of_lt (Nat.lt_of_lt_of_le hcs (Nat.le_trans h278 (hge b hb))))
 refine wpAny_with_size (Nat.le_refl _) (call_tuple_gen (GAt.walks hA3.1 hA3.room haC haw (hcsz C (by trivial)) (λq=>hcsz _ (List.mem_cons_of_mem _ (List.mem_cons_of_mem _ q)) rfl) hsub λ_ _ _ _=>trivial) (λi s st=>st.1.typeIs) (hG _ hA3.1) (λb hb=>?_) (by trivial) (λs' acc hm hacc hzz=>?_) (Nat.le_trans has (by decide)))
 ·rcases List.mem_cons.mp hb with rfl | hb
  ·exact hlt _ (by trivial)
  ·rcases List.mem_cons.mp hb with rfl | hb
   ·exact Nat.lt_of_lt_of_le hcs (Nat.le_trans h278 hz)
   ·exact hlt b (List.mem_cons_of_mem _ hb)
 obtain ⟨h2,g2,d2,t2,o2⟩:=s'
 obtain ⟨hh,hg,rfl,rfl,_⟩:=hm
 have hh:∀b o,b∉C::wr→h1.get? b=some o→h2.get? b=some o:=hh
 have hlow:∀b o,h.get? b=some o→b∉C::wr:=λb o e q=>absurd (Heap.lt_size e) (Nat.not_lt.mpr (hge b (List.mem_cons_of_mem _ q)))
 have hz2:h.objs.size≤h2.objs.size:=by
  have q1:h1.objs.size≤(h2.push _).objs.size:=hzz
  rw [Heap.size_push] at q1
  have q2:@LE.le Nat _ h.objs.size a:=hge a (by trivial)
  have q3:@LT.lt Nat _ a h1.objs.size:=hlt a (by trivial)
  lia
 have hlen:(xorL as bs).length=as.length:=by rw [xorL_len];lia
 obtain ⟨us,hu,e⟩:=nums_ex (xorL as bs) acc.toList (by rw [Array.length_toList,hacc.1,hlen]) (λj v hj=>hacc.2 j v (by rw [←Array.getElem?_toList];exact hj))
 have e':acc=(nums (xorL as bs) us).toArray:=by rw [←e]
 rw [e']
 have F2:c.SS l (N.set i (P,tabObj ps')) Φ' h2:=SS.calls F (W:=[P]) (set_keysN hi) (λb hb=>by rw [List.mem_singleton.mp hb];exact List.mem_map_of_mem (f:=Prod.fst) (List.mem_of_getElem? hi)) (λb o hb e=>hh b o (hlow b o e) (hk b o (λq=>hb (List.mem_singleton.mpr q)) e)) hz2 (λp hp=>?_)
 ·have F3:=F2.push' (tobj (nums (xorL as bs) us))
  have hT:Since h.objs.size (h2.push (tobj (nums (xorL as bs) us))) (TupN (xorL as bs) (.ref h2.objs.size)):=λh'' q=>⟨us,h2.objs.size,hu,rfl,q _ _ hz2 (Heap.get?_push_size _ rfl)⟩
  exact hQ _ _ _ g2 t2 ⟨ps',rfl,htn⟩ (λhb=>GenOnlyQ.bare hg λy hy=>by
   rcases Array.mem_push.mp hy with hy | rfl
   ·exact hb y hy
   ·exact hbare) (SS.knowNew2 F F3 (set_keysN hi) hT)
 ·obtain ⟨j,hj⟩:=List.mem_iff_getElem?.mp hp
  rw [List.getElem?_set] at hj
  by_cases hij:i=j
  ·subst hij
   rw [if_pos rfl,if_pos (List.getElem?_eq_some_iff.mp hi).1] at hj
   cases hj;exact hh _ _ (λq=>absurd hPt' (Nat.not_lt.mpr (Nat.le_trans h278 (hge P (List.mem_cons_of_mem _ q))))) hP1
  ·rw [if_neg hij] at hj
   have hn:=F.new hj
   refine hh _ _ (hlow _ _ hn) (hk _ _ (λq=>?_) hn)
   obtain ⟨pa,po⟩:=p
   dsimp only at q
   subst q
   exact hij (nodup_at F.ndn hi hj)
end
end
section
theorem wsalsa_lt (xs:List Nat):∀x∈wsalsa xs,x<2 ^ 32:=by
 intro x hx
 unfold wsalsa at hx
 obtain ⟨i,hi⟩:=List.mem_iff_getElem?.mp hx
 rw [List.getElem?_zipWith] at hi
 split at hi
 ·cases hi
  exact Nat.lt_of_le_of_lt Nat.and_le_right (by decide)
 ·cases hi
theorem wblk_lt (src:List Nat):∀x∈wblk r src,x<2 ^ 32:=by
 intro x hx
 unfold wblk at hx
 split at hx
 ·unfold wblk1 at hx
  rcases List.mem_append.mp hx with h | h<;>exact wsalsa_lt _ x h
 ·unfold wblk2 at hx
  have q:∀i,x∈ws src (i+1)→x<2 ^ 32:=λi h=>wsalsa_lt _ x h
  rcases List.mem_append.mp hx with h | h
  ·rcases List.mem_append.mp h with h | h
   ·rcases List.mem_append.mp h with h | h
    ·exact q 0 h
    ·exact q 2 h
   ·exact q 1 h
  ·exact q 3 h
noncomputable def wS (r n:Nat) (b0:List Nat):Nat→List Nat
 | 0=>wB r b0 n
 | i+1=>wblk r (xorL (wS r n b0 i) (wB r b0 ((wS r n b0 i).getD (32*r - 16) 0 &&& (n - 1))))
theorem wS_len (hr:r=1∨r=2) (h:b0.length=32*r):∀i,(wS r n b0 i).length=32*r
 | 0=>wB_len hr h n
 | i+1=>wblk_len hr (by rw [xorL_len,wS_len hr h i,wB_len hr h];simp)
theorem wS_lt (b0:List Nat) (i:Nat):∀x∈wS r n b0 (i+1),x<2 ^ 32:=wblk_lt _
noncomputable def wsmix (r n:Nat) (bs:List UInt8):List UInt8:=St.wpack (wS r n ((List.range (32*r)).map (lword bs)) n)
theorem getMethod_builtinG {o:Obj} {name:Str} {id:String} {Q:Value×List Value→Shared→Prop} (ho:s.heap.get? a=some o) (hc:o.cls = .type T) (hdn:o.dict=none) (pa:PlainAttrs T)
  (hlook:typeLookup (.type T) name=pure (some (.builtin id))) (hty:typeOf (.builtin id)=pure (.type "method_descriptor"))
  (h:Q (.builtin id,[.ref a]) s):wpAny M A (getMethod (.ref a) name pl) Q E s:=by
 have hT:s.TypeIs (.ref a) T:=⟨o,ho,hc⟩
 obtain ⟨g,hg,hcan⟩:=pa.ga
 unfold getMethod
 refine wpAny_bind (wpAny_specialOf hT hg ?_)
 show wpAny M A (if (Manifest.canonical g != "object.__getattribute__")=true then _ else _) Q E s
 rw [hcan,if_neg Bool.false_ne_true]
 refine wpAny_bind (wpAny_specialOf hT pa.noGetattr ?_)
 refine wpAny_bind (wpAny_specialOf hT hlook ?_)
 refine wpAny_bind (wpAny_of_eq hty ?_)
 refine wpAny_bind (wpAny_load ho ?_)
 rw [hdn]
 exact wpAny_bind (wpAny_rule (wpAny_pure h))
section
theorem asS {P:VH} {NN:LN→Prop} {w:Option Value} (i:Nat) (H:c.Ok n) (F:c.SS l N Φ h) (he:EvS c l N Φ e NN P)
  (hQ:∀v N' g' h' t',NN N'→GensOk c.g g'→let l':=l.set i (x,some v);c.SS l' N' (λh=>Φ h∧P v h) h'→(c.gn g').wp (execs rest c.env) Q E ((c.gn g').st h' t'))
  (hi:l[i]?=some (x,w):=by rfl) (hl:Loc c.env x:=by rfl) (hs:Swp e x p' pos c.env:=by rfl) :
  c.wp (execs (.Assign [.Name x p'] e pos::rest) c.env) Q E (c.st h t) :=
 wpAny_execs_cons (wpAny_Assign_Name (he _ (λ_ x=>x) h t _ _ F λv N' _ g1 _ hN hg F1=>stn (c:=c.gn g1) (H.gn g1) F1 hi (λh2 F2=>hQ v N' g1 h2 _ hN hg F2) hl) hs)
theorem asSU {β:Type} {f:β→Value} {NN:LN→Prop} {w:Option Value} (i:Nat) (H:c.Ok n) (F:c.SS l N Φ h) (he:EvS c l N Φ e NN (λv _=>∃u,v=f u))
  (hQ:∀u N' g' h' t',NN N'→GensOk c.g g'→let l':=l.set i (x,some (f u));c.SS l' N' Φ h'→(c.gn g').wp (execs rest c.env) Q E ((c.gn g').st h' t'))
  (hi:l[i]?=some (x,w):=by rfl) (hl:Loc c.env x:=by rfl) (hs:Swp e x p' pos c.env:=by rfl) :
  c.wp (execs (.Assign [.Name x p'] e pos::rest) c.env) Q E (c.st h t) :=
 asS i H F he (λv N' g' h' t' hN hg F'=>by obtain ⟨u,rfl⟩:=F'.phi.2;exact hQ u N' g' h' t' hN hg (F'.weaken λ_ y=>y.1)) hi hl hs
theorem asSTN {NN:LN→Prop} {w:Option Value} (i:Nat) (H:c.Ok n) (F:c.SS l N Φ h) (he:EvS c l N Φ e NN (TupN zs))
  (hQ:∀a N' g' h' t',NN N'→GensOk c.g g'→let l':=l.set i (x,some (.ref a));c.SS l' N' (λh=>Φ h∧IsTN h a zs) h'→(c.gn g').wp (execs rest c.env) Q E ((c.gn g').st h' t'))
  (hi:l[i]?=some (x,w):=by rfl) (hl:Loc c.env x:=by rfl) (hs:Swp e x p' pos c.env:=by rfl) :
  c.wp (execs (.Assign [.Name x p'] e pos::rest) c.env) Q E (c.st h t) :=
 asS i H F he (λv N' g' h' t' hN hg F'=>by
  obtain ⟨a,rfl,_⟩:=F'.phi.2.at
  exact hQ a N' g' h' t' hN hg (F'.weaken λh y=>⟨y.1,let ⟨_,e,q⟩:=y.2.at;Value.ref.inj e▸q⟩)) hi hl hs
theorem asGi {w:Option Value} (i j:Nat) (H:c.Ok n) (F:c.SS l N Φ h) (hj:l[j]?=some (y,some (.ref V))) (hV:∀h,Φ h→Ex2 λys k=>h.get? V=some (lobj ys k))
  (hQ:∀gi h' t',let l':=l.set i (x,some (.ref gi));c.SS l' N (λh=>Φ h∧h.get? gi=some (Gi.giObj V)) h'→c.wp (execs rest c.env) Q E (c.st h' t'))
  (hi:l[i]?=some (x,w):=by rfl) (hl:Loc c.env x:=by rfl) (ky:Loc c.env y:=by rfl) (dy:ND y:=by decide)
  (hs:Swp (.Attribute (.Name y yp) "__getitem__" ap) x p' pos c.env:=by rfl) :
  c.wp (execs (.Assign [.Name x p'] (.Attribute (.Name y yp) "__getitem__" ap) pos::rest) c.env) Q E (c.st h t):=by
 refine wpAny_execs_cons (wpAny_Assign_Name (PyProof.Rows.Attribute_name (ld H F hj ?_ ky dy)) hs)
 obtain ⟨ys,k,e⟩:=hV h F.phi
 refine Gi.attr e λtk=>?_
 have F2:=SS.knowNew2 F (F.push' (Gi.giObj V)) rfl (P:=λhh=>hh.get? h.objs.size=some (Gi.giObj V)) (λh'' q=>q _ _ (Nat.le_refl _) (Heap.get?_push_size _ rfl))
 exact stn H F2 hi (λh2 F3=>hQ h.objs.size h2 _ F3) hl
theorem asBuf {z:Str} {zp cp1 cp2:Pos} {st:Addr} {w:Option Value} (i j k:Nat) (EMM:EM c.K c.mg c.mb) (H:c.Ok n) (F:c.SS l N Φ h) (hr:r=1∨r=2)
  (hj:l[j]?=some (y,some (.ref st))) (hk:l[k]?=some (z,some (.bytes bs.toArray tb))) (hst:∀h,Φ h→St.StAt h st r) (hb:bs.length=128*r)
  (hQ:∀b0 bf us k' h' t',(List.range (32*r)).map (lword bs)=b0→us.length=32*r→h.objs.size≤bf→let N':=(N++[(bf,lobj (nums b0 us) k')]).set i (a,cobj (some (.ref bf)));c.SS l N' Φ h'→c.wp (execs rest c.env) Q E (c.st h' t'))
  (hi:N[i]?=some (a,cobj w):=by rfl) (hc:c.env.cells.lookup x=some a:=by rfl) (hl:Cel c.env x:=by rfl) (ky:Loc c.env y:=by rfl) (kz:Loc c.env z:=by rfl)
  (dy:ND y:=by decide) (dz:ND z:=by decide) (kl:Glo c.env "list":=by rfl)
  (s1:Unst (.Call (.Attribute (.Name y yp) "unpack" ap) [.Name z zp] [] cp1) [] c.env:=by rfl)
  (s2:Unst (.Name z zp) [] c.env:=by rfl)
  (hev:CallIs "list" np [.Call (.Attribute (.Name y yp) "unpack" ap) [.Name z zp] [] cp1] cp2 c.env:=by rfl)
  (hev2:eval (.Call (.Attribute (.Name y yp) "unpack" ap) [.Name z zp] [] cp1) c.env=(do
   let ov←eval (.Name y yp) c.env
   standAt ap.atName
   let (f,first)←holding [ov] (getMethod ov "unpack" pl)
   callWith cp1 f first (backTo cp1 (starEach [.Name z zp] c.env)) []):=by rfl)
  (hs:Swp (.Call (.Name "list" np) [.Call (.Attribute (.Name y yp) "unpack" ap) [.Name z zp] [] cp1] [] cp2) x p' pos c.env:=by rfl) :
  c.wp (execs (.Assign [.Name x p'] (.Call (.Name "list" np) [.Call (.Attribute (.Name y yp) "unpack" ap) [.Name z zp] [] cp1] [] cp2) pos::rest) c.env) Q E (c.st h t):=by
 refine wpAny_execs_cons (wpAny_Assign_Name (PyProof.Rows.Call_ (bl H F EMM.list.1 EMM.list.2 (PyProof.Rows.callWith_type1 ?_ s1) kl (by decide)) hev) hs)
 rw [s1]
 have hst':=hst h F.phi
 obtain ⟨tt,e⟩:=id hst'
 refine spliced_cons (PyProof.Rows.MethodCall_ (ld H F hj (getMethod_builtinG e rfl rfl St.plain St.slot.lookup St.type_eq (PyProof.Rows.callWith_method1 ?_ s2)) ky dy) hev2)
 rw [s2]
 refine spliced_cons (ld H F hk (spliced_nil (St.call_unpack hr hst' hb λus k' hu=>spliced_nil ?_)) kz dz)
 have hlen:(nums ((List.range (32*r)).map (lword bs)) us).length=32*r:=by rw [nums_len (by simp [hu])];simp
 refine wpAny_with_size (Nat.le_refl _) (call_list_seq (T:="tuple") h.objs.size (.inr rfl) (Heap.get?_push_size _ rfl) rfl rfl (λh' c' hk' e' hz=>?_) (by rw [List.size_toArray,hlen];exact or2 hr (by decide) (by decide)))
 have hz':(h.push (tobj (nums ((List.range (32*r)).map (lword bs)) us))).objs.size≤h'.objs.size:=hz
 have F2:c.SS l (N++[((h.push (tobj (nums ((List.range (32*r)).map (lword bs)) us))).objs.size,lobj (nums ((List.range (32*r)).map (lword bs)) us) c')]) Φ h':=SS.add (F.push' _) hz' hk' (Nat.le_refl _) e'
 refine stc (v₀:=w) H F2 ?_ hc (λh3 F3=>hQ _ _ us c' h3 _ rfl hu (by rw [Heap.size_push];lia) F3) hl
 rw [List.getElem?_append_left (List.getElem?_eq_some_iff.mp hi).1];exact hi
theorem EvN.ig {ig:Addr} {v:Nat} (i j:Nat) (EII:EI c.K c.mg c.mb) (H:c.Ok n) (hn:2≤n) (hi:l[i]?=some (x,some (.ref ig))) (hy:EvV c l N Φ (.Name y yp) (.ref bf)) (hj:N[j]?=some (bf,lobj (nums xs us) k))
  (hig:∀h,Φ h→(h.get? ig=some (igObj tp dg)∧h.get? dg=some emptyDict)∧∃u,h.get? tp=some (tobj [.int (-16) u])) (hu:us.length=xs.length) (hx:xs[xs.length - 16]?=some v) (h16:16≤xs.length) (hz:xs.length≤1000)
  (kx:Loc c.env x:=by rfl) (dx:ND x:=by decide)
  (s1:Unst (.Name y yp) [] c.env:=by rfl)
  (hp:Plain pos [] c.env:=by rfl)
  (hev:CallIs x xp [.Name y yp] pos c.env:=by rfl) :
  EvN c l N Φ (.Call (.Name x xp) [.Name y yp] [] pos) v:=by
 intro Φ' kΦ h t Q E F hQ
 refine PyProof.Rows.Call_ (ld H F hi ?_ kx dx) hev
 obtain ⟨⟨e1,e1'⟩,u,e2⟩:=hig _ (kΦ _ F.phi)
 refine kco_callWith (K:=c.K) (C:=118) (od:=some emptyDict) (ox:=igObj tp dg) (f:=100) (H.W1 F).k ⟨e1,rfl,rfl,e1'⟩ rfl EII.callF ?_ s1 hp
 rw [s1]
 refine spliced_cons (hy _ kΦ h t _ _ F λh1 t1 F1=>spliced_nil ?_)
 obtain ⟨⟨e3,e3'⟩,u3,e4⟩:=hig _ (kΦ _ F1.phi)
 refine ⟨⟨(H.W1 F1).k,e3,rfl,rfl,e3'⟩,wpAny_call (kco_code (K:=c.K) (C:=118) (od:=some emptyDict) (ox:=igObj tp dg) (H.W1 F1).k ⟨e3,rfl,rfl,e3'⟩ rfl EII.callF EII.fn EII.fn' ?_)⟩
 refine ig_call EII ⟨tp,dg,u3,e3,e3',e4⟩ (F1.new hj) hu hx h16 hz c.A c.g c.d t1 c.o _ (H.A.le hn) (H.W1 F1) λw h2 t2 G p=>?_
 obtain ⟨u',rfl⟩:=p.here
 exact hQ u' h2 t2 (F1.grown G)
end
end
section
namespace Pk
open Builtin
theorem slotA:Slot "_struct.Struct" "__getattribute__" "_struct.Struct.__getattribute__" :=
 .of (owner:="_struct.Struct") (n:="__getattribute__") (by rw [typeLookup_type,builtinLookup_eq_fast];kernel_rfl) (by decide +kernel) (by decide +kernel) (by decide +kernel)
  (by first | exact .inl (by decide +kernel) | exact .inr (by decide +kernel)) (by rw [isSubtype_type];kernel_rfl)
theorem entryA:entryFor table "_struct.Struct.__getattribute__"=some Builtin.«object.__getattribute__» :=
 entryFor_alias (id':="object.__getattribute__") (by kernel_rfl) (by decide +kernel) (by decide +kernel) (by kernel_rfl)
theorem argsA (a b:Value):argsOk "_struct.Struct.__getattribute__" ⟨[a,b],[]⟩:=by unfold argsOk;kernel_rfl
theorem noGa:typeLookup (.type "_struct.Struct") "__getattr__"=pure none:=by rw [typeLookup_type,builtinLookup_eq_fast];kernel_rfl
noncomputable abbrev pkObj (st:Addr):Obj:={ cls:=.type "builtin_function_or_method",data:=.fields #[.builtin "_struct.Struct.pack",.ref st] }
section
theorem getRun {Q:PySem.Fin→Shared→Prop} (hT:s.TypeIs (.ref V) "_struct.Struct") (h:Q (.done (.ret (.ref s.heap.objs.size))) { s with heap:=s.heap.push (pkObj V) }) :
  wpAny (model prog w) A (Builtin.«method_descriptor.__get__» ⟨[.builtin "_struct.Struct.pack",.ref V,.type "_struct.Struct"],[]⟩) Q E s:=by
 have f6:Manifest.toldItsClass.contains "_struct.Struct.pack"=false:=by decide +kernel
 unfold Builtin.«method_descriptor.__get__»
 refine wpAny_bind ?_
 refine wpAny_of_eq (a:=(.builtin "_struct.Struct.pack",some (.ref V),some (.type "_struct.Struct"))) rfl ?_
 simp only [f6,Bool.false_eq_true,if_false]
 refine wpAny_bind ?_
 refine wpAny_bind ?_
 refine wpAny_of_eq (a:=(Str.ofString "pack",.type "_struct.Struct")) (by kernel_rfl) ?_
 have fl:isSubtype (.type "_struct.Struct") (.type "_struct.Struct")=pure true:=by rw [isSubtype_type];kernel_rfl
 repeat (any_goals (first | assumption | wp_step))
 repeat (any_goals (first | assumption | wp_step))
set_option maxHeartbeats 4000000 in
theorem attrRun {t:Tok} {b:Array UInt8} {Q:PySem.Fin→Shared→Prop} (hV:s.heap.get? V=some { cls:=.type "_struct.Struct",data:=.fields #[.bytes b t] }) (h:Q (.done (.ret (.ref s.heap.objs.size))) { s with heap:=s.heap.push (pkObj V) }) :
  wpAny (model prog w) A (Builtin.«object.__getattribute__» ⟨[.ref V,.str "pack" u],[]⟩) Q E s:=by
 obtain ⟨hp,g,d,tk,os⟩:=s
 have hT:(⟨hp,g,d,tk,os⟩:Shared).TypeIs (.ref V) "_struct.Struct":=⟨_,hV,rfl⟩
 have f1:=St.slotP.lookup
 have f2:=St.type_eqP
 have f3:=Gi.get
 have f4:=Gi.noset
 have f5:=Gi.nodel
 unfold Builtin.«object.__getattribute__»
 repeat (any_goals (first | assumption | wp_step))
 refine codeAny_call_builtin Gi.slotG.plain Gi.entryG (Gi.slotG.check _ _ _ _ _ _ _ _ (show Shared.TypeIs _ _ _ from f2) (Gi.argsG _ _ _) ?_)
 refine getRun hT ?_
 exact wpAny_pure h
theorem attr {t:Tok} {b:Array UInt8} {Q:VQ} (hV:s.heap.get? V=some { cls:=.type "_struct.Struct",data:=.fields #[.bytes b t] }) (h:∀tk',Q (.ref s.heap.objs.size) { s with heap:=s.heap.push (pkObj V),toks:=tk' }) :
  wpAny (model prog w) A (getAttr (.ref V) "pack" true) Q E s:=by
 obtain ⟨hp,g,d,tk,os⟩:=s
 have hT:∀tk',(⟨hp,g,d,tk',os⟩:Shared).TypeIs (.ref V) "_struct.Struct":=λ_=>⟨_,hV,rfl⟩
 have f3:=slotA.lookup
 have f4:=slotA.bind (.ref V)
 have f5:=noGa
 unfold getAttr getAttrBy
 repeat (any_goals (first | assumption | exact hT _ | wp_step))
 refine codeAny_call_builtin slotA.plain entryA (slotA.check _ _ _ _ _ _ _ _ (hT _) (argsA _ _) (attrRun hV ?_))
 show wpAny _ _ (handedOut _) _ _ _
 unfold handedOut
 repeat (any_goals (first | assumption | wp_step))
 all_goals first | exact h _ | trace_state
end
theorem sig:Manifest.signature? "_struct.Struct.pack"=some { machinery:=Manifest.Machinery.positional,full:="Struct.pack",short:="pack",receiver:=Manifest.Receiver.self,params:=[{ name:="values",kind:=Manifest.ParamKind.varPos,required:=false }] }:=by kernel_rfl
theorem kind:builtinKind "_struct.Struct.pack"=some .method:=by decide +kernel
theorem notMod:isSubtype (.type "_struct.Struct") (.type "module")=pure false:=by rw [isSubtype_type];kernel_rfl
theorem va:Manifest.varargsMethods.contains "_struct.Struct.pack"=false:=by decide +kernel
theorem argsB (hr:r=1∨r=2) (st:Addr) (hv:vs.length=32*r):Bind.checkArgs "_struct.Struct.pack" { machinery:=Manifest.Machinery.positional,full:=toString (Bind.lastOf "_struct.Struct")++toString "."++toString (Bind.lastOf "_struct.Struct.pack"),short:="pack",receiver:=Manifest.Receiver.self,params:=[{ name:="values",kind:=Manifest.ParamKind.varPos,required:=false }] } ⟨.ref st::vs,[]⟩=pure ():=by
 unfold Bind.checkArgs
 dsimp only [List.length_cons]
 rw [hv]
 rcases hr with rfl | rfl
 ·kernel_rfl
 ·kernel_rfl
section
theorem check {st:Addr} {t:Tok} {b:Array UInt8} {P:Unit→Shared→Prop} (hr:r=1∨r=2) (hv:vs.length=32*r) (ho:s.heap.get? st=some { cls:=.type "_struct.Struct",data:=.fields #[.bytes b t] }) (h:P () s) :
  wpAny (model prog w) A (checkBoundCall "_struct.Struct.pack" ⟨.ref st::vs,[]⟩) P E s:=by
 have hT:s.TypeIs (.ref st) "_struct.Struct":=⟨_,ho,rfl⟩
 unfold checkBoundCall
 simp only [sig,kind]
 refine KFB.if_not (by decide) ?_
 refine wpAny_bind (wpAny_isInstance hT notMod ?_)
 rw [va]
 refine KFB.if_not (by decide) ?_
 have ha2:=argsB hr st hv
 refine wpAny_bind ?_
 unfold isType
 refine wpAny_bind (wpAny_load ho (wpAny_pure ?_))
 refine KFB.if_not rfl ?_
 refine wpAny_bind (wpAny_typeOf hT ?_)
 dsimp only
 rw [ha2]
 exact wpAny_pure h
theorem run {st:Addr} {P:PySem.Fin→Shared→Prop} (hr:r=1∨r=2) (h:St.StAt s.heap st r) (hx:xs.length=32*r) (hb:∀x∈xs,x<2 ^ 32) (hu:us.length=xs.length)
  (hQ:∀t' k',P (.done (.ret (.bytes (St.wpack xs).toArray t'))) { s with toks:=k' }):wpAny (model prog w) A (Builtin.«_struct.Struct.pack» ⟨.ref st::nums xs us,[]⟩) P E s:=by
 unfold Builtin.«_struct.Struct.pack»
 refine wpAny_bind (wpAny_of_eq (a:=()) (by rfl) ?_)
 dsimp only
 refine wpAny_bind (St.format_run hr h ?_)
 exact St.packed_run hr hx hb hu hQ
theorem callPk {st:Addr} {Q:VQ} (hg:s.heap.get? gi=some (pkObj st)) (hr:r=1∨r=2) (h:St.StAt s.heap st r) (hx:xs.length=32*r) (hb:∀x∈xs,x<2 ^ 32) (hu:us.length=xs.length)
  (hQ:∀t' k',Q (.bytes (St.wpack xs).toArray t') { s with toks:=k' }):wpAny (model prog w) A (call (.ref gi) (nums xs us)) Q E s:=by
 obtain ⟨tt,h'⟩:=id h
 refine wpAny_call (codeAny_of_tree ?_)
 show wpAny _ A.in1 (callAny (.ref gi) ⟨nums xs us,[]⟩) _ _ s
 simp only [callAny]
 refine wpAny_bind (wpAny_load hg ?_)
 simp only [show (Value.type "builtin_function_or_method" == Value.type "method" || Value.type "builtin_function_or_method" == Value.type "builtin_function_or_method" || Value.type "builtin_function_or_method" == Value.type "method-wrapper")=true by decide,if_true]
 refine KFB.if_so (by decide) ?_
 refine wpAny_bind (check hr (by rw [nums_len hu,hx]) h' ?_)
 refine wpAny_bind (wpAny_pure (wpAny_pure ?_))
 exact ⟨Code.quiet_builtin _ (by decide +kernel),codeAny_builtin St.entryP (run hr h hx hb hu λt' k'=>hQ t' k')⟩
theorem keeps {st:Addr} (h:Heap) (X:h.get? gi=some (pkObj st)):∃k,(k=Keeper.frame∨k=Keeper.machine∨k=Keeper.boundFrame)∧Looks M h (keeperOf (.ref gi)) k:=by
 refine ⟨.machine,.inr (.inl rfl),(Looks.ld (part:=none) X).andThen ?_⟩
 exact Looks.now
end
end Pk
end
section
section
theorem retPack {z:Str} {zp:Pos} {st:Addr} (i j:Nat) (H:c.Ok n) (F:c.SS l N Φ h) (hr:r=1∨r=2)
  (hi:l[i]?=some (y,some (.ref st))) (hy:EvV c l N Φ (.Name z zp) (.ref bf)) (hj:N[j]?=some (bf,lobj (nums xs us) kk)) (hst:∀h,Φ h→St.StAt h st r) (hu:us.length=xs.length) (hx:xs.length=32*r) (hb:∀x∈xs,x<2 ^ 32)
  (hQ:∀t' h' k',c.SS l N Φ h'→Q (.ret (.bytes (St.wpack xs).toArray t')) (c.st h' k'))
  (ky:Loc c.env y:=by rfl) (dy:ND y:=by decide)
  (s1:starEach [.Starred (.Name z zp) sp] c.env=[(true,eval (.Name z zp) c.env)]:=by rfl)
  (hev:eval (.Call (.Attribute (.Name y yp) "pack" ap) [.Starred (.Name z zp) sp] [] cp) c.env=(do
   let ov←eval (.Name y yp) c.env
   standAt ap.atName
   let (f,first)←holding [ov] (do pure (←getAttr ov "pack" true,[]))
   callWith cp f first (backTo cp (starEach [.Starred (.Name z zp) sp] c.env)) []):=by rfl) :
  c.wp (execs (.Return (some (.Call (.Attribute (.Name y yp) "pack" ap) [.Starred (.Name z zp) sp] [] cp)) pos::rest) c.env) Q E (c.st h t):=by
 have hst':=hst h F.phi
 obtain ⟨tt,e⟩:=id hst'
 refine wpAny_execs_cons (wpAny_Return_some ?_)
 rw [hev]
 refine wpAny_bind (ld H F hi (wpAny_bind (wpAny_standAt (wpAny_bind (wpAny_holding (wpAny_bind (Pk.attr e λtk=>wpAny_pure ?_)))))) ky dy)
 dsimp only
 have F0:=SS.knowNew2 F (F.push' (Pk.pkObj st)) rfl (P:=λhh=>hh.get? h.objs.size=some (Pk.pkObj st)) (λh'' q=>q _ _ (Nat.le_refl _) (Heap.get?_push_size _ rfl))
 rw [s1]
 refine ks_call rfl (P:=λh'=>h'.get? h.objs.size=some (Pk.pkObj st)) (λh X=>Pk.keeps h X) (ks_lone (hy _ (λ_ y=>y.1) _ tk _ _ F0 λh1 t1 F1=>?_))
 have eb:=F1.new hj
 have hT':(c.st h1 t1).TypeIs (.ref bf) "list":=⟨_,eb,rfl⟩
 have hlen:(nums xs us).length=32*r:=by rw [nums_len hu,hx]
 unfold StarOf notIterableAtAll
 refine wpAny_bind (wpAny_specialOf hT' PySem.F.slot_list_iter.lookup (wpAny_pure ⟨rfl,?_⟩))
 refine collect_sz bf eb rfl rfl (λh2 hk hz=>?_) (by rw [List.size_toArray,hlen];exact or2 hr (by decide) (by decide))
 have F2:c.SS l N (λhh=>Φ hh∧hh.get? h.objs.size=some (Pk.pkObj st)) h2:=F1.grown ⟨hz,hk⟩
 refine ⟨F2.phi.2,?_⟩
 show wpAny _ _ (call (.ref h.objs.size) ([]++(nums xs us).toArray.toList)) _ _ _
 rw [show []++(nums xs us).toArray.toList=nums xs us by simp]
 exact Pk.callPk F2.phi.2 hr (hst h2 F2.phi.1) hx hb hu (λt' k'=>hQ t' h2 k' (F2.weaken λ_ y=>y.1))
theorem mixS {cN:Addr} {nn:Nat} {zp:Pos} (jr:Nat) (EMM:EM c.K c.mg c.mb) (H:c.Ok n) (hn:6≤n) (hr:r=1∨r=2)
  (F:c.SS l (smN cB cF cN bm bf nn un o3 o1 o2 (lobj (nums xs us) k)) Φ h) (hls:l[jr]?=some (("result":Str),some (.ref ls))) (hs:∀h,Φ h→IsTN h ls src) (hsl:src.length=32*r) (hxl:xs.length=32*r) (hu:us.length=xs.length)
  (hF:∀h,Φ h→FB r sf bm h) (h278:278≤bf) (k1:TabOk o1) (k2:TabOk o2)
  (hQ:∀o1' o2' us' k' g' h' t',TabOk o1'→TabOk o2'→us'.length=32*r→GensOk c.g g'→c.SS l (smN cB cF cN bm bf nn un o3 o1' o2' (lobj (nums (wblk r src) us') k')) Φ h'→(c.gn g').wp (execs rest c.env) Q E ((c.gn g').st h' t'))
  (kb:Cel c.env "bmix":=by rfl) (kf:Cel c.env "buffer":=by rfl) (cb:c.env.cells.lookup ("bmix":Str)=some cB:=by rfl) (cf:c.env.cells.lookup ("buffer":Str)=some cF:=by rfl) (kr:Loc c.env "result":=by rfl)
  (hp:(starEach [.Name "result" yp,.Name "buffer" zp] c.env)=[(false,eval (.Name "result" yp) c.env),(false,eval (.Name "buffer" zp) c.env)]:=by rfl)
  (hev:CallIs "bmix" xp [.Name "result" yp,.Name "buffer" zp] cp c.env:=by rfl)
  (hint:interactive c.env=false:=by rfl) (hsw:swapsWith (.Call (.Name "bmix" xp) [.Name "result" yp,.Name "buffer" zp] [] cp) none pos.line c.env=pure false:=by rfl) :
  c.wp (execs (.Expr (.Call (.Name "bmix" xp) [.Name "result" yp,.Name "buffer" zp] [] cp) pos::rest) c.env) Q E (c.st h t):=by
 refine wpAny_execs_cons (wpAny_Expr_any ?_ hint hsw)
 have hB:EvV c l (smN cB cF cN bm bf nn un o3 o1 o2 (lobj (nums xs us) k)) Φ (.Name "bmix" xp) (.ref bm):=.cellN 0 H rfl kb cb
 have hBf:EvV c l (smN cB cF cN bm bf nn un o3 o1 o2 (lobj (nums xs us) k)) Φ (.Name "buffer" zp) (.ref bf):=.cellN 1 H rfl kf cf
 refine PyProof.Rows.Call_ (hB _ (λ_ y=>y) _ _ _ _ F (λh12 t12 F12=>?_)) hev
 rw [hp]
 refine callWith_of (P:=MethP c.K bm (fbm r) (.ref sf)) (by rfl) (keeps_M (FB.fn EMM hr)) (evalArgs_all (by rfl) ?_)
 refine spliced_cons (ld H F12 hls ?_ kr (by decide))
 refine spliced_cons (hBf _ (λ_ y=>y) _ _ _ _ F12 (λh13 t13 F13=>spliced_nil ?_))
 refine ⟨⟨(hF h13 F13.phi).1,(H.W1 F13).k⟩,?_⟩
 refine wpAny_call (bm_call EMM hr (hF h13 F13.phi) (hs h13 F13.phi) hsl (F13.new (i:=6) rfl) (by rw [nums_len hu,hxl]) h278 ⟨o1,F13.new (i:=4) rfl,k1⟩ ⟨o2,F13.new (i:=5) rfl,k2⟩ (H.A.le hn) (H.W1 F13) ?_)
 rintro h14 g14 t14 hk14 hz14 hg14 ⟨o1',e1',k1'⟩ ⟨o2',e2',k2'⟩ ⟨us',k',hu',ebf⟩
 have nd:=F.ndn
 have F14:c.SS l (smN cB cF cN bm bf nn un o3 o1' o2' (lobj (nums (wblk r src) us') k')) Φ h14:=SS.calls F13 (W:=[151,158,bf]) rfl (λb hb=>?_) hk14 hz14 (λp hp=>?_)
 ·exact hQ o1' o2' us' k' g14 h14 t14 k1' k2' hu' hg14 F14
 ·revert b hb
  refine f3 ?_ ?_ ?_<;>simp
 ·revert p hp
  refine f7 ?_ ?_ ?_ ?_ ?_ ?_ ?_
  ·exact hk14 _ _ (n3 (nneq nd 0 4) (nneq nd 0 5) (nneq nd 0 6)) (F13.new (i:=0) rfl)
  ·exact hk14 _ _ (n3 (nneq nd 1 4) (nneq nd 1 5) (nneq nd 1 6)) (F13.new (i:=1) rfl)
  ·exact hk14 _ _ (n3 (nneq nd 2 4) (nneq nd 2 5) (nneq nd 2 6)) (F13.new (i:=2) rfl)
  ·exact hk14 _ _ (n3 (nneq nd 3 4) (nneq nd 3 5) (nneq nd 3 6)) (F13.new (i:=3) rfl)
  ·exact e1'
  ·exact e2'
  ·exact ebf
end
end
section
theorem SS.knowF (x:SS h₀ S X L l N Φ h) {P:HP} (ws:List Addr)
  (hp:∀h',(∀b∈ws,∀o,h₀.get? b=some o→h'.get? b=some o)→P h') (hw:∀b∈ws,b∉S∧b∉X) (hL:h₀.objs.size≤L):SS h₀ S X L l N (λh=>Φ h∧P h) h:=by
 refine x.know λh' q=>hp h' λb hb o e=>?_
 have hlt:=Heap.lt_size e
 have hal:b≠L:=Nat.ne_of_lt (Nat.lt_of_lt_of_le hlt hL)
 refine q b o hal (hw b hb).2 ?_ (x.keep b o (hw b hb).1 hal e)
 intro r
 obtain ⟨p,hp,rfl⟩:=List.mem_map.mp r
 rcases (x.news p hp).2.2 with r | r
 ·exact absurd hlt (Nat.not_lt.mpr r)
 ·exact (hw _ hb).1 r
theorem CodeRec.not_tab {P:Addr} (x:h.CodeRec (.ref c') q) (e:h.get? P=some op) (ht:TabOk op):c'≠P:=by
 rintro rfl
 obtain ⟨c,oc,vs,tq,e0,e1,hd,hv⟩:=x
 cases e0
 rw [e] at e1;cases e1
 obtain ⟨ps,rfl,ht⟩:=ht
 cases hd
 have e2:vs.toList[1]?=some (.str q tq):=by rw [Array.getElem?_toList];exact hv
 generalize hl:vs.toList=l at ht e2
 cases l with
 | nil=>cases e2
 | cons a l=>cases l with
  | nil=>cases e2
  | cons b l=>cases e2;cases a<;>exact ht
structure EngAt (r n p:Nat) (sf dx st ig tp dg bm:Addr) (od:Obj) (h:Heap):Prop where
 e0:h.get? sf=some (instObj 166 dx)
 e1:h.get? dx=some od
 a_n:∃u,lookIn "n" od=some (some (.int (n:Int) u))
 a_p:∃u,lookIn "p" od=some (some (.int (p:Int) u))
 sb:∃u,lookIn "smix_bytes" od=some (some (.int ((128*r:Nat):Int) u))
 ib:∃u,lookIn "iv_bytes" od=some (some (.int ((128*r*p:Nat):Int) u))
 hl:∃u,lookIn "bmix_half_len" od=some (some (.int ((16*r:Nat):Int) u))
 a_st:lookIn "bmix_struct" od=some (some (.ref st))
 stO:St.StAt h st r
 a_ig:lookIn "integerify" od=some (some (.ref ig))
 igO:h.get? ig=some (igObj tp dg)
 dgO:h.get? dg=some emptyDict
 tpO:∃u,h.get? tp=some (tobj [.int (-16) u])
 b1:r=1→lookIn "bmix" od=some (some (.ref bm))∧h.get? bm=some (methodObj (.ref 163) (.ref sf))
 b2:r=2→lookIn "bmix" od=some none
 mt:∀x∈(["run","smix"]:List Str),lookIn x od=some none
 hi:∀a∈[sf,dx,st,ig,tp,dg,bm],278≤a
 bmO:∃o,h.get? bm=some o
theorem EngAt.kept {st ig:Addr} (x:EngAt r n p sf dx st ig tp dg bm od h) (k:∀b∈[sf,dx,st,ig,tp,dg,bm],∀o,h.get? b=some o→h'.get? b=some o):EngAt r n p sf dx st ig tp dg bm od h' where
 e0:=k _ (by trivial) _ x.e0
 e1:=k _ (by trivial) _ x.e1
 a_n:=x.a_n
 a_p:=x.a_p
 sb:=x.sb
 ib:=x.ib
 hl:=x.hl
 a_st:=x.a_st
 stO:=let ⟨t,e⟩:=x.stO;⟨t,k _ (by trivial) _ e⟩
 a_ig:=x.a_ig
 igO:=k _ (by trivial) _ x.igO
 dgO:=k _ (by trivial) _ x.dgO
 tpO:=let ⟨t,e⟩:=x.tpO;⟨t,k _ (by trivial) _ e⟩
 b1:=λhr=>⟨(x.b1 hr).1,k _ (by trivial) _ (x.b1 hr).2⟩
 b2:=x.b2
 mt:=x.mt
 hi:=x.hi
 bmO:=let ⟨o,e⟩:=x.bmO;⟨o,k _ (by trivial) _ e⟩
theorem EngAt.self {st ig:Addr} (x:EngAt r n p sf dx st ig tp dg bm od h) {name:Str} (e:lookIn name od=some (some v)):SelfV h sf name v:=⟨dx,od,x.e0,x.e1,e⟩
theorem EngAt.none {st ig:Addr} (x:EngAt r n p sf dx st ig tp dg bm od h) {name:Str} (e:lookIn name od=some none):SelfN h sf name:=⟨dx,od,x.e0,x.e1,e⟩
noncomputable def VTab (h:Heap):Prop:=∃ps,An3 (h.get? 144=some (tabObj ps)) (TriplesOk ps.toList) (codeAmong vdpos ps.toList=none∨∃c',codeAmong vdpos ps.toList=some (.ref c')∧h.CodeRec (.ref c') vqual)
section
theorem asVl {cN fa:Addr} {ctv:Value} {cp1 cp2:Pos} {w:Option Value} (i j:Nat)
  (ESS:ES c.K c.mg c.mb) (H:c.Ok m) (hm:12≤m) (hX:c.X=[]) (hr:r=1∨r=2) (hb0:b0.length=32*r) (hn:n≤1000) (hu:us.length=32*r) (h278:278≤bf) (k1:TabOk o1) (k2:TabOk o2) (hk3:∀zs,o3≠tobj zs)
  (F:c.SS l (smN cB cF cN bm bf n un o3 o1 o2 (lobj (nums b0 us) k)) Φ h) (hj:l[j]?=some (y,some (.ref fa)))
  (hΦ:∀h,Φ h→FB r sf bm h∧h.CodeRec (.ref c') vqual∧h.get? fa=some (vfn [("n",cN),("buffer",cF),("bmix",cB)] doc pm c' ctv))
  (hQ:∀V o1' o2' us' k' h' g' t',TabOk o1'→TabOk o2'→us'.length=32*r→GensOk c.g g' →
   c.SS (l.set i (x,some (.ref V))) (smN cB cF cN bm bf n un o3 o1' o2' (lobj (nums (wB r b0 n) us') k')) (λh=>Φ h∧VLst r n b0 V h) h'→(c.gn g').wp (execs rest c.env) Q E ((c.gn g').st h' t'))
  (hi:l[i]?=some (x,w):=by rfl) (hl:Loc c.env x:=by rfl) (ky:Loc c.env y:=by rfl) (dy:ND y:=by decide) (kl:Glo c.env "list":=by rfl)
  (s1:Unst (.Call (.Name y yp) [] [] cp1) [] c.env:=by rfl)
  (hev:CallIs "list" np [.Call (.Name y yp) [] [] cp1] cp2 c.env:=by rfl)
  (hev2:CallIs y yp [] cp1 c.env:=by rfl)
  (hs:Swp (.Call (.Name "list" np) [.Call (.Name y yp) [] [] cp1] [] cp2) x p' pos c.env:=by rfl) :
  c.wp (execs (.Assign [.Name x p'] (.Call (.Name "list" np) [.Call (.Name y yp) [] [] cp1] [] cp2) pos::rest) c.env) Q E (c.st h t):=by
 have EMM:=ESS.ei.em
 refine wpAny_execs_cons (wpAny_Assign_Name (PyProof.Rows.Call_ (bl H F EMM.list.1 EMM.list.2 (PyProof.Rows.callWith_type1 ?_ s1) kl (by decide)) hev) hs)
 rw [s1]
 have e:=(hΦ h F.phi).2.2
 refine spliced_cons (PyProof.Rows.Call_ (ld H F hj (callWith_F0 ⟨_,_,_,_,e⟩ ?_) ky dy) hev2)
 refine wpAny_mono (listGen ESS H hm hX hr hb0 hn hu h278 k1 k2 hk3 F hΦ (Q:=λv s'=>c.wp (storeName c.env x v) (λ_ s'=>c.wp (execs rest c.env) Q E s') E s') ?_) (λv s' q=>spliced_nil ?_) (λ_ _ z=>z)
 ·intro V o1' o2' us' k' h' g' t' q1 q2 hu' hg F'
  exact stn (c:=c.gn g') (H.gn g') F' hi (λh2 F2=>hQ V o1' o2' us' k' h2 g' _ q1 q2 hu' hg F2) hl
 ·exact q
end
end
section
noncomputable abbrev smL (sf st ig fa V gi:Addr) (tb:Tok) (bs:List UInt8) (nm:Nat) (um:Tok) (i:Nat) (ui:Tok) (jv rv:Option Value):LS :=
 [("self",some (.ref sf)),("source",some (.bytes bs.toArray tb)),("bmix_struct",some (.ref st)),("integerify",some (.ref ig)),("vgen",some (.ref fa)),("V",some (.ref V)),("get_v_elem",some (.ref gi)),("n_mask",some (.int (nm:Int) um)),("i",some (.int (i:Int) ui)),("j",jv),("result",rv)]
noncomputable def VTp (ps:Array Value) (h:Heap):Prop:=codeAmong vdpos ps.toList=none∨∃c',codeAmong vdpos ps.toList=some (.ref c')∧h.CodeRec (.ref c') vqual
theorem SS.knowVT (x:SS h₀ S [] L l N Φ h) (hc:VTp ps h₀) (hS:∀c',h₀.CodeRec (.ref c') vqual→c'∉S) (hL:h₀.objs.size≤L) :
  SS h₀ S [] L l N (λh=>Φ h∧VTp ps h) h:=by
 rcases hc with hc | ⟨c',hc,hrec⟩
 ·exact x.weaken λh y=>⟨y,.inl hc⟩
 ·exact (x.knowF (P:=λh=>h.CodeRec (.ref c') vqual) [c'] (λh' k=>CodeRec.fresh hrec (k c' (by trivial))) (λb hb=>by rw [List.mem_singleton.mp hb];exact ⟨hS c' hrec,by simp⟩) hL).weaken λh y=>⟨y.1,.inr ⟨c',hc,y.2⟩⟩
section
set_option maxHeartbeats 4000000
theorem smix_call (ESS:ES K mg mb) {st ig:Addr} (hr:r=1∨r=2) (hn1:1≤n) (hn2:n≤1000)
  (hE:EngAt r n p sf dx st ig tp dg bm od h) (hbs:bs.length=128*r) (hT3:VTab h) (hT1:Tab 151 h) (hT2:Tab 158 h) :
  FnX prog w K mg mb 13 149 ⟨[.ref sf,.bytes bs.toArray tb],[]⟩ [144,151,158] h g (λv h'=>(∃t',v = .bytes (wsmix r n bs).toArray t')∧VTab h'∧Tab 151 h'∧Tab 158 h'):=by
 intro A d t o R hA W hR
 have EMM:=ESS.ei.em
 obtain ⟨ps,e3,ht3,hc3⟩:=hT3
 obtain ⟨o1,e1,k1⟩:=hT1
 obtain ⟨o2,e2,k2⟩:=hT2
 obtain ⟨un,hun⟩:=hE.a_n
 obtain ⟨uh,huh⟩:=hE.hl
 have k3:TabOk (tabObj ps):=⟨ps,rfl,ht3⟩
 refine enterM0 (n:=12) (binds:=[("self",.ref sf),("source",.bytes bs.toArray tb)]) ["self","source","bmix_struct","integerify","vgen","V","get_v_elem","n_mask","i","j","result"] ["bmix","buffer","n"] [144,151,158] [(144,tabObj ps),(151,o1),(158,o2)] EMM.smix hA W EMM.ek.dom
  (λpm doc=>by kernel_rfl) (by kernel_rfl) (by kernel_rfl) ?_ ?_ ?_ (by kernel_rfl) ?_
 ·intro b hb
  revert b hb
  refine f3 ?_ ?_ ?_<;>exact .inr (by decide)
 ·intro p hp
  revert p hp
  refine f3 ?_ ?_ ?_
  ·exact ⟨e3,by trivial⟩
  ·exact ⟨e1,by trivial⟩
  ·exact ⟨e2,by trivial⟩
 ·simp
 intro h₁ t₁
 intro c l N Q QB H H0 F
 refine bindsL 0 H0 F ?_
 intro h2 t2 l F
 refine bindsL 1 H0 F ?_
 intro h2 t2 l F
 refine bindsNil ⟨h2,t2,_,_,rfl,F,?_⟩
 have hi278:∀b∈[sf,dx,st,ig,tp,dg,bm],b∉([144,151,158]:List Addr)∧b∉([]:List Addr):=λb hb=>by
  have:=hE.hi b hb
  refine ⟨λq=>?_,by simp⟩
  have q:=ors q
  rcases q with rfl | rfl | rfl<;>exact absurd this (by decide)
 have F:=F.knowF (P:=EngAt r n p sf dx st ig tp dg bm od) [sf,dx,st,ig,tp,dg,bm] (λh' k=>hE.kept k) hi278 (Nat.le_refl _)
 have F:=F.knowVT (ps:=ps) hc3 (λc' hrec (q:c'∈([144,151,158]:List Addr))=>by
  have q:=ors q
  rcases q with q | q | q
  ·exact CodeRec.not_tab hrec e3 k3 q
  ·exact CodeRec.not_tab hrec e1 k1 q
  ·exact CodeRec.not_tab hrec e2 k2 q) (Nat.le_refl _)
 have F:=F.weaken (Φ':=λh=>EngAt r n p sf dx st ig tp dg bm od h∧VTp ps h) λh y=>⟨y.1.2,y.2⟩
 refine asCU (f:=.ref) (R:=λb h=>h.get? b=some (methodObj (.ref (fbm r)) (.ref sf))) 0 H F ?_ (λ_ _ e _ q=>Value.ref.inj e▸q) ?_
 ·rcases hr with e | e
  ·rw [show fbm r=163 from e▸rfl]
   exact EvV.toRP (EvV.attr EMM H (.nm 0 H rfl) (λh y=>y.1.self (hE.b1 e).1) rfl) λh y=>⟨bm,rfl,(y.1.b1 e).2⟩
  ·rw [show fbm r=156 from e▸rfl]
   exact EvF.toR (EvF.bound EMM H (.nm 0 H rfl) (λh y=>y.1.none (hE.b2 e)))
 intro bx h3 t3 N F3
 have F3:=F3.weaken (Φ':=λh=>EngAt r n p sf dx st ig tp dg bm od h∧VTp ps h∧FB r sf bx h) λh y=>⟨y.1.1,y.1.2,y.2,uh,y.1.1.self huh⟩
 refine asV 2 H F3 (EvV.attr EMM H (.nm 0 H rfl) (λh y=>y.1.self hE.a_st) rfl) ?_
 intro h4 t4 l F4
 refine asV 3 H F4 (EvV.attr EMM H (.nm 0 H rfl) (λh y=>y.1.self hE.a_ig) rfl) ?_
 intro h5 t5 l F5
 refine asCV 2 H F5 (EvV.attr EMM H (.nm 0 H rfl) (λh y=>y.1.self hun) rfl) ?_
 intro h6 t6 N F6
 refine asBuf (st:=st) (r:=r) (bs:=bs) 1 2 1 EMM H F6 hr (by rfl) (by rfl) (λh y=>y.1.stO) hbs ?_
 intro b0 bf us k h7 t7 hb0 hu hbf N F7
 have hl0:b0.length=32*r:=by rw [←hb0];simp
 have hbf278:278≤bf:=Nat.le_trans (H.W1 F6).size hbf
 refine defVgen (op:=tabObj ps) (cl:=[("n",h.objs.size+1+1+1),("buffer",h.objs.size+1+1),("bmix",h.objs.size+1)]) 3 4 ESS H F7 (by rfl) (by rfl) (by rfl) (by rfl) ⟨ps,rfl,ht3,?_⟩ (λfa c' ps' ctv doc pm h8 t8 hc8 ht8 F8=>?_) (by rfl) (by rfl)
 ·rcases hc3 with hc | ⟨c',hc,hrec⟩
  ·exact .inl hc
  ·refine .inr ⟨c',hc,λh y=>?_⟩
   rcases y.2.1 with q | ⟨c'',q,q'⟩
   ·rw [hc] at q;cases q
   ·rw [hc] at q;cases q;exact q'
 have F8:=F8.weaken (Φ':=λh=>EngAt r n p sf dx st ig tp dg bm od h∧FB r sf bx h∧h.CodeRec (.ref c') vqual∧h.get? fa=some (vfn [("n",_),("buffer",_),("bmix",_)] doc pm c' ctv)) λh y=>⟨y.1.1,y.1.2.2,y.2⟩
 refine asVl (r:=r) (n:=n) (b0:=b0) 5 4 ESS H (by decide) (by rfl) hr hl0 hn2 hu hbf278 k1 k2 (by intro zs;simp) F8 (by rfl) (λh y=>⟨y.2.1,y.2.2.1,y.2.2.2⟩) (λV o1' o2' us' k' h9 g9 t9 q1 q2 hu' hg9 F9=>?_)
 have H9:=H.gn g9
 refine asGi (c:=c.gn g9) 6 5 H9 F9 (by rfl) (λh y=>let ⟨ys,k,_,e,_⟩:=y.2;⟨ys,k,e⟩) ?_
 intro gi h10 t10 l F10
 have F10:=F10.weaken (Φ':=λh=>EngAt r n p sf dx st ig tp dg bm od h∧FB r sf bx h∧h.CodeRec (.ref c') vqual∧VLst r n b0 V h∧h.get? gi=some (Gi.giObj V)) λh y=>⟨y.1.1.1,y.1.1.2.1,y.1.1.2.2.1,y.1.2,y.2⟩
 refine asI (c:=c.gn g9) 7 H9 F10 (EvN.sub (a:=n) (b:=1) (EvV.toN (.cellN 2 H9 rfl)) (.const 1) hn1) (λum h11 t11 F11=>?_)
 refine asI (c:=c.gn g9) 8 H9 F11 (.const (i:=0)) (λui h12 t12 F12=>?_)
 refine whileS (c:=c.gn g9) (m:=n) (λi s=>Ex11 λh' t' g' o1' o2' ps' us' k' uj jv rv=>An8 (s=⟨h',g',d,t',o⟩) (GensOk g g') (TabOk o1') (TabOk o2') (us'.length=32*r) (codeAmong vdpos ps'.toList=some (.ref c')) (TriplesOk ps'.toList) (c.SS (smL sf st ig fa V gi tb bs (n - 1) um i uj jv rv)
    (smN (h.objs.size+1) (h.objs.size+1+1) (h.objs.size+1+1+1) bx bf n un (tabObj ps') o1' o2' (lobj (nums (wS r n b0 i) us') k'))
    (λh=>EngAt r n p sf dx st ig tp dg bm od h∧FB r sf bx h∧h.CodeRec (.ref c') vqual∧VLst r n b0 V h∧h.get? gi=some (Gi.giObj V)) h'))
  ⟨h12,t12,g9,o1',o2',ps',us',k',ui,none,none,rfl,hg9,q1,q2,hu',hc8,ht8,F12⟩ ?_ ?_
 ·rintro i s hi ⟨h13,t13,g13,o1a,o2a,psa,usa,ka,uj,jv,rv,rfl,hg13,qa1,qa2,hua,hca,hta,F13⟩
  have H13:=H.gn g13
  have hl:=wS_len (n:=n) hr hl0 i
  refine EvT.run (c:=c.gn g13) (EvT.cast (EvT.lt (.nm 8 H13 (by rfl)) (EvV.toI (.cellN 2 H13 rfl))) (b:=true) (by rw [decide_eq_true_eq];lia)) F13 (λh14 t14 F14=>⟨rfl,?_⟩)
  have hx:(wS r n b0 i)[(wS r n b0 i).length - 16]?=some ((wS r n b0 i).getD (32*r - 16) 0):=by
   rw [hl,List.getD_eq_getElem?_getD,List.getElem?_eq_getElem (by lia)];rfl
  have hjn:(wS r n b0 i).getD (32*r - 16) 0 &&& (n - 1)<n:=Nat.lt_of_le_of_lt Nat.and_le_right (by trivial)
  generalize hj:(wS r n b0 i).getD (32*r - 16) 0=jj at hx hjn
  refine asI (c:=c.gn g13) 9 H13 F14 (EvN.and (a:=jj) (b:=n - 1) (EvN.ig (ig:=ig) (tp:=tp) (dg:=dg) 3 6 ESS.ei H13 (by decide) (by rfl) (.cellN 1 H13 rfl) (by rfl) (λh y=>⟨⟨y.1.igO,y.1.dgO⟩,y.1.tpO⟩) (hua.trans hl.symm) hx (by lia) (by lia)) (.nm 7 H13)) (λujj h15 t15 F15=>?_)
  have hwl:=wB_len hr hl0 (jj &&& (n - 1))
  refine asSTN (c:=c.gn g13) (zs:=xorL (wS r n b0 i) (wB r b0 (jj &&& (n - 1)))) 10 H13 F15
   (EvS.tup (as:=wS r n b0 i) (bs:=wB r b0 (jj &&& (n - 1))) (cl:=[]) EMM H13 (by decide) 3 (by rfl) EMM.ct3 (by rfl) hta (by decide) (by rw [hl,hwl]) (by lia) (λΦ' kΦ h16 t16 Q E F16 hQ=>?_) (by rfl) (by decide) (by rfl) (by rfl) (by rfl) (by rfl) (by rfl) (by decide) (by decide) (by decide) (λ_=>by rfl) (λ_ _ _=>by rfl) (λ_ _ _=>by rfl) (by rfl) (by rfl) (by rfl))
   (λls N17 g17 h17 t17 hN hg17 F17=>?_)
  ·obtain ⟨ys,ky,hyl,hyV,hyat⟩:=(kΦ h16 F16.phi).2.2.2.1
   have hgi:=(kΦ h16 F16.phi).2.2.2.2
   have hjy:jj &&& (n - 1)<ys.length:=by rw [hyl];exact hjn
   obtain ⟨el,hel,hIs⟩:=hyat _ _ (List.getElem?_eq_getElem hjy)
   have e144:=F16.new (i:=3) rfl
   refine PyProof.Rows.Call_ (gl (c:=c.gn g13) H13 F16 EMM.zip (PyProof.Rows.callWith_type1 ?_ (by rfl) (by rfl)) (by rfl) (by decide)) (by rfl)
   refine spliced_cons (wpAny_Name (wpAny_loadName_cell H13.kind (by rfl) (by rfl) ⟨_,F16.new (i:=1) rfl,rfl⟩ ?_) (by decide))
   refine spliced_cons (giCall (c:=c.gn g13) (v:=.ref el) 6 9 H13 F16 (by rfl) (by rfl) hgi hyV (by rw [List.getElem?_eq_getElem hjy,hel]) (by lia) (spliced_nil ?_) (by rfl) (by rfl) (by decide) (by decide) (by rfl) (by rfl) (by rfl))
   refine zipCallLT (F16.new (i:=6) rfl) (hua.trans hl.symm) hIs (by lia) (H13.W1 F16).size (by decide) (λq=>?_) (λq=>?_) hQ
   ·rw [q] at hbf278;exact absurd hbf278 (by decide)
   ·obtain ⟨us0,_,e0⟩:=hIs
    rw [q,e144] at e0;cases e0
  obtain ⟨psb,rfl,htn⟩:=hN
  have H17:=H.gn g17
  refine mixS (c:=c.gn g17) (r:=r) (sf:=sf) 10 EMM H17 (by decide) hr F17 (by rfl) (λh y=>y.2) (by rw [xorL_len,hl,hwl];simp) hl (hua.trans hl.symm) (λh y=>y.1.2.1) hbf278 qa1 qa2 (λo1b o2b usb kb g18 h18 t18 qb1 qb2 hub hg18 F18=>?_)
  have F18:=F18.weaken (Φ':=λh=>EngAt r n p sf dx st ig tp dg bm od h∧FB r sf bx h∧h.CodeRec (.ref c') vqual∧VLst r n b0 V h∧h.get? gi=some (Gi.giObj V)) λh y=>y.1
  refine augA (c:=c.gn g18) 8 (H.gn g18) F18 (.const 1) ?_
  intro uj2 h19 t19 l F19
  have e:wblk r (xorL (wS r n b0 i) (wB r b0 (jj &&& (n - 1))))=wS r n b0 (i+1):=by rw [←hj];rfl
  rw [e] at F19
  exact wpAny_execs_nil ⟨rfl,h19,t19,g18,o1b,o2b,psb,usb,kb,uj2,_,_,rfl,(hg13.trans hg17).trans hg18,qb1,qb2,hub,htn.among hta hca,htn.ok hta,F19⟩
 ·rintro s ⟨h13,t13,g13,o1a,o2a,psa,usa,ka,uj,jv,rv,rfl,hg13,qa1,qa2,hua,hca,hta,F13⟩
  have H13:=H.gn g13
  have hl:=wS_len (n:=n) hr hl0 n
  refine EvT.run (c:=c.gn g13) (EvT.cast (EvT.lt (.nm 8 H13 (by rfl)) (EvV.toI (.cellN 2 H13 rfl))) (b:=false) (by rw [decide_eq_false_iff_not];lia)) F13 (λh14 t14 F14=>⟨rfl,?_⟩)
  refine retPack (c:=c.gn g13) 2 6 H13 F14 hr (by rfl) (.cellN 1 H13 rfl) (by rfl) (λh y=>y.1.stO) (hua.trans hl.symm) hl (λx hx=>?_) (λt' h15 t15 F15=>?_)
  ·have en:n=n - 1+1:=by lia
   rw [en] at hx;exact wS_lt b0 (n - 1) x hx
  ·refine hR _ h15 g13 t15 (F15.kept (Nat.le_refl _)) F15.size hg13 ⟨⟨t',by rw [←hb0];rfl⟩,⟨psa,F15.new (i:=3) rfl,hta,.inr ⟨c',hca,F15.phi.2.2.1⟩⟩,⟨o1a,F15.new (i:=4) rfl,qa1⟩,⟨o2a,F15.new (i:=5) rfl,qa2⟩⟩
end
end
section
namespace Jn
open Builtin Builtin.Bytes
section
theorem items_gen {gi:Nat} {St Fin:List Value→Shared→Prop} {Q:VQ} (hg:s.heap.IsGen I gi) (W:GWalk prog w A.in1.in1 I s.heap.objs.size n St Fin) (hn:n≤100000) (hst:St [] { s with heap:=s.heap.push (lobj [] 0) })
  (hQ:∀s' ys c',ys.length=n→Fin ys s'→s'.heap.get? s.heap.objs.size=some (lobj ys c')→Q (.ref s.heap.objs.size) s'):wpAny (model prog w) A (joinItems (.ref I)) Q E s:=by
 unfold joinItems
 refine wpAny_bind (wpAny_typeOf hg.typeIs ?_)
 rw [if_neg (by decide)]
 refine wpAny_bind (wpAny_tryCatch (wpAny_pyIter_gen hg ?_))
 obtain ⟨o,_,_,ho,_⟩:=id hg
 exact call_listW (Heap.lt_size ho) W hn hst hQ
end
end Jn
end
section
noncomputable def blk (r:Nat) (src:List UInt8) (i:Nat):List UInt8:=cut src (128*r*i) (128*r*i+128*r)
noncomputable def Tabs3 (h:Heap):Prop:=VTab h∧Tab 151 h∧Tab 158 h
theorem Tabs3.kept (ws:List Addr) (x:Tabs3 h) (k:∀b o,b∉ws→h.get? b=some o→h'.get? b=some o) (hw:∀b∈ws,278≤b) (hc:∀c',h.CodeRec (.ref c') vqual→c'∉ws):Tabs3 h':=by
 obtain ⟨⟨ps,e,ht,hv⟩,t1,t2⟩:=x
 have n:∀P:Addr,P<278→P∉ws:=λP hp q=>absurd (hw P q) (Nat.not_le.mpr hp)
 refine ⟨⟨ps,k _ _ (n _ (by decide)) e,ht,?_⟩,t1.kept λo=>k _ o (n _ (by decide)),t2.kept λo=>k _ o (n _ (by decide))⟩
 rcases hv with hv | ⟨c',hv,hr⟩
 ·exact .inl hv
 ·exact .inr ⟨c',hv,CodeRec.fresh hr λo=>k _ o (hc c' hr)⟩
theorem CodeRec.ne {b:Addr} {o:Obj} (x:h.CodeRec (.ref c') q) (e:h.get? b=some o) (hn:∀vs,o.data = .fields vs→∀t,vs[1]?≠some (.str q t)):c'≠b:=by
 rintro rfl
 obtain ⟨c,oc,vs,tq,e0,e1,hd,hv⟩:=x
 cases e0
 rw [e] at e1;cases e1
 exact hn vs hd tq hv
structure MFacts (r n p:Nat) (src:List UInt8) (sf dx st ig tp dg bm:Addr) (od:Obj) (sm cS cB cO:Addr) (ub tb:Tok) (h:Heap):Prop where
 eng:EngAt r n p sf dx st ig tp dg bm od h
 f_sm:h.get? sm=some (methodObj (.ref 149) (.ref sf))
 f_cS:h.get? cS=some (cobj (some (.ref sm)))
 f_cB:h.get? cB=some (cobj (some (.int ((128*r:Nat):Int) ub)))
 f_cO:h.get? cO=some (cobj (some (.bytes src.toArray tb)))
noncomputable abbrev mfoot (sf dx st ig tp dg bm sm cS cB cO:Addr):List Addr:=[sf,dx,st,ig,tp,dg,bm,sm,cS,cB,cO]
theorem MFacts.kept {src:List UInt8} {st ig:Addr} (x:MFacts r n p src sf dx st ig tp dg bm od sm cS cB cO ub tb h)
  (k:∀b∈mfoot sf dx st ig tp dg bm sm cS cB cO,∀o,h.get? b=some o→h'.get? b=some o):MFacts r n p src sf dx st ig tp dg bm od sm cS cB cO ub tb h' where
 eng:=x.eng.kept λb hb=>k b (f7 (P:=(·∈mfoot sf dx st ig tp dg bm sm cS cB cO)) (by trivial) (by trivial) (by trivial) (by trivial) (by trivial) (by trivial) (by trivial) _ hb)
 f_sm:=k _ (by trivial) _ x.f_sm
 f_cS:=k _ (by trivial) _ x.f_cS
 f_cB:=k _ (by trivial) _ x.f_cB
 f_cO:=k _ (by trivial) _ x.f_cO
noncomputable def RelW (ws:List Addr) (s₀ s:Shared):Prop:=(∀b o,b∉ws→s₀.heap.get? b=some o→s.heap.get? b=some o)∧s₀.heap.objs.size≤s.heap.objs.size∧GensOk s₀.gens s.gens∧gz s₀≤gz s∧s.drawn=s₀.drawn∧s.os=s₀.os
theorem RelW.refl (ws:List Addr) (s:Shared):RelW ws s s:=⟨λ_ _ _ e=>e,Nat.le_refl _,GensOk.refl _,Nat.le_refl _,rfl,rfl⟩
theorem RelW.trans {ws:List Addr} {a b c:Shared} (x:RelW ws a b) (y:RelW ws b c):RelW ws a c :=
 ⟨λd o h e=>y.1 d o h (x.1 d o h e),Nat.le_trans x.2.1 y.2.1,x.2.2.1.trans y.2.2.1,Nat.le_trans x.2.2.2.1 y.2.2.2.1,y.2.2.2.2.1.trans x.2.2.2.2.1,y.2.2.2.2.2.trans x.2.2.2.2.2⟩
noncomputable def MY (r n p:Nat) (src:List UInt8) (C I D:Addr):Protocol:=λm s₀ v s kap =>
 (Ex2 λi t=>i+1+m=p∧v = .bytes (wsmix r n (blk r src i)).toArray t)∧RelW [C,I,144,151,158] s₀ s ∧
  ∀s'':Shared,(∀b o,b≠D→s.heap.get? b=some o→s''.heap.get? b=some o)→s.heap.objs.size≤s''.heap.objs.size→(Ex2 λzs k=>s''.heap.get? D=some (lobj zs k))→kap (.send .none) s''
noncomputable def MP (C I:Addr) (m:Nat) (s₀ s₁:Shared):Prop:=m=0∧RelW [C,I,144,151,158] s₀ s₁∧Tabs3 s₁.heap
noncomputable def ME (C I:Addr):GenEnd:=λm s₀ x s₁=>x = .ok .next∧MP C I m s₀ s₁
theorem over_comp (h:AOk (k+1) A) (e:Expr) (gs:List Comprehension) (sc:Scope) (ps:Pos) (it acc:Value) (env:Env):AOk k (A.over (.compLoop (.GeneratorExp e gs sc ps) 0 it acc env) []):=h.lower rfl (Nat.le_refl _) (Nat.add_le_add_left (n:=3) (m:=8) (by decide) _) rfl
noncomputable abbrev mElt (p1 p2 p3 p4 p5 p6 p7 p8 p9:Pos):Expr:=.Call (.Name "smix" p1) [.Subscript (.Name "source" p2) (.Slice (some (.Name "offset" p3)) (some (.BinOp (.Name "offset" p4) .Add (.Name "smix_bytes" p5) p6)) none p7) p8] [] p9
noncomputable abbrev mCode (elt iter:Expr) (px pos:Pos) (scope:Scope) (I:Addr) (cenv:Env):Code:=.compLoop (.GeneratorExp elt [⟨.Name "offset" px,iter,[],0⟩] scope pos) 0 (.ref I) .none cenv
theorem MFacts.fn (EMM:EM K mg mb):fnIn K 149=true:=by
 obtain ⟨oc,od,os,pm,doc,e⟩:=EMM.smix.fn
 unfold fnIn;rw [e]
@[reducible] noncomputable def mCx (prog:Program) (w:World) (A:Around) (g:Array GenState) (d:Drawn) (o:OsState) (h0:Heap) (K:Frag) (mg mb:Str→Option Value) (C:Addr) (cenv:Env):Cx where
 prog:=prog
 w:=w
 A:=A
 env:=cenv
 g:=g
 d:=d
 o:=o
 h₀:=h0
 S:=[]
 X:=[]
 L:=C
 K:=K
 mg:=mg
 mb:=mb
section
variable {src:List UInt8} {st ig:Addr}
set_option maxHeartbeats 1000000
theorem mLoop (ESS:ES K mg mb) (hr:r=1∨r=2) (hn1:1≤n) (hn2:n≤1000) (hp:p≤10) (hsrc:src.length=128*r*p) (hA:AOk 15 A) (hsep:∀b∈mfoot sf dx st ig tp dg bm sm cS cB cO,b∉[C,I,144,151,158,D])
  (hC:278≤C) (hI:278≤I) (hD:278≤D) (hCI:C≠I) (hCD:C≠D) (hID:I≠D)
  (hk:cenv.scope.kind = .function) (hl:cenv.locals=C) (hgl:cenv.globals=mainGlobals) (hbu:cenv.builtins=builtinsNs) (hco:cenv.scope.isCoroutine=false)
  (kS:cenv.kindOf "smix"=some .free) (kB:cenv.kindOf "smix_bytes"=some .free) (kO:cenv.kindOf "source"=some .free) (kx:cenv.kindOf "offset"=some .local)
  (lS:cenv.cells.lookup ("smix":Str)=some cS) (lB:cenv.cells.lookup ("smix_bytes":Str)=some cB) (lO:cenv.cells.lookup ("source":Str)=some cO) :
  ∀(m i:Nat) (s₀ s:Shared) (ov:Option Value) (iv:Option Value),i+m=p→RelW [C,I,144,151,158] s₀ s→W0 K mg mb s.heap→s.heap.Ns C (lk [((".0":Str),iv),("offset",ov)]) →
   IsRangeIter s.heap I ((0:Int)+(i:Nat)*((128*r:Nat):Int)) ((p:Int) - (i:Nat)) ((128*r:Nat):Int)→MFacts r n p src sf dx st ig tp dg bm od sm cS cB cO ub tb s.heap→Tabs3 s.heap→(Ex2 λzs k=>s.heap.get? D=some (lobj zs k)) →
   Seg (model prog w) A (ME C I) (MY r n p src C I D) m s₀
    (.compLoop (.GeneratorExp (mElt p1 p2 p3 p4 p5 p6 p7 p8 p9) [⟨.Name "offset" px,iter,[],0⟩] scope pos) 0 (.ref I) .none cenv)
    ((model prog w).den (.compLoop (.GeneratorExp (mElt p1 p2 p3 p4 p5 p6 p7 p8 p9) [⟨.Name "offset" px,iter,[],0⟩] scope pos) 0 (.ref I) .none cenv)) [] s:=by
 intro m
 induction m with
 | zero =>
  intro i s₀ s ov iv him hrel W hns hit hF hT hDl
  obtain rfl:i=p:=by trivial
  have hA':=over_comp (k:=14) hA (mElt p1 p2 p3 p4 p5 p6 p7 p8 p9) [⟨.Name "offset" px,iter,[],0⟩] scope pos (.ref I) .none cenv
  show Seg _ A _ _ _ s₀ _ ((compTurn (.GeneratorExp (mElt p1 p2 p3 p4 p5 p6 p7 p8 p9) [⟨.Name "offset" px,iter,[],0⟩] scope pos) 0 (.ref I) .none cenv).onRaise (leaving cenv)) [] s
  rw [compTurn_gen,Sem.onRaise_eq_wrap]
  refine seg_bind_wrap (wpAny_standAt (seg_bind_wrap (wpAny_with_size (Nat.le_refl _) ((Walks.range hA'.1 I 0 ((128*r:Nat):Int) i).done s _ _ hit λh' tk hk' hz=>?_))))
  refine seg_end (.ok .next) ⟨rfl,rfl,hrel.trans ⟨λb o hb e=>hk' b o (λq=>hb ?_) e,hz,GensOk.refl _,Nat.le_refl _,rfl,rfl⟩,?_⟩
  ·have:=List.mem_singleton.mp q
   rw [this];simp
  ·exact Tabs3.kept [I] hT (λb o hb e=>hk' b o hb e) (λb hb=>by rw [List.mem_singleton.mp hb];exact hI) (λc' hc q=>CodeRec.ne hc hit (λvs hv t e=>by cases hv;cases e) (List.mem_singleton.mp q))
 | succ m ih =>
  intro i s₀ s ov iv him hrel W hns hit hF hT hDl
  have hlt:i<p:=him▸Nat.lt_add_of_pos_right (Nat.succ_pos m)
  have hA':=over_comp (k:=14) hA (mElt p1 p2 p3 p4 p5 p6 p7 p8 p9) [⟨.Name "offset" px,iter,[],0⟩] scope pos (.ref I) .none cenv
  show Seg _ A _ _ _ s₀ _ ((compTurn (.GeneratorExp (mElt p1 p2 p3 p4 p5 p6 p7 p8 p9) [⟨.Name "offset" px,iter,[],0⟩] scope pos) 0 (.ref I) .none cenv).onRaise (leaving cenv)) [] s
  rw [compTurn_gen,Sem.onRaise_eq_wrap]
  refine seg_bind_wrap (wpAny_standAt (seg_bind_wrap (wpAny_with_size (Nat.le_refl _) ((Walks.range hA'.1 I 0 ((128*r:Nat):Int) p).item i s _ _ hlt hit λv h₁ tk₁ hv hit₁ hk₁ hz₁=>?_))))
  obtain ⟨uo,hv⟩:=hv
  have ev:(0:Int)+(i:Nat)*((128*r:Nat):Int)=((128*r*i:Nat):Int):=by push_cast;rw [Int.zero_add,Int.mul_comm]
  rw [ev] at hv
  subst hv
  have W1:W0 K mg mb h₁:=W.keeps (S:=[I]) ESS.ei.em.ek.dom (λb hb=>.inl (by rw [List.mem_singleton.mp hb];exact hI)) (λb o hb e=>hk₁ b o hb e) hz₁
  have hok:(mCx prog w (A.over (mCode (mElt p1 p2 p3 p4 p5 p6 p7 p8 p9) iter px pos scope I cenv) []) s.gens s.drawn s.os h₁ K mg mb C cenv).Ok 14:=⟨hk,hl,hgl,hbu,hA',W1,ESS.ei.em.ek.dom,by simp,hC⟩
  have hF₁:MFacts r n p src sf dx st ig tp dg bm od sm cS cB cO ub tb h₁:=hF.kept λb hb o e=>hk₁ b o (λq=>hsep b hb (by rw [List.mem_singleton.mp q];simp)) e
  have hneC:∀b∈mfoot sf dx st ig tp dg bm sm cS cB cO,b≠C:=λb hb q=>hsep b hb (by rw [q];simp)
  have F0:(mCx prog w (A.over (mCode (mElt p1 p2 p3 p4 p5 p6 p7 p8 p9) iter px pos scope I cenv) []) s.gens s.drawn s.os h₁ K mg mb C cenv).SS [((".0":Str),iv),("offset",ov)] [] (λh''=>∀b o,b≠C→h₁.get? b=some o→h''.get? b=some o) h₁ :=
   ⟨hns.at' λo e=>hk₁ C o (by simpa using hCI) e,(by show ([(".0":Str),"offset"]:List Str).Nodup;decide),λ_ _ _ _ e=>e,by simp,by trivial,Nat.le_refl _,by simp,λh'' q b o hb e=>q b o hb (by simp) (by simp) e⟩
  refine seg_bind_wrap (wpAny_of_eq (a:=()) rfl ?_)
  refine seg_bind_wrap (wpAny_assign_Name (stn (c:=mCx prog w (A.over (mCode (mElt p1 p2 p3 p4 p5 p6 p7 p8 p9) iter px pos scope I cenv) []) s.gens s.drawn s.os h₁ K mg mb C cenv) hok F0 (i:=1) rfl (λh2 F2=>?_) kx))
  refine seg_bind_wrap (m:=forIn ([]:List Expr) true _) ?_
  rw [List.forIn_nil]
  refine wpAny_pure ?_
  simp only [if_true]
  have hy:∀v,yieldOut cenv v=yieldValue v:=λv=>by simp only [yieldOut,hco,Bool.false_eq_true,if_false]
  simp only [hy]
  rw [Sem.bind_eq_wrap',Sem.bind_eq_wrap',Sem.wrap_wrap,Sem.wrap_wrap]
  refine seg_wrap ?_
  have hS:EvV (mCx prog w (A.over (mCode (mElt p1 p2 p3 p4 p5 p6 p7 p8 p9) iter px pos scope I cenv) []) s.gens s.drawn s.os h₁ K mg mb C cenv) [((".0":Str),iv),("offset",some (.int ((128*r*i:Nat):Int) uo))] [] (λh''=>∀b o,b≠C→h₁.get? b=some o→h''.get? b=some o) (.Name "smix" p1) (.ref sm) :=
   EvV.free hok kS lS (λh F=>F.phi cS _ (hneC _ (by trivial)) hF₁.f_cS)
  have hB:EvV (mCx prog w (A.over (mCode (mElt p1 p2 p3 p4 p5 p6 p7 p8 p9) iter px pos scope I cenv) []) s.gens s.drawn s.os h₁ K mg mb C cenv) [((".0":Str),iv),("offset",some (.int ((128*r*i:Nat):Int) uo))] [] (λh''=>∀b o,b≠C→h₁.get? b=some o→h''.get? b=some o) (.Name "smix_bytes" p5) (.int ((128*r:Nat):Int) ub) :=
   EvV.free hok kB lB (λh F=>F.phi cB _ (hneC _ (by trivial)) hF₁.f_cB)
  have hO:EvV (mCx prog w (A.over (mCode (mElt p1 p2 p3 p4 p5 p6 p7 p8 p9) iter px pos scope I cenv) []) s.gens s.drawn s.os h₁ K mg mb C cenv) [((".0":Str),iv),("offset",some (.int ((128*r*i:Nat):Int) uo))] [] (λh''=>∀b o,b≠C→h₁.get? b=some o→h''.get? b=some o) (.Name "source" p2) (.bytes src.toArray tb) :=
   EvV.free hok kO lO (λh F=>F.phi cO _ (hneC _ (by trivial)) hF₁.f_cO)
  have hX:∀q,EvN (mCx prog w (A.over (mCode (mElt p1 p2 p3 p4 p5 p6 p7 p8 p9) iter px pos scope I cenv) []) s.gens s.drawn s.os h₁ K mg mb C cenv) [((".0":Str),iv),("offset",some (.int ((128*r*i:Nat):Int) uo))] [] (λh''=>∀b o,b≠C→h₁.get? b=some o→h''.get? b=some o) (.Name "offset" q) (128*r*i):=λq=>EvN.nm 1 hok rfl kx
  have h128:128*r*p≤2560:=by
   have h1:128*r≤256:=or2 hr (by decide) (by decide)
   exact Nat.le_trans (Nat.mul_le_mul h1 hp) (by decide)
  refine PyProof.Rows.Call_ (hS _ (λ_ y=>y) _ _ _ _ F2 (λh3 t3 F3=>?_)) (by rfl)
  refine callWith_of (P:=MethP K sm 149 (.ref sf)) (by rfl) (keeps_M (MFacts.fn ESS.ei.em)) (evalArgs_all (by rfl) ?_)
  refine spliced_cons (EvF.cutB (bs:=src) (cs:=blk r src i) (EvF.mono (EvV.toF hO) λv _ e=>⟨tb,e⟩) (.of (hX p3)) (.of (EvN.add (hX p4) (EvV.toN hB))) (by lia) (picked_cut _ _ _) (λ_ _ _=>⟨_,by with_unfolding_all rfl⟩) _ (λ_ y=>y) _ _ _ _ F3 (λv4 h4 t4 F4 hz4 q4=>spliced_nil ?_))
  obtain ⟨u4,rfl⟩:=q4.here
  have hF₄:MFacts r n p src sf dx st ig tp dg bm od sm cS cB cO ub tb h4:=hF₁.kept λb hb o e=>F4.phi b o (hneC b hb) e
  have k14:∀b o,b∉[C,I]→s.heap.get? b=some o→h4.get? b=some o:=λb o hb e=>F4.phi b o (λq=>hb (by rw [q];simp)) (hk₁ b o (λq=>hb (by rw [List.mem_singleton.mp q];simp)) e)
  have hT₄:Tabs3 h4:=Tabs3.kept [C,I] hT k14 (λb hb=>by
   revert b hb
   refine f2 ?_ ?_
   ·exact hC
   ·exact hI) (λc' hc q=>by
   have q:=ors q
   rcases q with q | q
   ·obtain ⟨oC,es,ep,eC,hd,_⟩:=hns
    exact CodeRec.ne hc eC (λvs hv t e=>by rw [hd] at hv;cases hv) q
   ·exact CodeRec.ne hc hit (λvs hv t e=>by cases hv;cases e) q)
  have hblen:(blk r src i).length=128*r:=by
   have hle:128*r≤128*r*p - 128*r*i:=Nat.le_sub_of_add_le' (Nat.mul_le_mul_left (128*r) hlt)
   unfold blk cut
   rw [List.length_take,List.length_drop,hsrc,Nat.add_sub_cancel_left,Nat.min_eq_left hle]
  refine ⟨⟨hF₄.f_sm,(hok.W1 F4).k⟩,?_⟩
  refine wpAny_with_gz (Nat.le_refl _) (wpAny_call (ks_codeAny_call_bound hF₄.f_sm (smix_call ESS hr hn1 hn2 hF₄.eng hblen hT₄.1 hT₄.2.1 hT₄.2.2 _ _ t4 _ _ (hA'.le (by decide)) (hok.W1 F4) ?_)))
  rintro v5 h5 g5 t5 hk5 hz5 hg5 ⟨⟨t',rfl⟩,hV5,h151,h158⟩ hgz5
  have hz14:s.heap.objs.size≤h4.objs.size:=Nat.le_trans hz₁ F4.size
  have k15:∀b o,b∉[C,I,144,151,158]→s.heap.get? b=some o→h5.get? b=some o:=λb o hb e=>by
   have hb:=nrs hb
   exact hk5 b o (by simp [hb]) (k14 b o (by simp [hb]) e)
  have nT:∀b:Addr,278≤b→b∉([144,151,158]:List Addr):=λb hb q=>by
   have q:=ors q
   rcases q with rfl | rfl | rfl<;>exact absurd hb (by decide)
  have hDl5:Ex2 λzs k=>h5.get? D=some (lobj zs k):=by
   obtain ⟨zs,k,e⟩:=hDl
   refine ⟨zs,k,k15 D _ ?_ e⟩
   have:=nT D hD
   exact n5 (λq=>hCD q.symm) (λq=>hID q.symm) (nrs this).1 (nrs this).2.1 (nrs this).2.2.1
  refine seg_at (seg_yield rfl rfl rfl ⟨⟨i,t',by lia,rfl⟩,hrel.trans ⟨k15,Nat.le_trans hz14 hz5,hg5,hgz5,rfl,rfl⟩,λs'' hal hz'' hdl=>?_⟩)
  have kD:∀b o,b∉([144,151,158]:List Addr)→b≠D→h4.get? b=some o→s''.heap.get? b=some o:=λb o hb hd e=>hal b o hd (hk5 b o hb e)
  have W5:W0 K mg mb h5:=(hok.W1 F4).keeps (S:=[144,151,158]) ESS.ei.em.ek.dom (λb hb=>by
   revert b hb
   refine f3 ?_ ?_ ?_<;>exact .inr (by decide)) (λb o hb e=>hk5 b o hb e) hz5
  have W'':W0 K mg mb s''.heap:=W5.keeps (S:=[D]) ESS.ei.em.ek.dom (λb hb=>.inl (by rw [List.mem_singleton.mp hb];exact hD)) (λb o hb e=>hal b o (λq=>hb (by rw [q];simp)) e) hz''
  refine seg_again rfl (ih (i+1) s'' s'' _ iv (by lia) (RelW.refl _ _) W'' (F4.ns.at' λo e=>kD C o (nT C hC) hCD e) ?_ (hF₄.kept λb hb o e=>kD b o (λq=>hsep b hb (List.mem_cons_of_mem _ (List.mem_cons_of_mem _ ?_))) (λq=>hsep b hb (by rw [q];simp)) e) (Tabs3.kept [D] ⟨hV5,h151,h158⟩ (λb o hb e=>hal b o (λq=>hb (by rw [q];simp)) e) (λb hb=>by rw [List.mem_singleton.mp hb];exact hD) (λc' hc q=>?_)) hdl)
  ·exact kD I _ (nT I hI) hID (F4.phi I _ hCI.symm hit₁)
  ·exact f3 (P:=(·∈_)) (by trivial) (by trivial) (by trivial) _ q
  ·obtain ⟨zs,k,e⟩:=hDl5
   exact CodeRec.ne hc e (λvs hv=>by cases hv) (List.mem_singleton.mp q)
end
end
section
noncomputable abbrev mGen (elt iter:Expr) (px pos:Pos) (scope:Scope) (I:Addr) (cenv:Env):Code:=.compStart (.GeneratorExp elt [⟨.Name "offset" px,iter,[],0⟩] scope pos) 0 (.ref I) .none cenv
section
variable {src:List UInt8} {st ig:Addr}
theorem mStart (ESS:ES K mg mb) (hr:r=1∨r=2) (hn1:1≤n) (hn2:n≤1000) (hp:p≤10) (hsrc:src.length=128*r*p) (hA:AOk 15 A) (hsep:∀b∈mfoot sf dx st ig tp dg bm sm cS cB cO,b∉[C,I,144,151,158,D])
  (hC:278≤C) (hI:278≤I) (hD:278≤D) (hCI:C≠I) (hCD:C≠D) (hID:I≠D)
  (hk:cenv.scope.kind = .function) (hl:cenv.locals=C) (hgl:cenv.globals=mainGlobals) (hbu:cenv.builtins=builtinsNs) (hco:cenv.scope.isCoroutine=false)
  (kS:cenv.kindOf "smix"=some .free) (kB:cenv.kindOf "smix_bytes"=some .free) (kO:cenv.kindOf "source"=some .free) (kx:cenv.kindOf "offset"=some .local)
  (lS:cenv.cells.lookup ("smix":Str)=some cS) (lB:cenv.cells.lookup ("smix_bytes":Str)=some cB) (lO:cenv.cells.lookup ("source":Str)=some cO)
  (s:Shared) (iv:Option Value) (W:W0 K mg mb s.heap) (hns:s.heap.Ns C (lk [((".0":Str),iv),("offset",none)])) (hit:IsRangeIter s.heap I 0 p ((128*r:Nat):Int))
  (hF:MFacts r n p src sf dx st ig tp dg bm od sm cS cB cO ub tb s.heap) (hT:Tabs3 s.heap) (hDl:Ex2 λzs k=>s.heap.get? D=some (lobj zs k)) :
  Seg (model prog w) A (ME C I) (MY r n p src C I D) p s (mGen (mElt p1 p2 p3 p4 p5 p6 p7 p8 p9) iter px pos scope I cenv) ((model prog w).den (mGen (mElt p1 p2 p3 p4 p5 p6 p7 p8 p9) iter px pos scope I cenv)) [] s:=by
 have hh':(A.over (mGen (mElt p1 p2 p3 p4 p5 p6 p7 p8 p9) iter px pos scope I cenv) []).handled=none:=hA.1
 have loop:=mLoop (prog:=prog) (w:=w) (iter:=iter) (px:=px) (p1:=p1) (p2:=p2) (p3:=p3) (p4:=p4) (p5:=p5) (p6:=p6) (p7:=p7) (p8:=p8) (p9:=p9) (pos:=pos) (scope:=scope) ESS hr hn1 hn2 hp hsrc hA hsep hC hI hD hCI hCD hID hk hl hgl hbu hco kS kB kO kx lS lB lO p 0 s s none iv (Nat.zero_add p) (RelW.refl _ _) W hns (by
  rw [show (0:Int)+((0:Nat):Int)*((128*r:Nat):Int)=0 by simp,show (p:Int) - ((0:Nat):Int)=p by simp];exact hit) hF hT hDl
 show Seg _ A _ _ _ s _ ((compStart (.GeneratorExp (mElt p1 p2 p3 p4 p5 p6 p7 p8 p9) [⟨.Name "offset" px,iter,[],0⟩] scope pos) 0 (.ref I) .none cenv).onRaise (leaving cenv)) [] s
 unfold compStart
 rw [Sem.onRaise_eq_wrap]
 show Seg _ A _ _ _ s _ ((ask >>= _).wrap _ _ _ _) [] s
 refine seg_bind_wrap (wpAny_askSetting ?_)
 have hself:∀ {Q:VQ} {E:VQ} {A':Around},A'.handled=none→Q (.ref I) s→wpAny (model prog w) A' (pyIter (.ref I)) Q E s:=λhh hq=>(Walks.range hh I 0 ((128*r:Nat):Int) p).self 0 s _ _ (by
  rw [show (0:Int)+((0:Nat):Int)*((128*r:Nat):Int)=0 by simp,show (p:Int) - ((0:Nat):Int)=p by simp];exact hit) hq
 split
 ·exact seg_again rfl loop
 ·first
   | exact seg_bind_wrap (wpAny_rule (seg_bind_wrap (wpAny_standAt (seg_bind_wrap (hself hh' (seg_again rfl loop))))))
   | (refine seg_bind_wrap (wpAny_rule ?_);show Seg _ A _ _ _ s _ ((standAt iter.pos >>= _).wrap _ _ _ _) [] s;exact seg_bind_wrap (wpAny_standAt (seg_bind_wrap (hself hh' (seg_again rfl loop)))))
noncomputable def MYs (r n:Nat) (src:List UInt8) (ys:List Value):Prop:=∀(j:Nat) y,ys[j]?=some y→∃t,y = .bytes (wsmix r n (blk r src j)).toArray t
structure MSince (C I D:Addr) (s₀ s:Shared):Prop where
 heap:∀b o,b∉[C,I,144,151,158,D]→s₀.heap.get? b=some o→s.heap.get? b=some o
 bare:GensOk s₀.gens s.gens
 drawn:s.drawn=s₀.drawn
 os:s.os=s₀.os
structure MSt (prog:Program) (w:World) (A:Around) (K:Frag) (mg mb:Str→Option Value) (r n p:Nat) (src:List UInt8) (a C I D:Addr) (gi:Nat) (s₀:Shared) (ys:List Value) (s:Shared):Prop where
 gen:s.heap.IsGen a gi
 W:W0 K mg mb s.heap
 dl:Ex2 λzs k=>s.heap.get? D=some (lobj zs k)
 goes:∃gs,s.gens[gi]?=some gs∧∀s'':Shared,(∀b o,b≠D→s.heap.get? b=some o→s''.heap.get? b=some o)→s.heap.objs.size≤s''.heap.objs.size→(Ex2 λzs k=>s''.heap.get? D=some (lobj zs k)) →
  gs.Goes (model prog w) A.in1 (ME C I) (MY r n p src C I D) (p - ys.length) (.send .none) s''
 ys:MYs r n src ys
 since:MSince C I D s₀ s
structure MFin (r n:Nat) (src:List UInt8) (C I D:Addr) (s₀:Shared) (ys:List Value) (s:Shared):Prop where
 ys:MYs r n src ys
 since:MSince C I D s₀ s
 tabs:Tabs3 s.heap
theorem mWalk {gi:Nat} (hh:A.handled=none) (hroom:A.depth<recursionLimit) (D':KDom K) (hC:278≤C) (hI:278≤I) (hD:278≤D) (hCD:C≠D) (hID:I≠D) (ha:a∉[C,I,144,151,158]) (haD:a≠D) (s₀:Shared) :
  GWalk prog w A a D p (MSt prog w A K mg mb r n p src a C I D gi s₀) (MFin r n src C I D s₀) where
 typ:=λys s st=>st.gen.typeIs
 frame:=λys s h' st hz hk hdl=>by
  refine ⟨IsGen.kept st.gen λo e=>hk a o haD e,?_,hdl,?_,st.ys,?_⟩
  ·exact st.W.keeps (S:=[D]) D' (λb hb=>.inl (by rw [List.mem_singleton.mp hb];exact hD)) (λb o hb e=>hk b o (λq=>hb (by rw [q];exact List.mem_singleton.mpr rfl)) e) (Nat.le_of_eq hz.symm)
  ·obtain ⟨gs,hgs,hgo⟩:=st.goes
   exact ⟨gs,hgs,λs'' k z d=>hgo s'' (λb o hb e=>k b o hb (hk b o hb e)) (Nat.le_trans (Nat.le_of_eq hz.symm) z) d⟩
  ·exact ⟨λb o hb e=>hk b o (λq=>hb (by rw [q];simp)) (st.since.heap b o hb e),st.since.bare,st.since.drawn,st.since.os⟩
 item:=λys s Q E hlt st hQ=>by
  obtain ⟨gs,hgs,hgo⟩:=st.goes
  obtain ⟨m,hm⟩:∃m,p - ys.length=m+1:=⟨p - ys.length - 1,by lia⟩
  rw [hm] at hgo
  refine wpAny_pyNext_genexpQ (P:=MP C I) hh st.W.lim hroom st.gen hgs (hgo (s.setGen gi .running) (λ_ _ _ e=>e) (Nat.le_refl _) st.dl) (λv s₁ gs' hb hv=>?_) (λs₁ hp h' hk=>?_)
  ·obtain ⟨⟨i,t,hi,rfl⟩,⟨hk,hz,hg,hgz,hd,ho⟩,hkap⟩:=hv
   have hi':i=ys.length:=by lia
   subst hi'
   have hDn:D∉[C,I,144,151,158]:=by
    exact n5 hCD.symm hID.symm (λq=>absurd hD (by rw [q];decide)) (λq=>absurd hD (by rw [q];decide)) (λq=>absurd hD (by rw [q];decide))
   have hs1:(s₁.setGen gi gs').gens[gi]?=some gs':=by
    have hlt':gi<s.gens.size:=(Array.getElem?_eq_some_iff.mp hgs).1
    have:gi<s₁.gens.size:=Nat.lt_of_lt_of_le hlt' (by have:=hgz;simpa [gz,Shared.setGen] using this)
    simp only [Shared.setGen]
    rw [Array.getElem?_setIfInBounds_self_of_lt this]
   refine hQ _ _ ⟨IsGen.kept st.gen λo q=>hk a o ha q,?_,?_,⟨gs',hs1,λs'' k z d=>?_⟩,λj y q=>?_,?_⟩ λo q=>hk D o hDn q
   ·refine st.W.keeps (S:=[C,I,144,151,158]) D' (λb hb=>?_) (λb o hb q=>hk b o hb q) hz
    revert b hb
    refine f5 ?_ ?_ ?_ ?_ ?_
    ·exact .inl hC
    ·exact .inl hI
    ·exact .inr (by decide)
    ·exact .inr (by decide)
    ·exact .inr (by decide)
   ·obtain ⟨zs,k,e⟩:=st.dl
    exact ⟨zs,k,hk D _ hDn e⟩
   ·have e1:p - (ys++[Value.bytes (wsmix r n (blk r src ys.length)).toArray t]).length=m:=by simp;lia
    rw [e1]
    exact hkap s'' k z d
   ·by_cases hj:j<ys.length
    ·rw [List.getElem?_append_left hj] at q
     exact st.ys j y q
    ·have:j=ys.length:=by
      have:=(List.getElem?_eq_some_iff.mp q).1
      simp at this;lia
     subst this
     simp at q
     subst q
     exact ⟨t,rfl⟩
   ·refine ⟨λb o hb q=>hk b o (λhm=>hb ?_) (st.since.heap b o hb q),λhb0=>?_,hd.trans st.since.drawn,ho.trans st.since.os⟩
    ·exact f5 (P:=(·∈_)) (by trivial) (by trivial) (by trivial) (by trivial) (by trivial) _ hm
    ·have h1:=hg (allBare_set rfl λj y _ e=>st.since.bare hb0 y (Array.mem_of_getElem? e))
     exact allBare_set hb λj y _ e=>h1 y (Array.mem_of_getElem? e)
  ·exact absurd hp.1 (by lia)
 done:=λys s Q E hlen st hQ=>by
  obtain ⟨gs,hgs,hgo⟩:=st.goes
  have e0:p - ys.length=0:=by lia
  rw [e0] at hgo
  refine wpAny_pyNext_genexpQ (P:=MP C I) hh st.W.lim hroom st.gen hgs (hgo (s.setGen gi .running) (λ_ _ _ e=>e) (Nat.le_refl _) st.dl) (λv s₁ gs' hb hv=>?_) (λs₁ hp h' hk'=>?_)
  ·obtain ⟨_,⟨hk,_⟩,hkap⟩:=hv
   obtain ⟨zs,k,e⟩:=st.dl
   have hDn:D∉[C,I,144,151,158]:=by
    exact n5 hCD.symm hID.symm (λq=>absurd hD (by rw [q];decide)) (λq=>absurd hD (by rw [q];decide)) (λq=>absurd hD (by rw [q];decide))
   exact (hkap s₁ (λ_ _ _ e=>e) (Nat.le_refl _) ⟨zs,k,hk D _ hDn e⟩).elim
  ·obtain ⟨_,⟨hk,hz,hg,hgz,hd,ho⟩,ht⟩:=hp
   have hDn:D∉[C,I,144,151,158]:=by
    exact n5 hCD.symm hID.symm (λq=>absurd hD (by rw [q];decide)) (λq=>absurd hD (by rw [q];decide)) (λq=>absurd hD (by rw [q];decide))
   refine hQ _ ⟨st.ys,⟨λb o hb q=>hk' b o (hk b o (λhm=>hb ?_) (st.since.heap b o hb q)),λhb0=>?_,hd.trans st.since.drawn,ho.trans st.since.os⟩,Tabs3.kept [] ht (λb o _ e=>hk' b o e) (by trivial) (by simp)⟩ λo q=>hk' D o (hk D o hDn q)
   ·exact f5 (P:=(·∈_)) (by trivial) (by trivial) (by trivial) (by trivial) (by trivial) _ hm
   ·have h1:=hg (allBare_set rfl λj y _ e=>st.since.bare hb0 y (Array.mem_of_getElem? e))
    exact allBare_set rfl λj y _ e=>h1 y (Array.mem_of_getElem? e)
 self:=λys s Q E st hQ=>wpAny_pyIter_gen st.gen hQ
end
end
section
section
theorem kdf_kw (LKK:LK K mg mb) {u4 u5:Tok} (h1:secret.length≤1000) (h2:salt.length≤1000) (h3:keylen≤1000) :
  FnAt prog w K mg mb 1 199 ⟨[.str "sha256" u1,.bytes secret.toArray u2,.bytes salt.toArray u3],[("rounds",.int 1 u4),("keylen",.int (keylen:Int) u5)]⟩ h (BR (lkdf secret salt keylen)) :=
 law_kdf (u1:=u1) (u2:=u2) (u3:=u3) (u4:=u4) (u5:=u5) LKK h1 h2 h3 λpm doc=>by kernel_rfl
theorem EvF.kdf {k1p k2p k3p:Pos} (i:Nat) (LKK:LK c.K c.mg c.mb) (H:c.Ok n) (hn:1≤n) (hi:l[i]?=some (x,some (.ref 199)))
  (he1:EvF c l N Φ e1 (BR secret)) (he2:EvF c l N Φ e2 (BR salt)) (he3:EvN c l N Φ e3 keylen) (h1:secret.length≤1000) (h2:salt.length≤1000) (h3:keylen≤1000)
  (kx:Loc c.env x:=by rfl) (dx:ND x:=by decide)
  (s1:Unst (.Constant (.str "sha256") k1 k1p) [e1,e2] c.env:=by rfl)
  (s2:Unst e1 [e2] c.env:=by rfl)
  (s3:Unst e2 [] c.env:=by rfl)
  (hall:(backToKw pos (keywordEach [⟨some "rounds",.Constant (.int 1) k2 k2p,k3p⟩,⟨some "keylen",e3,cp⟩] c.env)).all (·.1.isSome)=true:=by rfl)
  (hev:eval (.Call (.Name x np) [.Constant (.str "sha256") k1 k1p,e1,e2] [⟨some "rounds",.Constant (.int 1) k2 k2p,k3p⟩,⟨some "keylen",e3,cp⟩] pos) c.env=(do callWith pos (←eval (.Name x np) c.env) [] (backTo pos (starEach [.Constant (.str "sha256") k1 k1p,e1,e2] c.env)) (backToKw pos (keywordEach [⟨some "rounds",.Constant (.int 1) k2 k2p,k3p⟩,⟨some "keylen",e3,cp⟩] c.env))):=by rfl) :
  EvF c l N Φ (.Call (.Name x np) [.Constant (.str "sha256") k1 k1p,e1,e2] [⟨some "rounds",.Constant (.int 1) k2 k2p,k3p⟩,⟨some "keylen",e3,cp⟩] pos) (BR (lkdf secret salt keylen)):=by
 intro Φ' k h t Q E F hQ
 obtain ⟨oc,od,os,pm,doc,hk⟩:=LKK.kdf.fn
 rw [hev]
 refine wpAny_bind (ld H F hi ?_ kx dx)
 refine callWith_function_kw (o:=⟨oc,od,.func (docDef "_law_kdf" (arOf (top 22)) (bdOf (top 22)) (scOf (top 22)) pm (.ref 198) doc),os⟩) (fd:=docDef "_law_kdf" (arOf (top 22)) (bdOf (top 22)) (scOf (top 22)) pm (.ref 198) doc) (PyProof.Rows.evalArgs_kw2 hall ?_ s1)
 rw [s1]
 refine spliced_cons (Calls.Constant_str (k:=k1) (pos:=k1p) ?_)
 rw [s2]
 refine spliced_cons (he1 _ k h (t+1) _ _ F λv1 h1' t1 F1 hz1 p1=>?_)
 rw [s3]
 refine spliced_cons (he2 _ k h1' t1 _ _ F1 λv2 h2' t2 F2 hz2 p2=>spliced_nil ?_)
 obtain ⟨u1,rfl⟩:=p1.here
 obtain ⟨u2,rfl⟩:=p2.here
 refine PyProof.Rows.kwAll_cons (wpAny_Constant_int ?_)
 refine PyProof.Rows.kwAll_cons (wpAny_with_size (Nat.le_refl _) (he3 _ k h2' (t2+1) _ _ F2 λu5 h3' t3 F3 hz3=>PyProof.Rows.kwAll_nil ?_))
 have hz3':h2'.objs.size≤h3'.objs.size:=hz3
 refine ⟨⟨(H.W1 F3).k _ _ hk,rfl⟩,?_⟩
 show wpAny _ _ (PySem.call (.ref 199) [.str "sha256" t,.bytes secret.toArray u1,.bytes salt.toArray u2] [("rounds",.int 1 t2),("keylen",.int (keylen:Int) u5)]) _ _ _
 refine wpAny_call (kdf_kw LKK h1 h2 h3 c.A c.g c.d t3 c.o _ (H.A.le hn) (H.W1 F3) λv h4 t4 G p=>?_)
 exact hQ v h4 t4 (F3.grown G) (Nat.le_trans hz1 (Nat.le_trans hz2 (Nat.le_trans hz3' G.1))) (p.le (Nat.le_trans hz1 (Nat.le_trans hz2 hz3')))
noncomputable abbrev rnN (cS cB cO sm:Addr) (vb:Option Value) (src:List UInt8) (tb:Tok) (o4 o3 o1 o2:Obj):LN :=
 [(cS,cobj (some (.ref sm))),(cB,cobj vb),(cO,cobj (some (.bytes src.toArray tb))),(137,o4),(144,o3),(151,o1),(158,o2)]
theorem EvS.mix1 {src:List UInt8} {st ig:Addr} {o4:Obj} (ESS:ES c.K c.mg c.mb) (H:c.Ok n) (hn:13≤n) (hr:r=1∨r=2) (hm1:1≤m) (hm2:m≤1000) (hsrc:src.length=128*r)
  (hN:N=rnN cS cB cO sm vb src tb o4 o3 o1 o2) (hE:∀h,Φ h→EngAt r m p sf dx st ig tp dg bm od h∧h.get? sm=some (methodObj (.ref 149) (.ref sf))) (hT:∀h,c.SS l N Φ h→Tabs3 h)
  (kS:Cel c.env "smix") (kO:Cel c.env "source") (lS:c.env.cells.lookup ("smix":Str)=some cS) (lO:c.env.cells.lookup ("source":Str)=some cO)
  (hp:(starEach [.Name "source" yp] c.env)=[(false,eval (.Name "source" yp) c.env)]:=by rfl)
  (hev:CallIs "smix" np [.Name "source" yp] pos c.env:=by rfl) :
  EvS c l N Φ (.Call (.Name "smix" np) [.Name "source" yp] [] pos) (λN'=>Ex3 λo3' o1' o2'=>An4 (N'=rnN cS cB cO sm vb src tb o4 o3' o1' o2') (TabOk o3') (TabOk o1') (TabOk o2')) (BR (wsmix r m src)):=by
 subst hN
 intro Φ' k h t Q E F hQ
 have hB:EvV c l (rnN cS cB cO sm vb src tb o4 o3 o1 o2) Φ (.Name "smix" np) (.ref sm):=.cellN 0 H rfl kS lS
 have hO:EvV c l (rnN cS cB cO sm vb src tb o4 o3 o1 o2) Φ (.Name "source" yp) (.bytes src.toArray tb):=.cellN 2 H rfl kO lO
 refine PyProof.Rows.Call_ (hB _ k _ _ _ _ F (λh12 t12 F12=>?_)) hev
 rw [hp]
 refine callWith_of (P:=MethP c.K sm 149 (.ref sf)) (by rfl) (keeps_M (MFacts.fn ESS.ei.em)) (evalArgs_all (by rfl) ?_)
 refine spliced_cons (wpAny_with_size (Nat.le_refl _) (hO _ k _ _ _ _ F12 (λh13 t13 F13 hz13=>spliced_nil ?_)))
 have hE13:=hE h13 (k _ F13.phi)
 have hT13:=hT h13 (F13.weaken k)
 refine ⟨⟨hE13.2,(H.W1 F13).k⟩,?_⟩
 refine wpAny_call (ks_codeAny_call_bound hE13.2 (smix_call ESS hr hm1 hm2 hE13.1 hsrc hT13.1 hT13.2.1 hT13.2.2 _ _ t13 _ _ (H.A.le hn) (H.W1 F13) ?_))
 rintro v h14 g14 t14 hk14 hz14 hg14 ⟨⟨t',rfl⟩,⟨ps',e3',ht3',_⟩,⟨o1',e1',k1'⟩,⟨o2',e2',k2'⟩⟩
 have nd:=F.ndn
 refine hQ _ _ h14 g14 t14 ⟨_,o1',o2',rfl,⟨ps',rfl,ht3'⟩,k1',k2'⟩ hg14 ((SS.calls (N':=rnN cS cB cO sm vb src tb o4 (tabObj ps') o1' o2') F13 (W:=[144,151,158]) rfl (λb hb=>?_) hk14 hz14 (λp hp=>?_)).know λh'' _=>⟨t',rfl⟩)
 ·revert b hb
  refine f3 ?_ ?_ ?_<;>simp
 ·revert p hp
  refine f7 ?_ ?_ ?_ ?_ ?_ ?_ ?_
  ·exact hk14 _ _ (n3 (nneq nd 0 4) (nneq nd 0 5) (nneq nd 0 6)) (F13.new (i:=0) rfl)
  ·exact hk14 _ _ (n3 (nneq nd 1 4) (nneq nd 1 5) (nneq nd 1 6)) (F13.new (i:=1) rfl)
  ·exact hk14 _ _ (n3 (nneq nd 2 4) (nneq nd 2 5) (nneq nd 2 6)) (F13.new (i:=2) rfl)
  ·exact hk14 _ _ (by show (137:Addr)∉([144,151,158]:List Addr);decide) (F13.new (i:=3) rfl)
  ·exact e3'
  ·exact e1'
  ·exact e2'
end
end
section
noncomputable def wmix (r m p:Nat) (src:List UInt8):List UInt8:=((List.range p).map λi=>wsmix r m (blk r src i)).flatten
theorem rsize (hr:r=1∨r=2) (hp:p=1∨p=2):Builtin.Range.rangeSize 0 ((128*r*p:Nat):Int) ((128*r:Nat):Int)=(p:Int):=by
 exact or2 hr (or2 hp (by decide) (by decide)) (or2 hp (by decide) (by decide))
theorem rsmall (hr:r=1∨r=2) (hp:p=1∨p=2):Builtin.Range.small 0 ((128*r*p:Nat):Int) ((128*r:Nat):Int)=true:=by
 exact or2 hr (or2 hp (by decide) (by decide)) (or2 hp (by decide) (by decide))
theorem wsmix_len (hr:r=1∨r=2) (bs:List UInt8):(wsmix r m bs).length=128*r:=by
 unfold wsmix
 rw [St.wpack_len,wS_len hr (by simp)];lia
theorem wmix_len (hr:r=1∨r=2) (src:List UInt8):(wmix r m p src).length=128*r*p:=by
 unfold wmix
 rw [List.length_flatten,List.map_map]
 have:(List.length ∘ λi=>wsmix r m (blk r src i))=λ_=>128*r:=by funext i;exact wsmix_len hr _
 rw [this,List.map_const',List.sum_replicate_nat,List.length_range,Nat.mul_comm]
theorem Tabs3.kept' (x:Tabs3 h) (k:∀P∈([144,151,158]:List Addr),∀o,h.get? P=some o→h'.get? P=some o) (hc:∀c',h.CodeRec (.ref c') vqual→∀o,h.get? c'=some o→h'.get? c'=some o):Tabs3 h':=by
 obtain ⟨⟨ps,e,ht,hv⟩,t1,t2⟩:=x
 refine ⟨⟨ps,k _ (by trivial) _ e,ht,?_⟩,t1.kept λo=>k _ (by trivial) o,t2.kept λo=>k _ (by trivial) o⟩
 rcases hv with hv | ⟨c',hv,hr⟩
 ·exact .inl hv
 ·exact .inr ⟨c',hv,CodeRec.fresh hr (hc c' hr)⟩
section
set_option maxHeartbeats 4000000
theorem EvS.mixJ {k0:Nat} {p0 rp ip rcp:Pos} {src:List UInt8} {st ig:Addr} (i:Nat) (ESS:ES c.K c.mg c.mb) (hrg:c.mg "range"=none∧c.mb "range"=some (.type "range")) (H:c.Ok n) (hn:20≤n) (hr:r=1∨r=2) (hp:p=1∨p=2) (hm1:1≤m) (hm2:m≤1000) (hsrc:src.length=128*r*p)
  (hN:N=rnN cS cB cO sm (some (.int ((128*r:Nat):Int) ub)) src tb (tabObj ps4) o3 o1 o2) (ht4:TriplesOk ps4.toList) (hiv:l[i]?=some (("iv_bytes":Str),some (.int ((128*r*p:Nat):Int) ui)))
  (hE:∀h,Φ h→EngAt r m p sf dx st ig tp dg bm od h∧h.get? sm=some (methodObj (.ref 149) (.ref sf))) (hsm:278≤sm) (hcs:278≤cS∧278≤cB∧278≤cO) (hT:∀h,c.SS l N Φ h→Tabs3 h)
  (hcode:c.env.code = .ref 141) (hclos:closureFor scope c.env=pure cl) (hcell:∀y∈scope.names,y.2≠.cell) (h0:scope.names.lookup (".0":Str)=some NameKind.local) (hkind:scope.kind = .function) (hco:scope.isCoroutine=false)
  (clS:cl.lookup ("smix":Str)=some cS) (clB:cl.lookup ("smix_bytes":Str)=some cB) (clO:cl.lookup ("source":Str)=some cO)
  (kS:∀C code bi,(genEnv scope cl C code bi c.env).kindOf "smix"=some .free) (kB:∀C code bi,(genEnv scope cl C code bi c.env).kindOf "smix_bytes"=some .free) (kO:∀C code bi,(genEnv scope cl C code bi c.env).kindOf "source"=some .free) (kx:∀C code bi,(genEnv scope cl C code bi c.env).kindOf "offset"=some .local)
  (ki:Loc c.env "iv_bytes") (kb:Cel c.env "smix_bytes") (lb:c.env.cells.lookup ("smix_bytes":Str)=some cB) (kr:Glo c.env "range")
  (hfold:∀x,genFold (.Call (.Name "range" rp) [.Constant (.int 0) k0 p0,.Name "iv_bytes" ip,.Name "smix_bytes" sp] [] rcp) c.env x=pure x)
  (r1:Unst (.Constant (.int 0) k0 p0) [.Name "iv_bytes" ip,.Name "smix_bytes" sp] c.env)
  (r2:Unst (.Name "iv_bytes" ip) [.Name "smix_bytes" sp] c.env)
  (r3:Unst (.Name "smix_bytes" sp) [] c.env)
  (hrplain:Plain rcp [.Name "iv_bytes" ip,.Name "smix_bytes" sp] c.env)
  (hevR:CallIs "range" rp [.Constant (.int 0) k0 p0,.Name "iv_bytes" ip,.Name "smix_bytes" sp] rcp c.env)
  (s1:Unst (.GeneratorExp (mElt p1 p2 p3 p4 p5 p6 p7 p8 p9) [⟨.Name "offset" px,.Call (.Name "range" rp) [.Constant (.int 0) k0 p0,.Name "iv_bytes" ip,.Name "smix_bytes" sp] [] rcp,[],0⟩] scope gpos) [] c.env)
  (hev:eval (.Call (.Attribute (.Constant (.bytes []) kk kp) "join" ap) [.GeneratorExp (mElt p1 p2 p3 p4 p5 p6 p7 p8 p9) [⟨.Name "offset" px,.Call (.Name "range" rp) [.Constant (.int 0) k0 p0,.Name "iv_bytes" ip,.Name "smix_bytes" sp] [] rcp,[],0⟩] scope gpos] [] pos) c.env=(do
   let ov←eval (.Constant (.bytes []) kk kp) c.env
   standAt ap.atName
   let (f,first)←holding [ov] (getMethod ov "join" pl)
   callWith pos f first (backTo pos (starEach [.GeneratorExp (mElt p1 p2 p3 p4 p5 p6 p7 p8 p9) [⟨.Name "offset" px,.Call (.Name "range" rp) [.Constant (.int 0) k0 p0,.Name "iv_bytes" ip,.Name "smix_bytes" sp] [] rcp,[],0⟩] scope gpos] c.env)) [])) :
  EvS c l N Φ (.Call (.Attribute (.Constant (.bytes []) kk kp) "join" ap) [.GeneratorExp (mElt p1 p2 p3 p4 p5 p6 p7 p8 p9) [⟨.Name "offset" px,.Call (.Name "range" rp) [.Constant (.int 0) k0 p0,.Name "iv_bytes" ip,.Name "smix_bytes" sp] [] rcp,[],0⟩] scope gpos] [] pos)
   (λN'=>Ex4 λo4' o3' o1' o2'=>An5 (N'=rnN cS cB cO sm (some (.int ((128*r:Nat):Int) ub)) src tb o4' o3' o1' o2') (TabOk o4') (TabOk o3') (TabOk o1') (TabOk o2')) (BR (wmix r m p src)):=by
 subst hN
 intro Φ' k h t Q E F hQ
 have D':=ESS.ei.em.ek.dom
 have W:=H.W1 F
 refine PyProof.Rows.MethodCall_ (Constant_bytes (k:=kk) (pos:=kp) (getMethod_builtin (typeIs_bytes _ _ _) FB.plainAttrs_bytes Jn.slot Jn.type_eq (λ_ e=>nomatch e) (PyProof.Rows.callWith_method1 ?_ s1))) hev
 rw [s1]
 refine spliced_cons (wpAny_GeneratorExp_make hco hclos hcell h0 hkind H.A.room ?_ hfold)
 refine PyProof.Rows.Call_ (bl H F hrg.1 hrg.2 (PyProof.Rows.callWith_type1 ?_ r1 hrplain) kr (by decide)) hevR
 rw [r1]
 refine spliced_cons (wpAny_Constant_int (k:=k0) (pos:=p0) ?_)
 rw [r2]
 refine spliced_cons (ld H F hiv ?_ ki (by decide))
 rw [r3]
 refine spliced_cons (wpAny_Name (wpAny_loadName_cell H.kind kb lb ⟨_,F.new (i:=1) rfl,rfl⟩ ?_) (by decide))
 refine spliced_nil (call_range_3 (or2 hr (by decide) (by decide)) ?_ (Or.inl (PyProof.noPylong_small (or2 hr (or2 hp (by decide) (by decide)) (or2 hp (by decide) (by decide))))))
 refine wpAny_pyIter_range (IsRange.new _ _ _ _ _ _ _) (rsmall hr hp) ?_
 rw [rsize hr hp]
 generalize hro:({ cls:=.type "range",data:=.fields #[.int 0 _,.int ((128*r*p:Nat):Int) ui,.int ((128*r:Nat):Int) ub] }:Obj)=ro
 have hz0:278≤h.objs.size:=W.size
 have e1:(h.push ro).objs.size=h.objs.size+1:=Heap.size_push ..
 generalize hri:({ cls:=.type "range_iterator",data:=.fields #[rawInt 0,rawInt (p:Int),rawInt ((128*r:Nat):Int)] }:Obj)=ri
 have e2:((h.push ro).push ri).objs.size=h.objs.size+2:=by rw [Heap.size_push,e1]
 have hfr:ri.isFreed=false:=by rw [←hri];rfl
 have hIt:IsRangeIter ((h.push ro).push ri) (h.push ro).objs.size 0 p ((128*r:Nat):Int):=by
  show ((h.push ro).push ri).get? (h.push ro).objs.size=_
  rw [Heap.get?_push_size _ hfr,←hri]
 have k1:∀b o,h.get? b=some o→((h.push ro).push ri).get? b=some o:=λb o e=>Heap.get?_push_of_some _ (Heap.get?_push_of_some _ e)
 have W1:W0 c.K c.mg c.mb ((h.push ro).push ri):=W.keeps (S:=[]) D' (by trivial) (λb o _ e=>k1 b o e) (by lia)
 have hP:=F.new (i:=3) rfl
 have hct:=ESS.ei.em.ct4
 refine ⟨W1.lim,?_⟩
 have hic:=hct.isCode W1.k (k1 _ _ hP) ht4
 refine wpAny_with_size (Nat.le_refl _) (genCodeT hcode hic (k1 _ _ hP) λcode h2 tk2 ps' hext htn hP2 hz2=>?_)
 have hz2:((h.push ro).push ri).objs.size≤h2.objs.size:=hz2
 have W2:W0 c.K c.mg c.mb h2:=W1.keeps (S:=[137]) D' (λb hb=>.inr (by rw [List.mem_singleton.mp hb];decide)) (λb o hb e=>hext b o (λr=>hb (List.mem_singleton.mpr r)) e) hz2
 obtain ⟨bm',ob,hb1,hb2,hb3,hb4,hb5,hb6⟩:=ESS.ei.em.bi
 refine wpAny_builtinsFor (by rw [H.globals];exact W2.g) hb1 hb2 (W2.k _ _ hb3) hb4 hb5 hb6 ?_
 intro h3 hn3 hs3
 have hz3:h3.objs.size=h2.objs.size+1:=by rw [hs3.1,Heap.size_push]
 have k3:∀b o,h2.get? b=some o→h3.get? b=some o:=λb o e=>(hs3.2 b (Nat.ne_of_lt (Heap.lt_size e))).trans (Heap.get?_push_of_some _ e)
 generalize hgo:({ cls:=.type "generator",data:=.fields #[.int c.g.size 0,.str "<genexpr>" (tk2+1),.str (c.env.qual++"<genexpr>") (tk2+1+1)] }:Obj)=gobj
 have hz4:(h3.push gobj).objs.size=h2.objs.size+2:=by rw [Heap.size_push,hz3]
 have k34:∀b o,h2.get? b=some o→(h3.push gobj).get? b=some o:=λb o e=>Heap.get?_push_of_some _ (k3 b o e)
 have k14:∀b o,b≠137→((h.push ro).push ri).get? b=some o→(h3.push gobj).get? b=some o:=λb o hb e=>k34 b o (hext b o hb e)
 have k04:∀b o,b≠137→h.get? b=some o→(h3.push gobj).get? b=some o:=λb o hb e=>k14 b o hb (k1 b o e)
 have W4:W0 c.K c.mg c.mb (h3.push gobj):=W2.keeps (S:=[]) D' (by trivial) (λb o _ e=>k34 b o e) (by lia)
 have hgen:(h3.push gobj).IsGen h3.objs.size c.g.size:=⟨_,_,_,by rw [←hgo];exact Heap.get?_push_size _ rfl,rfl,rfl,rfl⟩
 refine spliced_nil ?_
 show wpAny _ _ (call (.builtin "bytes.join") [.bytes #[] t,.ref h3.objs.size]) _ _ _
 have hDs:278≤(h3.push gobj).objs.size:=by lia
 have hA3:AOk 16 c.A.in1.in1.in1:=(((H.A.le hn).in1.in1.in1).le (by decide))
 have I278:278≤(h.push ro).objs.size:=by lia
 have C278:278≤h2.objs.size:=by lia
 have hCI:h2.objs.size≠(h.push ro).objs.size:=neA (by lia)
 have hCD:h2.objs.size≠(h3.push gobj).objs.size:=neA (by lia)
 have hID:(h.push ro).objs.size≠(h3.push gobj).objs.size:=neA (by lia)
 have ha:h3.objs.size∉[h2.objs.size,(h.push ro).objs.size,144,151,158]:=by
  exact n5 (neA (by lia)) (neA (by lia)) (neA (by lia)) (neA (by lia)) (neA (by lia))
 have haD:h3.objs.size≠(h3.push gobj).objs.size:=neA (by lia)
 obtain ⟨hEng,hsmO⟩:=hE h (k h F.phi)
 have hFh:MFacts r m p src sf dx st ig tp dg bm od sm cS cB cO ub tb h:=⟨hEng,hsmO,F.new (i:=0) rfl,F.new (i:=1) rfl,F.new (i:=2) rfl⟩
 have nd:=F.ndn
 have foot278:∀b∈mfoot sf dx st ig tp dg bm sm cS cB cO,278≤b:=fapp (l:=[sf,dx,st,ig,tp,dg,bm]) hEng.hi (f4 hsm hcs.1 hcs.2.1 hcs.2.2)
 have footlt:∀b∈mfoot sf dx st ig tp dg bm sm cS cB cO,@LT.lt Nat _ b h.objs.size:=fapp (l:=[sf,dx,st,ig,tp,dg,bm]) (f7 (Heap.lt_size hEng.e0) (Heap.lt_size hEng.e1) (hEng.stO.elim λ_ e=>Heap.lt_size e) (Heap.lt_size hEng.igO) (hEng.tpO.elim λ_ e=>Heap.lt_size e) (Heap.lt_size hEng.dgO) (hEng.bmO.elim λ_ e=>Heap.lt_size e)) (f4 (Heap.lt_size hFh.f_sm) (Heap.lt_size hFh.f_cS) (Heap.lt_size hFh.f_cB) (Heap.lt_size hFh.f_cO))
 have hsep:∀b∈mfoot sf dx st ig tp dg bm sm cS cB cO,b∉[h2.objs.size,(h.push ro).objs.size,144,151,158,(h3.push gobj).objs.size]:=λb hb =>
  have l1:@LE.le Nat _ 278 b:=foot278 b hb
  have l2:=footlt b hb
  n6 (neA (by lia)) (neA (by lia)) (neA (by lia)) (neA (by lia)) (neA (by lia)) (neA (by lia))
 have n137:∀b∈mfoot sf dx st ig tp dg bm sm cS cB cO,b≠137:=λb hb q=>absurd (foot278 b hb) (by rw [q];decide)
 have hTh:=hT h (F.weaken k)
 have hns:(h3.push gobj).Ns h2.objs.size (lk [((".0":Str),some (.ref (h.push ro).objs.size)),("offset",none)]):=by
  have e:lk [((".0":Str),some (.ref (h.push ro).objs.size)),("offset",none)]=λy:Str=>if y=(".0":Str) then some (Value.ref (h.push ro).objs.size) else none:=by
   funext y
   simp only [lk]
   split
   ·rfl
   ·split<;>rfl
  rw [e]
  exact Heap.Ns.push hn3 _
 have hwl:=wmix_len (m:=m) (p:=p) hr src
 have hp10:p≤10:=by lia
 refine wpAny_with_size (n:=h.objs.size) (by show h.objs.size≤(h3.push gobj).objs.size;lia) (wpAny_call_entry Jn.slot (typeIs_bytes _ _ _) Jn.entry ?_ (Jn.args _ _))
 obtain ⟨g4,hg4⟩:∃g4,g4=c.g.push (.fresh (mGen (mElt p1 p2 p3 p4 p5 p6 p7 p8 p9) (.Call (.Name "range" rp) [.Constant (.int 0) k0 p0,.Name "iv_bytes" ip,.Name "smix_bytes" sp] [] rcp) px gpos scope (h.push ro).objs.size (genEnv scope cl h2.objs.size code builtinsNs c.env))):=⟨_,rfl⟩
 show wpAny _ c.A.in1 _ _ _ ⟨h3.push gobj,c.g.push (.fresh (mGen (mElt p1 p2 p3 p4 p5 p6 p7 p8 p9) (.Call (.Name "range" rp) [.Constant (.int 0) k0 p0,.Name "iv_bytes" ip,.Name "smix_bytes" sp] [] rcp) px gpos scope (h.push ro).objs.size (genEnv scope cl h2.objs.size code builtinsNs c.env))),c.d,_,c.o⟩
 rw [←hg4]
 have hgs:g4[c.g.size]?=some (.fresh (mGen (mElt p1 p2 p3 p4 p5 p6 p7 p8 p9) (.Call (.Name "range" rp) [.Constant (.int 0) k0 p0,.Name "iv_bytes" ip,.Name "smix_bytes" sp] [] rcp) px gpos scope (h.push ro).objs.size (genEnv scope cl h2.objs.size code builtinsNs c.env))):=by rw [hg4];exact Array.getElem?_push_size ..
 have hgb:GensOk c.g g4:=λhb y hy=>by
  rw [hg4] at hy
  rcases Array.mem_push.mp hy with hy | rfl
  ·exact hb y hy
  ·rfl
 refine Jn.join_runG (bs:=(List.range p).map λi=>wsmix r m (blk r src i)) (λs'=>Tabs3 s'.heap∧MSince h2.objs.size (h.push ro).objs.size (h3.push gobj).objs.size ⟨h3.push gobj,g4,c.d,0,c.o⟩ s')
  (λQ' hq=>Jn.items_gen (n:=p) (St:=MSt c.prog c.w c.A.in1.in1.in1 c.K c.mg c.mb r m p src h3.objs.size h2.objs.size (h.push ro).objs.size (h3.push gobj).objs.size c.g.size ⟨h3.push gobj,g4,c.d,0,c.o⟩) (Fin:=MFin r m src h2.objs.size (h.push ro).objs.size (h3.push gobj).objs.size ⟨h3.push gobj,g4,c.d,0,c.o⟩) hgen (mWalk (r:=r) (n:=m) (p:=p) (src:=src) (K:=c.K) (mg:=c.mg) (mb:=c.mb) hA3.1 hA3.room D' C278 I278 hDs hCD hID ha haD ⟨h3.push gobj,g4,c.d,0,c.o⟩) (by trivial) ?_ (λs' ys c' hl hf hD=>hq s' _ ys c' hD ⟨by simp [hl],λi y e=>?_⟩ ⟨hf.tabs,hf.since⟩)) (by
   show (wmix r m p src).length≤100000
   rw [hwl];exact or2 hr (or2 hp (by decide) (by decide)) (or2 hp (by decide) (by decide))) (by rw [List.length_map,List.length_range];lia)
  (λs' t' k' hR=>⟨_,rfl,λhzz=>?_⟩)
 ·refine ⟨hgen.push _,W4.keeps (S:=[]) D' (by trivial) (λb o _ e=>Heap.get?_push_of_some _ e) (Nat.le_of_lt (lt_push _ _)),⟨[],0,Heap.get?_push_size _ rfl⟩,⟨_,hgs,λs'' kk z d=>⟨rfl,?_⟩⟩,by intro j y e;simp at e,⟨λb o _ e=>Heap.get?_push_of_some _ e,GensOk.refl _,rfl,rfl⟩⟩
  have kk4:∀b o,b≠(h3.push gobj).objs.size→(h3.push gobj).get? b=some o→s''.heap.get? b=some o:=λb o hb e=>kk b o hb (Heap.get?_push_of_some _ e)
  have hz'':(h3.push gobj).objs.size≤s''.heap.objs.size:=Nat.le_trans (Nat.le_of_lt (lt_push _ _)) z
  have W'':W0 c.K c.mg c.mb s''.heap:=W4.keeps (S:=[]) D' (by trivial) (λb o _ e=>kk4 b o (Nat.ne_of_lt (Heap.lt_size e)) e) hz''
  have kh:∀b o,b≠137→h.get? b=some o→s''.heap.get? b=some o:=λb o hb e=>kk4 b o (Nat.ne_of_lt (Heap.lt_size (k04 b o hb e))) (k04 b o hb e)
  refine mStart (cenv:=genEnv scope cl h2.objs.size code builtinsNs c.env) (C:=h2.objs.size) (I:=(h.push ro).objs.size) (D:=(h3.push gobj).objs.size) (prog:=c.prog) (w:=c.w) (K:=c.K) (mg:=c.mg) (mb:=c.mb) (r:=r) (n:=m) (p:=p) (src:=src) (sf:=sf) (dx:=dx) (st:=st) (ig:=ig) (tp:=tp) (dg:=dg) (bm:=bm) (sm:=sm) (cS:=cS) (cB:=cB) (cO:=cO) (od:=od) (ub:=ub) (tb:=tb) ESS hr hm1 hm2 hp10 hsrc (hA3.in1) hsep C278 I278 hDs hCI hCD hID
   (by show scope.kind = .function;exact hkind) rfl H.globals rfl hco (kS _ _ _) (kB _ _ _) (kO _ _ _) (kx _ _ _) clS clB clO s'' (some (.ref (h.push ro).objs.size)) W'' (hns.at' λo e=>kk4 _ o hCD e) ?_ (hFh.kept λb hb o e=>kh b o (n137 b hb) e) (Tabs3.kept' hTh (λP hP o e=>kh P o ?_ e) λc' hc o e=>kh c' o ?_ e) d
  ·exact kk4 _ _ hID (k14 _ _ (neA (by lia)) hIt)
  ·exact f3 (P:=(·≠137)) (by decide) (by decide) (by decide) _ hP
  ·exact CodeRec.not_tab hc hP ⟨_,rfl,ht4⟩
 ·obtain ⟨t,rfl⟩:=hf.ys i y e
  refine ⟨_,t,?_,rfl⟩
  have hi:i<p:=by rw [←hl];exact (List.getElem?_eq_some_iff.mp e).1
  rw [List.getElem?_map,List.getElem?_range hi];rfl
 ·obtain ⟨h9,g9,d9,t9,o9⟩:=s'
  obtain ⟨⟨⟨ps3',e3',ht3',_⟩,⟨o1',e1',kk1⟩,⟨o2',e2',kk2⟩⟩,hS⟩:=hR
  obtain rfl:d9=c.d:=hS.drawn
  obtain rfl:o9=c.o:=hS.os
  have hz9:h.objs.size≤h9.objs.size:=hzz
  have kq:∀b o,b∉([144,151,158]:List Addr)→(h3.push gobj).get? b=some o→b∉[h2.objs.size,(h.push ro).objs.size,(h3.push gobj).objs.size]→h9.get? b=some o:=λb o hb e hn=>hS.heap b o (n6 (nrs hn).1 (nrs hn).2.1 (nrs hb).1 (nrs hb).2.1 (nrs hb).2.2.1 (nrs hn).2.2.1) e
  have hlow:∀b:Nat,b<h.objs.size→¬ @Membership.mem Addr (List Addr) _ [h2.objs.size,(h.push ro).objs.size,(h3.push gobj).objs.size] b:=λb hl=>n3 (neA (by lia)) (neA (by lia)) (neA (by lia))
  have k09:∀b o,b∉([137,144,151,158]:List Addr)→h.get? b=some o→h9.get? b=some o:=λb o hb e =>
   kq b o (n3 (nrs hb).2.1 (nrs hb).2.2.1 (nrs hb).2.2.2.1) (k04 b o (nrs hb).1 e) (hlow b (Heap.lt_size e))
  have e4':h9.get? 137=some (tabObj ps'):=kq 137 _ (by decide) (k34 137 _ hP2) (hlow 137 (by lia))
  have F9:c.SS l (rnN cS cB cO sm (some (.int ((128*r:Nat):Int) ub)) src tb (tabObj ps') (tabObj ps3') o1' o2') Φ' h9:=SS.calls F (W:=[137,144,151,158]) rfl (λb hb=>?_) k09 hz9 (λp hp=>?_)
  ·exact hQ _ _ h9 g9 k' ⟨_,_,_,_,rfl,⟨_,rfl,htn.ok ht4⟩,⟨_,rfl,ht3'⟩,kk1,kk2⟩ (hgb.trans hS.bare) (F9.know λh'' _=>⟨t',rfl⟩)
  ·revert b hb
   refine f4 ?_ ?_ ?_ ?_<;>trivial
  ·revert p hp
   refine f7 ?_ ?_ ?_ ?_ ?_ ?_ ?_
   ·exact k09 _ _ (n4 (nneq nd 0 3) (nneq nd 0 4) (nneq nd 0 5) (nneq nd 0 6)) (F.new (i:=0) rfl)
   ·exact k09 _ _ (n4 (nneq nd 1 3) (nneq nd 1 4) (nneq nd 1 5) (nneq nd 1 6)) (F.new (i:=1) rfl)
   ·exact k09 _ _ (n4 (nneq nd 2 3) (nneq nd 2 4) (nneq nd 2 5) (nneq nd 2 6)) (F.new (i:=2) rfl)
   ·exact e4'
   ·exact e3'
   ·exact e1'
   ·exact e2'
end
end
section
section
theorem EvF.bound278 {name:Str} (EMM:EM c.K c.mg c.mb) (H:c.Ok n) (he:EvV c l N Φ (.Name x px) (.ref sf)) (hs:∀h,Φ h→SelfN h sf name)
  (hn:(name,f)∈([("run",142),("smix",149),("bmix",156),("_bmix_1",163)]:List (Str×Addr)):=by decide):EvF c l N Φ (.Attribute (.Name x px) name pos) (λv h=>∃b,v = .ref b∧278≤b∧h.get? b=some (methodObj (.ref f) (.ref sf))):=by
 intro Φ' k h t Q E F hQ
 refine PyProof.Rows.Attribute_name (wpAny_with_size (Nat.le_refl _) (he _ k h t _ _ F λh1 t1 F1 hz=>?_))
 obtain ⟨dx,od,h2,h3,h4⟩:=hs h1 (k _ F1.phi)
 obtain ⟨m1,m2⟩:=EMM.meth (name,f) hn
 refine get_bind (s:=c.st h1 t1) (od:=some od) (C:=166) (ox:=instObj 166 dx) (H.W1 F1).k ⟨h2,rfl,rfl,h3⟩ EMM.ga (m1 od h4) EMM.gattr ?_
 refine wpAny_call (fn_get (H.W1 F1).k m2 ?_)
 refine handed_on rfl ?_
 refine hQ _ _ _ (F1.push' _) (Nat.le_trans hz (Grow.push _ _).1) λh' q=>⟨_,rfl,(H.W1 F1).size,q _ _ hz (Heap.get?_push_size _ rfl)⟩
end
theorem tabs3_of {src:List UInt8} {o4:Obj} (F:c.SS l (rnN cS cB cO sm vb src tb o4 (tabObj ps) o1 o2) Φ h) (ht3:TriplesOk ps.toList) (hv:VTp ps h) (k1:TabOk o1) (k2:TabOk o2):Tabs3 h :=
 ⟨⟨ps,F.new (i:=4) rfl,ht3,hv⟩,⟨o1,F.new (i:=5) rfl,k1⟩,⟨o2,F.new (i:=6) rfl,k2⟩⟩
section
noncomputable def TabsEnd (h:Heap):Prop:=∀P∈([137,144,151,158]:List Addr),∃op,h.get? P=some op∧TabOk op
theorem TabsEnd.of {o4:Obj} (e4:h.get? 137=some o4) (e3:h.get? 144=some o3) (e1:h.get? 151=some o1) (e2:h.get? 158=some o2) (k4:TabOk o4) (k3:TabOk o3) (k1:TabOk o1) (k2:TabOk o2):TabsEnd h:=λP hP=>by
 revert P hP
 refine f4 ?_ ?_ ?_ ?_
 ·exact ⟨_,e4,k4⟩
 ·exact ⟨_,e3,k3⟩
 ·exact ⟨_,e1,k1⟩
 ·exact ⟨_,e2,k2⟩
noncomputable def wrun (secret salt:List UInt8) (n r p keylen:Nat):List UInt8:=lkdf secret (wmix r n p (lkdf secret salt (128*r*p))) keylen
set_option maxHeartbeats 4000000
theorem run_call (ESS:ES K mg mb) (LKK:LK K mg mb) {st ig:Addr} (hr:r=1∨r=2) (hp:p=1∨p=2) (hm1:1≤m) (hm2:m≤1000)
  (hE:EngAt r m p sf dx st ig tp dg bm od h) (hl1:secret.length≤1000) (hl2:salt.length≤1000) (hl3:keylen≤1000) (hT:Tabs3 h) (hT4:∃ps4,h.get? 137=some (tabObj ps4)∧TriplesOk ps4.toList) :
  FnX prog w K mg mb 22 142 ⟨[.ref sf,.bytes secret.toArray u1,.bytes salt.toArray u2,.int (keylen:Int) u3,.ref 199],[]⟩ [137,144,151,158] h g (λv h'=>(∃t',v = .bytes (wrun secret salt m r p keylen).toArray t')∧TabsEnd h'):=by
 intro A d t o R hA W hR
 have EMM:=ESS.ei.em
 obtain ⟨ps4,e4,ht4⟩:=hT4
 obtain ⟨⟨ps,e3,ht3,hc3⟩,⟨o1,e1,k1⟩,⟨o2,e2,k2⟩⟩:=hT
 obtain ⟨ub,hub⟩:=hE.sb
 obtain ⟨ui,hui⟩:=hE.ib
 obtain ⟨up,hup⟩:=hE.a_p
 have k3:TabOk (tabObj ps):=⟨ps,rfl,ht3⟩
 have k4:TabOk (tabObj ps4):=⟨ps4,rfl,ht4⟩
 have hrp:128*r*p≤512:=or2 hr (or2 hp (by decide) (by decide)) (or2 hp (by decide) (by decide))
 refine enterM0 (n:=21) (binds:=[("self",.ref sf),("secret",.bytes secret.toArray u1),("salt",.bytes salt.toArray u2),("keylen",.int (keylen:Int) u3),("pbkdf2_hmac",.ref 199)]) ["self","secret","salt","keylen","pbkdf2_hmac","iv_bytes","output"] ["smix","smix_bytes","source"] [137,144,151,158] [(137,tabObj ps4),(144,tabObj ps),(151,o1),(158,o2)] EMM.run hA W EMM.ek.dom
  (λpm doc=>by kernel_rfl) (by kernel_rfl) (by kernel_rfl) ?_ ?_ ?_ (by kernel_rfl) ?_
 ·intro b hb
  revert b hb
  refine f4 ?_ ?_ ?_ ?_<;>exact .inr (by decide)
 ·intro p hp
  revert p hp
  refine f4 ?_ ?_ ?_ ?_
  ·exact ⟨e4,by trivial⟩
  ·exact ⟨e3,by trivial⟩
  ·exact ⟨e1,by trivial⟩
  ·exact ⟨e2,by trivial⟩
 ·simp
 intro h₁ t₁
 intro c l N Q QB H H0 F
 refine bindsL 0 H0 F ?_
 intro h2 t2 l F
 refine bindsL 1 H0 F ?_
 intro h2 t2 l F
 refine bindsL 2 H0 F ?_
 intro h2 t2 l F
 refine bindsL 3 H0 F ?_
 intro h2 t2 l F
 refine bindsL 4 H0 F ?_
 intro h2 t2 l F
 refine bindsNil ⟨h2,t2,_,_,rfl,F,?_⟩
 have hi278:∀b∈[sf,dx,st,ig,tp,dg,bm],b∉([137,144,151,158]:List Addr)∧b∉([]:List Addr):=λb hb=>by
  have:=hE.hi b hb
  refine ⟨λq=>?_,by simp⟩
  have q:=ors q
  rcases q with rfl | rfl | rfl | rfl<;>exact absurd this (by decide)
 have F:=F.knowF (P:=EngAt r m p sf dx st ig tp dg bm od) [sf,dx,st,ig,tp,dg,bm] (λh' k=>hE.kept k) hi278 (Nat.le_refl _)
 have F:=F.knowVT (ps:=ps) hc3 (λc' hrec (q:c'∈([137,144,151,158]:List Addr))=>by
  have q:=ors q
  rcases q with q | q | q | q
  ·exact CodeRec.not_tab hrec e4 k4 q
  ·exact CodeRec.not_tab hrec e3 k3 q
  ·exact CodeRec.not_tab hrec e1 k1 q
  ·exact CodeRec.not_tab hrec e2 k2 q) (Nat.le_refl _)
 have F:=F.weaken (Φ':=λh=>EngAt r m p sf dx st ig tp dg bm od h∧VTp ps h) λh y=>⟨y.1.2,y.2⟩
 refine asV 5 H F (EvV.attr EMM H (.nm 0 H rfl) (λh y=>y.1.self hui) rfl) ?_
 intro h3 t3 l F3
 obtain ⟨src,hsrc⟩:∃src,lkdf secret salt (128*r*p)=src:=⟨_,rfl⟩
 have hsl:src.length=128*r*p:=by rw [←hsrc];exact lkdf_length _ _ _
 refine asCU (f:=λu=>.bytes src.toArray u) (R:=λ_ _=>True) 2 H F3 (EvR.mono (P:=BR src) (hsrc▸EvF.toR (EvF.kdf 4 LKK H (by decide) rfl (EvF.mono (EvV.toF (.nm 1 H rfl)) λv _ e=>⟨u1,e⟩) (EvF.mono (EvV.toF (.nm 2 H rfl)) λv _ e=>⟨u2,e⟩) (.nm 5 H) hl1 hl2 (by trivial))) λ_ _ ⟨u,e⟩=>⟨u,e,trivial⟩) (λ_ _ _ _ q=>q) ?_
 intro tb h4 t4 N F4
 have F4:=F4.weaken (Φ':=λh=>EngAt r m p sf dx st ig tp dg bm od h∧VTp ps h) λh y=>y.1
 refine asCU (f:=.ref) (R:=λb h=>278≤b∧h.get? b=some (methodObj (.ref 149) (.ref sf))) 0 H F4 (EvF.toR (EvF.bound278 EMM H (.nm 0 H rfl) (λh y=>y.1.none (hE.mt "smix" (by trivial))))) (λ_ _ e _ q=>Value.ref.inj e▸q) ?_
 intro sm h5 t5 N F5
 have hsm:=F5.phi.2.1
 have F5:=F5.weaken (Φ':=λh=>(EngAt r m p sf dx st ig tp dg bm od h∧h.get? sm=some (methodObj (.ref 149) (.ref sf)))∧VTp ps h) λh y=>⟨⟨y.1.1,y.2.2⟩,y.1.2⟩
 have hwl:=wmix_len (m:=m) (p:=p) hr src
 refine ifS F5 (b:=decide (p=1)) ?_ (λh6 t6 F6=>?_)
 ·refine EvT.cast (EvT.eq (EvV.toI (EvV.attr EMM H (.nm 0 H rfl) (λh y=>y.1.1.self hup) rfl)) (.const (i:=1))) ?_
  exact or2 hp (by decide) (by decide)
 rcases hp with ep | ep
 ·rw [if_pos (decide_eq_true ep)]
  have ew:wsmix r m src=wmix r m p src:=by
   rw [ep] at hsl ⊢
   have:blk r src 0=src:=by
    unfold blk cut
    rw [Nat.mul_zero,Nat.zero_add,List.drop_zero,Nat.sub_zero,List.take_of_length_le (by lia)]
   show _=[wsmix r m (blk r src 0)].flatten
   rw [this];simp
  refine asSU (f:=λu=>.bytes (wsmix r m src).toArray u) 6 H F6 (EvS.mix1 (r:=r) (m:=m) (p:=p) (src:=src) (tb:=tb) (cS:=h.objs.size+1) (cB:=h.objs.size+1+1) (cO:=h.objs.size+1+1+1) (sm:=sm) (vb:=none) (o4:=tabObj ps4) (o3:=tabObj ps) (o1:=o1) (o2:=o2) ESS H (by decide) hr hm1 hm2 (by rw [hsl,ep,Nat.mul_one]) rfl (λh y=>y.1) (λh F=>?_) (by rfl) (by rfl) (by rfl) (by rfl)) ?_
  ·exact tabs3_of F ht3 (F.phi.2) k1 k2
  rintro uo N7 g7 h7 t7 ⟨o3',o1',o2',rfl,kk3,kk1,kk2⟩ hg7 l F7
  refine wpAny_execs_nil ?_
  refine retF (c:=c.gn g7) F7 (EvF.kdf 4 LKK (H.gn g7) (by decide) rfl (EvF.mono (EvV.toF (.nm 1 (H.gn g7) rfl)) λv _ e=>⟨u1,e⟩) (EvF.mono (EvV.toF (.nm 6 (H.gn g7) rfl)) λv _ e=>⟨uo,e⟩) (.nm 3 (H.gn g7)) hl1 (by rw [ew,hwl];lia) hl3) (λv h8 t8 F8 p8=>?_)
  obtain ⟨uv,rfl⟩:=p8.here
  exact hR _ h8 g7 t8 (F8.kept (Nat.le_refl _)) F8.size hg7 ⟨⟨uv,by rw [ew,←hsrc];rfl⟩,.of (F8.new (i:=3) rfl) (F8.new (i:=4) rfl) (F8.new (i:=5) rfl) (F8.new (i:=6) rfl) k4 kk3 kk1 kk2⟩
 ·rw [if_neg (λq=>absurd (ep.symm.trans (of_decide_eq_true q)) (by decide))]
  refine asCV 1 H F6 (EvV.attr EMM H (.nm 0 H rfl) (λh y=>y.1.1.self hub) rfl) ?_
  intro h7 t7 N F7
  refine asSU (f:=λu=>.bytes (wmix r m p src).toArray u) 6 H F7 (EvS.mixJ (r:=r) (m:=m) (p:=p) (src:=src) (tb:=tb) (ps4:=ps4) (ub:=ub) (cS:=h.objs.size+1) (cB:=h.objs.size+1+1) (cO:=h.objs.size+1+1+1) (sm:=sm) (o3:=tabObj ps) (o1:=o1) (o2:=o2) (cl:=[("source",h.objs.size+1+1+1),("smix_bytes",h.objs.size+1+1),("smix",h.objs.size+1)]) 5 ESS ⟨LKK.b_range.1,LKK.b_range.2⟩ H (by decide) hr (.inr ep) hm1 hm2 hsl rfl ht4 rfl (λh y=>y.1) hsm ?_ (λh F=>tabs3_of F ht3 F.phi.2 k1 k2)
   (by rfl) (by rfl) (by decide) (by rfl) (by rfl) (by rfl) (by rfl) (by rfl) (by rfl) (λ_ _ _=>by rfl) (λ_ _ _=>by rfl) (λ_ _ _=>by rfl) (λ_ _ _=>by rfl) (by rfl) (by rfl) (by rfl) (by rfl) (λ_=>by rfl) (by rfl) (by rfl) (by rfl) (by rfl) (by rfl) (by rfl) (by rfl)) (λuo N7 g7 h7 t7 hN hg7 F7=>?_)
  ·have hz:=W.size
   exact ⟨by show @LE.le Nat _ 278 (h.objs.size+1);lia,by show @LE.le Nat _ 278 (h.objs.size+1+1);lia,by show @LE.le Nat _ 278 (h.objs.size+1+1+1);lia⟩
  obtain ⟨o4',o3',o1',o2',rfl,kk4,kk3,kk1,kk2⟩:=hN
  refine wpAny_execs_nil ?_
  refine retF (c:=c.gn g7) F7 (EvF.kdf 4 LKK (H.gn g7) (by decide) rfl (EvF.mono (EvV.toF (.nm 1 (H.gn g7) rfl)) λv _ e=>⟨u1,e⟩) (EvF.mono (EvV.toF (.nm 6 (H.gn g7) rfl)) λv _ e=>⟨uo,e⟩) (.nm 3 (H.gn g7)) hl1 (by rw [hwl];lia) hl3) (λv h8 t8 F8 p8=>?_)
  obtain ⟨uv,rfl⟩:=p8.here
  exact hR _ h8 g7 t8 (F8.kept (Nat.le_refl _)) F8.size hg7 ⟨⟨uv,by rw [←hsrc];rfl⟩,.of (F8.new (i:=3) rfl) (F8.new (i:=4) rfl) (F8.new (i:=5) rfl) (F8.new (i:=6) rfl) kk4 kk3 kk1 kk2⟩
end
end
section
noncomputable def DIs:List DictEntry→List (Str×Value)→Prop
 | [],[]=>True
 | e::es,(k,v)::kvs=>(Ex2 λhs t=>e=⟨hs,.str k t,v⟩)∧DIs es kvs
 | _,_=>False
theorem DIs.find {name:Str} {es:List DictEntry} (h:DIs es kvs):(es.find? (·.key.isStr name)).map (·.val)=kvs.lookup name∧es.any (·.refKey)=false:=by
 induction es generalizing kvs with
 | nil=>cases kvs with
  | nil=>exact ⟨rfl,rfl⟩
  | cons=>exact h.elim
 | cons e es ih=>cases kvs with
 | nil=>exact h.elim
 | cons p kvs =>
  obtain ⟨k,v⟩:=p
  obtain ⟨⟨hs,t,rfl⟩,h⟩:=h
  obtain ⟨h1,h2⟩:=ih h
  refine ⟨?_,?_⟩
  ·rw [List.find?_cons,List.lookup_cons]
   by_cases hk:name=k
   ·subst hk
    have e1:(Value.str name t).isStr name=true:=by simp [Value.isStr]
    simp only [e1,beq_self_eq_true];rfl
   ·have e1:(Value.str k t).isStr name=false:=by simp [Value.isStr];exact λq=>hk q.symm
    have e2:(name == k)=false:=by simpa using hk
    simp only [e1,e2];exact h1
  ·rw [List.any_cons,h2,Bool.or_false];rfl
theorem DIs.get {name:Str} {es:List DictEntry} (h:DIs es kvs):getL name es=some (kvs.lookup name):=by
 obtain ⟨h1,h2⟩:=h.find (name:=name)
 unfold getL
 cases hf:es.find? (·.key.isStr name) with
 | some e=>rw [hf] at h1;dsimp only;rw [←h1];rfl
 | none=>rw [hf] at h1;dsimp only;rw [h2];simp only [Bool.false_eq_true,if_false];rw [←h1];rfl
theorem DIs.put {name:Str} {hs:Int} {t:Tok} {es:List DictEntry} (h:DIs es kvs) (hn:kvs.lookup name=none):DIs (putL name hs (.str name t) v es) (kvs++[(name,v)]):=by
 induction es generalizing kvs with
 | nil=>cases kvs with
  | nil=>exact ⟨⟨hs,t,rfl⟩,⟨⟩⟩
  | cons=>exact h.elim
 | cons e es ih=>cases kvs with
 | nil=>exact h.elim
 | cons p kvs =>
  obtain ⟨k,w⟩:=p
  obtain ⟨⟨hs',t',rfl⟩,h⟩:=h
  rw [List.lookup_cons] at hn
  have hk:(name == k)=false:=by
   cases q:name == k with
   | false=>rfl
   | true=>rw [q] at hn;cases hn
  rw [hk] at hn
  have e1:(Value.str k t').isStr name=false:=by simp [Value.isStr];exact λq=>by simp [q] at hk
  unfold putL
  simp only [e1,Bool.false_eq_true,if_false]
  exact ⟨⟨hs',t',rfl⟩,ih h hn⟩
section
variable {x:Addr}
theorem osa_raw {ox:Obj} {es:List DictEntry} {name:Str} {tk:Tok} (X:K.In s.heap) (I:InstAt s.heap x ox C (some (dictOf es n))) (hd:ox.dict=some dx) (D:s.heap.get? dx=some (dictOf es n)) (hp:plainOver K C=true) (ht:takerIn K C name=some none) (hh:(clsIn K C).any (·.hasDict)=true)
  (hK:DIs es kvs) (hz:es.length≤100)
  (h:∀h',Heap.SameBut dx s.heap h'→h'.get? dx=some (dictOf (putL name (PyData.keyHash w.params name) (.str name s.toks) v es) (putN name es n))→R (.ok (.ret .none)) { s with heap:=h',toks:=s.toks+1 }) :
  codeAny (model prog w) A (.call (.builtin "object.__setattr__") ⟨[.ref x,.str name tk,v],[]⟩) R s:=by
 refine osa_open X I hp ht λb=>?_
 obtain ⟨cd,hc,hd'⟩:=any_some hh
 obtain ⟨hx,hcl,hn,-⟩:=I
 obtain ⟨oc,odi,oda,osl⟩:=ox
 dsimp only at hcl hd
 subst hcl hd
 refine wpAny_bind (wpAny_pure (wpAny_bind (wpAny_bind (wpAny_loadPart hx (wpAny_bind ((looks_clsIn X hc).here ?_))))))
 rw [hd']
 refine wpAny_pure (a:=some dx) (wpAny_bind (wpAny_pure (wpAny_bind ?_)))
 unfold nsSet
 refine wpAny_bind (wpAny_bind (wpAny_askSetting (wpAny_pure (wpAny_bind (wpAny_mkText (wpAny_bind (wpAny_loadPart D ?_)))))))
 dsimp only
 have c:(!es.toArray.any (·.key.isStr name) && es.toArray.any (·.refKey))=false:=by
  rw [←Array.any_toList,←Array.any_toList]
  have:=(hK.find (name:=name)).2
  show (!es.any _ && es.any _)=false
  rw [this,Bool.and_false]
 rw [aRefKeyMayBeTheName_at,c]
 have e:=putName_dict name (PyData.keyHash w.params name) (.str name s.toks) v es n
 have D':=Heap.get?_update_self (Obj.putName name (PyData.keyHash w.params name) (.str name s.toks) v) D (by rw [e];rfl)
 rw [e] at D'
 refine wpAny_updatePart D ?_
 have hl:(putL name (PyData.keyHash w.params name) (.str name s.toks) v es).length≤es.length+1:=by
  clear D' e c hK D hz h hd'
  induction es with
  | nil=>simp [putL]
  | cons a r ih=>unfold putL;split<;>simp;lia
 refine wpAny_bind (wpAny_lookBehind D' (by exact pastItsLine_dict (by rw [List.size_toArray,sizeLine_eq];lia)) ?_)
 exact wpAny_pure (h _ (Heap.SameBut.update ..) D')
end
end
section
structure EN (K:Frag) (mg mb:Str→Option Value):Prop where
 es:ES K mg mb
 setattr:findIn K (.ref 166) "__setattr__"=some (some (.builtin "object.__setattr__"))
 over:plainOver K 166=true
 taker:∀name∈(["n","r","p","smix_bytes","iv_bytes","bmix_len","bmix_half_len","bmix_struct","integerify","bmix"]:List Str),takerIn K 166 name=some none
 hasD:(clsIn K 166).any (·.hasDict)=true
 makes:makesIn K 166=true
 initF:findIn K (.ref 166) "__init__"=some (some (.ref 135))
 initT:typeIn K (.ref 135)=some (.type "function")
 keep:keepIn K (.ref 166)=true
 igMakes:makesIn K 118=true
 igInit:findIn K (.ref 118) "__init__"=some (some (.ref 93))
 igInitT:typeIn K (.ref 93)=some (.type "function")
 igSet:findIn K (.ref 118) "__setattr__"=some (some (.builtin "object.__setattr__"))
 igOver:plainOver K 118=true
 igTaker:takerIn K 118 "_items"=some (some (.ref 119))
 igTy:typeIn K (.ref 119)=some (.type "member_descriptor")
 igKeep:keepIn K (.ref 118)=true
 calcsize:mg "calcsize"=some (.builtin "_struct.calcsize")
 struct:mg "Struct"=some (.type "_struct.Struct")
 str:mg "str"=none∧mb "str"=some (.type "str")
 ig:mg "itemgetter"=some (.ref 118)
 eng:mg "ScryptEngine"=some (.ref 166)
theorem DIs.len {es:List DictEntry} (h:DIs es kvs):es.length=kvs.length:=by
 induction es generalizing kvs with
 | nil=>cases kvs with
  | nil=>rfl
  | cons=>exact h.elim
 | cons e es ih=>cases kvs with
 | nil=>exact h.elim
 | cons p kvs=>exact congrArg (·+1) (ih h.2)
section
theorem setA {name:Str} {es:List DictEntry} (i:Nat) (ENN:EN c.K c.mg c.mb) (H:c.Ok n) (F:c.SS l N Φ h)
  (hi:N[i]?=some (dx,dictOf es k)) (hK:DIs es kvs) (hz:kvs.length≤100) (hnew:kvs.lookup name=none) (hx:h.get? sf=some (instObj 166 dx))
  (hn:name∈(["n","r","p","smix_bytes","iv_bytes","bmix_len","bmix_half_len","bmix_struct","integerify","bmix"]:List Str))
  (hQ:∀es' k' h' t',DIs es' (kvs++[(name,v)])→c.SS l (N.set i (dx,dictOf es' k')) Φ h'→QQ () (c.st h' t')):c.wp (setAttr (.ref sf) name v) QQ E (c.st h t):=by
 have W:=H.W1 F
 have D:=F.new hi
 refine set_plain (od:=some (dictOf es k)) (C:=166) (ox:=instObj 166 dx) W.k ⟨hx,rfl,rfl,D⟩ ENN.setattr ?_
 refine osa_raw (kvs:=kvs) (s:=⟨h,c.g,c.d,t+1,c.o⟩) W.k ⟨hx,rfl,rfl,D⟩ rfl D ENN.over (ENN.taker name hn) ENN.hasD hK (by rw [hK.len];exact hz) (λh' hs e=>?_)
 exact hQ _ _ h' _ (hK.put hnew) (F.upd hi hs e)
theorem asAttr {name:Str} {P:VH} {es:List DictEntry} (i j:Nat) (ENN:EN c.K c.mg c.mb) (H:c.Ok n) (F:c.SS l N Φ h) (hj:l[j]?=some (x,some (.ref sf)))
  (hi:N[i]?=some (dx,dictOf es k)) (hK:DIs es kvs) (hz:kvs.length≤100) (hnew:kvs.lookup name=none) (hx:∀h,Φ h→h.get? sf=some (instObj 166 dx)) (he:EvR c l N Φ e P)
  (hQ:∀v es' k' h' t',DIs es' (kvs++[(name,v)])→let N':=N.set i (dx,dictOf es' k');c.SS l N' (λh=>Φ h∧P v h) h'→c.wp (execs rest c.env) Q E (c.st h' t'))
  (hn:name∈(["n","r","p","smix_bytes","iv_bytes","bmix_len","bmix_half_len","bmix_struct","integerify","bmix"]:List Str):=by decide)
  (kx:Loc c.env x:=by rfl) (dxx:ND x:=by decide)
  (hs:swapsWith e (some (.Attribute (.Name x sp) name ap)) pos.line c.env=pure false:=by rfl) :
  c.wp (execs (.Assign [.Attribute (.Name x sp) name ap] e pos::rest) c.env) Q E (c.st h t):=by
 refine wpAny_execs_cons (plainObj_wpAny_Assign_Attribute (he _ (λ_ y=>y) h t _ _ F λv h1 t1 F1=>ld H F1 hj ?_ kx dxx) hs)
 exact setA i ENN H F1 hi hK hz hnew (hx h1 F1.phi.1) hn λes' k' h' t' hd F'=>hQ v es' k' h' t' hd F'
theorem asAttrI {name:Str} {v:Int} {es:List DictEntry} (i j:Nat) (ENN:EN c.K c.mg c.mb) (H:c.Ok n) (F:c.SS l N Φ h) (hj:l[j]?=some (x,some (.ref sf)))
  (hi:N[i]?=some (dx,dictOf es k)) (hK:DIs es kvs) (hz:kvs.length≤100) (hnew:kvs.lookup name=none) (hx:∀h,Φ h→h.get? sf=some (instObj 166 dx)) (he:EvI c l N Φ e v)
  (hQ:∀u es' k' h' t',DIs es' (kvs++[(name,.int v u)])→let N':=N.set i (dx,dictOf es' k');c.SS l N' Φ h'→c.wp (execs rest c.env) Q E (c.st h' t'))
  (hn:name∈(["n","r","p","smix_bytes","iv_bytes","bmix_len","bmix_half_len","bmix_struct","integerify","bmix"]:List Str):=by decide)
  (kx:Loc c.env x:=by rfl) (dxx:ND x:=by decide)
  (hs:swapsWith e (some (.Attribute (.Name x sp) name ap)) pos.line c.env=pure false:=by rfl) :
  c.wp (execs (.Assign [.Attribute (.Name x sp) name ap] e pos::rest) c.env) Q E (c.st h t):=by
 refine wpAny_execs_cons (plainObj_wpAny_Assign_Attribute (he _ (λ_ y=>y) h t _ _ F λu h1 t1 F1=>ld H F1 hj ?_ kx dxx) hs)
 exact setA i ENN H F1 hi hK hz hnew (hx h1 F1.phi) hn λes' k' h' t' hd F'=>hQ u es' k' h' t' hd F'
theorem asAttrO {name:Str} {R:Addr→HP} {es:List DictEntry} (i j:Nat) (ENN:EN c.K c.mg c.mb) (H:c.Ok n) (F:c.SS l N Φ h) (hj:l[j]?=some (x,some (.ref sf)))
  (hi:N[i]?=some (dx,dictOf es k)) (hK:DIs es kvs) (hz:kvs.length≤100) (hnew:kvs.lookup name=none) (hx:∀h,Φ h→h.get? sf=some (instObj 166 dx)) (he:EvF c l N Φ e (λv h=>∃b,An3 (v = .ref b) (278≤b) (R b h)))
  (hQ:∀b es' k' h' t',278≤b→DIs es' (kvs++[(name,.ref b)])→let N':=N.set i (dx,dictOf es' k');c.SS l N' (λh=>Φ h∧R b h) h'→c.wp (execs rest c.env) Q E (c.st h' t'))
  (hn:name∈(["n","r","p","smix_bytes","iv_bytes","bmix_len","bmix_half_len","bmix_struct","integerify","bmix"]:List Str):=by decide)
  (kx:Loc c.env x:=by rfl) (dxx:ND x:=by decide)
  (hs:swapsWith e (some (.Attribute (.Name x sp) name ap)) pos.line c.env=pure false:=by rfl) :
  c.wp (execs (.Assign [.Attribute (.Name x sp) name ap] e pos::rest) c.env) Q E (c.st h t) :=
 asAttr i j ENN H F hj hi hK hz hnew hx (EvF.toR he) (λv es' k' h' t' hd F'=>by
  obtain ⟨b,rfl,hb,_⟩:=F'.phi.2
  exact hQ b es' k' h' t' hb hd (F'.weaken λ_ y=>⟨y.1,let ⟨_,e,_,q⟩:=y.2;Value.ref.inj e▸q⟩)) hn kx dxx hs
theorem asAttr2I {name:Str} {v:Int} {es:List DictEntry} (i j jy:Nat) (ENN:EN c.K c.mg c.mb) (H:c.Ok n) (F:c.SS l N Φ h) (hj:l[j]?=some (x,some (.ref sf)))
  (hi:N[i]?=some (dx,dictOf es k)) (hK:DIs es kvs) (hz:kvs.length≤100) (hnew:kvs.lookup name=none) (hx:∀h,Φ h→h.get? sf=some (instObj 166 dx)) (he:EvI c l N Φ e v) (hjy:l[jy]?=some (y,w0))
  (hQ:∀u es' k' h' t',DIs es' (kvs++[(name,.int v u)])→let l':=l.set jy (y,some (.int v u));let N':=N.set i (dx,dictOf es' k');c.SS l' N' Φ h'→c.wp (execs rest c.env) Q E (c.st h' t'))
  (hn:name∈(["n","r","p","smix_bytes","iv_bytes","bmix_len","bmix_half_len","bmix_struct","integerify","bmix"]:List Str):=by decide)
  (kx:Loc c.env x:=by rfl) (ky:Loc c.env y:=by rfl) (dxx:ND x:=by decide)
  (hae:(assignEach [.Attribute (.Name x sp) name ap,.Name y yp] c.env).map (·.2)=[assign (.Attribute (.Name x sp) name ap) c.env,assign (.Name y yp) c.env]:=by rfl)
  (hw:swappedStores [.Attribute (.Name x sp) name ap,.Name y yp] e c.env=pure none:=by rfl) :
  c.wp (execs (.Assign [.Attribute (.Name x sp) name ap,.Name y yp] e pos::rest) c.env) Q E (c.st h t):=by
 refine wpAny_execs_cons (wpAny_Assign_two (he _ (λ_ y=>y) h t _ _ F λv h1 t1 F1=>kas_attr (ld H F1 hj ?_ kx dxx)) hae hw)
 refine setA i ENN H F1 hi hK hz hnew (hx h1 F1.phi) hn λes' k' h' t' hd F'=>?_
 exact wpAny_assign_Name (stn H F' hjy (λh3 F3=>hQ _ es' k' h3 _ hd F3) ky)
end
end
section
noncomputable def FnG (prog:Program) (w:World) (K:Frag) (mg mb:Str→Option Value) (n:Nat) (f:Addr) (args:Args) (S:List Addr) (h:Heap) (Post:VH):Prop :=
 ∀A g d t o (R:Result→Shared→Prop),AOk n A→W0 K mg mb h →
  (∀v h' t',(∀b o,b∉S→h.get? b=some o→h'.get? b=some o)→h.objs.size≤h'.objs.size→Post v h'→R (.ok (.ret v)) ⟨h',g,d,t',o⟩) →
  codeAny (model prog w) A (.call (.ref f) args) R ⟨h,g,d,t,o⟩
theorem AOk.under_tc (x:AOk (n+1) A) (C:Addr) (rest:List Value) (kw:List (Str×Value)):AOk n (A.under (.builtin "type.__call__" ⟨.ref C::rest,kw⟩)):=by
 obtain ⟨h1,h2,h3,h4⟩:=x
 refine ⟨h1,?_,?_,h4⟩
 ·show A.depth+(Code.builtin "type.__call__" ⟨.ref C::rest,kw⟩).weight+n<recursionLimit
  have:(Code.builtin "type.__call__" ⟨.ref C::rest,kw⟩).weight≤1:=Nat.le_of_ble_eq_true (by kernel_rfl)
  lia
 ·show A.units+(Code.builtin "type.__call__" ⟨.ref C::rest,kw⟩).cUnits+8*n<cLine
  have:(Code.builtin "type.__call__" ⟨.ref C::rest,kw⟩).cUnits≤8:=by
   first | decide | exact Nat.le_of_ble_eq_true rfl
  lia
section
theorem igBind (pm doc ig:Value) (u:Tok):bindArgs (mDef "__init__" "itemgetter.__init__" (arOf (sub 12 1)) (bdOf (sub 12 1)) (scOf (sub 12 1)) .none pm (.ref 92) doc) ⟨[ig,.int (-16) u],[]⟩ =
  (newTuple [] >>= λt=>pure ([("self",ig),("item",.int (-16) u),("items",t)]:List (Str×Value))):=by kernel_rfl
set_option maxHeartbeats 1000000
theorem ig_init (ENN:EN K mg mb) {ig:Addr} (hig:h.get? ig=some (instObj 118 dg)) (hdg:h.get? dg=some emptyDict) (hne:dg≠ig) (h278:278≤ig) :
  FnG prog w K mg mb 3 93 ⟨[.ref ig,.int (-16) u],[]⟩ [ig] h (λv h'=>v = .none∧∃tp,An4 (278≤tp) (h.objs.size≤tp) (h'.get? ig=some (igObj tp dg)) (∃u,h'.get? tp=some (tobj [.int (-16) u]))):=by
 intro A g d t o R hA W hR
 have hz0:=W.size
 refine enterM (n:=2) (binds:=[("self",.ref ig),("item",.int (-16) u),("items",.ref h.objs.size)]) (λh2=>h2=h.push (tobj [])) NoE ["self","item","items"] [] [ig] [(ig,instObj 118 dg)] ENN.es.ei.init hA W ENN.es.ei.em.ek.dom
  (λpm doc Q hQ=>?_) (by kernel_rfl) (by kernel_rfl) ?_ ?_ (by simp) (by kernel_rfl) ?_ noLeave
 ·rw [igBind]
  refine wpAny_bind (wpAny_newTuple (wpAny_pure ?_) (by decide))
  exact hQ _ t (Grow.push _ _) rfl
 ·intro b hb;rw [List.mem_singleton.mp hb];exact .inl h278
 ·intro p hp
  rw [List.mem_singleton.mp hp];exact ⟨hig,by trivial⟩
 rintro _ rfl h₁ t₁ _
 intro c l N Q QB H H0 F
 refine bindsL 0 H0 F ?_
 intro h2 t2 l F
 refine bindsL 1 H0 F ?_
 intro h2 t2 l F
 refine bindsL 2 H0 F ?_
 intro h2 t2 l F
 refine bindsNil ⟨h2,t2,_,_,rfl,F,?_⟩
 have hit:@Ne Addr h.objs.size ig:=λe=>absurd (Heap.lt_size hig) (by rw [←e];exact Nat.lt_irrefl _)
 have F:=(F.knowOld (a:=h.objs.size) (ob:=tobj []) (Heap.get?_push_size _ rfl) (show _∉([ig]:List Addr) by simpa using hit) (λq=>nomatch q) (Nat.le_refl _)).knowOld (a:=dg) (ob:=emptyDict) (Heap.get?_push_of_some _ hdg) (show _∉([ig]:List Addr) by simpa using hne) (λq=>nomatch q) (Nat.le_refl _)
 refine wpAny_execs_cons (plainObj_wpAny_Assign_Attribute (wpAny_BinOp (PyProof.Rows.Tuple_ (spliced_cons (ld H F (i:=1) rfl (spliced_nil ?_) (by rfl) (by decide))))) (by rfl))
 refine wpAny_newTuple ?_ (by show 1≤sizeLine;decide)
 have F1:=F.push (tobj [.int (-16) u])
 refine ld H F1 (i:=2) rfl ?_ (by rfl) (by decide)
 have e1:(h2.push (tobj [.int (-16) u])).get? h2.objs.size=some (tobj [.int (-16) u]):=Heap.get?_push_size _ rfl
 refine concat_meets ⟨_,e1,rfl⟩ ⟨_,F1.phi.1.2,rfl⟩ noFill_tuple_add seq_tuple_add PySem.F.slot_tuple_add PySem.F.entry_tuple_add (PySem.F.args_tuple_add_2 _ _)
  (PyProof.Rows.tuple_addW1 _ _ [Value.int (-16) u].toArray [].toArray _ _ none none _ _ (by simp) (by trivial)) ⟨e1,F1.phi.1.2,?_⟩
 refine ld H F1 (i:=0) rfl ?_ (by rfl) (by decide)
 have X:=(H.W1 F1).k
 have hL:(h.push (tobj [])).objs.size≤(frameCxC prog w A g d o (h.push (tobj [])) [ig] K mg mb "itemgetter.__init__" (scOf (sub 12 1)) 93 (.ref 92)).L:=Nat.le_refl _
 have Fr1:PyProof.Rows.Fr (hideAll (h.push (tobj [])) [ig]) (frameCxC prog w A g d o (h.push (tobj [])) [ig] K mg mb "itemgetter.__init__" (scOf (sub 12 1)) 93 (.ref 92)).L (h2.push (tobj [.int (-16) u])) _:=⟨F1.ns,λb o e=>F1.keep b o (λq=>by rw [hideAll_none _ q] at e;cases e) (Nat.ne_of_lt (Nat.lt_of_lt_of_le (Heap.lt_size (of_hideAll _ e)) hL)) (of_hideAll _ e),by rw [hideAll_size];exact hL⟩
 have N1:PyProof.Rows.News (hideAll (h.push (tobj [])) [ig]) (frameCxC prog w A g d o (h.push (tobj [])) [ig] K mg mb "itemgetter.__init__" (scOf (sub 12 1)) 93 (.ref 92)).L (h2.push (tobj [.int (-16) u])) ([]++(ig,instObj 118 dg)::[(h2.objs.size,tobj [.int (-16) u])]):=λp hp=>by
  have h3:=F1.news p hp
  refine ⟨h3.1,h3.2.1,?_⟩
  cases hq:(hideAll (h.push (tobj [])) [ig]).get? p.1 with
  | none=>rfl
  | some o' =>
   rcases h3.2.2 with q | q
   ·exact absurd (Heap.lt_size (of_hideAll _ hq)) (Nat.not_lt.mpr q)
   ·rw [hideAll_none _ q] at hq;cases hq
 have I1:InstAt (h2.push (tobj [.int (-16) u])) ig (instObj 118 dg) 118 (some emptyDict):=⟨F1.new (i:=0) rfl,rfl,rfl,F1.phi.2⟩
 refine wpAny_with_size (Nat.le_refl _) (set_plain (od:=some emptyDict) (C:=118) (ox:=instObj 118 dg) X I1 ENN.igSet (osa_descr (s:=⟨h2.push (tobj [.int (-16) u]),g,d,t2+1,o⟩) KF.slot_mset X I1 ENN.igOver ENN.igTaker ENN.igTy
  (slot_set (s:=⟨h2.push (tobj [.int (-16) u]),g,d,t2+1,o⟩) Fr1 N1 X I1 ENN.es.ei.slot (by decide) (by simp) (λp hp e=>by
   rw [List.mem_singleton.mp hp] at e
   have e':@Eq Nat h2.objs.size ig:=e
   have l1:@LT.lt Nat _ ig h.objs.size:=Heap.lt_size hig
   have l2:(h.push (tobj [])).objs.size≤h2.objs.size:=F.size
   rw [Heap.size_push] at l2
   lia) rfl rfl (λh' F' N' hzz=>?_))))
 refine wpAny_execs_nil ?_
 have hz':(h2.push (tobj [.int (-16) u])).objs.size≤h'.objs.size:=hzz
 have hz2:(h.push (tobj [])).objs.size≤h2.objs.size:=F.size
 refine hR .none h' _ (λb o hb e=>F'.keep b o (hideAll_get _ (Heap.get?_push_of_some _ e) hb)) (by rw [Heap.size_push] at hz' hz2;lia) ⟨rfl,h2.objs.size,?_,?_,(N' (ig,_) (by trivial)).1,u,(N' (h2.objs.size,_) (by trivial)).1⟩
 ·rw [Heap.size_push] at hz2;show @LE.le Nat _ _ _;lia
 ·rw [Heap.size_push] at hz2;show @LE.le Nat _ _ _;lia
theorem ig_make (ENN:EN K mg mb) {Q:VQ} (hA:AOk 4 A) (W:W0 K mg mb h)
  (hQ:∀ig tp dg h' t',278≤ig→278≤tp→278≤dg→h.objs.size≤ig→h.objs.size≤tp→h.objs.size≤dg→h'.get? ig=some (igObj tp dg)→h'.get? dg=some emptyDict→(∃u,h'.get? tp=some (tobj [.int (-16) u]))→Grow h h'→Q (.ref ig) ⟨h',g,d,t',o⟩) :
  wpAny (model prog w) A (call (.ref 118) [.int (-16) u]) Q E ⟨h,g,d,t,o⟩:=by
 have hz0:=W.size
 have e1:(h.push emptyDict).objs.size=h.objs.size+1:=Heap.size_push ..
 have e2:((h.push emptyDict).push (instObj 118 h.objs.size)).objs.size=h.objs.size+2:=by rw [Heap.size_push,e1]
 have k:∀b o,h.get? b=some o→((h.push emptyDict).push (instObj 118 h.objs.size)).get? b=some o:=λb o e=>Heap.get?_push_of_some _ (Heap.get?_push_of_some _ e)
 have hig:((h.push emptyDict).push (instObj 118 h.objs.size)).get? (h.objs.size+1)=some (instObj 118 h.objs.size):=by
  have:=Heap.get?_push_size (h.push emptyDict) (o:=instObj 118 h.objs.size) rfl
  rw [e1] at this;exact this
 have hdg:((h.push emptyDict).push (instObj 118 h.objs.size)).get? h.objs.size=some emptyDict:=Heap.get?_push_of_some _ (Heap.get?_push_size _ rfl)
 have W2:W0 K mg mb ((h.push emptyDict).push (instObj 118 h.objs.size)):=W.keeps (S:=[]) ENN.es.ei.em.ek.dom (by trivial) (λb o _ e=>k b o e) (by lia)
 refine wpAny_call (make_core (makes_of W.k ENN.igMakes) (looks_findIn W.k ENN.igInit) (λself=>bind_fn W.k self ENN.igInitT) (.inl rfl) ?_)
 refine ig_init ENN (ig:=h.objs.size+1) (dg:=h.objs.size) (u:=u) hig hdg (neA (by trivial)) (by show @LE.le Nat _ _ _;lia) _ g d t o _ ((hA.under_tc _ _ _).le (by decide)) W2 (λv h' t' hk hz hp=>?_)
 obtain ⟨rfl,tp,ht1,ht2,q1,q2⟩:=hp
 rw [e2] at ht2 hz
 refine ⟨rfl,hQ (h.objs.size+1) tp h.objs.size h' t' (by show @LE.le Nat _ _ _;lia) ht1 hz0 (by show @LE.le Nat _ _ _;lia) (by show @LE.le Nat _ _ _;lia) (Nat.le_refl _) q1 (hk _ _ (λq=>neA (by trivial) (List.mem_singleton.mp q)) hdg) q2 ⟨by lia,λb o e=>hk b o (λq=>?_) (k b o e)⟩⟩
 have hl:@LT.lt Nat _ b h.objs.size:=Heap.lt_size e
 have q':@Eq Nat b (h.objs.size+1):=List.mem_singleton.mp q
 lia
end
end
section
namespace Sm
open Builtin Builtin.Bytes Builtin.Struct
theorem mro:mroOf (.type "_struct.Struct")=pure [.type "_struct.Struct",.type "object"]:=by rw [mroOf_type];kernel_rfl
theorem lookNew:typeLookup (.type "_struct.Struct") "__new__"=pure (some (.builtin "_struct.Struct.__new__")):=by rw [typeLookup_type,builtinLookup_eq_fast];kernel_rfl
theorem slotI:Slot "_struct.Struct" "__init__" "_struct.Struct.__init__" :=
 .of (owner:="_struct.Struct") (n:="__init__") (by rw [typeLookup_type,builtinLookup_eq_fast];kernel_rfl) (by decide +kernel) (by decide +kernel) (by decide +kernel)
  (by first | exact .inl (by decide +kernel) | exact .inr (by decide +kernel)) (by rw [isSubtype_type];kernel_rfl)
theorem subS:isSubtype (.type "_struct.Struct") (.type "_struct.Struct")=pure true:=by rw [isSubtype_type];kernel_rfl
theorem called:TypeCalled "_struct.Struct" "_struct.Struct.__new__" "_struct.Struct.__init__" :=
 ⟨by decide +kernel,by decide +kernel,⟨_,_,mro⟩,madeBy_type mro lookNew (by decide +kernel),by decide +kernel,by rw [isSubtype_type];kernel_rfl,slotI⟩
theorem typeCall (a:Value):checkTypeCall "_struct.Struct" ⟨[a],[]⟩=pure ():=by kernel_rfl
theorem newCall (a:Value):checkBuiltinCall "_struct.Struct.__new__" ⟨[.type "_struct.Struct",a],[]⟩=pure ():=by kernel_rfl
theorem entryN:entryFor table "_struct.Struct.__new__"=some Builtin.«_struct.Struct.__new__»:=entryFor_of_tree (by kernel_rfl)
theorem entryI:entryFor table "_struct.Struct.__init__"=some Builtin.«_struct.Struct.__init__»:=entryFor_of_tree (by kernel_rfl)
theorem plainN:plainId "_struct.Struct.__new__"=true:=by decide +kernel
theorem argsI (a b:Value):argsOk "_struct.Struct.__init__" ⟨[a,b],[]⟩:=by unfold argsOk;kernel_rfl
theorem entryC:entryFor table "_struct.calcsize"=some Builtin.«_struct.calcsize»:=entryFor_of_tree (by kernel_rfl)
theorem argsC (a:Value):argsOk "_struct.calcsize" ⟨[a],[]⟩:=by unfold argsOk;kernel_rfl
noncomputable def ftxt (r:Nat):Str:=if r=1 then "<32I" else "<64I"
theorem ftxt_bytes (hr:r=1∨r=2) (t:Tok):formatBytes (.str (ftxt r) t)=pure (St.fmt r).toArray:=by
 rcases hr with rfl | rfl
 ·kernel_rfl
 ·kernel_rfl
section
theorem codeNew (a:Value) {Q₁:VQ} (h:Q₁ (.ref s.heap.objs.size) { s with heap:=s.heap.push { cls:=.type "_struct.Struct",data:=.fields #[.none] } }) :
  codeAny (model prog w) A (.call (.builtin "_struct.Struct.__new__") ⟨[.type "_struct.Struct",a],[]⟩) (wants Q₁ E) s:=by
 refine codeAny_of_tree ?_
 show wpAny _ A.in1 (do checkBuiltinCall "_struct.Struct.__new__" ⟨[.type "_struct.Struct",a],[]⟩;again (.builtin "_struct.Struct.__new__" ⟨[.type "_struct.Struct",a],[]⟩)) _ _ s
 refine wpAny_bind (wpAny_of_eq (newCall a) (wpAny_pure ⟨plainId_quiet plainN _,codeAny_builtin entryN ?_⟩))
 rw [Around.under_plainId plainN _]
 have hsub:=subS
 obtain ⟨hp,g,d,tk,os⟩:=s
 unfold Builtin.«_struct.Struct.__new__»
 repeat (any_goals (first | assumption | wp_step))
 all_goals first | exact h | trace_state
theorem make (hr:r=1∨r=2) (hg:A.guards=some []) {t:Tok} {Q:VQ}
  (hQ:∀h' t',h'.get? s.heap.objs.size=some { cls:=.type "_struct.Struct",data:=.fields #[.bytes (St.fmt r).toArray t'] }→(∀b o,s.heap.get? b=some o→h'.get? b=some o)→s.heap.objs.size≤h'.objs.size→Q (.ref s.heap.objs.size) { s with heap:=h',toks:=s.toks+1 }) :
  wpAny (model prog w) A (call (.type "_struct.Struct") [.str (ftxt r) t]) Q E s:=by
 refine callType_codes (Q₁:=λobj s₁=>obj = .ref s.heap.objs.size∧s₁={ s with heap:=s.heap.push { cls:=.type "_struct.Struct",data:=.fields #[.none] } }) called (typeCall _) entryI (codeNew _ ⟨rfl,rfl⟩) λobj s₁ h₁=>?_
 obtain ⟨rfl,rfl⟩:=h₁
 have hS:(s.heap.push { cls:=.type "_struct.Struct",data:=.fields #[.none] }).get? s.heap.objs.size=some { cls:=.type "_struct.Struct",data:=.fields #[.none] }:=Heap.get?_push_size _ rfl
 refine ⟨⟨_,hS,rfl⟩,argsI _ _,?_⟩
 unfold Builtin.«_struct.Struct.__init__»
 refine wpAny_bind (wpAny_of_eq (a:=[some (.str (ftxt r) t)]) (by kernel_rfl) ?_)
 dsimp only
 refine wpAny_bind (m:=packUnderWay _) ?_
 unfold packUnderWay
 refine wpAny_stackAny_false (g:=[]) (by show A.guards=_;exact hg) (λc p hc=>?_) (λ_ h=>nomatch h) ?_
 ·have g1:∀as,(Code.builtin "_struct.Struct.pack" as).isGuard=true:=λas=>by show guardIds.contains "_struct.Struct.pack"=true;decide +kernel
  have g2:∀as,(Code.builtin "_struct.pack_into.held" as).isGuard=true:=λas=>by show guardIds.contains "_struct.pack_into.held"=true;decide +kernel
  cases c with
  | builtin x as =>
   by_cases e1:x="_struct.Struct.pack"
   ·rw [e1,g1] at hc;cases hc
   by_cases e2:x="_struct.pack_into.held"
   ·rw [e2,g2] at hc;cases hc
   delta packUnderWay.match_1 packUnderWay._sparseCasesOn_1
   dsimp only
   rw [dif_neg e1,dif_neg e2]
  | _=>rfl
 refine KFB.if_not rfl ?_
 refine wpAny_bind (wpAny_of_eq (ftxt_bytes hr t) ?_)
 refine wpAny_bind (wpAny_of_eq (St.parse_eq hr) ?_)
 refine wpAny_bind (wpAny_mkBytes ?_ (or2 hr (by decide) (by decide)))
 refine wpAny_bind (wpAny_setField_rec hS (by decide) λh' e' hs=>?_)
 refine wpAny_pure ⟨rfl,?_⟩
 have hz:h'.objs.size=s.heap.objs.size+1:=by rw [hs.1,Heap.size_push]
 exact hQ h' _ e' (λb o e=>(hs.2 b (Nat.ne_of_lt (Heap.lt_size e))).trans (Heap.get?_push_of_some _ e)) (by lia)
theorem csize {t:Tok} {Q:VQ} (hQ:∀t' k,Q (.int 4 t') { s with toks:=k }):wpAny (model prog w) A (call (.builtin "_struct.calcsize") [.str "I" t]) Q E s:=by
 refine call_function_entry (by decide +kernel) (by decide +kernel) entryC (argsC _) ?_
 unfold Builtin.«_struct.calcsize»
 refine wpAny_bind (wpAny_of_eq (a:=.str "I" t) (by kernel_rfl) ?_)
 refine wpAny_bind (m:=moduleFormat _) ?_
 refine wpAny_of_eq (a:={ bigEndian:=false,native:=true,codes:=[⟨'I',1,0,4⟩],size:=4,items:=1 }) (by kernel_rfl) ?_
 exact wpAny_bind (wpAny_mkInt (wpAny_pure ⟨_,rfl,hQ _ _⟩))
end
end Sm
end
section
section
theorem EvV.attrN {name:Str} (EMM:EM c.K c.mg c.mb) (H:c.Ok n) (he:EvV c l N Φ (.Name x px) (.ref sf)) (hs:∀h,c.SS l N Φ h→SelfV h sf name v) (hh:handedIn v=true)
  (hn:name∈(["n","r","p","smix_bytes","iv_bytes","bmix_len","bmix_half_len","bmix_struct","integerify","bmix"]:List Str):=by decide):EvV c l N Φ (.Attribute (.Name x px) name pos) v:=by
 intro Φ' k h t Q E F hQ
 refine PyProof.Rows.Attribute_name (he _ k h t _ _ F λh1 t1 F1=>?_)
 obtain ⟨dx,od,h2,h3,h4⟩:=hs h1 (F1.weaken k)
 refine get_value (s:=c.st h1 t1) (od:=some od) (C:=166) (ox:=instObj 166 dx) (H.W1 F1).k ⟨h2,rfl,rfl,h3⟩ EMM.ga (EMM.own name hn od v h4) hh ?_
 exact hQ h1 _ F1
theorem EvF.boundN {name:Str} (EMM:EM c.K c.mg c.mb) (H:c.Ok n) (he:EvV c l N Φ (.Name x px) (.ref sf)) (hs:∀h,c.SS l N Φ h→SelfN h sf name)
  (hn:(name,f)∈([("run",142),("smix",149),("bmix",156),("_bmix_1",163)]:List (Str×Addr)):=by decide):EvF c l N Φ (.Attribute (.Name x px) name pos) (λv h=>∃b,An3 (v = .ref b) (278≤b) (h.get? b=some (methodObj (.ref f) (.ref sf)))):=by
 intro Φ' k h t Q E F hQ
 refine PyProof.Rows.Attribute_name (wpAny_with_size (Nat.le_refl _) (he _ k h t _ _ F λh1 t1 F1 hz=>?_))
 obtain ⟨dx,od,h2,h3,h4⟩:=hs h1 (F1.weaken k)
 obtain ⟨m1,m2⟩:=EMM.meth (name,f) hn
 refine get_bind (s:=c.st h1 t1) (od:=some od) (C:=166) (ox:=instObj 166 dx) (H.W1 F1).k ⟨h2,rfl,rfl,h3⟩ EMM.ga (m1 od h4) EMM.gattr ?_
 refine wpAny_call (fn_get (H.W1 F1).k m2 ?_)
 refine handed_on rfl ?_
 refine hQ _ _ _ (F1.push' _) (Nat.le_trans hz (Grow.push _ _).1) λh' q=>⟨_,rfl,(H.W1 F1).size,q _ _ hz (Heap.get?_push_size _ rfl)⟩
theorem asIg {k1p k2p:Pos} {w:Option Value} (i:Nat) (ENN:EN c.K c.mg c.mb) (H:c.Ok n) (hn:4≤n) (F:c.SS l N Φ h)
  (hQ:∀ig tp dg h' t',278≤ig→278≤tp→278≤dg→let l':=l.set i (x,some (.ref ig));c.SS l' N (λh=>Φ h∧h.get? ig=some (igObj tp dg)∧h.get? dg=some emptyDict∧∃u,h.get? tp=some (tobj [.int (-16) u])) h'→c.wp (execs rest c.env) Q E (c.st h' t'))
  (hi:l[i]?=some (x,w):=by rfl) (hl:Loc c.env x:=by rfl)
  (kt:Glo c.env "itemgetter":=by rfl)
  (s1:Unst (.UnaryOp .USub (.Constant (.int 16) k1 k1p) k2p) [] c.env:=by rfl)
  (hev:CallIs "itemgetter" np [.UnaryOp .USub (.Constant (.int 16) k1 k1p) k2p] cp c.env:=by rfl)
  (hs:Swp (.Call (.Name "itemgetter" np) [.UnaryOp .USub (.Constant (.int 16) k1 k1p) k2p] [] cp) x p' pos c.env:=by rfl) :
  c.wp (execs (.Assign [.Name x p'] (.Call (.Name "itemgetter" np) [.UnaryOp .USub (.Constant (.int 16) k1 k1p) k2p] [] cp) pos::rest) c.env) Q E (c.st h t):=by
 refine wpAny_execs_cons (wpAny_Assign_Name (PyProof.Rows.Call_ (gl H F ENN.ig (callWith_K (H.W1 F).k ENN.igKeep ?_ s1) kt (by decide)) hev) hs)
 rw [s1]
 refine spliced_cons ((EvI.neg .const:EvI c l N Φ (.UnaryOp .USub (.Constant (.int 16) k1 k1p) k2p) (-16)) _ (λ_ y=>y) h t _ _ F λu h1 t1 F1=>spliced_nil ?_)
 refine ⟨(H.W1 F1).k,ig_make ENN (H.A.le hn) (H.W1 F1) (λig tp dg h' t' q1 q2 q3 l1 l2 l3 e1 e2 e3 G=>?_)⟩
 obtain ⟨u',e3⟩:=e3
 have F2:=SS.knowNew2 F1 (F1.grown G) rfl (P:=λh=>h.get? ig=some (igObj tp dg)∧h.get? dg=some emptyDict∧∃u,h.get? tp=some (tobj [.int (-16) u])) (λh'' q=>⟨q _ _ l1 e1,q _ _ l3 e2,u',q _ _ l2 e3⟩)
 exact stn H F2 hi (λh3 F3=>hQ ig tp dg h3 _ q1 q2 q3 F3) hl
theorem EvN.csize (ENN:EN c.K c.mg c.mb) (H:c.Ok n)
  (kt:Glo c.env "calcsize":=by rfl)
  (s1:Unst (.Constant (.str "I") kk kp) [] c.env:=by rfl)
  (hev:CallIs "calcsize" np [.Constant (.str "I") kk kp] pos c.env:=by rfl) :
  EvN c l N Φ (.Call (.Name "calcsize" np) [.Constant (.str "I") kk kp] [] pos) 4:=by
 intro Φ' k h t Q E F hQ
 refine PyProof.Rows.Call_ (gl H F ENN.calcsize (PyProof.Rows.callWith_builtin1 ?_ s1) kt (by decide)) hev
 rw [s1]
 exact spliced_cons (Calls.Constant_str (k:=kk) (pos:=kp) (spliced_nil (Sm.csize λt' k'=>hQ t' h k' F)))
theorem EvF.struct {bp1 bp2 k1p k2p:Pos} (ENN:EN c.K c.mg c.mb) (H:c.Ok n) (hr:r=1∨r=2) (he:EvN c l N Φ e (32*r))
  (kt:Glo c.env "Struct":=by rfl) (ks:Glo c.env "str":=by rfl)
  (s1:Unst (.BinOp (.BinOp (.Constant (.str "<") k1 k1p) .Add (.Call (.Name "str" sp) [e] [] cp) bp1) .Add (.Constant (.str "I") k2 k2p) bp2) [] c.env:=by rfl)
  (s2:Unst e [] c.env:=by rfl)
  (hev2:CallIs "str" sp [e] cp c.env:=by rfl)
  (hev:CallIs "Struct" np [.BinOp (.BinOp (.Constant (.str "<") k1 k1p) .Add (.Call (.Name "str" sp) [e] [] cp) bp1) .Add (.Constant (.str "I") k2 k2p) bp2] pos c.env:=by rfl) :
  EvF c l N Φ (.Call (.Name "Struct" np) [.BinOp (.BinOp (.Constant (.str "<") k1 k1p) .Add (.Call (.Name "str" sp) [e] [] cp) bp1) .Add (.Constant (.str "I") k2 k2p) bp2] [] pos) (λv h=>∃st,An3 (v = .ref st) (278≤st) (St.StAt h st r)):=by
 intro Φ' k h t Q E F hQ
 refine PyProof.Rows.Call_ (gl H F ENN.struct (PyProof.Rows.callWith_type1 ?_ s1) kt (by decide)) hev
 rw [s1]
 refine spliced_cons (wpAny_BinOp (wpAny_BinOp (Calls.Constant_str (k:=k1) (pos:=k1p) ?_)))
 refine PyProof.Rows.Call_ (bl H F ENN.str.1 ENN.str.2 (PyProof.Rows.callWith_type1 ?_ s2) ks (by decide)) hev2
 rw [s2]
 refine spliced_cons (wpAny_with_size (Nat.le_refl _) (he _ k h _ _ _ F λu h1 t1 F1 hz1=>spliced_nil ?_))
 refine PyProof.Rows.str_of_int_fit (N:=1000) (or2 hr (by decide) (by decide)) (by decide) (λ_=>?_)
 refine PyProof.Rows.add_str (λt2 k2'=>?_) (or2 hr (by decide) (by decide))
 refine Calls.Constant_str (k:=k2) (pos:=k2p) ?_
 refine PyProof.Rows.add_str (λt3 k3=>spliced_nil ?_) (or2 hr (by decide) (by decide))
 have e:((("<":Str)++(Str.ofString (toString ((32*r:Nat):Int))))++("I":Str))=Sm.ftxt r:=or2 hr (by kernel_rfl) (by kernel_rfl)
 rw [e]
 refine Sm.make hr H.A.2.2.2 (λh' t' e' hk hz=>?_)
 have G:Grow h1 h':=⟨hz,hk⟩
 exact hQ _ h' _ (F1.grown G) (Nat.le_trans hz1 G.1) λh'' q=>⟨_,rfl,(H.W1 F1).size,t',q _ _ hz1 e'⟩
end
end
section
theorem selfV_of {es:List DictEntry} {name:Str} (F:c.SS l N Φ h) (hi:N[i]?=some (dx,dictOf es k)) (hx:h.get? sf=some (instObj 166 dx)) (hK:DIs es kvs) (hv:kvs.lookup name=some v):SelfV h sf name v :=
 ⟨dx,_,hx,F.new hi,by rw [lookIn_dict,hK.get,hv]⟩
theorem selfN_of {es:List DictEntry} {name:Str} (F:c.SS l N Φ h) (hi:N[i]?=some (dx,dictOf es k)) (hx:h.get? sf=some (instObj 166 dx)) (hK:DIs es kvs) (hv:kvs.lookup name=none):SelfN h sf name :=
 ⟨dx,_,hx,F.new hi,by rw [lookIn_dict,hK.get,hv]⟩
section
theorem EvT.le {a b:Int} (h1:EvI c l N Φ e1 a) (h2:EvI c l N Φ e2 b) (hm:behindInMarks .LtE e2=false:=by with_unfolding_all rfl):EvT c l N Φ (.Compare e1 [.LtE] [e2] pos) (decide (a≤b)) :=
 .cmp h1 h2 (λ_ _ _ _ _ h=>PyProof.Rows.le_int h) hm
end
section
set_option maxHeartbeats 4000000
theorem init_call (ENN:EN K mg mb) (hr:r=1∨r=2) (hp:p=1∨p=2) (hn1:1≤n) (hn2:n≤1000) (hsf:h.get? sf=some (instObj 166 dx)) (hdx:h.get? dx=some (dictOf [] 0)) (h1:278≤sf) (h2:278≤dx) (hne:sf≠dx) :
  FnG prog w K mg mb 8 135 ⟨[.ref sf,.int (n:Int) un,.int (r:Int) ur,.int (p:Int) up],[]⟩ [dx] h (λv h'=>v = .none∧Ex6 λst ig tp dg bm od=>EngAt r n p sf dx st ig tp dg bm od h'):=by
 intro A g d t o R hA W hR
 have EMM:=ENN.es.ei.em
 have hd2:=h2
 refine enterM0 (n:=7) (binds:=[("self",.ref sf),("n",.int (n:Int) un),("r",.int (r:Int) ur),("p",.int (p:Int) up)]) ["self","n","r","p","bmix_len","integerify"] ["ig1","ig2"] [dx] [(dx,dictOf [] 0)] EMM.init hA W EMM.ek.dom
  (λpm doc=>by kernel_rfl) (by kernel_rfl) (by kernel_rfl) ?_ ?_ (by simp) (by kernel_rfl) ?_
 ·intro b hb;rw [List.mem_singleton.mp hb];exact .inl h2
 ·intro q hq;rw [List.mem_singleton.mp hq];exact ⟨hdx,by trivial⟩
 intro h₁ t₁
 intro c l N Q QB H H0 F
 refine bindsL 0 H0 F ?_
 intro h2 t2 l F
 refine bindsL 1 H0 F ?_
 intro h2 t2 l F
 refine bindsL 2 H0 F ?_
 intro h2 t2 l F
 refine bindsL 3 H0 F ?_
 intro h2 t2 l F
 refine bindsNil ⟨h2,t2,_,_,rfl,F,?_⟩
 have F:=(F.knowOld hsf (show _∉([dx]:List Addr) from n1 hne) (λq=>nomatch q) (Nat.le_refl _)).weaken (Φ':=λh=>h.get? sf=some (instObj 166 dx)) λh y=>y.2
 have K0:DIs [] []:=trivial
 have hr2:r<2 ^ 2:=hr.elim (λe=>by rw [e];decide) (λe=>by rw [e];decide)
 have hp2:p<2 ^ 2:=hp.elim (λe=>by rw [e];decide) (λe=>by rw [e];decide)
 refine asAttrI (kvs:=[]) 2 0 ENN H F rfl rfl K0 (Nat.le_of_ble_eq_true rfl) rfl (λh y=>y) (.nm (v:=(n:Int)) 1 H rfl) ?_
 intro u1 es1 k1 h3 t3 K1 N F
 refine asAttrI 2 0 ENN H F rfl rfl K1 (Nat.le_of_ble_eq_true rfl) rfl (λh y=>y) (.nm (v:=(r:Int)) 2 H rfl) ?_
 intro u2 es2 k2 h4 t4 K2 N F
 refine asAttrI 2 0 ENN H F rfl rfl K2 (Nat.le_of_ble_eq_true rfl) rfl (λh y=>y) (.nm (v:=(p:Int)) 3 H rfl) ?_
 intro u3 es3 k3 h5 t5 K3 N F
 refine asAttrI (v:=((128*r:Nat):Int)) 2 0 ENN H F rfl rfl K3 (Nat.le_of_ble_eq_true rfl) rfl (λh y=>y) (EvN.cast (b:=128*r) (EvN.shl (.nm 2 H) (.const 7) 2 hr2 (by decide)) ((Nat.shiftLeft_eq r 7).trans (Nat.mul_comm ..))) ?_
 intro u4 es4 k4 h6 t6 K4 N F
 refine asAttrI (v:=((128*r*p:Nat):Int)) 2 0 ENN H F rfl rfl K4 (Nat.le_of_ble_eq_true rfl) rfl (λh y=>y) (EvN.mul (a:=128*r) (b:=p) (EvV.toN (EvV.attrN EMM H (.nm 0 H rfl) (λh F=>selfV_of (i:=2) F rfl F.phi K4 rfl) rfl)) (.nm 3 H) 9 2 (Nat.lt_of_lt_of_le (Nat.mul_lt_mul_of_pos_left hr2 (by decide)) (by decide)) hp2 (by decide)) ?_
 intro u5 es5 k5 h7 t7 K5 N F
 refine asAttr2I (v:=((32*r:Nat):Int)) 2 0 4 ENN H F rfl rfl K5 (Nat.le_of_ble_eq_true rfl) rfl (λh y=>y) (EvN.cast (b:=32*r) (EvN.shl (.nm 2 H) (.const 5) 2 hr2 (by decide)) ((Nat.shiftLeft_eq r 5).trans (Nat.mul_comm ..))) rfl ?_
 intro u6 es6 k6 h8 t8 K6 l N F
 refine asAttrI (v:=((16*r:Nat):Int)) 2 0 ENN H F rfl rfl K6 (Nat.le_of_ble_eq_true rfl) rfl (λh y=>y) (EvN.cast (b:=16*r) (EvN.shl (.nm 2 H) (.const 4) 2 hr2 (by decide)) ((Nat.shiftLeft_eq r 4).trans (Nat.mul_comm ..))) ?_
 intro u7 es7 k7 h9 t9 K7 N F
 refine wpAny_execs_cons (wpAny_Assert_holds (EvT.run (EvT.cast (EvT.eq (EvN.csize ENN H) (.const (i:=4))) (b:=true) (by decide)) F (λh10 t10 F=>⟨rfl,?_⟩)))
 refine asAttrO 2 0 ENN H F rfl rfl K7 (Nat.le_of_ble_eq_true rfl) rfl (λh y=>y) (EvF.struct (r:=r) ENN H hr (.nm 4 H)) ?_
 intro st es8 k8 h11 t11 hst K8 N F
 refine ifS F (b:=decide (r=1)) (EvT.cast (EvT.eq (.nm 2 H rfl) (.const (i:=1))) (decide_eq_decide.mpr Int.ofNat_inj)) (λh12 t12 F=>?_)
 have le:decide ((n:Int)≤4294967295)=true:=decide_eq_true (Int.ofNat_le.mpr (Nat.le_trans hn2 (by decide)))
 rcases hr with e | e
 ·rw [if_pos (decide_eq_true e)]
  refine asAttrO 2 0 ENN H F rfl rfl K8 (Nat.le_of_ble_eq_true rfl) rfl (λh y=>y.1) (EvF.boundN (f:=163) EMM H (.nm 0 H rfl) (λh F=>selfN_of (i:=2) F rfl F.phi.1 K8 rfl)) ?_
  intro bm es9 k9 h13 t13 hbm K9 N F
  refine wpAny_execs_nil ?_
  refine ifS F (b:=true) (EvT.cast (EvT.le (.nm 1 H rfl) (.const (i:=4294967295))) le) (λh14 t14 F=>?_)
  rw [if_pos rfl]
  refine asIg (w:=none) 5 ENN H (by decide) F ?_
  intro ig tp dg h15 t15 q1 q2 q3 l F
  refine wpAny_execs_nil ?_
  refine asAttr 2 0 ENN H F rfl rfl K9 (Nat.le_of_ble_eq_true rfl) rfl (λh y=>y.1.1.1) (EvV.toR (.nm 5 H rfl)) ?_
  intro vz es10 k10 h16 t16 K10 N F
  have f:=F.phi
  obtain rfl:=f.2
  have gt:=λ(name:Str)=>(K10.get (name:=name))
  refine wpAny_execs_nil (hR .none h16 t16 (F.kept (Nat.le_refl _)) F.size ⟨rfl,st,ig,tp,dg,bm,dictOf es10 k10,?_⟩)
  exact { e0:=f.1.1.1.1,e1:=F.new (i:=2) rfl,a_n:=⟨u1,gt "n"⟩,a_p:=⟨u3,gt "p"⟩,sb:=⟨u4,gt "smix_bytes"⟩,ib:=⟨u5,gt "iv_bytes"⟩,hl:=⟨u7,gt "bmix_half_len"⟩,a_st:=gt "bmix_struct",stO:=f.1.1.1.2,a_ig:=gt "integerify",igO:=f.1.2.1,dgO:=f.1.2.2.1,tpO:=f.1.2.2.2,b1:=(λ_=>⟨gt "bmix",f.1.1.2⟩),b2:=(λh=>absurd (e.symm.trans h) (by decide)),mt:=f2 (gt "run") (gt "smix"),hi:=f7 h1 hd2 hst q1 q2 q3 hbm,bmO:=⟨_,f.1.1.2⟩ }
 ·rw [if_neg (λq=>absurd (e.symm.trans (of_decide_eq_true q)) (by decide))]
  refine wpAny_execs_nil ?_
  refine ifS F (b:=true) (EvT.cast (EvT.le (.nm 1 H rfl) (.const (i:=4294967295))) le) (λh14 t14 F=>?_)
  rw [if_pos rfl]
  refine asIg (w:=none) 5 ENN H (by decide) F ?_
  intro ig tp dg h15 t15 q1 q2 q3 l F
  refine wpAny_execs_nil ?_
  refine asAttr 2 0 ENN H F rfl rfl K8 (Nat.le_of_ble_eq_true rfl) rfl (λh y=>y.1.1) (EvV.toR (.nm 5 H rfl)) ?_
  intro vz es10 k10 h16 t16 K10 N F
  have f:=F.phi
  obtain rfl:=f.2
  have gt:=λ(name:Str)=>(K10.get (name:=name))
  refine wpAny_execs_nil (hR .none h16 t16 (F.kept (Nat.le_refl _)) F.size ⟨rfl,st,ig,tp,dg,sf,dictOf es10 k10,?_⟩)
  exact { e0:=f.1.1.1,e1:=F.new (i:=2) rfl,a_n:=⟨u1,gt "n"⟩,a_p:=⟨u3,gt "p"⟩,sb:=⟨u4,gt "smix_bytes"⟩,ib:=⟨u5,gt "iv_bytes"⟩,hl:=⟨u7,gt "bmix_half_len"⟩,a_st:=gt "bmix_struct",stO:=f.1.1.2,a_ig:=gt "integerify",igO:=f.1.2.1,dgO:=f.1.2.2.1,tpO:=f.1.2.2.2,b1:=(λh=>absurd (h.symm.trans e) (by decide)),b2:=(λ_=>gt "bmix"),mt:=f2 (gt "run") (gt "smix"),hi:=f7 h1 hd2 hst q1 q2 q3 h1,bmO:=⟨_,f.1.1.1⟩ }
end
end
section
section
theorem eng_make (ENN:EN K mg mb) {Q:VQ}
  (hr:r=1∨r=2) (hp:p=1∨p=2) (hn1:1≤n) (hn2:n≤1000) (hA:AOk 9 A) (W:W0 K mg mb h)
  (hQ:∀sf dx st ig tp dg bm od h' t',278≤sf→EngAt r n p sf dx st ig tp dg bm od h'→Grow h h'→Q (.ref sf) ⟨h',g,d,t',o⟩) :
  wpAny (model prog w) A (call (.ref 166) [.int (n:Int) un,.int (r:Int) ur,.int (p:Int) up]) Q E ⟨h,g,d,t,o⟩:=by
 have hz0:=W.size
 have e1:(h.push emptyDict).objs.size=h.objs.size+1:=Heap.size_push ..
 have e2:((h.push emptyDict).push (instObj 166 h.objs.size)).objs.size=h.objs.size+2:=by rw [Heap.size_push,e1]
 have k:∀b o,h.get? b=some o→((h.push emptyDict).push (instObj 166 h.objs.size)).get? b=some o:=λb o e=>Heap.get?_push_of_some _ (Heap.get?_push_of_some _ e)
 have hsf:((h.push emptyDict).push (instObj 166 h.objs.size)).get? (h.objs.size+1)=some (instObj 166 h.objs.size):=by
  have:=Heap.get?_push_size (h.push emptyDict) (o:=instObj 166 h.objs.size) rfl
  rw [e1] at this;exact this
 have hdx:((h.push emptyDict).push (instObj 166 h.objs.size)).get? h.objs.size=some emptyDict:=Heap.get?_push_of_some _ (Heap.get?_push_size _ rfl)
 have W2:W0 K mg mb ((h.push emptyDict).push (instObj 166 h.objs.size)):=W.keeps (S:=[]) ENN.es.ei.em.ek.dom (by trivial) (λb o _ e=>k b o e) (by lia)
 refine wpAny_call (make_core (makes_of W.k ENN.makes) (looks_findIn W.k ENN.initF) (λself=>bind_fn W.k self ENN.initT) (.inl rfl) ?_)
 refine init_call ENN (sf:=h.objs.size+1) (dx:=h.objs.size) (un:=un) (ur:=ur) (up:=up) hr hp hn1 hn2 hsf hdx (by show @LE.le Nat _ _ _;lia) hz0 (neA (by trivial)) _ g d t o _ (hA.under_tc _ _ _) W2 (λv h' t' hk hz hpost=>?_)
 obtain ⟨rfl,st,ig,tp,dg,bm,od,q⟩:=hpost
 rw [e2] at hz
 refine ⟨rfl,hQ (h.objs.size+1) h.objs.size st ig tp dg bm od h' t' (by show @LE.le Nat _ _ _;lia) q ⟨by lia,λb o e=>hk b o (λq=>?_) (k b o e)⟩⟩
 have hl:@LT.lt Nat _ b h.objs.size:=Heap.lt_size e
 have q':@Eq Nat b h.objs.size:=List.mem_singleton.mp q
 lia
end
end
section
end
section
open PySem PySem.Calls PySem.W PyProof.Rows
open Builtin Builtin.Str
section
theorem rep_int {n:Int} {base:Nat} {Q:VQ} (hd:n.natAbs.log2<1920) (h:Q (.str (PySem.Str.ofString (toString n)) s.toks) { s with toks:=s.toks+1 }):wpAny (model prog w) A (pyReprObjUnder base (.int n u)) Q E s:=by
 unfold pyReprObjUnder pyReprObjBy
 refine wpAny_bind (wpAny_of_eq (a:=()) (by unfold cRoomFor;exact if_neg Bool.false_ne_true) ?_)
 refine wpAny_bind (wpAny_specialOf (name:=Str.ofString "__repr__") (typeIs_int _ _ _) F.slot_int_repr.lookup ?_)
 refine wpAny_bind (wpAny_callSpecialIfBoundBy?_slotG (name:=Str.ofString "__repr__") (typeIs_int _ _ _) F.slot_int_repr.toG ?_)
 refine call_gives F.slot_int_repr (typeIs_int _ _ _) F.entry_int_repr (F.args_int_repr_1 _) (gives_int_repr _ _ hd) ⟨int_text_fits hd,?_⟩
 exact wpAny_bind (wpAny_isInstance (T:="str") (b:=true) rfl isSubtype_str_str (wpAny_pure h))
end
end
section
open PySem PySem.Calls PySem.W PyProof.Rows
open Builtin Builtin.Str
local macro_rules | `(tactic| kpc_conv) => `(tactic| (refine wpAny_bind ?_; (repeat kpc_if); refine rep_int (by with_reducible assumption) ?_; refine wpAny_bind (wpAny_of_eq (a := some _) rfl ?_)))
local macro_rules | `(tactic| kpt_conv) => `(tactic| (refine wpAny_bind ?_; (repeat kpc_if); refine rep_int (by with_reducible assumption) ?_; refine wpAny_bind (wpAny_of_eq (a := some _) rfl ?_)))
local macro_rules | `(tactic| kpt_len) => `(tactic| with_reducible assumption)
theorem int_len {n:Int} (hd:n.natAbs.log2<1920):(PySem.Str.ofString (toString n)).length≤5000:=by
 have e:=int_text_length_le (k:=1920) (by decide) hd
 rw [PySem.ofString_length];lia
section
set_option maxHeartbeats 1000000
theorem mod_r {n:Int} {t:Tok} {Q:VQ} (hd:n.natAbs.log2<1920) (h:∀x t' k,Q (.str x t') { s with toks:=k }):wpAny (model prog w) A (binaryOp .Mod (.str "r must be > 0: r=%r" t) (.int n u)) Q E s:=by
 have hl:=int_len hd
 refine KPc.mod_lit (T:=(PySem.Str.ofString "r must be > 0: r=")++PySem.Str.ofString (toString n)) (X':=⟨#[114,32,109,117,115,116,32,98,101,32,62,32,48,58,32,114,61,37,114]⟩) (by decide +kernel) hd ?_ (λt' k=>h _ t' k)
 kpc_run
theorem mod_p {n:Int} {t:Tok} {Q:VQ} (hd:n.natAbs.log2<1920) (h:∀x t' k,Q (.str x t') { s with toks:=k }):wpAny (model prog w) A (binaryOp .Mod (.str "p must be > 0: p=%r" t) (.int n u)) Q E s:=by
 have hl:=int_len hd
 refine KPc.mod_lit (T:=(PySem.Str.ofString "p must be > 0: p=")++PySem.Str.ofString (toString n)) (X':=⟨#[112,32,109,117,115,116,32,98,101,32,62,32,48,58,32,112,61,37,114]⟩) (by decide +kernel) hd ?_ (λt' k=>h _ t' k)
 kpc_run
theorem mod_n {n:Int} {t:Tok} {Q:VQ} (hd:n.natAbs.log2<1920) (h:∀x t' k,Q (.str x t') { s with toks:=k }):wpAny (model prog w) A (binaryOp .Mod (.str "n must be > 1, and a power of 2: n=%r" t) (.int n u)) Q E s:=by
 have hl:=int_len hd
 refine KPc.mod_lit (T:=(PySem.Str.ofString "n must be > 1, and a power of 2: n=")++PySem.Str.ofString (toString n)) (X':=⟨#[110,32,109,117,115,116,32,98,101,32,62,32,49,44,32,97,110,100,32,97,32,112,111,119,101,114,32,111,102,32,50,58,32,110,61,37,114]⟩) (by decide +kernel) hd ?_ (λt' k=>h _ t' k)
 kpc_run
theorem mod_k {t:Tok} {Q:VQ} (h:∀x t' k,Q (.str x t') { s with toks:=k }):wpAny (model prog w) A (binaryOp .Mod (.str "keylen too large, must be <= %d" t) (.int 137438953440 u)) Q E s:=by
 refine KPc.mod_lit (T:=(PySem.Str.ofString "keylen too large, must be <= ")++PySem.Str.ofString (toString (137438953440:Int))) (X':=⟨#[107,101,121,108,101,110,32,116,111,111,32,108,97,114,103,101,44,32,109,117,115,116,32,98,101,32,60,61,32,37,100]⟩) (by decide +kernel) (by decide +kernel) ?_ (λt' k=>h _ t' k)
 kpc_run
end
end
section
open PySem PySem.Calls PySem.W PyProof.Rows
open Builtin Builtin._codecs
noncomputable def encL (cs:List Nat):List UInt8:=cs.flatMap Str.utf8Of
section
theorem enc_fold (cs:List Nat):∀(acc:Array UInt8),cs.foldl (λacc y=>acc++(Str.utf8Of y).toArray) acc=acc++(encL cs).toArray:=by
 induction cs with
 | nil=>intro acc;simp [encL]
 | cons a r ih=>intro acc;rw [List.foldl_cons,ih];simp [encL,List.flatMap_cons]
theorem enc_narrow {id:String} {self:Value} {Q:Array UInt8→Shared→Prop} (hs:∀c∈cs,Str.isSurrogate c=false) (hl:(encL cs).length≤100) (hQ:Q (encL cs).toArray s) :
  wpAny (model prog w) A (encodeNarrow id utf8Codec none self ⟨cs.toArray⟩) Q E s:=by
 unfold encodeNarrow
 refine wpAny_bind ?_
 rw [KPc.range_list]
 cases cs with
 | nil=>exact wpAny_pure (wpAny_pure hQ)
 | cons a r =>
  show wpAny _ _ (forIn (0::List.range' 1 r.length 1) _ _) _ _ _
  refine KPc.turn ?_
  have ha:Str.isSurrogate a=false:=hs a (by trivial)
  have hf:Array.findIdx? utf8Codec.bad ((a::r).toArray.extract 0)=none:=by
   rw [Array.findIdx?_eq_none_iff]
   intro x hx
   simp at hx
   exact hs x (by simpa using hx)
  have hsz:((a::r).toArray.extract 0).size=r.length+1:=by simp
  refine wpAny_ite (KPc.ite_no (by trivial) ?_)
  show wpAny _ _ (if (!Str.isSurrogate a)=true then _ else _) _ _ _
  rw [if_pos (by rw [ha];rfl)]
  refine wpAny_pure ?_
  show wpAny _ _ (forIn _ (0+(Array.findIdx? utf8Codec.bad ((a::r).toArray.extract 0)).getD ((a::r).toArray.extract 0).size,Array.foldl (λacc y=>acc++(Str.utf8Of y).toArray) #[] (((a::r).toArray.extract 0).extract 0 ((Array.findIdx? utf8Codec.bad ((a::r).toArray.extract 0)).getD ((a::r).toArray.extract 0).size)),_) _) _ _ _
  have e1:0+(none:Option Nat).getD ((a::r).toArray.extract 0).size=r.length+1:=by rw [hsz];exact Nat.zero_add _
  have e2:Array.foldl (λacc y=>acc++(Str.utf8Of y).toArray) #[] (((a::r).toArray.extract 0).extract 0 ((none:Option Nat).getD ((a::r).toArray.extract 0).size))=(encL (a::r)).toArray:=by
   have e:((a::r).toArray.extract 0).extract 0 ((none:Option Nat).getD ((a::r).toArray.extract 0).size)=(a::r).toArray:=by simp
   rw [e,←Array.foldl_toList]
   exact (enc_fold _ #[]).trans (by simp)
  rw [hf,e1,e2]
  cases r with
  | nil=>exact wpAny_pure (wpAny_pure hQ)
  | cons b q =>
   show wpAny _ _ (forIn (1::List.range' 2 q.length 1) _ _) _ _ _
   refine KPc.turn ?_
   refine wpAny_ite (KPc.ite_no (by
    show ¬ ((encL (a::b::q)).toArray.size>sizeLine)
    rw [List.size_toArray]
    exact Nat.not_lt.mpr (Nat.le_trans hl (by decide))) ?_)
   have en:(a::b::q).toArray[(b::q).length+1]?=none:=by simp
   dsimp only
   rw [en]
   exact wpAny_pure (wpAny_pure hQ)
theorem enc_tree (x:PySem.Str) (t u:Tok):«str.encode» ⟨[.str x t,.str "utf-8" u],[]⟩=(do ret (←encodeRoad "str.encode" (.str x t) x (Str.ofString "utf-8") none)):=by kernel_rfl
theorem encode_call {t:Tok} {Q:VQ} (hs:∀c∈cs,Str.isSurrogate c=false) (hl:(encL cs).length≤100) (hQ:∀t' k,Q (.bytes (encL cs).toArray t') { s with toks:=k }) :
  wpAny (model prog w) A (call (.builtin "str.encode") [.str ⟨cs.toArray⟩ t,.str "utf-8" u]) Q E s:=by
 refine call_meets (S:=λ_ R s=>∀t' k,R (.ok (.ret (.bytes (encL cs).toArray t'))) { s with toks:=k }) F.slot_str_encode (typeIs_str s _ t) F.entry_str_encode (F.args_str_encode_2 _ _) ?_ hQ
 refine Meets.of_wp λprog w A _ s hS=>?_
 rw [enc_tree,encodeRoad_utf8]
 refine wpAny_bind (wpAny_bind (enc_narrow hs hl (wpAny_mkBytes (wpAny_pure ⟨_,rfl,hS _ _⟩) ?_)))
 rw [List.size_toArray];exact Nat.le_trans hl (by decide)
end
end
section
noncomputable def SL (cs:List Nat) (v:Value) (_:Heap):Prop:=∃u,v = .str ⟨cs.toArray⟩ u
section
theorem EvF.encode (he:EvF c l N Φ e (SL cs)) (hs:∀x∈cs,Str.isSurrogate x=false) (hl:(encL cs).length≤100)
  (s1:Unst (.Constant (.str "utf-8") kk kp) [] c.env:=by rfl)
  (hev:eval (.Call (.Attribute e "encode" ap) [.Constant (.str "utf-8") kk kp] [] pos) c.env=(do
   let ov←eval e c.env
   standAt ap.atName
   let (f,first)←holding [ov] (getMethod ov "encode" pl)
   callWith pos f first (backTo pos (starEach [.Constant (.str "utf-8") kk kp] c.env)) []):=by rfl) :
  EvF c l N Φ (.Call (.Attribute e "encode" ap) [.Constant (.str "utf-8") kk kp] [] pos) (BR (encL cs)):=by
 intro Φ' k h t Q E F hQ
 refine PyProof.Rows.MethodCall_ (he _ k h t _ _ F λv h1 t1 F1 hz1 p1=>?_) hev
 obtain ⟨u,rfl⟩:=p1.here
 refine getMethod_builtin (typeIs_str _ _ _) PySem.F.plainAttrs_str PySem.F.slot_str_encode PySem.F.type_str_encode (λ_ e=>nomatch e) (PyProof.Rows.callWith_method1 ?_ s1)
 rw [s1]
 refine spliced_cons (Calls.Constant_str (k:=kk) (pos:=kp) (spliced_nil (encode_call hs hl λt' k'=>?_)))
 exact hQ _ h1 _ F1 hz1 λ_ _=>⟨t',rfl⟩
end
end
section
section
theorem EvT.val {b:Bool} (he:EvV c l N Φ e v) (ht:∀(s:Shared) (Q:Bool→Shared→Prop) (E:VQ),Q b s→c.wp (truthy v) Q E s)
  (hw:∀ {Q:Bool→Shared→Prop} {E:VQ} {s:Shared},c.wp (eval e c.env) (λv s₁=>c.wp (truthy v) Q E s₁) E s→c.wp (isTrue e c.env (eval e c.env)) Q E s:=by intro _ _ _ h;exact wpAny_isTrue_value h) :
  EvT c l N Φ e b:=λΦ' k h t Q E F hQ=>hw (he _ k h t _ _ F λh1 t1 F1=>ht _ _ _ (hQ h1 t1 F1))
theorem EvT.isi {tt:Value} {P:HP} {b:Bool} (H:c.Ok n) (hi:c.mg "isinstance"=none∧c.mb "isinstance"=some (.builtin "isinstance"))
  (hx:EvV c l N Φ (.Name x xp) v) (hy:EvV c l N Φ (.Name y yp) (.type T)) (Z:KitX c.K v tt P) (hP:∀h,Φ h→P h) (e:kitOne c.K tt (.type T)=some b) (hne:v≠.builtin "__main__.__loader__#opaque")
  (ki:Glo c.env "isinstance":=by rfl)
  (s1:Unst (.Name x xp) [.Name y yp] c.env:=by rfl)
  (s2:Unst (.Name y yp) [] c.env:=by rfl)
  (hev:CallIs "isinstance" np [.Name x xp,.Name y yp] pos c.env:=by rfl) :
  EvT c l N Φ (.Call (.Name "isinstance" np) [.Name x xp,.Name y yp] [] pos) b:=by
 intro Φ' k h t Q E F hQ
 refine wpAny_isTrue_value ?_
 refine PyProof.Rows.Call_ (bl H F hi.1 hi.2 (Calls.callWith_builtin (by rw [s1,s2];rfl) (evalArgs_all (by rw [s1,s2];rfl) ?_)) ki (by decide)) hev
 rw [s1]
 refine spliced_cons (hx _ k h _ _ _ F λh1 t1 F1=>?_)
 rw [s2]
 refine spliced_cons (hy _ k h1 t1 _ _ F1 λh2 t2 F2=>spliced_nil ?_)
 exact kia_one Z (H.W1 F2).k (hP _ (k _ F2.phi)) e hne λtk=>wpAny_truthy_bool (hQ h2 _ F2)
end
end
section
section
theorem bindD {args:Args} {T:Addr} {k:Option (Array Value)→Sem (List (Str×Value))} (hd:h.get? T=some ob) (hs:ob.data = .seq items n)
  (h1:bindArgs fd args=seqItems? (.ref T) >>= k) (h2:k (some items)=pure binds) {Q:List (Str×Value)→Shared→Prop} (hQ:∀h2 t2,Grow h h2→h=h2→Q binds ⟨h2,g,d,t2,o⟩):wpAny (model prog w) A (bindArgs fd args) Q NoE ⟨h,g,d,t,o⟩:=by
 rw [h1]
 refine wpAny_bind (wpAny_seqItems hd hs ?_)
 rw [h2]
 exact wpAny_pure (hQ h t (Grow.refl h) rfl)
theorem bind_tob {x:PySem.Str} {a b:Tok} (hd:h.get? 64=some (tobj [.str "utf-8" a,.str "value" b,.none])) {Q:List (Str×Value)→Shared→Prop}
  (hQ:∀h2 t2,Grow h h2→h=h2→Q [("source",v),("encoding",.str "utf-8" a),("param",.str x u),("source_encoding",.none)] ⟨h2,g,d,t2,o⟩) :
  wpAny (model prog w) A (bindArgs (mDef "to_bytes" "to_bytes" (arOf (top 8)) (bdOf (top 8)) (scOf (top 8)) (.ref 64) pm (.ref 70) doc) ⟨[v],[("param",.str x u)]⟩) Q NoE ⟨h,g,d,t,o⟩ :=
 bindD hd rfl (by rfl) (by kernel_rfl) hQ
end
end
section
noncomputable def Fly (base:Heap) (l:List Env) (e:Addr) (X:String) (h:Heap):Prop:=∃a0,Heap.FlyingW base l e (.type X) a0 h
noncomputable def FnR (prog:Program) (w:World) (K:Frag) (mg mb:Str→Option Value) (n:Nat) (f:Addr) (args:Args) (h:Heap) (X:String):Prop :=
 ∀A g d t o (R:Result→Shared→Prop) base outer,AOk n A→A.frames=some outer→base.StaysIn h→h.FunFrames base outer→W0 K mg mb h →
  (∀e h' t',Fly base outer e X h'→h.UpToSlots h'→R (.error (.ref e)) ⟨h',g,d,t',o⟩)→codeAny (model prog w) A (.call (.ref f) args) R ⟨h,g,d,t,o⟩
noncomputable def RE (c:Cx) (base:Heap) (outer:List Env) (X:String) (v:Value) (s':Shared):Prop :=
 Ex3 λe h' t'=>An3 (v = .ref e) (s'=c.st h' t') (((∃h1,An4 (Heap.NewExc h1 h' e X) (base.StaysIn h1) (h1.FunFrames base (c.env::outer)) (c.h₀.UpToSlots h1))∨(Fly base (c.env::outer) e X h'∧c.h₀.UpToSlots h')))
section
theorem leaveR {base:Heap} {outer:List Env} {X:String} {Q:Unit→Shared→Prop} (hfr:A.frames=some (c.env::outer)) (hf:c.env.frame=some L) (x:RE c base outer X v s')
  (hQ:∀e h' t',v = .ref e→Fly base outer e X h'→c.h₀.UpToSlots h'→Q () (c.st h' t')):wpAny M A (leaving c.env v) Q E s':=by
 obtain ⟨e,h',t',rfl,rfl,⟨h1,hx,st,hl,hu⟩ | ⟨⟨a0,hfl⟩,hu⟩⟩:=x
 ·obtain ⟨ob,tp,he,hcls,hd⟩:=hx.there
  have hen:base.get? e=none:=by
   cases q:base.get? e with
   | none=>rfl
   | some o'=>have:=st _ _ q;rw [hx.new] at this;cases this
  refine wpAny_leaving_firstW (a0:=tp) (s:=c.st h' t') hfr (hl.of_keeps λb o hb _=>⟨o,hx.keeps b o hb,rfl⟩) hf he (λb o hb=>hx.keeps b o (st b o hb)) hen hd rfl rfl λh2 hL=>?_
  obtain ⟨k1,⟨_,_,k2⟩,k3,k4⟩:=hL
  exact hQ e h2 t' rfl ⟨tp,k1,hen,k2,by rw [←hcls];exact k3⟩ ((hu.trans (Heap.UpToSlots.of_keeps hx.keeps)).trans k4)
 ·exact wpAny_leaves_onW (s:=c.st h' t') hfr hf hfl λh2 x1 x2=>hQ e h2 t' rfl ⟨a0,x1⟩ (hu.trans x2)
end
section
variable {base:Heap} {outer:List Env}
theorem raiseAt (hS:c.S=[]) (hL:c.h₀.objs.size≤c.L) (F:c.SS l N Φ h1) (hf:c.env.frame=some c.L) (hk:c.env.scope.kind≠.module) (st:base.StaysIn c.h₀) (fr:c.h₀.FunFrames base outer) :
  base.StaysIn h1∧h1.FunFrames base (c.env::outer)∧c.h₀.UpToSlots h1:=by
 have k:∀b o,c.h₀.get? b=some o→h1.get? b=some o:=λb o e=>F.keep b o (by rw [hS];simp) (Nat.ne_of_lt (Nat.lt_of_lt_of_le (Heap.lt_size e) hL)) e
 refine ⟨λb o e=>k b o (st b o e),.cons hk hf F.ns ?_ (fr.of_keeps λb o e _=>⟨o,k b o e,rfl⟩),Heap.UpToSlots.of_keeps k⟩
 cases q:base.get? c.L with
 | none=>rfl
 | some o=>exact absurd (Nat.lt_of_lt_of_le (Heap.lt_size (st _ _ q)) hL) (Nat.lt_irrefl _)
end
section
theorem hER {base:Heap} {outer:List Env} {X:String} (hfr:A.frames=some outer) (hR:∀e h' t',Fly base outer e X h'→h.UpToSlots h'→R (.error (.ref e)) ⟨h',g,d,t',o⟩) :
  ∀h2 e s',(h=h2∧RE (frameCxC prog w A g d o h2 [] K mg mb qual scope f cd) base outer X e s')→wpAny (model prog w) (A.deeper (frameCxC prog w A g d o h2 [] K mg mb qual scope f cd).env) (leaving (frameCxC prog w A g d o h2 [] K mg mb qual scope f cd).env e) (λ_ s''=>R (.error e) s'') (λe s''=>R (.error e) s'') s':=by
 rintro h2 e s' ⟨rfl,x⟩
 exact leaveR (c:=frameCxC prog w A g d o h [] K mg mb qual scope f cd) (Around.frames_deeper hfr) rfl x (λe' h' t' hv y z=>by subst hv;exact hR e' h' t' y z)
end
section
theorem EvT.or {a b:Bool} (x1:EvT c l N Φ e1 a) (x2:EvT c l N Φ e2 b):EvT c l N Φ (.BoolOp .Or [e1,e2] pos) (a || b):=λΦ' k h t Q E F hQ =>
 wpAny_isTrue_BoolOp (wpAny_allTrue_Or_cons (x1 _ k h t _ _ F λg1 t1 F1=>by
  cases a with
  | true=>exact hQ g1 t1 F1
  | false=>exact wpAny_allTrue_Or_cons (x2 _ k g1 t1 _ _ F1 λg2 t2 F2=>by
    cases b with
    | true=>exact hQ g2 t2 F2
    | false=>exact wpAny_allTrue_Or_nil (hQ g2 t2 F2))))
end
end
section
section
variable {base:Heap} {outer:List Env}
theorem raiseS {X:String} {NN I:String} (hc:PyProof.Rows.ExcClass X NN I) (H:c.Ok n) (F:c.SS l N Φ h) (hx:c.mg x=none∧c.mb x=some (.type X)) (he:EvR c l N Φ e (λ_ _=>True))
  (hS:c.S=[]) (hL:c.h₀.objs.size≤c.L) (hf:c.env.frame=some c.L) (hk:c.env.scope.kind≠.module) (st:base.StaysIn c.h₀) (fr:c.h₀.FunFrames base outer)
  (kx:Glo c.env x:=by rfl) (dx:ND x:=by decide)
  (s1:Unst e [] c.env:=by rfl)
  (hev:CallIs x np [e] cp c.env:=by rfl) :
  c.wp (execs (.Raise (some (.Call (.Name x np) [e] [] cp)) none pos::rest) c.env) Q (RE c base outer X) (c.st h t):=by
 refine wpAny_execs_cons (PyProof.Rows.Raise_new H.A.1 ?_)
 refine PyProof.Rows.Call_ (bl H F hx.1 hx.2 (PyProof.Rows.callWith_type1 ?_ s1) kx dx) hev
 rw [s1]
 refine spliced_cons (he _ (λ_ y=>y) h t _ _ F λv h1 t1 F1=>spliced_nil ?_)
 refine PyProof.Rows.call_exc_raise hc (λh' e hx=>?_) (Nat.le_of_ble_eq_true rfl)
 obtain ⟨a1,a2,a3⟩:=raiseAt hS hL F1 hf hk st fr
 exact ⟨e,h',t1,rfl,rfl,.inl ⟨h1,hx,a1,a2,a3⟩⟩
end
end
section
structure TN (K:Frag) (mg mb:Str→Option Value):Prop where
 en:EN K mg mb
 val:FnM K 177 "validate" "validate" (arOf (top 18)) (bdOf (top 18)) (scOf (top 18)) .none (.ref 176)
 tob:FnM K 71 "to_bytes" "to_bytes" (arOf (top 8)) (bdOf (top 8)) (scOf (top 8)) (.ref 64) (.ref 70)
 tobd:Ex2 λa b=>K.lookup 64=some (tobj [.str "utf-8" a,.str "value" b,.none])
 scr:FnM K 185 "scrypt" "scrypt" (arOf (top 19)) (bdOf (top 19)) (scOf (top 19)) (.ref 178) (.ref 184)
 scrd:Ex2 λa b=>K.lookup 178=some (tobj [.int 1 a,.int 32 b])
 ve:mg "ValueError"=none∧mb "ValueError"=some (.type "ValueError")
 te:mg "TypeError"=none∧mb "TypeError"=some (.type "TypeError")
 isi:mg "isinstance"=none∧mb "isinstance"=some (.builtin "isinstance")
 bytes:mg "bytes"=none∧mb "bytes"=some (.type "bytes")
 uni:mg "unicode"=some (.type "str")
 rp:∃u,mg "MAX_RP"=some (.int 1073741823 u)
 kl:∃u,mg "MAX_KEYLEN"=some (.int 137438953440 u)
 valG:mg "validate"=some (.ref 177)
 tobG:mg "to_bytes"=some (.ref 71)
 scrG:mg "scrypt"=some (.ref 185)
section
theorem EvT.nz {v:Int} (x:EvI c l N Φ e v) (he:∀whole:Sem Value,isTrue e c.env whole=(do let v←whole;standAt e.pos;holding [v] (truthy v)):=by intro _;rfl):EvT c l N Φ e (v != 0):=λΦ' k h t Q E F hQ =>
 wpAny_isTrue_value (x _ k h t _ _ F λu h1 t1 F1=>PySem.P.truthy_int (hQ h1 t1 F1)) (he _)
end
section
theorem validate_ok (TT:TN K mg mb) {n r p:Int} (h1:1≤r) (h2:1≤p) (h3:r*p≤1073741823) (hm:IntMulOk r p) (h4:2≤n) (h5:Builtin.bitAnd n (n - 1)=0) :
  FnG prog w K mg mb 2 177 ⟨[.int n un,.int r ur,.int p up],[]⟩ [] h (λv _=>v = .bool true):=by
 intro A g d t o R hA W hR
 refine enterM0 (n:=1) (binds:=[("n",.int n un),("r",.int r ur),("p",.int p up)]) ["n","r","p"] [] [] [] TT.val hA W TT.en.es.ei.em.ek.dom
  (λpm doc=>by kernel_rfl) (by kernel_rfl) (by kernel_rfl) (by trivial) (by simp) (by trivial) (by kernel_rfl) ?_
 intro h₁ t₁
 intro c l N Q QB H H0 F
 refine bindsL 0 H0 F ?_
 intro h2 t2 l F
 refine bindsL 1 H0 F ?_
 intro h2 t2 l F
 refine bindsL 2 H0 F ?_
 intro h2 t2 l F
 refine bindsNil ⟨h2,t2,_,_,rfl,F,?_⟩
 obtain ⟨um,hum⟩:=TT.rp
 refine ifS F (b:=false) (EvT.cast (EvT.lt (.nm 1 H rfl) (.const (i:=1))) (by rw [decide_eq_false_iff_not];lia)) (λh3' t3 F=>?_)
 refine wpAny_execs_nil ?_
 refine ifS F (b:=false) (EvT.cast (EvT.lt (.nm 2 H rfl) (.const (i:=1))) (by rw [decide_eq_false_iff_not];lia)) (λh3' t3 F=>?_)
 refine wpAny_execs_nil ?_
 refine ifS F (b:=false) (EvT.cast (EvT.gt (EvI.mul (.nm 1 H rfl) (.nm 2 H rfl) hm) (EvV.toI (.gl H hum))) (by rw [decide_eq_false_iff_not];lia)) (λh3' t3 F=>?_)
 refine wpAny_execs_nil ?_
 refine ifS F (b:=false) (EvT.cast (EvT.or (EvT.lt (.nm 0 H rfl) (.const (i:=2))) (EvT.nz (EvI.and (.nm 0 H rfl) (EvI.sub (.nm 0 H rfl) (.const (i:=1)))))) (by rw [h5];simp;lia)) (λh3' t3 F=>?_)
 refine wpAny_execs_nil ?_
 exact wpAny_execs_cons (wpAny_Return_some (wpAny_Constant_bool (hR _ h3' t3 (F.kept (Nat.le_refl _)) F.size rfl)))
end
end
section
section
theorem EvR.modI {fmt:PySem.Str} {v:Int} (he:EvI c l N Φ e v)
  (hm:∀(s:Shared) (t u:Tok) (Q:VQ) (E:VQ),(∀x t' k,Q (.str x t') { s with toks:=k })→c.wp (binaryOp .Mod (.str fmt t) (.int v u)) Q E s) :
  EvR c l N Φ (.BinOp (.Constant (.str fmt) k kp) .Mod e pos) (λ_ _=>True):=λΦ' kk h t Q E F hQ =>
 wpAny_BinOp (Calls.Constant_str (k:=k) (pos:=kp) (he _ kk h (t+1) _ _ F λu h1 t1 F1=>hm _ _ _ _ _ λx t' k'=>hQ _ h1 k' (F1.weaken λ_ y=>⟨y,trivial⟩)))
end
end
section
section
noncomputable abbrev exVE:=@PyProof.Rows.excClass_ValueError
noncomputable abbrev exTE:=@PyProof.Rows.excClass_TypeError
theorem wpAny_fstr {x:PySem.Str} {t:Tok} {Q:VQ} (hx:x.length≤5000) (h:∀t' k,Q (.str x t') { s with toks:=k }):wpAny (model prog w) A (formatField (.str x t) Str.empty) Q E s :=
 wpAny_formatField_str (h t s.toks) (h _ _) (hx:=Nat.le_trans hx (by decide))
theorem join_le {a b:PySem.Str} (h:a.length≤m) (hb:b.length≤5000) (hm:m+5000≤30000:=by decide):(a++b).length≤sizeLine:=by
 rw [strLen_append]
 exact Nat.le_trans (Nat.add_le_add h hb) (Nat.le_trans hm (by decide))
theorem join_lt {a b:PySem.Str} (h:a.length≤m) (hb:b.length≤5000):(a++b).length≤m+5000:=by
 rw [strLen_append]
 exact Nat.add_le_add h hb
theorem EvR.frr {s1 s2:PySem.Str} {a b:Int} (h1:EvI c l N Φ e1 a) (h2:EvI c l N Φ e2 b) (ha:a.natAbs.log2<1920) (hb:b.natAbs.log2<1920) (l1:s1.length≤5000:=by decide) (l2:s2.length≤5000:=by decide) :
  EvR c l N Φ (.JoinedStr [.Constant (.str s1) k1 p1,.FormattedValue e1 114 none p2,.Constant (.str s2) k2 p3,.FormattedValue e2 114 none p4] pos) (λ_ _=>True):=by
 intro Φ' kk h t Q E F hQ
 refine wpAny_JoinedStr (Calls.Constant_str (k:=k1) (pos:=p1) ⟨s1,t,rfl,join_le (m:=0) (Nat.le_refl _) l1,?_⟩)
 refine wpAny_FormattedValue_repr (h1 _ kk h (t+1) _ _ F λu h1 t1 F1=>pyReprObj_int ha (wpAny_fstr (int_len ha) λt' k=>⟨_,t',rfl,join_le (join_lt (m:=0) (Nat.le_refl _) l1) (int_len ha),?_⟩))
 refine Calls.Constant_str (k:=k2) (pos:=p3) ⟨s2,_,rfl,join_le (join_lt (join_lt (m:=0) (Nat.le_refl _) l1) (int_len ha)) l2,?_⟩
 refine wpAny_FormattedValue_repr (h2 _ kk h1 _ _ _ F1 λu h2 t2 F2=>pyReprObj_int hb (wpAny_fstr (int_len hb) λt' k=>⟨_,t',rfl,join_le (join_lt (join_lt (join_lt (m:=0) (Nat.le_refl _) l1) (int_len ha)) l2) (int_len hb),?_⟩))
 exact ⟨join_le (join_lt (join_lt (join_lt (m:=0) (Nat.le_refl _) l1) (int_len ha)) l2) (int_len hb),hQ _ h2 _ (F2.weaken λ_ y=>⟨y,trivial⟩)⟩
theorem EvR.fss {s:PySem.Str} {a b:PySem.Str} (h1:EvV c l N Φ e1 (.str a u1)) (h2:EvV c l N Φ e2 (.str b u2)) (la:a.length≤5000) (lb:b.length≤5000) (ls:s.length≤5000:=by decide) :
  EvR c l N Φ (.JoinedStr [.FormattedValue e1 115 none p1,.Constant (.str s) k p2,.FormattedValue e2 115 none p3] pos) (λ_ _=>True):=by
 intro Φ' kk h t Q E F hQ
 refine wpAny_JoinedStr (wpAny_FormattedValue_s (h1 _ kk h t _ _ F λh1 t1 F1=>PySem.SB.convS_str (λt' k'=>wpAny_fstr la λt'' k''=>⟨_,t'',rfl,join_le (m:=0) (Nat.le_refl _) la,?_⟩) (Nat.le_trans la (by decide))))
 refine Calls.Constant_str (k:=k) (pos:=p2) ⟨s,_,rfl,join_le (join_lt (m:=0) (Nat.le_refl _) la) ls,?_⟩
 refine wpAny_FormattedValue_s (h2 _ kk h1 _ _ _ F1 λh2 t2 F2=>PySem.SB.convS_str (λt' k'=>wpAny_fstr lb λt'' k''=>⟨_,t'',rfl,join_le (join_lt (join_lt (m:=0) (Nat.le_refl _) la) ls) lb,?_⟩) (Nat.le_trans lb (by decide)))
 exact ⟨join_le (join_lt (join_lt (m:=0) (Nat.le_refl _) la) ls) lb,hQ _ h2 _ (F2.weaken λ_ y=>⟨y,trivial⟩)⟩
end
section
set_option maxHeartbeats 1000000
theorem validate_bad (TT:TN K mg mb) {n r p:Int} (ln:n.natAbs.log2<1920) (lr:r.natAbs.log2<1920) (lp:p.natAbs.log2<1920) (hm:IntMulOk r p) (bad:r<1∨p<1∨1073741823<r*p∨n<2∨Builtin.bitAnd n (n - 1)≠0) :
  FnR prog w K mg mb 2 177 ⟨[.int n un,.int r ur,.int p up],[]⟩ h "ValueError":=by
 intro A g d t o R base outer hA hfr st fr W hR
 refine enterX (n:=1) (binds:=[("n",.int n un),("r",.int r ur),("p",.int p up)]) (λh2=>h=h2) (λh2 e s'=>h=h2∧RE (frameCxC prog w A g d o h2 [] K mg mb "validate" (scOf (top 18)) 177 (.ref 176)) base outer "ValueError" e s') ["n","r","p"] [] [] [] TT.val hA W TT.en.es.ei.em.ek.dom
  (λpm doc Q hQ=>bindPure (by kernel_rfl) hQ) (by kernel_rfl) (by kernel_rfl) (by trivial) (by simp) (by trivial) (by kernel_rfl) ?_ (hER hfr hR)
 rintro _ rfl h₁ t₁ _
 intro c l N Q QB H H0 F
 refine bindsL 0 H0 F ?_
 intro h2 t2 l F
 refine bindsL 1 H0 F ?_
 intro h2 t2 l F
 refine bindsL 2 H0 F ?_
 intro h2 t2 l F
 refine bindsNil ⟨h2,t2,_,_,rfl,F,?_⟩
 refine wpAny_mono (E:=RE c base outer "ValueError") ?_ (λ_ _ y=>y) λ_ _ y=>⟨rfl,y⟩
 obtain ⟨um,hum⟩:=TT.rp
 rcases Decidable.em (r<1) with q | q
 ·refine ifS F (b:=true) (EvT.cast (EvT.lt (.nm 1 H rfl) (.const (i:=1))) (decide_eq_true q)) (λh3' t3 F=>?_)
  refine raiseS exVE H F TT.ve ?_ rfl (Nat.le_refl _) rfl (by rw [H.kind];decide) st fr
  exact EvR.modI (.nm 1 H rfl) λ_ _ _ _ _ hq=>mod_r lr hq
 refine ifS F (b:=false) (EvT.cast (EvT.lt (.nm 1 H rfl) (.const (i:=1))) (decide_eq_false q)) (λh3' t3 F=>wpAny_execs_nil ?_)
 rcases Decidable.em (p<1) with q2 | q2
 ·refine ifS F (b:=true) (EvT.cast (EvT.lt (.nm 2 H rfl) (.const (i:=1))) (decide_eq_true q2)) (λh3' t3 F=>?_)
  refine raiseS exVE H F TT.ve ?_ rfl (Nat.le_refl _) rfl (by rw [H.kind];decide) st fr
  exact EvR.modI (.nm 2 H rfl) λ_ _ _ _ _ hq=>mod_p lp hq
 refine ifS F (b:=false) (EvT.cast (EvT.lt (.nm 2 H rfl) (.const (i:=1))) (decide_eq_false q2)) (λh3' t3 F=>wpAny_execs_nil ?_)
 rcases Decidable.em (1073741823<r*p) with q3 | q3
 ·refine ifS F (b:=true) (EvT.cast (EvT.gt (EvI.mul (.nm 1 H rfl) (.nm 2 H rfl) hm) (EvV.toI (.gl H hum))) (decide_eq_true q3)) (λh3' t3 F=>?_)
  refine raiseS exVE H F TT.ve ?_ rfl (Nat.le_refl _) rfl (by rw [H.kind];decide) st fr
  exact EvR.frr (.nm 1 H rfl) (.nm 2 H rfl) lr lp
 refine ifS F (b:=false) (EvT.cast (EvT.gt (EvI.mul (.nm 1 H rfl) (.nm 2 H rfl) hm) (EvV.toI (.gl H hum))) (decide_eq_false q3)) (λh3' t3 F=>wpAny_execs_nil ?_)
 refine ifS F (b:=true) (EvT.cast (EvT.or (EvT.lt (.nm 0 H rfl) (.const (i:=2))) (EvT.nz (EvI.and (.nm 0 H rfl) (EvI.sub (.nm 0 H rfl) (.const (i:=1)))))) ?_) (λh3' t3 F=>?_)
 ·have:n<2∨Builtin.bitAnd n (n - 1)≠0:=by
   rcases bad with b | b | b | b | b
   ·exact absurd b q
   ·exact absurd b q2
   ·exact absurd b q3
   ·exact .inl b
   ·exact .inr b
  simpa using this
 refine raiseS exVE H F TT.ve ?_ rfl (Nat.le_refl _) rfl (by rw [H.kind];decide) st fr
 exact EvR.modI (.nm 0 H rfl) λ_ _ _ _ _ hq=>mod_n ln hq
end
end
section
structure TE (K:Frag) (mg mb:Str→Option Value):Prop where
 tn:TN K mg mb
 ete:FnM K 49 "ExpectedTypeError" "ExpectedTypeError" (arOf (top 2)) (bdOf (top 2)) (scOf (top 2)) .none (.ref 48)
 ese:FnM K 56 "ExpectedStringError" "ExpectedStringError" (arOf (top 3)) (bdOf (top 3)) (scOf (top 3)) .none (.ref 55)
 eteG:mg "ExpectedTypeError"=some (.ref 49)
 eseG:mg "ExpectedStringError"=some (.ref 56)
noncomputable def FnE (prog:Program) (w:World) (K:Frag) (mg mb:Str→Option Value) (n:Nat) (f:Addr) (args:Args) (h:Heap) (X:String):Prop :=
 ∀A g d t o (R:Result→Shared→Prop),AOk n A→W0 K mg mb h→(∀e h' t',Heap.NewExc h h' e X→R (.ok (.ret (.ref e))) ⟨h',g,d,t',o⟩)→codeAny (model prog w) A (.call (.ref f) args) R ⟨h,g,d,t,o⟩
theorem NewExc.older {e:Addr} {X:String} (k:∀b o,h.get? b=some o→h1.get? b=some o) (x:Heap.NewExc h1 h' e X):Heap.NewExc h h' e X :=
 ⟨λb o q=>x.keeps b o (k b o q),by
  cases q:h.get? e with
  | none=>rfl
  | some o=>exact absurd (k _ _ q) (by rw [x.new];exact λz=>nomatch z),x.there⟩
section
theorem callM {Ps:List Value→HP} {nm:Str} {Q:VQ}
  (H:c.Ok n) (F:c.SS l N Φ h) (hv:c.mg x=some (.ref f)) (hf:FnM c.K f nm q params body scope dflt cd) (ha:EvRs c l N Φ pos es Ps)
  (hQ:∀vs h' t',c.SS l N (λh=>Φ h∧Ps vs h) h'→h.objs.size≤h'.objs.size→codeAny (model c.prog c.w) c.A (.call (.ref f) ⟨vs,[]⟩) (λr s'=>match r with | .ok (.ret v)=>Q v s' | .ok _=>False | .error e=>E e s') (c.st h' t'))
  (hl:Glo c.env x:=by rfl) (hd:ND x:=by decide)
  (hp:Plain pos es c.env:=by rfl)
  (he:CallIs x np es pos c.env:=by rfl) :
  c.wp (eval (.Call (.Name x np) es [] pos) c.env) Q E (c.st h t):=by
 obtain ⟨oc,od,os,pm,doc,hk⟩:=hf.fn
 refine PyProof.Rows.Call_ ?_ he
 refine Mine.gl H F hv ?_ hl hd
 refine callWith_fn (o:=_) (fd:=_) hp rfl (wpAny_with_size (Nat.le_refl _) (ha _ (λ_ y=>y) h t _ _ F λvs h1 t1 F1 hz=>⟨(H.W1 F1).k _ _ hk,?_⟩))
 exact wpAny_call (hQ vs h1 t1 F1 hz)
theorem EvR.run {P:VH} {Q:VQ} (x:EvR c l N Φ e P) (F:c.SS l N Φ h) (hQ:∀v h' t',c.SS l N (λh=>Φ h∧P v h) h'→Q v (c.st h' t')):c.wp (eval e c.env) Q E (c.st h t) :=
 x Φ (λ_ y=>y) h t Q E F hQ
theorem EvV.str:EvR c l N Φ (.Constant (.str x) k pos) (λv _=>∃u,v = .str x u):=λ_ _ h t _ _ F hQ =>
 Calls.Constant_str (k:=k) (pos:=pos) (hQ _ h (t+1) (F.weaken λ_ y=>⟨y,t,rfl⟩))
end
section
theorem ete_call (TT:TE K mg mb) {x:PySem.Str} (hx:x.length≤5000):FnE prog w K mg mb 2 49 ⟨[v,.str "unicode or bytes" u1,.str x u2],[]⟩ h "TypeError":=by
 intro A g d t o R hA W hR
 refine enterM0 (n:=1) (binds:=[("value",v),("expected",.str "unicode or bytes" u1),("param",.str x u2)]) ["value","expected","param"] [] [] [] TT.ete hA W TT.tn.en.es.ei.em.ek.dom
  (λpm doc=>by kernel_rfl) (by kernel_rfl) (by kernel_rfl) (by trivial) (by simp) (by trivial) (by kernel_rfl) ?_
 intro h₁ t₁
 intro c l N Q QB H H0 F
 refine bindsL 0 H0 F ?_
 intro h2 t2 l F
 refine bindsL 1 H0 F ?_
 intro h2 t2 l F
 refine bindsL 2 H0 F ?_
 intro h2 t2 l F
 refine bindsNil ⟨h2,t2,_,_,rfl,F,?_⟩
 refine wpAny_execs_cons (wpAny_Return_some (PyProof.Rows.Call_ (bl H F TT.tn.te.1 TT.tn.te.2 (PyProof.Rows.callWith_type1 ?_ (by rfl)) (by rfl) (by decide)) (by rfl)))
 refine spliced_cons (EvR.run (P:=λ_ _=>True) (c:=c) ?_ F (λv' h3 t3 F3=>spliced_nil ?_))
 ·exact EvR.fss (a:=x) (b:="unicode or bytes") (.nm 2 H rfl) (.nm 1 H rfl) hx (by decide)
 exact PyProof.Rows.call_exc exTE (λh' e hx=>hR e h' t3 (NewExc.older (F3.growth rfl (Nat.le_refl _)).2 hx)) (Nat.le_of_ble_eq_true rfl)
theorem ese_call (TT:TE K mg mb) {x:PySem.Str} (hx:x.length≤5000):FnE prog w K mg mb 3 56 ⟨[v,.str x u2],[]⟩ h "TypeError":=by
 intro A g d t o R hA W hR
 refine enterM0 (n:=2) (binds:=[("value",v),("param",.str x u2)]) ["value","param"] [] [] [] TT.ese hA W TT.tn.en.es.ei.em.ek.dom
  (λpm doc=>by kernel_rfl) (by kernel_rfl) (by kernel_rfl) (by trivial) (by simp) (by trivial) (by kernel_rfl) ?_
 intro h₁ t₁
 intro c l N Q QB H H0 F
 refine bindsL 0 H0 F ?_
 intro h2 t2 l F
 refine bindsL 1 H0 F ?_
 intro h2 t2 l F
 refine bindsNil ⟨h2,t2,_,_,rfl,F,?_⟩
 refine wpAny_execs_cons (wpAny_Return_some (callM H F TT.eteG TT.ete (.cons (EvV.toR (.nm 0 H rfl)) (.cons EvV.str (.cons (EvV.toR (.nm 1 H rfl)) .nil))) (λvs h3 t3 F3 _=>?_)))
 obtain ⟨_,_,rfl,rfl,_,_,rfl,⟨u1,rfl⟩,_,_,rfl,rfl,rfl⟩:=F3.phi.2
 exact ete_call TT hx _ _ _ _ _ _ (H.A.le (by decide)) (H.W1 F3) λe h' t' hx=>hR e h' t' (NewExc.older (F3.growth rfl (Nat.le_refl _)).2 hx)
end
end
section
section
theorem EvT.nstr {p:Pos} {y:PySem.Str} (he:EvV c l N Φ (.Name x p) (.str y u)) (hy:0<y.length) (hz:y.length≤5000):EvT c l N Φ (.Name x p) true:=λΦ' k h t Q E F hQ =>
 wpAny_isTrue_value (he _ k h t _ _ F λh1 t1 F1=>PySem.P.truthy_str (by have:y.length≤5000:=hz;lia) (by
  have:((y.length:Int) != 0)=true:=by simp;lia
  rw [this];exact hQ h1 _ F1))
theorem EvT.noneV {p:Pos} (he:EvV c l N Φ (.Name x p) .none):EvT c l N Φ (.Name x p) false:=.val he λ_ _ _ h=>(λ_ _ _=>h)
theorem EvT.andF (x1:EvT c l N Φ e1 false):EvT c l N Φ (.BoolOp .And [e1,e2] pos) false:=λ_ k h t _ _ F hQ =>
 wpAny_isTrue_BoolOp (wpAny_allTrue_And_cons (x1 _ k h t _ _ F λg1 t1 F1=>hQ g1 t1 F1))
theorem EvF.strK (x:PySem.Str):EvF c l N Φ (.Constant (.str x) k pos) (StrR x):=λ_ _ h t _ _ F hQ =>
 Calls.Constant_str (k:=k) (pos:=pos) (hQ _ h (t+1) F (Nat.le_refl _) λ_ _=>⟨t,rfl⟩)
theorem assertS {test:Expr} (H:c.Ok n) (F:c.SS l N Φ h) (x:EvT c l N Φ test true) (hQ:∀h' t',c.SS l N Φ h'→c.wp (execs rest c.env) Q E (c.st h' t')) :
  c.wp (execs (.Assert test .none pos::rest) c.env) Q E (c.st h t) :=
 wpAny_execs_cons (wpAny_Assert H.A.1 (x _ (λ_ y=>y) h t _ _ F λh1 t1 F1=>hQ h1 t1 F1))
end
section
set_option maxHeartbeats 1000000
theorem tob_bytes (TT:TE K mg mb) {y:Array UInt8} {x:PySem.Str}:FnG prog w K mg mb 3 71 ⟨[.bytes y u],[("param",.str x ux)]⟩ [] h (λv _=>v = .bytes y u):=by
 intro A g d t o R hA W hR
 obtain ⟨a,b,hd⟩:=TT.tn.tobd
 refine enterM (n:=2) (binds:=[("source",.bytes y u),("encoding",.str "utf-8" a),("param",.str x ux),("source_encoding",.none)]) (λh2=>h=h2) NoE ["source","encoding","param","source_encoding"] [] [] [] TT.tn.tob hA W TT.tn.en.es.ei.em.ek.dom
  (λpm doc Q hQ=>bind_tob (W.k _ _ hd) hQ) (by kernel_rfl) (by kernel_rfl) (by trivial) (by simp) (by trivial) (by kernel_rfl) ?_ noLeave
 rintro _ rfl h₁ t₁ _
 intro c l N Q QB H H0 F
 refine bindsL 0 H0 F ?_
 intro h2 t2 l F
 refine bindsL 1 H0 F ?_
 intro h2 t2 l F
 refine bindsL 2 H0 F ?_
 intro h2 t2 l F
 refine bindsL 3 H0 F ?_
 intro h2 t2 l F
 refine bindsNil ⟨h2,t2,_,_,rfl,F,?_⟩
 refine assertS H F (EvT.nstr (.nm 1 H rfl) (by decide) (by decide)) (λh3 t3 F=>?_)
 refine ifS F (b:=true) (EvT.isi H TT.tn.isi (.nm 0 H rfl) (.bl H TT.tn.bytes.1 TT.tn.bytes.2) kitx_bytes (λ_ _=>trivial) (by rfl) (λe=>nomatch e)) (λh4 t4 F=>?_)
 refine ifS F (b:=false) (EvT.andF (EvT.noneV (.nm 3 H rfl))) (λh5 t5 F=>?_)
 refine wpAny_execs_cons (wpAny_Return_some (ld H F (i:=0) rfl (hR _ h5 t5 (F.kept (Nat.le_refl _)) F.size rfl) (by rfl) (by decide)))
theorem tob_str (TT:TE K mg mb) {x:PySem.Str} (hs:∀x∈cs,Str.isSurrogate x=false) (hl:(encL cs).length≤100):FnG prog w K mg mb 3 71 ⟨[.str ⟨cs.toArray⟩ u],[("param",.str x ux)]⟩ [] h (λv _=>∃u,v = .bytes (encL cs).toArray u):=by
 intro A g d t o R hA W hR
 obtain ⟨a,b,hd⟩:=TT.tn.tobd
 refine enterM (n:=2) (binds:=[("source",.str ⟨cs.toArray⟩ u),("encoding",.str "utf-8" a),("param",.str x ux),("source_encoding",.none)]) (λh2=>h=h2) NoE ["source","encoding","param","source_encoding"] [] [] [] TT.tn.tob hA W TT.tn.en.es.ei.em.ek.dom
  (λpm doc Q hQ=>bind_tob (W.k _ _ hd) hQ) (by kernel_rfl) (by kernel_rfl) (by trivial) (by simp) (by trivial) (by kernel_rfl) ?_ noLeave
 rintro _ rfl h₁ t₁ _
 intro c l N Q QB H H0 F
 refine bindsL 0 H0 F ?_
 intro h2 t2 l F
 refine bindsL 1 H0 F ?_
 intro h2 t2 l F
 refine bindsL 2 H0 F ?_
 intro h2 t2 l F
 refine bindsL 3 H0 F ?_
 intro h2 t2 l F
 refine bindsNil ⟨h2,t2,_,_,rfl,F,?_⟩
 refine assertS H F (EvT.nstr (.nm 1 H rfl) (by decide) (by decide)) (λh3 t3 F=>?_)
 refine ifS F (b:=false) (EvT.isi H TT.tn.isi (.nm 0 H rfl) (.bl H TT.tn.bytes.1 TT.tn.bytes.2) kitx_str (λ_ _=>trivial) (by kernel_rfl) (λe=>nomatch e)) (λh4 t4 F=>?_)
 refine ifS F (b:=true) (EvT.isi H TT.tn.isi (.nm 0 H rfl) (.gl H TT.tn.uni) kitx_str (λ_ _=>trivial) (by rfl) (λe=>nomatch e)) (λh5 t5 F=>?_)
 refine retF F (EvF.ifexp (b:=true) (EvT.eqS (a:="utf-8") (b:="utf-8") (EvF.mono (EvV.toF (.nm 1 H rfl)) λv _ e=>⟨a,e⟩) (EvF.strK "utf-8")) (λ_=>EvF.encode (cs:=cs) (EvF.mono (EvV.toF (.nm 0 H rfl)) λv _ e=>⟨u,e⟩) hs hl) (λe=>nomatch e)) (λv h6 t6 F6 p6=>?_)
 exact hR _ h6 t6 (F6.kept (Nat.le_refl _)) F6.size p6.here
theorem tob_bad (TT:TE K mg mb) {tt:Value} {P:HP} {x:PySem.Str} (hx:x.length≤5000) (Z:KitX K v tt P) (hP:Stands h P) (e1:kitOne K tt (.type "bytes")=some false) (e2:kitOne K tt (.type "str")=some false) (hne:v≠.builtin "__main__.__loader__#opaque") :
  FnR prog w K mg mb 4 71 ⟨[v],[("param",.str x ux)]⟩ h "TypeError":=by
 intro A g d t o R base outer hA hfr st fr W hR
 obtain ⟨a,b,hd⟩:=TT.tn.tobd
 refine enterX (n:=3) (binds:=[("source",v),("encoding",.str "utf-8" a),("param",.str x ux),("source_encoding",.none)]) (λh2=>h=h2) (λh2 e s'=>h=h2∧RE (frameCxC prog w A g d o h2 [] K mg mb "to_bytes" (scOf (top 8)) 71 (.ref 70)) base outer "TypeError" e s') ["source","encoding","param","source_encoding"] [] [] [] TT.tn.tob hA W TT.tn.en.es.ei.em.ek.dom
  (λpm doc Q hQ=>bind_tob (W.k _ _ hd) hQ) (by kernel_rfl) (by kernel_rfl) (by trivial) (by simp) (by trivial) (by kernel_rfl) ?_ (hER hfr hR)
 rintro _ rfl h₁ t₁ _
 intro c l N Q QB H H0 F
 refine bindsL 0 H0 F ?_
 intro h2 t2 l F
 refine bindsL 1 H0 F ?_
 intro h2 t2 l F
 refine bindsL 2 H0 F ?_
 intro h2 t2 l F
 refine bindsL 3 H0 F ?_
 intro h2 t2 l F
 refine bindsNil ⟨h2,t2,_,_,rfl,F,?_⟩
 refine wpAny_mono (E:=RE c base outer "TypeError") ?_ (λ_ _ y=>y) λ_ _ y=>⟨rfl,y⟩
 have F:=(F.base hP (Nat.le_refl _)).weaken (Φ':=P) λ_ y=>y.2
 refine assertS H F (EvT.nstr (.nm 1 H rfl) (by decide) (by decide)) (λh3 t3 F=>?_)
 refine ifS F (b:=false) (EvT.isi H TT.tn.isi (.nm 0 H rfl) (.bl H TT.tn.bytes.1 TT.tn.bytes.2) Z (λ_ y=>y) e1 hne) (λh4 t4 F=>?_)
 refine ifS F (b:=false) (EvT.isi H TT.tn.isi (.nm 0 H rfl) (.gl H TT.tn.uni) Z (λ_ y=>y) e2 hne) (λh5 t5 F=>?_)
 refine wpAny_execs_cons (PyProof.Rows.Raise_new H.A.1 (callM H F TT.eseG TT.ese (.consV (.nm 0 H rfl) (.consV (.nm 2 H rfl) .nilU)) (λvs h6 t6 F6 _=>?_)))
 obtain ⟨_,rfl⟩:=F6.phi.2
 obtain ⟨a1,a2,a3⟩:=raiseAt rfl (Nat.le_refl _) F6 rfl (by rw [H.kind];decide) st fr
 exact ese_call TT hx _ _ _ _ _ _ H.A (H.W1 F6) λe h' t' hx=>PyProof.Rows.raisable_of_new exTE hx ⟨e,h',t',rfl,rfl,.inl ⟨h6,hx,a1,a2,a3⟩⟩
end
end
section
noncomputable def ScB (prog:Program) (w:World) (a b:Tok) (args sec:List Value):Prop :=
 ∀(A:Around) (h:Heap) (g:Array GenState) (d:Drawn) (t:Nat) (o:OsState) (pm doc:Value) (Q:List (Str×Value)→Shared→Prop),h.get? 178=some (tobj [.int 1 a,.int 32 b]) →
  (∀h2 t2,Grow h h2→h=h2→Q ((["secret","salt","n","r","pbkdf2_hmac","p","keylen"]:List Str).zip sec) ⟨h2,g,d,t2,o⟩) →
  wpAny (model prog w) A (bindArgs (mDef "scrypt" "scrypt" (arOf (top 19)) (bdOf (top 19)) (scOf (top 19)) (.ref 178) pm (.ref 184) doc) ⟨args,[]⟩) Q NoE ⟨h,g,d,t,o⟩
theorem ScB.five {a b:Tok} {v3 v4:Value}:ScB prog w a b [v1,v2,v3,v4,v5] [v1,v2,v3,v4,v5,.int 1 a,.int 32 b]:=λ_ _ _ _ _ _ _ _ _ hd hQ=>bindD hd rfl (by rfl) (by kernel_rfl) hQ
theorem ScB.six {a b:Tok} {v3 v4 v6:Value}:ScB prog w a b [v1,v2,v3,v4,v5,v6] [v1,v2,v3,v4,v5,v6,.int 32 b]:=λ_ _ _ _ _ _ _ _ _ hd hQ=>bindD hd rfl (by rfl) (by kernel_rfl) hQ
theorem ScB.seven {a b:Tok} {v3 v4 v6:Value}:ScB prog w a b [v1,v2,v3,v4,v5,v6,v7] [v1,v2,v3,v4,v5,v6,v7]:=λ_ _ _ _ _ _ _ _ _ hd hQ=>bindD hd rfl (by rfl) (by kernel_rfl) hQ
section
variable {Q:VQ}
theorem callTob {y:PySem.Str} {k3p:Pos} (TT:TN c.K c.mg c.mb) (H:c.Ok n) (F:c.SS l N Φ h) (he:EvV c l N Φ (.Name x xp) v)
  (hQ:∀h' t' u,c.SS l N Φ h'→h.objs.size≤h'.objs.size→codeAny (model c.prog c.w) c.A (.call (.ref 71) ⟨[v],[("param",.str y u)]⟩) (λr s'=>match r with | .ok (.ret v)=>Q v s' | .ok _=>False | .error e=>E e s') (c.st h' t'))
  (kx:Glo c.env "to_bytes":=by rfl)
  (s1:Unst (.Name x xp) [] c.env:=by rfl)
  (hall:(backToKw pos (keywordEach [⟨some "param",.Constant (.str y) k kp,k3p⟩] c.env)).all (·.1.isSome)=true:=by rfl)
  (hev:eval (.Call (.Name "to_bytes" np) [.Name x xp] [⟨some "param",.Constant (.str y) k kp,k3p⟩] pos) c.env=(do callWith pos (←eval (.Name "to_bytes" np) c.env) [] (backTo pos (starEach [.Name x xp] c.env)) (backToKw pos (keywordEach [⟨some "param",.Constant (.str y) k kp,k3p⟩] c.env))):=by rfl) :
  c.wp (eval (.Call (.Name "to_bytes" np) [.Name x xp] [⟨some "param",.Constant (.str y) k kp,k3p⟩] pos) c.env) Q E (c.st h t):=by
 obtain ⟨oc,od,os,pm,doc,hk⟩:=TT.tob.fn
 rw [hev]
 refine wpAny_bind (gl H F TT.tobG ?_ kx (by decide))
 refine callWith_function_kw (o:=⟨oc,od,.func (mDef "to_bytes" "to_bytes" (arOf (top 8)) (bdOf (top 8)) (scOf (top 8)) (.ref 64) pm (.ref 70) doc),os⟩) (fd:=mDef "to_bytes" "to_bytes" (arOf (top 8)) (bdOf (top 8)) (scOf (top 8)) (.ref 64) pm (.ref 70) doc) (PyProof.Rows.evalArgs_kw2 hall ?_ s1)
 rw [s1]
 refine spliced_cons (wpAny_with_size (Nat.le_refl _) (he _ (λ_ y=>y) h t _ _ F λh1 t1 F1 hz=>spliced_nil ?_))
 refine PyProof.Rows.kwAll_cons (Calls.Constant_str (k:=k) (pos:=kp) (PyProof.Rows.kwAll_nil ?_))
 refine ⟨⟨(H.W1 F1).k _ _ hk,rfl⟩,?_⟩
 exact wpAny_call (hQ h1 _ t1 F1 hz)
end
end
section
structure TS (K:Frag) (mg mb:Str→Option Value):Prop where
 te:TE K mg mb
 lk:LK K mg mb
 runF:findIn K (.ref 166) "run"=some (some (.ref 142))
noncomputable def TobV (prog:Program) (w:World) (K:Frag) (mg mb:Str→Option Value) (v:Value) (b:List UInt8):Prop:=∀x ux h,FnG prog w K mg mb 3 71 ⟨[v],[("param",.str x ux)]⟩ [] h (λv' _=>∃u,v' = .bytes b.toArray u)
section
theorem TobV.bytes (TT:TE K mg mb):TobV prog w K mg mb (.bytes b.toArray u) b:=λx ux h A g d t o R hA W hR =>
 tob_bytes TT A g d t o R hA W λv h' t' k z e=>hR v h' t' k z ⟨u,e⟩
theorem TobV.str (TT:TE K mg mb) (hs:∀x∈cs,Str.isSurrogate x=false) (hl:(encL cs).length≤100):TobV prog w K mg mb (.str ⟨cs.toArray⟩ u) (encL cs):=λx ux h=>tob_str TT hs hl
theorem asTob {y:PySem.Str} {tp k3p:Pos} (i:Nat) (TT:TN c.K c.mg c.mb) (H:c.Ok n) (hn:3≤n) (F:c.SS l N Φ h)
  (hi:l[i]?=some (x,some v)) (hv:TobV c.prog c.w c.K c.mg c.mb v b) (hQ:∀u h' t',let l':=l.set i (x,some (.bytes b.toArray u));c.SS l' N Φ h'→c.wp (execs rest c.env) Q E (c.st h' t'))
  (hl:Loc c.env x:=by rfl) (hx:ND x:=by decide)
  (kx:Glo c.env "to_bytes":=by rfl)
  (s1:Unst (.Name x xp) [] c.env:=by rfl)
  (hall:(backToKw cp (keywordEach [⟨some "param",.Constant (.str y) k kp,k3p⟩] c.env)).all (·.1.isSome)=true:=by rfl)
  (hev:eval (.Call (.Name "to_bytes" np) [.Name x xp] [⟨some "param",.Constant (.str y) k kp,k3p⟩] cp) c.env=(do callWith cp (←eval (.Name "to_bytes" np) c.env) [] (backTo cp (starEach [.Name x xp] c.env)) (backToKw cp (keywordEach [⟨some "param",.Constant (.str y) k kp,k3p⟩] c.env))):=by rfl)
  (hs:Swp (.Call (.Name "to_bytes" np) [.Name x xp] [⟨some "param",.Constant (.str y) k kp,k3p⟩] cp) x tp pos c.env:=by rfl) :
  c.wp (execs (.Assign [.Name x tp] (.Call (.Name "to_bytes" np) [.Name x xp] [⟨some "param",.Constant (.str y) k kp,k3p⟩] cp) pos::rest) c.env) Q E (c.st h t) :=
 wpAny_execs_cons (wpAny_Assign_Name (callTob TT H F (.nm i H hi hl hx) (λh1 t1 u F1 _=>hv y u h1 _ _ _ _ _ _ (H.A.le hn) (H.W1 F1) λv' h2 t2 k2 z2 hp=>by
  obtain ⟨u',rfl⟩:=hp
  exact stn H (F1.grow z2 λb o e=>k2 b o (by simp) e) hi (λh3 F3=>hQ u' h3 _ F3) hl) kx s1 hall hev) hs)
end
end
section
section
noncomputable abbrev scNs:List Str:=["secret","salt","n","r","pbkdf2_hmac","p","keylen"]
theorem exprS
  (h1:c.wp (eval e c.env) (λv s'=>match v with | .ref _=>False | _=>c.wp (execs rest c.env) Q E s') E (c.st h t)) (hi:interactive c.env=false:=by rfl) (hs:swapsWith e none pos.line c.env=pure false:=by rfl) :
  c.wp (execs (.Expr e pos::rest) c.env) Q E (c.st h t):=wpAny_execs_cons (wpAny_Expr h1 hi hs)
theorem run_expr {Q:VQ} (TT:TS c.K c.mg c.mb) (H:c.Ok m) (hm:22≤m) (F:c.SS l N Φ h)
  {x1 x2 x3 x4 x5 x6 x7:Pos} (hr:r=1∨r=2) (hp:p=1∨p=2) (hn1:1≤n) (hn2:n≤1000) (hk:keylen≤1000) (hl1:s1.length≤1000) (hl2:s2.length≤1000)
  (hl:l=scNs.zip [some (.bytes s1.toArray u1),some (.bytes s2.toArray u2),some (.int (n:Int) un),some (.int (r:Int) ur),some (.ref 199),some (.int (p:Int) up),some (.int (keylen:Int) uk)])
  (hT:Tabs3 h) (hT4:∃ps4,h.get? 137=some (tabObj ps4)∧TriplesOk ps4.toList)
  (hQ:∀v h1 h' g' t',c.SS l N Φ h1→(∀b o,b∉([137,144,151,158]:List Addr)→h1.get? b=some o→h'.get? b=some o)→h1.objs.size≤h'.objs.size→GensOk c.g g'→(∃t',v = .bytes (wrun s1 s2 n r p keylen).toArray t')∧TabsEnd h'→Q v ⟨h',g',c.d,t',c.o⟩)
  (k1:Glo c.env "ScryptEngine") (k2:∀x∈scNs,Loc c.env x)
  (e1:Unst (.Name "n" x1) [.Name "r" x2,.Name "p" x3] c.env)
  (e2:Unst (.Name "r" x2) [.Name "p" x3] c.env)
  (e3:Unst (.Name "p" x3) [] c.env)
  (hp1:Plain cp [.Name "r" x2,.Name "p" x3] c.env)
  (f1:Unst (.Name "secret" x4) [.Name "salt" x5,.Name "keylen" x6,.Name "pbkdf2_hmac" x7] c.env)
  (f2:Unst (.Name "salt" x5) [.Name "keylen" x6,.Name "pbkdf2_hmac" x7] c.env)
  (f3:Unst (.Name "keylen" x6) [.Name "pbkdf2_hmac" x7] c.env)
  (f4:Unst (.Name "pbkdf2_hmac" x7) [] c.env)
  (hp2:Plain pos [.Name "secret" x4,.Name "salt" x5,.Name "keylen" x6,.Name "pbkdf2_hmac" x7] c.env)
  (hc:CallIs "ScryptEngine" np [.Name "n" x1,.Name "r" x2,.Name "p" x3] cp c.env)
  (hev:eval (.Call (.Attribute (.Call (.Name "ScryptEngine" np) [.Name "n" x1,.Name "r" x2,.Name "p" x3] [] cp) "run" ap) [.Name "secret" x4,.Name "salt" x5,.Name "keylen" x6,.Name "pbkdf2_hmac" x7] [] pos) c.env=(do
   let ov←eval (.Call (.Name "ScryptEngine" np) [.Name "n" x1,.Name "r" x2,.Name "p" x3] [] cp) c.env
   standAt ap.atName
   let (f,first)←holding [ov] (getMethod ov "run" pl)
   callWith pos f first (backTo pos (starEach [.Name "secret" x4,.Name "salt" x5,.Name "keylen" x6,.Name "pbkdf2_hmac" x7] c.env)) [])) :
  c.wp (eval (.Call (.Attribute (.Call (.Name "ScryptEngine" np) [.Name "n" x1,.Name "r" x2,.Name "p" x3] [] cp) "run" ap) [.Name "secret" x4,.Name "salt" x5,.Name "keylen" x6,.Name "pbkdf2_hmac" x7] [] pos) c.env) Q E (c.st h t):=by
 subst hl
 have ENN:=TT.te.tn.en
 have kk:∀x∈scNs,ND x:=by decide
 refine PyProof.Rows.MethodCall_ (PyProof.Rows.Call_ (gl H F ENN.eng (callWith_K (H.W1 F).k ENN.keep ?_ e1 hp1) k1 (by decide)) hc) hev
 rw [e1]
 refine spliced_cons (ld H F (i:=2) rfl ?_ (k2 _ (by simp [scNs])) (kk _ (by simp [scNs])))
 rw [e2]
 refine spliced_cons (ld H F (i:=3) rfl ?_ (k2 _ (by simp [scNs])) (kk _ (by simp [scNs])))
 rw [e3]
 refine spliced_cons (ld H F (i:=5) rfl (spliced_nil ?_) (k2 _ (by simp [scNs])) (kk _ (by simp [scNs])))
 refine ⟨(H.W1 F).k,eng_make ENN hr hp hn1 hn2 (H.A.le (Nat.le_trans (by decide) hm)) (H.W1 F) (λsf dx st ig tp dg bm od h1 t1 q1 hE G=>?_)⟩
 have F1:=F.grown G
 have I1:InstAt h1 sf (instObj 166 dx) 166 (some od):=⟨hE.e0,rfl,rfl,hE.e1⟩
 refine method_fn (s:=c.st h1 t1) (od:=some od) (H.W1 F1).k I1 ENN.es.ei.em.ga ENN.es.ei.em.gattr TT.runF (ENN.es.ei.em.meth ("run",142) (by trivial)).2 (by show (lookIn "run" od).map _=_;rw [hE.mt "run" (by trivial)];rfl) ?_
 obtain ⟨oc,od',os,pm,doc,hkk⟩:=ENN.es.ei.em.run.fn
 refine callWith_function (o:=⟨oc,od',.func (mDef "run" "ScryptEngine.run" (arOf (sub 14 10)) (bdOf (sub 14 10)) (scOf (sub 14 10)) .none pm (.ref 141) doc),os⟩) (fd:=mDef "run" "ScryptEngine.run" (arOf (sub 14 10)) (bdOf (sub 14 10)) (scOf (sub 14 10)) .none pm (.ref 141) doc) (evalArgs_all hp2 ?_)
 rw [f1]
 refine spliced_cons (ld H F1 (i:=0) rfl ?_ (k2 _ (by simp [scNs])) (kk _ (by simp [scNs])))
 rw [f2]
 refine spliced_cons (ld H F1 (i:=1) rfl ?_ (k2 _ (by simp [scNs])) (kk _ (by simp [scNs])))
 rw [f3]
 refine spliced_cons (ld H F1 (i:=6) rfl ?_ (k2 _ (by simp [scNs])) (kk _ (by simp [scNs])))
 rw [f4]
 refine spliced_cons (ld H F1 (i:=4) rfl (spliced_nil ?_) (k2 _ (by simp [scNs])) (kk _ (by simp [scNs])))
 refine ⟨⟨(H.W1 F1).k _ _ hkk,rfl⟩,?_⟩
 obtain ⟨ps4,e4,ht4⟩:=hT4
 refine wpAny_call (run_call ENN.es TT.lk hr hp hn1 hn2 hE hl1 hl2 hk (hT.kept' (λP _ o=>G.2 P o) λc' _ o=>G.2 c' o) ⟨ps4,G.2 _ _ e4,ht4⟩ c.A c.d t1 c.o _ (H.A.le hm) (H.W1 F1) (λv h' g' t' k z gg hp'=>?_))
 exact hQ v h1 h' g' t' F1 k z gg hp'
set_option maxHeartbeats 1000000
theorem scrypt_ok (TT:TS K mg mb) {a b:Tok} (hd:K.lookup 178=some (tobj [.int 1 a,.int 32 b])) {args:List Value}
  (hb:ScB prog w a b args [v1,v2,.int (n:Int) un,.int (r:Int) ur,.ref 199,.int (p:Int) up,.int (keylen:Int) uk]) (tb1:TobV prog w K mg mb v1 s1) (tb2:TobV prog w K mg mb v2 s2)
  (hr:r=1∨r=2) (hp:p=1∨p=2) (hn:n=2∨n=4) (hk1:1≤keylen) (hk:keylen≤1000) (hl1:s1.length≤1000) (hl2:s2.length≤1000) (hT:Tabs3 h) (hT4:∃ps4,h.get? 137=some (tabObj ps4)∧TriplesOk ps4.toList) :
  FnX prog w K mg mb 23 185 ⟨args,[]⟩ [137,144,151,158] h g (λv h'=>(∃t',v = .bytes (wrun s1 s2 n r p keylen).toArray t')∧TabsEnd h'):=by
 intro A d t o R hA W hR
 have TN:=TT.te.tn
 refine enterM (n:=22) (binds:=scNs.zip [v1,v2,.int (n:Int) un,.int (r:Int) ur,.ref 199,.int (p:Int) up,.int (keylen:Int) uk]) (λh2=>h=h2) NoE scNs [] [] [] TN.scr hA W TN.en.es.ei.em.ek.dom
  (λpm doc Q hQ=>hb _ _ _ _ _ _ _ _ _ (W.k _ _ hd) hQ) (by kernel_rfl) (by kernel_rfl) (by trivial) (by simp) (by trivial) (by kernel_rfl) ?_ noLeave
 rintro _ rfl h₁ t₁ _
 intro c l N Q QB H H0 F
 refine bindsL 0 H0 F ?_
 intro h2 t2 l F
 refine bindsL 1 H0 F ?_
 intro h2 t2 l F
 refine bindsL 2 H0 F ?_
 intro h2 t2 l F
 refine bindsL 3 H0 F ?_
 intro h2 t2 l F
 refine bindsL 4 H0 F ?_
 intro h2 t2 l F
 refine bindsL 5 H0 F ?_
 intro h2 t2 l F
 refine bindsL 6 H0 F ?_
 intro h2 t2 l F
 refine bindsNil ⟨h2,t2,_,_,rfl,F,?_⟩
 refine exprS (callM H F TN.valG TN.val (.consV (.nm 2 H rfl) (.consV (.nm 3 H rfl) (.consV (.nm 5 H rfl) .nilU))) (λvs h3 t3 F3 _=>?_))
 obtain ⟨_,rfl⟩:=F3.phi.2
 refine validate_ok TN ?_ ?_ ?_ (.of_left (by exact or2 hr (by decide) (by decide))) ?_ ?_ _ _ _ _ _ _ (H.A.le (by decide)) (H.W1 F3) (λv h4 t4 k4 z4 e4=>?_)
 ·exact or2 hr (by decide) (by decide)
 ·exact or2 hp (by decide) (by decide)
 ·exact or2 hr (or2 hp (by decide) (by decide)) (or2 hp (by decide) (by decide))
 ·exact or2 hn (by decide) (by decide)
 ·exact or2 hn (by decide) (by decide)
 subst e4
 have F4:=(F3.weaken (Φ':=λ_=>True) λ_ _=>trivial).grow z4 λb o e=>k4 b o (by simp) e
 refine asTob 0 TN H (by decide) F4 rfl tb1 ?_
 intro u1 h5 t5 l F5
 refine asTob 1 TN H (by decide) F5 rfl tb2 ?_
 intro u2 h6 t6 l F6
 refine ifS F6 (b:=false) (EvT.cast (EvT.lt (.nm 6 H rfl) (.const (i:=1))) (by rw [decide_eq_false_iff_not];lia)) (λh7 t7 F7=>wpAny_execs_nil ?_)
 obtain ⟨um,hum⟩:=TN.kl
 refine ifS F7 (b:=false) (EvT.cast (EvT.gt (.nm 6 H rfl) (EvV.toI (.gl H hum))) (by rw [decide_eq_false_iff_not];lia)) (λh8 t8 F8=>wpAny_execs_nil ?_)
 have G8:∀b o,h.get? b=some o→h8.get? b=some o:=λb o e=>F8.kept (Nat.le_refl _) b o (λq=>nomatch q) e
 refine wpAny_execs_cons (wpAny_Return_some (run_expr (u1:=u1) (u2:=u2) (un:=un) (ur:=ur) (up:=up) (uk:=uk) TT H (Nat.le_refl _) F8 hr hp (by lia) (by lia) hk hl1 hl2 rfl (hT.kept' (λP _ o=>G8 P o) λc' _ o=>G8 c' o) (hT4.imp λps q=>⟨G8 _ _ q.1,q.2⟩)
  (λv h9 h' g' t' F9 k z gg hp'=>hR v h' g' t' (λb o hb e=>k b o hb (F9.kept (Nat.le_refl _) b o (λq=>nomatch q) e)) (Nat.le_trans F9.size z) gg hp') (by rfl) (λx hx=>(by decide +kernel:∀x∈scNs,(scOf (top 19)).names.lookup x=some NameKind.local) x hx) (by rfl) (by rfl) (by rfl) (by rfl) (by rfl) (by rfl) (by rfl) (by rfl) (by rfl) (by rfl) (by rfl)))
end
end
section
section
variable {base:Heap} {outer:List Env}
theorem flyCall {X:String} {args:Args} {Q:VQ} (x:FnR c.prog c.w c.K c.mg c.mb m f args h X) (hm:m≤n) (H:c.Ok n) (F:c.SS l N Φ h) (hS:c.S=[]) (hL:c.h₀.objs.size≤c.L) (hf:c.env.frame=some c.L)
  (hfr:c.A.frames=some (c.env::outer)) (st:base.StaysIn c.h₀) (fr:c.h₀.FunFrames base outer) :
  codeAny (model c.prog c.w) c.A (.call (.ref f) args) (λr s'=>match r with | .ok (.ret v)=>Q v s' | .ok _=>False | .error e=>RE c base outer X e s') (c.st h t):=by
 obtain ⟨a1,a2,a3⟩:=raiseAt hS hL F hf (by rw [H.kind];decide) st fr
 exact x c.A c.g c.d t c.o _ base (c.env::outer) (H.A.le hm) hfr a1 a2 (H.W1 F) λe h' t' y z=>⟨e,h',t',rfl,rfl,.inr ⟨y,a3.trans z⟩⟩
end
noncomputable def TobX (prog:Program) (w:World) (K:Frag) (mg mb:Str→Option Value) (v:Value) (h:Heap):Prop:=∀h',Grow h h'→∀(x:PySem.Str) ux,x.length≤5000→FnR prog w K mg mb 4 71 ⟨[v],[("param",.str x ux)]⟩ h' "TypeError"
section
set_option maxHeartbeats 1000000
theorem scrypt_badV (TT:TS K mg mb) {a b:Tok} (hd:K.lookup 178=some (tobj [.int 1 a,.int 32 b])) {args:List Value} {n r p:Int}
  (hb:ScB prog w a b args [v1,v2,.int n un,.int r ur,v5,.int p up,v7]) (ln:n.natAbs.log2<1920) (lr:r.natAbs.log2<1920) (lp:p.natAbs.log2<1920) (hm:IntMulOk r p) (bad:r<1∨p<1∨1073741823<r*p∨n<2∨Builtin.bitAnd n (n - 1)≠0) :
  FnR prog w K mg mb 6 185 ⟨args,[]⟩ h "ValueError":=by
 intro A g d t o R base outer hA hfr st fr W hR
 have TN:=TT.te.tn
 refine enterX (n:=5) (binds:=scNs.zip [v1,v2,.int n un,.int r ur,v5,.int p up,v7]) (λh2=>h=h2) (λh2 e s'=>h=h2∧RE (frameCxC prog w A g d o h2 [] K mg mb "scrypt" (scOf (top 19)) 185 (.ref 184)) base outer "ValueError" e s') scNs [] [] [] TN.scr hA W TN.en.es.ei.em.ek.dom
  (λpm doc Q hQ=>hb _ _ _ _ _ _ _ _ _ (W.k _ _ hd) hQ) (by kernel_rfl) (by kernel_rfl) (by trivial) (by simp) (by trivial) (by kernel_rfl) ?_ (hER hfr hR)
 rintro _ rfl h₁ t₁ _
 intro c l N Q QB H H0 F
 refine bindsL 0 H0 F ?_
 intro h2 t2 l F
 refine bindsL 1 H0 F ?_
 intro h2 t2 l F
 refine bindsL 2 H0 F ?_
 intro h2 t2 l F
 refine bindsL 3 H0 F ?_
 intro h2 t2 l F
 refine bindsL 4 H0 F ?_
 intro h2 t2 l F
 refine bindsL 5 H0 F ?_
 intro h2 t2 l F
 refine bindsL 6 H0 F ?_
 intro h2 t2 l F
 refine bindsNil ⟨h2,t2,_,_,rfl,F,?_⟩
 refine wpAny_mono (E:=RE c base outer "ValueError") ?_ (λ_ _ y=>y) λ_ _ y=>⟨rfl,y⟩
 refine exprS (callM H F TN.valG TN.val (.consV (.nm 2 H rfl) (.consV (.nm 3 H rfl) (.consV (.nm 5 H rfl) .nilU))) (λvs h3 t3 F3 _=>?_))
 obtain ⟨_,rfl⟩:=F3.phi.2
 exact flyCall (c:=c) (validate_bad TN ln lr lp hm bad) (by decide) H F3 rfl (Nat.le_refl _) rfl (Around.frames_deeper hfr) st fr
theorem scrypt_past (TT:TS K mg mb) {a b:Tok} (hd:K.lookup 178=some (tobj [.int 1 a,.int 32 b])) {args:List Value} {X:String}
  (hb:ScB prog w a b args [v1,v2,.int 2 un,.int 1 ur,v5,.int 1 up,v7])
  (hrest:∀A g d o base outer h1 t1 (Q:Flow→Shared→Prop),AOk 6 A→A.frames=some outer→base.StaysIn h→h.FunFrames base outer→(frameCxC prog w A g d o h [] K mg mb "scrypt" (scOf (top 19)) 185 (.ref 184)).Ok 5 →
   (frameCxC prog w A g d o h [] K mg mb "scrypt" (scOf (top 19)) 185 (.ref 184)).SS (scNs.zip [some v1,some v2,some (.int 2 un),some (.int 1 ur),some v5,some (.int 1 up),some v7]) [] (λ_=>True) h1 →
   (frameCxC prog w A g d o h [] K mg mb "scrypt" (scOf (top 19)) 185 (.ref 184)).wp (execs ((bdOf (top 19)).drop 1) (frameCxC prog w A g d o h [] K mg mb "scrypt" (scOf (top 19)) 185 (.ref 184)).env) Q
    (RE (frameCxC prog w A g d o h [] K mg mb "scrypt" (scOf (top 19)) 185 (.ref 184)) base outer X) ((frameCxC prog w A g d o h [] K mg mb "scrypt" (scOf (top 19)) 185 (.ref 184)).st h1 t1)) :
  FnR prog w K mg mb 6 185 ⟨args,[]⟩ h X:=by
 intro A g d t o R base outer hA hfr st fr W hR
 have TN:=TT.te.tn
 refine enterX (n:=5) (binds:=scNs.zip [v1,v2,.int 2 un,.int 1 ur,v5,.int 1 up,v7]) (λh2=>h=h2) (λh2 e s'=>h=h2∧RE (frameCxC prog w A g d o h2 [] K mg mb "scrypt" (scOf (top 19)) 185 (.ref 184)) base outer X e s') scNs [] [] [] TN.scr hA W TN.en.es.ei.em.ek.dom
  (λpm doc Q hQ=>hb _ _ _ _ _ _ _ _ _ (W.k _ _ hd) hQ) (by kernel_rfl) (by kernel_rfl) (by trivial) (by simp) (by trivial) (by kernel_rfl) ?_ (hER hfr hR)
 rintro _ rfl h₁ t₁ _
 intro c l N Q QB H H0 F
 refine bindsL 0 H0 F ?_
 intro h2 t2 l F
 refine bindsL 1 H0 F ?_
 intro h2 t2 l F
 refine bindsL 2 H0 F ?_
 intro h2 t2 l F
 refine bindsL 3 H0 F ?_
 intro h2 t2 l F
 refine bindsL 4 H0 F ?_
 intro h2 t2 l F
 refine bindsL 5 H0 F ?_
 intro h2 t2 l F
 refine bindsL 6 H0 F ?_
 intro h2 t2 l F
 refine bindsNil ⟨h2,t2,_,_,rfl,F,?_⟩
 refine wpAny_mono (E:=RE c base outer X) ?_ (λ_ _ y=>y) λ_ _ y=>⟨rfl,y⟩
 refine exprS (callM H F TN.valG TN.val (.consV (.nm 2 H rfl) (.consV (.nm 3 H rfl) (.consV (.nm 5 H rfl) .nilU))) (λvs h3 t3 F3 _=>?_))
 obtain ⟨_,rfl⟩:=F3.phi.2
 refine validate_ok TN (by decide) (by decide) (by decide) (.of_left (by decide)) (by decide) (by decide) _ _ _ _ _ _ (H.A.le (by decide)) (H.W1 F3) (λv h4 t4 k4 z4 e4=>?_)
 subst e4
 exact hrest A g d o base outer h4 t4 _ hA hfr st fr H ((F3.weaken (Φ':=λ_=>True) λ_ _=>trivial).grow z4 λb o e=>k4 b o (by simp) e)
theorem scrypt_bad1 (TT:TS K mg mb) {a b:Tok} (hd:K.lookup 178=some (tobj [.int 1 a,.int 32 b])) {args:List Value}
  (hb:ScB prog w a b args [v1,v2,.int 2 un,.int 1 ur,v5,.int 1 up,v7]) (x1:TobX prog w K mg mb v1 h):FnR prog w K mg mb 6 185 ⟨args,[]⟩ h "TypeError":=by
 refine scrypt_past TT hd hb (λA g d o base outer h1 t1 Q hA hfr st fr H F=>?_)
 refine wpAny_execs_cons (wpAny_Assign_Name (callTob (v:=v1) TT.te.tn H F (.nm 0 H rfl) (λh2 t2 u F2 _=>?_)) (by rfl))
 exact flyCall (c:=frameCxC prog w A g d o h [] K mg mb "scrypt" (scOf (top 19)) 185 (.ref 184)) (x1 h2 (F2.growth rfl (Nat.le_refl _)) _ u (by decide)) (by decide) H F2 rfl (Nat.le_refl _) rfl (Around.frames_deeper hfr) st fr
theorem scrypt_bad2 (TT:TS K mg mb) {a b:Tok} (hd:K.lookup 178=some (tobj [.int 1 a,.int 32 b])) {args:List Value}
  (hb:ScB prog w a b args [v1,v2,.int 2 un,.int 1 ur,v5,.int 1 up,v7]) (tb1:TobV prog w K mg mb v1 b1) (x2:TobX prog w K mg mb v2 h):FnR prog w K mg mb 6 185 ⟨args,[]⟩ h "TypeError":=by
 refine scrypt_past TT hd hb (λA g d o base outer h1 t1 Q hA hfr st fr H F=>?_)
 refine asTob 0 TT.te.tn H (by decide) F rfl tb1 ?_
 intro u1 h2 t2 l F2
 refine wpAny_execs_cons (wpAny_Assign_Name (callTob (v:=v2) TT.te.tn H F2 (.nm 1 H rfl) (λh3 t3 u F3 _=>?_)) (by rfl))
 exact flyCall (c:=frameCxC prog w A g d o h [] K mg mb "scrypt" (scOf (top 19)) 185 (.ref 184)) (x2 h3 (F3.growth rfl (Nat.le_refl _)) _ u (by decide)) (by decide) H F3 rfl (Nat.le_refl _) rfl (Around.frames_deeper hfr) st fr
theorem scrypt_badK (TT:TS K mg mb) {a b:Tok} (hd:K.lookup 178=some (tobj [.int 1 a,.int 32 b])) {args:List Value} {b2:List UInt8} {k:Int}
  (hb:ScB prog w a b args [v1,v2,.int 2 un,.int 1 ur,v5,.int 1 up,.int k uk]) (tb1:TobV prog w K mg mb v1 b1) (tb2:TobV prog w K mg mb v2 b2) (bad:k<1∨137438953440<k):FnR prog w K mg mb 6 185 ⟨args,[]⟩ h "ValueError":=by
 refine scrypt_past TT hd hb (λA g d o base outer h1 t1 Q hA hfr st fr H F=>?_)
 refine asTob 0 TT.te.tn H (by decide) F rfl tb1 ?_
 intro u1 h2 t2 l F2
 refine asTob 1 TT.te.tn H (by decide) F2 rfl tb2 ?_
 intro u2 h3 t3 l F3
 rcases Decidable.em (k<1) with q | q
 ·refine ifS F3 (b:=true) (EvT.cast (EvT.lt (.nm 6 H rfl) (.const (i:=1))) (decide_eq_true q)) (λh4 t4 F4=>?_)
  refine raiseS exVE H F4 TT.te.tn.ve ?_ rfl (Nat.le_refl _) rfl (by rw [H.kind];decide) st fr
  exact EvR.mono EvV.str λ_ _ _=>trivial
 refine ifS F3 (b:=false) (EvT.cast (EvT.lt (.nm 6 H rfl) (.const (i:=1))) (decide_eq_false q)) (λh4 t4 F4=>wpAny_execs_nil ?_)
 obtain ⟨um,hum⟩:=TT.te.tn.kl
 refine ifS F4 (b:=true) (EvT.cast (EvT.gt (.nm 6 H rfl) (EvV.toI (.gl H hum))) (decide_eq_true (bad.resolve_left q))) (λh5 t5 F5=>?_)
 refine raiseS exVE H F5 TT.te.tn.ve ?_ rfl (Nat.le_refl _) rfl (by rw [H.kind];decide) st fr
 exact EvR.modI (EvV.toI (.gl H hum)) λ_ _ _ _ _ hq=>mod_k hq
end
end
section
theorem np2 (k:Nat) (hm:0<m):((2*m+1)*2 ^ k) &&& ((2*m+1)*2 ^ k - 1)≠0:=by
 obtain ⟨i,hi⟩:=Nat.exists_testBit_of_ne_zero (Nat.pos_iff_ne_zero.mp hm)
 intro e
 have h1:((2*m+1)*2 ^ k).testBit (i+1+k)=true:=by
  rw [Nat.testBit_mul_two_pow]
  simp only [Nat.le_add_left,decide_true,Bool.true_and,Nat.add_sub_cancel]
  rw [Nat.testBit_add_one]
  have:(2*m+1) / 2=m:=Nat.mul_add_div (by decide) m 1
  rw [this];exact hi
 have h2:((2*m+1)*2 ^ k - 1).testBit (i+1+k)=true:=by
  have hp:0<2 ^ k:=Nat.two_pow_pos k
  have e1:(2*m+1)*2 ^ k - 1=2*m*2 ^ k+(2 ^ k - 1):=by rw [Nat.add_mul,Nat.one_mul,Nat.add_sub_assoc hp]
  have e2:((2*m+1)*2 ^ k - 1) / 2 ^ k=2*m:=by
   rw [e1,Nat.mul_comm (2*m),Nat.mul_add_div hp,Nat.div_eq_of_lt (by trivial),Nat.add_zero]
  rw [←Nat.testBit_div_two_pow,e2,Nat.testBit_add_one]
  have:2*m / 2=m:=Nat.mul_div_cancel_left m (by decide)
  rw [this];exact hi
 have h3:(((2*m+1)*2 ^ k) &&& ((2*m+1)*2 ^ k - 1)).testBit (i+1+k)=true:=by rw [Nat.testBit_and,h1,h2];rfl
 rw [e,Nat.zero_testBit] at h3
 cases h3
theorem np2I (k:Nat) (hm:0<m) {n:Int} (hn:n=(((2*m+1)*2 ^ k:Nat):Int)):Builtin.bitAnd n (n - 1)≠0:=by
 have hp:0<(2*m+1)*2 ^ k:=Nat.mul_pos (Nat.succ_pos _) (Nat.two_pow_pos k)
 have e:n - 1=(((2*m+1)*2 ^ k - 1:Nat):Int):=by rw [hn];exact (Int.ofNat_sub hp).symm
 rw [e,hn,bitAnd_nat]
 exact λq=>np2 k hm (Int.ofNat.inj q)
theorem par_eq (far:Nat):((((far % 2:Nat):Int)) == 0)=decide (far % 2=0):=by
 rcases Nat.mod_two_eq_zero_or_one far with e | e<;>rw [e]<;>rfl
theorem lgI {n:Int} (h:n.natAbs<2 ^ 250):n.natAbs.log2<1920:=by
 rcases Nat.eq_zero_or_pos n.natAbs with e | e
 ·rw [e];decide
 ·exact (Nat.log2_lt (Nat.pos_iff_ne_zero.mp e)).mpr (Nat.lt_of_lt_of_le h (Nat.pow_le_pow_right (by decide) (by trivial)))
section
theorem EvN.pow2 {b:Nat} (h:EvN c l N Φ e b) (h1:0<b) (h2:b≤1000):EvN c l N Φ (.BinOp (.Constant (.int 2) k kp) .Pow e pos) (2 ^ b) :=
 EvI.cast (EvI.pow (.const) h (by decide) (by lia) (by
  have:Builtin.Int.intBits 2=2:=by decide
  rw [this]
  unfold Builtin.Int.intTooBig
  have:bitsLine=2 ^ 27:=rfl
  simp [this];lia)) (by rw [Int.toNat_natCast];push_cast;rfl)
theorem EvF.noneK:EvF c l N Φ (.Constant .none k pos) (λv _=>v = .none):=λ_ _ h t _ _ F hQ=>wpAny_Constant_none (hQ _ h t F (Nat.le_refl _) λ_ _=>rfl)
end
noncomputable def kX (kind:Nat):String:=if kind<8 then "ValueError" else "TypeError"
section
theorem TobX.of (TT:TS K mg mb) {tt:Value} {P:HP} (Z:KitX K v tt P) (hP:Stands h P) (e1:kitOne K tt (.type "bytes")=some false) (e2:kitOne K tt (.type "str")=some false) (hne:v≠.builtin "__main__.__loader__#opaque"):TobX prog w K mg mb v h :=
 λh' G x ux hx=>tob_bad TT.te hx Z (hP.grown G) e1 e2 hne
theorem TobX.int (TT:TS K mg mb) {n:Int}:TobX prog w K mg mb (.int n u) h:=.of TT kitx_int (λ_ _=>trivial) (by kernel_rfl) (by kernel_rfl) (λe=>nomatch e)
theorem TobX.none (TT:TS K mg mb):TobX prog w K mg mb .none h:=.of TT kitx_none (λ_ _=>trivial) (by kernel_rfl) (by kernel_rfl) (λe=>nomatch e)
theorem TobX.list (TT:TS K mg mb) (e:h.get? a=some (lobj vs k)):TobX prog w K mg mb (.ref a) h:=.of TT kitx_list (λh' q=>⟨_,q _ _ e,rfl⟩) (by kernel_rfl) (by kernel_rfl) (λe=>nomatch e)
theorem retX {base:Heap} {outer:List Env} {X:String} {rp:Pos} {Ps:List Value→HP} {nm:Str}
  (H:c.Ok n) (F:c.SS l N Φ h) (hv:c.mg x=some (.ref f)) (hf:FnM c.K f nm q params body scope dflt cd) (ha:EvRs c l N Φ pos es Ps)
  (hx:∀vs h1,Ps vs h1→FnR c.prog c.w c.K c.mg c.mb m f ⟨vs,[]⟩ h1 X) (hm:m≤n) (hS:c.S=[]) (hL:c.h₀.objs.size≤c.L) (hfm:c.env.frame=some c.L) (hfr:c.A.frames=some (c.env::outer)) (st:base.StaysIn c.h₀) (fr:c.h₀.FunFrames base outer)
  (hl:Glo c.env x:=by rfl) (hd:ND x:=by decide)
  (hp:Plain pos es c.env:=by rfl)
  (he:CallIs x np es pos c.env:=by rfl) :
  c.wp (execs (.Return (some (.Call (.Name x np) es [] pos)) rp::rest) c.env) Q (RE c base outer X) (c.st h t) :=
 wpAny_execs_cons (wpAny_Return_some (callM H F hv hf ha (λvs h4 t4 F4 _=>flyCall (hx vs h4 F4.phi.2) hm H F4 hS hL hfm hfr st fr) hl hd hp he))
theorem retXU {β:Type} {g:β→List Value} {base:Heap} {outer:List Env} {X:String} {rp:Pos} {nm:Str}
  (H:c.Ok n) (F:c.SS l N Φ h) (hv:c.mg x=some (.ref f)) (hf:FnM c.K f nm q params body scope dflt cd) (ha:EvRs c l N Φ pos es (λvs _=>∃u,vs=g u))
  (hx:∀u h1,FnR c.prog c.w c.K c.mg c.mb m f ⟨g u,[]⟩ h1 X) (hm:m≤n) (hS:c.S=[]) (hL:c.h₀.objs.size≤c.L) (hfm:c.env.frame=some c.L) (hfr:c.A.frames=some (c.env::outer)) (st:base.StaysIn c.h₀) (fr:c.h₀.FunFrames base outer)
  (hl:Glo c.env x:=by rfl) (hd:ND x:=by decide)
  (hp:Plain pos es c.env:=by rfl)
  (he:CallIs x np es pos c.env:=by rfl) :
  c.wp (execs (.Return (some (.Call (.Name x np) es [] pos)) rp::rest) c.env) Q (RE c base outer X) (c.st h t) :=
 retX H F hv hf ha (λvs h1 q=>by obtain ⟨u,rfl⟩:=q;exact hx u h1) hm hS hL hfm hfr st fr hl hd hp he
set_option maxHeartbeats 2000000
theorem wrong_call (TT:TS K mg mb) {kind far:Nat} {uf:Tok} {X:String} (hk:kind<10) (hf:far<100000000000000000000) (hX:X=kX kind):FnR prog w K mg mb 8 264 ⟨[.int (kind:Int) uk,.int (far:Int) uf],[]⟩ h X:=by
 intro A g d t o R base outer hA hfr st fr W hR
 obtain ⟨a,b,hd⟩:=TT.te.tn.scrd
 have hwf:FnM K 264 "_law_wrong" "_law_wrong" (arOf (top 33)) (bdOf (top 33)) (scOf (top 33)) .none (.ref 263):=⟨TT.lk.wrong.fn,TT.lk.wrong.code⟩
 refine enterX (n:=7) (binds:=[("kind",.int (kind:Int) uk),("far",.int (far:Int) uf)]) (λh2=>h=h2) (λh2 e s'=>h=h2∧RE (frameCxC prog w A g d o h2 [] K mg mb "_law_wrong" (scOf (top 33)) 264 (.ref 263)) base outer X e s') ["kind","far"] [] [] [] hwf hA W TT.te.tn.en.es.ei.em.ek.dom
  (λpm doc Q hQ=>bindPure (by kernel_rfl) hQ) (by kernel_rfl) (by kernel_rfl) (by trivial) (by simp) (by trivial) (by kernel_rfl) ?_ (hER hfr hR)
 rintro _ rfl h₁ t₁ _
 intro c l N Q QB H H0 F
 refine bindsL 0 H0 F ?_
 intro h2 t2 l F
 refine bindsL 1 H0 F ?_
 intro h2 t2 l F
 refine bindsNil ⟨h2,t2,_,_,rfl,F,?_⟩
 refine wpAny_mono (E:=RE c base outer X) ?_ (λ_ _ y=>y) λ_ _ y=>⟨rfl,y⟩
 rcases Decidable.em (kind=0) with q0 | q0
 ·refine ifS F (b:=true) (EvT.cast (EvT.eq (.nm 0 H rfl) (.const (i:=0))) (by rw [q0];rfl)) (λh3 t3 F3=>?_)
  have hX:X="ValueError":=by rw [hX,q0];rfl
  refine retXU (m:=6) H F3 TT.te.tn.scrG TT.te.tn.scr (.consU EvF.bytes (.consU EvF.bytes (.consI (EvN.add (.mul (.const 2) (.nm 1 H rfl) 2 70 (by decide) (by trivial) (by decide)) (.const 3)) (.consI (.const (i:=1)) (.consV (.gl H TT.lk.gkdf) .nilU))))) (λ_ h4=>?_) (by decide) rfl (Nat.le_refl _) rfl (Around.frames_deeper hfr) st fr
  rw [hX]
  exact (scrypt_badV TT hd ScB.five (lgI (show 2*far+3<2 ^ 250 from Nat.lt_of_lt_of_le (Nat.add_lt_add_right (Nat.mul_lt_mul_of_pos_left hf (by decide)) 3) (by decide))) (by decide) (by decide) (.of_right (by decide)) (.inr (.inr (.inr (.inr (np2I (m:=far+1) 0 (by lia) (by rw [Nat.pow_zero];lia)))))))
 refine ifS F (b:=false) (EvT.cast (EvT.eq (.nm 0 H rfl) (.const (i:=0))) (beq_eq_false_iff_ne.mpr λe=>q0 (Int.ofNat.inj e))) (λh3 t3 F=>wpAny_execs_nil ?_)
 rcases Decidable.em (kind=1) with q1 | q1
 ·refine ifS F (b:=true) (EvT.cast (EvT.eq (.nm 0 H rfl) (.const (i:=1))) (by rw [q1];rfl)) (λh3 t3 F3=>?_)
  have hX:X="ValueError":=by rw [hX,q1];rfl
  refine retXU (m:=6) H F3 TT.te.tn.scrG TT.te.tn.scr (.consU EvF.bytes (.consU EvF.bytes (.consI (.sub (.const) (.nm 1 H rfl)) (.consI (.const (i:=1)) (.consV (.gl H TT.lk.gkdf) .nilU))))) (λ_ h4=>?_) (by decide) rfl (Nat.le_refl _) rfl (Around.frames_deeper hfr) st fr
  rw [hX]
  exact (scrypt_badV TT hd ScB.five (lgI (Nat.lt_of_le_of_lt (Int.natAbs_sub_le 1 (far:Int)) (show 1+far<2 ^ 250 from Nat.lt_trans (Nat.add_lt_add_left hf 1) (by decide)))) (by decide) (by decide) (.of_right (by decide)) (.inr (.inr (.inr (.inl (by lia))))))
 refine ifS F (b:=false) (EvT.cast (EvT.eq (.nm 0 H rfl) (.const (i:=1))) (beq_eq_false_iff_ne.mpr λe=>q1 (Int.ofNat.inj e))) (λh3 t3 F=>wpAny_execs_nil ?_)
 rcases Decidable.em (kind=2) with q2 | q2
 ·refine ifS F (b:=true) (EvT.cast (EvT.eq (.nm 0 H rfl) (.const (i:=2))) (by rw [q2];rfl)) (λh3 t3 F3=>?_)
  have hX:X="ValueError":=by rw [hX,q2];rfl
  refine retXU (m:=6) H F3 TT.te.tn.scrG TT.te.tn.scr (.consU EvF.bytes (.consU EvF.bytes (.consI (EvN.mul (.add (.mul (.const 2) (.nm 1 H rfl) 2 70 (by decide) (by trivial) (by decide)) (.const 3)) (.pow2 (.add (.const 1) (.mod (.nm 1 H rfl) (.const 70) (by decide))) (by trivial) (by lia)) 71 71 (by lia) (Nat.pow_lt_pow_right (by decide) (by lia)) (by decide)) (.consI (.const (i:=1)) (.consV (.gl H TT.lk.gkdf) .nilU))))) (λ_ h4=>?_) (by decide) rfl (Nat.le_refl _) rfl (Around.frames_deeper hfr) st fr
  rw [hX]
  exact (scrypt_badV TT hd ScB.five (lgI (by have h1:2 ^ (1+far % 70)≤2 ^ 70:=Nat.pow_le_pow_right (by decide) (by lia);have h2:(2*far+3)*2 ^ (1+far % 70)≤2 ^ 70*2 ^ 70:=Nat.mul_le_mul (by lia) h1;rw [Int.natAbs_natCast];exact Nat.lt_of_le_of_lt h2 (by decide))) (by decide) (by decide) (.of_right (by decide)) (.inr (.inr (.inr (.inr (np2I (m:=far+1) (1+far % 70) (by lia) (by rw [show 2*(far+1)+1=2*far+3 by trivial])))))))
 refine ifS F (b:=false) (EvT.cast (EvT.eq (.nm 0 H rfl) (.const (i:=2))) (beq_eq_false_iff_ne.mpr λe=>q2 (Int.ofNat.inj e))) (λh3 t3 F=>wpAny_execs_nil ?_)
 rcases Decidable.em (kind=3) with q3 | q3
 ·refine ifS F (b:=true) (EvT.cast (EvT.eq (.nm 0 H rfl) (.const (i:=3))) (by rw [q3];rfl)) (λh3 t3 F3=>?_)
  have hX:X="ValueError":=by rw [hX,q3];rfl
  refine retXU (m:=6) H F3 TT.te.tn.scrG TT.te.tn.scr (.consU EvF.bytes (.consU EvF.bytes (.consI (.const (i:=2)) (.consI (.neg (.nm 1 H rfl)) (.consV (.gl H TT.lk.gkdf) .nilU))))) (λ_ h4=>?_) (by decide) rfl (Nat.le_refl _) rfl (Around.frames_deeper hfr) st fr
  rw [hX]
  exact (scrypt_badV TT hd ScB.five (by decide) (lgI (by rw [Int.natAbs_neg];exact Nat.lt_trans hf (by decide))) (by decide) (.of_right (by decide)) (.inl (by lia)))
 refine ifS F (b:=false) (EvT.cast (EvT.eq (.nm 0 H rfl) (.const (i:=3))) (beq_eq_false_iff_ne.mpr λe=>q3 (Int.ofNat.inj e))) (λh3 t3 F=>wpAny_execs_nil ?_)
 rcases Decidable.em (kind=4) with q4 | q4
 ·refine ifS F (b:=true) (EvT.cast (EvT.eq (.nm 0 H rfl) (.const (i:=4))) (by rw [q4];rfl)) (λh3 t3 F3=>?_)
  have hX:X="ValueError":=by rw [hX,q4];rfl
  refine retXU (m:=6) H F3 TT.te.tn.scrG TT.te.tn.scr (.consU EvF.bytes (.consU EvF.bytes (.consI (.const (i:=2)) (.consI (.const (i:=1)) (.consV (.gl H TT.lk.gkdf) (.consI (.neg (.nm 1 H rfl)) .nilU)))))) (λ_ h4=>?_) (by decide) rfl (Nat.le_refl _) rfl (Around.frames_deeper hfr) st fr
  rw [hX]
  exact (scrypt_badV TT hd ScB.six (by decide) (by decide) (lgI (by rw [Int.natAbs_neg];exact Nat.lt_trans hf (by decide))) (.of_left (by decide)) (.inr (.inl (by lia))))
 refine ifS F (b:=false) (EvT.cast (EvT.eq (.nm 0 H rfl) (.const (i:=4))) (beq_eq_false_iff_ne.mpr λe=>q4 (Int.ofNat.inj e))) (λh3 t3 F=>wpAny_execs_nil ?_)
 rcases Decidable.em (kind=5) with q5 | q5
 ·refine ifS F (b:=true) (EvT.cast (EvT.eq (.nm 0 H rfl) (.const (i:=5))) (by rw [q5];rfl)) (λh3 t3 F3=>?_)
  have hX:X="ValueError":=by rw [hX,q5];rfl
  refine retXU (m:=6) H F3 TT.te.tn.scrG TT.te.tn.scr (.consU EvF.bytes (.consU EvF.bytes (.consI (.const (i:=2)) (.consI (EvN.add (.pow2 (.const 15) (by decide) (by decide)) (.nm 1 H rfl)) (.consV (.gl H TT.lk.gkdf) (.consI (EvN.pow2 (.const 15) (by decide) (by decide)) .nilU)))))) (λ_ h4=>?_) (by decide) rfl (Nat.le_refl _) rfl (Around.frames_deeper hfr) st fr
  rw [hX]
  exact (scrypt_badV TT hd ScB.six (by decide) (lgI (show 2 ^ 15+far<2 ^ 250 from Nat.lt_trans (Nat.add_lt_add_left hf (2 ^ 15)) (by decide))) (by decide) (.of_right (by decide)) (.inr (.inr (.inl (by lia)))))
 refine ifS F (b:=false) (EvT.cast (EvT.eq (.nm 0 H rfl) (.const (i:=5))) (beq_eq_false_iff_ne.mpr λe=>q5 (Int.ofNat.inj e))) (λh3 t3 F=>wpAny_execs_nil ?_)
 rcases Decidable.em (kind=6) with q6 | q6
 ·refine ifS F (b:=true) (EvT.cast (EvT.eq (.nm 0 H rfl) (.const (i:=6))) (by rw [q6];rfl)) (λh3 t3 F3=>?_)
  have hX:X="ValueError":=by rw [hX,q6];rfl
  refine retXU (m:=6) H F3 TT.te.tn.scrG TT.te.tn.scr (.consU EvF.bytes (.consU EvF.bytes (.consI (.const (i:=2)) (.consI (.const (i:=1)) (.consV (.gl H TT.lk.gkdf) (.consI (.const (i:=1)) (.consI (.neg (.nm 1 H rfl)) .nilU))))))) (λ_ h4=>?_) (by decide) rfl (Nat.le_refl _) rfl (Around.frames_deeper hfr) st fr
  rw [hX]
  exact (scrypt_badK TT hd ScB.seven (TobV.bytes TT.te (b:=[115])) (TobV.bytes TT.te (b:=[116])) (.inl (by lia)))
 refine ifS F (b:=false) (EvT.cast (EvT.eq (.nm 0 H rfl) (.const (i:=6))) (beq_eq_false_iff_ne.mpr λe=>q6 (Int.ofNat.inj e))) (λh3 t3 F=>wpAny_execs_nil ?_)
 rcases Decidable.em (kind=7) with q7 | q7
 ·refine ifS F (b:=true) (EvT.cast (EvT.eq (.nm 0 H rfl) (.const (i:=7))) (by rw [q7];rfl)) (λh3 t3 F3=>?_)
  have hX:X="ValueError":=by rw [hX,q7];rfl
  refine retXU (m:=6) H F3 TT.te.tn.scrG TT.te.tn.scr (.consU EvF.bytes (.consU EvF.bytes (.consI (.const (i:=2)) (.consI (.const (i:=1)) (.consV (.gl H TT.lk.gkdf) (.consI (.const (i:=1)) (.consI (EvN.add (.add (.mul (.sub (.pow2 (.const 32) (by decide) (by decide)) (.const 1) (by decide)) (.const 32) 33 6 (by decide) (by decide) (by decide)) (.const 1)) (.nm 1 H rfl)) .nilU))))))) (λ_ h4=>?_) (by decide) rfl (Nat.le_refl _) rfl (Around.frames_deeper hfr) st fr
  rw [hX]
  exact (scrypt_badK TT hd ScB.seven (TobV.bytes TT.te (b:=[115])) (TobV.bytes TT.te (b:=[116])) (.inr (by lia)))
 refine ifS F (b:=false) (EvT.cast (EvT.eq (.nm 0 H rfl) (.const (i:=7))) (beq_eq_false_iff_ne.mpr λe=>q7 (Int.ofNat.inj e))) (λh3 t3 F=>wpAny_execs_nil ?_)
 rcases Decidable.em (kind=8) with q8 | q8
 ·refine ifS F (b:=true) (EvT.cast (EvT.eq (.nm 0 H rfl) (.const (i:=8))) (by rw [q8];rfl)) (λh3 t3 F3=>?_)
  have hX:X="TypeError":=by rw [hX,q8];rfl
  refine retX (m:=6) H F3 TT.te.tn.scrG TT.te.tn.scr (.cons (EvR.mono (P:=λv h=>v = .int (far:Int) uf∨v = .none) (EvF.toR (EvF.ifexp (b:=decide (far % 2=0)) (EvT.cast (EvT.eq (EvN.mod (.nm 1 H rfl) (.const 2) (by decide)) (.const (i:=0))) (par_eq far)) (λ_=>EvF.mono (EvV.toF (.nm 1 H rfl)) λv _ e=>.inl e) (λ_=>EvF.mono EvF.noneK λv _ e=>.inr e))) λ_ _ y=>y) (.cons (EvF.toR EvF.bytes) (.cons (EvI.toR (.const (i:=2))) (.cons (EvI.toR (.const (i:=1))) (.cons (EvV.toR (.gl H TT.lk.gany)) .nil))))) (λvs h4 hP=>?_) (by decide) rfl (Nat.le_refl _) rfl (Around.frames_deeper hfr) st fr
  obtain ⟨_,_,rfl,hx,_,_,rfl,⟨_,rfl⟩,_,_,rfl,⟨_,rfl⟩,_,_,rfl,⟨_,rfl⟩,_,_,rfl,rfl,rfl⟩:=hP
  rw [hX]
  exact (scrypt_bad1 TT hd ScB.five (hx.elim (λe=>by subst e;exact TobX.int TT) λe=>by subst e;exact TobX.none TT))
 refine ifS F (b:=false) (EvT.cast (EvT.eq (.nm 0 H rfl) (.const (i:=8))) (beq_eq_false_iff_ne.mpr λe=>q8 (Int.ofNat.inj e))) (λh3 t3 F=>wpAny_execs_nil ?_)
 have hX:X="TypeError":=by rw [hX,show kind=9 by lia];rfl
 refine retX (m:=6) H F TT.te.tn.scrG TT.te.tn.scr (.cons (EvF.toR EvF.bytes) (.cons (EvF.toR (EvF.ifexp (b:=decide (far % 2=0)) (P:=λv h=>v = .none∨LR NatR [far] v h) (EvT.cast (EvT.eq (EvN.mod (.nm 1 H rfl) (.const 2) (by decide)) (.const (i:=0))) (by rw [Bool.eq_iff_iff];simp;lia)) (λ_=>EvF.mono EvF.noneK λv _ e=>.inl e) (λ_=>EvF.mono (EvF.listN (xs:=[far]) (.cons (.nm 1 H rfl) .nil)) λv _ e=>.inr e))) (.cons (EvI.toR (.const (i:=2))) (.cons (EvI.toR (.const (i:=1))) (.cons (EvV.toR (.gl H TT.lk.gany)) .nil))))) (λvs h4 hP=>?_) (by decide) rfl (Nat.le_refl _) rfl (Around.frames_deeper hfr) st fr
 obtain ⟨_,_,rfl,⟨_,rfl⟩,_,_,rfl,hx,_,_,rfl,⟨_,rfl⟩,_,_,rfl,⟨_,rfl⟩,_,_,rfl,rfl,rfl⟩:=hP
 rw [hX]
 exact (scrypt_bad2 TT hd ScB.five (TobV.bytes TT.te (b:=[115])) (hx.elim (λe=>by subst e;exact TobX.none TT) λe=>by obtain ⟨al,ys,kl,rfl,e,_⟩:=e;exact TobX.list TT e))
end
end
section
noncomputable def FnA (prog:Program) (w:World) (K:Frag) (mg mb:Str→Option Value) (n:Nat) (f:Addr) (args:Args) (h:Heap) (x:PySem.Str):Prop :=
 ∀A g d t o (R:Result→Shared→Prop) base outer,AOk n A→A.frames=some outer→base.StaysIn h→h.FunFrames base outer→W0 K mg mb h →
  (∀u h' t',base.StaysIn h'→h'.FunFrames base outer→h.UpToSlots h'→h.objs.size≤h'.objs.size→R (.ok (.ret (.str x u))) ⟨h',g,d,t',o⟩)→codeAny (model prog w) A (.call (.ref f) args) R ⟨h,g,d,t,o⟩
theorem sub_VV:isSubtype (.type "ValueError") (.type "ValueError")=pure true:=by rw [isSubtype_type];kernel_rfl
theorem sub_TV:isSubtype (.type "TypeError") (.type "ValueError")=pure false:=by rw [isSubtype_type];kernel_rfl
theorem sub_TT:isSubtype (.type "TypeError") (.type "TypeError")=pure true:=by rw [isSubtype_type];kernel_rfl
section
set_option maxHeartbeats 1000000
theorem answer_call (TT:TS K mg mb) {kind far:Nat} {uf:Tok} {x:PySem.Str} (hk:kind<10) (hf:far<100000000000000000000) (hx:x=if kind<8 then "ValueError" else "TypeError"):FnA prog w K mg mb 10 271 ⟨[.int (kind:Int) uk,.int (far:Int) uf],[]⟩ h x:=by
 intro A g d t o R base outer hA hfr st fr W hR
 have hwf:FnM K 271 "_law_answer" "_law_answer" (arOf (top 34)) (bdOf (top 34)) (scOf (top 34)) .none (.ref 270):=⟨TT.lk.answer.fn,TT.lk.answer.code⟩
 have hww:FnM K 264 "_law_wrong" "_law_wrong" (arOf (top 33)) (bdOf (top 33)) (scOf (top 33)) .none (.ref 263):=⟨TT.lk.wrong.fn,TT.lk.wrong.code⟩
 refine enterM0 (n:=9) (binds:=[("kind",.int (kind:Int) uk),("far",.int (far:Int) uf)]) ["kind","far"] [] [] [] hwf hA W TT.te.tn.en.es.ei.em.ek.dom
  (λpm doc=>by kernel_rfl) (by kernel_rfl) (by kernel_rfl) (by trivial) (by simp) (by trivial) (by kernel_rfl) ?_
 intro h₁ t₁
 intro c l N Q QB H H0 F
 refine bindsL 0 H0 F ?_
 intro h2 t2 l F
 refine bindsL 1 H0 F ?_
 intro h2 t2 l F
 refine bindsNil ⟨h2,t2,_,_,rfl,F,?_⟩
 refine wpAny_with_size (n:=h.objs.size) (by exact F.size) ?_
 refine wpAny_execs_cons (wpAny_Try_except ?_)
 refine exprS (callM H F TT.lk.gwrong hww (.consV (.nm 0 H rfl) (.consV (.nm 1 H rfl) .nilU)) (λvs h3 t3 F3 _=>?_))
 obtain ⟨_,rfl⟩:=F3.phi.2
 obtain ⟨a1,a2,a3⟩:=raiseAt (c:=c) rfl (Nat.le_refl _) F3 rfl (by rw [H.kind];decide) st fr
 have hfr':=Around.frames_deeper (env:=c.env) hfr
 have W3:=H.W1 F3
 refine wrong_call TT hk hf rfl _ g d t3 o _ base _ (H.A.le (by decide)) hfr' a1 a2 W3 (λe h4 t4 y z=>?_)
 obtain ⟨a0,hfl⟩:=y
 refine wpAny_looks_onW hfr' rfl hfl (λh5 hh5 sm5=>wpAny_landsW hh5 (λh6 hf6 sm6=>?_))
 have sm:=(z.trans sm5).trans sm6
 have hg6:h6.Ns mainGlobals mg:=sm.ns W3.g
 have hb6:h6.Ns builtinsNs mb:=sm.ns W3.b
 obtain ⟨ob,hob,hobc⟩:=hf6.there
 have fin:∀(A':Around) (x:PySem.Str) (h7:Heap) (k:Nat) (p:Pos) (rp:Pos) (t7:Nat) (Q:Flow→Shared→Prop) (E:VQ),(∀u t',Q (.ret (.str x u)) ⟨h7,g,d,t',o⟩) →
   wpAny (model prog w) A' (execs [.Return (some (.Constant (.str x) k p)) rp] c.env) Q E ⟨h7,g,d,t7,o⟩:=λA' x h7 k p rp t7 Q E hQ =>
  wpAny_execs_cons (wpAny_Return_some (Calls.Constant_str (k:=k) (pos:=p) (hQ _ _)))
 by_cases h8:kind<8
 ·have eX:kX kind="ValueError":=if_pos h8
  rw [if_pos h8] at hx
  subst hx
  rw [eX] at hobc hf6
  refine wpAny_handleBy_builtin (X:="ValueError") (T:="ValueError") (b:=true) PySem.F.isExc_ValueError PySem.F.notTuple_ValueError sub_VV (Name_function_global H.kind (by rfl) (loadGlobal_builtin hg6 TT.te.tn.ve.1 hb6 TT.te.tn.ve.2 ⟨rfl,⟨ob,hob,hobc⟩,?_⟩) (by decide))
  refine PyProof.Rows.lands_againW hf6 (λh7 hf7 sm7=>?_)
  refine fin _ _ _ _ _ _ _ _ _ (λu t' hz=>?_)
  exact hR u h7 t' hf7.1 hf7.2.2.1.2.2 (a3.trans (sm.trans sm7)) hz
 ·have eX:kX kind="TypeError":=if_neg h8
  rw [if_neg h8] at hx
  subst hx
  rw [eX] at hobc hf6
  refine wpAny_handleBy_builtin (X:="TypeError") (T:="ValueError") (b:=false) PySem.F.isExc_ValueError PySem.F.notTuple_ValueError sub_TV (Name_function_global H.kind (by rfl) (loadGlobal_builtin hg6 TT.te.tn.ve.1 hb6 TT.te.tn.ve.2 ⟨rfl,⟨ob,hob,hobc⟩,?_⟩) (by decide))
  refine wpAny_handleBy_builtin (X:="TypeError") (T:="TypeError") (b:=true) PySem.F.isExc_TypeError PySem.F.notTuple_TypeError sub_TT (Name_function_global H.kind (by rfl) (loadGlobal_builtin hg6 TT.te.tn.te.1 hb6 TT.te.tn.te.2 ⟨rfl,⟨ob,hob,hobc⟩,?_⟩) (by decide))
  refine PyProof.Rows.lands_againW hf6 (λh7 hf7 sm7=>?_)
  refine fin _ _ _ _ _ _ _ _ _ (λu t' hz=>?_)
  exact hR u h7 t' hf7.1 hf7.2.2.1.2.2 (a3.trans (sm.trans sm7)) hz
end
end
section
theorem pick_len {α:Type} (xs:List α) (lo hi:Option Int) (m:Nat) (h:(sliceBounds lo hi none xs.length).2.2=1∧(sliceBounds lo hi none xs.length).2.1 - (sliceBounds lo hi none xs.length).1≤m):(pickL xs lo hi none).length≤m:=by
 unfold pickL
 refine Nat.le_trans (List.length_filterMap_le _ _) ?_
 unfold sliceRange
 rw [h.1,List.length_map,List.length_range]
 rw [if_pos (by decide)]
 split
 ·have:=h.2;lia
 ·exact Nat.zero_le _
theorem pick9 {α:Type} (xs:List α):(pickL xs none (some 9) none).length≤9:=pick_len xs _ _ 9 ⟨rfl,show max 0 (min (9:Int) xs.length) - 0≤9 from (Int.sub_zero _).symm▸Int.max_le.mpr ⟨by decide,Int.min_le_left _ _⟩⟩
theorem pick18 {α:Type} (xs:List α):(pickL xs (some 9) (some 18) none).length≤9:=pick_len xs _ _ 9 ⟨rfl,by
 show max 0 (min (18:Int) xs.length) - max 0 (min (9:Int) xs.length)≤9
 rcases Int.le_total xs.length 9 with h | h
 ·exact Int.sub_le_sub (Int.max_le.mpr ⟨by decide,Int.le_trans (Int.min_le_right _ _) h⟩) (Int.le_max_left _ _)
 ·exact Int.sub_le_sub (a:=max 0 (min (18:Int) xs.length)) (b:=18) (c:=9) (Int.max_le.mpr ⟨by decide,Int.min_le_left _ _⟩) (Int.le_trans (Int.le_min.mpr ⟨Int.le_refl _,h⟩) (Int.le_max_right _ _))⟩
section
theorem EvN.lenL {α:Type} {R:α→VH} {xs:List α} (H:c.Ok n) (hb:c.mg "len"=none∧c.mb "len"=some (.builtin "len")) (he:EvR c l N Φ e (LR R xs)) (hz:xs.length≤100000)
  (hl:Glo c.env "len":=by rfl)
  (s1:Unst e [] c.env:=by rfl)
  (hev:CallIs "len" np [e] pos c.env:=by rfl) :
  EvN c l N Φ (.Call (.Name "len" np) [e] [] pos) xs.length:=by
 intro Φ' k h t Q E F hQ
 refine PyProof.Rows.Call_ (bl H F hb.1 hb.2 (PyProof.Rows.callWith_builtin1 ?_ s1) hl (by decide)) hev
 rw [s1]
 refine spliced_cons (he _ k h t _ _ F λv h1 t1 F1=>spliced_nil ?_)
 obtain ⟨a,ys,kk,rfl,ha,hR⟩:=F1.phi.2
 refine PyProof.Rows.len_list (items:=ys.toArray) ⟨_,ha,rfl,_,rfl⟩ (by rw [List.size_toArray,hR.1];lia) ?_
 rw [List.size_toArray,hR.1]
 exact hQ _ h1 _ (F1.weaken λ_ y=>y.1)
theorem bytes_arr:∀(xs:List Nat),byteArr (xs.map λx:Nat=>(x:Int))=(xs.map Nat.toUInt8).toArray:=λxs=>by
 unfold byteArr
 rw [List.map_map];rfl
theorem EvF.bytesOf (H:c.Ok n) (hb:c.mg "bytes"=none∧c.mb "bytes"=some (.type "bytes")) (he:EvR c l N Φ e (LR NatR xs)) (hx:∀x∈xs,x<256) (hz:xs.length≤100000)
  (hl:Glo c.env "bytes":=by rfl)
  (s1:Unst e [] c.env:=by rfl)
  (hev:CallIs "bytes" np [e] pos c.env:=by rfl) :
  EvF c l N Φ (.Call (.Name "bytes" np) [e] [] pos) (BR (xs.map Nat.toUInt8)):=by
 intro Φ' k h t Q E F hQ
 refine wpAny_with_size (Nat.le_refl _) (PyProof.Rows.Call_ (bl H F hb.1 hb.2 (PyProof.Rows.callWith_type1 ?_ s1) hl (by decide)) hev)
 rw [s1]
 refine spliced_cons (he _ k h t _ _ F λv h1 t1 F1=>spliced_nil ?_)
 obtain ⟨a,ys,kk,rfl,ha,hR⟩:=F1.phi.2
 refine wpAny_with_size (Nat.le_refl _) (call_bytes_ints (ns:=xs.map λx:Nat=>(x:Int)) (vs:=ys) ⟨_,ha,rfl,_,rfl⟩ (ints_are hR) ?_ (by rw [hR.1];exact Nat.le_trans hz (by decide)) H.A.1 λh' t' k' hk hz1 hz=>?_)
 ·intro z hz
  obtain ⟨x,hx',rfl⟩:=List.mem_map.mp hz
  have:=hx x hx'
  lia
 ·exact hQ _ h' k' ((F1.grow hz1 hk).weaken λ_ y=>y.1) hz λ_ _=>⟨t',by rw [bytes_arr]⟩
theorem EvIt.bytes (H:c.Ok n) (he:EvF c l N Φ iter (BR bs)) :
  EvIt c l N Φ iter (.Name x px) [x] bs.length (λi vs _=>Ex2 λb u=>bs[i]?=some b∧vs=[.int (b.toNat:Int) u]):=by
 intro Φ' k h t Q F hQ
 refine wpAny_with_size (Nat.le_refl _) (he _ k h t _ _ F λv h1 t1 F1 hz p=>?_)
 obtain ⟨u,rfl⟩:=p.here
 refine λhz0=>KBw.pyIter_bytes ?_
 have g:=Grow.push h1 { cls:=.type "bytes_iterator",data:=.fields #[.bytes bs.toArray u,.int 0 0] }
 refine hQ _ _ _ ⟨[h1.objs.size],[h1.objs.size],_,_,Itr.of (KBw.walks H.A.1 h1.objs.size bs.toArray u) (λ_=>rfl) |>.lenEq (by trivial),?_,?_,F1.wrOk ?_,F1.growX g ?_,?_⟩ (Nat.le_trans hz g.1)
 ·exact ⟨_,Heap.get?_push_size _ rfl,rfl,rfl⟩
 ·intro b hb
  obtain rfl:=List.mem_singleton.mp hb
  exact ⟨lt_push _ _,(F1.wrOk (wr:=[h1.objs.size]) (λb hb=>by rw [List.mem_singleton.mp hb];exact Nat.le_refl _) _ (List.mem_singleton.mpr rfl)).2⟩
 ·intro b hb;rw [List.mem_singleton.mp hb];exact Nat.le_refl _
 ·intro b hb;rw [List.mem_singleton.mp hb];exact ⟨Nat.le_refl _,lt_push _ _⟩
 ·rintro i v h' ⟨b,u',hb,rfl⟩
  exact ⟨_,rfl,Asg.name,λh'' q=>⟨b,u',by simpa using hb,rfl⟩⟩
theorem EvF.chr (H:c.Ok n) (hb:c.mg "chr"=none∧c.mb "chr"=some (.builtin "chr")) (he:EvN c l N Φ e i) (hi:i≤1000)
  (hl:Glo c.env "chr":=by rfl)
  (s1:Unst e [] c.env:=by rfl)
  (hev:CallIs "chr" np [e] pos c.env:=by rfl) :
  EvF c l N Φ (.Call (.Name "chr" np) [e] [] pos) (SL [i]):=by
 intro Φ' k h t Q E F hQ
 refine wpAny_with_size (Nat.le_refl _) (PyProof.Rows.Call_ (bl H F hb.1 hb.2 (PyProof.Rows.callWith_builtin1 ?_ s1) hl (by decide)) hev)
 rw [s1]
 refine spliced_cons (he _ k h t _ _ F λu h1 t1 F1=>spliced_nil ?_)
 refine PySem.P.chr_of_int (by simp;lia) λhz=>hQ _ h1 _ F1 hz λ_ _=>⟨_,rfl⟩
end
end
section
theorem join_fold:∀(cs:List Nat) (acc:Array Nat),(cs.map λi=>(⟨#[i]⟩:PySem.Str)).foldl (λacc p=>acc++("":PySem.Str).cps++p.cps) acc=acc++cs.toArray
 | [],acc=>by trivial
 | a::r,acc=>by
  rw [List.map_cons,List.foldl_cons,join_fold r]
  have:("":PySem.Str).cps=#[]:=rfl
  rw [this]
  simp
theorem join_one:∀cs:List Nat,Txt.join "" (cs.map λi=>(⟨#[i]⟩:PySem.Str))=⟨cs.toArray⟩
 | []=>rfl
 | a::r=>by
  show PySem.Str.mk ((r.map λi=>(⟨#[i]⟩:PySem.Str)).foldl (λacc p=>acc++("":PySem.Str).cps++p.cps) #[a])=_
  rw [join_fold]
  simp
theorem strs_are (r:RL (λi=>SL [i]) cs ys h):∃l:List (PySem.Str×Tok),l.map (·.1)=cs.map (λi=>(⟨#[i]⟩:PySem.Str))∧ys=strValues l :=
 r.lift (G:=λcs ys=>∃l:List (PySem.Str×Tok),l.map (·.1)=cs.map (λi=>(⟨#[i]⟩:PySem.Str))∧ys=strValues l) ⟨[],rfl,rfl⟩ λx _ _ _ ⟨u,e⟩ ⟨l,e1,e2⟩=>⟨(⟨#[x]⟩,u)::l,congrArg (_::·) e1,by rw [e,e2];rfl⟩
section
theorem EvF.joinS (he:EvR c l N Φ e (LR (λi=>SL [i]) cs)) (hz:cs.length≤100000)
  (s1:Unst e [] c.env:=by rfl)
  (hev:eval (.Call (.Attribute (.Constant (.str "") kk kp) "join" ap) [e] [] pos) c.env=(do
   let ov←eval (.Constant (.str "") kk kp) c.env
   standAt ap.atName
   let (f,first)←holding [ov] (getMethod ov "join" pl)
   callWith pos f first (backTo pos (starEach [e] c.env)) []):=by rfl) :
  EvF c l N Φ (.Call (.Attribute (.Constant (.str "") kk kp) "join" ap) [e] [] pos) (SL cs):=by
 intro Φ' kΦ h t Q E F hQ
 refine wpAny_with_size (Nat.le_refl _) (PyProof.Rows.MethodCall_ (Calls.Constant_str (k:=kk) (pos:=kp) (getMethod_builtin (typeIs_str _ _ _) PySem.F.plainAttrs_str PySem.F.slot_str_join PySem.F.type_str_join (λ_ e=>nomatch e) (PyProof.Rows.callWith_method1 ?_ s1))) hev)
 rw [s1]
 refine spliced_cons (he _ kΦ h (t+1) _ _ F λv h1 t1 F1=>spliced_nil ?_)
 obtain ⟨a,ys,k,rfl,ha,hR⟩:=F1.phi.2
 obtain ⟨ll,e1,rfl⟩:=strs_are hR
 have hok:Builtin.Str.tooLong ((ll.map (·.1)).toArray.foldl (λa p=>a+p.length+("":PySem.Str).length) 0)=false:=by
  rw [e1]
  refine StrLaws.joinFits (B:=1) (λy hy=>?_) (by rw [List.length_map];show cs.length*1+cs.length*0≤_;lia)
  obtain ⟨i,_,rfl⟩:=List.mem_map.mp hy
  exact Nat.le_refl _
 refine call_meets PySem.F.slot_str_join (typeIs_str _ _ _) PySem.F.entry_str_join (PySem.F.args_str_join_2 _ _) (meets_str_join_list "" t a ll hok) ⟨⟨_,ha,rfl,_,rfl⟩,post_join ll ⟨joinFit_length hok,λt' k' hz=>?_⟩⟩
 rw [e1,join_one]
 exact hQ _ h1 k' (F1.weaken λ_ y=>y.1) hz λ_ _=>⟨t',rfl⟩
end
end
section
open Builtin
theorem bne_slot:Slot "bytes" "__ne__" "bytes.__ne__" :=
 .of (owner:="bytes") (n:="__ne__") (by rw [typeLookup_type,builtinLookup_eq_fast];kernel_rfl) (by decide +kernel) (by decide +kernel) (by decide +kernel)
  (by first | exact .inl (by decide +kernel) | exact .inr (by decide +kernel)) (by rw [isSubtype_type];kernel_rfl)
theorem bne_entry:entryFor table "bytes.__ne__"=some Builtin.«bytes.__ne__»:=entryFor_of_tree (by kernel_rfl)
theorem bne_args (a b:Value):argsOk "bytes.__ne__" ⟨[a,b],[]⟩:=by
 unfold argsOk;rw [signature?_of (id:="bytes.__ne__") (n:=['_','_','e','n','_','_']) (o:=['s','e','t','y','b']) (by kernel_rfl) FB.owner_bytes];kernel_rfl
theorem order_self:∀b:List UInt8,Bytes.order b b = .eq
 | []=>rfl
 | a::r=>by
  unfold Bytes.order
  simp [order_self r]
theorem bne_gives (b:Array UInt8) (t u:Tok):Gives («bytes.__ne__» ⟨[.bytes b t,.bytes b u],[]⟩) (.val (.bool false)):=by
 refine .of_wp λM A E s Q hq=>?_
 show wpAny M A (isInstance (.bytes b u) (.type "bytes") >>= λr=>_) _ E s
 refine wpAny_bind (wpAny_of_eq KBy.isInstance_eq ?_)
 refine wpAny_pure ⟨_,rfl,?_⟩
 rw [order_self]
 exact hq
section
theorem EvT.neB (h1:EvF c l N Φ e1 (BR b)) (h2:EvF c l N Φ e2 (BR b)) (hm:behindInMarks .NotEq e2=false:=by with_unfolding_all rfl):EvT c l N Φ (.Compare e1 [.NotEq] [e2] pos) false:=λΦ' k h t Q E F hQ =>
 wpAny_isTrue_Compare1 (h1 _ k h t _ _ F λv h1 t1 F1 _ p1=>h2 _ k h1 t1 _ _ F1 λw h2 t2 F2 _ p2=>by
  obtain ⟨u,rfl⟩:=p1.here
  obtain ⟨u',rfl⟩:=p2.here
  exact compareOp_gives (op:=.NotEq) (typeIs_bytes _ _ _) (typeIs_bytes _ _ _) bne_slot bne_entry (bne_args _ _) (bne_gives _ _ _) (λe=>nomatch e) (wpAny_truthy_bool (hQ h2 t2 F2))) hm
theorem unpack3C {xc xd:Str} {pc pd tp:Pos} {P:VH} {wa wb wc wd:Option Value} {PP:Value→Value→Value→Value→Prop} (i1 i2 i3 j:Nat) (H:c.Ok n) (F:c.SS l N Φ h) (he:EvR c l N Φ e P)
  (hP:∀v h,P v h→Ex4 λy0 y1 y2 y3=>Seq [y0,y1,y2,y3] v h∧PP y0 y1 y2 y3)
  (hQ:∀y0 y1 y2 y3 h' t',PP y0 y1 y2 y3→let l':=((l.set i1 (xa,some y0)).set i2 (xb,some y1)).set i3 (xc,some y2);let N':=N.set j (ad,cobj (some y3));c.SS l' N' Φ h'→c.wp (execs rest c.env) Q E (c.st h' t'))
  (e1:l[i1]?=some (xa,wa)) (e2:l[i2]?=some (xb,wb)) (e3:l[i3]?=some (xc,wc)) (n12:i1≠i2) (n13:i1≠i3) (n23:i2≠i3) (ej:N[j]?=some (ad,cobj wd)) (hc:c.env.cells.lookup xd=some ad)
  (k1:Loc c.env xa) (k2:Loc c.env xb) (k3:Loc c.env xc) (k4:Cel c.env xd)
  (hlen:(assignEach [.Name xa pa,.Name xb pb,.Name xc pc,.Name xd pd] c.env).length=4:=by rfl) (hstar:(assignEach [.Name xa pa,.Name xb pb,.Name xc pc,.Name xd pd] c.env).findIdx? (·.1)=none:=by rfl)
  (hf:(assignEach [.Name xa pa,.Name xb pb,.Name xc pc,.Name xd pd] c.env).map (·.2)=[assign (.Name xa pa) c.env,assign (.Name xb pb) c.env,assign (.Name xc pc) c.env,assign (.Name xd pd) c.env]:=by rfl)
  (hs:swapsWithSole [.Tuple [.Name xa pa,.Name xb pb,.Name xc pc,.Name xd pd] k tp] e pos.line c.env=pure false:=by rfl)
  (hw:swappedStores [.Tuple [.Name xa pa,.Name xb pb,.Name xc pc,.Name xd pd] k tp] e c.env=pure none:=by rfl) :
  c.wp (execs (.Assign [.Tuple [.Name xa pa,.Name xb pb,.Name xc pc,.Name xd pd] k tp] e pos::rest) c.env) Q E (c.st h t):=by
 refine wpAny_execs_cons (PyProof.Rows.Assign_Tuple (he _ (λ_ x=>x) h t _ _ F λv h1 t1 F1=>?_) hs hw)
 obtain ⟨y0,y1,y2,y3,hy,hpp⟩:=hP v h1 F1.phi.2
 refine unpackAssign H.A.1 hy (by rw [hlen];rfl) hstar λh2 G=>?_
 rw [hf]
 refine wpAny_assignInOrder_more (wpAny_assign_Name (stn H (F1.grown G) e1 (λh3 F3=>?_) k1))
 refine wpAny_assignInOrder_more (wpAny_assign_Name (stn H F3 (w:=wb) (by rw [List.getElem?_set_ne n12];exact e2) (λh4 F4=>?_) k2))
 refine wpAny_assignInOrder_more (wpAny_assign_Name (stn H F4 (w:=wc) (by rw [List.getElem?_set_ne n23,List.getElem?_set_ne n13];exact e3) (λh5 F5=>?_) k3))
 refine wpAny_assignInOrder_more (wpAny_assign_Name (stc H F5 ej hc (λh6 F6=>?_) k4))
 exact wpAny_assignInOrder_none (hQ y0 y1 y2 y3 h6 _ hpp (F6.weaken λ_ y=>y.1))
end
end
section
section
theorem SS.stayX (x:SS h₀ S X L l N Φ h) (hW:∀b∈W,b=L∨(b∈X∧h₀.objs.size≤b∧b∉N.map (·.1))) (k:∀b o,b∉W→h.get? b=some o→h'.get? b=some o) (hL:h'.Ns L (lk l)) (hz:h.objs.size≤h'.objs.size):SS h₀ S X L l N Φ h' where
 ns:=hL
 nd:=x.nd
 keep:=λb o hb hbL e=>k b o (λq=>(hW b q).elim hbL λr=>absurd (Heap.lt_size e) (Nat.not_lt.mpr r.2.1)) (x.keep b o hb hbL e)
 news:=λp hp=>⟨k _ _ (λq=>(hW _ q).elim (x.news p hp).2.1 λr=>r.2.2 (List.mem_map_of_mem hp)) (x.news p hp).1,(x.news p hp).2⟩
 ndn:=x.ndn
 size:=Nat.le_trans x.size hz
 xlt:=λb hb=>Nat.lt_of_lt_of_le (x.xlt b hb) hz
 fz:=λh'' q=>x.fz h'' λb o b1 b2 b3 e=>q b o b1 b2 b3 (k b o (λr=>(hW b r).elim b1 λz=>b2 z.1) e)
theorem SS.moreX {Y:List Addr} (x:SS h₀ S X L l N Φ h) {g:Heap} (hg:∀b o,h.get? b=some o→g.get? b=some o) (hz:h.objs.size≤g.objs.size) (hY:∀b∈Y,h.objs.size≤b∧b<g.objs.size):SS h₀ S (Y++X) L l N Φ g:=by
 have x':=x.grow hz hg
 refine ⟨x'.ns,x'.nd,x'.keep,x'.news,x'.ndn,x'.size,λb hb=>?_,λh'' q=>x.fz h'' λb o b1 b2 b3 e=>q b o b1 (λr=>?_) b3 (hg b o e)⟩
 ·rcases List.mem_append.mp hb with r | r
  ·exact (hY b r).2
  ·exact x'.xlt b r
 ·rcases List.mem_append.mp r with r | r
  ·exact absurd (Heap.lt_size e) (Nat.not_lt.mpr (hY b r).1)
  ·exact b2 r
end
noncomputable def kAns (i:Nat):PySem.Str:=if i<8 then "ValueError" else "TypeError"
section
theorem EvI.abs {v:Int} (H:c.Ok n) (hb:c.mg "abs"=none∧c.mb "abs"=some (.builtin "abs")) (he:EvI c l N Φ e v)
  (hl:Glo c.env "abs":=by rfl)
  (s1:Unst e [] c.env:=by rfl)
  (hev:CallIs "abs" np [e] pos c.env:=by rfl) :
  EvN c l N Φ (.Call (.Name "abs" np) [e] [] pos) v.natAbs:=by
 intro Φ' k h t Q E F hQ
 refine PyProof.Rows.Call_ (bl H F hb.1 hb.2 (PyProof.Rows.callWith_builtin1 ?_ s1) hl (by decide)) hev
 rw [s1]
 refine spliced_cons (he _ k h t _ _ F λu h1 t1 F1=>spliced_nil (PyProof.Rows.call_abs_int λu' tk=>?_))
 rw [show (if v<0 then -v else v)=(v.natAbs:Int) by split<;>lia]
 exact hQ u' h1 _ F1
theorem EvN.powK {a b:Nat} {i j:Int} (hi:i=(a:Int)) (hj:j=(b:Int)) (ha:1<a) (hb:0<b) (hf:Builtin.Int.intTooBig (((Builtin.Int.intBits (a:Int):Nat):Int)*(b:Int))=false):EvN c l N Φ (.BinOp (.Constant (.int i) k1 p1) .Pow (.Constant (.int j) k2 p2) pos) (a ^ b) :=
 EvI.cast (EvI.pow (hi▸.const) (hj▸.const) (by lia) (by lia) hf) (by rw [Int.toNat_natCast];push_cast;rfl)
noncomputable abbrev refE (p1 p2 p3 p4 p5 p6 p7 p8 p9 p10:Pos) (k1 k2:Nat):Expr :=
 .Call (.Name "_law_answer" p1) [.Name "kind" p2,.BinOp (.Call (.Name "abs" p3) [.Name "d" p4] [] p5) .Mod (.BinOp (.Constant (.int 10) k1 p6) .Pow (.Constant (.int 20) k2 p7) p8) p9] [] p10
theorem refElt (TT:TS c.K c.mg c.mb) (hab:c.mg "abs"=none∧c.mb "abs"=some (.builtin "abs")) (hn:10≤n) (hfr:c.A.frames=some [c.env]) (hfm:c.env.frame=some c.L) (hkd:c.env.scope.kind≠.module) {p10:Pos} {Ψ:HP}
  (hi:i<10) (ok:(compCx c scope cl hh C).Ok n) (F:(compCx c scope cl hh C).SS [("kind",some (.int (i:Int) ui))] [] Ψ h1) (hd:∀h,Ψ h→h.get? ad=some (cobj (some (.int dv ud)))) (hL:hh.Ns c.L (lk l)) (hC:c.L≠C)
  {Q:VQ} (hQ:∀u h3 t3,(∀b o,b≠c.L→b≠C→hh.get? b=some o→h3.get? b=some o)→h3.Ns C (lk [("kind",some (.int (i:Int) ui))])→h3.Ns c.L (lk l)→hh.objs.size≤h3.objs.size→Q (.str (kAns i) u) (c.st h3 t3))
  (a1:(compEnvC scope cl C c.env).kindOf "_law_answer"=some .globalImplicit) (a2:(compEnvC scope cl C c.env).kindOf "kind"=some .local) (a3:(compEnvC scope cl C c.env).kindOf "abs"=some .globalImplicit) (a4:(compEnvC scope cl C c.env).kindOf "d"=some .cell) (a5:(compEnvC scope cl C c.env).cells.lookup ("d":Str)=some ad)
  (b1:Unst (.Name "d" p4) [] (compEnvC scope cl C c.env))
  (b2:CallIs "abs" p3 [.Name "d" p4] p5 (compEnvC scope cl C c.env))
  (b4:Unst (.Name "kind" p2) [.BinOp (.Call (.Name "abs" p3) [.Name "d" p4] [] p5) .Mod (.BinOp (.Constant (.int 10) k1 p6) .Pow (.Constant (.int 20) k2 p7) p8) p9] (compEnvC scope cl C c.env))
  (b5:Unst (.BinOp (.Call (.Name "abs" p3) [.Name "d" p4] [] p5) .Mod (.BinOp (.Constant (.int 10) k1 p6) .Pow (.Constant (.int 20) k2 p7) p8) p9) [] (compEnvC scope cl C c.env))
  (b6:Plain p10 [.Name "kind" p2,.BinOp (.Call (.Name "abs" p3) [.Name "d" p4] [] p5) .Mod (.BinOp (.Constant (.int 10) k1 p6) .Pow (.Constant (.int 20) k2 p7) p8) p9] (compEnvC scope cl C c.env))
  (b7:eval (refE p1 p2 p3 p4 p5 p6 p7 p8 p9 p10 k1 k2) (compEnvC scope cl C c.env)=(do callWith p10 (←eval (.Name "_law_answer" p1) (compEnvC scope cl C c.env)) [] (backTo p10 (starEach [.Name "kind" p2,.BinOp (.Call (.Name "abs" p3) [.Name "d" p4] [] p5) .Mod (.BinOp (.Constant (.int 10) k1 p6) .Pow (.Constant (.int 20) k2 p7) p8) p9] (compEnvC scope cl C c.env))) (backToKw p10 (keywordEach [] (compEnvC scope cl C c.env))))) :
  (compCx c scope cl hh C).wp (eval (refE p1 p2 p3 p4 p5 p6 p7 p8 p9 p10 k1 k2) (compEnvC scope cl C c.env)) Q NoE (c.st h1 t1):=by
 have haf:FnM c.K 271 "_law_answer" "_law_answer" (arOf (top 34)) (bdOf (top 34)) (scOf (top 34)) .none (.ref 270):=⟨TT.lk.answer.fn,TT.lk.answer.code⟩
 have ed:EvI (compCx c scope cl hh C) [("kind",some (.int (i:Int) ui))] [] Ψ (.Name "d" p4) dv:=EvV.toI (u:=ud) (EvV.cell ok a4 a5 (λh F=>hd h F.phi))
 have ek:EvI (compCx c scope cl hh C) [("kind",some (.int (i:Int) ui))] [] Ψ (.Name "kind" p2) (i:Int):=EvI.nm 0 ok rfl a2 (by decide)
 refine callM (c:=compCx c scope cl hh C) ok F TT.lk.ganswer haf (.cons (EvI.toR ek) (.cons (EvN.toR (EvN.mod (EvI.abs ok hab ed a3 b1 b2) (EvN.powK (a:=10) (b:=20) rfl rfl (by decide) (by decide) (by decide)) (by decide))) .nil b5) b4) (λvs h2 t2 F2 hz=>?_) a1 (by decide) b6 b7
 obtain ⟨_,_,rfl,⟨u1,rfl⟩,_,_,rfl,⟨u2,rfl⟩,rfl⟩:=F2.phi.2
 have hL2:h2.Ns c.L (lk l):=ns_keeps (S:=[C]) hL (λb o hb e=>F2.keep b o (by simp) (λq=>hb (by rw [q];exact List.mem_singleton.mpr rfl)) e) (λq=>hC (List.mem_singleton.mp q))
 have fr:h2.FunFrames (hideAll h2 [c.L]) [c.env]:=.cons hkd hfm hL2 (hideAll_none _ (List.mem_singleton.mpr rfl)) trivial
 refine answer_call TT (x:=kAns i) hi (Nat.mod_lt _ (by decide)) (by unfold kAns;split<;>rfl) c.A c.g c.d t2 c.o _ (hideAll h2 [c.L]) [c.env] (ok.A.le hn) hfr (λb o e=>of_hideAll _ e) fr (ok.W1 F2) (λu h3 t3 k1 _ k3 hz3=>?_)
 have k23:∀b o,b≠c.L→h2.get? b=some o→h3.get? b=some o:=λb o hb e=>k1 b o (hideAll_get _ e (λq=>hb (List.mem_singleton.mp q)))
 exact hQ u h3 t3 (λb o b1 b2 e=>k23 b o b1 (F2.keep b o (by simp) b2 e)) (ns_keeps (S:=[c.L]) F2.ns (λb o hb e=>k23 b o (λq=>hb (by rw [q];exact List.mem_singleton.mpr rfl)) e) (λq=>hC (List.mem_singleton.mp q).symm)) (k3.ns hL2) (Nat.le_trans F2.size hz3)
end
end
section
section
theorem asRef {spos:Pos} {w:Option Value} (ix:Nat) (H:c.Ok n) (F:c.SS l N Φ h) (hclos:closureFor scope c.env=pure cl)
  (hsc:(decide (scope.kind = .function) && (scope.names.all λx=>decide (x.2≠.cell)) && (scope.names.all λx=>decide (x.2 = .local→scope.names.lookup x.1=some .local)) && decide (scope.names.lookup ("kind":Str)=some .local))=true)
  (hit:EvIt c l N Φ iter (.Name "kind" px) ["kind"] 10 (λi vs _=>∃u,vs=[.int (i:Int) u])) (hd:(ad,cobj (some (.int dv ud)))∈N)
  (helt:∀hh C (i:Nat) ui h1 t1 (Q:VQ),i<10→(compCx c scope cl hh C).Ok n→(compCx c scope cl hh C).SS [("kind",some (.int (i:Int) ui))] [] (λh=>h.get? ad=some (cobj (some (.int dv ud)))) h1→hh.Ns c.L (lk l)→c.L≠C →
   (∀u h3 t3,(∀b o,b≠c.L→b≠C→hh.get? b=some o→h3.get? b=some o)→h3.Ns C (lk [("kind",some (.int (i:Int) ui))])→h3.Ns c.L (lk l)→hh.objs.size≤h3.objs.size→Q (.str (kAns i) u) (c.st h3 t3)) →
   (compCx c scope cl hh C).wp (eval elt (compEnvC scope cl C c.env)) Q NoE (c.st h1 t1))
  (hQ:∀D h' t',let l':=l.set ix (x,some (.ref D));c.SS l' N (λh=>Φ h∧LR StrR ((List.range 10).map kAns) (.ref D) h) h'→c.wp (execs rest c.env) Q E (c.st h' t'))
  (hix:l[ix]?=some (x,w):=by rfl) (hl:Loc c.env x:=by rfl)
  (hsw:swapsWith (.ListComp elt [⟨.Name "kind" px,iter,[],0⟩] scope pos) (some (.Name x p')) spos.line c.env=pure true:=by rfl)
  (hs:∀x,foldedSetIterable iter c.env x=pure x:=by intro _;rfl) :
  c.wp (execs (.Assign [.Name x p'] (.ListComp elt [⟨.Name "kind" px,iter,[],0⟩] scope pos) spos::rest) c.env) Q E (c.st h t):=by
 simp only [Bool.and_eq_true,List.all_eq_true,decide_eq_true_eq] at hsc
 obtain ⟨⟨⟨hk,hcell⟩,hnames⟩,hloc⟩:=hsc
 refine wpAny_execs_cons ?_
 rw [exec_Assign_Name_used _ _ _ _ hsw]
 refine wpAny_bind (wpAny_standAt ?_)
 rw [arm_evalThenUse_ListComp]
 refine wpAny_bind (wpAny_bind (wpAny_mono (wpAny_comprehension_free (E:=E) rfl hs hclos hk hnames (Q:=λ_ s'=>wpAny (model c.prog c.w) c.A (pure Flow.next) (λf s'=>match f with | .next=>c.wp (execs rest c.env) Q E s' | f=>Q f s') E s') (wpAny_mono (hit Φ (λ_ x=>x) h t (λit s₂=>Ex2 λh₂ t₂=>An3 (s₂=c.st h₂ t₂) (ItrAt c l N Φ it (.Name "kind" px) ["kind"] 10 (λi vs _=>∃u,vs=[.int (i:Int) u]) h₂) (h.objs.size≤h₂.objs.size)) F λit h₂ t₂ hi hz=>⟨h₂,t₂,rfl,hi,hz⟩)
  (λxv s₁ h₁=>ex (wpAny_mono h₁ (λit s₂ h₂=>?_) λ_ _ y=>y)) λ_ _ y=>y.elim)) (λ_ _ hq=>wpAny_pure hq) λ_ _ y=>y))
 obtain ⟨h₂,t₂,rfl,⟨fp,wr,St,P₀,IT,st,hfp,hwr,F₂,conv⟩,hz0⟩:=h₂
 have hCE:compEnvC scope cl (h₂.objs.size+1) c.env={ newEnv scope (h₂.objs.size+1) c.env.globals cl c.env.qual none .none (some c.env) builtinsNs with scope:=relabel scope c.env }:=rfl
 have lts:∀ {h:Heap} {b:Nat} {o:Obj},h.get? b=some o→b<h.objs.size:=λe=>Heap.lt_size e
 unfold newList
 refine wpAny_newObj_type (wpAny_newFunctionEnv hcell (by simp) (λh₄ hns hsb=>?_) hk) (by show (([]:List Value).toArray).size≤sizeLine;simp)
 have eC:(h₂.push (lobj [] 0)).objs.size=h₂.objs.size+1:=Heap.size_push ..
 have eD:({ cls:=.type "list",dict:=none,data:=.seq ([]:List Value).toArray }:Obj)=lobj [] 0:=rfl
 dsimp only at hns hsb ⊢
 rw [eD] at hns hsb
 simp only [eD]
 rw [eC] at hns hsb ⊢
 rw [←hCE]
 obtain ⟨C,hCd⟩:∃C,C=h₂.objs.size+1:=⟨_,rfl⟩
 rw [←hCd] at hns hsb ⊢
 obtain ⟨D,hDd⟩:∃D,D=h₂.objs.size:=⟨_,rfl⟩
 have hDC:@LT.lt Nat _ D C:=by lia
 have k24:∀b o,h₂.get? b=some o→h₄.get? b=some o:=λb o e=>hsb.extBut b o (neA (by have:=lts e;lia)) (Heap.get?_push_of_some _ (Heap.get?_push_of_some _ e))
 have hz4:@LT.lt Nat _ C h₄.objs.size:=hns.lt
 have hD4:h₄.get? D=some (lobj [] 0):=by
  rw [hDd]
  exact hsb.extBut _ _ (neA (by lia)) (Heap.get?_push_of_some _ (Heap.get?_push_size _ rfl))
 have hn4:h₄.Ns C (lk [("kind",none)]):=by
  have e:(λx=>List.lookup x ([]:List (Str×Value)).reverse)=lk [("kind",none)]:=by
   funext x
   show _=if x="kind" then none else none
   split<;>rfl
  rw [←e];exact hns
 have h10:1000≤sizeLine:=by decide
 have hsz2:c.h₀.objs.size≤h₂.objs.size:=F₂.size
 have hLt:@LT.lt Nat _ c.L h₂.objs.size:=F₂.ltL
 have nN:∀b:Nat,h₂.objs.size≤b→b∉N.map (·.1):=λb hb q=>by
  obtain ⟨p,hp,e⟩:=List.mem_map.mp q
  have e1:@Eq Nat p.1 b:=e
  have:@LT.lt Nat _ p.1 h₂.objs.size:=F₂.belowN p hp
  lia
 have hDz:h₂.objs.size≤D:=Nat.le_of_eq hDd.symm
 have hCz:h₂.objs.size≤C:=by show @LE.le Nat _ _ C;lia
 have hX:∀b∈D::C::wr,c.h₀.objs.size≤b∧b≠c.L∧b∉N.map (·.1):=by
  intro b hb
  rcases List.mem_cons.mp hb with rfl | hb
  ·exact ⟨Nat.le_trans hsz2 hDz,neA (by lia),nN b hDz⟩
  rcases List.mem_cons.mp hb with rfl | hb
  ·exact ⟨Nat.le_trans hsz2 hCz,neA (by lia),nN b hCz⟩
  ·exact hwr b hb
 have F4:SS c.h₀ c.S ((D::C::wr)++c.X) c.L l N Φ h₄:=F₂.moreX (Y:=[D,C]) k24 (by show @LE.le Nat _ _ _;lia) (λb hb=>by
  revert b hb
  refine f2 ?_ ?_
  ·exact ⟨hDz,Nat.lt_trans hDC hz4⟩
  ·exact ⟨hCz,hz4⟩)
 have hsub:∀W:List Addr,(∀b∈W,b=c.L∨b∈D::C::wr)→∀b∈W,b=c.L∨(b∈(D::C::wr)++c.X∧c.h₀.objs.size≤b∧b∉N.map (·.1)):=λW hW b hb=>(hW b hb).imp id λq=>⟨List.mem_append_left _ q,(hX b q).1,(hX b q).2.2⟩
 have hwlt:∀b:Nat,b∈wr→b<h₂.objs.size:=λb hb=>(hfp b (IT.sub b hb)).1
 have hLw:c.L∉wr:=λq=>(hwr _ q).2.1 rfl
 have hCw:C∉wr:=λq=>absurd (hwlt C q) (Nat.not_lt.mpr hCz)
 have hDw:D∉wr:=λq=>absurd (hwlt D q) (Nat.not_lt.mpr hDz)
 have hLC:c.L≠C:=neA (by lia)
 have hLD:c.L≠D:=neA (by lia)
 have hadC:ad≠C:=λq=>nN C hCz (by rw [←q];exact List.mem_map_of_mem (f:=Prod.fst) hd)
 have loop:∀h t,St 0 h→h.Ns C (lk [("kind",none)])→h.get? D=some (lobj [] 0)→SS c.h₀ c.S ((D::C::wr)++c.X) c.L l N Φ h→h₄.objs.size≤h.objs.size →
   codeAny (model c.prog c.w) c.A (.compLoop (.ListComp elt [⟨.Name "kind" px,iter,[],0⟩] scope pos) 0 it (.ref D) (compEnvC scope cl C c.env)) (compPost (model c.prog c.w) c.A E (some (assign (.Name x p') c.env)) (λ_ s'=>wpAny (model c.prog c.w) c.A (pure Flow.next) (λf s'=>match f with | .next=>c.wp (execs rest c.env) Q E s' | f=>Q f s') E s') (.ref D) C) (c.st h t):=by
  intro h t hst0 hn0 hD0 F0 hz0
  refine compLoop_any (λk s=>Ex6 λi h t lv ys kk=>An10 (s=c.st h t) (i≤10) (k=10 - i) (St i h) (lv.map (·.1)=[("kind":Str)]) (h.Ns C (lk lv)) (h.get? D=some (lobj ys kk)) (RL StrR ((List.range i).map kAns) ys h) (SS c.h₀ c.S ((D::C::wr)++c.X) c.L l N Φ h) (h₄.objs.size≤h.objs.size)) ?_ 10
   ⟨0,h,t,_,[],0,rfl,Nat.zero_le _,rfl,hst0,rfl,hn0,hD0,.nil,F0,hz0⟩
  rintro k s ⟨i,h,t,lv,ys,kk,rfl,hi,rfl,hsti,hlv,hni,hDi,hys,Fi,hzi⟩
  have hlen:ys.length=i:=by have:=hys.1;simpa using this
  by_cases hlt:i<10
  ·refine wpAny_mono (IT.item i h t (λv s₁=>wpAny (model c.prog c.w) c.A (assign (.Name "kind" px) (compEnvC scope cl C c.env) v) (λ_ s₂=>wpAny (model c.prog c.w) c.A (eval elt (compEnvC scope cl C c.env)) (λx s₃ =>
     wpAny (model c.prog c.w) c.A (call (.builtin "list.append") [.ref D,x]) (λ_ s₄=>∃m',m'<10 - i∧Ex6 λi h t lv ys kk=>An10 (s₄=c.st h t) (i≤10) (m'=10 - i) (St i h) (lv.map (·.1)=[("kind":Str)]) (h.Ns C (lk lv)) (h.get? D=some (lobj ys kk)) (RL StrR ((List.range i).map kAns) ys h) (SS c.h₀ c.S ((D::C::wr)++c.X) c.L l N Φ h) (h₄.objs.size≤h.objs.size)) NoE s₃) NoE s₂) NoE s₁) hlt hsti ?_) ?_ (λ_ _ y=>y)
   ·intro v h' t' hP hst' hz' hk'
    have hnL':h'.Ns c.L (lk l):=ns_keeps Fi.ns hk' hLw
    have F':=Fi.stayX (hsub wr λb hb=>.inr (.tail _ (.tail _ hb))) hk' hnL' hz'
    have F'c:c.SS l N Φ h':=F'.lessX (wr:=D::C::wr)
    obtain ⟨vs,hvl,asg,hsem⟩:=conv i v h' hP
    obtain ⟨ui,rfl⟩:=hsem h₂ λ_ _ _ _ _ e=>e
    have ok:(compCx c scope cl h' C).Ok n:=⟨hk,rfl,H.globals,H.builtins,H.A,H.W1 F'c,H.dom,(λb hb=>nomatch hb),Nat.le_trans H.W.size (Nat.le_trans hsz2 hCz)⟩
    have hcell':h'.get? ad=some (cobj (some (.int dv ud))):=(F'c.news _ hd).1
    have Fcc:(compCx c scope cl h' C).SS lv [] (λh=>h.get? ad=some (cobj (some (.int dv ud)))) h':=⟨ns_keeps hni hk' hCw,by rw [hlv];simp,λ_ _ _ _ e=>e,λ_ hp=>(nomatch hp),List.nodup_nil,Nat.le_refl _,(λ_ hb=>nomatch hb),
     λh'' q=>q ad _ hadC (by simp) (by simp) hcell'⟩
    refine wpAny_mono (asg.2 _ n lv _ t' ok (λx hx=>by rw [List.mem_singleton.mp hx];exact lookup_relabel_local hloc) hlv Fcc) (λ_ s₂ h₂'=>?_) λ_ _ y=>y
    obtain ⟨h2,t2,rfl,F2⟩:=h₂'
    refine helt h' C i ui h2 t2 _ hlt ok F2 hnL' hLC (λu h3 t3 k3 hn3 hL3 hz3=>?_)
    have hD3:h3.get? D=some (lobj ys kk):=k3 D _ hLD.symm (neA (Nat.ne_of_lt hDC)) (hk' _ _ hDw hDi)
    have hf3:∀b∈fp,b≠c.L∧b≠C∧b≠D:=λb hb=>⟨(hfp b hb).2.1,neA (Nat.ne_of_lt (Nat.lt_of_lt_of_le (hfp b hb).1 hCz)),neA (Nat.ne_of_lt (Nat.lt_of_lt_of_le (hfp b hb).1 hDz))⟩
    refine wpAny_list_append_plain (items:=ys.toArray) (hsz:=by simp only [List.size_toArray,hlen];lia) ⟨kk,hD3⟩ λh₅ hl₅ hs₅=>?_
    obtain ⟨k5,hD5⟩:=hl₅
    have k35:∀b o,b≠c.L→b≠C→b≠D→h'.get? b=some o→h₅.get? b=some o:=λb o b1 b2 b3 e=>(hs₅.2 b b3).trans (k3 b o b1 b2 e)
    refine ⟨10 - (i+1),by lia,i+1,h₅,t3,_,ys++[.str (kAns i) u],k5,rfl,hlt,rfl,?_,?_,hn3.sameBut hs₅ (neA (Nat.ne_of_gt hDC)),by rw [hD5];simp,?_,?_,?_⟩
    ·exact IT.frame _ _ _ hst' λb hb o e=>k35 b o (hf3 b hb).1 (hf3 b hb).2.1 (hf3 b hb).2.2 e
    ·rfl
    ·rw [List.range_succ,List.map_append]
     exact (hys.mono λ_ _ r=>r).append (.cons ⟨u,rfl⟩ .nil)
    ·refine F'.stayX (W:=[c.L,C,D]) (hsub _ λb hb=>?_) (λb o hb e=>k35 b o (λq=>hb (by simp [q])) (λq=>hb (by simp [q])) (λq=>hb (by simp [q])) e) (hL3.sameBut hs₅ hLD) (by rw [hs₅.1];exact hz3)
     revert b hb
     refine f3 ?_ ?_ ?_
     ·exact .inl rfl
     ·exact .inr (.tail _ (.head _))
     ·exact .inr (.head _)
    ·rw [hs₅.1];exact Nat.le_trans hzi (Nat.le_trans hz' hz3)
   ·rintro r s₁ ⟨v,rfl,hv⟩
    exact hv
  ·have him:i=10:=by lia
   subst him
   refine wpAny_mono (IT.done h t (λs₁=>compPost (model c.prog c.w) c.A E (some (assign (.Name x p') c.env)) (λ_ s'=>wpAny (model c.prog c.w) c.A (pure Flow.next) (λf s'=>match f with | .next=>c.wp (execs rest c.env) Q E s' | f=>Q f s') E s') (.ref D) C (.ok .next) s₁) hsti ?_) ?_ (λ_ _ y=>y)
   ·intro h' t' hz' hk'
    have F':=Fi.stayX (hsub wr λb hb=>.inr (.tail _ (.tail _ hb))) hk' (ns_keeps Fi.ns hk' hLw) hz'
    have hn':h'.Ns C (lk lv):=ns_keeps hni hk' hCw
    show wpAny (model c.prog c.w) c.A (assign (.Name x p') c.env (.ref D)) _ E (c.st h' t')
    refine wpAny_assign_Name (wpAny_storeName_local hl (by rw [H.locals];exact F'.ns) (λh3 hn3 hs3=>?_) (by rw [H.kind];rfl))
    rw [H.locals] at hn3 hs3
    refine ⟨_,hn'.sameBut hs3 hLC.symm,λh4 hs4=>?_⟩
    have F3:SS c.h₀ c.S ((D::C::wr)++c.X) c.L (l.set ix (x,some (.ref D))) N Φ h3:=F'.setL (by rw [lk_set F'.nd hix];exact hn3) (by rw [keys_set hix];exact F'.nd) hs3
    have F5:=F3.stayX (W:=[C]) (hsub _ λb hb=>by rw [List.mem_singleton.mp hb];exact .inr (.tail _ (.head _))) (λb o hb e=>(hs4.2 b (λq=>hb (by simp [q]))).trans e) (F3.ns.sameBut hs4 hLC) (by rw [hs4.1];exact Nat.le_refl _)
    have F6:=F5.lessX (wr:=D::C::wr)
    have hD6:h4.get? D=some (lobj ys kk):=(hs4.2 D (neA (Nat.ne_of_lt hDC))).trans ((hs3.2 D hLD.symm).trans (hk' _ _ hDw hDi))
    refine wpAny_pure (hQ D h4 _ (F6.know λh5 q=>⟨D,ys,kk,rfl,q D _ hLD.symm (λr=>?_) (nN D hDz) hD6,hys.mono λ_ _ r=>r⟩))
    exact absurd (F₂.xlt D (List.mem_append_right _ r)) (Nat.not_lt.mpr hDz)
   ·rintro r s₁ ⟨rfl,hs⟩
    exact hs
 rw [←hDd]
 refine codeAny_compStart_list ?_ ?_
 ·exact loop h₄ _ (IT.frame _ _ _ st λb _ o e=>k24 b o e) hn4 hD4 F4 (Nat.le_refl _)
 ·refine ex (wpAny_mono (IT.self h₄ _ (λs=>∃t,s=c.st h₄ t) (IT.frame _ _ _ st λb _ o e=>k24 b o e) ⟨_,rfl⟩) ?_ λ_ _ y=>y)
  rintro it' s' ⟨rfl,t',rfl⟩
  exact loop h₄ t' (IT.frame _ _ _ st λb _ o e=>k24 b o e) hn4 hD4 F4 (Nat.le_refl _)
end
end
section
theorem mulA {x:Int} {Q:VQ} (hl:s.heap.get? la=some { cls:=.type "list",dict:=none,data:=.seq items 0,slots:=#[] })
  (hlo : -(2 ^ 63:Int)≤x) (hhi:x<2 ^ 63) (hsz:items.size*x.toNat≤2 ^ 24)
  (h:Q (.ref s.heap.objs.size) { s with heap:=s.heap.push { cls:=.type "list",data:=.seq (List.foldl (λx1 x2=>x1++x2) #[] (List.replicate (if items.isEmpty=true then 0 else x.toNat) items)) } }):wpAny (model prog w) A (binaryOp .Mult (.ref la) (.int x u)) Q E s :=
 wpAny_binaryOp_repeat_ref (T:="list") (U:="int") (by decide) ⟨_,hl,rfl⟩ (λs'=>typeIs_int s' x u) noFill_list_mul F.fills_int_mul F.slot_int_rmul repeat_list F.slot_int_index.lookup
  (call_meets F.slot_int_rmul (typeIs_int s x u) F.entry_int_rmul (F.args_int_rmul_2 _ _) (int___rmul___int_list x u la items 0)
   ⟨hl,rfl,⟨_,hl,rfl⟩,call_meets F.slot_list_mul ⟨_,hl,rfl⟩ F.entry_list_mul (F.args_list_mul_2 _ _)
    (AutoListH.list___mul___list_int_3 la items 0 x u (by simp [Builtin.List.listFitsIndex];lia) (by lia) (by simp [Builtin.List.listTooLong,sizeLine];lia)) ⟨hl,h⟩⟩)
theorem mulL {Q:VQ} (hl:s.heap.get? la=some (lobj [v] 0)) (hk:k≤1000)
  (h:Q (.ref s.heap.objs.size) { s with heap:=s.heap.push (lobj (List.replicate k v) 0) }):wpAny (model prog w) A (binaryOp .Mult (.ref la) (.int (k:Int) u)) Q E s:=by
 refine mulA hl (by trivial) (by lia) (by simp;lia) ?_
 rw [PyProof.Rows.listMul_foldl_if,Int.toNat_natCast,List.flatten_replicate_singleton]
 exact h
section
theorem RL.rep {x:PySem.Str}:∀k:Nat,RL StrR (List.replicate k x) (List.replicate k (.str x u)) h
 | 0=>.nil
 | k+1=>.cons ⟨u,rfl⟩ (RL.rep k)
theorem EvF.mulS {x:PySem.Str} {i:Int} (hk:i=(k:Int)) (hk1:k≤1000)
  (s1:Unst (.Constant (.str x) k1 p1) [] c.env:=by rfl) :
  EvF c l N Φ (.BinOp (.List [.Constant (.str x) k1 p1] p2) .Mult (.Constant (.int i) k2 p3) pos) (LR StrR (List.replicate k x)):=by
 subst hk
 intro Φ' kk h t Q E F hQ
 refine wpAny_BinOp (PyProof.Rows.List_ ?_)
 rw [s1]
 refine spliced_cons (Calls.Constant_str (k:=k1) (pos:=p1) (spliced_nil (wpAny_newList ?_ (by show 1≤sizeLine;decide))))
 refine wpAny_Constant_int ?_
 have F1:=F.push' (lobj [.str x t] 0)
 have e1:(h.push (lobj [.str x t] 0)).get? h.objs.size=some (lobj [.str x t] 0):=Heap.get?_push_size _ rfl
 refine mulL e1 hk1 ?_
 have F2:=F1.push' (lobj (List.replicate k (.str x t)) 0)
 exact hQ _ _ _ F2 (Nat.le_trans (Grow.push _ _).1 (Grow.push _ _).1) λh' q=>⟨_,_,0,rfl,q _ _ (by rw [Heap.size_push];exact Nat.le_succ _) (Heap.get?_push_size _ rfl),RL.rep k⟩
theorem EvR.eqL {xs:List PySem.Str} (h1:EvR c l N Φ e1 (LR StrR xs)) (h2:EvR c l N Φ e2 (LR StrR xs)) (H:c.Ok n) (hz:xs.length≤1000)
  (he:∀ {Q:VQ} {E:VQ} {s:Shared},c.wp (eval e1 c.env) (λa s₁=>c.wp (eval e2 c.env) (λb s₂=>c.wp (compareOp .Eq a b) Q E s₂) E s₁) E s→c.wp (eval (.Compare e1 [.Eq] [e2] pos) c.env) Q E s:=by intro _ _ _ h;exact wpAny_Compare1 h) :
  EvR c l N Φ (.Compare e1 [.Eq] [e2] pos) (λv _=>v = .bool true):=by
 intro Φ' kΦ h t Q E F hQ
 refine he (h1 _ kΦ h t _ _ F λv h1 t1 F1=>h2 _ (λh y=>kΦ h y.1) h1 t1 _ _ F1 λw h2 t2 F2=>?_)
 obtain ⟨a,ys,kk,rfl,ha,hR⟩:=F2.phi.1.2
 obtain ⟨b,ws,kk',rfl,hb,hR'⟩:=F2.phi.2
 have hs:ys.toArray.size=ws.toArray.size:=by simp [hR.1,hR'.1]
 refine SeqAt.eq_listAt (e:=λ_=>true) ⟨_,ha,rfl,_,rfl⟩ ⟨_,hb,rfl,_,rfl⟩ hs (by have:=H.A.2.2.1;lia) (λj q1 q2=>?_) ?_
 ·obtain ⟨x,ex,u,e1⟩:=hR.2 j ys[j] (List.getElem?_eq_getElem (by simpa using q1))
  obtain ⟨x',ex',u',e2⟩:=hR'.2 j ws[j] (List.getElem?_eq_getElem (by simpa using q2))
  rw [ex] at ex';cases ex'
  have:=SeqAt.EqAt.str_str (A:=c.A.in1) (s:=c.st h2 t2) x u x u'
  rw [beq_self_eq_true] at this
  simpa [e1,e2] using this
 ·have:((List.range ys.toArray.size).all λ_=>true)=true:=by simp
  rw [this]
  exact hQ _ h2 t2 (F2.weaken λ_ y=>⟨y.1.1,rfl⟩)
end
end
section
noncomputable def pkw (w:Nat→Nat):Nat:=w 0+2 ^ 64*(w 1+2 ^ 64*(w 2+2 ^ 64*w 3))
noncomputable def Ln32 (w:Nat→Nat):Prop:=∀i,w i<2 ^ 32
theorem tb2 {a b:Nat} (h:a<2 ^ i) (j:Nat):(a+2 ^ i*b).testBit j=if j<i then a.testBit j else b.testBit (j - i):=by
 rw [Nat.add_comm];exact Nat.testBit_two_pow_mul_add b h j
theorem tb_hi {x:Nat} (h:x<2 ^ n) (hj:n≤j):x.testBit j=false:=Nat.testBit_lt_two_pow (Nat.lt_of_lt_of_le h (Nat.pow_le_pow_right (by decide) hj))
theorem tb0 {a b:Nat} (h:a<2 ^ 64) (hk:k<64):(a+2 ^ 64*b).testBit (64*0+k)=a.testBit k:=by
 rw [Nat.mul_zero,Nat.zero_add,tb2 h,if_pos hk]
theorem tbs {a b:Nat} (i:Nat) (h:a<2 ^ 64):(a+2 ^ 64*b).testBit (64*(i+1)+k)=b.testBit (64*i+k):=by
 rw [Nat.mul_add,Nat.add_right_comm,tb2 h,if_neg (Nat.not_lt.mpr (Nat.le_add_left 64 _)),Nat.add_sub_cancel]
theorem pkw_tb {w:Nat→Nat} (h:∀i,w i<2 ^ 64) (hi:i<4) (hk:k<64):(pkw w).testBit (64*i+k)=(w i).testBit k:=by
 unfold pkw
 cases i with
 | zero=>exact tb0 (h 0) hk
 | succ i =>
  rw [tbs i (h 0)]
  cases i with
  | zero=>exact tb0 (h 1) hk
  | succ i =>
   rw [tbs i (h 1)]
   cases i with
   | zero=>exact tb0 (h 2) hk
   | succ i =>
    obtain rfl:i=0:=Nat.lt_one_iff.mp (Nat.lt_of_add_lt_add_right (n:=3) hi)
    rw [tbs 0 (h 2),Nat.mul_zero,Nat.zero_add]
theorem pkw_hi {w:Nat→Nat} (h:∀i,w i<2 ^ 64) (hj:256≤j):(pkw w).testBit j=false:=by
 obtain ⟨k,rfl⟩:=Nat.exists_eq_add_of_le hj
 unfold pkw
 rw [show 256+k=64*(3+1)+k from rfl,tbs 3 (h 0),tbs 2 (h 1),tbs 1 (h 2)]
 exact tb_hi (h 3) (Nat.le_add_right _ _)
theorem pkw_ext {x:Nat} {w:Nat→Nat} (h:∀i,w i<2 ^ 64) (hx:∀j,256≤j→x.testBit j=false) (hb:∀i k,i<4→k<64→x.testBit (64*i+k)=(w i).testBit k):x=pkw w:=by
 refine Nat.eq_of_testBit_eq λj=>?_
 by_cases hj:256≤j
 ·rw [hx j hj,pkw_hi h hj]
 ·have hd:j / 64<4:=Nat.div_lt_of_lt_mul (Nat.lt_of_not_le hj)
  have hm:j % 64<64:=Nat.mod_lt j (by decide)
  rw [←Nat.div_add_mod j 64,hb _ _ hd hm,pkw_tb h hd hm]
theorem pkw_congr {w v:Nat→Nat} (h0:w 0=v 0) (h1:w 1=v 1) (h2:w 2=v 2) (h3:w 3=v 3):pkw w=pkw v:=by unfold pkw;rw [h0,h1,h2,h3]
theorem up64 {w:Nat→Nat} (h:Ln32 w):∀i,w i<2 ^ 64:=λi=>Nat.lt_trans (h i) (by decide)
theorem mask_pkw:MASK=pkw (λ_=>4294967295):=by decide +kernel
theorem m32_tb (k:Nat):(4294967295:Nat).testBit k=decide (k<32):=Nat.testBit_two_pow_sub_one 32 k
theorem mask_tb (hi:i<4) (hk:k<64):MASK.testBit (64*i+k)=decide (k<32):=by
 rw [mask_pkw,pkw_tb (λ_=>by decide) hi hk,m32_tb]
theorem mask_hi (hj:256≤j):MASK.testBit j=false:=by rw [mask_pkw,pkw_hi (λ_=>by decide) hj]
theorem pkw_add (w v:Nat→Nat):pkw w+pkw v=pkw (λi=>w i+v i):=by unfold pkw;dsimp only;lia
theorem and32_lt (x:Nat):x &&& 4294967295<2 ^ 32:=Nat.lt_of_le_of_lt Nat.and_le_right (by decide)
theorem pkw_mask {w:Nat→Nat} (h:∀i,w i<2 ^ 64):pkw w &&& MASK=pkw (λi=>w i &&& 4294967295):=by
 refine pkw_ext (λi=>Nat.lt_trans (and32_lt _) (by decide)) (λj hj=>by rw [Nat.testBit_and,mask_hi hj,Bool.and_false]) (λi k hi hk=>?_)
 rw [Nat.testBit_and,mask_tb hi hk,pkw_tb h hi hk,Nat.testBit_and,m32_tb]
theorem pkw_xor {w v:Nat→Nat} (h:Ln32 w) (h':Ln32 v):pkw w ^^^ pkw v=pkw (λi=>w i ^^^ v i):=by
 refine pkw_ext (λi=>Nat.xor_lt_two_pow (up64 h i) (up64 h' i)) (λj hj=>by rw [Nat.testBit_xor,pkw_hi (up64 h) hj,pkw_hi (up64 h') hj];rfl) (λi k hi hk=>?_)
 rw [Nat.testBit_xor,pkw_tb (up64 h) hi hk,pkw_tb (up64 h') hi hk,Nat.testBit_xor]
theorem qv_lt {a b c:Nat} (h:a<2 ^ 32) (hm:m=2 ^ (32 - k) - 1) (hk:k<32):qv a b c m k<2 ^ 32:=by
 unfold qv
 refine Nat.xor_lt_two_pow h (Nat.or_lt_two_pow ?_ ?_)
 ·rw [hm]
  have h1:((b+c) &&& 4294967295) &&& (2 ^ (32 - k) - 1)<2 ^ (32 - k):=Nat.lt_of_le_of_lt Nat.and_le_right (Nat.sub_lt (Nat.two_pow_pos _) (by decide))
  rw [Nat.shiftLeft_eq]
  have h2:(2:Nat) ^ 32=2 ^ (32 - k)*2 ^ k:=by rw [←Nat.pow_add,Nat.sub_add_cancel (Nat.le_of_lt hk)]
  rw [h2]
  exact Nat.mul_lt_mul_of_pos_right h1 (Nat.two_pow_pos _)
 ·exact Nat.lt_of_le_of_lt (Nat.shiftRight_le _ _) (and32_lt _)
theorem nstep_pkw {t a b:Nat→Nat} (ht:Ln32 t) (ha:Ln32 a) (hb:Ln32 b) (hm:m=2 ^ (32 - k) - 1) (hk1:1≤k) (hk:k<32):nstep (pkw t) (pkw a) (pkw b) k=pkw (λi=>qv (t i) (a i) (b i) m k):=by
 unfold nstep
 rw [pkw_add,pkw_mask (λi=>Nat.lt_of_lt_of_le (Nat.add_lt_add (ha i) (hb i)) (by decide))]
 generalize hs:(λi=>(a i+b i) &&& 4294967295)=s
 have hs32:Ln32 s:=λi=>by rw [←hs];exact and32_lt _
 have key:((pkw s <<< k ||| pkw s >>> (32 - k)) &&& MASK)=pkw (λi=>(s i &&& m) <<< k ||| s i >>> (32 - k)):=by
  have hlt:∀i,(s i &&& m) <<< k ||| s i >>> (32 - k)<2 ^ 32:=λi=>by
   have:=qv_lt (a:=0) (b:=s i) (c:=0) (m:=m) (k:=k) (by decide) hm hk
   unfold qv at this
   have e:s i+0 &&& 4294967295=s i:=by rw [Nat.add_zero];exact Nat.and_two_pow_sub_one_of_lt_two_pow (n:=32) (hs32 i)
   rw [e,Nat.zero_xor] at this
   exact this
  refine pkw_ext (λi=>Nat.lt_trans (hlt i) (by decide)) (λj hj=>by rw [Nat.testBit_and,mask_hi hj,Bool.and_false]) (λi j hi hj=>?_)
  rw [Nat.testBit_and,mask_tb hi hj,Nat.testBit_or,Nat.testBit_shiftLeft,Nat.testBit_shiftRight,Nat.testBit_or,Nat.testBit_shiftLeft,Nat.testBit_and,Nat.testBit_shiftRight,hm,Nat.testBit_two_pow_sub_one]
  by_cases h32:j<32
  ·have hj2:32 - k+j<64:=Nat.lt_of_lt_of_le (Nat.add_lt_add_left h32 _) (Nat.add_le_add_right (Nat.sub_le 32 k) 32)
   rw [decide_eq_true h32,Bool.and_true,Nat.add_left_comm,pkw_tb (up64 hs32) hi hj2]
   by_cases hjk:k≤j
   ·have hj3:j - k<32 - k:=Nat.sub_lt_sub_right hjk h32
    rw [decide_eq_true (Nat.le_trans hjk (Nat.le_add_left j (64*i))),decide_eq_true (show j ≥ k from hjk),decide_eq_true hj3,Nat.add_sub_assoc hjk,pkw_tb (up64 hs32) hi (Nat.lt_of_le_of_lt (Nat.sub_le j k) hj),Bool.true_and,Bool.true_and,Bool.and_true]
   ·rw [decide_eq_false (show ¬ j ≥ k from hjk),Bool.false_and]
    have e:(decide (64*i+j ≥ k) && (pkw s).testBit (64*i+j - k))=false:=by
     cases i with
     | zero=>rw [Nat.mul_zero,Nat.zero_add,decide_eq_false (show ¬ j ≥ k from hjk),Bool.false_and]
     | succ i =>
      have hle:k≤64+j:=Nat.le_trans (Nat.le_of_lt hk) (Nat.le_trans (by decide) (Nat.le_add_right 64 j))
      have hjk':j+(64 - k)<64:=Nat.lt_of_lt_of_le (Nat.add_lt_add_right (Nat.lt_of_not_le hjk) _) (Nat.le_of_eq (Nat.add_sub_cancel' (Nat.le_trans (Nat.le_of_lt hk) (by decide))))
      have e2:64*(i+1)+j - k=64*i+(j+(64 - k)):=by
       rw [Nat.mul_add,Nat.mul_one,Nat.add_assoc,Nat.add_sub_assoc hle,Nat.add_comm 64 j,Nat.add_sub_assoc (Nat.le_trans (Nat.le_of_lt hk) (by decide))]
      rw [e2,pkw_tb (up64 hs32) (Nat.lt_of_succ_lt hi) hjk',tb_hi (hs32 i) (Nat.le_trans (Nat.le_sub_of_add_le (Nat.add_le_add_left (Nat.le_of_lt hk) 32)) (Nat.le_add_left _ j)),Bool.and_false]
    rw [e]
  ·have h32:=Nat.le_of_not_lt h32
   rw [decide_eq_false (Nat.not_lt.mpr h32),Bool.and_false,decide_eq_false (Nat.not_lt.mpr (Nat.sub_le_sub_right h32 k)),tb_hi (hs32 i) (Nat.le_trans h32 (Nat.le_add_left j _)),Bool.and_false,Bool.and_false,Bool.or_false]
 rw [key,pkw_xor ht]
 ·refine pkw_congr ?_ ?_ ?_ ?_<;>(subst hs;rfl)
 ·intro i
  have:=qv_lt (a:=0) (b:=s i) (c:=0) (m:=m) (k:=k) (by decide) hm hk
  unfold qv at this
  have e:s i+0 &&& 4294967295=s i:=by rw [Nat.add_zero];exact Nat.and_two_pow_sub_one_of_lt_two_pow (n:=32) (hs32 i)
  rw [e,Nat.zero_xor] at this
  exact this
theorem m64 (i c j:Nat):64*(i+c)+j=64*i+j+64*c:=by rw [Nat.mul_add,Nat.add_right_comm]
theorem npass_pkw {w:Nat→Nat} {by_:Nat} (hw:Ln32 w) (h1:1≤by_) (h3:by_≤3):npass (pkw w) by_=pkw (λi=>w ((i+by_) % 4)):=by
 unfold npass
 obtain ⟨c,hc⟩:∃c,4=c+by_:=Nat.exists_eq_add_of_le' (Nat.le_succ_of_le h3)
 have e4:256 - 64*by_=64*c:=Nat.sub_eq_of_eq_add (by rw [←Nat.mul_add,←hc])
 rw [e4]
 refine pkw_ext (λi=>up64 hw _) (λj hj=>by rw [Nat.testBit_and,mask_hi hj,Bool.and_false]) (λi j hi hj=>?_)
 rw [Nat.testBit_and,mask_tb hi hj,Nat.testBit_or,Nat.testBit_shiftRight,Nat.testBit_shiftLeft]
 by_cases h32:j<32
 ·rw [decide_eq_true h32,Bool.and_true,Nat.add_comm (64*by_),←m64]
  by_cases hic:c≤i
  ·obtain ⟨d,rfl⟩:=Nat.exists_eq_add_of_le' hic
   have e:d+c+by_=d+4:=by rw [Nat.add_assoc,←hc]
   have hd:d<4:=Nat.lt_of_le_of_lt (Nat.le_add_right d c) hi
   rw [e,pkw_hi (up64 hw) (Nat.le_trans (Nat.mul_le_mul_left 64 (Nat.le_add_left 4 d)) (Nat.le_add_right _ _)),m64 d c j,decide_eq_true (Nat.le_add_left (64*c) (64*d+j)),Nat.add_sub_cancel,pkw_tb (up64 hw) hd hj,Nat.add_mod_right,Nat.mod_eq_of_lt hd]
   rfl
  ·have hib:i+by_<4:=by rw [hc];exact Nat.add_lt_add_right (Nat.lt_of_not_le hic) by_
   rw [pkw_tb (up64 hw) hib hj,decide_eq_false (Nat.not_le.mpr (Nat.lt_of_lt_of_le (Nat.add_lt_add_left hj (64*i)) (Nat.mul_le_mul_left 64 (Nat.lt_of_not_le hic)))),Nat.mod_eq_of_lt hib,Bool.false_and,Bool.or_false]
 ·rw [decide_eq_false h32,Bool.and_false,tb_hi (hw _) (Nat.le_of_not_lt h32)]
end
section
noncomputable def L4f (a b c d:Nat):Nat→Nat:=λi=>if i=0 then a else if i=1 then b else if i=2 then c else d
noncomputable def pk4 (a b c d:Nat):Nat:=pkw (L4f a b c d)
noncomputable def B4 (a b c d:Nat):Prop:=a<2 ^ 32∧b<2 ^ 32∧c<2 ^ 32∧d<2 ^ 32
theorem B4.ln {a b c d:Nat} (h:B4 a b c d):Ln32 (L4f a b c d):=λi=>by
 unfold L4f
 split
 ·exact h.1
 ·split
  ·exact h.2.1
  ·split
   ·exact h.2.2.1
   ·exact h.2.2.2
theorem nstep4 {t0 t2 t3 a0 a1 a2 a3 b0 b1 b2 b3:Nat} (ht:B4 t0 t1 t2 t3) (ha:B4 a0 a1 a2 a3) (hb:B4 b0 b1 b2 b3) (hm:m=2 ^ (32 - k) - 1) (hk1:1≤k) (hk:k<32) :
  nstep (pk4 t0 t1 t2 t3) (pk4 a0 a1 a2 a3) (pk4 b0 b1 b2 b3) k=pk4 (qv t0 a0 b0 m k) (qv t1 a1 b1 m k) (qv t2 a2 b2 m k) (qv t3 a3 b3 m k) :=
 (nstep_pkw ht.ln ha.ln hb.ln hm hk1 hk).trans (pkw_congr rfl rfl rfl rfl)
theorem B4.qv {t0 t2 t3 a0 a1 a2 a3 b0 b1 b2 b3:Nat} (ht:B4 t0 t1 t2 t3) (hm:m=2 ^ (32 - k) - 1) (hk:k<32):B4 (qv t0 a0 b0 m k) (qv t1 a1 b1 m k) (qv t2 a2 b2 m k) (qv t3 a3 b3 m k) :=
 ⟨qv_lt ht.1 hm hk,qv_lt ht.2.1 hm hk,qv_lt ht.2.2.1 hm hk,qv_lt ht.2.2.2 hm hk⟩
theorem pass1 {a b c d:Nat} (h:B4 a b c d):npass (pk4 a b c d) 1=pk4 b c d a:=(npass_pkw h.ln (by decide) (by decide)).trans (pkw_congr rfl rfl rfl rfl)
theorem pass2 {a b c d:Nat} (h:B4 a b c d):npass (pk4 a b c d) 2=pk4 c d a b:=(npass_pkw h.ln (by decide) (by decide)).trans (pkw_congr rfl rfl rfl rfl)
theorem pass3 {a b c d:Nat} (h:B4 a b c d):npass (pk4 a b c d) 3=pk4 d a b c:=(npass_pkw h.ln (by decide) (by decide)).trans (pkw_congr rfl rfl rfl rfl)
noncomputable def rowsL (x:List Nat):List Nat:=[pk4 (x[0]?.getD 0) (x[5]?.getD 0) (x[10]?.getD 0) (x[15]?.getD 0),pk4 (x[4]?.getD 0) (x[9]?.getD 0) (x[14]?.getD 0) (x[3]?.getD 0),pk4 (x[8]?.getD 0) (x[13]?.getD 0) (x[2]?.getD 0) (x[7]?.getD 0),pk4 (x[12]?.getD 0) (x[1]?.getD 0) (x[6]?.getD 0) (x[11]?.getD 0)]
noncomputable def rowsQ (x:List Nat):Q4:=Q4.of (rowsL x)
noncomputable def W16 (x:List Nat):Prop:=x.length=16∧∀y∈x,y<2 ^ 32
theorem dr_rows {x0 x1 x2 x3 x4 x5 x6 x7 x8 x9 x10 x11 x12 x13 x14 x15:Nat} (hx:W16 [x0,x1,x2,x3,x4,x5,x6,x7,x8,x9,x10,x11,x12,x13,x14,x15]):dr (rowsQ [x0,x1,x2,x3,x4,x5,x6,x7,x8,x9,x10,x11,x12,x13,x14,x15])=rowsQ (wround [x0,x1,x2,x3,x4,x5,x6,x7,x8,x9,x10,x11,x12,x13,x14,x15])∧W16 (wround [x0,x1,x2,x3,x4,x5,x6,x7,x8,x9,x10,x11,x12,x13,x14,x15]):=by
 obtain ⟨_,hx⟩:=hx
 simp only [List.mem_cons,List.not_mem_nil,or_false,forall_eq_or_imp,forall_eq] at hx
 obtain ⟨k0,k1,k2,k3,k4,k5,k6,k7,k8,k9,k10,k11,k12,k13,k14,k15⟩:=hx
 obtain ⟨y0,h0⟩:∃y,y=qv x4 x0 x12 33554431 7:=⟨_,rfl⟩
 obtain ⟨y1,h1⟩:∃y,y=qv x8 y0 x0 8388607 9:=⟨_,rfl⟩
 obtain ⟨y2,h2⟩:∃y,y=qv x12 y1 y0 524287 13:=⟨_,rfl⟩
 obtain ⟨y3,h3⟩:∃y,y=qv x0 y2 y1 16383 18:=⟨_,rfl⟩
 obtain ⟨y4,h4⟩:∃y,y=qv x9 x5 x1 33554431 7:=⟨_,rfl⟩
 obtain ⟨y5,h5⟩:∃y,y=qv x13 y4 x5 8388607 9:=⟨_,rfl⟩
 obtain ⟨y6,h6⟩:∃y,y=qv x1 y5 y4 524287 13:=⟨_,rfl⟩
 obtain ⟨y7,h7⟩:∃y,y=qv x5 y6 y5 16383 18:=⟨_,rfl⟩
 obtain ⟨y8,h8⟩:∃y,y=qv x14 x10 x6 33554431 7:=⟨_,rfl⟩
 obtain ⟨y9,h9⟩:∃y,y=qv x2 y8 x10 8388607 9:=⟨_,rfl⟩
 obtain ⟨y10,h10⟩:∃y,y=qv x6 y9 y8 524287 13:=⟨_,rfl⟩
 obtain ⟨y11,h11⟩:∃y,y=qv x10 y10 y9 16383 18:=⟨_,rfl⟩
 obtain ⟨y12,h12⟩:∃y,y=qv x3 x15 x11 33554431 7:=⟨_,rfl⟩
 obtain ⟨y13,h13⟩:∃y,y=qv x7 y12 x15 8388607 9:=⟨_,rfl⟩
 obtain ⟨y14,h14⟩:∃y,y=qv x11 y13 y12 524287 13:=⟨_,rfl⟩
 obtain ⟨y15,h15⟩:∃y,y=qv x15 y14 y13 16383 18:=⟨_,rfl⟩
 obtain ⟨y16,h16⟩:∃y,y=qv y6 y3 y12 33554431 7:=⟨_,rfl⟩
 obtain ⟨y17,h17⟩:∃y,y=qv y9 y16 y3 8388607 9:=⟨_,rfl⟩
 obtain ⟨y18,h18⟩:∃y,y=qv y12 y17 y16 524287 13:=⟨_,rfl⟩
 obtain ⟨y19,h19⟩:∃y,y=qv y3 y18 y17 16383 18:=⟨_,rfl⟩
 obtain ⟨y20,h20⟩:∃y,y=qv y10 y7 y0 33554431 7:=⟨_,rfl⟩
 obtain ⟨y21,h21⟩:∃y,y=qv y13 y20 y7 8388607 9:=⟨_,rfl⟩
 obtain ⟨y22,h22⟩:∃y,y=qv y0 y21 y20 524287 13:=⟨_,rfl⟩
 obtain ⟨y23,h23⟩:∃y,y=qv y7 y22 y21 16383 18:=⟨_,rfl⟩
 obtain ⟨y24,h24⟩:∃y,y=qv y14 y11 y4 33554431 7:=⟨_,rfl⟩
 obtain ⟨y25,h25⟩:∃y,y=qv y1 y24 y11 8388607 9:=⟨_,rfl⟩
 obtain ⟨y26,h26⟩:∃y,y=qv y4 y25 y24 524287 13:=⟨_,rfl⟩
 obtain ⟨y27,h27⟩:∃y,y=qv y11 y26 y25 16383 18:=⟨_,rfl⟩
 obtain ⟨y28,h28⟩:∃y,y=qv y2 y15 y8 33554431 7:=⟨_,rfl⟩
 obtain ⟨y29,h29⟩:∃y,y=qv y5 y28 y15 8388607 9:=⟨_,rfl⟩
 obtain ⟨y30,h30⟩:∃y,y=qv y8 y29 y28 524287 13:=⟨_,rfl⟩
 obtain ⟨y31,h31⟩:∃y,y=qv y15 y30 y29 16383 18:=⟨_,rfl⟩
 rw [wround_chain h0 h1 h2 h3 h4 h5 h6 h7 h8 h9 h10 h11 h12 h13 h14 h15 h16 h17 h18 h19 h20 h21 h22 h23 h24 h25 h26 h27 h28 h29 h30 h31]
 have bA:B4 x0 x5 x10 x15:=⟨k0,k5,k10,k15⟩
 have bB:B4 x4 x9 x14 x3:=⟨k4,k9,k14,k3⟩
 have bC:B4 x8 x13 x2 x7:=⟨k8,k13,k2,k7⟩
 have bD:B4 x12 x1 x6 x11:=⟨k12,k1,k6,k11⟩
 have e1:nstep (pk4 x4 x9 x14 x3) (pk4 x0 x5 x10 x15) (pk4 x12 x1 x6 x11) 7=pk4 y0 y4 y8 y12:=by rw [nstep4 (m:=33554431) bB bA bD (by decide) (by decide) (by decide),←h0,←h4,←h8,←h12]
 have bb1:B4 y0 y4 y8 y12:=by rw [h0,h4,h8,h12];exact bB.qv (by decide) (by decide)
 have e2:nstep (pk4 x8 x13 x2 x7) (pk4 y0 y4 y8 y12) (pk4 x0 x5 x10 x15) 9=pk4 y1 y5 y9 y13:=by rw [nstep4 (m:=8388607) bC bb1 bA (by decide) (by decide) (by decide),←h1,←h5,←h9,←h13]
 have bc1:B4 y1 y5 y9 y13:=by rw [h1,h5,h9,h13];exact bC.qv (by decide) (by decide)
 have e3:nstep (pk4 x12 x1 x6 x11) (pk4 y1 y5 y9 y13) (pk4 y0 y4 y8 y12) 13=pk4 y2 y6 y10 y14:=by rw [nstep4 (m:=524287) bD bc1 bb1 (by decide) (by decide) (by decide),←h2,←h6,←h10,←h14]
 have bd1:B4 y2 y6 y10 y14:=by rw [h2,h6,h10,h14];exact bD.qv (by decide) (by decide)
 have e4:nstep (pk4 x0 x5 x10 x15) (pk4 y2 y6 y10 y14) (pk4 y1 y5 y9 y13) 18=pk4 y3 y7 y11 y15:=by rw [nstep4 (m:=16383) bA bd1 bc1 (by decide) (by decide) (by decide),←h3,←h7,←h11,←h15]
 have ba1:B4 y3 y7 y11 y15:=by rw [h3,h7,h11,h15];exact bA.qv (by decide) (by decide)
 have bb2:B4 y12 y0 y4 y8:=⟨bb1.2.2.2,bb1.1,bb1.2.1,bb1.2.2.1⟩
 have bc2:B4 y9 y13 y1 y5:=⟨bc1.2.2.1,bc1.2.2.2,bc1.1,bc1.2.1⟩
 have bd2:B4 y6 y10 y14 y2:=⟨bd1.2.1,bd1.2.2.1,bd1.2.2.2,bd1.1⟩
 have e5:nstep (pk4 y6 y10 y14 y2) (pk4 y3 y7 y11 y15) (pk4 y12 y0 y4 y8) 7=pk4 y16 y20 y24 y28:=by rw [nstep4 (m:=33554431) bd2 ba1 bb2 (by decide) (by decide) (by decide),←h16,←h20,←h24,←h28]
 have bd3:B4 y16 y20 y24 y28:=by rw [h16,h20,h24,h28];exact bd2.qv (by decide) (by decide)
 have e6:nstep (pk4 y9 y13 y1 y5) (pk4 y16 y20 y24 y28) (pk4 y3 y7 y11 y15) 9=pk4 y17 y21 y25 y29:=by rw [nstep4 (m:=8388607) bc2 bd3 ba1 (by decide) (by decide) (by decide),←h17,←h21,←h25,←h29]
 have bc3:B4 y17 y21 y25 y29:=by rw [h17,h21,h25,h29];exact bc2.qv (by decide) (by decide)
 have e7:nstep (pk4 y12 y0 y4 y8) (pk4 y17 y21 y25 y29) (pk4 y16 y20 y24 y28) 13=pk4 y18 y22 y26 y30:=by rw [nstep4 (m:=524287) bb2 bc3 bd3 (by decide) (by decide) (by decide),←h18,←h22,←h26,←h30]
 have bb3:B4 y18 y22 y26 y30:=by rw [h18,h22,h26,h30];exact bb2.qv (by decide) (by decide)
 have e8:nstep (pk4 y3 y7 y11 y15) (pk4 y18 y22 y26 y30) (pk4 y17 y21 y25 y29) 18=pk4 y19 y23 y27 y31:=by rw [nstep4 (m:=16383) ba1 bb3 bc3 (by decide) (by decide) (by decide),←h19,←h23,←h27,←h31]
 have ba3:B4 y19 y23 y27 y31:=by rw [h19,h23,h27,h31];exact ba1.qv (by decide) (by decide)
 refine ⟨?_,rfl,?_⟩
 ·show dr ⟨pk4 x0 x5 x10 x15,pk4 x4 x9 x14 x3,pk4 x8 x13 x2 x7,pk4 x12 x1 x6 x11⟩=_
  unfold dr
  simp only [e1,e2,e3,e4,pass3 bb1,pass2 bc1,pass1 bd1,e5,e6,e7,e8,pass1 bb3,pass2 bc3,pass3 bd3]
  rfl
 ·simp only [List.mem_cons,List.not_mem_nil,or_false,forall_eq_or_imp,forall_eq]
  exact ⟨ba3.1,bd3.1,bc3.1,bb3.1,bb3.2.1,ba3.2.1,bd3.2.1,bc3.2.1,bc3.2.2.1,bb3.2.2.1,ba3.2.2.1,bd3.2.2.1,bd3.2.2.2,bc3.2.2.2,bb3.2.2.2,ba3.2.2.2⟩
end
section
theorem W16.out {x:List Nat} (h:W16 x):Ex16 λa b c d e f g i j k l m n o p q=>x=[a,b,c,d,e,f,g,i,j,k,l,m,n,o,p,q]:=list16 h.1
theorem dr_rowsW {x:List Nat} (h:W16 x):dr (rowsQ x)=rowsQ (wround x)∧W16 (wround x):=by
 obtain ⟨a,b,c,d,e,f,g,i,j,k,l,m,n,o,p,q,rfl⟩:=h.out
 exact dr_rows h
theorem drn_rowsW {x:List Nat} (h:W16 x):∀n,drn n (rowsQ x)=rowsQ (wrounds n x)∧W16 (wrounds n x)
 | 0=>⟨rfl,h⟩
 | n+1=>by
  obtain ⟨e,h'⟩:=drn_rowsW h n
  obtain ⟨e2,h2⟩:=dr_rowsW h'
  exact ⟨by show dr (drn n (rowsQ x))=_;rw [e,e2];rfl,h2⟩
theorem add4 {a b c d a' b' c' d':Nat} (h:B4 a b c d) (h':B4 a' b' c' d'):(pk4 a b c d+pk4 a' b' c' d') &&& MASK=pk4 ((a+a') &&& 4294967295) ((b+b') &&& 4294967295) ((c+c') &&& 4294967295) ((d+d') &&& 4294967295):=by
 unfold pk4
 rw [pkw_add,pkw_mask (λi=>Nat.lt_of_lt_of_le (Nat.add_lt_add (h.ln i) (h'.ln i)) (by decide))]
 exact pkw_congr rfl rfl rfl rfl
theorem xor4 {a b c d a' b' c' d':Nat} (h:B4 a b c d) (h':B4 a' b' c' d'):pk4 a b c d ^^^ pk4 a' b' c' d'=pk4 (a ^^^ a') (b ^^^ b') (c ^^^ c') (d ^^^ d') :=
 (pkw_xor h.ln h'.ln).trans (pkw_congr rfl rfl rfl rfl)
theorem W16.b4 {a b c d e f g l o q:Nat} (h:W16 [a,b,c,d,e,f,g,i,j,k,l,m,n,o,p,q]):B4 a f l q∧B4 e k p d∧B4 j o c i∧B4 n b g m:=by
 obtain ⟨_,hx⟩:=h
 simp only [List.mem_cons,List.not_mem_nil,or_false,forall_eq_or_imp,forall_eq] at hx
 obtain ⟨h0,h1,h2,h3,h4,h5,h6,h7,h8,h9,h10,h11,h12,h13,h14,h15⟩:=hx
 exact ⟨⟨h0,h5,h10,h15⟩,⟨h4,h9,h14,h3⟩,⟨h8,h13,h2,h7⟩,⟨h12,h1,h6,h11⟩⟩
theorem lsal_rows {x:List Nat} (h:W16 x):lsal (rowsL x)=rowsL (wsalsa x):=by
 obtain ⟨e4,h4⟩:=drn_rowsW h 4
 show lsalsa (rowsQ x)=_
 unfold lsalsa
 rw [e4]
 unfold wsalsa
 generalize wrounds 4 x=y at h4
 obtain ⟨a,b,c,d,e,f,g,i,j,k,l,m,n,o,p,q,rfl⟩:=h.out
 obtain ⟨a',b',c',d',e',f',g',i',j',k',l',m',n',o',p',q',rfl⟩:=h4.out
 obtain ⟨q1,q2,q3,q4⟩:=h.b4
 obtain ⟨r1,r2,r3,r4⟩:=h4.b4
 show [(pk4 a f l q+pk4 a' f' l' q') &&& MASK,(pk4 e k p d+pk4 e' k' p' d') &&& MASK,(pk4 j o c i+pk4 j' o' c' i') &&& MASK,(pk4 n b g m+pk4 n' b' g' m') &&& MASK]=_
 rw [add4 q1 r1,add4 q2 r2,add4 q3 r3,add4 q4 r4]
 rfl
theorem W16.sal {x:List Nat} (h:W16 x):W16 (wsalsa x):=⟨(wsalsa_len x).trans h.1,wsalsa_lt x⟩
theorem W16.xor {x y:List Nat} (h:W16 x) (h':W16 y):W16 (xorL x y):=by
 refine ⟨by rw [xorL_len,h.1,h'.1];rfl,λz hz=>?_⟩
 obtain ⟨i,hi⟩:=List.mem_iff_getElem?.mp hz
 unfold xorL at hi
 obtain ⟨a,b,e1,e2,rfl⟩:=zipWith_at hi
 exact Nat.xor_lt_two_pow (h.2 _ (List.mem_of_getElem? e1)) (h'.2 _ (List.mem_of_getElem? e2))
theorem xor_rows {x y:List Nat} (h:W16 x) (h':W16 y):xorL (rowsL x) (rowsL y)=rowsL (xorL x y):=by
 obtain ⟨a,b,c,d,e,f,g,i,j,k,l,m,n,o,p,q,rfl⟩:=h.out
 obtain ⟨a',b',c',d',e',f',g',i',j',k',l',m',n',o',p',q',rfl⟩:=h'.out
 obtain ⟨q1,q2,q3,q4⟩:=h.b4
 obtain ⟨r1,r2,r3,r4⟩:=h'.b4
 show [pk4 a f l q ^^^ pk4 a' f' l' q',pk4 e k p d ^^^ pk4 e' k' p' d',pk4 j o c i ^^^ pk4 j' o' c' i',pk4 n b g m ^^^ pk4 n' b' g' m']=_
 rw [xor4 q1 r1,xor4 q2 r2,xor4 q3 r3,xor4 q4 r4]
 rfl
theorem sum4 (a b c d:Nat):[a <<< (64*0),b <<< (64*1),c <<< (64*2),d <<< (64*3)].sum=pk4 a b c d:=by
 show a <<< 0+(b <<< 64+(c <<< 128+(d <<< 192+0)))=pkw _
 simp only [Nat.shiftLeft_eq]
 show _=a+2 ^ 64*(b+2 ^ 64*(c+2 ^ 64*d))
 lia
theorem rows_words (x:List Nat):((List.range 4).map λr=>(lrowL x r).sum)=rowsL x:=by
 have e:∀r,lrowL x r=[(x[(5*0+4*r) % 16]?.getD 0) <<< (64*0),(x[(5*1+4*r) % 16]?.getD 0) <<< (64*1),(x[(5*2+4*r) % 16]?.getD 0) <<< (64*2),(x[(5*3+4*r) % 16]?.getD 0) <<< (64*3)]:=λr=>rfl
 show [(lrowL x 0).sum,(lrowL x 1).sum,(lrowL x 2).sum,(lrowL x 3).sum]=_
 rw [e,e,e,e,sum4,sum4,sum4,sum4]
 rfl
theorem load_rows (bs:List UInt8):lload bs=rowsL (lwords bs):=rows_words _
theorem lane4 {w:Nat→Nat} (h:Ln32 w) (i:Nat) (hi:i<4):pkw w >>> (64*i) % 4294967296=w i:=by
 refine Nat.eq_of_testBit_eq λj=>?_
 rw [show (4294967296:Nat)=2 ^ 32 from rfl,Nat.testBit_mod_two_pow,Nat.testBit_shiftRight]
 by_cases hj:j<32
 ·rw [decide_eq_true hj,Bool.true_and,pkw_tb (up64 h) hi (Nat.lt_trans hj (by decide))]
 ·rw [decide_eq_false hj,Bool.false_and,tb_hi (h i) (Nat.le_of_not_lt hj)]
theorem lane {a b c d:Nat} (h:B4 a b c d):pk4 a b c d >>> (64*0) % 4294967296=a∧pk4 a b c d >>> (64*1) % 4294967296=b∧pk4 a b c d >>> (64*2) % 4294967296=c∧pk4 a b c d >>> (64*3) % 4294967296=d :=
 ⟨lane4 h.ln 0 (by decide),lane4 h.ln 1 (by decide),lane4 h.ln 2 (by decide),lane4 h.ln 3 (by decide)⟩
theorem swords_rows {x:List Nat} (h:W16 x):swords (rowsL x)=x:=by
 obtain ⟨a,b,c,d,e,f,g,i,j,k,l,m,n,o,p,q,rfl⟩:=h.out
 obtain ⟨q1,q2,q3,q4⟩:=h.b4
 obtain ⟨u1,u2,u3,u4⟩:=lane q1
 obtain ⟨v1,v2,v3,v4⟩:=lane q2
 obtain ⟨w1,w2,w3,w4⟩:=lane q3
 obtain ⟨z1,z2,z3,z4⟩:=lane q4
 show [pk4 a f l q >>> (64*0) % 4294967296,pk4 n b g m >>> (64*1) % 4294967296,pk4 j o c i >>> (64*2) % 4294967296,pk4 e k p d >>> (64*3) % 4294967296,
  pk4 e k p d >>> (64*0) % 4294967296,pk4 a f l q >>> (64*1) % 4294967296,pk4 n b g m >>> (64*2) % 4294967296,pk4 j o c i >>> (64*3) % 4294967296,
  pk4 j o c i >>> (64*0) % 4294967296,pk4 e k p d >>> (64*1) % 4294967296,pk4 a f l q >>> (64*2) % 4294967296,pk4 n b g m >>> (64*3) % 4294967296,
  pk4 n b g m >>> (64*0) % 4294967296,pk4 j o c i >>> (64*1) % 4294967296,pk4 e k p d >>> (64*2) % 4294967296,pk4 a f l q >>> (64*3) % 4294967296]=_
 rw [u1,u2,u3,u4,v1,v2,v3,v4,w1,w2,w3,w4,z1,z2,z3,z4]
theorem store_rows {x:List Nat} (h:W16 x):lstore (rowsL x)=St.wpack x:=by
 unfold lstore St.wpack
 rw [swords_rows h]
end
section
noncomputable def WOk (r:Nat) (src:List Nat):Prop:=src.length=32*r∧∀y∈src,y<2 ^ 32
noncomputable def bks (r:Nat) (src:List Nat):List (List Nat):=(List.range (2*r)).map λi=>(src.drop (16*i)).take 16
noncomputable def toL (r:Nat) (src:List Nat):List (List Nat):=(bks r src).map rowsL
theorem W16.of_take (h:k+16≤src.length) (hb:∀y∈src,y<2 ^ 32):W16 ((src.drop k).take 16) :=
 ⟨by rw [List.length_take,List.length_drop];exact Nat.min_eq_left (Nat.le_sub_of_add_le' h),λy hy=>hb y (List.mem_of_mem_drop (List.mem_of_mem_take hy))⟩
theorem WOk.two (h:WOk 1 src):Ex2 λx0 x1=>An3 (W16 x0) (W16 x1) (src=x0++x1):=by
 obtain ⟨hl,hb⟩:=h
 refine ⟨_,_,W16.of_take (k:=0) (by rw [hl];decide) hb,W16.of_take (k:=16) (by rw [hl];decide) hb,?_⟩
 rw [List.drop_zero,List.take_of_length_le (l:=src.drop 16) (by rw [List.length_drop,hl];decide),List.take_append_drop]
theorem WOk.four (h:WOk 2 src):Ex4 λx0 x1 x2 x3=>An5 (W16 x0) (W16 x1) (W16 x2) (W16 x3) (src=x0++(x1++(x2++x3))):=by
 obtain ⟨hl,hb⟩:=h
 refine ⟨_,_,_,_,W16.of_take (k:=0) (by rw [hl];decide) hb,W16.of_take (k:=16) (by rw [hl];decide) hb,W16.of_take (k:=32) (by rw [hl];decide) hb,W16.of_take (k:=48) (by rw [hl];decide) hb,?_⟩
 rw [List.drop_zero,List.take_of_length_le (l:=src.drop 48) (by rw [List.length_drop,hl];decide)]
 have e1:src.drop 48=(src.drop 32).drop 16:=by rw [List.drop_drop]
 have e2:src.drop 32=(src.drop 16).drop 16:=by rw [List.drop_drop]
 rw [e1,List.take_append_drop,e2,List.take_append_drop,List.take_append_drop]
theorem bks_two {x0 x1:List Nat} (h0:x0.length=16) (h1:x1.length=16):bks 1 (x0++x1)=[x0,x1]:=by
 show [((x0++x1).drop 0).take 16,((x0++x1).drop 16).take 16]=_
 rw [List.drop_zero,List.take_left' h0,List.drop_left' h0,List.take_of_length_le (Nat.le_of_eq h1)]
theorem bks_four {x0 x1 x2 x3:List Nat} (h0:x0.length=16) (h1:x1.length=16) (h2:x2.length=16) (h3:x3.length=16):bks 2 (x0++(x1++(x2++x3)))=[x0,x1,x2,x3]:=by
 show [((x0++(x1++(x2++x3))).drop 0).take 16,((x0++(x1++(x2++x3))).drop 16).take 16,((x0++(x1++(x2++x3))).drop 32).take 16,((x0++(x1++(x2++x3))).drop 48).take 16]=_
 have e1:(x0++(x1++(x2++x3))).drop 16=x1++(x2++x3):=List.drop_left' h0
 have e2:(x0++(x1++(x2++x3))).drop 32=x2++x3:=by rw [show (32:Nat)=16+16 from rfl,←List.drop_drop,e1,List.drop_left' h1]
 have e3:(x0++(x1++(x2++x3))).drop 48=x3:=by rw [show (48:Nat)=32+16 from rfl,←List.drop_drop,e2,List.drop_left' h2]
 rw [List.drop_zero,List.take_left' h0,e1,List.take_left' h1,e2,List.take_left' h2,e3,List.take_of_length_le (Nat.le_of_eq h3)]
theorem xor_app {a b c:List Nat} (h:a.length=b.length):xorL a (b++c)=xorL a b:=by
 unfold xorL
 have e:=List.zipWith_append (f:=(· ^^^ ·)) (l₁:=a) (l₁':=[]) (l₂:=b) (l₂':=c) h
 rw [List.append_nil,List.zipWith_nil_left,List.append_nil] at e;exact e
theorem pick_idx {α:Type} {xs:List α} {lo hi st:Option Int} {js:List Nat} (h:sliceRange (sliceBounds lo hi st xs.length).1 (sliceBounds lo hi st xs.length).2.1 (sliceBounds lo hi st xs.length).2.2=js):pickL xs lo hi st=js.filterMap (xs[·]?):=by
 unfold pickL;rw [h]
theorem blocks_two {a b:List Nat}:lblocks [a,b]=[lsal (xorL b a),lsal (xorL (lsal (xorL b a)) b)]:=by
 have e:(lfound [a,b] [a,b].length).2=[lsal (xorL b a),lsal (xorL (lsal (xorL b a)) b)]:=rfl
 unfold lblocks
 rw [e,pick_idx (js:=[0]) (by show sliceRange (sliceBounds none none (some 2) 2).1 (sliceBounds none none (some 2) 2).2.1 (sliceBounds none none (some 2) 2).2.2=[0];decide),
  pick_idx (js:=[1]) (by show sliceRange (sliceBounds (some 1) none (some 2) 2).1 (sliceBounds (some 1) none (some 2) 2).2.1 (sliceBounds (some 1) none (some 2) 2).2.2=[1];decide)]
 rfl
theorem blocks_four {a b c d:List Nat}:lblocks [a,b,c,d]=[lsal (xorL d a),lsal (xorL (lsal (xorL (lsal (xorL d a)) b)) c),lsal (xorL (lsal (xorL d a)) b),lsal (xorL (lsal (xorL (lsal (xorL (lsal (xorL d a)) b)) c)) d)]:=by
 have e:(lfound [a,b,c,d] [a,b,c,d].length).2=[lsal (xorL d a),lsal (xorL (lsal (xorL d a)) b),lsal (xorL (lsal (xorL (lsal (xorL d a)) b)) c),lsal (xorL (lsal (xorL (lsal (xorL (lsal (xorL d a)) b)) c)) d)]:=rfl
 unfold lblocks
 rw [e,pick_idx (js:=[0,2]) (by show sliceRange (sliceBounds none none (some 2) 4).1 (sliceBounds none none (some 2) 4).2.1 (sliceBounds none none (some 2) 4).2.2=[0,2];decide),
  pick_idx (js:=[1,3]) (by show sliceRange (sliceBounds (some 1) none (some 2) 4).1 (sliceBounds (some 1) none (some 2) 4).2.1 (sliceBounds (some 1) none (some 2) 4).2.2=[1,3];decide)]
 rfl
theorem WOk.blk (hr:r=1∨r=2) (h:WOk r src):WOk r (wblk r src):=⟨wblk_len hr h.1,wblk_lt src⟩
theorem blocks_toL (hr:r=1∨r=2) (h:WOk r src):lblocks (toL r src)=toL r (wblk r src):=by
 rcases hr with rfl | rfl
 ·obtain ⟨x0,x1,h0,h1,rfl⟩:=h.two
  have hy0:W16 (wsalsa (xorL x1 x0)):=(h1.xor h0).sal
  have e:wblk 1 (x0++x1)=wsalsa (xorL x1 x0)++wsalsa (xorL (wsalsa (xorL x1 x0)) x1):=by
   show wblk1 (x0++x1)=_
   unfold wblk1
   rw [List.drop_left' h0.1,xor_app (h1.1.trans h0.1.symm)]
  rw [e]
  unfold toL
  rw [bks_two h0.1 h1.1,bks_two hy0.1 (hy0.xor h1).sal.1]
  show lblocks [rowsL x0,rowsL x1]=[rowsL _,rowsL _]
  rw [blocks_two,xor_rows h1 h0,lsal_rows (h1.xor h0),xor_rows hy0 h1,lsal_rows (hy0.xor h1)]
 ·obtain ⟨x0,x1,x2,x3,h0,h1,h2,h3,rfl⟩:=h.four
  have hy0:=(h3.xor h0).sal
  have hy1:=(hy0.xor h1).sal
  have hy2:=(hy1.xor h2).sal
  have hy3:=(hy2.xor h3).sal
  have e1:(x0++(x1++(x2++x3))).drop 16=x1++(x2++x3):=List.drop_left' h0.1
  have e2:(x0++(x1++(x2++x3))).drop 32=x2++x3:=by rw [show (32:Nat)=16+16 from rfl,←List.drop_drop,e1,List.drop_left' h1.1]
  have e3:(x0++(x1++(x2++x3))).drop 48=x3:=by rw [show (48:Nat)=32+16 from rfl,←List.drop_drop,e2,List.drop_left' h2.1]
  have w0:ws (x0++(x1++(x2++x3))) 0=x3:=by
   show (x0++(x1++(x2++x3))).drop ((x0++(x1++(x2++x3))).length - 16)=x3
   rw [h.1];exact e3
  have w1:ws (x0++(x1++(x2++x3))) 1=wsalsa (xorL x3 x0):=by
   show wsalsa (xorL (ws (x0++(x1++(x2++x3))) 0) ((x0++(x1++(x2++x3))).drop 0))=_
   rw [w0,List.drop_zero,xor_app (h3.1.trans h0.1.symm)]
  have w2:ws (x0++(x1++(x2++x3))) 2=wsalsa (xorL (wsalsa (xorL x3 x0)) x1):=by
   show wsalsa (xorL (ws (x0++(x1++(x2++x3))) 1) ((x0++(x1++(x2++x3))).drop 16))=_
   rw [w1,e1,xor_app (hy0.1.trans h1.1.symm)]
  have w3:ws (x0++(x1++(x2++x3))) 3=wsalsa (xorL (wsalsa (xorL (wsalsa (xorL x3 x0)) x1)) x2):=by
   show wsalsa (xorL (ws (x0++(x1++(x2++x3))) 2) ((x0++(x1++(x2++x3))).drop 32))=_
   rw [w2,e2,xor_app (hy1.1.trans h2.1.symm)]
  have w4:ws (x0++(x1++(x2++x3))) 4=wsalsa (xorL (wsalsa (xorL (wsalsa (xorL (wsalsa (xorL x3 x0)) x1)) x2)) x3):=by
   show wsalsa (xorL (ws (x0++(x1++(x2++x3))) 3) ((x0++(x1++(x2++x3))).drop 48))=_
   rw [w3,e3]
  have e:wblk 2 (x0++(x1++(x2++x3)))=wsalsa (xorL x3 x0)++(wsalsa (xorL (wsalsa (xorL (wsalsa (xorL x3 x0)) x1)) x2)++(wsalsa (xorL (wsalsa (xorL x3 x0)) x1)++wsalsa (xorL (wsalsa (xorL (wsalsa (xorL (wsalsa (xorL x3 x0)) x1)) x2)) x3))):=by
   show wblk2 _=_
   unfold wblk2
   rw [w1,w2,w3,w4,List.append_assoc,List.append_assoc]
  rw [e]
  unfold toL
  rw [bks_four h0.1 h1.1 h2.1 h3.1,bks_four hy0.1 hy2.1 hy1.1 hy3.1]
  show lblocks [rowsL x0,rowsL x1,rowsL x2,rowsL x3]=[rowsL _,rowsL _,rowsL _,rowsL _]
  rw [blocks_four,xor_rows h3 h0,lsal_rows (h3.xor h0),xor_rows hy0 h1,lsal_rows (hy0.xor h1),xor_rows hy1 h2,lsal_rows (hy1.xor h2),xor_rows hy2 h3,lsal_rows (hy2.xor h3)]
theorem WOk.xor {a b:List Nat} (h:WOk r a) (h':WOk r b):WOk r (xorL a b):=by
 refine ⟨by rw [xorL_len,h.1,h'.1];simp,λz hz=>?_⟩
 obtain ⟨i,hi⟩:=List.mem_iff_getElem?.mp hz
 unfold xorL at hi
 obtain ⟨u,v,e1,e2,rfl⟩:=zipWith_at hi
 exact Nat.xor_lt_two_pow (h.2 _ (List.mem_of_getElem? e1)) (h'.2 _ (List.mem_of_getElem? e2))
theorem xor_apps {a b c d:List Nat} (h:a.length=c.length):xorL (a++b) (c++d)=xorL a c++xorL b d:=List.zipWith_append h
theorem xor_toL (hr:r=1∨r=2) {a b:List Nat} (h:WOk r a) (h':WOk r b):List.zipWith xorL (toL r a) (toL r b)=toL r (xorL a b):=by
 rcases hr with rfl | rfl
 ·obtain ⟨x0,x1,h0,h1,rfl⟩:=h.two
  obtain ⟨y0,y1,k0,k1,rfl⟩:=h'.two
  rw [xor_apps (h0.1.trans k0.1.symm)]
  unfold toL
  rw [bks_two h0.1 h1.1,bks_two k0.1 k1.1,bks_two (h0.xor k0).1 (h1.xor k1).1]
  show [xorL (rowsL x0) (rowsL y0),xorL (rowsL x1) (rowsL y1)]=[rowsL _,rowsL _]
  rw [xor_rows h0 k0,xor_rows h1 k1]
 ·obtain ⟨x0,x1,x2,x3,h0,h1,h2,h3,rfl⟩:=h.four
  obtain ⟨y0,y1,y2,y3,k0,k1,k2,k3,rfl⟩:=h'.four
  rw [xor_apps (h0.1.trans k0.1.symm),xor_apps (h1.1.trans k1.1.symm),xor_apps (h2.1.trans k2.1.symm)]
  unfold toL
  rw [bks_four h0.1 h1.1 h2.1 h3.1,bks_four k0.1 k1.1 k2.1 k3.1,bks_four (h0.xor k0).1 (h1.xor k1).1 (h2.xor k2).1 (h3.xor k3).1]
  show [xorL (rowsL x0) (rowsL y0),xorL (rowsL x1) (rowsL y1),xorL (rowsL x2) (rowsL y2),xorL (rowsL x3) (rowsL y3)]=[rowsL _,rowsL _,rowsL _,rowsL _]
  rw [xor_rows h0 k0,xor_rows h1 k1,xor_rows h2 k2,xor_rows h3 k3]
theorem lane0 {x:List Nat} (h:W16 x):(rowsL x)[0]?.getD 0 % 4294967296=x[0]?.getD 0:=by
 obtain ⟨a,b,c,d,e,f,g,i,j,k,l,m,n,o,p,q,rfl⟩:=h.out
 have:=(lane h.b4.1).1
 show pk4 a f l q % 4294967296=a
 rw [Nat.mul_zero,Nat.shiftRight_zero] at this
 exact this
theorem idx_toL (hr:r=1∨r=2) (h:WOk r src) (n:Nat):lIdx (toL r src) n=src.getD (32*r - 16) 0 % n:=by
 unfold lIdx
 rcases hr with rfl | rfl
 ·obtain ⟨x0,x1,h0,h1,rfl⟩:=h.two
  unfold toL
  rw [bks_two h0.1 h1.1]
  show (rowsL x1)[0]?.getD 0 % 4294967296 % n=_
  rw [lane0 h1,List.getD_eq_getElem?_getD,List.getElem?_append_right (by rw [h0.1];decide),h0.1]
 ·obtain ⟨x0,x1,x2,x3,h0,h1,h2,h3,rfl⟩:=h.four
  unfold toL
  rw [bks_four h0.1 h1.1 h2.1 h3.1]
  show (rowsL x3)[0]?.getD 0 % 4294967296 % n=_
  rw [lane0 h3,List.getD_eq_getElem?_getD,List.getElem?_append_right (by rw [h0.1];decide),List.getElem?_append_right (by rw [h0.1,h1.1];decide),List.getElem?_append_right (by rw [h0.1,h1.1,h2.1];decide),h0.1,h1.1,h2.1]
theorem lB_toL (hr:r=1∨r=2) (h:WOk r b0):∀i,lB (toL r b0) i=toL r (wB r b0 i)∧WOk r (wB r b0 i)
 | 0=>⟨rfl,h⟩
 | i+1=>by
  obtain ⟨e,h'⟩:=lB_toL hr h i
  exact ⟨by show lblocks (lB (toL r b0) i)=_;rw [e,blocks_toL hr h'];rfl,h'.blk hr⟩
theorem lX_toL (hr:r=1∨r=2) (h:WOk r b0) (hn:n=2∨n=4):∀i,lX (toL r b0) n i=toL r (wS r n b0 i)∧WOk r (wS r n b0 i)
 | 0=>lB_toL hr h n
 | i+1=>by
  obtain ⟨e,h'⟩:=lX_toL hr h hn i
  obtain ⟨e2,h2⟩:=lB_toL hr h ((wS r n b0 i).getD (32*r - 16) 0 &&& (n - 1))
  have hm:(wS r n b0 i).getD (32*r - 16) 0 % n=(wS r n b0 i).getD (32*r - 16) 0 &&& (n - 1):=by
   rcases hn with rfl | rfl
   ·exact (Nat.and_two_pow_sub_one_eq_mod _ 1).symm
   ·exact (Nat.and_two_pow_sub_one_eq_mod _ 2).symm
  refine ⟨?_,(h'.xor h2).blk hr⟩
  show lblocks (List.zipWith xorL (lX (toL r b0) n i) (lB (toL r b0) (lIdx (lX (toL r b0) n i) n)))=_
  rw [e,idx_toL hr h',hm,e2,xor_toL hr h' h2,blocks_toL hr (h'.xor h2)]
  rfl
theorem pack_app (a b:List Nat):St.wpack (a++b)=St.wpack a++St.wpack b:=by unfold St.wpack;rw [List.map_append,List.flatten_append]
theorem store_toL (hr:r=1∨r=2) (h:WOk r src):((toL r src).map lstore).flatten=St.wpack src:=by
 rcases hr with rfl | rfl
 ·obtain ⟨x0,x1,h0,h1,rfl⟩:=h.two
  unfold toL
  rw [bks_two h0.1 h1.1,pack_app]
  show [lstore (rowsL x0),lstore (rowsL x1)].flatten=_
  rw [store_rows h0,store_rows h1];simp
 ·obtain ⟨x0,x1,x2,x3,h0,h1,h2,h3,rfl⟩:=h.four
  unfold toL
  rw [bks_four h0.1 h1.1 h2.1 h3.1,pack_app,pack_app,pack_app]
  show [lstore (rowsL x0),lstore (rowsL x1),lstore (rowsL x2),lstore (rowsL x3)].flatten=_
  rw [store_rows h0,store_rows h1,store_rows h2,store_rows h3];simp
theorem cut_at (bs:List UInt8) (a d:Nat):cut bs a (a+d)=(bs.drop a).take d:=by unfold cut;rw [Nat.add_sub_cancel_left]
theorem lword_cut (hk:k<16):lword (cut bs (64*i) (64*i+64)) k=lword bs (16*i+k):=by
 have hm:4≤64 - 4*k:=Nat.le_sub_of_add_le' (Nat.mul_le_mul_left 4 hk)
 unfold lword
 rw [cut_at,cut_at,cut_at,List.drop_take,List.take_take,List.drop_drop,Nat.min_eq_left hm,Nat.mul_add,←Nat.mul_assoc]
theorem chunks_toL (bs:List UInt8):lchunks bs (2*r)=toL r ((List.range (32*r)).map (lword bs)):=by
 unfold lchunks toL bks
 rw [List.map_map]
 apply List.map_congr_left
 intro i hi
 have hi:i<2*r:=List.mem_range.mp hi
 rw [load_rows]
 show rowsL (lwords (cut bs (64*i) (64*i+64)))=rowsL _
 congr 1
 unfold lwords
 apply List.ext_getElem?
 intro k
 by_cases hk:k<16
 ·rw [List.getElem?_map,List.getElem?_range hk,List.getElem?_take_of_lt hk,List.getElem?_drop,List.getElem?_map,List.getElem?_range (Nat.lt_of_lt_of_le (Nat.add_lt_add_left hk (16*i)) (Nat.le_trans (Nat.mul_le_mul_left 16 hi) (Nat.le_of_eq (Nat.mul_assoc 16 2 r).symm)))]
  show some _=some _
  rw [lword_cut hk]
 ·rw [List.getElem?_eq_none (by rw [List.length_map,List.length_range];exact Nat.le_of_not_lt hk),List.getElem?_eq_none (Nat.le_trans (List.length_take_le _ _) (Nat.le_of_not_lt hk))]
theorem WOk.words (r:Nat) (bs:List UInt8):WOk r ((List.range (32*r)).map (lword bs)):=by
 refine ⟨by simp,λy hy=>?_⟩
 obtain ⟨i,hi⟩:=List.mem_iff_getElem?.mp hy
 obtain ⟨_,rfl⟩:=range_at _ (lword bs) hi
 exact lword_lt _ _
theorem mixed_eq (hr:r=1∨r=2) (hn:n=2∨n=4) (bs:List UInt8):lmixed bs (2*r) n=wsmix r n bs:=by
 unfold lmixed wsmix
 rw [chunks_toL]
 obtain ⟨e,h⟩:=lX_toL hr (WOk.words r bs) hn n
 rw [e,store_toL hr h]
theorem due_eq (hr:r=1∨r=2) (hn:n=2∨n=4) (secret salt:List UInt8):ldue secret salt n r p keylen=wrun secret salt n r p keylen:=by
 unfold ldue wrun lmix wmix
 congr 2
 apply List.map_congr_left
 intro i _
 exact mixed_eq hr hn _
end
section
structure TW (K:Frag) (mg mb:Str→Option Value):Prop where
 ts:TS K mg mb
 law:FnM K 276 "law" "law" (arOf (top 35)) (bdOf (top 35)) (scOf (top 35)) .none (.ref 275)
 abs:mg "abs"=none∧mb "abs"=some (.builtin "abs")
 chr:mg "chr"=none∧mb "chr"=some (.builtin "chr")
noncomputable abbrev lwCx (prog:Program) (w:World) (A:Around) (g:Array GenState) (d:Drawn) (o:OsState) (h:Heap) (K:Frag) (mg mb:Str→Option Value):Cx:=frameCxC prog w A g d o h [137,144,151,158] K mg mb "law" (scOf (top 35)) 276 (.ref 275)
section
theorem law_tail (TT:TW K mg mb) (hfr:A.frames=some []) (H:(lwCx prog w A g d o h K mg mb).Ok 12) {ut:Tok}
  (F:(lwCx prog w A g d o h K mg mb).SS l N Φ h1) (e1:l[11]?=some (("due":Str),some (.bytes bs.toArray ud))) (e2:l[12]?=some (("told":Str),some (.bytes bs.toArray ut))) (e3:l[13]?=some (("refused":Str),none)) (hd:(h.objs.size+1+1,cobj (some (.int dv u)))∈N)
  (hQ:∀l' Φ' h' t',(lwCx prog w A g d o h K mg mb).SS l' N Φ' h'→Q (.ret (.bool true)) ((lwCx prog w A g d o h K mg mb).st h' t')) :
  (lwCx prog w A g d o h K mg mb).wp (execs ((bdOf (top 35)).drop 9) (lwCx prog w A g d o h K mg mb).env) Q NoE ((lwCx prog w A g d o h K mg mb).st h1 t1):=by
 refine ifS F (b:=false) (EvT.neB (b:=bs) (EvF.mono (EvV.toF (.nm 12 H e2)) λv _ e=>⟨ut,e⟩) (EvF.mono (EvV.toF (.nm 11 H e1)) λv _ e=>⟨ud,e⟩)) (λh2 t2 F2=>wpAny_execs_nil ?_)
 refine asRef (dv:=dv) (ud:=u) (ad:=h.objs.size+1+1) (cl:=[("d",h.objs.size+1+1)]) 13 H F2 (by rfl) (by kernel_rfl) (EvIt.range1 (m:=10) H TT.ts.lk.b_range (.const 10) (by decide)) hd (λhh C i ui h3 t3 Q' hi ok F3 hL hC hq=>?_) ?_ e3
 ·exact refElt (l:=l) TT.ts TT.abs (by decide) (Around.frames_deeper hfr) rfl (by rw [H.kind];decide) hi ok F3 (λ_ y=>y) hL hC hq (by rfl) (by rfl) (by rfl) (by rfl) (by rfl) (by rfl) (by rfl) (by rfl) (by rfl) (by rfl) (by rfl)
 intro D h3 t3 l2 F3
 have e4:l2[13]?=some (("refused":Str),some (.ref D)):=by
  have:13<l.length:=(List.getElem?_eq_some_iff.mp e3).1
  show (l.set 13 _)[13]?=_
  rw [List.getElem?_set_self this]
 refine retR F3 (EvR.eqL (xs:=(List.range 10).map kAns) (EvV.toRP (.nm 13 H e4) λh y=>y.2) (EvR.mono (EvR.addLists (R:=StrR) (EvF.toR (EvF.mulS (k:=8) rfl (by decide))) (EvF.toR (EvF.mulS (k:=2) rfl (by decide))) (by decide)) λv h y=>y.toLR) H (by decide)) (λv h4 t4 F4=>?_)
 obtain rfl:=F4.phi.2
 exact hQ _ _ h4 t4 F4
end
end
section
section
theorem EvRs.weaken {P:List Value→HP} (x:EvRs c l N Φ pos es P) (k:∀h,Φ' h→Φ h):EvRs c l N Φ' pos es P:=λΨ q=>x Ψ λh y=>k h (q h y)
noncomputable abbrev tb4 (o4 o3 o1 o2:Obj):LN:=[(137,o4),(144,o3),(151,o1),(158,o2)]
theorem EvS.scr {β:Type} {gs:β→List Value} {o4:Obj} (TT:TS c.K c.mg c.mb) (H:c.Ok n) (hn:23≤n) (ha:EvRs c l N Φ pos es (λvs _=>∃u,vs=gs u))
  (hv:∀a b,c.K.lookup 178=some (tobj [.int 1 a,.int 32 b])→∀u,Ex6 λv1 v2 un ur up uk=>An3 (ScB c.prog c.w a b (gs u) [v1,v2,.int (m:Int) un,.int (r:Int) ur,.ref 199,.int (p:Int) up,.int (keylen:Int) uk]) (TobV c.prog c.w c.K c.mg c.mb v1 s1) (TobV c.prog c.w c.K c.mg c.mb v2 s2))
  (hr:r=1∨r=2) (hp:p=1∨p=2) (hm:m=2∨m=4) (hk1:1≤keylen) (hk:keylen≤1000) (hl1:s1.length≤1000) (hl2:s2.length≤1000) (hT:∀h,c.SS l N Φ h→Tabs3 h) (k4:TabOk o4) (hN:N=N0++tb4 o4 o3 o1 o2)
  (kx:Glo c.env "scrypt":=by rfl)
  (hpl:Plain pos es c.env:=by rfl)
  (he:CallIs "scrypt" np es pos c.env:=by rfl) :
  EvS c l N Φ (.Call (.Name "scrypt" np) es [] pos) (λN'=>Ex4 λo4' o3' o1' o2'=>An5 (N'=N0++tb4 o4' o3' o1' o2') (TabOk o4') (TabOk o3') (TabOk o1') (TabOk o2')) (BR (wrun s1 s2 m r p keylen)):=by
 subst hN
 intro Φ' k h t Q E F hQ
 obtain ⟨a,b,hd⟩:=TT.te.tn.scrd
 refine callM H F TT.te.tn.scrG TT.te.tn.scr (ha.weaken k) (λvs h1 t1 F1 _=>?_) kx (by decide) hpl he
 obtain ⟨q,rfl⟩:=F1.phi.2
 obtain ⟨v1,v2,un,ur,up,uk,hb,tb1,tb2⟩:=hv a b hd q
 have e4:h1.get? 137=some o4:=(F1.news (137,o4) (by simp)).1
 obtain ⟨ps4,rfl,ht4⟩:=k4
 refine scrypt_ok TT hd hb tb1 tb2 hr hp hm hk1 hk hl1 hl2 (hT h1 (F1.weaken λh y=>k h y.1)) ⟨ps4,e4,ht4⟩ c.A c.d t1 c.o _ (H.A.le hn) (H.W1 F1) (λv h2 g2 t2 k2 z2 gg hp'=>?_)
 obtain ⟨⟨u,rfl⟩,hE⟩:=hp'
 obtain ⟨o4',e4',q4⟩:=hE 137 (by trivial)
 obtain ⟨o3',e3',q3⟩:=hE 144 (by trivial)
 obtain ⟨o1',e1',q1⟩:=hE 151 (by trivial)
 obtain ⟨o2',e2',q2⟩:=hE 158 (by trivial)
 have nd:=F1.ndn
 rw [List.map_append,List.nodup_append] at nd
 refine hQ _ _ h2 g2 t2 ⟨o4',o3',o1',o2',rfl,q4,q3,q1,q2⟩ gg ((SS.calls (N':=N0++tb4 o4' o3' o1' o2') (F1.weaken λ_ y=>y.1) (W:=[137,144,151,158]) (by simp) (λb hb=>?_) k2 z2 (λq hq=>?_)).know λ_ _=>⟨u,rfl⟩)
 ·rw [List.map_append]
  exact List.mem_append_right _ hb
 ·rcases List.mem_append.mp hq with hq | hq
  ·refine k2 _ _ (λz=>nd.2.2 q.1 (List.mem_map_of_mem hq) q.1 z rfl) (F1.news q (List.mem_append_left _ hq)).1
  ·exact f4 (P:=λq:Addr×Obj=>h2.get? q.1=some q.2) e4' e3' e1' e2' q hq
theorem EvS.ifexp {test body:Expr} {b:Bool} {NN:LN→Prop} {P:VH} (x1:EvT c l N Φ test b) (x2:b=true→EvS c l N Φ body NN P) (x3:b=false→EvS c l N Φ orelse NN P):EvS c l N Φ (.IfExp test body orelse pos) NN P:=λΦ' k h t Q E F hQ =>
 wpAny_IfExp (x1 _ k h t _ _ F λg t1 F1=>by
  cases b with
  | true=>exact x2 rfl _ k g t1 _ _ F1 hQ
  | false=>exact x3 rfl _ k g t1 _ _ F1 hQ)
end
end
section
noncomputable def lwA (ns:List Int) (k:Nat):Int:=ns.getD k 0
noncomputable def lwX (ns:List Int):List Int:=(List.range 4).map (lwA ns)
noncomputable def lwO (xs:List Int):List UInt8:=(xs.map λx=>(x.fmod 256).toNat).map Nat.toUInt8
noncomputable def lwSec (ns:List Int):List UInt8:=lwO (pickL (pickL ns (some 4) none none) none (some 9) none)
noncomputable def lwSalt (ns:List Int):List UInt8:=lwO (pickL (pickL ns (some 4) none none) (some 9) (some 18) none)
noncomputable def lwW (bs:List UInt8):List Nat:=bs.map λb=>160+b.toNat
theorem lwSec_len (ns:List Int):(lwSec ns).length≤9:=by unfold lwSec lwO;rw [List.length_map,List.length_map];exact pick9 _
theorem lwSalt_len (ns:List Int):(lwSalt ns).length≤9:=by unfold lwSalt lwO;rw [List.length_map,List.length_map];exact pick18 _
theorem lwW_sur (bs:List UInt8):∀x∈lwW bs,Str.isSurrogate x=false:=λx hx=>by
 obtain ⟨b,_,rfl⟩:=List.mem_map.mp hx
 have:=b.toNat_lt
 unfold Str.isSurrogate
 simp;lia
theorem lwW_enc (bs:List UInt8):(encL (lwW bs)).length≤4*bs.length:=by
 induction bs with
 | nil=>exact Nat.le_refl _
 | cons b r ih =>
  have h4:(Str.utf8Of (160+b.toNat)).length≤4:=by
   unfold Str.utf8Of
   by_cases h1:160+b.toNat<128
   ·rw [if_pos h1];exact Nat.le_of_ble_eq_true rfl
   by_cases h2:160+b.toNat<2048
   ·rw [if_neg h1,if_pos h2];exact Nat.le_of_ble_eq_true rfl
   by_cases h3:160+b.toNat<65536
   ·rw [if_neg h1,if_neg h2,if_pos h3];exact Nat.le_of_ble_eq_true rfl
   ·rw [if_neg h1,if_neg h2,if_neg h3];exact Nat.le_refl 4
  show (Str.utf8Of (160+b.toNat)++encL (lwW r)).length≤_
  rw [List.length_append,Nat.add_comm]
  exact Nat.add_le_add ih h4
theorem fmod_nat (x:Int) {k:Int} (hk:0<k):x.fmod k=((x.fmod k).toNat:Int):=(Int.toNat_of_nonneg (Int.fmod_nonneg_of_pos x hk)).symm
theorem fmod_lt (x:Int) {k:Int} (hk:0<k):(x.fmod k).toNat<k.toNat:=(Int.toNat_lt_toNat hk).mpr (Int.fmod_lt_of_pos x hk)
section
theorem EvI.modN {a k:Int} (h1:EvI c l N Φ e1 a) (h2:EvI c l N Φ e2 k) (hk:0<k):EvN c l N Φ (.BinOp e1 .Mod e2 pos) (a.fmod k).toNat :=
 EvI.cast (EvI.mod h1 h2 (by lia)) (fmod_nat a hk)
theorem EvN.pick {e4 e5:Expr} {a k j:Int} {v1 v2:Nat} (h1:EvI c l N Φ e1 a) (h2:EvI c l N Φ e2 k) (hk:0<k) (h3:EvI c l N Φ e3 j) (h4:EvN c l N Φ e4 v1) (h5:EvN c l N Φ e5 v2) (hm:behindInMarks .Eq e3=false:=by with_unfolding_all rfl) :
  EvF c l N Φ (.IfExp (.Compare (.BinOp e1 .Mod e2 p1) [.Eq] [e3] p2) e4 e5 p3) (λv _=>∃u:{q:Nat // q=v2∨q=v1}×Tok,v = .int (u.1.1:Int) u.2) :=
 EvF.ifexp (EvT.eq (EvI.mod h1 h2 (by lia)) h3 hm) (λ_=>EvF.mono (EvN.toF h4) λ_ _ ⟨u,y⟩=>⟨(⟨v1,.inr rfl⟩,u),y⟩) (λ_=>EvF.mono (EvN.toF h5) λ_ _ ⟨u,y⟩=>⟨(⟨v2,.inl rfl⟩,u),y⟩)
end
end
section
theorem ints_lr:∀ {vs:List Value} {ns:List Int} {h:Heap},PyProof.Rows.IntsAre vs ns→RL IntR ns vs h
 | _,_,_,.nil=>.nil
 | _,_,_,.cons n t r=>.cons ⟨t,rfl⟩ (ints_lr r)
noncomputable abbrev lwNs:List Str:=["a","b","c","rest","secret","salt","keylen","n","r","p","words","due","told","refused"]
section
theorem EvF.octs {xs:List Int} {bp lp:Pos} (H:c.Ok n) (LKK:LK c.K c.mg c.mb) (he:EvR c l N Φ e (LR IntR xs)) (hz:xs.length≤1000) (hclos:closureFor scope c.env=pure cl)
  (hsc:(decide (scope.kind = .function) && (scope.names.all λx=>decide (x.2≠.cell)) && decide [("number":Str)].Nodup && (scope.names.all λx=>decide (x.2 = .local→scope.names.lookup x.1=some .local)) && [("number":Str)].all λx=>decide (scope.names.lookup x=some .local))=true)
  (hk:∀h₀ C,(compCx c scope cl h₀ C).env.kindOf "number"=some .local)
  (hs:∀x,foldedSetIterable e c.env x=pure x:=by intro _;rfl)
  (hl:Glo c.env "bytes":=by rfl)
  (s1:Unst (.ListComp (.BinOp (.Name "number" p1) .Mod (.Constant (.int 256) k p2) bp) [⟨.Name "number" px,e,[],0⟩] scope lp) [] c.env:=by rfl)
  (hev:CallIs "bytes" np [.ListComp (.BinOp (.Name "number" p1) .Mod (.Constant (.int 256) k p2) bp) [⟨.Name "number" px,e,[],0⟩] scope lp] pos c.env:=by rfl) :
  EvF c l N Φ (.Call (.Name "bytes" np) [.ListComp (.BinOp (.Name "number" p1) .Mod (.Constant (.int 256) k p2) bp) [⟨.Name "number" px,e,[],0⟩] scope lp] [] pos) (BR (lwO xs)):=by
 refine EvF.bytesOf H LKK.b_bytes (EvF.toR (listCompR (R:=NatR) (names:=["number"]) (xs.map λx=>(x.fmod 256).toNat) H hclos hsc (EvIt.list H he) (by simp) (by simp;lia) ?_ hs)) ?_ (by simp;lia) hl s1 hev
 ·intro C h₀ vs i Ψ z hz' hP hV ok ⟨h3,hψ⟩
  obtain ⟨v,y,rfl,ey,u,rfl⟩:=hP h3 hψ
  rw [List.getElem?_map,ey] at hz'
  cases hz'
  exact EvN.toF (EvI.modN (.nm 0 ok rfl (hk _ _)) (.const (i:=256)) (by decide))
 ·intro x hx
  obtain ⟨y,_,rfl⟩:=List.mem_map.mp hx
  exact fmod_lt y (k:=256) (by decide)
theorem EvF.wrds {bp lp:Pos} (H:c.Ok n) (hchr:c.mg "chr"=none∧c.mb "chr"=some (.builtin "chr")) (he:EvF c l N Φ e (BR bs)) (hz:bs.length≤1000) (hclos:closureFor scope c.env=pure cl)
  (hsc:(decide (scope.kind = .function) && (scope.names.all λx=>decide (x.2≠.cell)) && decide [("octet":Str)].Nodup && (scope.names.all λx=>decide (x.2 = .local→scope.names.lookup x.1=some .local)) && [("octet":Str)].all λx=>decide (scope.names.lookup x=some .local))=true)
  (hk:∀h₀ C,(compCx c scope cl h₀ C).env.kindOf "octet"=some .local) (hk2:∀h₀ C,(compCx c scope cl h₀ C).env.kindOf "chr"=some .globalImplicit)
  (s0:∀h₀ C,Unst (.BinOp (.Constant (.int 160) k p1) .Add (.Name "octet" p2) bp) [] (compCx c scope cl h₀ C).env)
  (h0:∀h₀ C,CallIs "chr" np [.BinOp (.Constant (.int 160) k p1) .Add (.Name "octet" p2) bp] cp (compCx c scope cl h₀ C).env)
  (hs:∀x,foldedSetIterable e c.env x=pure x:=by intro _;rfl)
  (s1:Unst (.ListComp (.Call (.Name "chr" np) [.BinOp (.Constant (.int 160) k p1) .Add (.Name "octet" p2) bp] [] cp) [⟨.Name "octet" px,e,[],0⟩] scope lp) [] c.env:=by rfl)
  (hev:eval (.Call (.Attribute (.Constant (.str "") kk kp) "join" ap) [.ListComp (.Call (.Name "chr" np) [.BinOp (.Constant (.int 160) k p1) .Add (.Name "octet" p2) bp] [] cp) [⟨.Name "octet" px,e,[],0⟩] scope lp] [] pos) c.env=(do
   let ov←eval (.Constant (.str "") kk kp) c.env
   standAt ap.atName
   let (f,first)←holding [ov] (getMethod ov "join" pl)
   callWith pos f first (backTo pos (starEach [.ListComp (.Call (.Name "chr" np) [.BinOp (.Constant (.int 160) k p1) .Add (.Name "octet" p2) bp] [] cp) [⟨.Name "octet" px,e,[],0⟩] scope lp] c.env)) []):=by rfl) :
  EvF c l N Φ (.Call (.Attribute (.Constant (.str "") kk kp) "join" ap) [.ListComp (.Call (.Name "chr" np) [.BinOp (.Constant (.int 160) k p1) .Add (.Name "octet" p2) bp] [] cp) [⟨.Name "octet" px,e,[],0⟩] scope lp] [] pos) (SL (lwW bs)):=by
 refine EvF.joinS (EvF.toR (listCompR (R:=λi=>SL [i]) (names:=["octet"]) (lwW bs) H hclos hsc (EvIt.bytes H he) (by simp [lwW]) (by simp [lwW];lia) ?_ hs)) (by simp [lwW];lia) s1 hev
 intro C h₀ vs i Ψ z hz' hP hV ok ⟨h3,hψ⟩
 obtain ⟨b,u,eb,rfl⟩:=hP h3 hψ
 unfold lwW at hz'
 rw [List.getElem?_map,eb] at hz'
 cases hz'
 have:=b.toNat_lt
 exact EvF.chr ok hchr (EvN.add (.const 160) (.nm 0 ok rfl (hk _ _))) (by show 160+b.toNat≤1000;lia) (hk2 _ _) (s0 _ _) (h0 _ _)
end
end
section
theorem Cx.Ok.le (H:c.Ok n) (h:m≤n):c.Ok m:=⟨H.kind,H.locals,H.globals,H.builtins,H.A.le h,H.W,H.dom,H.S,H.L⟩
section
set_option maxHeartbeats 4000000
theorem law_call (TT:TW K mg mb) {sc:Addr} {ns:List Int} (hsc:h.get? sc=some (lobj vs 0)) (hns:PyProof.Rows.IntsAre vs ns) (hlen:ns.length≤63) (hsc':sc∉([137,144,151,158]:List Addr)) (hT:Tabs3 h) (hT4:∃ps4,h.get? 137=some (tabObj ps4)∧TriplesOk ps4.toList)
  (hA:AOk 41 A) (hfr:A.frames=some []) (W:W0 K mg mb h)
  (hR:∀h' g' t',(∀b o,b∉([137,144,151,158]:List Addr)→h.get? b=some o→h'.get? b=some o)→TabsEnd h'→GensOk g g'→R (.ok (.ret (.bool true))) ⟨h',g',d,t',o⟩) :
  codeAny (model prog w) A (.call (.ref 276) ⟨[.ref sc],[]⟩) R ⟨h,g,d,t,o⟩:=by
 have LKK:=TT.ts.lk
 obtain ⟨ps4,e4,ht4⟩:=hT4
 obtain ⟨⟨ps,e3,ht3,hc3⟩,⟨o1,e1,k1⟩,⟨o2,e2,k2⟩⟩:=hT
 have k3:TabOk (tabObj ps):=⟨ps,rfl,ht3⟩
 have k4:TabOk (tabObj ps4):=⟨ps4,rfl,ht4⟩
 refine enterM0 (n:=40) (binds:=[("script",.ref sc)]) lwNs ["script","d"] [137,144,151,158] (tb4 (tabObj ps4) (tabObj ps) o1 o2) TT.law hA W LKK.dom
  (λpm doc=>by kernel_rfl) (by kernel_rfl) (by kernel_rfl) ?_ ?_ (by simp) (by kernel_rfl) ?_
 ·intro b hb
  revert b hb
  refine f4 ?_ ?_ ?_ ?_<;>exact .inr (by decide)
 ·intro p hp
  revert p hp
  refine f4 ?_ ?_ ?_ ?_
  ·exact ⟨e4,by simp⟩
  ·exact ⟨e3,by simp⟩
  ·exact ⟨e1,by simp⟩
  ·exact ⟨e2,by simp⟩
 intro h₁ t₁
 intro c l N Q QB H H0 F
 refine bindsC 0 H0 F ?_
 intro h2 t2 N F
 refine bindsNil ⟨h2,t2,_,_,rfl,F,?_⟩
 have F:=F.knowOld (a:=sc) (ob:=lobj vs 0) hsc hsc' (λq=>nomatch q) (Nat.le_refl _)
 have F:=F.knowVT (ps:=ps) hc3 (λc' hrec (q:c'∈([137,144,151,158]:List Addr))=>by
  have q:=ors q
  rcases q with q | q | q | q
  ·exact CodeRec.not_tab hrec e4 k4 q
  ·exact CodeRec.not_tab hrec e3 k3 q
  ·exact CodeRec.not_tab hrec e1 k1 q
  ·exact CodeRec.not_tab hrec e2 k2 q) (Nat.le_refl _)
 have F:=F.weaken (Φ':=λh=>LR IntR ns (.ref sc) h∧VTp ps h) λh y=>⟨⟨sc,vs,0,rfl,y.1.2,ints_lr hns⟩,y.2⟩
 refine unpack3C (ad:=h.objs.size+1+1) (P:=LR IntR (lwX ns)) (PP:=λy0 y1 y2 y3=>Ex4 λu0 u1 u2 u3=>An4 (y0 = .int (lwA ns 0) u0) (y1 = .int (lwA ns 1) u1) (y2 = .int (lwA ns 2) u2) (y3 = .int (lwA ns 3) u3)) 0 1 2 1 H F
  (EvF.toR (listCompR (R:=IntR) (names:=["k"]) (lwX ns) H (by rfl) (by kernel_rfl) (EvIt.range1 (m:=4) H LKK.b_range (.const 4) (by decide)) (by simp [lwX]) (by simp [lwX]) ?_)) (λv h hP=>?_) (λy0 y1 y2 y3 h3 t3 hpp F3=>?_) (by rfl) (by rfl) (by rfl) (by decide) (by decide) (by decide) (by rfl) (by rfl) (by rfl) (by rfl) (by rfl) (by rfl)
 ·intro C h₀ vs' i Ψ z hz' hP hV ok ⟨h4,hψ⟩
  obtain ⟨u,rfl⟩:=hP h4 hψ
  obtain ⟨hi,rfl⟩:=range_at 4 (lwA ns) hz'
  refine EvF.ifexp (b:=decide (i<ns.length)) (EvT.cast (EvT.lt (.nm 0 ok rfl) (EvN.lenL (R:=IntR) (xs:=ns) ok LKK.b_len (EvV.toRP (EvV.cell (v:=.ref sc) ok (by rfl) (by rfl) λh F=>(hV h F.phi).news _ (List.mem_cons_self ..)) λh y=>(hV h y).phi.1) (by lia))) (by simp)) (λhb=>?_) (λhb=>?_)
  ·have hil:i<ns.length:=of_decide_eq_true hb
   have ex:ns[i]?=some (lwA ns i):=by unfold lwA;rw [List.getD_eq_getElem?_getD,List.getElem?_eq_getElem hil];rfl
   exact EvI.toF (EvR.toI (EvR.itemI (R:=IntR) (xs:=ns) (EvV.toRP (EvV.cell (v:=.ref sc) ok (by rfl) (by rfl) λh F=>(hV h F.phi).news _ (List.mem_cons_self ..)) λh y=>(hV h y).phi.1) (.nm 0 ok rfl) i (.inl rfl) ex (by lia)))
  ·have hil:¬ i<ns.length:=of_decide_eq_false hb
   have ex:lwA ns i=0:=by unfold lwA;rw [List.getD_eq_getElem?_getD,List.getElem?_eq_none (by lia)];rfl
   rw [ex]
   exact EvI.toF .const
 ·obtain ⟨a,ys,k,rfl,ha,hR⟩:=hP
  obtain ⟨y0,f0,u0,e0⟩:=hR.get (i:=0) (x:=lwA ns 0) rfl
  obtain ⟨y1,f1,u1,e1⟩:=hR.get (i:=1) (x:=lwA ns 1) rfl
  obtain ⟨y2,f2,u2,e2⟩:=hR.get (i:=2) (x:=lwA ns 2) rfl
  obtain ⟨y3,f3,u3,e3⟩:=hR.get (i:=3) (x:=lwA ns 3) rfl
  exact ⟨_,_,_,_,⟨a,rfl,.inl ⟨k,list4_eq hR.1 f0 f1 f2 f3▸ha⟩⟩,u0,u1,u2,u3,e0,e1,e2,e3⟩
 obtain ⟨u0,u1,u2,u3,rfl,rfl,rfl,rfl⟩:=hpp
 have hp4:(pickL ns (some 4) none none).length≤63:=Nat.le_trans (pickL_length_le ..) hlen
 refine asR 3 H F3 (P:=LR IntR (pickL ns (some 4) none none)) (EvR.mono (EvR.slice (R:=IntR) (xs:=ns) (a:=some 4) (b:=none) (s:=none) (EvV.toRP (.cellN 0 H) λh y=>y.1) (.of (.const (i:=4))) EvPart.none EvPart.none (by simp) (by lia)) λv h y=>y.toLR) ?_
 intro vr h4 t4 l F4
 have F4:=F4.weaken (Φ':=λh=>VTp ps h∧LR IntR (pickL ns (some 4) none none) vr h) λh y=>⟨y.1.2,y.2⟩
 refine asU (f:=λu=>.bytes (lwSec ns).toArray u) 4 H F4 (EvF.octs H LKK (EvR.mono (EvR.slice (R:=IntR) (xs:=pickL ns (some 4) none none) (a:=none) (b:=some 9) (s:=none) (EvV.toRP (.nm 3 H rfl) λh y=>y.2) EvPart.none (.of (.const (i:=9))) EvPart.none (by simp) (by lia)) λv h y=>y.toLR) (Nat.le_trans (pick9 _) (by decide)) (by rfl) (by kernel_rfl) (λ_ _=>by rfl)) ?_
 intro us h5 t5 l F5
 refine asU (f:=λu=>.bytes (lwSalt ns).toArray u) 5 H F5 (EvF.octs H LKK (EvR.mono (EvR.slice (R:=IntR) (xs:=pickL ns (some 4) none none) (a:=some 9) (b:=some 18) (s:=none) (EvV.toRP (.nm 3 H rfl) λh y=>y.2) (.of (.const (i:=9))) (.of (.const (i:=18))) EvPart.none (by simp) (by lia)) λv h y=>y.toLR) (Nat.le_trans (pick18 _) (by decide)) (by rfl) (by kernel_rfl) (λ_ _=>by rfl)) ?_
 intro ut h6 t6 l F6
 have F6:=F6.weaken (Φ':=VTp ps) λh y=>y.1
 refine asN 6 H F6 (EvN.add (.const 1) (EvI.modN (.nm 1 H rfl) (.const (i:=90)) (by decide))) ?_
 intro kl uk h7 t7 hkl l F7
 have hkb:kl≤90:=by have:=fmod_lt (lwA ns 1) (k:=90) (by decide);lia
 have hk1:1≤kl:=by lia
 clear hkl
 refine asU 7 H F7 (EvN.pick (v1:=4) (v2:=2) (.nm 0 H rfl) (.const (i:=8)) (by decide) (.const (i:=5)) (.const 4) (.const 2)) ?_
 rintro ⟨⟨nn,hnn⟩,un⟩ h8 t8 l F8
 refine asU 8 H F8 (EvN.pick (v1:=2) (v2:=1) (.nm 0 H rfl) (.const (i:=8)) (by decide) (.const (i:=6)) (.const 2) (.const 1)) ?_
 rintro ⟨⟨rr,hrr⟩,ur⟩ h9 t9 l F9
 refine asU 9 H F9 (EvN.pick (v1:=2) (v2:=1) (.nm 0 H rfl) (.const (i:=8)) (by decide) (.const (i:=7)) (.const 2) (.const 1)) ?_
 rintro ⟨⟨pp,hpp⟩,up⟩ h10 t10 l F10
 have hs:=lwSec_len ns
 have ht:=lwSalt_len ns
 have hNd:(h.objs.size+1+1,cobj (some (Value.int (lwA ns 3) u3)))∈[(h.objs.size+1,cobj (some (Value.ref sc))),(h.objs.size+1+1,cobj (some (Value.int (lwA ns 3) u3)))]:=by simp
 have fin:∀ {l':LS} {N':LN} {Φ':HP} {h':Heap} {t':Nat} {g':Array GenState} {bs:List UInt8} {ut ud:Tok},GensOk g g'→(lwCx prog w A g' d o h K mg mb).SS l' N' Φ' h' →
   l'[11]?=some (("due":Str),some (.bytes bs.toArray ud))→l'[12]?=some (("told":Str),some (.bytes bs.toArray ut))→l'[13]?=some (("refused":Str),none) →
   (Ex4 λo4' o3' o1' o2'=>An5 (N'=[(h.objs.size+1,cobj (some (Value.ref sc))),(h.objs.size+1+1,cobj (some (Value.int (lwA ns 3) u3)))]++tb4 o4' o3' o1' o2') (TabOk o4') (TabOk o3') (TabOk o1') (TabOk o2')) →
   (lwCx prog w A g' d o h K mg mb).wp (execs ((bdOf (top 35)).drop 9) (lwCx prog w A g' d o h K mg mb).env) (λf s'=>R (.ok (.ret (match f with | .ret v=>v | _=>.none))) s') NoE ((lwCx prog w A g' d o h K mg mb).st h' t'):=by
  intro l' N' Φ' h' t' g' bs ut ud hg F e1 e2 e3 ⟨o4',o3',o1',o2',eN,q4,q3,q1,q2⟩
  subst eN
  refine law_tail TT hfr ((H.gn g').le (by decide)) F e1 e2 e3 (List.mem_append_left _ hNd) (λl'' Φ'' h'' t'' F'=>?_)
  exact hR h'' g' t'' (λb ob hb e=>F'.kept (Nat.le_refl _) b ob hb e) (.of (F'.new (i:=2) rfl) (F'.new (i:=3) rfl) (F'.new (i:=4) rfl) (F'.new (i:=5) rfl) q4 q3 q1 q2) hg
 refine ifS F10 (b:=(lwA ns 2).fmod 2 == 1) (EvT.eq (EvI.mod (.nm 2 H rfl) (.const (i:=2)) (by decide)) (.const (i:=1))) (λh11 t11 F11=>?_)
 cases (lwA ns 2).fmod 2 == 1
 ·rw [if_neg (by decide)]
  refine ifS F11 (b:=(lwA ns 3).fmod 2 == 1) (EvT.eq (EvI.mod (EvV.toI (.cellN 1 H)) (.const (i:=2)) (by decide)) (.const (i:=1))) (λh12 t12 F12=>?_)
  cases (lwA ns 3).fmod 2 == 1
  ·rw [if_neg (by decide)]
   refine asU (f:=λu=>.bytes (wrun (lwSec ns) (lwSalt ns) nn rr pp kl).toArray u) 11 H F12 (EvF.callU (m:=6) H LKK.gdue LKK.due (.consV (.nm 4 H rfl) (.consV (.nm 5 H rfl) (.consV (.nm 7 H rfl) (.consV (.nm 8 H rfl) (.consV (.nm 9 H rfl) (.consV (.nm 6 H rfl) .nilU)))))) (λ_ h _=>by rw [←due_eq hrr hnn];exact law_due LKK (by lia) (by lia) (by lia) (by lia) hrr hpp (by lia)) (by decide)) ?_
   intro ud h13 t13 l F13
   refine asSU (f:=λu=>.bytes (wrun (lwSec ns) (lwSalt ns) nn rr pp kl).toArray u) 12 H F13 (EvS.scr (N0:=[(h.objs.size+1,cobj (some (Value.ref sc))),(h.objs.size+1+1,cobj (some (Value.int (lwA ns 3) u3)))]) TT.ts H (by decide) (.consV (.nm 4 H rfl) (.consV (.nm 5 H rfl) (.consV (.nm 7 H rfl) (.consV (.nm 8 H rfl) (.consV (.gl H LKK.gkdf) (.consV (.nm 9 H rfl) (.consV (.nm 6 H rfl) .nilU))))))) (λa b hd _=>?_) hrr hpp hnn hk1 (by lia) (by lia) (by lia) (λh F=>⟨⟨ps,F.new (i:=3) rfl,ht3,F.phi⟩,⟨o1,F.new (i:=4) rfl,k1⟩,⟨o2,F.new (i:=5) rfl,k2⟩⟩) k4 rfl) ?_
   ·exact ⟨_,_,_,_,_,_,ScB.seven,.bytes TT.ts.te,.bytes TT.ts.te⟩
   intro ut' N' g' h14 t14 hN' hg l F14
   exact wpAny_execs_nil (wpAny_execs_nil (fin hg F14 rfl rfl rfl hN'))
  ·rw [if_pos rfl]
   refine asU (f:=λu=>.str ⟨(lwW (lwSalt ns)).toArray⟩ u) 10 H F12 (EvF.wrds H TT.chr (EvF.mono (EvV.toF (.nm 5 H rfl)) λv _ e=>⟨ut,e⟩) (by lia) (by rfl) (by kernel_rfl) (λ_ _=>by rfl) (λ_ _=>by rfl) (λ_ _=>by rfl) (λ_ _=>by rfl)) ?_
   intro uw h12 t12 l F12
   have he:=lwW_enc (lwSalt ns)
   refine asU (f:=λu=>.bytes (wrun (lwSec ns) (encL (lwW (lwSalt ns))) nn rr pp 32).toArray u) 11 H F12 (EvF.callU (m:=6) H LKK.gdue LKK.due (.consV (.nm 4 H rfl) (.consU ((EvF.encode (EvF.mono (EvV.toF (.nm 10 H rfl)) λv _ e=>⟨uw,e⟩) (lwW_sur _) (by lia))) (.consV (.nm 7 H rfl) (.consV (.nm 8 H rfl) (.consV (.nm 9 H rfl) (.consI (EvN.const 32) .nilU)))))) (λ_ h _=>by rw [←due_eq hrr hnn];exact law_due LKK (by lia) (by lia) (by lia) (by lia) hrr hpp (by lia)) (by decide)) ?_
   intro ud h13 t13 l F13
   refine asSU (f:=λu=>.bytes (wrun (lwSec ns) (encL (lwW (lwSalt ns))) nn rr pp 32).toArray u) 12 H F13 (NN:=λN'=>Ex4 λo4' o3' o1' o2'=>An5 (N'=[(h.objs.size+1,cobj (some (Value.ref sc))),(h.objs.size+1+1,cobj (some (Value.int (lwA ns 3) u3)))]++tb4 o4' o3' o1' o2') (TabOk o4') (TabOk o3') (TabOk o1') (TabOk o2')) (EvS.ifexp (b:=(pp:Int) == 1) (EvT.eq (.nm 9 H rfl) (.const (i:=1))) (λhb=>?_) (λhb=>?_)) ?_
   ·have hb:pp=1:=by have:=of_decide_eq_true hb;lia
    subst hb
    refine EvS.scr (N0:=[(h.objs.size+1,cobj (some (Value.ref sc))),(h.objs.size+1+1,cobj (some (Value.int (lwA ns 3) u3)))]) TT.ts H (by decide) (.consV (.nm 4 H rfl) (.consV (.nm 10 H rfl) (.consV (.nm 7 H rfl) (.consV (.nm 8 H rfl) (.consV (.gl H LKK.gkdf) .nilU))))) (λa b hd _=>?_) hrr hpp hnn (by decide) (by lia) (by lia) (by lia) (λh F=>⟨⟨ps,F.new (i:=3) rfl,ht3,F.phi⟩,⟨o1,F.new (i:=4) rfl,k1⟩,⟨o2,F.new (i:=5) rfl,k2⟩⟩) k4 rfl
    exact ⟨_,_,_,_,_,_,ScB.five,.bytes TT.ts.te,.str TT.ts.te (lwW_sur _) (by lia)⟩
   ·refine EvS.scr (N0:=[(h.objs.size+1,cobj (some (Value.ref sc))),(h.objs.size+1+1,cobj (some (Value.int (lwA ns 3) u3)))]) TT.ts H (by decide) (.consV (.nm 4 H rfl) (.consV (.nm 10 H rfl) (.consV (.nm 7 H rfl) (.consV (.nm 8 H rfl) (.consV (.gl H LKK.gkdf) (.consV (.nm 9 H rfl) .nilU)))))) (λa b hd _=>?_) hrr hpp hnn (by decide) (by lia) (by lia) (by lia) (λh F=>⟨⟨ps,F.new (i:=3) rfl,ht3,F.phi⟩,⟨o1,F.new (i:=4) rfl,k1⟩,⟨o2,F.new (i:=5) rfl,k2⟩⟩) k4 rfl
    exact ⟨_,_,_,_,_,_,ScB.six,.bytes TT.ts.te,.str TT.ts.te (lwW_sur _) (by lia)⟩
   intro ut' N' g' h14 t14 hN' hg l F14
   exact wpAny_execs_nil (wpAny_execs_nil (fin hg F14 rfl rfl rfl hN'))
 ·rw [if_pos rfl]
  refine asU (f:=λu=>.str ⟨(lwW (lwSec ns)).toArray⟩ u) 10 H F11 (EvF.wrds H TT.chr (EvF.mono (EvV.toF (.nm 4 H rfl)) λv _ e=>⟨us,e⟩) (by lia) (by rfl) (by kernel_rfl) (λ_ _=>by rfl) (λ_ _=>by rfl) (λ_ _=>by rfl) (λ_ _=>by rfl)) ?_
  intro uw h12 t12 l F12
  have he:=lwW_enc (lwSec ns)
  refine asU (f:=λu=>.bytes (wrun (encL (lwW (lwSec ns))) (lwSalt ns) nn rr pp kl).toArray u) 11 H F12 (EvF.callU (m:=6) H LKK.gdue LKK.due (.consU ((EvF.encode (EvF.mono (EvV.toF (.nm 10 H rfl)) λv _ e=>⟨uw,e⟩) (lwW_sur _) (by lia))) (.consV (.nm 5 H rfl) (.consV (.nm 7 H rfl) (.consV (.nm 8 H rfl) (.consV (.nm 9 H rfl) (.consV (.nm 6 H rfl) .nilU)))))) (λ_ h _=>by rw [←due_eq hrr hnn];exact law_due LKK (by lia) (by lia) (by lia) (by lia) hrr hpp (by lia)) (by decide)) ?_
  intro ud h13 t13 l F13
  refine asSU (f:=λu=>.bytes (wrun (encL (lwW (lwSec ns))) (lwSalt ns) nn rr pp kl).toArray u) 12 H F13 (EvS.scr (N0:=[(h.objs.size+1,cobj (some (Value.ref sc))),(h.objs.size+1+1,cobj (some (Value.int (lwA ns 3) u3)))]) TT.ts H (by decide) (.consV (.nm 10 H rfl) (.consV (.nm 5 H rfl) (.consV (.nm 7 H rfl) (.consV (.nm 8 H rfl) (.consV (.gl H LKK.gkdf) (.consV (.nm 9 H rfl) (.consV (.nm 6 H rfl) .nilU))))))) (λa b hd _=>?_) hrr hpp (hnn) hk1 (by lia) (by lia) (by lia) (λh F=>⟨⟨ps,F.new (i:=3) rfl,ht3,F.phi⟩,⟨o1,F.new (i:=4) rfl,k1⟩,⟨o2,F.new (i:=5) rfl,k2⟩⟩) k4 rfl) ?_
  ·exact ⟨_,_,_,_,_,_,ScB.seven,.str TT.ts.te (lwW_sur _) (by lia),.bytes TT.ts.te⟩
  intro ut' N' g' h14 t14 hN' hg l F14
  exact wpAny_execs_nil (fin hg F14 rfl rfl rfl hN')
end
end
section
open PySem PySem.Spec PySem.Calls PySem.W PyProof.Rows
section
variable {P:Params}
theorem look_mem {o:Obj}:K.lookup a=some o→a∈K.map (·.1):=by
 induction K with
 | nil=>exact λe=>nomatch e
 | cons p K ih =>
  intro e
  rw [List.lookup_cons] at e
  cases q:a == p.1 with
  | true=>exact List.mem_cons.mpr (.inl (beq_iff_eq.mp q))
  | false=>rw [q] at e;exact List.mem_cons_of_mem _ (ih e)
theorem kw_keys:(KW P).map (·.1)=aW:=rfl
theorem kw_dom:KDom (KW P):=⟨λa o e=>by
 have h:aW.all (λa=>decide (a<278∧a∉tabs))=true:=by decide +kernel
 exact of_decide_eq_true (List.all_eq_true.mp h a (kw_keys (P:=P)▸look_mem e))⟩
noncomputable abbrev fV (x:Str) (v:Value):Str×Option PySem.Builtin.ObjectAttr.Found:=(x,some (.value v))
noncomputable abbrev fB (x:Str) (f:Addr):Str×Option PySem.Builtin.ObjectAttr.Found:=(x,some (.bind (.builtin "function.__get__") (.ref f)))
theorem kw_own:∀p∈[fV "n" (.int 0 481),fV "r" (.int 0 483),fV "p" (.int 0 485),fV "smix_bytes" (.int 0 487),fV "iv_bytes" (.int 0 489),fV "bmix_len" (.int 0 491),fV "bmix_half_len" (.int 0 493),fV "bmix_struct" .none,fV "integerify" .none,fB "bmix" 156,fB "run" 142,fB "smix" 149,fB "_bmix_1" 163],∀od:Obj,
  findObj (KW P) 166 (some od) p.1=(lookIn p.1 od).bind λown=>match own with | some v=>some (.value v) | none=>p.2:=by
 intro p hp od
 have hp:=ors hp
 rcases hp with rfl | rfl | rfl | rfl | rfl | rfl | rfl | rfl | rfl | rfl | rfl | rfl | rfl<;>kernel_rfl
theorem kw_own' {name:Str} {X:Option PySem.Builtin.ObjectAttr.Found} {r:Option Value} (h:∀od:Obj,findObj (KW P) 166 (some od) name=(lookIn name od).bind λown=>match own with | some v=>some (.value v) | none=>X) (e:lookIn name od=some r) :
  findObj (KW P) 166 (some od) name=r.elim X λv=>some (.value v):=by rw [h,e];cases r<;>rfl
theorem fnk {name:Str} {s:Stmt} (h:K.lookup f=some (fnO name name s .none pm cd doc)) (c:codeIn K cd name=true):FnK K f name (arOf s) (bdOf s) (scOf s) cd:=⟨⟨_,_,_,_,_,h⟩,c⟩
theorem fnm {name:Str} {s:Stmt} (h:K.lookup f=some (fnO name qual s dflt pm cd doc)) (c:codeIn K cd qual=true):FnM K f name qual (arOf s) (bdOf s) (scOf s) dflt cd:=⟨⟨_,_,_,_,_,h⟩,c⟩
section
variable (hg:∀p∈TW0,mg p.1=p.2) (hb:∀x:Str,x≠"__name__"→mb x=bootBuiltins x)
include hg
theorem mgS (h:TW0.lookup x=some (some v)):mg x=some v:=by
 have:∀(l:LS),(∀p∈l,mg p.1=p.2)→l.lookup x=some (some v)→mg x=some v:=by
  intro l
  induction l with
  | nil=>exact λ_ e=>nomatch e
  | cons p l ih =>
   intro hl e
   rw [List.lookup_cons] at e
   cases q:x == p.1 with
   | true =>
    rw [q] at e
    rw [beq_iff_eq.mp q,hl p (List.mem_cons_self ..)]
    exact Option.some.inj e
   | false=>rw [q] at e;exact ih (λp hp=>hl p (List.mem_cons_of_mem _ hp)) e
 exact this TW0 hg h
include hb
theorem mgN (h:(rN x)∈TW0) (hx:(x == ("__name__":Str))=false) (e:bootBuiltins x=some v):mg x=none∧mb x=some v :=
 ⟨hg _ h,(hb x λq=>by rw [q] at hx;exact absurd hx (by decide)).trans e⟩
theorem kw_lk:LK (KW P) mg mb where
 dom:=kw_dom
 mask:=fnk (by kernel_rfl:(KW P).lookup 192=some o192) (by kernel_rfl)
 gmask:=mgS hg (by kernel_rfl)
 kdf:=fnk (by kernel_rfl:(KW P).lookup 199=some o199) (by kernel_rfl)
 gkdf:=mgS hg (by kernel_rfl)
 any:=fnk (by kernel_rfl:(KW P).lookup 206=some o206) (by kernel_rfl)
 gany:=mgS hg (by kernel_rfl)
 load:=fnk (by kernel_rfl:(KW P).lookup 211=some o211) (by kernel_rfl)
 gload:=mgS hg (by kernel_rfl)
 store:=fnk (by kernel_rfl:(KW P).lookup 216=some o216) (by kernel_rfl)
 gstore:=mgS hg (by kernel_rfl)
 step:=fnk (by kernel_rfl:(KW P).lookup 223=some o223) (by kernel_rfl)
 gstep:=mgS hg (by kernel_rfl)
 pass:=fnk (by kernel_rfl:(KW P).lookup 230=some o230) (by kernel_rfl)
 gpass:=mgS hg (by kernel_rfl)
 salsa:=fnk (by kernel_rfl:(KW P).lookup 235=some o235) (by kernel_rfl)
 gsalsa:=mgS hg (by kernel_rfl)
 crossed:=fnk (by kernel_rfl:(KW P).lookup 240=some o240) (by kernel_rfl)
 gcrossed:=mgS hg (by kernel_rfl)
 blocks:=fnk (by kernel_rfl:(KW P).lookup 247=some o247) (by kernel_rfl)
 gblocks:=mgS hg (by kernel_rfl)
 mixed:=fnk (by kernel_rfl:(KW P).lookup 252=some o252) (by kernel_rfl)
 gmixed:=mgS hg (by kernel_rfl)
 due:=fnk (by kernel_rfl:(KW P).lookup 257=some o257) (by kernel_rfl)
 gdue:=mgS hg (by kernel_rfl)
 wrong:=fnk (by kernel_rfl:(KW P).lookup 264=some o264) (by kernel_rfl)
 gwrong:=mgS hg (by kernel_rfl)
 answer:=fnk (by kernel_rfl:(KW P).lookup 271=some o271) (by kernel_rfl)
 ganswer:=mgS hg (by kernel_rfl)
 b_range:=mgN hg hb (by decide +kernel) (by decide) (by kernel_rfl)
 b_zip:=mgN hg hb (by decide +kernel) (by decide) (by kernel_rfl)
 b_len:=mgN hg hb (by decide +kernel) (by decide) (by kernel_rfl)
 b_sum:=mgN hg hb (by decide +kernel) (by decide) (by kernel_rfl)
 b_int:=mgN hg hb (by decide +kernel) (by decide) (by kernel_rfl)
 fb:=by unfold FBok;kernel_rfl
 b_bytes:=mgN hg hb (by decide +kernel) (by decide) (by kernel_rfl)
theorem kw_ek:EK (KW P) mg mb where
 dom:=kw_dom
 salsa:=fnk (by kernel_rfl:(KW P).lookup 78=some o78) (by kernel_rfl)
 gsalsa:=mgS hg (by kernel_rfl)
theorem kw_em:EM (KW P) mg mb where
 ek:=kw_ek hg hb
 bi:=⟨4,o4,mgS hg (by kernel_rfl),by decide,by kernel_rfl,rfl,rfl,rfl⟩
 zip:=mgS hg (by kernel_rfl)
 iter:=mgN hg hb (by decide +kernel) (by decide) (by kernel_rfl)
 list:=mgN hg hb (by decide +kernel) (by decide) (by kernel_rfl)
 tuple:=mgN hg hb (by decide +kernel) (by decide) (by kernel_rfl)
 bmix1:=fnm (by kernel_rfl:(KW P).lookup 163=some o163) (by kernel_rfl)
 bmix:=fnm (by kernel_rfl:(KW P).lookup 156=some o156) (by kernel_rfl)
 smix:=fnm (by kernel_rfl:(KW P).lookup 149=some o149) (by kernel_rfl)
 run:=fnm (by kernel_rfl:(KW P).lookup 142=some o142) (by kernel_rfl)
 init:=fnm (by kernel_rfl:(KW P).lookup 135=some o135) (by kernel_rfl)
 ct1:=⟨o162,_,_,_,_,_,_,_,_,by kernel_rfl,rfl,rfl,rfl,rfl,rfl,rfl,by decide⟩
 ct2:=⟨o155,_,_,_,_,_,_,_,_,by kernel_rfl,rfl,rfl,rfl,rfl,rfl,rfl,by decide⟩
 ct3:=⟨o148,_,_,_,_,_,_,_,_,by kernel_rfl,rfl,rfl,rfl,rfl,rfl,rfl,by decide⟩
 ct4:=⟨o141,_,_,_,_,_,_,_,_,by kernel_rfl,rfl,rfl,rfl,rfl,rfl,rfl,by decide⟩
 own:=λname hn od v e=>by
  have hn:=ors hn
  rcases hn with rfl | rfl | rfl | rfl | rfl | rfl | rfl | rfl | rfl | rfl
  ·exact kw_own' (kw_own (fV "n" (.int 0 481)) (by trivial)) e
  ·exact kw_own' (kw_own (fV "r" (.int 0 483)) (by trivial)) e
  ·exact kw_own' (kw_own (fV "p" (.int 0 485)) (by trivial)) e
  ·exact kw_own' (kw_own (fV "smix_bytes" (.int 0 487)) (by trivial)) e
  ·exact kw_own' (kw_own (fV "iv_bytes" (.int 0 489)) (by trivial)) e
  ·exact kw_own' (kw_own (fV "bmix_len" (.int 0 491)) (by trivial)) e
  ·exact kw_own' (kw_own (fV "bmix_half_len" (.int 0 493)) (by trivial)) e
  ·exact kw_own' (kw_own (fV "bmix_struct" .none) (by trivial)) e
  ·exact kw_own' (kw_own (fV "integerify" .none) (by trivial)) e
  ·exact kw_own' (kw_own (fB "bmix" 156) (by trivial)) e
 ga:=by kernel_rfl
 gattr:=by kernel_rfl
 meth:=λp hp=>by
  revert p hp
  refine f4 ?_ ?_ ?_ ?_
  ·exact ⟨λod e=>kw_own' (kw_own (fB "run" 142) (by trivial)) e,by kernel_rfl⟩
  ·exact ⟨λod e=>kw_own' (kw_own (fB "smix" 149) (by trivial)) e,by kernel_rfl⟩
  ·exact ⟨λod e=>kw_own' (kw_own (fB "bmix" 156) (by trivial)) e,by kernel_rfl⟩
  ·exact ⟨λod e=>kw_own' (kw_own (fB "_bmix_1" 163) (by trivial)) e,by kernel_rfl⟩
theorem kw_ei:EI (KW P) mg mb where
 em:=kw_em hg hb
 call:=fnm (by kernel_rfl:(KW P).lookup 100=some o100) (by kernel_rfl)
 init:=fnm (by kernel_rfl:(KW P).lookup 93=some o93) (by kernel_rfl)
 slot:=by kernel_rfl
 find:=by kernel_rfl
 ga:=by kernel_rfl
 gattr:=by kernel_rfl
 callF:=by kernel_rfl
 fn:=by kernel_rfl
 fn':=by kernel_rfl
 len:=mgN hg hb (by decide +kernel) (by decide) (by kernel_rfl)
theorem kw_es:ES (KW P) mg mb where
 ei:=kw_ei hg hb
 hd3:=by kernel_rfl
theorem kw_en:EN (KW P) mg mb where
 es:=kw_es hg hb
 setattr:=by kernel_rfl
 over:=by kernel_rfl
 taker:=λname hn=>by
  have hn:=ors hn
  rcases hn with rfl | rfl | rfl | rfl | rfl | rfl | rfl | rfl | rfl | rfl<;>kernel_rfl
 hasD:=by kernel_rfl
 makes:=by kernel_rfl
 initF:=by kernel_rfl
 initT:=by kernel_rfl
 keep:=by kernel_rfl
 igMakes:=by kernel_rfl
 igInit:=by kernel_rfl
 igInitT:=by kernel_rfl
 igSet:=by kernel_rfl
 igOver:=by kernel_rfl
 igTaker:=by kernel_rfl
 igTy:=by kernel_rfl
 igKeep:=by kernel_rfl
 calcsize:=mgS hg (by kernel_rfl)
 struct:=mgS hg (by kernel_rfl)
 str:=mgN hg hb (by decide +kernel) (by decide) (by kernel_rfl)
 ig:=mgS hg (by kernel_rfl)
 eng:=mgS hg (by kernel_rfl)
theorem kw_tn:TN (KW P) mg mb where
 en:=kw_en hg hb
 val:=fnm (by kernel_rfl:(KW P).lookup 177=some o177) (by kernel_rfl)
 tob:=fnm (by kernel_rfl:(KW P).lookup 71=some o71) (by kernel_rfl)
 tobd:=⟨354,355,by kernel_rfl⟩
 scr:=fnm (by kernel_rfl:(KW P).lookup 185=some o185) (by kernel_rfl)
 scrd:=⟨615,616,by kernel_rfl⟩
 ve:=mgN hg hb (by decide +kernel) (by decide) (by kernel_rfl)
 te:=mgN hg hb (by decide +kernel) (by decide) (by kernel_rfl)
 isi:=mgN hg hb (by decide +kernel) (by decide) (by kernel_rfl)
 bytes:=mgN hg hb (by decide +kernel) (by decide) (by kernel_rfl)
 uni:=mgS hg (by kernel_rfl)
 rp:=⟨604,mgS hg (by kernel_rfl)⟩
 kl:=⟨598,mgS hg (by kernel_rfl)⟩
 valG:=mgS hg (by kernel_rfl)
 tobG:=mgS hg (by kernel_rfl)
 scrG:=mgS hg (by kernel_rfl)
theorem kw_te:TE (KW P) mg mb where
 tn:=kw_tn hg hb
 ete:=fnm (by kernel_rfl:(KW P).lookup 49=some o49) (by kernel_rfl)
 ese:=fnm (by kernel_rfl:(KW P).lookup 56=some o56) (by kernel_rfl)
 eteG:=mgS hg (by kernel_rfl)
 eseG:=mgS hg (by kernel_rfl)
theorem kw_ts:TS (KW P) mg mb where
 te:=kw_te hg hb
 lk:=kw_lk hg hb
 runF:=by kernel_rfl
theorem kw_tw:TW (KW P) mg mb where
 ts:=kw_ts hg hb
 law:=fnm (by kernel_rfl:(KW P).lookup 276=some o276) (by kernel_rfl)
 abs:=mgN hg hb (by decide +kernel) (by decide) (by kernel_rfl)
 chr:=mgN hg hb (by decide +kernel) (by decide) (by kernel_rfl)
end
end
end
section
open PySem PySem.Spec PySem.Calls PySem.W PyProof.Rows
set_option pp.deepTerms false
set_option pp.maxSteps 3000
noncomputable def dW:DefRec:=⟨"law",arOf (top 35),bdOf (top 35),scOf (top 35),(top 35).pos⟩
theorem d1:defOf qW PySem.Challenge.rw_lk0012_01.row.name=some (dW,[]):=by kernel_rfl
theorem d2:PySem.Challenge.rw_lk0012_01.row.prog.theDef PySem.Challenge.rw_lk0012_01.row.name=some (dW.params,dW.body,dW.scope):=by kernel_rfl
theorem d3:kwWritten? dW.params.kwonlyargs dW.params.kw_defaults=some []:=by kernel_rfl
theorem d4:(!PySem.Challenge.rw_lk0012_01.row.writes || PySem.Challenge.rw_lk0012_01.row.records.isEmpty)=true:=by kernel_rfl
theorem d5:(chainsOk qW && opensWell PySem.Challenge.rw_lk0012_01.row.prog && (frees PySem.Challenge.rw_lk0012_01.row.toRowW && PySem.Challenge.rw_lk0012_01.row.within.isEmpty))=true:=by decide +kernel
theorem d6:PySem.Challenge.rw_lk0012_01.row.prog.bare:=⟨rfl,rfl,rfl,rfl,rfl,by decide +kernel⟩
theorem d7 (s:Shared):RecFacts PySem.Challenge.rw_lk0012_01.row.records s.heap:=recFacts_of (s:=s) (by kernel_rfl)
abbrev rW:PySem.W.OpenRow:=PySem.Challenge.rw_lk0012_01.row
theorem head_of (call:WalkX qW lsW (λ_ _=>True) YfW YaW rW.toRowW dW [] λf vs=>PySem.call f vs):PySem.Challenge.rw_lk0012_01.Holds:=by
 w_on
 refine holds_law saidW λsaid=>?_
 have hw:rW.toRowW.promised:=by w_witness2
 exact holds_openX (r:=rW) (q:=qW) (loose:=lsW) (Xt:=λ_=>true) (XP:=λ_ _=>True) (Yf:=YfW) (Ya:=YaW) (N:=3430) left0 (λ_ _=>trivial) (λ_ _ _ _ _=>trivial) d1 d2 d3 (λs e=>d7 s) d4 said d5 d6 hw call
end
section
open PySem PySem.Spec PySem.Calls PySem.W PySem.W.X PyProof.Rows
theorem mapEq {α β:Type} {f g:α→β}:∀ {l:List α},l.map f=l.map g→∀p∈l,f p=g p
 | [],_,_,hp=>nomatch hp
 | x::l,e,p,hp=>by
  rw [List.map_cons,List.map_cons] at e
  injection e with e1 e2
  rcases List.mem_cons.mp hp with rfl | hp
  ·exact e1
  ·exact mapEq e2 p hp
theorem mg_of (k:∀b o,h₀.get? b=some o→h.get? b=some o) (G:h.Ns mainGlobals mg) (e:h₀.nsMap mainGlobals x=some v):mg=h₀.nsMap mainGlobals:=by
 obtain ⟨o,es,ep,h1,h2,_,h4⟩:=G
 funext y
 rw [←h4 y]
 unfold Heap.nsMap at e ⊢
 split at e
 ·rename_i o' ho
  have:=k _ _ ho
  rw [h1] at this
  cases this
  rw [h2]
 ·cases e
theorem in_of {P:Params} (k:∀b o,h₀.get? b=some o→h.get? b=some o) (e:aW.map h₀.get?=(KW P).map λp=>some p.2):(KW P).In h:=λa o ho=>by
 rw [←kw_keys (P:=P),List.map_map] at e
 have:∀ {K:Frag},K.lookup a=some o→(a,o)∈K:=by
  intro K
  induction K with
  | nil=>exact λe=>nomatch e
  | cons p K ih =>
   intro e
   rw [List.lookup_cons] at e
   cases q:a == p.1 with
   | true =>
    rw [q] at e
    rw [beq_iff_eq.mp q]
    have:p.2=o:=Option.some.inj e
    rw [←this]
    exact List.mem_cons_self ..
   | false=>rw [q] at e;exact List.mem_cons_of_mem _ (ih e)
 exact k a o (mapEq e (a,o) (this ho))
theorem tabCode {P:Params} (k:(KW P).In h) {b:Addr} (hb:b∈([137,144,151,158]:List Addr)):isCodeTable h b:=by
 refine f4 (P:=λb=>isCodeTable h b) ?_ ?_ ?_ ?_ b hb
 ·exact ⟨141,o141,_,k _ _ (by kernel_rfl),rfl,rfl,rfl⟩
 ·exact ⟨148,o148,_,k _ _ (by kernel_rfl),rfl,rfl,rfl⟩
 ·exact ⟨155,o155,_,k _ _ (by kernel_rfl),rfl,rfl,rfl⟩
 ·exact ⟨162,o162,_,k _ _ (by kernel_rfl),rfl,rfl,rfl⟩
theorem oldW {P:Params} (k:(KW P).In h) (ht:∀b∈([137,144,151,158]:List Addr),h.get? b=some (tabObj #[])) (hk:∀b o,b∉([137,144,151,158]:List Addr)→h.get? b=some o→h'.get? b=some o) (he:TabsEnd h'):OldK h h' where
 old b o e:=by
  by_cases hb:b∈([137,144,151,158]:List Addr)
  ·obtain ⟨_,e',ps,rfl,_⟩:=he b hb
   rw [ht b hb] at e
   cases e
   exact .inr (.inl ⟨tabCode k hb,rfl,#[],ps,rfl,by rw [e',Array.empty_append]⟩)
  ·exact .inl (hk b o hb e)
 there b o e:=by
  by_cases hb:b∈([137,144,151,158]:List Addr)
  ·obtain ⟨o',e',_⟩:=he b hb
   exact ⟨o',e'⟩
  ·exact ⟨o,hk b o hb e⟩
theorem walk:WalkX qW lsW (λ_ _=>True) YfW YaW rW.toRowW dW [] λf vs=>PySem.call f vs:=by
 intro w s₀ s₁ mg mb G Y a o pm cd doc dV kV ho hod hcd hdf hmg hgens args vals as L hpre hlay hrd hwell has
 wrow_args hpre hlay hrd hwell has
 rename_i ns _ _ _ _ _ _ _ sc vs _ hL _ _ _ hI _ hle _
 obtain ⟨hat,hsz⟩:=script_at L
 have hob:=script_obj L hL
 have y1:aW.map s₀.heap.get?=(KW w.params).map λp=>some p.2:=congrArg Prod.fst Y
 have y2:TW0.map (λp=>s₀.heap.nsMap mainGlobals p.1)=TW0.map λp=>p.2:=congrArg (λx=>x.2.1) Y
 have y3:s₀.heap.objs.size=277:=congrArg (λx=>x.2.2.1) Y
 have y4:([137,144,151,158]:List Addr).map s₀.heap.get?=([137,144,151,158]:List Addr).map λ_=>some (tabObj #[]):=congrArg (λx=>x.2.2.2) Y
 have hK:(KW w.params).In s₁.heap:=in_of L.keeps y1
 have hlaw:s₀.heap.nsMap mainGlobals "law"=some (.ref 276):=mapEq y2 (rS "law" (.ref 276)) (by decide +kernel)
 have hmg0:=mg_of L.keeps G.T.g hlaw
 have hg:∀p∈TW0,mg p.1=p.2:=λp hp=>by rw [hmg0];exact mapEq y2 p hp
 have T:TW (KW w.params) mg mb:=kw_tw hg G.T.builtins
 have ht:∀b∈([137,144,151,158]:List Addr),s₁.heap.get? b=some (tabObj #[]):=λb hb=>L.keeps b _ (mapEq y4 b hb)
 have hz:s₁.heap.objs.size=278:=by rw [hsz,y3]
 rw [y3] at hat
 subst hat
 have ha:mg "law"=some (.ref a):=hmg
 rw [hmg0,hlaw] at ha
 cases ha
 have hW:W0 (KW w.params) mg mb s₁.heap:=⟨hK,G.T.g,G.T.b,G.T.nolimit,by rw [hz];decide⟩
 have hA:AOk 41 callerA:=⟨rfl,by decide,by decide,rfl⟩
 have hsc:s₁.heap.get? 277=some (lobj vs 0):=hob
 have hT:Tabs3 s₁.heap:=⟨⟨#[],ht _ (by trivial),trivial,.inl rfl⟩,⟨_,ht _ (by trivial),#[],rfl,trivial⟩,⟨_,ht _ (by trivial),#[],rfl,trivial⟩⟩
 obtain ⟨h,g,d,t,os⟩:=s₁
 refine wpAny_call (law_call (prog:=rW.prog) (w:=w) T (vs:=vs) (ns:=ns) hsc hI (by lia) (by decide) hT ⟨#[],ht _ (by trivial),trivial⟩ hA rfl hW λh' g' t' hk he hgn=>?_)
 refine ⟨.inl ⟨_,.bool true,[],rfl,λ_=>rfl,.bool true,?_,λ_=>⟨List.nodup_nil,λ_ hm=>(nomatch hm)⟩⟩,oldW hK ht hk he,rfl,?_⟩
 ·first | rfl | wrow_post
 ·exact hgn (by rw [show g=#[] from hgens];exact AllBare.empty)
theorem whole:PySem.Challenge.rw_lk0012_01.Holds:=head_of walk
end
end Mine
theorem PySem.Challenge.cw_lk0012_01_holds : PySem.Challenge.rw_lk0012_01.Holds :=
 Mine.whole
