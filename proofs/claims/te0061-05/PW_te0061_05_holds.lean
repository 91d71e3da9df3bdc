import PyProof.Rows.All
import Wide.All
import OpenK.AllK
import Wide.FinOn
import KE.KNest
import KE.KxPercent
import KE.KTab
import KE.KTops
import KE.LcSums
import PyProof.RangeFor
import PyProof.CompFree
import PyProof.CompMap
import PyProof.StrLawsLast
import PySem.Challenge.RW_te0061_05
open PySem PySem.W PySem.Calls PyProof.Rows
set_option Elab.async false
set_option tactic.hygienic false
set_option linter.unusedVariables false
set_option compiler.extract_closed false
set_option maxRecDepth 100000
set_option maxHeartbeats 2000000
namespace Mine
namespace Internal
open Lean in
def zdg (f:Name→Name):List String→List Syntax→List Syntax
|o::w::r,s=>
 let k:=w.toName
 let m:=o.toNat?.getD 0
 let b:=(s.take (m%100)).reverse.toArray
 let d:=s.drop (m%100)
 zdg f r (if o=="a" then mkAtom w::s else if o=="i" then mkCIdent (`Mine.Internal++k)::s else if o=="h" then mkIdent (f k)::s else if o=="j" then mkIdent k::s else if o=="s" then Syntax.mkStrLit w::s else (if 300≤m then .node .none `Lean.Parser.Tactic.tacticSeq #[.node .none `Lean.Parser.Tactic.tacticSeq1Indented #[.node .none `null b]] else .node .none ((if m<100 then `Lean.Parser.Tactic else if m<200 then `Lean.Parser.Term else .anonymous)++k) b)::d)
|_,s=>s
open Lean in
def zdc (f:Name→Name) (s:String):Syntax:=(zdg f (s.splitOn " ") []).headD .missing
def zcz (q:String):List Char→List String→String
|c::cs,n::ns=>" a ; a case "++q++n++" 201 Lean.binderIdent 200 null 2 caseArg 201 null a => a walk_at s _"++c.toString++" 202 PyProof.Rows.tacticWalk_at_ 301 . 4 case"++zcz q cs ns
|_,_=>""
def zhz:List Char→List String→String
|_::cs,n::ns=>" a ? h "++n++" 102 syntheticHole"++zhz cs ns
|_,_=>""
def zae (e:String):String:=
let p:=e.splitOn "/"
let F:=" i "++p.getD 0 ""
let n:=p.getD 1 ""
let cs:=(p.getD 2 "").toList
let ns:=if p.length==4 then (p.getD 3 "").splitOn "," else ["h0","h1","h2"]
"a | "++(if p.length==4 then "a apply"++F++" 2 apply" else if p.length==2 then "a exact"++F++" 2 exact" else "a refine"++F++(if n=="" then "" else " a ( j "++n++" a := a ? h vv 102 syntheticHole a ) 105 namedArgument")++" a ? a _ 102 syntheticHole"++zhz cs ns++" "++toString ((if n=="" then 201 else 202)+cs.length)++" null 102 app 2 refine")++zcz (if p.length==4 then "j " else "h ") cs ns++" "++toString (301+2*cs.length)++" . 202 group "
def zas:List String→String
|e::r=>zae e++zas r
|[]=>""
def zaz (s:String):String:="a with_reducible a first "++zas (s.splitOn " ")++toString (200+(s.splitOn " ").length)++" null 2 first 301 . 2 withReducible"
def zrp (x:String):String:="a repeat a walk_at s "++x++" 202 PyProof.Rows.tacticWalk_at_ 301 . 2 tacticRepeat_"
def zds (n x:String):String:="a dsimp 200 null 1 optConfig 200 null a only 201 null a [ 200 null 200 null "++x.replace "+" " 3 simpLemma a , 200 null 200 null "++" 3 simpLemma "++n++" null a ] 203 null 200 null 6 dsimp"
def ztx (s:String):String:=
if s=="a" then zaz "Ss.consK// Ss.nil// S.assignK//r S.augK/v/ms S.retK// S.retn// S.brk// S.cont// S.pass// S.assertK// S.exprK//r S.tryK// S.twoK//r E.locK/v/ms E.int// E.str// E.bool// E.none// E.tupKK// tk//b E.cmpK//r T.cmpK//r T.notK// T.andK// T.orK// T.and0// T.or0// T.chainK//r E.notK// E.negK// kneg// E.binK// E.sliceK// E.subK//r E.callBK/id/mr E.callTK/T/mr E.callK/f/mkr Es.consK//r Es.nil// E.methK//cpr/hm,cf,hs km_str// pk0// pk1// pk2// pk3// pk4// pk5// pk6// pk7// pk8// unp_tup// pa_consK// pa_nil// sub_strA/n/aa exS// part_someK// part_none// pk_int// pk_none// sli_strA//a sli_lstA//a CB.ord// len_strA//a CB.sw// T.ofK//r CmpM.by//q/h BinM.by//c/h TrueM.by//c/h" else if s=="b" then "a first a | a with_reducible a refine i E.loc a ( j v a := a ? h vv 102 syntheticHole a ) 105 namedArgument a ? h hm 102 syntheticHole a ? h hv 102 syntheticHole a ? a _ 102 syntheticHole 204 null 102 app 2 refine 301 . 2 withReducible a ; a case h hm 201 Lean.binderIdent 200 null 2 caseArg 201 null a => a walk_at s d 202 PyProof.Rows.tacticWalk_at_ 301 . 4 case a ; a case h hv 201 Lean.binderIdent 200 null 2 caseArg 201 null a => a first a | a assumption 1 assumption 301 . 202 group a | a nofun 1 tacticNofun 301 . 202 group 202 null 2 first 301 . 4 case 305 . 202 group a | a walk_at s a 202 PyProof.Rows.tacticWalk_at_ 301 . 202 group 202 null 2 first" else if s=="A" then zrp "a" else if s=="B" then zrp "b" else if s=="d"||s=="_m" then "a with_reducible "++zrp "v"++" 301 . 2 withReducible" else if s=="v" then zaz "me0/ me1/ me2/ me3/ me4/ me5/ me6/ me7/ me8//" else if s=="_r" then "a with_unfolding_all a intros 200 null 2 intros a ; a rfl 1 tacticRfl 303 . 2 withUnfoldingAll" else if s=="f"||s=="_s" then "a first a | a with_unfolding_all a rfl 1 tacticRfl 301 . 2 withUnfoldingAll 301 . 202 group a | a exact i V.ne_set a by a assumption 1 assumption 301 . 102 byTactic 201 null 102 app 2 exact 301 . 202 group 202 null 2 first" else if s=="i"||s=="_k" then "a exact i KF.keepE i GG.hK a by a assumption 1 assumption 301 . 102 byTactic 201 null 102 app a by a kernel_rfl 201 tacticKernel_rfl 301 . 102 byTactic 202 null 102 app 2 exact" else if s=="_a" then "a assumption 1 assumption" else if s=="_c" then "a constructor 1 constructor" else if s=="_q" then "a constructor 1 constructor a <;> a first a | a constructor 1 constructor 301 . 202 group a | a with_unfolding_all a rfl 1 tacticRfl 301 . 2 withUnfoldingAll 301 . 202 group 202 null 2 first 3 «tactic_<;>_»" else if s=="_p" then "a with_unfolding_all a exact a fun a _ 101 hole 201 null 200 null a => a ⟨ a _ 101 hole a , j rfl 203 null a ⟩ 103 anonymousCtor 104 basicFun 102 fun 2 exact 301 . 2 withUnfoldingAll" else if s.startsWith "_" then "a with_unfolding_all a exact j Nat.le_of_ble_eq_true j rfl 201 null 102 app 2 exact 301 . 2 withUnfoldingAll" else if s=="l" then "a first a | a refine i kt a fun h h_ 201 null 200 null a => a ? a _ 102 syntheticHole 104 basicFun 102 fun a fun h h_ 201 null 200 null a => a ? a _ 102 syntheticHole 104 basicFun 102 fun 202 null 102 app 2 refine 301 . 202 group a | a split 200 null 200 null 3 split 301 . 202 group 202 null 2 first" else if s=="m" then "a first a | a decide 200 null 1 optConfig 2 decide 301 . 202 group a | a assumption 1 assumption 301 . 202 group a | a omega 200 null 1 optConfig 2 omega 301 . 202 group 203 null 2 first" else if s=="g" then zaz "pk0// pk1// pk2// pk3// pk4// pk5// pk6// pk7// pk8//" else if s=="j" then zrp "u" else if s=="u" then zaz "rk_nil// rk_here// rk_skip//" else if s=="k" then zds "239" "i IsB+i IsT+i IsV+i KV+i KT+i KB+i KPut+i KAsg+i KRet+i KTof+i KTc2+i KCmp2+i KIf+i KIfe+i KSs+i KDef+i KO+i KPart+i KSl3+i KNot" else if s=="n" then zds "213" "i startLoc+j List.zip+j List.zipWith+j List.map+j List.append_nil+j List.nil_append+j List.cons_append" else ""
open Lean in
local macro_rules | `(tactic| walk_at $s:str) => do
 let r ← read
 let t:=ztx s.getString
 if t=="" then Macro.throwUnsupported
 return zdc (fun n=>addMacroScope r.quotContext n r.currMacroScope) t
open Lean in
def irfa:Syntax:=zdc id "a intros 200 null 2 intros a ; a rfl 1 tacticRfl 303 ."
open Lean in
def irfc:Syntax:=zdc id "a intro a _ 101 hole 201 null 2 intro a ; a exact a ⟨ a _ 101 hole a , j rfl 203 null a ⟩ 103 anonymousCtor 2 exact 303 ."
open Lean in
def irfd:Syntax:=zdc id "a with_unfolding_all a rfl 1 tacticRfl 301 . 2 withUnfoldingAll 301 ."
theorem nf{b:Bool}(h:b=false):¬b=true:=h▸Bool.false_ne_true
theorem bn:¬false=true:=Bool.false_ne_true
theorem fm{α:Type}{p:α→Prop}{a:α}{l:List α}(h:p a∧∀x∈l,p x):∀x∈a::l,p x:=List.forall_mem_cons.mpr h
section
set_option genSizeOf false
set_option genInjectivity false
set_option genCtorIdx false
namespace Ar
noncomputable def dot:List Nat→List Nat→Nat
 | a::p,x::c=>a * x+dot p c
 | _,_=>0
noncomputable def add:List Nat→List Nat→List Nat
 | a::p,b::q=>(a+b)::add p q
 | [],q=>q
 | p,[]=>p
noncomputable def mul (k:Nat):List Nat→List Nat
 | a::p=>(k * a)::mul k p
 | []=>[]
noncomputable def sb:List Nat→List Nat→List Nat
 | a::p,b::q=>(a - b)::sb p q
 | [],_=>[]
 | p,[]=>p
noncomputable def get:List Nat→Nat→Nat
 | x::_,0=>x
 | _::c,n+1=>get c n
 | [],_=>0
noncomputable def unit:Nat→List Nat
 | 0=>[1]
 | n+1=>0::unit n
theorem dot_nil (p:List Nat):dot p []=0:=by cases p <;> rfl
theorem dot_add:(p q c:List Nat)→dot (add p q) c=dot p c+dot q c
 | a::p,b::q,x::c=>by
  show (a+b) * x+dot (add p q) c=(a * x+dot p c)+(b * x+dot q c)
  rw [dot_add p q c,Nat.add_mul,Nat.add_add_add_comm]
 | a::p,b::q,[]=>rfl
 | [],q,c=>(Nat.zero_add _).symm
 | a::p,[],c=>rfl
theorem dot_mul (k:Nat):(p c:List Nat)→dot (mul k p) c=k * dot p c
 | a::p,x::c=>by
  show (k * a) * x+dot (mul k p) c=k * (a * x+dot p c)
  rw [dot_mul k p c,Nat.mul_add,Nat.mul_assoc]
 | a::p,[]=>rfl
 | [],c=>rfl
theorem sub_both (a b:Nat):a+(b - a)=b+(a - b):=(Nat.le_total a b).elim (fun h=>by rw [Nat.add_sub_cancel' h,Nat.sub_eq_zero_of_le h,Nat.add_zero]) (fun h=>by rw [Nat.add_sub_cancel' h,Nat.sub_eq_zero_of_le h,Nat.add_zero])
theorem dot_sb:(p q c:List Nat)→dot p c+dot (sb q p) c=dot q c+dot (sb p q) c
 | a::p,b::q,x::c=>by
  show (a * x+dot p c)+((b - a) * x+dot (sb q p) c)=(b * x+dot q c)+((a - b) * x+dot (sb p q) c)
  rw [Nat.add_add_add_comm,Nat.add_add_add_comm (b * x),dot_sb p q c,← Nat.add_mul,← Nat.add_mul,sub_both]
 | a::p,b::q,[]=>rfl
 | [],[],c=>rfl
 | [],b::q,c=>Nat.zero_add _
 | a::p,[],c=>(Nat.zero_add _).symm
theorem dot_unit:(i:Nat)→(c:List Nat)→dot (unit i) c=get c i
 | 0,x::c=>by show 1 * x+0=x; rw [Nat.one_mul]; rfl
 | n+1,x::c=>by show 0 * x+dot (unit n) c=get c n; rw [Nat.zero_mul,Nat.zero_add,dot_unit n c]
 | 0,[]=>rfl
 | n+1,[]=>rfl
noncomputable abbrev C:=List Nat × List Nat
noncomputable def ok (c:List Nat) (x:C):Prop:=dot x.1 c≤dot x.2 c
noncomputable def nrm (x:C):C:=(sb x.1 x.2,sb x.2 x.1)
theorem ok_nrm {c:List Nat} {x:C} (h:ok c x):ok c (nrm x):=by
 have e:=dot_sb x.1 x.2 c
 have h:dot x.1 c≤dot x.2 c:=h
 show dot (sb x.1 x.2) c≤dot (sb x.2 x.1) c
 exact Nat.le_of_add_le_add_left (a:=dot x.2 c) (Nat.le_trans (Nat.le_of_eq e.symm) (Nat.add_le_add_right h _))
noncomputable def comb (j:Nat) (l u:C):C:=nrm (add (mul (get u.1 j) l.1) (mul (get l.2 j) u.1),add (mul (get u.1 j) l.2) (mul (get l.2 j) u.2))
theorem ok_comb {c:List Nat} (j:Nat) {l u:C} (h:ok c l) (k:ok c u):ok c (comb j l u):=by
 refine ok_nrm ?_
 show dot (add _ _) c≤dot (add _ _) c
 rw [dot_add,dot_add,dot_mul,dot_mul,dot_mul,dot_mul]
 exact Nat.add_le_add (Nat.mul_le_mul_left _ h) (Nat.mul_le_mul_left _ k)
noncomputable def elim (j:Nat) (cs:List C):List C :=
 cs.filter (fun x=>(get x.1 j).beq 0&&(get x.2 j).beq 0)++(cs.filter (fun x=>Nat.blt 0 (get x.2 j))).flatMap fun l=>(cs.filter (fun x=>Nat.blt 0 (get x.1 j))).map (comb j l)
noncomputable def OK (c:List Nat) (cs:List C):Prop:=∀ x∈cs,ok c x
theorem ok_elim {c:List Nat} (j:Nat) {cs:List C} (h:OK c cs):OK c (elim j cs):=by
 intro x hx
 rcases List.mem_append.mp hx with hx | hx
 ·exact h x (List.mem_filter.mp hx).1
 ·obtain ⟨l,hl,hx⟩:=List.mem_flatMap.mp hx
  obtain ⟨u,hu,rfl⟩:=List.mem_map.mp hx
  exact ok_comb j (h l (List.mem_filter.mp hl).1) (h u (List.mem_filter.mp hu).1)
noncomputable def zeros:List Nat→Bool
 | a::p=>a.beq 0&&zeros p
 | []=>true
theorem dot_zeros:{p:List Nat}→(c:List Nat)→zeros p=true→dot p c=0
 | a::p,x::c,h=>by
  have h:=Bool.and_eq_true_iff.mp h
  show a * x+dot p c=0
  rw [Nat.eq_of_beq_eq_true h.1,Nat.zero_mul,dot_zeros c h.2]
 | [],c,_=>rfl
 | a::p,[],_=>rfl
noncomputable def bad (x:C):Bool:=Nat.blt 0 (get x.1 0)&&zeros x.2
theorem not_bad {vs:List Nat} {x:C} (h:ok (1::vs) x):bad x=true→False:=by
 intro hb
 have hb:=Bool.and_eq_true_iff.mp hb
 have h:dot x.1 (1::vs)≤dot x.2 (1::vs):=h
 rw [dot_zeros _ hb.2] at h
 obtain ⟨p,q⟩:=x
 cases p with
 | nil=>exact nomatch hb.1
 | cons a p=>exact Nat.not_lt_zero 0 (Nat.lt_of_lt_of_le (Nat.lt_of_lt_of_le (Nat.le_of_ble_eq_true hb.1) (Nat.le_trans (Nat.le_of_eq (Nat.mul_one a).symm) (Nat.le_add_right _ _))) h)
noncomputable def fm:Nat→List C→Bool
 | 0,cs=>cs.any bad
 | n+1,cs=>cs.any bad||fm n (elim (n+1) cs)
theorem fm_ok {vs:List Nat}:(n:Nat)→{cs:List C}→OK (1::vs) cs→fm n cs=true→False
 | 0,cs,h,e=>by
  obtain ⟨x,hx,hb⟩:=List.any_eq_true.mp e
  exact not_bad (h x hx) hb
 | n+1,cs,h,e=>by
  rcases Bool.or_eq_true_iff.mp e with e | e
  ·obtain ⟨x,hx,hb⟩:=List.any_eq_true.mp e
   exact not_bad (h x hx) hb
  ·exact fm_ok n (ok_elim _ h) e
inductive A where
 | v (i:Nat) | n (k:Nat) | a (x y:A) | s (x y:A) | m (k:Nat) (x:A) | r (x:A) (k:Nat) | i (x y:A)
noncomputable abbrev A.v0:A:=.v 0
noncomputable abbrev A.v1:A:=.v 1
noncomputable abbrev A.v2:A:=.v 2
noncomputable abbrev A.v3:A:=.v 3
noncomputable abbrev A.v4:A:=.v 4
noncomputable abbrev A.v5:A:=.v 5
noncomputable abbrev A.v6:A:=.v 6
noncomputable abbrev A.v7:A:=.v 7
noncomputable abbrev A.v8:A:=.v 8
noncomputable abbrev A.v9:A:=.v 9
noncomputable abbrev A.n0:A:=.n 0
noncomputable abbrev A.n1:A:=.n 1
noncomputable def A.d (vs:List Nat):A→Nat
 | .v j=>get vs j
 | .n k=>k
 | .a x y=>x.d vs+y.d vs
 | .s x y=>x.d vs - y.d vs
 | .m k x=>k * x.d vs
 | .r x k=>x.d vs * k
 | .i x y=>min (x.d vs) (y.d vs)
noncomputable abbrev T:=List C × List Nat × List Nat
noncomputable def le (s t:T):C:=nrm (add s.2.1 t.2.2,add t.2.1 s.2.2)
noncomputable def lt (s t:T):C:=nrm (add [1] (add s.2.1 t.2.2),add t.2.1 s.2.2)
noncomputable def two {α:Type} (xs ys:List T) (g:T→T→List α):List α:=xs.flatMap fun s=>ys.flatMap fun t=>g s t
noncomputable def lin:A→List T
 | .v j=>[([],unit (j+1),[])]
 | .n k=>[([],[k],[])]
 | .a x y=>two (lin x) (lin y) fun s t=>[(s.1++t.1,add s.2.1 t.2.1,add s.2.2 t.2.2)]
 | .s x y=>two (lin x) (lin y) fun s t=>[(le t s::(s.1++t.1),add s.2.1 t.2.2,add s.2.2 t.2.1),(lt s t::(s.1++t.1),[],[])]
 | .m k x=>(lin x).map fun s=>(s.1,mul k s.2.1,mul k s.2.2)
 | .r x k=>(lin x).map fun s=>(s.1,mul k s.2.1,mul k s.2.2)
 | .i x y=>two (lin x) (lin y) fun s t=>[(le s t::(s.1++t.1),s.2.1,s.2.2),(lt t s::(s.1++t.1),t.2.1,t.2.2)]
noncomputable def Is (vs:List Nat) (k:Nat) (t:T):Prop:=OK (1::vs) t.1∧k+dot t.2.2 (1::vs)=dot t.2.1 (1::vs)
noncomputable def Li (vs:List Nat) (k:Nat) (ts:List T):Prop:=∃ t∈ts,Is vs k t
theorem ok_app {c:List Nat} {x y:List C} (h:OK c x) (k:OK c y):OK c (x++y):=fun z hz=>(List.mem_append.mp hz).elim (h z) (k z)
theorem ok_cons {c:List Nat} {x:C} {y:List C} (h:ok c x) (k:OK c y):OK c (x::y):=List.forall_mem_cons.mpr ⟨h,k⟩
theorem ok_nil {c:List Nat}:OK c []:=fun _ h=>nomatch h
theorem is_le {vs:List Nat} {a b:Nat} {s t:T} (h:Is vs a s) (k:Is vs b t) (e:a≤b):ok (1::vs) (le s t):=by
 refine ok_nrm ?_
 have h:=h.2
 have k:=k.2
 show dot (add _ _) _≤dot (add _ _) _
 rw [dot_add,dot_add,← h,← k,Nat.add_right_comm]
 exact Nat.add_le_add_right (Nat.add_le_add_right e _) _
theorem is_lt {vs:List Nat} {a b:Nat} {s t:T} (h:Is vs a s) (k:Is vs b t) (e:a < b):ok (1::vs) (lt s t):=by
 refine ok_nrm ?_
 have h:=h.2
 have k:=k.2
 show dot (add _ _) _≤dot (add _ _) _
 rw [dot_add,dot_add,dot_add,← h,← k,Nat.add_right_comm]
 exact Nat.one_add_le_iff.mpr (Nat.add_lt_add_right (Nat.add_lt_add_right e _) _)
theorem two_ok {α:Type} {P:α→Prop} {vs:List Nat} {a b:Nat} {xs ys:List T} {g:T→T→List α} (h:Li vs a xs) (k:Li vs b ys) (e:∀ s t,Is vs a s→Is vs b t→∃ r∈g s t,P r):∃ r∈two xs ys g,P r:=by
 obtain ⟨s,hs,is⟩:=h
 obtain ⟨t,ht,it⟩:=k
 obtain ⟨r,hr,p⟩:=e s t is it
 exact ⟨r,List.mem_flatMap.mpr ⟨s,hs,List.mem_flatMap.mpr ⟨t,ht,hr⟩⟩,p⟩
theorem lin_ok (vs:List Nat):(x:A)→Li vs (x.d vs) (lin x)
 | .v j=>⟨_,List.mem_singleton.mpr rfl,ok_nil,(dot_unit (j+1) (1::vs)).symm⟩
 | .n k=>⟨_,List.mem_singleton.mpr rfl,ok_nil,(Nat.mul_one k).symm⟩
 | .a x y=>two_ok (lin_ok vs x) (lin_ok vs y) fun s t h k=>⟨_,List.mem_singleton.mpr rfl,ok_app h.1 k.1,by
   have h:=h.2
   have k:=k.2
   show x.d vs+y.d vs+dot (add _ _) _=dot (add _ _) _
   rw [dot_add,dot_add,← h,← k,Nat.add_add_add_comm]⟩
 | .s x y=>two_ok (lin_ok vs x) (lin_ok vs y) fun s t h k=>by
   by_cases e:y.d vs≤x.d vs
   ·refine ⟨_,List.mem_cons_self,ok_cons (is_le k h e) (ok_app h.1 k.1),?_⟩
    have h:=h.2
    have k:=k.2
    show x.d vs - y.d vs+dot (add _ _) _=dot (add _ _) _
    rw [dot_add,dot_add,← h,← k,Nat.add_left_comm (dot s.2.2 _),← Nat.add_assoc,Nat.sub_add_cancel e,Nat.add_assoc]
   ·have e:=Nat.lt_of_not_le e
    exact ⟨_,List.mem_cons_of_mem _ List.mem_cons_self,ok_cons (is_lt h k e) (ok_app h.1 k.1),Nat.sub_eq_zero_of_le (Nat.le_of_lt e)⟩
 | .m k x=>by
   obtain ⟨s,hs,h⟩:=lin_ok vs x
   refine ⟨_,List.mem_map.mpr ⟨s,hs,rfl⟩,h.1,?_⟩
   show k * x.d vs+dot (mul _ _) _=dot (mul _ _) _
   rw [dot_mul,dot_mul,← h.2,Nat.mul_add]
 | .r x k=>by
   obtain ⟨s,hs,h⟩:=lin_ok vs x
   refine ⟨_,List.mem_map.mpr ⟨s,hs,rfl⟩,h.1,?_⟩
   show x.d vs * k+dot (mul _ _) _=dot (mul _ _) _
   rw [dot_mul,dot_mul,← h.2,Nat.mul_add,Nat.mul_comm]
 | .i x y=>two_ok (lin_ok vs x) (lin_ok vs y) fun s t h k=>by
   by_cases e:x.d vs≤y.d vs
   ·exact ⟨_,List.mem_cons_self,ok_cons (is_le h k e) (ok_app h.1 k.1),(congrArg (·+_) (Nat.min_eq_left e)).trans h.2⟩
   ·have e:=Nat.lt_of_not_le e
    exact ⟨_,List.mem_cons_of_mem _ List.mem_cons_self,ok_cons (is_lt k h e) (ok_app h.1 k.1),(congrArg (·+_) (Nat.min_eq_right (Nat.le_of_lt e))).trans k.2⟩
inductive F where
 | le (x y:A) | lt (x y:A) | eq (x y:A) | ile (x y:A) | ilt (x y:A) | ieq (x y:A) | ff | nt (f:F) | an (f g:F) | or (f g:F) | im (f g:F) | iff (f g:F)
noncomputable def F.d (vs:List Nat):F→Prop
 | .le x y=>x.d vs≤y.d vs
 | .lt x y=>x.d vs < y.d vs
 | .eq x y=>x.d vs=y.d vs
 | .ile x y=>(x.d vs:Int)≤(y.d vs:Int)
 | .ilt x y=>(x.d vs:Int) < (y.d vs:Int)
 | .ieq x y=>(x.d vs:Int)=(y.d vs:Int)
 | .ff=>False
 | .nt f=>¬ f.d vs
 | .an f g=>f.d vs∧g.d vs
 | .or f g=>f.d vs∨g.d vs
 | .im f g=>f.d vs→g.d vs
 | .iff f g=>f.d vs ↔ g.d vs
noncomputable def prod (x y:List (List C)):List (List C):=x.flatMap fun a=>y.map fun b=>a++b
noncomputable def cmp (x y:A) (g:T→T→List (List C)):List (List C):=two (lin x) (lin y) fun s t=>(g s t).map fun l=>l++(s.1++t.1)
noncomputable def dnf:F→Bool→List (List C)
 | .le x y,true=>cmp x y fun s t=>[[Ar.le s t]]
 | .le x y,false=>cmp x y fun s t=>[[Ar.lt t s]]
 | .lt x y,true=>cmp x y fun s t=>[[Ar.lt s t]]
 | .lt x y,false=>cmp x y fun s t=>[[Ar.le t s]]
 | .eq x y,true=>cmp x y fun s t=>[[Ar.le s t,Ar.le t s]]
 | .eq x y,false=>cmp x y fun s t=>[[Ar.lt s t],[Ar.lt t s]]
 | .ile x y,true=>cmp x y fun s t=>[[Ar.le s t]]
 | .ile x y,false=>cmp x y fun s t=>[[Ar.lt t s]]
 | .ilt x y,true=>cmp x y fun s t=>[[Ar.lt s t]]
 | .ilt x y,false=>cmp x y fun s t=>[[Ar.le t s]]
 | .ieq x y,true=>cmp x y fun s t=>[[Ar.le s t,Ar.le t s]]
 | .ieq x y,false=>cmp x y fun s t=>[[Ar.lt s t],[Ar.lt t s]]
 | .ff,true=>[]
 | .ff,false=>[[]]
 | .nt f,b=>dnf f (!b)
 | .an f g,true=>prod (dnf f true) (dnf g true)
 | .an f g,false=>dnf f false++dnf g false
 | .or f g,true=>dnf f true++dnf g true
 | .or f g,false=>prod (dnf f false) (dnf g false)
 | .im f g,true=>dnf f false++dnf g true
 | .im f g,false=>prod (dnf f true) (dnf g false)
 | .iff f g,b=>prod (dnf f true) (dnf g b)++prod (dnf f false) (dnf g (!b))
noncomputable def Ex (vs:List Nat) (ls:List (List C)):Prop:=∃ l∈ls,OK (1::vs) l
theorem ex_l {vs:List Nat} {x y:List (List C)} (h:Ex vs x):Ex vs (x++y):=h.elim fun l h=>⟨l,List.mem_append_left _ h.1,h.2⟩
theorem ex_r {vs:List Nat} {x y:List (List C)} (h:Ex vs y):Ex vs (x++y):=h.elim fun l h=>⟨l,List.mem_append_right _ h.1,h.2⟩
theorem ex_p {vs:List Nat} {x y:List (List C)} (h:Ex vs x) (k:Ex vs y):Ex vs (prod x y):=h.elim fun l h=>k.elim fun m k=>⟨l++m,List.mem_flatMap.mpr ⟨l,h.1,List.mem_map.mpr ⟨m,k.1,rfl⟩⟩,ok_app h.2 k.2⟩
theorem cmp_ok {vs:List Nat} {x y:A} {g:T→T→List (List C)} (e:∀ s t,Is vs (x.d vs) s→Is vs (y.d vs) t→Ex vs (g s t)):Ex vs (cmp x y g) :=
 two_ok (lin_ok vs x) (lin_ok vs y) fun s t h k=>(e s t h k).elim fun l hl=>⟨_,List.mem_map.mpr ⟨l,hl.1,rfl⟩,ok_app hl.2 (ok_app h.1 k.1)⟩
theorem ex_1 {vs:List Nat} {x:C} {ls:List (List C)} (h:ok (1::vs) x):Ex vs ([x]::ls):=⟨_,List.mem_cons_self,ok_cons h ok_nil⟩
theorem ex_2 {vs:List Nat} {l:List C} {ls:List (List C)} (h:Ex vs ls):Ex vs (l::ls):=h.elim fun m h=>⟨m,List.mem_cons_of_mem _ h.1,h.2⟩
theorem dnf_ok (vs:List Nat):(f:F)→(f.d vs→Ex vs (dnf f true))∧(¬ f.d vs→Ex vs (dnf f false))
 | .le x y=>⟨fun e=>cmp_ok fun s t h k=>ex_1 (is_le h k e),fun e=>cmp_ok fun s t h k=>ex_1 (is_lt k h (Nat.lt_of_not_le e))⟩
 | .lt x y=>⟨fun e=>cmp_ok fun s t h k=>ex_1 (is_lt h k e),fun e=>cmp_ok fun s t h k=>ex_1 (is_le k h (Nat.le_of_not_lt e))⟩
 | .eq x y=>⟨fun e=>cmp_ok fun s t h k=>⟨_,List.mem_cons_self,ok_cons (is_le h k (Nat.le_of_eq e)) (ok_cons (is_le k h (Nat.le_of_eq e.symm)) ok_nil)⟩,
   fun e=>cmp_ok fun s t h k=>(Nat.lt_or_gt_of_ne e).elim (fun e=>ex_1 (is_lt h k e)) (fun e=>ex_2 (ex_1 (is_lt k h e)))⟩
 | .ile x y=>⟨fun e=>cmp_ok fun s t h k=>ex_1 (is_le h k (Int.ofNat_le.mp e)),fun e=>cmp_ok fun s t h k=>ex_1 (is_lt k h (Nat.lt_of_not_le fun x=>e (Int.ofNat_le.mpr x)))⟩
 | .ilt x y=>⟨fun e=>cmp_ok fun s t h k=>ex_1 (is_lt h k (Int.ofNat_lt.mp e)),fun e=>cmp_ok fun s t h k=>ex_1 (is_le k h (Nat.le_of_not_lt fun x=>e (Int.ofNat_lt.mpr x)))⟩
 | .ieq x y=>⟨fun e=>cmp_ok fun s t h k=>⟨_,List.mem_cons_self,ok_cons (is_le h k (Nat.le_of_eq (Int.ofNat_inj.mp e))) (ok_cons (is_le k h (Nat.le_of_eq (Int.ofNat_inj.mp e.symm))) ok_nil)⟩,
   fun e=>cmp_ok fun s t h k=>(Nat.lt_or_gt_of_ne fun x=>e (congrArg _ x)).elim (fun e=>ex_1 (is_lt h k e)) (fun e=>ex_2 (ex_1 (is_lt k h e)))⟩
 | .ff=>⟨fun e=>e.elim,fun _=>⟨[],List.mem_cons_self,ok_nil⟩⟩
 | .nt f=>⟨(dnf_ok vs f).2,fun e=>(dnf_ok vs f).1 (Classical.not_not.mp e)⟩
 | .an f g=>⟨fun e=>ex_p ((dnf_ok vs f).1 e.1) ((dnf_ok vs g).1 e.2),fun e=>(Classical.not_and_iff_not_or_not.mp e).elim (fun e=>ex_l ((dnf_ok vs f).2 e)) (fun e=>ex_r ((dnf_ok vs g).2 e))⟩
 | .or f g=>⟨fun e=>e.elim (fun e=>ex_l ((dnf_ok vs f).1 e)) (fun e=>ex_r ((dnf_ok vs g).1 e)),fun e=>ex_p ((dnf_ok vs f).2 fun x=>e (.inl x)) ((dnf_ok vs g).2 fun x=>e (.inr x))⟩
 | .im f g=>⟨fun e=>(Classical.em (f.d vs)).elim (fun x=>ex_r ((dnf_ok vs g).1 (e x))) (fun x=>ex_l ((dnf_ok vs f).2 x)),fun e=>ex_p ((dnf_ok vs f).1 (Classical.byContradiction fun x=>e fun y=>(x y).elim)) ((dnf_ok vs g).2 fun x=>e fun _=>x)⟩
 | .iff f g=>⟨fun e=>(Classical.em (f.d vs)).elim (fun x=>ex_l (ex_p ((dnf_ok vs f).1 x) ((dnf_ok vs g).1 (e.mp x)))) (fun x=>ex_r (ex_p ((dnf_ok vs f).2 x) ((dnf_ok vs g).2 fun y=>x (e.mpr y)))),
   fun e=>(Classical.em (f.d vs)).elim (fun x=>ex_l (ex_p ((dnf_ok vs f).1 x) ((dnf_ok vs g).2 fun y=>e ⟨fun _=>y,fun _=>x⟩))) (fun x=>ex_r (ex_p ((dnf_ok vs f).2 x) ((dnf_ok vs g).1 (Classical.byContradiction fun y=>e ⟨fun z=>(x z).elim,fun z=>(y z).elim⟩))))⟩
noncomputable def nn:Nat→List C
 | 0=>[]
 | n+1=>([],unit (n+1))::nn n
theorem nn_ok {c:List Nat}:(n:Nat)→OK c (nn n)
 | 0=>ok_nil
 | n+1=>ok_cons (Nat.zero_le _) (nn_ok n)
noncomputable def chk (n:Nat) (f:F):Bool:=(dnf f false).all fun l=>fm n (nn n++l)
end Ar
theorem ar (n:Nat) (vs:List Nat) (f:Ar.F) (h:Ar.chk n f=true):f.d vs :=
 Classical.byContradiction fun e=>((Ar.dnf_ok vs f).2 e).elim fun l hl=>Ar.fm_ok n (Ar.ok_app (Ar.nn_ok n) hl.2) (List.all_eq_true.mp h l hl.1)
theorem Ar.t {p:Prop} {i:Decidable p} (h:decide p=true):p:=of_decide_eq_true h
theorem Ar.f {p:Prop} {i:Decidable p} (h:decide p=false):¬ p:=of_decide_eq_false h
theorem Ar.g {p:Prop} {i:Decidable p} (h:¬ decide p=true):¬ p:=fun x=>h (decide_eq_true x)
theorem ob_AAE {α2:Sort _} {p0:Prop} {p1:Prop} {q:α2→Prop} {b:Prop} (h:p0∧p1∧∃ x2,q x2) (k:p0→p1→(x2:α2)→q x2→b):b:=h.2.2.elim fun x2 h2=>k h.1 h.2.1 x2 h2
theorem ob_AEA {α1:Sort _} {p0:Prop} {p2:α1→Prop} {q:α1→Prop} {b:Prop} (h:p0∧∃ x1,p2 x1∧q x1) (k:p0→(x1:α1)→p2 x1→q x1→b):b:=h.2.elim fun x1 h1=>k h.1 x1 h1.1 h1.2
theorem ob_AEAEA {α1:Sort _} {α3:Sort _} {p0:Prop} {p2:α1→Prop} {p4:α1→α3→Prop} {q:α1→α3→Prop} {b:Prop} (h:p0∧∃ x1,p2 x1∧∃ x3,p4 x1 x3∧q x1 x3) (k:p0→(x1:α1)→p2 x1→(x3:α3)→p4 x1 x3→q x1 x3→b):b:=h.2.elim fun x1 h1=>h1.2.elim fun x3 h3=>k h.1 x1 h1.1 x3 h3.1 h3.2
theorem ob_EAA {α0:Sort _} {p1:α0→Prop} {p2:α0→Prop} {q:α0→Prop} {b:Prop} (h:∃ x0,p1 x0∧p2 x0∧q x0) (k:(x0:α0)→p1 x0→p2 x0→q x0→b):b:=h.elim fun x0 h0=>k x0 h0.1 h0.2.1 h0.2.2
theorem ob_EAAA {α0:Sort _} {p1:α0→Prop} {p2:α0→Prop} {p3:α0→Prop} {q:α0→Prop} {b:Prop} (h:∃ x0,p1 x0∧p2 x0∧p3 x0∧q x0) (k:(x0:α0)→p1 x0→p2 x0→p3 x0→q x0→b):b:=h.elim fun x0 h0=>k x0 h0.1 h0.2.1 h0.2.2.1 h0.2.2.2
theorem ob_EAAAEEAA {α0:Sort _} {α4:Sort _} {α5:Sort _} {p1:α0→Prop} {p2:α0→Prop} {p3:α0→Prop} {p6:α0→α4→α5→Prop} {p7:α0→α4→α5→Prop} {q:α0→α4→α5→Prop} {b:Prop} (h:∃ x0,p1 x0∧p2 x0∧p3 x0∧∃ x4,∃ x5,p6 x0 x4 x5∧p7 x0 x4 x5∧q x0 x4 x5) (k:(x0:α0)→p1 x0→p2 x0→p3 x0→(x4:α4)→(x5:α5)→p6 x0 x4 x5→p7 x0 x4 x5→q x0 x4 x5→b):b:=h.elim fun x0 h0=>h0.2.2.2.elim fun x4 h4=>h4.elim fun x5 h5=>k x0 h0.1 h0.2.1 h0.2.2.1 x4 x5 h5.1 h5.2.1 h5.2.2
theorem ob_EAEA {α0:Sort _} {α2:Sort _} {p1:α0→Prop} {p3:α0→α2→Prop} {q:α0→α2→Prop} {b:Prop} (h:∃ x0,p1 x0∧∃ x2,p3 x0 x2∧q x0 x2) (k:(x0:α0)→p1 x0→(x2:α2)→p3 x0 x2→q x0 x2→b):b:=h.elim fun x0 h0=>h0.2.elim fun x2 h2=>k x0 h0.1 x2 h2.1 h2.2
theorem ob_EAEAA {α0:Sort _} {α2:Sort _} {p1:α0→Prop} {p3:α0→α2→Prop} {p4:α0→α2→Prop} {q:α0→α2→Prop} {b:Prop} (h:∃ x0,p1 x0∧∃ x2,p3 x0 x2∧p4 x0 x2∧q x0 x2) (k:(x0:α0)→p1 x0→(x2:α2)→p3 x0 x2→p4 x0 x2→q x0 x2→b):b:=h.elim fun x0 h0=>h0.2.elim fun x2 h2=>k x0 h0.1 x2 h2.1 h2.2.1 h2.2.2
theorem ob_EEA {α0:Sort _} {α1:Sort _} {p2:α0→α1→Prop} {q:α0→α1→Prop} {b:Prop} (h:∃ x0,∃ x1,p2 x0 x1∧q x0 x1) (k:(x0:α0)→(x1:α1)→p2 x0 x1→q x0 x1→b):b:=h.elim fun x0 h0=>h0.elim fun x1 h1=>k x0 x1 h1.1 h1.2
theorem ob_EEAA {α0:Sort _} {α1:Sort _} {p2:α0→α1→Prop} {p3:α0→α1→Prop} {q:α0→α1→Prop} {b:Prop} (h:∃ x0,∃ x1,p2 x0 x1∧p3 x0 x1∧q x0 x1) (k:(x0:α0)→(x1:α1)→p2 x0 x1→p3 x0 x1→q x0 x1→b):b:=h.elim fun x0 h0=>h0.elim fun x1 h1=>k x0 x1 h1.1 h1.2.1 h1.2.2
theorem ob_EEAAA {α0:Sort _} {α1:Sort _} {p2:α0→α1→Prop} {p3:α0→α1→Prop} {p4:α0→α1→Prop} {q:α0→α1→Prop} {b:Prop} (h:∃ x0,∃ x1,p2 x0 x1∧p3 x0 x1∧p4 x0 x1∧q x0 x1) (k:(x0:α0)→(x1:α1)→p2 x0 x1→p3 x0 x1→p4 x0 x1→q x0 x1→b):b:=h.elim fun x0 h0=>h0.elim fun x1 h1=>k x0 x1 h1.1 h1.2.1 h1.2.2.1 h1.2.2.2
theorem ob_EEAAAEA {α0:Sort _} {α1:Sort _} {α5:Sort _} {p2:α0→α1→Prop} {p3:α0→α1→Prop} {p4:α0→α1→Prop} {p6:α0→α1→α5→Prop} {q:α0→α1→α5→Prop} {b:Prop} (h:∃ x0,∃ x1,p2 x0 x1∧p3 x0 x1∧p4 x0 x1∧∃ x5,p6 x0 x1 x5∧q x0 x1 x5) (k:(x0:α0)→(x1:α1)→p2 x0 x1→p3 x0 x1→p4 x0 x1→(x5:α5)→p6 x0 x1 x5→q x0 x1 x5→b):b:=h.elim fun x0 h0=>h0.elim fun x1 h1=>h1.2.2.2.elim fun x5 h5=>k x0 x1 h1.1 h1.2.1 h1.2.2.1 x5 h5.1 h5.2
theorem ob_EEEA {α0:Sort _} {α1:Sort _} {α2:Sort _} {p3:α0→α1→α2→Prop} {q:α0→α1→α2→Prop} {b:Prop} (h:∃ x0,∃ x1,∃ x2,p3 x0 x1 x2∧q x0 x1 x2) (k:(x0:α0)→(x1:α1)→(x2:α2)→p3 x0 x1 x2→q x0 x1 x2→b):b:=h.elim fun x0 h0=>h0.elim fun x1 h1=>h1.elim fun x2 h2=>k x0 x1 x2 h2.1 h2.2
theorem ob_EEEAA {α0:Sort _} {α1:Sort _} {α2:Sort _} {p3:α0→α1→α2→Prop} {p4:α0→α1→α2→Prop} {q:α0→α1→α2→Prop} {b:Prop} (h:∃ x0,∃ x1,∃ x2,p3 x0 x1 x2∧p4 x0 x1 x2∧q x0 x1 x2) (k:(x0:α0)→(x1:α1)→(x2:α2)→p3 x0 x1 x2→p4 x0 x1 x2→q x0 x1 x2→b):b:=h.elim fun x0 h0=>h0.elim fun x1 h1=>h1.elim fun x2 h2=>k x0 x1 x2 h2.1 h2.2.1 h2.2.2
theorem ob_EEEAAA {α0:Sort _} {α1:Sort _} {α2:Sort _} {p3:α0→α1→α2→Prop} {p4:α0→α1→α2→Prop} {p5:α0→α1→α2→Prop} {q:α0→α1→α2→Prop} {b:Prop} (h:∃ x0,∃ x1,∃ x2,p3 x0 x1 x2∧p4 x0 x1 x2∧p5 x0 x1 x2∧q x0 x1 x2) (k:(x0:α0)→(x1:α1)→(x2:α2)→p3 x0 x1 x2→p4 x0 x1 x2→p5 x0 x1 x2→q x0 x1 x2→b):b:=h.elim fun x0 h0=>h0.elim fun x1 h1=>h1.elim fun x2 h2=>k x0 x1 x2 h2.1 h2.2.1 h2.2.2.1 h2.2.2.2
theorem ob_EEEEAAA {α0:Sort _} {α1:Sort _} {α2:Sort _} {α3:Sort _} {p4:α0→α1→α2→α3→Prop} {p5:α0→α1→α2→α3→Prop} {p6:α0→α1→α2→α3→Prop} {q:α0→α1→α2→α3→Prop} {b:Prop} (h:∃ x0,∃ x1,∃ x2,∃ x3,p4 x0 x1 x2 x3∧p5 x0 x1 x2 x3∧p6 x0 x1 x2 x3∧q x0 x1 x2 x3) (k:(x0:α0)→(x1:α1)→(x2:α2)→(x3:α3)→p4 x0 x1 x2 x3→p5 x0 x1 x2 x3→p6 x0 x1 x2 x3→q x0 x1 x2 x3→b):b:=h.elim fun x0 h0=>h0.elim fun x1 h1=>h1.elim fun x2 h2=>h2.elim fun x3 h3=>k x0 x1 x2 x3 h3.1 h3.2.1 h3.2.2.1 h3.2.2.2
theorem ob_EEEEAAAA {α0:Sort _} {α1:Sort _} {α2:Sort _} {α3:Sort _} {p4:α0→α1→α2→α3→Prop} {p5:α0→α1→α2→α3→Prop} {p6:α0→α1→α2→α3→Prop} {p7:α0→α1→α2→α3→Prop} {q:α0→α1→α2→α3→Prop} {b:Prop} (h:∃ x0,∃ x1,∃ x2,∃ x3,p4 x0 x1 x2 x3∧p5 x0 x1 x2 x3∧p6 x0 x1 x2 x3∧p7 x0 x1 x2 x3∧q x0 x1 x2 x3) (k:(x0:α0)→(x1:α1)→(x2:α2)→(x3:α3)→p4 x0 x1 x2 x3→p5 x0 x1 x2 x3→p6 x0 x1 x2 x3→p7 x0 x1 x2 x3→q x0 x1 x2 x3→b):b:=h.elim fun x0 h0=>h0.elim fun x1 h1=>h1.elim fun x2 h2=>h2.elim fun x3 h3=>k x0 x1 x2 x3 h3.1 h3.2.1 h3.2.2.1 h3.2.2.2.1 h3.2.2.2.2
theorem ob_EEEEEAA {α0:Sort _} {α1:Sort _} {α2:Sort _} {α3:Sort _} {α4:Sort _} {p5:α0→α1→α2→α3→α4→Prop} {p6:α0→α1→α2→α3→α4→Prop} {q:α0→α1→α2→α3→α4→Prop} {b:Prop} (h:∃ x0,∃ x1,∃ x2,∃ x3,∃ x4,p5 x0 x1 x2 x3 x4∧p6 x0 x1 x2 x3 x4∧q x0 x1 x2 x3 x4) (k:(x0:α0)→(x1:α1)→(x2:α2)→(x3:α3)→(x4:α4)→p5 x0 x1 x2 x3 x4→p6 x0 x1 x2 x3 x4→q x0 x1 x2 x3 x4→b):b:=h.elim fun x0 h0=>h0.elim fun x1 h1=>h1.elim fun x2 h2=>h2.elim fun x3 h3=>h3.elim fun x4 h4=>k x0 x1 x2 x3 x4 h4.1 h4.2.1 h4.2.2
theorem ob_EEEEEAAAA {α0:Sort _} {α1:Sort _} {α2:Sort _} {α3:Sort _} {α4:Sort _} {p5:α0→α1→α2→α3→α4→Prop} {p6:α0→α1→α2→α3→α4→Prop} {p7:α0→α1→α2→α3→α4→Prop} {p8:α0→α1→α2→α3→α4→Prop} {q:α0→α1→α2→α3→α4→Prop} {b:Prop} (h:∃ x0,∃ x1,∃ x2,∃ x3,∃ x4,p5 x0 x1 x2 x3 x4∧p6 x0 x1 x2 x3 x4∧p7 x0 x1 x2 x3 x4∧p8 x0 x1 x2 x3 x4∧q x0 x1 x2 x3 x4) (k:(x0:α0)→(x1:α1)→(x2:α2)→(x3:α3)→(x4:α4)→p5 x0 x1 x2 x3 x4→p6 x0 x1 x2 x3 x4→p7 x0 x1 x2 x3 x4→p8 x0 x1 x2 x3 x4→q x0 x1 x2 x3 x4→b):b:=h.elim fun x0 h0=>h0.elim fun x1 h1=>h1.elim fun x2 h2=>h2.elim fun x3 h3=>h3.elim fun x4 h4=>k x0 x1 x2 x3 x4 h4.1 h4.2.1 h4.2.2.1 h4.2.2.2.1 h4.2.2.2.2
theorem ob_EEEEEEAA {α0:Sort _} {α1:Sort _} {α2:Sort _} {α3:Sort _} {α4:Sort _} {α5:Sort _} {p6:α0→α1→α2→α3→α4→α5→Prop} {p7:α0→α1→α2→α3→α4→α5→Prop} {q:α0→α1→α2→α3→α4→α5→Prop} {b:Prop} (h:∃ x0,∃ x1,∃ x2,∃ x3,∃ x4,∃ x5,p6 x0 x1 x2 x3 x4 x5∧p7 x0 x1 x2 x3 x4 x5∧q x0 x1 x2 x3 x4 x5) (k:(x0:α0)→(x1:α1)→(x2:α2)→(x3:α3)→(x4:α4)→(x5:α5)→p6 x0 x1 x2 x3 x4 x5→p7 x0 x1 x2 x3 x4 x5→q x0 x1 x2 x3 x4 x5→b):b:=h.elim fun x0 h0=>h0.elim fun x1 h1=>h1.elim fun x2 h2=>h2.elim fun x3 h3=>h3.elim fun x4 h4=>h4.elim fun x5 h5=>k x0 x1 x2 x3 x4 x5 h5.1 h5.2.1 h5.2.2
end
theorem AR.h11 (a b c:Nat):Ar.F.d [a,b,c] (.eq (.a (.a (.a .v0 .v1) .n1) .v2) (.a .v0 (.a (.a .v1 .n1) .v2))):=ar 3 _ _ rfl
theorem AR.h18 (a:Nat):Ar.F.d [a] (.iff (.ilt (.n 127) .v0) (.lt (.n 127) .v0)):=ar 1 _ _ rfl
theorem AR.h30 (a b:Nat):Ar.F.d [a,b] (.eq (.a (.a .v0 .n1) .v1) (.a .v0 (.a .n1 .v1))):=ar 2 _ _ rfl
theorem AR.h39 (a b:Nat):Ar.F.d [a,b] (.eq (.s (.a .v0 .v1) .v0) .v1):=ar 2 _ _ rfl
theorem AR.h45 (a:Nat):Ar.F.d [a] (.ile .n0 .v0):=ar 1 _ _ rfl
theorem AR.h47 (a:Nat):Ar.F.d [a] (.an (.le .n1 .n1) (.le .n1 (.a .v0 .n1))):=ar 1 _ _ rfl
theorem AR.h61 (a b:Nat):Ar.F.d [a,b] (.eq (.a .v0 (.a .v1 .n1)) (.a (.a .v0 .n1) .v1)):=ar 2 _ _ rfl
theorem AR.h63 (a:Nat):Ar.F.d [a] (.eq (.a .v0 .n1) (.a .v0 .n1)):=ar 1 _ _ rfl
theorem AR.h72 (a b:Nat):Ar.F.d [a,b] (.lt (.s .v0 .v1) (.a .v0 .n1)):=ar 2 _ _ rfl
theorem AR.h81 (a:Nat):Ar.F.d [a] (.le .n0 .v0):=ar 1 _ _ rfl
theorem AR.h84 (a:Nat):Ar.F.d [a] (.le .n1 (.a .v0 .n1)):=ar 1 _ _ rfl
theorem AR.h122 (a b:Nat):Ar.F.d [a,b] (.im (.le .v1 .v0) (.eq (.s (.a .v0 .n1) .v1) (.a (.s .v0 .v1) .n1))):=ar 2 _ _ rfl
theorem AR.h123 (a b c:Nat):Ar.F.d [a,b,c] (.im (.an (.le .v0 .v1) (.le .v1 .v2)) (.an (.le (.a .v0 .n1) (.a .v1 .n1)) (.le (.a .v1 .n1) (.a .v2 .n1)))):=ar 3 _ _ rfl
theorem AR.h144 (a b:Nat):Ar.F.d [a,b] (.im (.le .v0 .v1) (.an (.le .n1 (.a .n1 .v0)) (.le (.a .n1 .v0) (.a .v1 .n1)))):=ar 2 _ _ rfl
theorem AR.h165 (a b:Nat):Ar.F.d [a,b] (.im (.le .v0 .v1) (.eq (.a .v0 (.s .v1 .v0)) .v1)):=ar 2 _ _ rfl
theorem AR.h173 (a b:Nat):Ar.F.d [a,b] (.im (.le .v0 .v1) (.le (.a .v0 .n1) (.a .v1 .n1))):=ar 2 _ _ rfl
theorem AR.h176 (a b c:Nat):Ar.F.d [a,b,c] (.im (.eq (.s .v1 .v0) (.a .v2 .n1)) (.le (.a .v0 .n1) .v1)):=ar 3 _ _ rfl
theorem AR.h195 (a b:Nat):Ar.F.d [a,b] (.im (.lt .v1 .v0) (.lt (.s .v0 (.a .v1 .n1)) (.s .v0 .v1))):=ar 2 _ _ rfl
theorem AR.h210 (a b c:Nat):Ar.F.d [a,b,c] (.im (.le .v0 .v2) (.le (.s .v0 .v1) .v2)):=ar 3 _ _ rfl
theorem AR.h279 (a b:Nat):Ar.F.d [a,b] (.im (.le .v0 (.m 2 .v1)) (.le .v0 (.m 2 (.a .v1 .n1)))):=ar 2 _ _ rfl
theorem AR.h282 (a b:Nat):Ar.F.d [a,b] (.im (.le .v0 .v1) (.le .v0 (.a .v1 .n1))):=ar 2 _ _ rfl
theorem AR.h293 (a:Nat):Ar.F.d [a] (.im (.le .v0 (.n 600)) (.le .v0 (.n 10000))):=ar 1 _ _ rfl
theorem AR.h295 (a:Nat):Ar.F.d [a] (.im (.le .v0 (.n 10000)) (.le .v0 (.n 100000))):=ar 1 _ _ rfl
theorem AR.h296 (a:Nat):Ar.F.d [a] (.im (.le .v0 (.n 10000)) (.le .v0 (.n 1000000))):=ar 1 _ _ rfl
theorem AR.h298 (a:Nat):Ar.F.d [a] (.im (.le .v0 (.n 600)) (.le .v0 (.n 1000000))):=ar 1 _ _ rfl
theorem AR.h299 (a:Nat):Ar.F.d [a] (.im (.le .v0 (.n 999999)) (.le .v0 (.n 1000000))):=ar 1 _ _ rfl
theorem AR.h326 (a b:Nat):Ar.F.d [a,b] (.im (.nt (.lt .v1 .v0)) (.le .v0 .v1)):=ar 2 _ _ rfl
theorem AR.h354 (a b c d:Nat):Ar.F.d [a,b,c,d] (.im (.an (.le .v0 .v1) (.le .v1 (.s .v3 .v2))) (.im (.le .v2 .v3) (.an (.le (.a .v0 .n1) (.a (.a .v1 .v2) .n1)) (.le (.a (.a .v1 .v2) .n1) (.a .v3 .n1))))):=ar 4 _ _ rfl
theorem AR.h380 (a b c:Nat):Ar.F.d [a,b,c] (.im (.le .v1 (.m 8 .v2)) (.im (.le .v0 (.n 8)) (.le (.a .v0 .v1) (.m 8 (.a .v2 .n1))))):=ar 3 _ _ rfl
theorem AR.h439 (a b c d e:Nat):Ar.F.d [a,b,c,d,e] (.im (.eq (.s .v1 .v2) .v3) (.im (.an (.le .v0 .v4) (.le .v4 .v3)) (.le .v0 .v1))):=ar 5 _ _ rfl
theorem AR.h464 (a b c d e:Nat):Ar.F.d [a,b,c,d,e] (.im (.eq (.s .v1 .v2) (.a .v3 .n1)) (.im (.an (.le .v0 .v4) (.le .v4 .v3)) (.im (.le .v1 (.n 600)) (.le .v0 (.n 10000))))):=ar 5 _ _ rfl
theorem AR.h465 (a b c d e:Nat):Ar.F.d [a,b,c,d,e] (.im (.eq (.s .v1 .v2) (.a .v3 .n1)) (.im (.an (.le .v0 .v4) (.le .v4 (.a .v3 .n1))) (.im (.le .v1 (.n 600)) (.le .v0 (.n 10000))))):=ar 5 _ _ rfl
theorem AR.h468 (a b c:Nat):Ar.F.d [a,b,c] (.im (.le .v0 (.m 2 .v1)) (.im (.le .v2 (.n 600)) (.im (.le .v1 .v2) (.le .v0 (.n 1000000))))):=ar 3 _ _ rfl
theorem AR.h469 (a b c:Nat):Ar.F.d [a,b,c] (.im (.le .v1 (.n 600)) (.im (.le .v0 .v2) (.im (.le .v2 .v1) (.le .v0 (.n 1000000))))):=ar 3 _ _ rfl
theorem AR.h473 (a b c:Nat):Ar.F.d [a,b,c] (.im (.le .v0 (.m 2 .v1)) (.im (.le .v2 (.n 10000)) (.im (.le .v1 .v2) (.le .v0 (.n 1000000))))):=ar 3 _ _ rfl
theorem AR.h475 (a b c d e:Nat):Ar.F.d [a,b,c,d,e] (.im (.le .v0 (.m 8 .v1)) (.im (.le .v1 (.s .v2 (.a (.a .v3 .v4) .n1))) (.im (.le .v2 (.n 600)) (.le .v0 (.n 999995))))):=ar 5 _ _ rfl
theorem AR.h477 (a b c:Nat):Ar.F.d [a,b,c] (.im (.le .v0 (.m 2 .v1)) (.im (.le .v2 (.n 10000)) (.im (.le .v1 .v2) (.le .v0 (.n 999999))))):=ar 3 _ _ rfl
theorem AR.h488 (a b c d e f:Nat):Ar.F.d [a,b,c,d,e,f] (.im (.eq (.s .v1 .v2) (.a .v3 .n1)) (.im (.an (.le .v4 .v5) (.le .v5 .v3)) (.im (.le .v0 (.m 8 .v4)) (.im (.le .v1 (.n 600)) (.le .v0 (.n 999998)))))):=ar 6 _ _ rfl
theorem AR.h0 {a0 a1 a2:Nat}:(((((a0+a1)+a2):Nat):Int) - (((a0+a1):Nat):Int))=((a2:Nat):Int):=by lia
theorem AR.h51 {a0:Nat}:(Int.toNat ((a0:Nat):Int))=a0:=by lia
theorem AR.h139 {a0:Nat} {z1:Int} (x':((0:Int)≤(z1+((a0:Nat):Int)))∧((z1+((a0:Nat):Int)) < ((a0:Nat):Int))):(-((a0:Nat):Int))≤z1:=by lia
theorem AR.h141 {z0:Int} (x':¬ (z0 < (0:Int))):(0:Int)≤z0:=by lia
theorem AR.h240 {a0 a1:Nat} (x':((((a0+2)+a1):Nat):Int)=(-(1:Int))):False:=by lia
theorem AR.h333 {a0 a1:Nat} {z2:Int} (x':((a0:Nat):Int)=(max (0:Int) (min z2 ((a1:Nat):Int)))):a0≤a1:=by lia
section
set_option genSizeOf false
inductive V where
 | unset | none | bool (b:Bool) | int (i:Int) | str (s:List Nat)
 | tup (vs:List V) | lst (vs:List V) | obj (c:Addr) (vs:List V)
 | ref (a:Addr) | glo (v:Value) | rng (a b c:Int)
noncomputable abbrev Mem:=Addr→Obj→Prop
noncomputable abbrev tupOf (its:Array Value) (n:Nat):Obj:={ cls:=.type "tuple",data:=.seq its n }
noncomputable abbrev rngOf (a b c:Int) (t u v:Tok):Obj:={ cls:=.type "range",dict:=none,data:=.fields #[.int a t,.int b u,.int c v],slots:=#[] }
noncomputable abbrev insOf (C dx:Addr) (os:Array (Option Value)):Obj:={ cls:=.ref C,dict:=some dx,data:=.plain,slots:=os }
mutual
inductive Is (M:Mem):Value→V→Prop
 | none:Is M .none .none
 | bool (b:Bool):Is M (.bool b) (.bool b)
 | int (i:Int) (t:Tok):Is M (.int i t) (.int i)
 | str (x:Str) (t:Tok) {s:List Nat} (h:x.cps.toList=s):Is M (.str x t) (.str s)
 | tup {a:Addr} {vs:List Value} {n:Nat} {ds:List V}:M a (tupOf vs.toArray n)→IsAll M vs ds→Is M (.ref a) (.tup ds)
 | lst {a:Addr} {vs:List Value} {n:Nat} {ds:List V}:M a (listOf vs.toArray n)→IsAll M vs ds→Is M (.ref a) (.lst ds)
 | obj {a C dx:Addr} {os:List (Option Value)} {ds:List V}:M a (insOf C dx os.toArray)→M dx (dictOf [] 0)→IsSl M os ds→Is M (.ref a) (.obj C ds)
 | ref (a:Addr):Is M (.ref a) (.ref a)
 | glo (v:Value):Is M v (.glo v)
 | rng {r:Addr} {a b c:Int} {t u v:Tok}:M r (rngOf a b c t u v)→Is M (.ref r) (.rng a b c)
inductive IsAll (M:Mem):List Value→List V→Prop
 | nil:IsAll M [] []
 | cons {v:Value} {vs:List Value} {d:V} {ds:List V}:Is M v d→IsAll M vs ds→IsAll M (v::vs) (d::ds)
inductive IsSl (M:Mem):List (Option Value)→List V→Prop
 | nil:IsSl M [] []
 | unset {os:List (Option Value)} {ds:List V}:IsSl M os ds→IsSl M (Option.none::os) (.unset::ds)
 | set {v:Value} {d:V} {os:List (Option Value)} {ds:List V}:Is M v d→IsSl M os ds→IsSl M (some v::os) (d::ds)
end
theorem Is.monos {M M':Mem} (hs:∀ a o,M a o→M' a o):(∀ {v:Value} {d:V},Is M v d→Is M' v d)∧(∀ {vs:List Value} {ds:List V},IsAll M vs ds→IsAll M' vs ds)∧(∀ {vs:List (Option Value)} {ds:List V},IsSl M vs ds→IsSl M' vs ds) :=
 ⟨fun h=>Is.rec (motive_1:=fun v d _=>Is M' v d) (motive_2:=fun v d _=>IsAll M' v d) (motive_3:=fun v d _=>IsSl M' v d)
  .none .bool .int (@fun x t _ h=>.str x t h) (@fun _ _ _ _ h _ r=>.tup (hs _ _ h) r) (@fun _ _ _ _ h _ r=>.lst (hs _ _ h) r) (@fun _ _ _ _ _ h h2 _ r=>.obj (hs _ _ h) (hs _ _ h2) r) .ref .glo (@fun _ _ _ _ _ _ _ h=>.rng (hs _ _ h))
  .nil (@fun _ _ _ _ _ _ a b=>.cons a b) .nil (@fun _ _ _ a=>.unset a) (@fun _ _ _ _ _ _ a b=>.set a b) h,
 fun h=>IsAll.rec (motive_1:=fun v d _=>Is M' v d) (motive_2:=fun v d _=>IsAll M' v d) (motive_3:=fun v d _=>IsSl M' v d)
  .none .bool .int (@fun x t _ h=>.str x t h) (@fun _ _ _ _ h _ r=>.tup (hs _ _ h) r) (@fun _ _ _ _ h _ r=>.lst (hs _ _ h) r) (@fun _ _ _ _ _ h h2 _ r=>.obj (hs _ _ h) (hs _ _ h2) r) .ref .glo (@fun _ _ _ _ _ _ _ h=>.rng (hs _ _ h))
  .nil (@fun _ _ _ _ _ _ a b=>.cons a b) .nil (@fun _ _ _ a=>.unset a) (@fun _ _ _ _ _ _ a b=>.set a b) h,
 fun h=>IsSl.rec (motive_1:=fun v d _=>Is M' v d) (motive_2:=fun v d _=>IsAll M' v d) (motive_3:=fun v d _=>IsSl M' v d)
  .none .bool .int (@fun x t _ h=>.str x t h) (@fun _ _ _ _ h _ r=>.tup (hs _ _ h) r) (@fun _ _ _ _ h _ r=>.lst (hs _ _ h) r) (@fun _ _ _ _ _ h h2 _ r=>.obj (hs _ _ h) (hs _ _ h2) r) .ref .glo (@fun _ _ _ _ _ _ _ h=>.rng (hs _ _ h))
  .nil (@fun _ _ _ _ _ _ a b=>.cons a b) .nil (@fun _ _ _ a=>.unset a) (@fun _ _ _ _ _ _ a b=>.set a b) h⟩
theorem Is.mono {M M':Mem} (hs:∀ a o,M a o→M' a o) {v:Value} {d:V} (h:Is M v d):Is M' v d:=(Is.monos hs).1 h
theorem IsAll.mono {M M':Mem} (hs:∀ a o,M a o→M' a o) {vs:List Value} {ds:List V} (h:IsAll M vs ds):IsAll M' vs ds:=(Is.monos hs).2.1 h
theorem IsSl.mono {M M':Mem} (hs:∀ a o,M a o→M' a o) {vs:List (Option Value)} {ds:List V} (h:IsSl M vs ds):IsSl M' vs ds:=(Is.monos hs).2.2 h
section
variable {M:Mem} {x:Value}
noncomputable def IsI (M:Mem) (x:Value) (v:V):Prop:=V.casesOn (motive_1:=fun _=>Prop) v True (x=.none) (fun b=>x=.bool b) (fun i=>∃ t,x=.int i t) (fun s=>∃ y t,x=.str y t∧y.cps.toList=s) (fun ds=>∃ a vs n,x=.ref a∧M a (tupOf vs.toArray n)∧IsAll M vs ds) (fun ds=>∃ a vs n,x=.ref a∧M a (listOf vs.toArray n)∧IsAll M vs ds) (fun C ds=>∃ a dx os,x=.ref a∧M a (insOf C dx os.toArray)∧M dx (dictOf [] 0)∧IsSl M os ds) (fun a=>x=.ref a) (fun v=>x=v) (fun a b c=>∃ r t u v,x=.ref r∧M r (rngOf a b c t u v))
theorem Is.inv {v:V} (h:Is M x v):IsI M x v :=
 Is.casesOn (motive_1:=fun x v _=>IsI M x v) h rfl (fun _=>rfl) (fun _ t=>⟨t,rfl⟩) (@fun y t _ e=>⟨y,t,rfl,e⟩) (@fun _ _ _ _ a b=>⟨_,_,_,rfl,a,b⟩) (@fun _ _ _ _ a b=>⟨_,_,_,rfl,a,b⟩) (@fun _ _ _ _ _ a b c=>⟨_,_,_,rfl,a,b,c⟩) (fun _=>rfl) (fun _=>rfl) (@fun r _ _ _ t u v h=>⟨r,t,u,v,rfl,h⟩)
theorem Is.noneE (h:Is M x .none):x=.none:=h.inv
theorem Is.boolE {b:Bool} (h:Is M x (.bool b)):x=.bool b:=h.inv
theorem Is.intE {i:Int} (h:Is M x (.int i)):∃ t,x=.int i t:=h.inv
theorem Is.strE {s:List Nat} (h:Is M x (.str s)):∃ y t,x=.str y t∧y.cps.toList=s:=h.inv
theorem Is.tupE {ds:List V} (h:Is M x (.tup ds)):∃ a vs n,x=.ref a∧M a (tupOf vs.toArray n)∧IsAll M vs ds:=h.inv
theorem Is.lstE {ds:List V} (h:Is M x (.lst ds)):∃ a vs n,x=.ref a∧M a (listOf vs.toArray n)∧IsAll M vs ds:=h.inv
theorem Is.noneK {C:Value→Prop} (h:Is M x .none) (k:C .none):C x:=h.noneE.symm ▸ k
theorem Is.intK {C:Value→Prop} {i:Int} (h:Is M x (.int i)) (k:∀ t,C (.int i t)):C x:=h.intE.elim fun t e=>e.symm ▸ k t
theorem Is.strK {C:Value→List Nat→Prop} {s:List Nat} (h:Is M x (.str s)) (k:∀ y t,C (.str y t) y.cps.toList):C x s:=h.strE.elim fun y h=>h.elim fun t h=>h.1.symm ▸ h.2 ▸ k y t
theorem Is.tupK {C:Value→Prop} {ds:List V} (h:Is M x (.tup ds)) (k:∀ a vs n,M a (tupOf vs.toArray n)→IsAll M vs ds→C (.ref a)):C x:=h.tupE.elim fun a h=>h.elim fun vs h=>h.elim fun n h=>h.1.symm ▸ k a vs n h.2.1 h.2.2
theorem Is.ints {y:Value} {C:Value→Value→Prop} {i j:Int} (h:Is M x (.int i)) (h':Is M y (.int j)) (k:∀ t t',C (.int i t) (.int j t')):C x y:=h.intK (C:=fun x=>C x y) fun t=>h'.intK (C:=fun y=>C (.int i t) y) (k t)
theorem Is.strs {y:Value} {C:Value→Value→List Nat→List Nat→Prop} {r s:List Nat} (h:Is M x (.str r)) (h':Is M y (.str s)) (k:∀ a t b u,C (.str a t) (.str b u) a.cps.toList b.cps.toList):C x y r s:=h.strK (C:=fun x r=>C x y r s) fun a t=>h'.strK (C:=fun y s=>C (.str a t) y a.cps.toList s) fun b u=>k a t b u
theorem Is.objE {cl:Addr} {ds:List V} (h:Is M x (.obj cl ds)):∃ a dx os,x=.ref a∧M a (insOf cl dx os.toArray)∧M dx (dictOf [] 0)∧IsSl M os ds:=h.inv
theorem Is.refE {a:Addr} (h:Is M x (.ref a)):x=.ref a:=h.inv
theorem Is.gloE {v:Value} (h:Is M x (.glo v)):x=v:=h.inv
noncomputable def IsAllI (M:Mem) (vs:List Value) (ds:List V):Prop:=List.casesOn (motive:=fun _=>Prop) ds (vs=[]) (fun d ds=>∃ v r,vs=v::r∧Is M v d∧IsAll M r ds)
theorem IsAll.inv {vs:List Value} {ds:List V} (h:IsAll M vs ds):IsAllI M vs ds:=IsAll.casesOn (motive_2:=fun vs ds _=>IsAllI M vs ds) h rfl (@fun _ _ _ _ a b=>⟨_,_,rfl,a,b⟩)
theorem IsAll.nilE {vs:List Value} (h:IsAll M vs []):vs=[]:=h.inv
theorem IsAll.consE {vs:List Value} {d:V} {ds:List V} (h:IsAll M vs (d::ds)):∃ v r,vs=v::r∧Is M v d∧IsAll M r ds:=h.inv
end
inductive MO where
 | lst (vs:List V)
 | ins (C:Addr) (vs:List V)
 | tab (p:Option Pos)
 | cell (v:V)
noncomputable abbrev tabOf (p:Pos) (c:Addr):Obj:={ cls:=.none,data:=.fields #[rawInt p.line,rawInt p.col,.ref c] }
noncomputable abbrev tabNone:Obj:={ cls:=.none,data:=.fields #[] }
set_option genInjectivity false in
inductive OIs (M:Mem):Obj→MO→Prop
 | lst {vs:List Value} {n:Nat} {ds:List V}:IsAll M vs ds→OIs M (listOf vs.toArray n) (.lst ds)
 | ins {C dx:Addr} {os:List (Option Value)} {ds:List V}:M dx (dictOf [] 0)→IsSl M os ds→OIs M (insOf C dx os.toArray) (.ins C ds)
 | tab0:OIs M tabNone (.tab .none)
 | tab1 (p:Pos) (c:Addr):OIs M (tabOf p c) (.tab (some p))
 | cell0 {o:Obj}:o.data=.cell Option.none→OIs M o (.cell .unset)
 | cell {o:Obj} {x:Value} {v:V}:o.data=.cell (some x)→Is M x v→OIs M o (.cell v)
noncomputable def OIsI (M:Mem) (o:Obj) (x:MO):Prop:=MO.casesOn (motive:=fun _=>Prop) x (fun ds=>∃ vs n,o=listOf vs.toArray n∧IsAll M vs ds) (fun C ds=>∃ dx os,o=insOf C dx os.toArray∧M dx (dictOf [] 0)∧IsSl M os ds) (fun _=>True) (fun v=>(v=.unset∧o.data=.cell Option.none)∨∃ y,o.data=.cell (some y)∧Is M y v)
theorem OIs.inv {M:Mem} {o:Obj} {x:MO} (h:OIs M o x):OIsI M o x:=OIs.casesOn (motive:=fun o x _=>OIsI M o x) h (fun a=>⟨_,_,rfl,a⟩) (fun a b=>⟨_,_,rfl,a,b⟩) trivial (fun _ _=>trivial) (fun e=>.inl ⟨rfl,e⟩) (fun e i=>.inr ⟨_,e,i⟩)
theorem OIs.lstE {M:Mem} {o:Obj} {ds:List V} (h:OIs M o (.lst ds)):∃ vs n,o=listOf vs.toArray n∧IsAll M vs ds:=h.inv
theorem OIs.insE {M:Mem} {o:Obj} {C:Addr} {ds:List V} (h:OIs M o (.ins C ds)):∃ dx os,o=insOf C dx os.toArray∧M dx (dictOf [] 0)∧IsSl M os ds:=h.inv
theorem OIs.cellE {M:Mem} {o:Obj} {v:V} (h:OIs M o (.cell v)):(v=.unset∧o.data=.cell Option.none)∨∃ y,o.data=.cell (some y)∧Is M y v:=h.inv
theorem OIs.mono {M M':Mem} (hs:∀ a o,M a o→M' a o) {o:Obj} {x:MO} (h:OIs M o x):OIs M' o x:=by
 induction h with
 | lst h=>exact .lst (h.mono hs)
 | ins h h'=>exact .ins (hs _ _ h) (h'.mono hs)
 | tab0=>exact .tab0
 | tab1 p c=>exact .tab1 p c
 | cell0 e=>exact .cell0 e
 | cell e h=>exact .cell e (h.mono hs)
noncomputable abbrev Led:=List (Addr × Obj)
noncomputable abbrev Loc:=List (Str × V)
noncomputable abbrev AH:=List (Addr × MO)
set_option genInjectivity false in
inductive HR (M:Mem):Led→AH→Prop
 | nil:HR M [] []
 | cons {a:Addr} {o:Obj} {x:MO} {led:Led} {H:AH}:OIs M o x→HR M led H→HR M ((a,o)::led) ((a,x)::H)
theorem HR.mono {M M':Mem} (hs:∀ a o,M a o→M' a o) {led:Led} {H:AH} (h:HR M led H):HR M' led H:=by
 induction h with
 | nil=>exact .nil
 | cons h _ ih=>exact .cons (h.mono hs) ih
set_option genInjectivity false in
structure Gx where
 prog:Program
 w:World
 K:Frag
 p:Program
 loose:List Str
 mean:ExcName→Option Value
 mg:Str→Option Value
 mb:Str→Option Value
 B:Heap
set_option genInjectivity false in
structure Gx.Ok (g:Gx):Prop where
 kin:g.K.In g.B
 top:Top g.p g.loose g.mean g.mg g.mb g.B
set_option genInjectivity false in
structure Fx where
 scope:Scope
 globs:List (Str × Value)
 code:Value:=.none
 cells:List (Str × Addr):=[]
set_option genInjectivity false in
structure Cx where
 A:Around
 A₀:Around
 base:Heap
 h₀:Heap
 outer:List Env
 fenv:Env
 env:Env
 L:Addr
 pins:Led
 os:OsState
 keep:Option (Str→Option Value):=Option.none
noncomputable def Cx.mem (g:Gx) (fz:Led):Mem:=fun a o=>(a,o)∈fz∨g.B.get? a=some o
theorem mem_mono {g:Gx} {fz fz':Led} (h:∀ p∈fz,p∈fz'):∀ a o,Cx.mem g fz a o→Cx.mem g fz' a o:=fun _ _ x=>x.elim (fun q=>.inl (h _ q)) .inr
set_option genInjectivity false in
structure Cx.Ok (g:Gx) (Γ:Fx) (d:Nat) (c:Cx):Prop where
 gok:g.Ok
 below:Below c.A₀ c.base c.outer c.h₀
 frames:c.A.frames=some (c.fenv::c.outer)
 handled:c.A.handled=none
 fframe:c.fenv.frame=some c.L
 fkind:c.fenv.scope.kind=.function
 bot:∀ b o,g.B.get? b=some o→c.base.get? b=some o
 scope:c.env.scope=Γ.scope
 kind:c.env.scope.kind=.function
 globals:c.env.globals=mainGlobals
 builtins:c.env.builtins=builtinsNs
 room:c.A.depth+d+8≤recursionLimit
 units:c.A.units+10 * d+200≤cLine
 globs:∀ p∈Γ.globs,Γ.scope.names.lookup p.1=some .globalImplicit∧(p.1==("__debug__":Str))=false ∧
  (g.mg p.1=some p.2∨(g.mg p.1=none∧g.mb p.1=some p.2))
 code:Γ.code=.none∨c.env.code=Γ.code
 cells:Γ.cells=[]∨c.env.cells=Γ.cells
theorem Cx.Ok.stays {g:Gx} {Γ:Fx} {d:Nat} {c:Cx} (ok:c.Ok g Γ d):∀ b o,g.B.get? b=some o→c.h₀.get? b=some o:=fun b o e=>ok.below.stays _ _ (ok.bot _ _ e)
noncomputable def LocOk (sc:Scope) (lo:Loc):Prop:=(lo.map (·.1)).Nodup∧∀ p∈lo,sc.names.lookup p.1=some .local∧(p.1==("__debug__":Str))=false
noncomputable def LocR (M:Mem) (m:Str→Option Value) (lo:Loc):Prop:=∀ p∈lo,p.2=.unset∨∃ v,m p.1=some v∧Is M v p.2
theorem LocR.mono {M M':Mem} (hs:∀ a o,M a o→M' a o) {m:Str→Option Value} {lo:Loc} (h:LocR M m lo):LocR M' m lo :=
 fun p hp=>(h p hp).imp id fun ⟨v,a,b⟩=>⟨v,a,b.mono hs⟩
noncomputable def NsObj (o:Obj) (m:Str→Option Value):Prop:=∃ es ep,o.data=.dict es ep∧StrKeys es∧∀ name,nsFind es name=m name
set_option genInjectivity false in
inductive ClR (c:Cx) (mf:Str→Option Value):(Str→Option Value)→Led→Prop
 | own:c.env.locals=c.L→ClR c mf mf []
 | apart {m:Str→Option Value} {o:Obj}:c.keep=some mf→NsObj o m→ClR c mf m [(c.env.locals,o)]
set_option genInjectivity false in
structure HI (g:Gx) (c:Cx) (lo:Loc) (H:AH) (mf m:Str→Option Value) (cl fz led:Led) (h:Heap):Prop where
 fr:Fr c.h₀ c.L h mf
 clr:ClR c mf m cl
 news:News c.h₀ c.L h (cl++(led++(c.pins++fz)))
 nd:((cl++(led++(c.pins++fz))).map (·.1)).Nodup
 lok:LocOk c.env.scope lo
 loc:LocR (Cx.mem g fz) m lo
 hr:HR (Cx.mem g fz) led H
set_option genInjectivity false in
structure Inv0 (g:Gx) (c:Cx) (lo:Loc) (H:AH) (mf m:Str→Option Value) (cl fz led:Led) (s:Shared):Prop where
 hi:HI g c lo H mf m cl fz led s.heap
 gens:AllBare s.gens
 os:s.os=c.os
set_option genInjectivity false in
structure Inv (g:Gx) (c:Cx) (lo:Loc) (H:AH) (mf m:Str→Option Value) (cl fz led:Led) (s:Shared):Prop where
 hi:HI g c lo H mf m cl fz led s.heap
 gens:AllBare s.gens
 os:s.os=c.os
 tk:1≤s.toks
section
variable {g:Gx} {c:Cx} {lo:Loc} {H:AH} {mf m:Str→Option Value} {cl fz led:Led} {h h':Heap} {s:Shared}
theorem HI.ns (I:HI g c lo H mf m cl fz led h):h.Ns c.env.locals m:=by
 have N:=I.news
 have C:=I.clr
 induction C with
 | own e=>rw [e]; exact I.fr.ns
 | apart _ o=>obtain ⟨es,ep,a,b,q⟩:=o; exact ⟨_,es,ep,(N _ (.head _)).1,a,b,q⟩
theorem HI.of (I:HI g c lo H mf m cl fz led h) (F:Fr c.h₀ c.L h' mf) (N:News c.h₀ c.L h' (cl++(led++(c.pins++fz)))):HI g c lo H mf m cl fz led h' :=
 ⟨F,I.clr,N,I.nd,I.lok,I.loc,I.hr⟩
theorem HI.fresh_lt (I:HI g c lo H mf m cl fz led h):∀ p∈cl++(led++(c.pins++fz)),p.1 < h.objs.size:=fun p hp=>Heap.lt_size (I.news p hp).1
theorem mem_mid {α:Type} {x y:α} {a b:List α} (h:x∈a++(y::b)):x=y∨x∈a++b:=by
 simp only [List.mem_append,List.mem_cons] at h ⊢
 rcases h with h | h | h
 ·exact .inr (.inl h)
 ·exact .inl h
 ·exact .inr (.inr h)
theorem nodup_mid {a b:Led} {l:Addr} {o:Obj} (nd:((a++b).map (·.1)).Nodup) (h:∀ p∈a++b,p.1≠l):((a++((l,o)::b)).map (·.1)).Nodup:=by
 have e:(a++((l,o)::b)).map (·.1)=a.map (·.1)++l::b.map (·.1):=by simp
 rw [e]
 refine (List.perm_middle.nodup_iff).mpr (List.nodup_cons.mpr ⟨fun q=>?_,by simpa using nd⟩)
 rw [← List.map_append] at q
 obtain ⟨p,hp,e⟩:=List.mem_map.mp q
 exact h p hp e
theorem HI.addLed (I:HI g c lo H mf m cl fz led h) {l:Addr} {o:Obj} {x:MO} (hx:OIs (Cx.mem g fz) o x) (F:Fr c.h₀ c.L h' mf) (N:News c.h₀ c.L h' ((l,o)::(cl++(led++(c.pins++fz))))) (hl:∀ p∈cl++(led++(c.pins++fz)),p.1≠l) :
  HI g c lo ((l,x)::H) mf m cl fz ((l,o)::led) h':=by
 refine ⟨F,I.clr,?_,?_,I.lok,I.loc,.cons hx I.hr⟩
 ·intro p hp
  rcases mem_mid hp with rfl | hp
  ·exact N _ (.head _)
  ·exact N _ (.tail _ hp)
 ·exact nodup_mid I.nd hl
theorem HI.addFz (I:HI g c lo H mf m cl fz led h) {l:Addr} {o:Obj} (F:Fr c.h₀ c.L h' mf) (N:News c.h₀ c.L h' ((l,o)::(cl++(led++(c.pins++fz))))) (hl:∀ p∈cl++(led++(c.pins++fz)),p.1≠l) :
  HI g c lo H mf m cl ((l,o)::fz) led h':=by
 have e (b:Led):cl++(led++(c.pins++b))=(cl++(led++c.pins))++b:=by simp
 refine ⟨F,I.clr,?_,?_,I.lok,I.loc.mono (mem_mono fun _ hp=>.tail _ hp),I.hr.mono (mem_mono fun _ hp=>.tail _ hp)⟩
 ·intro p hp
  rw [e] at hp
  rcases mem_mid hp with rfl | hp
  ·exact N _ (.head _)
  ·exact N _ (.tail _ (by rw [e]; exact hp))
 ·rw [e]
  exact nodup_mid (by rw [← e]; exact I.nd) (by rw [← e]; exact hl)
theorem HI.newN (I:HI g c lo H mf m cl fz led h) (o:Obj) (hf:autoParam (o.isFreed=false) irfa):News c.h₀ c.L (h.push o) ((h.objs.size,o)::(cl++(led++(c.pins++fz)))):=I.news.push I.fr o hf
theorem HI.newLed (I:HI g c lo H mf m cl fz led h) {o:Obj} {x:MO} (hx:OIs (Cx.mem g fz) o x) (hf:autoParam (o.isFreed=false) irfa):HI g c lo ((h.objs.size,x)::H) mf m cl fz ((h.objs.size,o)::led) (h.push o) :=
 I.addLed hx (I.fr.push o) (I.newN o hf) fun p hp=>Nat.ne_of_lt (I.fresh_lt p hp)
theorem HI.newFz (I:HI g c lo H mf m cl fz led h) (o:Obj) (hf:autoParam (o.isFreed=false) irfa):HI g c lo H mf m cl ((h.objs.size,o)::fz) led (h.push o) :=
 I.addFz (I.fr.push o) (I.newN o hf) fun p hp=>Nat.ne_of_lt (I.fresh_lt p hp)
theorem HI.there (I:HI g c lo H mf m cl fz led h) (k:∀ b o,g.B.get? b=some o→c.h₀.get? b=some o) {a:Addr} {o:Obj} (q:Cx.mem g fz a o):h.get? a=some o:=by
 rcases q with q | q
 ·exact (I.news (a,o) (by simp [q])).1
 ·exact I.fr.keep _ _ (k _ _ q)
theorem HI.thereLed (I:HI g c lo H mf m cl fz led h) {a:Addr} {o:Obj} (q:(a,o)∈led):h.get? a=some o:=(I.news (a,o) (by simp [q])).1
theorem Inv.z (I:Inv g c lo H mf m cl fz led s):Inv0 g c lo H mf m cl fz led s:=⟨I.hi,I.gens,I.os⟩
theorem Inv0.up (I:Inv0 g c lo H mf m cl fz led s) (h:1≤s.toks):Inv g c lo H mf m cl fz led s:=⟨I.hi,I.gens,I.os,h⟩
theorem Inv.toks (I:Inv g c lo H mf m cl fz led s) (k:Nat):Inv0 g c lo H mf m cl fz led { s with toks:=k }:=⟨I.hi,I.gens,I.os⟩
theorem Inv.to (I:Inv g c lo H mf m cl fz led s) {lo':Loc} {H':AH} {mf' m':Str→Option Value} {cl' fz' led':Led} {h':Heap} (k:Nat) (hk:s.toks≤k) (J:HI g c lo' H' mf' m' cl' fz' led' h'):Inv g c lo' H' mf' m' cl' fz' led' { s with heap:=h',toks:=k }:=⟨J,I.gens,I.os,Nat.le_trans I.tk hk⟩
end
set_option genInjectivity false in
inductive WP (g:Gx) {α:Type} (c:Cx) (fz₁:Led) (Q:Led→α→Loc→AH→Prop) (x:α) (s':Shared):Prop
 | mk (lo':Loc) (H':AH) (mf' m':Str→Option Value) (cl' fz' led':Led) (I:Inv g c lo' H' mf' m' cl' fz' led' s') (hs:∀ p∈fz₁,p∈fz') (q:Q fz' x lo' H')
noncomputable def W (g:Gx) {α:Type} (c:Cx) (fz:Led) (t:Sem α) (lo:Loc) (H:AH) (Q:Led→α→Loc→AH→Prop):Prop :=
 ∀ mf m cl fz₁ led s,(∀ p∈fz,p∈fz₁)→Inv g c lo H mf m cl fz₁ led s →
  wpAny (model g.prog g.w) c.A t (WP g c fz₁ Q) (fun _ _=>False) s
section
variable {g:Gx} {c:Cx} {fz:Led} {lo:Loc} {H:AH} {α β:Type}
theorem WP.elim {fz₁:Led} {Q:Led→α→Loc→AH→Prop} {x:α} {s':Shared} (h:WP g c fz₁ Q x s') {P:Prop}
  (k:∀ {lo' H' mf' m' cl' fz' led'},Inv g c lo' H' mf' m' cl' fz' led' s'→(∀ p∈fz₁,p∈fz')→Q fz' x lo' H'→P):P :=
 WP.casesOn (motive:=fun _=>P) h fun _ _ _ _ _ _ _ I hs q=>k I hs q
theorem WP.map {fz₁ fz₀:Led} {Q Q':Led→α→Loc→AH→Prop} {x:α} {s':Shared} (h:WP g c fz₁ Q x s') (h0:∀ p∈fz₀,p∈fz₁) (k:∀ fz' lo' H',(∀ p∈fz₁,p∈fz')→Q fz' x lo' H'→Q' fz' x lo' H'):WP g c fz₀ Q' x s' :=
 h.elim fun I hs q=>.mk _ _ _ _ _ _ _ I (fun p hp=>hs p (h0 p hp)) (k _ _ _ hs q)
theorem W.mono {t:Sem α} {Q Q':Led→α→Loc→AH→Prop} (h:W g c fz t lo H Q) (k:∀ fz' x lo' H',(∀ p∈fz,p∈fz')→Q fz' x lo' H'→Q' fz' x lo' H'):W g c fz t lo H Q' :=
 fun mf m cl fz₁ led s hs I=>wpAny_mono (h mf m cl fz₁ led s hs I) (fun x s' r=>r.map (fun _ x=>x) fun fz' lo' H' hs' q=>k _ _ _ _ (fun p hp=>hs' p (hs p hp)) q) fun _ _ x=>x
theorem W.pure {a:α} {Q:Led→α→Loc→AH→Prop} (h:∀ fz',(∀ p∈fz,p∈fz')→Q fz' a lo H):W g c fz (pure a) lo H Q :=
 fun mf m cl fz₁ led s hs I=>wpAny_pure (.mk lo H mf m cl fz₁ led I (fun _ x=>x) (h _ hs))
theorem W.rest {t:Sem α} {Q:Led→α→Loc→AH→Prop} (h:W g c fz t lo H Q) {mf m:Str→Option Value} {cl fz₁ led:Led} {s:Shared} (hs:∀ p∈fz,p∈fz₁) (I:Inv g c lo H mf m cl fz₁ led s) {fz₀:Led} (h0:∀ p∈fz₀,p∈fz₁) :
  wpAny (model g.prog g.w) c.A t (WP g c fz₀ Q) (fun _ _=>False) s :=
 wpAny_mono (h mf m cl fz₁ led s hs I) (fun _ _ r=>r.map h0 fun _ _ _ _ q=>q) fun _ _ x=>x
theorem W.bind {t:Sem α} {f:α→Sem β} {Q:Led→β→Loc→AH→Prop} (h:W g c fz t lo H (fun fz' x lo' H'=>W g c fz' (f x) lo' H' Q)):W g c fz (t >>= f) lo H Q :=
 fun mf m cl fz₁ led s hs I=>wpAny_bind (wpAny_mono (h mf m cl fz₁ led s hs I) (fun _ _ r=>r.elim fun I' hs' q=>q.rest (fun _ x=>x) I' hs') fun _ _ x=>x)
end
end
section
variable {g:Gx} {c:Cx} {fz:Led} {lo:Loc} {H:AH} {α β:Type}
theorem W.lift {t t':Sem α} {Q:Led→α→Loc→AH→Prop} (h:W g c fz t lo H Q) (k:∀ (Q:α→Shared→Prop) (E:Value→Shared→Prop) (s:Shared),wpAny (model g.prog g.w) c.A t Q E s→wpAny (model g.prog g.w) c.A t' Q E s):W g c fz t' lo H Q :=
 fun mf m cl fz₁ led s hs I=>k _ _ _ (h mf m cl fz₁ led s hs I)
theorem W.holding {t:Sem α} {vs:List Value} {Q:Led→α→Loc→AH→Prop} (h:W g c fz t lo H Q):W g c fz (holding vs t) lo H Q:=h.lift fun _ _ _ x=>wpAny_holding x
theorem W.operate {t:Sem Value} {vs:List Value} {Q:Led→Value→Loc→AH→Prop} (h:W g c fz t lo H Q):W g c fz (operate vs t) lo H Q:=h.lift fun _ _ _ x=>wpAny_operate' x
theorem W.at_ {p:Pos} {t:Sem α} {Q:Led→α→Loc→AH→Prop} (h:W g c fz t lo H Q):W g c fz (standAt p >>= fun _=>t) lo H Q:=h.lift fun _ _ _ x=>wpAny_bind (wpAny_standAt x)
theorem W.now {t:Sem α} {Q:Led→α→Loc→AH→Prop}
  (h:∀ mf m cl fz₁ led s,(∀ p∈fz,p∈fz₁)→Inv g c lo H mf m cl fz₁ led s→∀ (P:α→Shared→Prop) (E:Value→Shared→Prop),(∀ x s',Inv0 g c lo H mf m cl fz₁ led s'→Q fz₁ x lo H→P x s')→wpAny (model g.prog g.w) c.A t P E s):W g c fz t lo H Q :=
 fun mf m cl fz₁ led s hs I=>wpAny_with_toks I.tk (h mf m cl fz₁ led s hs I _ _ fun x s' I' q tk=>.mk lo H mf m cl fz₁ led (I'.up tk) (fun _ x=>x) q)
end
noncomputable abbrev VP (g:Gx) (lo:Loc) (Q:V→AH→Prop):Led→Value→Loc→AH→Prop:=fun fz' x lo' H'=>lo'=lo∧∃ y,Is (Cx.mem g fz') x y∧Q y H'
noncomputable abbrev VPs (g:Gx) (lo:Loc) (Q:List V→AH→Prop):Led→List Value→Loc→AH→Prop:=fun fz' x lo' H'=>lo'=lo∧∃ y,IsAll (Cx.mem g fz') x y∧Q y H'
noncomputable abbrev BP (lo:Loc) (Q:Bool→AH→Prop):Led→Bool→Loc→AH→Prop:=fun fz' x lo' H'=>lo'=lo∧Q x H'
section
variable {g:Gx} {c:Cx} {fz:Led} {lo:Loc} {H:AH} {α β:Type}
theorem W.monoV {t:Sem Value} {Q Q':V→AH→Prop} (h:W g c fz t lo H (VP g lo Q)) (k:∀ v H',Q v H'→Q' v H'):W g c fz t lo H (VP g lo Q') :=
 h.mono fun _ _ _ _ _ q=>⟨q.1,q.2.elim fun y r=>⟨y,r.1,k _ _ r.2⟩⟩
theorem W.elimVs {t:Sem (List Value)} {Q:List V→AH→Prop} {Q':Led→List Value→Loc→AH→Prop} (h:W g c fz t lo H (VPs g lo Q))
  (k:∀ fz₁ x a H₁,(∀ p∈fz,p∈fz₁)→IsAll (Cx.mem g fz₁) x a→Q a H₁→Q' fz₁ x lo H₁):W g c fz t lo H Q' :=
 h.mono fun fz₁ x lo₁ H₁ hs q=>by obtain ⟨e,a,i,q⟩:=q; subst e; exact k _ _ _ _ hs i q
theorem W.bindV {t:Sem Value} {f:Value→Sem β} {Q:V→AH→Prop} {Q':Led→β→Loc→AH→Prop} (h:W g c fz t lo H (VP g lo Q))
  (k:∀ fz₁ x a H₁,(∀ p∈fz,p∈fz₁)→Is (Cx.mem g fz₁) x a→Q a H₁→W g c fz₁ (f x) lo H₁ Q'):W g c fz (t >>= f) lo H Q' :=
 W.bind (h.mono fun fz₁ x lo₁ H₁ hs q=>by obtain ⟨e,a,i,q⟩:=q; subst e; exact k _ _ _ _ hs i q)
theorem W.bindVs {t:Sem (List Value)} {f:List Value→Sem β} {Q:List V→AH→Prop} {Q':Led→β→Loc→AH→Prop} (h:W g c fz t lo H (VPs g lo Q))
  (k:∀ fz₁ x a H₁,(∀ p∈fz,p∈fz₁)→IsAll (Cx.mem g fz₁) x a→Q a H₁→W g c fz₁ (f x) lo H₁ Q'):W g c fz (t >>= f) lo H Q' :=
 W.bind (h.mono fun fz₁ x lo₁ H₁ hs q=>by obtain ⟨e,a,i,q⟩:=q; subst e; exact k _ _ _ _ hs i q)
theorem W.bindB {t:Sem Bool} {f:Bool→Sem β} {Q:Bool→AH→Prop} {Q':Led→β→Loc→AH→Prop} (h:W g c fz t lo H (BP lo Q))
  (k:∀ fz₁ b H₁,(∀ p∈fz,p∈fz₁)→Q b H₁→W g c fz₁ (f b) lo H₁ Q'):W g c fz (t >>= f) lo H Q' :=
 W.bind (h.mono fun fz₁ x lo₁ H₁ hs q=>by obtain ⟨e,q⟩:=q; subst e; exact k _ _ _ hs q)
theorem W.use {t:Sem α} {Q:Led→α→Loc→AH→Prop} {mf m:Str→Option Value} {cl fz₁ led:Led} {s:Shared} (h:W g c fz t lo H Q) (hs:∀ p∈fz,p∈fz₁) (I:Inv g c lo H mf m cl fz₁ led s) {P:α→Shared→Prop} {X:Value→Shared→Prop}
  (k:∀ {x s' lo' H' mf' m' cl' fz' led'},Inv g c lo' H' mf' m' cl' fz' led' s'→(∀ p∈fz₁,p∈fz')→Q fz' x lo' H'→P x s'):wpAny (model g.prog g.w) c.A t P X s :=
 wpAny_mono (h mf m cl fz₁ led s hs I) (fun _ _ r=>r.elim k) fun _ _ x=>x.elim
theorem W.useV {t:Sem Value} {Q:V→AH→Prop} {mf m:Str→Option Value} {cl fz₁ led:Led} {s:Shared} (h:W g c fz t lo H (VP g lo Q)) (hs:∀ p∈fz,p∈fz₁) (I:Inv g c lo H mf m cl fz₁ led s) {P:Value→Shared→Prop} {X:Value→Shared→Prop}
  (k:∀ {x s' H' mf' m' cl' fz' led' a},Inv g c lo H' mf' m' cl' fz' led' s'→(∀ p∈fz₁,p∈fz')→Is (Cx.mem g fz') x a→Q a H'→P x s'):wpAny (model g.prog g.w) c.A t P X s :=
 h.use hs I fun {x s' lo' H' mf' m' cl' fz' led'} I' hs' q=>by obtain ⟨e,a,i,q⟩:=q; subst e; exact k I' hs' i q
end
noncomputable def E (g:Gx) (Γ:Fx) (d:Nat) (e:Expr) (lo:Loc) (H:AH) (Q:V→AH→Prop):Prop :=
 ∀ c,c.Ok g Γ d→∀ fz,W g c fz (eval e c.env) lo H (VP g lo Q)
noncomputable def T (g:Gx) (Γ:Fx) (d:Nat) (e:Expr) (lo:Loc) (H:AH) (Q:Bool→AH→Prop):Prop :=
 ∀ c,c.Ok g Γ d→∀ fz,W g c fz (isTrue e c.env (eval e c.env)) lo H (BP lo Q)
noncomputable def Es (g:Gx) (Γ:Fx) (d:Nat) (es:List Expr) (lo:Loc) (H:AH) (Q:List V→AH→Prop):Prop :=
 ∀ c,c.Ok g Γ d→∀ fz pos,W g c fz (spliced (backTo pos (starEach es c.env))) lo H (VPs g lo Q)
inductive R where
 | next | brk | cont
 | ret (v:V)
inductive RIs (M:Mem):Flow→R→Prop
 | next:RIs M .next .next
 | brk:RIs M .brk .brk
 | cont:RIs M .cont .cont
 | ret {v:Value} {d:V}:Is M v d→RIs M (.ret v) (.ret d)
noncomputable abbrev RP (g:Gx) (Q:R→Loc→AH→Prop):Led→Flow→Loc→AH→Prop:=fun fz' x lo' H'=>∃ r,RIs (Cx.mem g fz') x r∧Q r lo' H'
noncomputable def S (g:Gx) (Γ:Fx) (d:Nat) (st:Stmt) (lo:Loc) (H:AH) (Q:R→Loc→AH→Prop):Prop :=
 ∀ c,c.Ok g Γ d→∀ fz,W g c fz (exec st c.env) lo H (RP g Q)
noncomputable def Ss (g:Gx) (Γ:Fx) (d:Nat) (st:List Stmt) (lo:Loc) (H:AH) (Q:R→Loc→AH→Prop):Prop :=
 ∀ c,c.Ok g Γ d→∀ fz,W g c fz (execs st c.env) lo H (RP g Q)
section
variable {g:Gx} {Γ:Fx} {d:Nat} {lo:Loc} {H:AH}
theorem E.mono {e:Expr} {Q Q':V→AH→Prop} (h:E g Γ d e lo H Q) (k:∀ v H',Q v H'→Q' v H'):E g Γ d e lo H Q' :=
 fun c ok fz=>(h c ok fz).monoV k
theorem T.mono {e:Expr} {Q Q':Bool→AH→Prop} (h:T g Γ d e lo H Q) (k:∀ v H',Q v H'→Q' v H'):T g Γ d e lo H Q' :=
 fun c ok fz=>(h c ok fz).mono fun _ _ _ _ _ q=>⟨q.1,k _ _ q.2⟩
theorem RP.map {Q Q':R→Loc→AH→Prop} (k:∀ r lo' H',Q r lo' H'→Q' r lo' H') {fz:Led} {x:Flow} {lo:Loc} {H:AH} (h:RP g Q fz x lo H):RP g Q' fz x lo H:=h.elim fun r p=>⟨r,p.1,k _ _ _ p.2⟩
theorem S.mono {e:Stmt} {Q Q':R→Loc→AH→Prop} (h:S g Γ d e lo H Q) (k:∀ r lo' H',Q r lo' H'→Q' r lo' H'):S g Γ d e lo H Q' :=
 fun c ok fz=>(h c ok fz).mono fun _ _ _ _ _ q=>q.map k
theorem Ss.mono {e:List Stmt} {Q Q':R→Loc→AH→Prop} (h:Ss g Γ d e lo H Q) (k:∀ r lo' H',Q r lo' H'→Q' r lo' H'):Ss g Γ d e lo H Q' :=
 fun c ok fz=>(h c ok fz).mono fun _ _ _ _ _ q=>q.map k
theorem E.int {i:Int} {k:Nat} {pos:Pos} {Q:V→AH→Prop} (h:Q (.int i) H):E g Γ d (.Constant (.int i) k pos) lo H Q :=
 fun c ok fz=>W.now fun mf m cl fz₁ led s hs I P _ k=>wpAny_Constant_int (k _ _ (I.toks _) ⟨rfl,_,.int _ _,h⟩)
theorem E.str {x:Str} {k:Nat} {pos:Pos} {Q:V→AH→Prop} (h:Q (.str x.cps.toList) H):E g Γ d (.Constant (.str x) k pos) lo H Q :=
 fun c ok fz=>W.now fun mf m cl fz₁ led s hs I P _ k=>Constant_str (k _ _ (I.toks _) ⟨rfl,_,.str _ _ rfl,h⟩)
theorem E.bool {b:Bool} {k:Nat} {pos:Pos} {Q:V→AH→Prop} (h:Q (.bool b) H):E g Γ d (.Constant (.bool b) k pos) lo H Q :=
 fun c ok fz=>W.now fun mf m cl fz₁ led s hs I P _ k=>Constant_bool (k _ _ I.z ⟨rfl,_,.bool _,h⟩)
theorem E.none {k:Nat} {pos:Pos} {Q:V→AH→Prop} (h:Q .none H):E g Γ d (.Constant .none k pos) lo H Q :=
 fun c ok fz=>W.now fun mf m cl fz₁ led s hs I P _ k=>Constant_none (k _ _ I.z ⟨rfl,_,.none,h⟩)
theorem loadName_W {c:Cx} {fz:Led} (ok:c.Ok g Γ d) {x:Str} {v:V} {Q:V→AH→Prop} (hm:(x,v)∈lo) (hv:v≠.unset) (h:Q v H):W g c fz (loadName c.env x) lo H (VP g lo Q) :=
 W.now fun mf m cl fz₁ led s hs I P _ k=>by
  rcases I.hi.loc _ hm with e | ⟨cv,e,i⟩
  ·exact absurd e hv
  ·exact wpAny_loadName_local ok.kind (I.hi.lok.2 _ hm).1 I.hi.ns e (k _ _ I.z ⟨rfl,_,i,h⟩)
theorem E.loc {x:Str} {pos:Pos} {v:V} {Q:V→AH→Prop} (hm:(x,v)∈lo) (hv:v≠.unset) (h:Q v H):E g Γ d (.Name x pos) lo H Q :=
 fun c ok fz mf m cl fz₁ led s hs I=>wpAny_Name (loadName_W ok hm hv h mf m cl fz₁ led s hs I) (I.hi.lok.2 _ hm).2
theorem E.glob {x:Str} {pos:Pos} {v:Value} {Q:V→AH→Prop} (hm:(x,v)∈Γ.globs) (h:∀ M,(∀ a o,g.B.get? a=some o→M a o)→∃ y,Is M v y∧Q y H):E g Γ d (.Name x pos) lo H Q :=
 fun c ok fz=>W.now fun mf m cl fz₁ led s hs I P _ k=>by
  obtain ⟨h1,h2,h3⟩:=ok.globs _ hm
  have T:=ok.gok.top.keeps (fun b o e=>I.hi.fr.keep b o (ok.stays b o e))
  refine Name_function_global ok.kind (by unfold Env.kindOf; rw [ok.scope]; exact h1) ?_ h2
  rcases h3 with h3 | ⟨h3,h4⟩
  ·exact loadGlobal_global (by rw [ok.globals]; exact T.g) h3 (k _ _ I.z ⟨rfl,h _ fun _ _ e=>.inr e⟩)
  ·exact loadGlobal_builtin (by rw [ok.globals]; exact T.g) h3 (by rw [ok.builtins]; exact T.b) h4 (k _ _ I.z ⟨rfl,h _ fun _ _ e=>.inr e⟩)
theorem E.glo {x:Str} {pos:Pos} {v:Value} {Q:V→AH→Prop} (hm:(x,v)∈Γ.globs) (h:Q (.glo v) H):E g Γ d (.Name x pos) lo H Q :=
 E.glob hm fun _ _=>⟨_,.glo v,h⟩
set_option genInjectivity false in
inductive TrueR:V→Bool→Prop
 | none:TrueR .none false
 | bool (b:Bool):TrueR (.bool b) b
 | int (i:Int):TrueR (.int i) (i != 0)
 | str {s:List Nat} (h:s.length < 2 ^ 62):TrueR (.str s) (!s.isEmpty)
 | lst {vs:List V} (h:vs.length < 2 ^ 62):TrueR (.lst vs) (!vs.isEmpty)
 | tup {vs:List V} (h:vs.length < 2 ^ 62):TrueR (.tup vs) (!vs.isEmpty)
noncomputable def TrueM (v:V) (k:Bool→Prop):Prop:=∃ b,TrueR v b∧k b
theorem TrueM.by {v:V} {b:Bool} {k:Bool→Prop} (h:TrueR v b) (q:k b):TrueM v k:=⟨b,h,q⟩
theorem IsAll.length {M:Mem} {vs:List Value} {ds:List V} (h:IsAll M vs ds):vs.length=ds.length:=by
 induction ds generalizing vs with
 | nil=>rw [h.nilE]; rfl
 | cons d ds ih=>obtain ⟨v,r,e,_,h⟩:=h.consE; rw [e,List.length_cons,List.length_cons,ih h]
theorem empty_len {α β:Type} {vs:List α} {ds:List β} (e:vs.length=ds.length):(!vs.toArray.isEmpty)=!ds.isEmpty:=by
 cases vs <;> cases ds <;> first | rfl | exact nomatch e
theorem lt63 {n:Nat} (h:n < 2 ^ 62):(n:Int) < 2 ^ 63:=by exact ar 1 [_] (.im (.lt .v0 (.n 4611686018427387904)) (.ilt .v0 (.n 9223372036854775808))) rfl h
theorem len_nz (x:Str):((x.length:Int) != 0)=!x.cps.toList.isEmpty:=by
 have e:x.length=x.cps.toList.length:=by simp [Str.length]
 rw [e]; cases x.cps.toList with
 | nil=>rfl
 | cons a b=>exact bne_iff_ne.mpr (by simp only [List.length_cons]; exact ar 1 [_] (.nt (.ieq (.a .v0 .n1) .n0)) rfl)
theorem truthy_W {c:Cx} {fz:Led} (ok:c.Ok g Γ d) {x:Value} {v:V} {Q:Bool→AH→Prop} (i:Is (Cx.mem g fz) x v) (h:TrueM v fun b=>Q b H):W g c fz (truthy x) lo H (BP lo Q) :=
 W.now fun mf m cl fz₁ led s hs I P _ k=>by
  obtain ⟨b,r,q⟩:=h
  have i:=i.mono (mem_mono hs)
  cases r with
  | none=>rw [i.noneE]; exact truthy_none (k _ _ I.z ⟨rfl,q⟩)
  | bool b=>rw [i.boolE]; exact wpAny_truthy_bool (k _ _ I.z ⟨rfl,q⟩)
  | int j=>obtain ⟨t,e⟩:=i.intE; rw [e]; exact PySem.P.truthy_int (k _ _ I.z ⟨rfl,q⟩)
  | str h =>
   refine ob_EEA i.strE fun x t e e2=>?_
   subst e; subst e2
   exact PySem.P.truthy_str (Int.not_le.mpr (by rw [show x.length=x.cps.toList.length by simp [Str.length]]; exact lt63 h)) (k _ _ (I.toks _) ⟨rfl,by rw [len_nz]; exact q⟩)
  | lst h =>
   refine ob_EEEAA i.lstE fun a vs n e hm ha=>?_
   subst e
   have e:=ha.length
   exact wpAny_truthy_list (items:=_) ⟨_,I.hi.there ok.stays hm,rfl,_,rfl⟩ (by rw [List.size_toArray,e]; exact lt63 h) (k _ _ (I.toks _) ⟨rfl,by rw [empty_len e]; exact q⟩)
  | tup h =>
   refine ob_EEEAA i.tupE fun a vs n e hm ha=>?_
   subst e
   have e:=ha.length
   exact truthy_tuple (items:=_) ⟨_,I.hi.there ok.stays hm,rfl,_,rfl⟩ (by rw [List.size_toArray,e]; exact lt63 h) (k _ _ (I.toks _) ⟨rfl,by rw [empty_len e]; exact q⟩)
end
section
set_option genSizeOf false
set_option genInjectivity false
noncomputable def pd (v:V):PyData:=V.rec (motive_1:=fun _=>PyData) (motive_2:=fun _=>List PyData) .none .none .bool .int (fun s=>.str ⟨s.toArray⟩) (fun _=>.tuple) (fun _=>.list) (fun _ _ _=>.none) (fun _=>.none) (fun _=>.none) (fun _ _ _=>.none) [] (fun _ _=>.cons) v
noncomputable def pds (v:List V):List PyData:=V.rec_1 (motive_1:=fun _=>PyData) (motive_2:=fun _=>List PyData) .none .none .bool .int (fun s=>.str ⟨s.toArray⟩) (fun _=>.tuple) (fun _=>.list) (fun _ _ _=>.none) (fun _=>.none) (fun _=>.none) (fun _ _ _=>.none) [] (fun _ _=>.cons) v
noncomputable def isDs (f:List V→Bool) (v:V):Bool:=V.casesOn v false true (fun _=>true) (fun _=>true) (·.all (· < 0x110000)) f f (fun _ _=>false) (fun _=>false) (fun _=>false) (fun _ _ _=>false)
noncomputable def isD (n:Nat):V→Bool:=Nat.rec (isDs fun _=>false) (fun _ ih=>isDs (·.all ih)) n
theorem isD_tup {n:Nat} {ds:List V} (h:isD n (.tup ds)=true):∃ m,n=m+1∧∀ v∈ds,isD m v=true:=by
 cases n with
 | zero=>exact nomatch h
 | succ m=>exact ⟨m,rfl,List.all_eq_true.mp h⟩
theorem isD_lst {n:Nat} {ds:List V} (h:isD n (.lst ds)=true):∃ m,n=m+1∧∀ v∈ds,isD m v=true:=by
 cases n with
 | zero=>exact nomatch h
 | succ m=>exact ⟨m,rfl,List.all_eq_true.mp h⟩
theorem isD_not {n:Nat} {v:V} (h:isD n v=true):(∀ C vs,v≠.obj C vs)∧(∀ a,v≠.ref a)∧(∀ x,v≠.glo x)∧(∀ a b c,v≠.rng a b c):=by
 refine ⟨fun C vs e=>?_,fun a e=>?_,fun x e=>?_,fun a b c e=>?_⟩ <;> (subst e; cases n <;> exact nomatch h)
section
variable {M:Mem} {h:Heap}
theorem Is.reads (k:∀ a o,M a o→h.get? a=some o) {x:Value} {v:V} (n:Nat) (i:Is M x v) (e:isD n v=true):∃ as,Reads h x (pd v) as :=
 Is.rec (M:=M) (motive_1:=fun x v _=>∀ n,isD n v=true→∃ as,Reads h x (pd v) as) (motive_2:=fun xs vs _=>∀ n,(∀ v∈vs,isD n v=true)→∃ as,ReadsAll h xs (pds vs) as) (motive_3:=fun _ _ _=>True)
  (fun _ _=>⟨_,.none⟩) (fun b _ _=>⟨_,.bool b⟩) (fun i t _ _=>⟨_,.int i t⟩) (@fun x t _ e _ _=>by subst e; exact ⟨_,.str x t⟩)
  (@fun _ _ _ _ hm _ r n e=>by obtain ⟨m,_,e⟩:=isD_tup e; obtain ⟨as,q⟩:=r m e; exact ⟨_,reads_tuple_at (k _ _ hm) rfl rfl q⟩)
  (@fun _ _ _ _ hm _ r n e=>by obtain ⟨m,_,e⟩:=isD_lst e; obtain ⟨as,q⟩:=r m e; exact ⟨_,reads_list_at (k _ _ hm) rfl rfl q⟩)
  (fun _ _ _ _ n e=>absurd rfl ((isD_not e).1 _ _)) (fun a n e=>absurd rfl ((isD_not e).2.1 _)) (fun a n e=>absurd rfl ((isD_not e).2.2.1 _)) (@fun _ _ _ _ _ _ _ _ n e=>absurd rfl ((isD_not e).2.2.2 _ _ _))
  (fun _ _=>⟨_,.nil⟩) (@fun _ _ _ _ _ _ a b n e=>by obtain ⟨as,q⟩:=a n (e _ (.head _)); obtain ⟨bs,p⟩:=b n fun v hv=>e v (.tail _ hv); exact ⟨_,.cons q p⟩)
  trivial (fun _ _=>trivial) (fun _ _ _ _=>trivial) i n e
end
theorem isD_lays {n:Nat} (ih:∀ v,isD n v=true→(pd v).canLay0=true∧(pd v).depth≤n):∀ vs:List V,vs.all (isD n)=true→PyData.canLayAll0 (pds vs)=true∧PyData.depthAll (pds vs)≤n
 | [],_=>⟨rfl,Nat.zero_le _⟩
 | v::vs,h =>
  have h:=Bool.and_eq_true_iff.mp h
  have a:=ih v h.1
  have b:=isD_lays ih vs h.2
  ⟨Bool.and_eq_true_iff.mpr ⟨a.1,b.1⟩,Nat.max_le.mpr ⟨a.2,b.2⟩⟩
theorem isDs_lay {n:Nat} {f:List V→Bool} (h:∀ vs,f vs=true→PyData.canLayAll0 (pds vs)=true∧PyData.depthAll (pds vs)+1≤n) (v:V):isDs f v=true→(pd v).canLay0=true∧(pd v).depth≤n :=
 V.casesOn (motive_1:=fun v=>isDs f v=true→(pd v).canLay0=true∧(pd v).depth≤n) v (fun h=>absurd h bn) (fun _=>⟨rfl,Nat.zero_le _⟩) (fun _ _=>⟨rfl,Nat.zero_le _⟩) (fun _ _=>⟨rfl,Nat.zero_le _⟩) (fun _ e=>⟨List.all_toArray.trans e,Nat.zero_le _⟩) h h (fun _ _ h=>absurd h bn) (fun _ h=>absurd h bn) (fun _ h=>absurd h bn) (fun _ _ _ h=>absurd h bn)
theorem isD_lay (n:Nat):∀ v:V,isD n v=true→(pd v).canLay0=true∧(pd v).depth≤n:=by
 induction n with
 | zero=>exact isDs_lay fun _ h=>absurd h bn
 | succ n ih=>exact isDs_lay fun vs h=>⟨(isD_lays ih vs h).1,Nat.succ_le_succ (isD_lays ih vs h).2⟩
theorem isD_shaped {v:V} (h:isD 64 v=true):PySem.SeqAt.shaped (pd v)=true:=by
 have q:=isD_lay 64 v h
 unfold PySem.SeqAt.shaped
 rw [q.1,Bool.true_and]; exact decide_eq_true q.2
noncomputable def inStr (x y:List Nat):Bool:=!(Builtin.Str.occurrences ⟨y.toArray⟩ ⟨x.toArray⟩ 0 y.length 1).isEmpty
theorem inStr_one (c:Nat) (y:List Nat):inStr [c] y=y.contains c:=by
 have:=StrLaws.found_one ⟨y.toArray⟩ c
 unfold inStr
 have e:(⟨y.toArray⟩:Str).length=y.length:=by simp [Str.length]
 rw [e] at this
 rw [this]
 simp
noncomputable def eqStr (x:List Nat):V→Bool
 | .str y=>y==x
 | _=>false
noncomputable def allStr:List V→Bool
 | []=>true
 | .str _::r=>allStr r
 | _=>false
theorem strsAre_of {M:Mem} {xs:List Value} {vs:List V} (i:IsAll M xs vs) (h:allStr vs=true):∃ ys,StrsAre xs ys∧∀ x:Str,ys.any (·==x)=vs.any (eqStr x.cps.toList):=by
 induction vs generalizing xs with
 | nil=>rw [i.nilE]; exact ⟨[],.nil,fun _=>rfl⟩
 | cons v vs ih =>
  refine ob_EEAA i.consE fun x r e i' j=>?_
  subst e
  cases v with
  | str s =>
   refine ob_EEA i'.strE fun y t e e2=>?_
   subst e; subst e2
   obtain ⟨ys,a,b⟩:=ih j h
   refine ⟨y::ys,.cons y t a,fun x=>?_⟩
   rw [List.any_cons,List.any_cons,b x]
   exact congrArg (·||_) (eq_meets y x).symm
  | _=>exact nomatch h
inductive isNo:V→Prop
 | int (i:Int):isNo (.int i)
 | str (s:List Nat):isNo (.str s)
 | tup (s:List V):isNo (.tup s)
inductive CmpR:CmpOp→V→V→Bool→Prop
 | nz (b:Nat):CmpR .Lt (.int 0) (.int (b:Int)) (decide (0 < b))
 | nlt (a b:Nat):CmpR .Lt (.int (a:Int)) (.int (b:Int)) (decide (a < b))
 | nle (a b:Nat):CmpR .LtE (.int (a:Int)) (.int (b:Int)) (decide (a≤b))
 | ngt (a b:Nat):CmpR .Gt (.int (a:Int)) (.int (b:Int)) (decide (a > b))
 | nge (a b:Nat):CmpR .GtE (.int (a:Int)) (.int (b:Int)) (decide (a ≥ b))
 | ieq (i j:Int):CmpR .Eq (.int i) (.int j) (i==j)
 | ine (i j:Int):CmpR .NotEq (.int i) (.int j) (i != j)
 | ilt (i j:Int):CmpR .Lt (.int i) (.int j) (decide (i < j))
 | ile (i j:Int):CmpR .LtE (.int i) (.int j) (decide (i≤j))
 | igt (i j:Int):CmpR .Gt (.int i) (.int j) (decide (i > j))
 | ige (i j:Int):CmpR .GtE (.int i) (.int j) (decide (i ≥ j))
 | seq (x y:List Nat):CmpR .Eq (.str x) (.str y) (x==y)
 | sne (x y:List Nat):CmpR .NotEq (.str x) (.str y) (x != y)
 | sle (x y:List Nat):CmpR .LtE (.str x) (.str y) (!decide (y < x))
 | sno (x:List Nat):CmpR .Eq (.str x) .none false
 | sin (x y:List Nat):CmpR .In (.str x) (.str y) (inStr x y)
 | snin (x y:List Nat):CmpR .NotIn (.str x) (.str y) (!inStr x y)
 | tin (x:List Nat) {vs:List V} (h:allStr vs=true):CmpR .In (.str x) (.tup vs) (vs.any (eqStr x))
 | tnin (x:List Nat) {vs:List V} (h:allStr vs=true):CmpR .NotIn (.str x) (.tup vs) (!vs.any (eqStr x))
 | isn:CmpR .Is .none .none true
 | isnn:CmpR .IsNot .none .none false
 | ano {a:V} (h:isNo a):CmpR .Is a .none false
 | anno {a:V} (h:isNo a):CmpR .IsNot a .none true
 | deq {x y:V} (h:isD 64 x=true) (h':isD 64 y=true):CmpR .Eq x y (PyData.eqv (pd x) (pd y))
 | dne {x y:V} (h:isD 64 x=true) (h':isD 64 y=true):CmpR .NotEq x y (!PyData.eqv (pd x) (pd y))
 | sgt (x y:List Nat):CmpR .Gt (.str x) (.str y) (decide (y < x))
 | lin (x:List Nat) {vs:List V} (h:allStr vs=true):CmpR .In (.str x) (.lst vs) (vs.any (eqStr x))
 | lnin (x:List Nat) {vs:List V} (h:allStr vs=true):CmpR .NotIn (.str x) (.lst vs) (!vs.any (eqStr x))
noncomputable def CmpM (op:CmpOp) (a b:V) (k:Bool→Prop):Prop:=∃ r,CmpR op a b r∧k r
theorem CmpM.by {op:CmpOp} {a b:V} {r:Bool} {k:Bool→Prop} (h:CmpR op a b r) (q:k r):CmpM op a b k:=⟨r,h,q⟩
theorem CmpM.mono {op:CmpOp} {a b:V} {k k':Bool→Prop} (h:CmpM op a b k) (q:∀ r,k r→k' r):CmpM op a b k':=h.elim fun r h=>⟨r,h.1,q _ h.2⟩
section
variable {g:Gx} {Γ:Fx} {d:Nat} {lo:Loc} {H:AH} {c:Cx} {fz:Led}
theorem str_sub (x y:Str):(!(Builtin.Str.occurrences y x 0 y.length 1).isEmpty)=inStr x.cps.toList y.cps.toList:=by
 unfold inStr
 have e:y.length=y.cps.toList.length:=by simp [Str.length]
 rw [e]
theorem isNo_is {M:Mem} {x:Value} {a:V} (i:Is M x a) (h:isNo a):plainIs x .none=true∧(x==Value.none)=false:=by
 induction h with
 | int j=>exact i.intK (C:=fun x=>plainIs x .none=true∧(x==Value.none)=false) fun t=>⟨rfl,rfl⟩
 | str s=>exact i.strK (C:=fun x _=>plainIs x .none=true∧(x==Value.none)=false) fun y t=>⟨rfl,rfl⟩
 | tup s=>exact i.tupK (C:=fun x=>plainIs x .none=true∧(x==Value.none)=false) fun _ _ _ _ _=>⟨rfl,rfl⟩
theorem dcI {C:Bool→Prop} {p q:Prop} [Decidable p] [Decidable q] (h:p ↔ q) (k:C (decide q)):C (decide p):=(decide_eq_decide.mpr h).symm ▸ k
theorem dcE {C:Bool→Prop} {a b:Bool} (h:a=b) (k:C b):C a:=h.symm ▸ k
theorem cmp_core {prog:Program} {w:World} {A:Around} {X:Value→Shared→Prop} {s:Shared} {P:Value→Shared→Prop} {M:Mem} (th:∀ a o,M a o→s.heap.get? a=some o) (u:A.units+64 < cLine) {op:CmpOp} {x y:Value} {a b:V} {r:Bool} (i:Is M x a) (j:Is M y b) (h:CmpR op a b r) (q:P (.bool r) s):wpAny (model prog w) A (compareOp op x y) P X s :=
 CmpR.casesOn (motive:=fun op a b r _=>Is M x a→Is M y b→P (.bool r) s→wpAny (model prog w) A (compareOp op x y) P X s) h
  (fun b i j q=>i.ints j (C:=fun x y=>wpAny (model prog w) A (compareOp .Lt x y) P X s) fun _ _=>PySem.P.lt_int (dcI (C:=fun r=>P (.bool r) s) Int.natCast_pos q))
  (fun a b i j q=>i.ints j (C:=fun x y=>wpAny (model prog w) A (compareOp .Lt x y) P X s) fun _ _=>PySem.P.lt_int (dcI (C:=fun r=>P (.bool r) s) Int.ofNat_lt q))
  (fun a b i j q=>i.ints j (C:=fun x y=>wpAny (model prog w) A (compareOp .LtE x y) P X s) fun _ _=>PySem.P.le_int (dcI (C:=fun r=>P (.bool r) s) Int.ofNat_le q))
  (fun a b i j q=>i.ints j (C:=fun x y=>wpAny (model prog w) A (compareOp .Gt x y) P X s) fun _ _=>PySem.P.gt_int (dcI (C:=fun r=>P (.bool r) s) Int.ofNat_lt q))
  (fun a b i j q=>i.ints j (C:=fun x y=>wpAny (model prog w) A (compareOp .GtE x y) P X s) fun _ _=>PySem.P.ge_int (dcI (C:=fun r=>P (.bool r) s) Int.ofNat_le q))
  (fun _ _ i j q=>i.ints j (C:=fun x y=>wpAny (model prog w) A (compareOp .Eq x y) P X s) fun _ _=>PySem.P.eq_int q) (fun _ _ i j q=>i.ints j (C:=fun x y=>wpAny (model prog w) A (compareOp .NotEq x y) P X s) fun _ _=>PySem.P.ne_int q)
  (fun _ _ i j q=>i.ints j (C:=fun x y=>wpAny (model prog w) A (compareOp .Lt x y) P X s) fun _ _=>PySem.P.lt_int q) (fun _ _ i j q=>i.ints j (C:=fun x y=>wpAny (model prog w) A (compareOp .LtE x y) P X s) fun _ _=>PySem.P.le_int q)
  (fun _ _ i j q=>i.ints j (C:=fun x y=>wpAny (model prog w) A (compareOp .Gt x y) P X s) fun _ _=>PySem.P.gt_int q) (fun _ _ i j q=>i.ints j (C:=fun x y=>wpAny (model prog w) A (compareOp .GtE x y) P X s) fun _ _=>PySem.P.ge_int q)
  (fun _ _ i j=>i.strs j (C:=fun x y s' t=>P (.bool (s'==t)) s→wpAny (model prog w) A (compareOp .Eq x y) P X s) fun _ _ _ _=>PySem.P.eq_str)
  (fun _ _ i j=>i.strs j (C:=fun x y s' t=>P (.bool (s' != t)) s→wpAny (model prog w) A (compareOp .NotEq x y) P X s) fun _ _ _ _=>PySem.P.ne_str)
  (fun _ _ i j=>i.strs j (C:=fun x y s' t=>P (.bool (!decide (t < s'))) s→wpAny (model prog w) A (compareOp .LtE x y) P X s) fun _ _ _ _=>PySem.P.le_str)
  (fun _ i j=>i.strK (C:=fun x _=>P (.bool false) s→wpAny (model prog w) A (compareOp .Eq x y) P X s) fun z t q=>j.noneK (C:=fun y=>wpAny (model prog w) A (compareOp .Eq (.str z t) y) P X s) (EqNone.eq_str_none q))
  (fun _ _ i j=>i.strs j (C:=fun x y s' t=>P (.bool (inStr s' t)) s→wpAny (model prog w) A (compareOp .In x y) P X s) fun _ _ _ _ q=>PySem.P.in_str (dcE (C:=fun r=>P (.bool r) s) (str_sub _ _) q))
  (fun _ _ i j=>i.strs j (C:=fun x y s' t=>P (.bool (!inStr s' t)) s→wpAny (model prog w) A (compareOp .NotIn x y) P X s) fun _ _ _ _ q=>PySem.P.notIn_str (dcE (C:=fun r=>P (.bool (!r)) s) (str_sub _ _) q))
  (fun _ {vs} h i j=>i.strK (C:=fun x s'=>P (.bool (vs.any (eqStr s'))) s→wpAny (model prog w) A (compareOp .In x y) P X s) fun x t q=>j.tupK (C:=fun y=>wpAny (model prog w) A (compareOp .In (.str x t) y) P X s) fun _ _ _ hm ha=>(strsAre_of ha h).elim fun _ p=>in_tuple_strs ⟨_,th _ _ hm,rfl,_,rfl⟩ p.1 (dcE (C:=fun r=>P (.bool r) s) (p.2 _) q))
  (fun _ {vs} h i j=>i.strK (C:=fun x s'=>P (.bool (!vs.any (eqStr s'))) s→wpAny (model prog w) A (compareOp .NotIn x y) P X s) fun x t q=>j.tupK (C:=fun y=>wpAny (model prog w) A (compareOp .NotIn (.str x t) y) P X s) fun _ _ _ hm ha=>(strsAre_of ha h).elim fun _ p=>notin_tuple_strs ⟨_,th _ _ hm,rfl,_,rfl⟩ p.1 (dcE (C:=fun r=>P (.bool (!r)) s) (p.2 _) q))
  (fun i j q=>i.noneK (C:=fun x=>wpAny (model prog w) A (compareOp .Is x y) P X s) (j.noneK (C:=fun y=>wpAny (model prog w) A (compareOp .Is .none y) P X s) (wpAny_is_plain rfl q))) (fun i j q=>i.noneK (C:=fun x=>wpAny (model prog w) A (compareOp .IsNot x y) P X s) (j.noneK (C:=fun y=>wpAny (model prog w) A (compareOp .IsNot .none y) P X s) (wpAny_isNot_plain rfl q)))
  (fun h i j q=>j.noneK (C:=fun y=>wpAny (model prog w) A (compareOp .Is x y) P X s) (wpAny_is_plain (isNo_is i h).1 (dcE (C:=fun r=>P (.bool r) s) (isNo_is i h).2 q)))
  (fun h i j q=>j.noneK (C:=fun y=>wpAny (model prog w) A (compareOp .IsNot x y) P X s) (wpAny_isNot_plain (isNo_is i h).1 (dcE (C:=fun r=>P (.bool (!r)) s) (isNo_is i h).2 q)))
  (fun h h' i j q=>(i.reads th 64 h).elim fun _ ra=>(j.reads th 64 h').elim fun _ rb=>eq_dataH ra rb (isD_shaped h) (isD_shaped h') u q)
  (fun h h' i j q=>(i.reads th 64 h).elim fun _ ra=>(j.reads th 64 h').elim fun _ rb=>ne_dataH ra rb (isD_shaped h) (isD_shaped h') u q)
  (fun _ _ i j=>i.strs j (C:=fun x y s' t=>P (.bool (decide (t < s'))) s→wpAny (model prog w) A (compareOp .Gt x y) P X s) fun _ _ _ _=>PySem.P.gt_str)
  (fun _ {vs} h i j=>i.strK (C:=fun x s'=>P (.bool (vs.any (eqStr s'))) s→wpAny (model prog w) A (compareOp .In x y) P X s) fun x t q=>j.lstE.elim fun _ r=>r.elim fun _ r=>r.elim fun _ r=>by
   rw [r.1]; exact (strsAre_of r.2.2 h).elim fun _ p=>in_list_strs ⟨_,th _ _ r.2.1,rfl,_,rfl⟩ p.1 (dcE (C:=fun r=>P (.bool r) s) (p.2 _) q))
  (fun _ {vs} h i j=>i.strK (C:=fun x s'=>P (.bool (!vs.any (eqStr s'))) s→wpAny (model prog w) A (compareOp .NotIn x y) P X s) fun x t q=>j.lstE.elim fun _ r=>r.elim fun _ r=>r.elim fun _ r=>by
   rw [r.1]; exact (strsAre_of r.2.2 h).elim fun _ p=>notin_list_strs ⟨_,th _ _ r.2.1,rfl,_,rfl⟩ p.1 (dcE (C:=fun r=>P (.bool (!r)) s) (p.2 _) q)) i j q
theorem units64 {a d:Nat} (h:a+10 * d+200≤cLine):a+64 < cLine:=by exact ar 3 [_,_,_] (.im (.le (.a (.a .v0 (.m 10 .v2)) (.n 200)) .v1) (.lt (.a .v0 (.n 64)) .v1)) rfl h
theorem cmp_W (ok:c.Ok g Γ d) {op:CmpOp} {x y:Value} {a b:V} {Q:V→AH→Prop} (i:Is (Cx.mem g fz) x a) (j:Is (Cx.mem g fz) y b) (h:CmpM op a b fun r=>Q (.bool r) H):W g c fz (compareOp op x y) lo H (VP g lo Q) :=
 W.now fun mf m cl fz₁ led s hs I P _ k=>h.elim fun r h =>
  cmp_core (fun a o=>I.hi.there ok.stays) (units64 ok.units) (i.mono (mem_mono hs)) (j.mono (mem_mono hs)) h.1 (k _ _ I.z ⟨rfl,_,.bool r,h.2⟩)
end
end
section
variable {g:Gx} {c:Cx} {fz:Led} {lo:Loc} {H:AH} {α:Type}
theorem W.grown {t:Sem α} {Q:Led→α→Loc→AH→Prop}
  (h:∀ mf m cl fz₁ led s,(∀ p∈fz,p∈fz₁)→Inv g c lo H mf m cl fz₁ led s→∀ (P:α→Shared→Prop) (E:Value→Shared→Prop),(∀ x h' k,HI g c lo H mf m cl fz₁ led h'→Q fz₁ x lo H→P x { s with heap:=h',toks:=k })→wpAny (model g.prog g.w) c.A t P E s):W g c fz t lo H Q :=
 fun mf m cl fz₁ led s hs I=>wpAny_with_toks I.tk (h mf m cl fz₁ led s hs I _ _ fun x h' k J q tk=>.mk lo H mf m cl fz₁ led ⟨J,I.gens,I.os,tk⟩ (fun _ x=>x) q)
theorem W.frozen {t:Sem Value} {Q:Led→Value→Loc→AH→Prop}
  (h:∀ mf m cl fz₁ led s,(∀ p∈fz,p∈fz₁)→Inv g c lo H mf m cl fz₁ led s→∀ (P:Value→Shared→Prop) (E:Value→Shared→Prop),(∀ o,o.isFreed=false→Q ((s.heap.objs.size,o)::fz₁) (.ref s.heap.objs.size) lo H→P (.ref s.heap.objs.size) { s with heap:=s.heap.push o })→wpAny (model g.prog g.w) c.A t P E s):W g c fz t lo H Q :=
 fun mf m cl fz₁ led s hs I=>h mf m cl fz₁ led s hs I _ _ fun o hf q=>.mk lo H mf m cl _ led (I.to s.toks (Nat.le_refl _) (I.hi.newFz o hf)) (fun _ x=>.tail _ x) q
theorem W.alive {t:Sem Value} {Q:Led→Value→Loc→AH→Prop}
  (h:∀ mf m cl fz₁ led s,(∀ p∈fz,p∈fz₁)→Inv g c lo H mf m cl fz₁ led s→∀ (P:Value→Shared→Prop) (E:Value→Shared→Prop),(∀ o x,OIs (Cx.mem g fz₁) o x→o.isFreed=false→Q fz₁ (.ref s.heap.objs.size) lo ((s.heap.objs.size,x)::H)→P (.ref s.heap.objs.size) { s with heap:=s.heap.push o })→wpAny (model g.prog g.w) c.A t P E s):W g c fz t lo H Q :=
 fun mf m cl fz₁ led s hs I=>h mf m cl fz₁ led s hs I _ _ fun o x hx hf q=>.mk lo _ mf m cl fz₁ _ (I.to s.toks (Nat.le_refl _) (I.hi.newLed hx hf)) (fun _ x=>x) q
end
noncomputable def slc {α:Type} (s:List α) (l u:Option Int):List α:=(s.drop (l.elim 0 (clipAt s.length))).take (u.elim s.length (clipAt s.length) - l.elim 0 (clipAt s.length))
theorem clipAt_le (n:Nat) (i:Int):clipAt n i≤n:=by have:=clipAt_cast n i; exact AR.h333 this
theorem strIdx (l u:Option Int) (n:Nat):Builtin.Str.strSliceIndices l u 1 n=sliceRange ((l.elim 0 (clipAt n):Nat)) ((u.elim n (clipAt n):Nat)) 1:=by
 cases l <;> cases u <;> simp [Builtin.Str.strSliceIndices,clipAt_cast]
set_option tactic.hygienic true in
theorem txt_slice (x:Str) (l u:Option Int):(Txt.slice x l u).cps.toList=slc x.cps.toList l u:=by
 unfold Txt.slice
 have e:(Builtin.Str.strSliceIndices l u 1 x.length).filterMap (x.cps[·]?)=slc x.cps.toList l u:=by
  rw [strIdx,sliceRange_one,pick_run]
  unfold slc Str.length
  simp
 split
 ·rename_i h
  have h:(Builtin.Str.strSliceIndices l u 1 x.length).length=x.length:=by simpa using h
  rw [← e]
  rw [strIdx,sliceRange_one,List.length_map,List.length_range] at h
  rw [strIdx,sliceRange_one,pick_run]
  have a1:l.elim 0 (clipAt x.length)≤x.length:=by cases l with | none=>exact Nat.zero_le _ | some i=>exact clipAt_le _ _
  have a2:u.elim x.length (clipAt x.length)≤x.length:=by cases u with | none=>exact Nat.le_refl _ | some i=>exact clipAt_le _ _
  have a3:l.elim 0 (clipAt x.length)=0:=by exact ar 3 [_,_,_] (.im (.eq (.s .v1 .v0) .v2) (.im (.le .v1 .v2) (.im (.le .v0 .v2) (.eq .v0 .n0)))) rfl h a2 a1
  rw [h,a3,List.drop_zero,List.take_of_length_le (by simp [Str.length])]
 ·simpa using e
set_option genInjectivity false in
inductive BinR:Operator→V→V→V→Prop
 | n1 (a:Nat):BinR .Add (.int (a:Int)) (.int 1) (.int ((a+1:Nat):Int))
 | n2 (a:Nat):BinR .Add (.int (a:Int)) (.int 2) (.int ((a+2:Nat):Int))
 | n3 (a:Nat):BinR .Add (.int (a:Int)) (.int 3) (.int ((a+3:Nat):Int))
 | n4 (a:Nat):BinR .Add (.int (a:Int)) (.int 4) (.int ((a+4:Nat):Int))
 | n6 (a:Nat):BinR .Add (.int (a:Int)) (.int 6) (.int ((a+6:Nat):Int))
 | nn (a b:Nat):BinR .Add (.int (a:Int)) (.int (b:Int)) (.int ((a+b:Nat):Int))
 | iadd (i j:Int):BinR .Add (.int i) (.int j) (.int (i+j))
 | isub (i j:Int):BinR .Sub (.int i) (.int j) (.int (i - j))
 | imod (i:Int) {j:Int} (h:j≠0):BinR .Mod (.int i) (.int j) (.int (i.fmod j))
 | ifdiv (i:Int) {j:Int} (h:j≠0) (h':Builtin.divisionGoesByPylong i j=false):BinR .FloorDiv (.int i) (.int j) (.int (i.fdiv j))
 | imul {i j:Int} (h:IntMulOk i j):BinR .Mult (.int i) (.int j) (.int (i * j))
 | smul {x:List Nat} {n:Int} (h0:0≤n) (h1:n < 1000) (h2:x.length≤1000):BinR .Mult (.str x) (.int n) (.str (List.replicate n.toNat x).flatten)
 | sadd {x y:List Nat} (h:x.length+y.length≤sizeLine):BinR .Add (.str x) (.str y) (.str (x++y))
theorem BinR.addC {C:V→V→V→Prop} {a b r:V} (h:BinR .Add a b r) (k1:∀ i j,C (.int i) (.int j) (.int (i+j))) (k2:∀ x y,x.length+y.length≤sizeLine→C (.str x) (.str y) (.str (x++y))):C a b r :=
 BinR.casesOn (motive:=fun op a b r _=>op=.Add→C a b r) h (fun _ _=>k1 _ _) (fun _ _=>k1 _ _) (fun _ _=>k1 _ _) (fun _ _=>k1 _ _) (fun _ _=>k1 _ _) (fun _ _ _=>k1 _ _) (fun _ _ _=>k1 _ _) (fun _ _ e=>Operator.noConfusion e) (fun _ _ _ e=>Operator.noConfusion e) (fun _ _ _ _ e=>Operator.noConfusion e) (fun _ e=>Operator.noConfusion e) (fun _ _ _ e=>Operator.noConfusion e) (fun h _=>k2 _ _ h) rfl
noncomputable def BinM (op:Operator) (a b:V) (k:V→Prop):Prop:=∃ r,BinR op a b r∧k r
theorem BinM.by {op:Operator} {a b r:V} {k:V→Prop} (h:BinR op a b r) (q:k r):BinM op a b k:=⟨r,h,q⟩
theorem foldl_app (x:Array Nat) (n:Nat) (a:Array Nat):((List.replicate n x).foldl (·++·) a).toList=a.toList++(List.replicate n x.toList).flatten:=by
 induction n generalizing a with
 | zero=>simp
 | succ n ih=>rw [List.replicate_succ,List.foldl_cons,ih]; simp [List.replicate_succ]
theorem mulOk_small {x:Str} {n:Int} (h0:0≤n) (h1:n < 1000) (h2:x.length≤1000):MulOk x n:=by
 have e:(2:Int) ^ 63=9223372036854775808:=by decide
 refine ⟨?_,fun hn _=>?_,fun hn _=>?_⟩
 ·rw [decide_eq_false (by lia),decide_eq_false (by lia)]; rfl
 ·have:(9223372036854775808 - 1:Int) / n ≥ 1000:=Int.le_ediv_of_mul_le (by lia) (by lia)
  rw [e]; lia
 ·refine short24 ?_
  have h3:x.length * n.toNat≤1000 * 1000:=Nat.mul_le_mul h2 (by lia)
  exact ar 1 [_] (.im (.le .v0 (.m 1000 (.n 1000))) (.le .v0 (.n 16777216))) rfl h3
set_option tactic.hygienic true in
theorem mul_list {x:Str} {n:Int} (h0:0≤n):(Txt.mul x n).cps.toList=(List.replicate n.toNat x.cps.toList).flatten:=by
 unfold Txt.mul
 split
 ·have:n.toNat=0:=by lia
  rw [this]; rfl
 ·split
  ·rename_i hq
   rcases Bool.or_eq_true_iff.mp hq with q | q
   ·have:n=1:=by simpa using q
    subst this; simp
   ·have:x.cps.toList=[]:=by simpa [Str.length] using q
    rw [this]; simp
  ·rw [foldl_app]; simp
theorem str_len (x:Str):x.length=x.cps.toList.length:=by simp [Str.length]
theorem int_add {prog:Program} {w:World} {A:Around} {E:Value→Shared→Prop} {s:Shared} {P:Value→Shared→Prop} {x y:Value} {a b:Int} {M:Mem} (i:Is M x (.int a)) (j:Is M y (.int b)) (q:∀ z t,Is M z (.int (a+b))→P z { s with toks:=t }):wpAny (model prog w) A (binaryOp .Add x y) P E s :=
 i.ints j (C:=fun x y=>wpAny (model prog w) A (binaryOp .Add x y) P E s) fun _ _=>PySem.P.add_int (q _ _ (.int _ _))
theorem bin_op {prog:Program} {w:World} {A:Around} {E:Value→Shared→Prop} {s:Shared} {P:Value→Shared→Prop} {op:Operator} {x y:Value} {a b r:V} {M:Mem} (i:Is M x a) (j:Is M y b) (h:BinR op a b r) (q:∀ z t,Is M z r→P z { s with toks:=t }):wpAny (model prog w) A (binaryOp op x y) P E s :=
 BinR.casesOn (motive:=fun op a b r _=>Is M x a→Is M y b→(∀ z t,Is M z r→P z { s with toks:=t })→wpAny (model prog w) A (binaryOp op x y) P E s) h
  (fun _ i j q=>int_add i j q) (fun _ i j q=>int_add i j q) (fun _ i j q=>int_add i j q) (fun _ i j q=>int_add i j q) (fun _ i j q=>int_add i j q) (fun _ _ i j q=>int_add i j q) (fun _ _ i j q=>int_add i j q)
  (fun _ _ i j q=>i.ints j (C:=fun x y=>wpAny (model prog w) A (binaryOp .Sub x y) P E s) fun _ _=>PySem.P.sub_int (q _ _ (.int _ _)))
  (fun _ _ h i j q=>i.ints j (C:=fun x y=>wpAny (model prog w) A (binaryOp .Mod x y) P E s) fun _ _=>mod_int' h (q _ _ (.int _ _)))
  (fun _ _ h h' i j q=>i.ints j (C:=fun x y=>wpAny (model prog w) A (binaryOp .FloorDiv x y) P E s) fun _ _=>floordiv_int h (q _ _ (.int _ _)) (.inl h'))
  (fun h i j q=>i.ints j (C:=fun x y=>wpAny (model prog w) A (binaryOp .Mult x y) P E s) fun _ _=>PySem.P.mul_int (q _ _ (.int _ _)) h)
  (fun {x n} h0 h1 h2 i j=>i.strK (C:=fun z x=>x.length≤1000→(∀ z t,Is M z (.str (List.replicate n.toNat x).flatten)→P z { s with toks:=t })→wpAny (model prog w) A (binaryOp .Mult z y) P E s) (fun z t h2 q=>j.intK (C:=fun y=>wpAny (model prog w) A (binaryOp .Mult (.str z t) y) P E s) fun _ =>
   PySem.SB.mul (mulOk_small h0 h1 (Nat.le_trans (Nat.le_of_eq (str_len z)) h2)) fun t' k=>q _ _ (.str _ _ (mul_list h0))) h2)
  (fun h i j=>i.strs j (C:=fun x y a b=>a.length+b.length≤sizeLine→(∀ z t,Is M z (.str (a++b))→P z { s with toks:=t })→wpAny (model prog w) A (binaryOp .Add x y) P E s) (fun _ _ _ _ h q =>
   PyProof.Rows.add_str (fun t' tk=>q _ _ (.str _ _ Array.toList_append)) h) h)
  i j q
section
variable {g:Gx} {Γ:Fx} {d:Nat} {lo:Loc} {H:AH} {c:Cx} {fz:Led}
theorem bin_W {op:Operator} {x y:Value} {a b:V} {Q:V→AH→Prop} (i:Is (Cx.mem g fz) x a) (j:Is (Cx.mem g fz) y b) (h:BinM op a b fun r=>Q r H):W g c fz (binaryOp op x y) lo H (VP g lo Q) :=
 W.now fun mf m cl fz₁ led s hs I P _ k=>h.elim fun r h =>
  bin_op (i.mono (mem_mono hs)) (j.mono (mem_mono hs)) h.1 fun z t iz=>k _ _ (I.toks t) ⟨rfl,_,iz,h.2⟩
theorem E.bin {l r:Expr} {op:Operator} {pos:Pos} {Q:V→AH→Prop} (h:E g Γ d l lo H fun a H₁=>E g Γ d r lo H₁ fun b H₂=>BinM op a b fun v=>Q v H₂):E g Γ d (.BinOp l op r pos) lo H Q:=by
 intro c ok fz
 rw [eval_BinOp]
 refine W.bindV ((h c ok fz)) fun fz₁ x a H₁ s₁ ia ha=>?_
 refine W.bindV (W.holding ((ha c ok fz₁))) fun fz₂ y b H₂ s₂ ib hb=>?_
 exact W.at_ (W.operate (bin_W (ia.mono (mem_mono s₂)) ib hb))
theorem E.cmp {l r:Expr} {op:CmpOp} {pos:Pos} {Q:V→AH→Prop} (h:E g Γ d l lo H fun a H₁=>E g Γ d r lo H₁ fun b H₂=>CmpM op a b fun v=>Q (.bool v) H₂)
  (hm:autoParam (behindInMarks op r=false) irfd):E g Γ d (.Compare l [op] [r] pos) lo H Q:=by
 intro c ok fz
 rw [eval_Compare1,markedBehindIn_of_false hm]
 refine W.bindV ((h c ok fz)) fun fz₁ x a H₁ s₁ ia ha=>?_
 refine W.bindV (W.holding ((ha c ok fz₁))) fun fz₂ y b H₂ s₂ ib hb=>?_
 exact W.at_ (W.operate (cmp_W ok (ia.mono (mem_mono s₂)) ib hb))
theorem T.cmp {l r:Expr} {op:CmpOp} {pos:Pos} {Q:Bool→AH→Prop} (h:E g Γ d l lo H fun a H₁=>E g Γ d r lo H₁ fun b H₂=>CmpM op a b fun v=>Q v H₂)
  (hm:autoParam (behindInMarks op r=false) irfd):T g Γ d (.Compare l [op] [r] pos) lo H Q:=by
 intro c ok fz
 rw [isTrue_Compare1,markedBehindIn_of_false hm]
 refine W.bindV ((h c ok fz)) fun fz₁ x a H₁ s₁ ia ha=>?_
 refine W.bindV (W.holding ((ha c ok fz₁))) fun fz₂ y b H₂ s₂ ib hb=>?_
 exact W.at_ (W.bindV (W.operate (cmp_W (Q:=fun v H'=>∃ b,v=.bool b∧Q b H') ok (ia.mono (mem_mono s₂)) ib (CmpM.mono hb fun r q=>⟨_,rfl,q⟩))) fun fz₃ z v H₃ s₃ iv q =>
  W.holding (truthy_W ok iv (q.elim fun b q=>by rw [q.1]; exact ⟨_,.bool b,q.2⟩)))
theorem T.of {e:Expr} {Q:Bool→AH→Prop} (h:E g Γ d e lo H fun v H₁=>TrueM v fun b=>Q b H₁)
  (he:autoParam (∀ env,isTrue e env (eval e env)=(do let v ← eval e env; standAt e.pos; holding [v] (truthy v))) irfa):T g Γ d e lo H Q:=by
 intro c ok fz
 rw [he]
 refine W.bindV ((h c ok fz)) fun fz₁ x a H₁ s₁ ia ha=>?_
 exact W.at_ (W.holding (truthy_W ok ia ha))
theorem W.cast {t t':Sem α} {Q:Led→α→Loc→AH→Prop} (h:W g c fz t lo H Q) (e:t'=t):W g c fz t' lo H Q:=e ▸ h
theorem T.not {x:Expr} {pos:Pos} {Q:Bool→AH→Prop} (h:T g Γ d x lo H fun b H₁=>Q (!b) H₁):T g Γ d (.UnaryOp .Not x pos) lo H Q:=by
 intro c ok fz
 show W g c fz (do return !(← isTrue x c.env (eval x c.env))) lo H _
 exact W.bindB (h c ok fz) fun fz₁ x H₁ s₁ q=>W.pure fun _ _=>⟨rfl,q⟩
theorem T.and0 {pos:Pos} {Q:Bool→AH→Prop} (h:Q true H):T g Γ d (.BoolOp .And [] pos) lo H Q:=fun c ok fz=>W.pure (a:=true) fun _ _=>⟨rfl,h⟩
theorem T.or0 {pos:Pos} {Q:Bool→AH→Prop} (h:Q false H):T g Γ d (.BoolOp .Or [] pos) lo H Q:=fun c ok fz=>W.pure (a:=false) fun _ _=>⟨rfl,h⟩
theorem T.and {x:Expr} {rest:List Expr} {pos:Pos} {Q:Bool→AH→Prop} (h:T g Γ d x lo H fun b H₁=>if b then T g Γ d (.BoolOp .And rest pos) lo H₁ Q else Q false H₁):T g Γ d (.BoolOp .And (x::rest) pos) lo H Q:=by
 intro c ok fz
 show W g c fz (do
  match BoolOp.And,← isTrue x c.env (eval x c.env) with
  | .And,false=>pure false
  | .Or,true=>pure true
  | _,_=>allTrue .And rest c.env) lo H _
 refine W.bindB ((h c ok fz)) fun fz₁ b H₁ s₁ q=>?_
 cases b with
 | false=>exact W.pure fun _ _=>⟨rfl,q⟩
 | true=>exact q c ok fz₁
theorem T.or {x:Expr} {rest:List Expr} {pos:Pos} {Q:Bool→AH→Prop} (h:T g Γ d x lo H fun b H₁=>if b then Q true H₁ else T g Γ d (.BoolOp .Or rest pos) lo H₁ Q):T g Γ d (.BoolOp .Or (x::rest) pos) lo H Q:=by
 intro c ok fz
 show W g c fz (do
  match BoolOp.Or,← isTrue x c.env (eval x c.env) with
  | .And,false=>pure false
  | .Or,true=>pure true
  | _,_=>allTrue .Or rest c.env) lo H _
 refine W.bindB ((h c ok fz)) fun fz₁ b H₁ s₁ q=>?_
 cases b with
 | true=>exact W.pure fun _ _=>⟨rfl,q⟩
 | false=>exact q c ok fz₁
theorem T.chain2 {l r₁ r₂:Expr} {op₁ op₂:CmpOp} {pos:Pos} {Q:Bool→AH→Prop}
  (h:E g Γ d l lo H fun a H₁=>E g Γ d r₁ lo H₁ fun b H₂=>CmpM op₁ a b fun t=>if t then E g Γ d r₂ lo H₂ (fun e H₃=>CmpM op₂ b e fun t'=>Q t' H₃) else Q false H₂)
  (hm:autoParam (lastMarks [op₁,op₂] [r₁,r₂]=false) irfd):T g Γ d (.Compare l [op₁,op₂] [r₁,r₂] pos) lo H Q:=by
 intro c ok fz
 refine W.cast (t:=do testChain pos (← eval l c.env) [op₁,op₂] [eval r₁ c.env,eval r₂ c.env]) ?_ (by
  show (do testChain pos (← eval l c.env) [op₁,op₂] (markedEach [op₁,op₂] [r₁,r₂] (evalEach [r₁,r₂] c.env)))=_
  rw [markedEach_of_false _ _ _ hm]; rfl)
 refine W.bindV ((h c ok fz)) fun fz₁ x a H₁ s₁ ia ha=>?_
 refine W.cast (t:=do
  let rv ← holding [x] (eval r₁ c.env)
  standAt pos
  let q ← holding [x,rv] (compareOp op₁ x rv)
  release [x,rv] [q]
  if ← holding [q,rv] (truthy q) then testChain pos rv [op₂] [eval r₂ c.env] else pure false) ?_ rfl
 refine W.bindV (W.holding ((ha c ok fz₁))) fun fz₂ y b H₂ s₂ ib hb=>?_
 refine W.at_ (W.bindV (W.holding (cmp_W (Q:=fun v H'=>∃ t,v=.bool t∧H'=H₂∧(if t then E g Γ d r₂ lo H₂ (fun e H₃=>CmpM op₂ b e fun t'=>Q t' H₃) else Q false H₂)) ok (ia.mono (mem_mono s₂)) ib (CmpM.mono hb fun r q=>⟨_,rfl,rfl,q⟩))) fun fz₃ z v H₃ s₃ iv r_=>?_)
 refine ob_EAA r_ fun t hv hH q=>?_
 try clear r_
 subst hv; subst hH
 refine W.lift (t:=do if ← holding [z,y] (truthy z) then testChain pos y [op₂] [eval r₂ c.env] else pure false) ?_ fun _ _ _ x=>wpAny_bind (wpAny_release' x)
 refine W.bindB (W.holding (truthy_W (Q:=fun b H'=>b=t∧H'=H₃) ok iv ⟨_,.bool t,rfl,rfl⟩)) fun fz₄ bb H₄ s₄ r_=>?_
 obtain ⟨eb,eH⟩:=r_
 subst eb; subst eH
 cases bb with
 | false=>exact W.pure fun _ _=>⟨rfl,q⟩
 | true =>
  refine W.bindV (W.holding (q c ok fz₄)) fun fz₅ u w H₅ s₅ iw hw=>?_
  exact W.at_ (W.bindV (W.operate (cmp_W (Q:=fun v H'=>∃ b,v=.bool b∧Q b H') ok (ib.mono (mem_mono fun p hp=>s₅ p (s₄ p (s₃ p hp)))) iw (CmpM.mono hw fun r q=>⟨_,rfl,q⟩))) fun fz₃ z v H₃ s₃ iv q =>
   W.holding (truthy_W ok iv (q.elim fun b q=>by rw [q.1]; exact ⟨_,.bool b,q.2⟩)))
theorem E.ife {test body orelse:Expr} {pos:Pos} {Q:V→AH→Prop} (h:T g Γ d test lo H fun b H₁=>if b then E g Γ d body lo H₁ Q else E g Γ d orelse lo H₁ Q):E g Γ d (.IfExp test body orelse pos) lo H Q:=by
 intro c ok fz
 rw [eval_IfExp]
 refine W.bindB ((h c ok fz)) fun fz₁ b H₁ s₁ q=>?_
 cases b with
 | true=>exact q c ok fz₁
 | false=>exact q c ok fz₁
theorem E.not {x:Expr} {pos:Pos} {Q:V→AH→Prop} (h:E g Γ d x lo H fun v H₁=>TrueM v fun b=>Q (.bool !b) H₁):E g Γ d (.UnaryOp .Not x pos) lo H Q:=by
 intro c ok fz
 rw [eval_UnaryOp]
 refine W.bindV ((h c ok fz)) fun fz₁ x a H₁ s₁ ia ha=>?_
 refine W.at_ (W.holding ?_)
 refine W.lift (t:=truthy x >>= fun b=>pure (.bool !b)) (W.bindB (truthy_W ok ia ha) fun fz₂ b H₂ s₂ q=>W.pure fun _ _=>⟨rfl,_,.bool _,q⟩) ?_
 intro Q E s h
 unfold unaryOp
 exact wpAny_holding h
theorem E.neg {x:Expr} {pos:Pos} {Q:V→AH→Prop} (h:E g Γ d x lo H fun v H₁=>∃ i,v=.int i∧Q (.int (-i)) H₁):E g Γ d (.UnaryOp .USub x pos) lo H Q:=by
 intro c ok fz
 rw [eval_UnaryOp]
 refine W.bindV ((h c ok fz)) fun fz₁ x a H₁ s₁ ia ha=>?_
 refine W.at_ (W.holding (W.now fun mf m cl fz₁ led s hs I P _ k=>?_))
 obtain ⟨i,e,q⟩:=ha
 subst e
 obtain ⟨t,e⟩:=ia.intE
 subst e
 exact PySem.P.neg_int (k _ _ (I.toks _) ⟨rfl,_,.int _ _,q⟩)
end
section
variable {g:Gx} {Γ:Fx} {d:Nat} {lo:Loc} {H:AH} {c:Cx} {fz:Led}
theorem Es.nil {Q:List V→AH→Prop} (h:Q [] H):Es g Γ d [] lo H Q:=fun c ok fz pos=>W.pure (a:=[]) fun _ _=>⟨rfl,[],.nil,h⟩
theorem Es.cons {e:Expr} {rest:List Expr} {Q:List V→AH→Prop} (h:E g Γ d e lo H fun v H₁=>Es g Γ d rest lo H₁ fun vs H₂=>Q (v::vs) H₂)
  (he:autoParam (∀ env,starEach (e::rest) env=(false,eval e env)::starEach rest env) irfa):Es g Γ d (e::rest) lo H Q:=by
 intro c ok fz pos
 refine W.cast (t:=(do let v ← eval e c.env; return v::(← holding [v] (spliced (backTo pos (starEach rest c.env)))))) ?_ (by rw [he]; rfl)
 refine W.bindV ((h c ok fz)) fun fz₁ x a H₁ s₁ ia ha=>?_
 refine W.bindVs (W.holding ((ha c ok fz₁ pos))) fun fz₂ xs vs H₂ s₂ is q=>?_
 exact W.pure fun fz₃ s₃=>⟨rfl,_,.cons ((ia.mono (mem_mono s₂)).mono (mem_mono s₃)) (is.mono (mem_mono s₃)),q⟩
theorem newTuple_W {xs:List Value} {vs:List V} {Q:V→AH→Prop} (i:IsAll (Cx.mem g fz) xs vs) (hsz:xs.length≤sizeLine) (h:Q (.tup vs) H):W g c fz (newTuple xs) lo H (VP g lo Q) :=
 W.frozen fun mf m cl fz₁ led s hs I P _ k=>wpAny_newTuple (k (tupOf xs.toArray 0) rfl ⟨rfl,_,.tup (.inl (.head _)) (i.mono (mem_mono fun p hp=>.tail _ (hs p hp))),h⟩) hsz
theorem newList_W {xs:List Value} {vs:List V} {Q:V→AH→Prop} (i:IsAll (Cx.mem g fz) xs vs) (hsz:xs.length≤sizeLine) (h:Q (.lst vs) H):W g c fz (newList xs) lo H (VP g lo Q) :=
 W.frozen fun mf m cl fz₁ led s hs I P _ k=>wpAny_newList (k (listOf xs.toArray 0) rfl ⟨rfl,_,.lst (.inl (.head _)) (i.mono (mem_mono fun p hp=>.tail _ (hs p hp))),h⟩) hsz
theorem newListA_W {xs:List Value} {vs:List V} {Q:V→AH→Prop} (i:IsAll (Cx.mem g fz) xs vs) (hsz:xs.length≤sizeLine) (h:∀ a,Q (.ref a) ((a,.lst vs)::H)):W g c fz (newList xs) lo H (VP g lo Q) :=
 W.alive fun mf m cl fz₁ led s hs I P _ k=>wpAny_newList (k (listOf xs.toArray 0) (.lst vs) (.lst (i.mono (mem_mono hs))) rfl ⟨rfl,_,.ref _,h _⟩) hsz
theorem small_size {n:Nat} (h:n≤1000):n≤sizeLine:=by rw [sizeLine_eq]; exact ar 1 [_] (.im (.le .v0 (.n 1000)) (.le .v0 (.n 16777216))) rfl h
theorem E.tup {elts:List Expr} {k:Nat} {pos:Pos} {Q:V→AH→Prop} (h:Es g Γ d elts lo H fun vs H₁=>vs.length≤1000∧Q (.tup vs) H₁):E g Γ d (.Tuple elts k pos) lo H Q:=by
 intro c ok fz
 show W g c fz (do standAt pos; newTuple (← spliced (backTo pos (starEach elts c.env)))) lo H _
 refine W.at_ (W.bindVs ((h c ok fz pos)) fun fz₁ xs vs H₁ s₁ is r_=>?_)
 obtain ⟨hl,q⟩:=r_
 exact newTuple_W is (small_size (by rw [is.length]; exact hl)) q
theorem E.lst {elts:List Expr} {pos:Pos} {Q:V→AH→Prop} (h:Es g Γ d elts lo H fun vs H₁=>vs.length≤1000∧Q (.lst vs) H₁):E g Γ d (.List elts pos) lo H Q:=by
 intro c ok fz
 show W g c fz (do standAt pos; newList (← spliced (backTo pos (starEach elts c.env)))) lo H _
 refine W.at_ (W.bindVs ((h c ok fz pos)) fun fz₁ xs vs H₁ s₁ is r_=>?_)
 obtain ⟨hl,q⟩:=r_
 exact newList_W is (small_size (by rw [is.length]; exact hl)) q
theorem E.lstA {elts:List Expr} {pos:Pos} {Q:V→AH→Prop} (h:Es g Γ d elts lo H fun vs H₁=>vs.length≤1000∧∀ a,Q (.ref a) ((a,.lst vs)::H₁)):E g Γ d (.List elts pos) lo H Q:=by
 intro c ok fz
 show W g c fz (do standAt pos; newList (← spliced (backTo pos (starEach elts c.env)))) lo H _
 refine W.at_ (W.bindVs ((h c ok fz pos)) fun fz₁ xs vs H₁ s₁ is r_=>?_)
 obtain ⟨hl,q⟩:=r_
 exact newListA_W is (small_size (by rw [is.length]; exact hl)) q
theorem E.and2 {x y:Expr} {pos:Pos} {Q:V→AH→Prop} (h:E g Γ d x lo H fun v H₁=>TrueM v fun b=>if b then E g Γ d y lo H₁ Q else Q v H₁):E g Γ d (.BoolOp .And [x,y] pos) lo H Q:=by
 intro c ok fz
 refine W.cast (t:=do
  let v ← eval x c.env
  standAt pos
  let t ← holding [v] (truthy v)
  match BoolOp.And,t with
  | .And,false | .Or,true=>pure v
  | _,_=>eval y c.env) ?_ rfl
 refine W.bindV ((h c ok fz)) fun fz₁ x a H₁ s₁ ia ha=>?_
 refine W.at_ (W.bindB (W.holding (truthy_W ok ia (Q:=fun b H'=>H'=H₁∧(if b then E g Γ d y lo H₁ Q else Q a H₁)) (ha.elim fun b r=>⟨b,r.1,rfl,r.2⟩))) fun fz₂ b H₂ s₂ r_=>?_)
 rw [r_.1]
 cases b with
 | false=>exact W.pure fun _ s₃=>⟨rfl,_,(ia.mono (mem_mono s₂)).mono (mem_mono s₃),r_.2⟩
 | true=>exact r_.2 c ok fz₂
theorem E.or2 {x y:Expr} {pos:Pos} {Q:V→AH→Prop} (h:E g Γ d x lo H fun v H₁=>TrueM v fun b=>if b then Q v H₁ else E g Γ d y lo H₁ Q):E g Γ d (.BoolOp .Or [x,y] pos) lo H Q:=by
 intro c ok fz
 refine W.cast (t:=do
  let v ← eval x c.env
  standAt pos
  let t ← holding [v] (truthy v)
  match BoolOp.Or,t with
  | .And,false | .Or,true=>pure v
  | _,_=>eval y c.env) ?_ rfl
 refine W.bindV ((h c ok fz)) fun fz₁ x a H₁ s₁ ia ha=>?_
 refine W.at_ (W.bindB (W.holding (truthy_W ok ia (Q:=fun b H'=>H'=H₁∧(if b then Q a H₁ else E g Γ d y lo H₁ Q)) (ha.elim fun b r=>⟨b,r.1,rfl,r.2⟩))) fun fz₂ b H₂ s₂ r_=>?_)
 rw [r_.1]
 cases b with
 | true=>exact W.pure fun _ s₃=>⟨rfl,_,(ia.mono (mem_mono s₂)).mono (mem_mono s₃),r_.2⟩
 | false=>exact r_.2 c ok fz₂
set_option genInjectivity false in
inductive SubR:V→V→V→Prop
 | str {s:List Nat} {i:Int} {n:Nat} (b:-(2 ^ 63)≤i∧i < 2 ^ 63) (h:(seqIndex? i s.length).bind (s[·]?)=some n):SubR (.str s) (.int i) (.str [n])
 | tup {vs:List V} {i:Int} {j:Nat} {v:V} (b:-(2 ^ 63)≤i∧i < 2 ^ 63) (h:seqIndex? i vs.length=some j) (h':vs[j]?=some v):SubR (.tup vs) (.int i) v
 | lst {vs:List V} {i:Int} {j:Nat} {v:V} (b:-(2 ^ 63)≤i∧i < 2 ^ 63) (h:seqIndex? i vs.length=some j) (h':vs[j]?=some v):SubR (.lst vs) (.int i) v
noncomputable def SubM (a b:V) (k:V→Prop):Prop:=∃ r,SubR a b r∧k r
theorem IsAll.get {M:Mem} {xs:List Value} {vs:List V} (i:IsAll M xs vs) {j:Nat} {v:V} (e:vs[j]?=some v):∃ x,xs[j]?=some x∧Is M x v:=by
 induction vs generalizing xs j with
 | nil=>exact nomatch e
 | cons d ds ih =>
  refine ob_EEAA i.consE fun x r e' h t=>?_
  subst e'
  cases j with
  | zero=>exact ⟨x,rfl,Option.some.inj e ▸ h⟩
  | succ j=>exact ih t e
set_option tactic.hygienic true in
theorem sub_list {prog:Program} {w:World} {A:Around} {X:Value→Shared→Prop} {s:Shared} {P:Value→Shared→Prop} {a:Addr} {vs:Array Value} {i:Int} {t:Tok} {p:Nat} {x:Value} (hl:s.heap.IsList a vs) (b:-(2 ^ 63)≤i∧i < 2 ^ 63) (h3:seqIndex? i vs.size=some p) (hx:vs[p]?=some x) (q:P x s):wpAny (model prog w) A (getItem (.ref a) (.int i t)) P X s:=by
 unfold seqIndex? at h3
 by_cases hn:i < 0
 ·simp only [hn,if_true] at h3
  split at h3
  ·rename_i q'
   simp only [Bool.and_eq_true,decide_eq_true_eq] at q'
   have e:=Option.some.inj h3
   exact wpAny_getItem_list_neg (x:=x) hl hn (by exact AR.h139 q') b.1 (by rw [e]; exact hx) q
  ·cases h3
 ·simp only [hn,if_false] at h3
  split at h3
  ·have e:=Option.some.inj h3
   exact wpAny_getItem_list (x:=x) hl (by exact AR.h141 hn) b.2 (by rw [e]; exact hx) q
  ·cases h3
theorem sub_W (ok:c.Ok g Γ d) {value slice:Expr} {x y:Value} {a b:V} {Q:V→AH→Prop} (i:Is (Cx.mem g fz) x a) (j:Is (Cx.mem g fz) y b) (h:SubM a b fun v=>Q v H)
  (hs:∀ o i,subscripted slice false o i=operate [o,i] (getItem o i)):W g c fz (subscriptTail value slice x y) lo H (VP g lo Q) :=
 W.now fun mf m cl fz₁ led s hs' I P _ k=>by
  have th:∀ a o,Cx.mem g fz₁ a o→s.heap.get? a=some o:=fun a o=>I.hi.there ok.stays
  have i:=i.mono (mem_mono hs')
  obtain ⟨r,h,q⟩:=h
  induction h with
  | str b h =>
   obtain ⟨z,t,e,e2⟩:=i.strE; obtain ⟨t',e'⟩:=j.intE; subst e; subst e2; subst e'
   exact tail_any (typeIs_str _ _ _) PySem.F.slot_str_getitem.lookup (PySem.P.getItem_str (by
    rw [decide_eq_false (Int.not_lt.mpr b.1),decide_eq_false (Int.not_le.mpr b.2)]; rfl) (by
    rw [← h,str_len]; congr 1; funext q; exact (Array.getElem?_toList).symm) (k _ _ (I.toks _) ⟨rfl,_,.str _ _ rfl,q⟩)) (hs _ _)
  | tup b h h' =>
   obtain ⟨z,vs,n,e,hm,ha⟩:=i.tupE; obtain ⟨t',e'⟩:=j.intE; subst e; subst e'
   obtain ⟨x,hx,ix⟩:=ha.get h'
   have ht:IsTup s.heap _ _:=⟨_,th _ _ hm,rfl,_,rfl⟩
   exact tail_any ht.typeIs PySem.F.slot_tuple_getitem.lookup (getItem_tuple (x:=x) ht b.1 b.2 (by rw [List.size_toArray,ha.length]; exact h) (by rw [List.getElem?_toArray]; exact hx) (k _ _ I.z ⟨rfl,_,ix,q⟩)) (hs _ _)
  | lst b h h' =>
   obtain ⟨z,vs,n,e,hm,ha⟩:=i.lstE; obtain ⟨t',e'⟩:=j.intE; subst e; subst e'
   obtain ⟨x,hx,ix⟩:=ha.get h'
   have hl:s.heap.IsList _ _:=⟨_,th _ _ hm,rfl,_,rfl⟩
   exact tail_any hl.typeIs PySem.F.slot_list_getitem.lookup (sub_list hl b (by rw [List.size_toArray,ha.length]; exact h) (by rw [List.getElem?_toArray]; exact hx) (k _ _ I.z ⟨rfl,_,ix,q⟩)) (hs _ _)
theorem E.sub {value slice:Expr} {pos:Pos} {Q:V→AH→Prop} (h:E g Γ d value lo H fun a H₁=>E g Γ d slice lo H₁ fun b H₂=>SubM a b fun v=>Q v H₂)
  (hs:autoParam (∀ o i,subscripted slice false o i=operate [o,i] (getItem o i)) irfa):E g Γ d (.Subscript value slice pos) lo H Q:=by
 intro c ok fz
 refine W.cast (t:=do let o ← eval value c.env; let i ← holding [o] (eval slice c.env); standAt pos; subscriptTail value slice o i) ?_ rfl
 refine W.bindV ((h c ok fz)) fun fz₁ x a H₁ s₁ ia ha=>?_
 refine W.bindV (W.holding ((ha c ok fz₁))) fun fz₂ y b H₂ s₂ ib hb=>?_
 exact W.at_ (sub_W ok (ia.mono (mem_mono s₂)) ib hb hs)
inductive PartR:V→Option Int→Prop
 | int (i:Int):PartR (.int i) (some i)
 | none:PartR .none none
noncomputable def PartK (v:V) (k:Option Int→Prop):Prop:=∃ o,PartR v o∧k o
noncomputable def Part (g:Gx) (Γ:Fx) (d:Nat) (e:Option Expr) (lo:Loc) (H:AH) (k:Option Int→AH→Prop):Prop:=match e with
 | none=>k none H
 | some e=>E g Γ d e lo H fun v H'=>PartK v fun o=>k o H'
inductive PIs:Value→Option (Int × Tok)→Prop
 | none:PIs .none none
 | int (i:Int) (t:Tok):PIs (.int i t) (some (i,t))
theorem part_W (ok:c.Ok g Γ d) {e:Option Expr} {k:Option Int→AH→Prop} (h:Part g Γ d e lo H k):W g c fz (valueOrNone (evalOpt e c.env)) lo H (fun fz' x lo' H'=>lo'=lo∧∃ p,PIs x p∧k (p.map (·.1)) H'):=by
 cases e with
 | none=>exact W.pure (a:=Value.none) fun _ _=>⟨rfl,none,.none,h⟩
 | some e =>
  refine (h c ok fz).mono fun fz₁ x lo₁ H₁ s₁ q=>⟨q.1,?_⟩
  refine ob_AEAEA q ?_
  clear q
  intro _ a ia o r q
  cases r with
  | none=>exact ⟨none,ia.noneE ▸ .none,q⟩
  | int i=>obtain ⟨t,e⟩:=ia.intE; exact ⟨some (i,t),e ▸ .int i t,q⟩
set_option genInjectivity false in
inductive SliR (l u:Option Int):V→V→Prop
 | str {s:List Nat} (h:s.length≤sizeLine):SliR l u (.str s) (.str (slc s l u))
 | lst {s:List V} (h:s.length≤sizeLine):SliR l u (.lst s) (.lst (slc s l u))
noncomputable def SliM (a:V) (l u:Option Int) (k:V→Prop):Prop:=∃ r,SliR l u a r∧k r
theorem IsAll.take {M:Mem} {xs:List Value} {vs:List V} (i:IsAll M xs vs) (n:Nat):IsAll M (xs.take n) (vs.take n):=by
 induction n generalizing xs vs with
 | zero=>exact .nil
 | succ n ih=>cases i with
  | nil=>exact .nil
  | cons h r=>exact .cons h (ih r)
theorem IsAll.drop {M:Mem} {xs:List Value} {vs:List V} (i:IsAll M xs vs) (n:Nat):IsAll M (xs.drop n) (vs.drop n):=by
 induction n generalizing xs vs with
 | zero=>exact i
 | succ n ih=>cases i with
  | nil=>exact .nil
  | cons h r=>exact ih r
theorem IsAll.slc {M:Mem} {xs:List Value} {vs:List V} (h:IsAll M xs vs) (l u:Option Int):IsAll M (slc xs l u) (slc vs l u):=by
 unfold Internal.slc; rw [h.length]; exact (h.drop _).take _
theorem PIs.part {x:Value} {p:Option (Int × Tok)} (h:PIs x p):x=partValue p∧IsPart x (p.map (·.1)):=by
 cases h with
 | none=>exact ⟨rfl,.none⟩
 | int i t=>exact ⟨rfl,.int i t⟩
theorem slice_W (ok:c.Ok g Γ d) {value:Expr} {lower upper:Option Expr} {pp:Pos} {x vl vu:Value} {pl pu:Option (Int × Tok)} {sl:Addr} {a:V} {Q:V→AH→Prop} (i:Is (Cx.mem g fz) x a)
  (hsl:(sl,({ cls:=.type "slice",data:=.fields #[vl,vu,.none] }:Obj))∈fz) (hl:PIs vl pl) (hu:PIs vu pu) (h:SliM a (pl.map (·.1)) (pu.map (·.1)) fun v=>Q v H) :
  W g c fz (subscriptTail value (.Slice lower upper none pp) x (.ref sl)) lo H (VP g lo Q):=by
 have hs:∀ o i,subscripted (.Slice lower upper none pp) false o i=operate [i,o] (getItem o i):=fun _ _=>rfl
 obtain ⟨r,h,q⟩:=h
 induction h with
 | str h1 =>
  refine ob_EEA i.strE fun x t e e2=>?_
  subst e; subst e2
  refine W.now fun mf m cl fz₁ led s hs' I P _ k=>?_
  have ho:=I.hi.there ok.stays (.inl (hs' _ hsl))
  have q:∀ t' tk,P (.str (Txt.slice x (pl.map (·.1)) (pu.map (·.1))) t') { s with toks:=tk }:=fun t' tk=>k _ _ (I.toks tk) ⟨rfl,_,.str _ _ (txt_slice _ _ _),q⟩
  exact tail_any (typeIs_str _ _ _) PySem.F.slot_str_getitem.lookup (wpAny_getItem_str_slice (l:=pl) (u:=pu) (st:=none) ⟨_,ho,rfl,by rw [← hl.part.1,← hu.part.1]; rfl⟩ rfl (post_val_or_str ⟨Nat.le_trans (Txt.slice_le x _ _) (by rw [str_len]; exact h1),q⟩)) (hs _ _)
 | lst h1 =>
  refine ob_EEEAA i.lstE fun z vs n e hm ha=>?_
  subst e
  refine W.frozen fun mf m cl fz₁ led s hs' I P _ k=>?_
  have ho:=I.hi.there ok.stays (.inl (hs' _ hsl))
  have hL:s.heap.IsList _ _:=⟨_,I.hi.there ok.stays (mem_mono hs' _ _ hm),rfl,_,rfl⟩
  refine tail_any hL.typeIs PySem.F.slot_list_getitem.lookup (wpAny_getItem_list_slice (lo:=pl.map (·.1)) (hi:=pu.map (·.1)) (st:=none) hL ⟨_,ho,rfl,rfl⟩ hl.part.2 hu.part.2 .none nofun ?_ (by rw [List.size_toArray,ha.length]; exact h1)) (hs _ _)
  have e:(slicePick vs.toArray (pl.map (·.1)) (pu.map (·.1)) none)=(slc vs (pl.map (·.1)) (pu.map (·.1))).toArray:=by
   rw [slicePick_plain]; unfold slc; simp
  rw [e]
  exact k (listOf _ 0) rfl ⟨rfl,_,.lst (.inl (.head _)) ((ha.slc _ _).mono (mem_mono fun p hp=>.tail _ (hs' p hp))),q⟩
theorem E.slice {value:Expr} {lower upper:Option Expr} {pp pos:Pos} {Q:V→AH→Prop}
  (h:E g Γ d value lo H fun a H₁=>Part g Γ d lower lo H₁ fun l H₂=>Part g Γ d upper lo H₂ fun u H₃=>SliM a l u fun v=>Q v H₃):E g Γ d (.Subscript value (.Slice lower upper Option.none pp) pos) lo H Q:=by
 intro c ok fz
 refine W.cast (t:=do let o ← eval value c.env; let i ← holding [o] (eval (.Slice lower upper Option.none pp) c.env); standAt pos; subscriptTail value (.Slice lower upper Option.none pp) o i) ?_ rfl
 refine W.bindV ((h c ok fz)) fun fz₁ x a H₁ s₁ ia ha=>?_
 rw [arm_eval_Slice]
 refine W.bind (W.holding (W.bind ((part_W ok ha).mono fun fz₂ vl lo₂ H₂ s₂ r_=>?_)))
 refine ob_AEA r_ fun e₂ pl hl hb=>?_
 try clear r_
 subst e₂
 refine W.bind (W.holding ((part_W ok hb).mono fun fz₃ vu lo₃ H₃ s₃ r_=>?_))
 refine ob_AEA r_ fun e₃ pu hu hc=>?_
 try clear r_
 subst e₃
 refine W.bind (W.holding (W.pure (a:=Value.none) fun fz₄ s₄=>?_))
 refine W.frozen fun mf m cl fz₅ led s hs I P _ k=>wpAny_newObj_type (k { cls:=.type "slice",data:=.fields #[vl,vu,.none] } rfl ?_)
 exact W.at_ (slice_W ok (ia.mono (mem_mono fun p hp=>.tail _ (hs p (s₄ p (s₃ p (s₂ p hp)))))) (.head _) hl hu hc)
end
theorem HI.grow {g:Gx} {c:Cx} {lo:Loc} {H:AH} {mf m:Str→Option Value} {cl fz led:Led} {h h':Heap} (I:HI g c lo H mf m cl fz led h) (k:∀ b o,h.get? b=some o→h'.get? b=some o):HI g c lo H mf m cl fz led h' :=
 I.of (I.fr.keeps k) (I.news.grown k)
inductive Put (x:Str) (v:V):Loc→Loc→Prop
 | here {u:V} {r:Loc}:Put x v ((x,u)::r) ((x,v)::r)
 | there {p:Str × V} {r r':Loc}:Put x v r r'→Put x v (p::r) (p::r')
theorem Put.keys {x:Str} {v:V} {lo lo':Loc} (h:Put x v lo lo'):lo'.map (·.1)=lo.map (·.1):=by
 induction h with
 | here=>rfl
 | there _ ih=>simp [ih]
theorem Put.mem {x:Str} {v:V} {lo lo':Loc} (h:Put x v lo lo'):(x,v)∈lo'∧x∈lo.map (·.1):=by
 induction h with
 | here=>exact ⟨.head _,by simp⟩
 | there _ ih=>exact ⟨.tail _ ih.1,by simp [ih.2]⟩
theorem Put.other {x:Str} {v:V} {lo lo':Loc} (h:Put x v lo lo') (nd:(lo.map (·.1)).Nodup):∀ p∈lo',p=(x,v)∨(p∈lo∧p.1≠x):=by
 induction h with
 | @here u r =>
  intro p hp
  rcases List.mem_cons.mp hp with rfl | hp
  ·exact .inl rfl
  ·refine .inr ⟨.tail _ hp,fun e=>?_⟩
   have:=(List.nodup_cons.mp nd).1
   exact this (List.mem_map.mpr ⟨p,hp,e⟩)
 | @there q r r' hr ih =>
  intro p hp
  have nd':=List.nodup_cons.mp nd
  rcases List.mem_cons.mp hp with rfl | hp
  ·refine .inr ⟨.head _,fun e=>?_⟩
   exact nd'.1 (by show p.1∈_; rw [e]; exact hr.mem.2)
  ·exact (ih nd'.2 p hp).imp id fun ⟨a,b⟩=>⟨.tail _ a,b⟩
theorem LocOk.of_keys {sc:Scope} {lo lo':Loc} (h:LocOk sc lo) (e:lo'.map (·.1)=lo.map (·.1)):LocOk sc lo':=by
 refine ⟨by rw [e]; exact h.1,fun p hp=>?_⟩
 have:p.1∈lo.map (·.1):=by rw [← e]; exact List.mem_map_of_mem hp
 obtain ⟨q,hq,e'⟩:=List.mem_map.mp this
 rw [← e']; exact h.2 q hq
section
variable {g:Gx} {Γ:Fx} {d:Nat} {lo:Loc} {H:AH} {c:Cx} {fz:Led}
theorem store_W (ok:c.Ok g Γ d) {x:Str} {cv:Value} {v:V} {lo':Loc} {Q:Led→Unit→Loc→AH→Prop} (hp:Put x v lo lo') (i:Is (Cx.mem g fz) cv v) (h:∀ fz',(∀ p∈fz,p∈fz')→Q fz' () lo' H):W g c fz (storeName c.env x cv) lo H Q:=by
 intro mf m cl fz₁ led s hs I
 have hk:c.env.kindOf x=some .local:=by
  obtain ⟨q,hq,e⟩:=List.mem_map.mp hp.mem.2
  rw [← e]; exact (I.hi.lok.2 q hq).1
 have loc':LocR (Cx.mem g fz₁) (fun y=>if y=x then some cv else m y) lo':=by
  intro p hpp
  rcases hp.other I.hi.lok.1 p hpp with rfl | ⟨a,b⟩
  ·exact .inr ⟨cv,if_pos rfl,i.mono (mem_mono hs)⟩
  ·refine (I.hi.loc p a).imp id fun ⟨w,e,iw⟩=>⟨w,?_,iw⟩
   simp only [b,if_false]; exact e
 refine wpAny_storeName_local hk I.hi.ns (fun h' hn hb=>?_) (by rw [ok.kind]; rfl)
 have hcl:=I.hi.clr
 have N:=I.hi.news
 induction hcl with
 | own e =>
  rw [e] at hn hb
  exact .mk lo' H _ _ [] fz₁ led (I.to (s.toks+1) (Nat.le_succ _) ⟨I.hi.fr.set hn hb,.own e,N.set hb,I.hi.nd,I.hi.lok.of_keys hp.keys,loc',I.hi.hr⟩) (fun _ x=>x) (h _ hs)
 | apart kp no =>
  obtain ⟨n1,n2,n3⟩:=N _ (.head _)
  refine ob_EEEAAA hn fun o' es ep ho' hd hk' hf=>?_
  try clear hn
  have nd:=I.hi.nd
  have nd':=(List.nodup_cons.mp (show (c.env.locals::(led++(c.pins++fz₁)).map (·.1)).Nodup from nd)).1
  refine .mk lo' H mf _ [(c.env.locals,o')] fz₁ led (I.to (s.toks+1) (Nat.le_succ _) ⟨I.hi.fr.change hb n2 n3,.apart kp ⟨es,ep,hd,hk',hf⟩,?_,nd,I.hi.lok.of_keys hp.keys,loc',I.hi.hr⟩) (fun _ x=>x) (h _ hs)
  refine news_set (pre:=[]) N (fun _ h=>nomatch h) (fun p hp e=>?_) hb ho'
  exact nd' (by rw [← e]; exact List.mem_map_of_mem (f:=(·.1)) hp)
theorem bind_W (ok:c.Ok g Γ d) {x:Str} {cv:Value} {v:V} {lo':Loc} {Q:Led→Unit→Loc→AH→Prop} (hp:Put x v lo lo') (i:Is (Cx.mem g fz) cv v) (h:∀ fz',(∀ p∈fz,p∈fz')→Q fz' () lo' H):W g c fz (bindName c.env x cv) lo H Q :=
 (store_W ok hp i h).lift fun _ _ _ x=>wpAny_bindName x
noncomputable def PutK (x:Str) (v:V) (lo:Loc) (k:Loc→Prop):Prop:=∃ lo',Put x v lo lo'∧k lo'
theorem Ss.nil {Q:R→Loc→AH→Prop} (h:Q .next lo H):Ss g Γ d [] lo H Q:=fun c ok fz=>W.pure (a:=Flow.next) fun _ _=>⟨_,.next,h⟩
theorem Ss.cons {st:Stmt} {rest:List Stmt} {Q:R→Loc→AH→Prop} (h:S g Γ d st lo H fun r lo' H'=>match r with | .next=>Ss g Γ d rest lo' H' Q | r=>Q r lo' H'):Ss g Γ d (st::rest) lo H Q:=by
 intro c ok fz
 rw [execs_cons]
 refine W.bind ((h c ok fz).mono fun fz₁ f lo₁ H₁ s₁ r_=>?_)
 obtain ⟨r,hr,q⟩:=r_
 induction hr with
 | next=>exact q c ok fz₁
 | brk=>exact W.pure fun _ _=>⟨_,.brk,q⟩
 | cont=>exact W.pure fun _ _=>⟨_,.cont,q⟩
 | ret i=>exact W.pure fun _ s=>⟨_,.ret (i.mono (mem_mono s)),q⟩
theorem S.assign {x:Str} {pos' pos:Pos} {value:Expr} {Q:R→Loc→AH→Prop} (h:E g Γ d value lo H fun v H₁=>PutK x v lo fun lo'=>Q .next lo' H₁)
  (hs:autoParam (∀ env,swapsWith value (some (.Name x pos')) pos.line env=pure false) irfa):S g Γ d (.Assign [.Name x pos'] value pos) lo H Q:=by
 intro c ok fz
 rw [exec_Assign_Name _ _ _ _ _ (hs _)]
 refine W.at_ (W.bindV ((h c ok fz)) fun fz₁ x v H₁ s₁ i r_=>?_)
 obtain ⟨lo',hp,q⟩:=r_
 exact W.at_ (W.bind (bind_W ok hp i fun fz₂ s₂=>W.pure fun _ _=>⟨_,.next,q⟩))
theorem iadd_W {x y:Value} {a b r:V} {Q:V→AH→Prop} (i:Is (Cx.mem g fz) x a) (j:Is (Cx.mem g fz) y b) (h:BinR .Add a b r) (q:Q r H):W g c fz (inplaceOp .Add x y) lo H (VP g lo Q) :=
 h.addC (C:=fun a b r=>Is (Cx.mem g fz) x a→Is (Cx.mem g fz) y b→Q r H→W g c fz (inplaceOp .Add x y) lo H (VP g lo Q))
  (fun _ _ i j q=>i.ints j (C:=fun x y=>W g c fz (inplaceOp .Add x y) lo H (VP g lo Q)) fun _ _=>W.now fun mf m cl fz₁ led s hs I P _ k=>PySem.P.iadd_int (k _ _ (I.toks _) ⟨rfl,_,.int _ _,q⟩))
  (fun _ _ h i j=>i.strs j (C:=fun x y a b=>a.length+b.length≤sizeLine→Q (.str (a++b)) H→W g c fz (inplaceOp .Add x y) lo H (VP g lo Q)) (fun _ _ _ _ h q =>
   W.now fun mf m cl fz₁ led s hs I P _ k=>PyProof.Rows.iadd_str (fun t' tk=>k _ _ (I.toks _) ⟨rfl,_,.str _ _ Array.toList_append,q⟩) h) h) i j q
theorem S.aug {x:Str} {pos' pos:Pos} {op:Operator} {value:Expr} {v:V} {Q:R→Loc→AH→Prop} (hm:(x,v)∈lo) (hv:v≠.unset)
  (h:E g Γ d value lo H fun w H₁=>op=.Add∧BinM .Add v w fun r=>PutK x r lo fun lo'=>Q .next lo' H₁):S g Γ d (.AugAssign (.Name x pos') op value pos) lo H Q:=by
 intro c ok fz
 rw [exec_AugAssign_Name]
 refine W.at_ (W.bindV ((loadName_W ok hm hv (Q:=fun y H'=>y=v∧H'=H) ⟨rfl,rfl⟩)) fun fz₁ old v' H₁ s₁ i r_=>?_)
 obtain ⟨ev,eH⟩:=r_
 subst ev; subst eH
 refine W.bindV (W.holding (h c ok fz₁)) fun fz₂ y w H₂ s₂ j r_=>?_
 refine ob_AEAEA r_ fun eo r hr lo' hp q=>?_
 try clear r_
 subst eo
 exact W.at_ (W.bindV (W.operate (iadd_W (Q:=fun r' H'=>r'=r∧H'=H₂) (i.mono (mem_mono s₂)) j hr ⟨rfl,rfl⟩)) fun fz₃ z r' H₃ s₃ ir e=>by
  rw [e.1] at ir; rw [e.2]
  exact W.at_ (W.bind (bind_W ok hp ir fun fz₂ s₂=>W.pure fun _ _=>⟨_,.next,q⟩)))
theorem S.if_ {test:Expr} {body orelse:List Stmt} {pos:Pos} {Q:R→Loc→AH→Prop} (h:T g Γ d test lo H fun b H₁=>if b then Ss g Γ d body lo H₁ Q else Ss g Γ d orelse lo H₁ Q):S g Γ d (.If test body orelse pos) lo H Q:=by
 intro c ok fz
 rw [exec_If]
 refine W.at_ (W.bindB ((h c ok fz)) fun fz₁ b H₁ s₁ q=>?_)
 cases b with
 | true=>exact q c ok fz₁
 | false=>exact q c ok fz₁
theorem S.ret {e:Expr} {pos:Pos} {Q:R→Loc→AH→Prop} (h:E g Γ d e lo H fun v H₁=>Q (.ret v) lo H₁):S g Γ d (.Return (some e) pos) lo H Q:=by
 intro c ok fz
 rw [exec_Return_some]
 refine W.at_ (W.bindV ((h c ok fz)) fun fz₁ x v H₁ s₁ i q=>?_)
 exact W.pure fun _ s=>⟨_,.ret (i.mono (mem_mono s)),q⟩
theorem S.brk {pos:Pos} {Q:R→Loc→AH→Prop} (h:Q .brk lo H):S g Γ d (.Break pos) lo H Q:=fun c ok fz=>W.now fun mf m cl fz₁ led s hs I P _ k=>wpAny_Break (k _ _ I.z ⟨_,.brk,h⟩)
theorem S.cont {pos:Pos} {Q:R→Loc→AH→Prop} (h:Q .cont lo H):S g Γ d (.Continue pos) lo H Q:=fun c ok fz=>W.now fun mf m cl fz₁ led s hs I P _ k=>wpAny_Continue (k _ _ I.z ⟨_,.cont,h⟩)
theorem S.assert {test:Expr} {msg:Option Expr} {pos:Pos} {Q:R→Loc→AH→Prop} (h:T g Γ d test lo H fun b H₁=>b=true∧Q .next lo H₁):S g Γ d (.Assert test msg pos) lo H Q:=by
 intro c ok fz mf m cl fz₁ led s hs I
 exact wpAny_Assert_holds ((h c ok fz).use hs I fun I' hs' r_=>⟨r_.2.1,.mk _ _ _ _ _ _ _ I' hs' ⟨_,.next,r_.1 ▸ r_.2.2⟩⟩)
theorem S.expr {e:Expr} {pos:Pos} {Q:R→Loc→AH→Prop} (h:E g Γ d e lo H fun v H₁=>Q .next lo H₁)
  (hs:autoParam (∀ env,swapsWith e none pos.line env=pure false) irfa):S g Γ d (.Expr e pos) lo H Q:=by
 intro c ok fz
 have hi:interactive c.env=false:=by unfold interactive; rw [ok.kind]; rfl
 rw [exec_Expr _ _ _ hi (hs _)]
 refine W.at_ (W.bindV ((h c ok fz)) fun fz₁ x v H₁ s₁ i q=>?_)
 exact W.now fun mf m cl fz₁ led s hs I P _ k=>wpAny_dropValue (k _ _ I.z ⟨_,.next,q⟩)
theorem S.try_ {body orelse:List Stmt} {h₀:ExceptHandler} {hs:List ExceptHandler} {pos:Pos} {Q:R→Loc→AH→Prop}
  (h:Ss g Γ d body lo H fun r lo' H'=>match r with | .next=>Ss g Γ d orelse lo' H' Q | r=>Q r lo' H'):S g Γ d (.Try body (h₀::hs) orelse [] pos) lo H Q:=by
 intro c ok fz mf m cl fz₁ led s hs' I
 refine wpAny_Try_except ((h c ok fz).use hs' I fun I' hs'' r_=>?_)
 obtain ⟨r,hr,q⟩:=r_
 induction hr with
 | next=>exact (q c ok _).rest (fun _ x=>x) I' hs''
 | brk=>exact .mk _ _ _ _ _ _ _ I' hs'' ⟨_,.brk,q⟩
 | cont=>exact .mk _ _ _ _ _ _ _ I' hs'' ⟨_,.cont,q⟩
 | ret i=>exact .mk _ _ _ _ _ _ _ I' hs'' ⟨_,.ret i,q⟩
noncomputable abbrev KWh (J:Nat→Loc→AH→Prop) (n:Nat) (Q:R→Loc→AH→Prop):R→Loc→AH→Prop:=fun r lo' H'=>match r with
 | .next | .cont=>∃ m,m < n∧J m lo' H'
 | .brk=>Q .next lo' H'
 | .ret v=>Q (.ret v) lo' H'
set_option genInjectivity false in
inductive WI (g:Gx) (c:Cx) (fz₁:Led) (J:Nat→Loc→AH→Prop) (n:Nat) (s:Shared):Prop
 | mk {lo:Loc} {H:AH} {mf m:Str→Option Value} {cl fz' led:Led} (j:J n lo H) (I:Inv g c lo H mf m cl fz' led s) (hs:∀ p∈fz₁,p∈fz')
theorem S.while_ {test:Expr} {body orelse:List Stmt} {pos:Pos} {Q:R→Loc→AH→Prop} (J:Nat→Loc→AH→Prop)
  (turn:∀ n lo H,J n lo H→T g Γ d test lo H fun b H₁=>if b then Ss g Γ d body lo H₁ (KWh J n Q) else Ss g Γ d orelse lo H₁ Q)
  (n:Nat) (h:J n lo H):S g Γ d (.While test body orelse pos) lo H Q:=by
 intro c ok fz mf m cl fz₁ led s hs I
 refine wpAny_While (codeAny_whileLoop (WI g c fz₁ J) ?_ n (.mk h I fun _ x=>x))
 intro n s w
 cases w with | @mk lo H mf m cl fz' led hJ I hz =>
 refine (turn n lo H hJ c ok fz').use (fun _ x=>x) I fun {b s₂ lo₂ H₂ mf₂ m₂ cl₂ fz₂ led₂} I₂ hs₂ r_=>?_
 obtain ⟨e₂,q⟩:=r_
 subst e₂
 have hz₂:∀ p∈fz₁,p∈fz₂:=fun p hp=>hs₂ p (hz p hp)
 cases b with
 | true =>
  refine (q c ok fz₂).use (fun _ x=>x) I₂ fun I₃ hs₃ r_=>?_
  obtain ⟨r,hr,q⟩:=r_
  induction hr with
  | next=>obtain ⟨m,hm,q⟩:=q; exact ⟨m,hm,.mk q I₃ fun p hp=>hs₃ p (hz₂ p hp)⟩
  | cont=>obtain ⟨m,hm,q⟩:=q; exact ⟨m,hm,.mk q I₃ fun p hp=>hs₃ p (hz₂ p hp)⟩
  | brk=>exact .mk _ _ _ _ _ _ _ I₃ (fun p hp=>hs₃ p (hz₂ p hp)) ⟨_,.next,q⟩
  | ret i=>exact .mk _ _ _ _ _ _ _ I₃ (fun p hp=>hs₃ p (hz₂ p hp)) ⟨_,.ret i,q⟩
 | false=>exact (q c ok fz₂).use (fun _ x=>x) I₂ fun I₃ hs₃ q=>.mk _ _ _ _ _ _ _ I₃ (fun p hp=>hs₃ p (hz₂ p hp)) q
set_option genInjectivity false in
inductive PutL:List Str→List V→Loc→Loc→Prop
 | nil {lo:Loc}:PutL [] [] lo lo
 | cons {x:Str} {v:V} {xs:List Str} {vs:List V} {lo lo' lo'':Loc} (h:Put x v lo lo') (r:PutL xs vs lo' lo''):PutL (x::xs) (v::vs) lo lo''
noncomputable def PutAll (xs:List Str) (vs:List V) (lo:Loc) (k:Loc→Prop):Prop:=∃ lo',PutL xs vs lo lo'∧k lo'
inductive NmEs:List Expr→List Str→Prop
 | nil:NmEs [] []
 | cons {x:Str} {p:Pos} {es:List Expr} {xs:List Str} (h:NmEs es xs):NmEs (.Name x p::es) (x::xs)
theorem inOrder_W (ok:c.Ok g Γ d) {elts:List Expr} {xs:List Str} {cvs:List Value} {vs:List V} {lo lo':Loc} {fz:Led} {Q:Led→Unit→Loc→AH→Prop} (e:NmEs elts xs) (i:IsAll (Cx.mem g fz) cvs vs)
  (h:PutL xs vs lo lo') (q:∀ fz',(∀ p∈fz,p∈fz')→Q fz' () lo' H):W g c fz (assignInOrder ((assignEach elts c.env).map (·.2)) cvs) lo H Q:=by
 induction h generalizing elts cvs fz with
 | nil=>cases e; rw [i.nilE]; exact W.pure q
 | cons hp _ ih =>
  refine ob_EEAA i.consE fun v r ev iv ir=>?_
  subst ev
  cases e with | @cons _ pos ts _ e =>
  refine W.cast (t:=do holding _ (do standAt pos; bindName c.env _ _); assignInOrder ((assignEach ts c.env).map (·.2)) _) ?_ rfl
  exact W.bind (W.holding (W.at_ (bind_W ok hp iv fun fz' s=>ih e (ir.mono (mem_mono s)) fun fz'' s'=>q fz'' fun p hp=>s' p (s p hp))))
theorem PutL.len {xs:List Str} {vs:List V} {lo lo':Loc} (h:PutL xs vs lo lo'):xs.length=vs.length:=by
 induction h with
 | nil=>rfl
 | cons _ _ ih=>rw [List.length_cons,List.length_cons,ih]
theorem NmEs.len {elts:List Expr} {xs:List Str} (e:NmEs elts xs) (env:Env):(assignEach elts env).length=xs.length∧(assignEach elts env).findIdx? (·.1)=none:=by
 induction e with
 | nil=>exact ⟨rfl,rfl⟩
 | @cons x p es xs _ ih =>
  refine ⟨congrArg (·+1) ih.1,?_⟩
  show ((false,assign (.Name _ p) env)::assignEach es env).findIdx? (·.1)=none
  rw [List.findIdx?_cons,ih.2]; rfl
noncomputable def UnpK (v:V) (xs:List Str) (lo:Loc) (k:Loc→Prop):Prop:=∃ vs,v=.tup vs∧PutAll xs vs lo k
theorem S.unpack {elts:List Expr} {xs:List Str} {x1:Nat} {pos' pos:Pos} {value:Expr} {Q:R→Loc→AH→Prop} (hn:NmEs elts xs)
  (h:E g Γ d value lo H fun v H₁=>UnpK v xs lo fun lo'=>Q .next lo' H₁)
  (hs:autoParam (∀ env,swapsWithSole [Expr.Tuple elts x1 pos'] value pos.line env=pure false) irfa) (hw:autoParam (∀ env,swappedStores [Expr.Tuple elts x1 pos'] value env=pure none) irfa):S g Γ d (.Assign [Expr.Tuple elts x1 pos'] value pos) lo H Q:=by
 intro c ok fz mf m cl fz₁ led s hs' I
 refine wpAny_Assign_stores ((h c ok fz).useV hs' I fun {x s' H' mf' m' cl' fz' led' a} I' hs'' i r_=>?_) (hs _) (hw _)
 refine ob_EAEA r_ fun vs e lo' hp q=>?_
 try clear r_
 subst e
 refine ob_EEEAA i.tupE fun a vs n e hm ha=>?_
 subst e
 show wpAny _ _ (PySem.assign (Expr.Tuple elts x1 pos') c.env _) _ _ _
 rw [arm_assign_Tuple]
 have L:=hn.len c.env
 refine wpAny_bind (wpAny_standAt (wpAny_unpack_tuple (items:=vs.toArray) ok.handled ⟨_,I'.hi.there ok.stays hm,rfl,_,rfl⟩ (by rw [L.1,hp.len,List.size_toArray,ha.length]) L.2 fun h' hx=>?_))
 have I₂:Inv g c lo H' mf' m' cl' fz' led' { s' with heap:=h' }:=I'.to s'.toks (Nat.le_refl _) (I'.hi.grow fun b o e=>hx b o (Nat.ne_of_lt (Heap.lt_size e)) e)
 exact (inOrder_W (Q:=fun _ _ lo'' H''=>Q .next lo'' H'') ok hn ha hp fun _ _=>q).use (fun _ x=>x) I₂ fun I₃ hs₃ q=>.mk _ _ _ _ _ _ _ I₃ (fun p hp=>hs₃ p (hs'' p hp)) ⟨_,.next,q⟩
theorem S.two {x y:Str} {px py pos:Pos} {value:Expr} {Q:R→Loc→AH→Prop} (h:E g Γ d value lo H fun v H₁=>PutK x v lo fun lo'=>PutK y v lo' fun lo''=>Q .next lo'' H₁)
  (hw:autoParam (∀ env,swappedStores [Expr.Name x px,Expr.Name y py] value env=pure none) irfa):S g Γ d (.Assign [.Name x px,.Name y py] value pos) lo H Q:=by
 intro c ok fz mf m cl fz₁ led s hs' I
 refine wpAny_Assign_two ((h c ok fz).useV hs' I fun {cv s' H' mf' m' cl' fz' led' v} I' hs'' i r_=>?_) rfl (hw _)
 refine ob_EAEA r_ fun lo₁ p1 lo₂ p2 q=>?_
 try clear r_
 refine wpAny_bind (wpAny_standAt ((bind_W (Q:=fun fz'' _ lo'' H''=>lo''=lo₁∧H''=H'∧∀ p∈fz',p∈fz'') ok p1 i (fun _ s=>⟨rfl,rfl,s⟩)).use (fun _ x=>x) I' fun I₃ hs₃ r_=>?_))
 obtain ⟨e1,e2,e3⟩:=r_
 subst e1; subst e2
 exact wpAny_bind (wpAny_standAt ((bind_W (Q:=fun _ _ lo' H'=>Q .next lo' H') ok p2 (i.mono (mem_mono e3)) fun _ _=>q).use (fun _ x=>x) I₃ fun I₄ hs₄ q=>.mk _ _ _ _ _ _ _ I₄ (fun p hp=>hs₄ p (hs₃ p (hs'' p hp))) ⟨_,.next,q⟩))
end
inductive MUpd (a:Addr) (x x':MO):AH→AH→Prop
 | here {r:AH}:MUpd a x x' ((a,x)::r) ((a,x')::r)
 | there {p:Addr × MO} {r r':AH}:MUpd a x x' r r'→MUpd a x x' (p::r) (p::r')
noncomputable def HRI (M:Mem) (led:Led) (H:AH):Prop:=List.casesOn (motive:=fun _=>Prop) H (led=[]) (fun p H=>∃ o r,led=(p.1,o)::r∧OIs M o p.2∧HR M r H)
theorem HR.inv {M:Mem} {led:Led} {H:AH} (h:HR M led H):HRI M led H:=HR.casesOn (motive:=fun led H _=>HRI M led H) h rfl (fun a b=>⟨_,_,rfl,a,b⟩)
theorem HR.consE {M:Mem} {led:Led} {p:Addr × MO} {H:AH} (h:HR M led (p::H)):∃ o r,led=(p.1,o)::r∧OIs M o p.2∧HR M r H:=h.inv
theorem HR.split {M:Mem} {a:Addr} {x x':MO} {led:Led} {H H':AH} (h:HR M led H) (u:MUpd a x x' H H') :
  ∃ pre o post,led=pre++(a,o)::post∧OIs M o x∧∀ o',OIs M o' x'→HR M (pre++(a,o')::post) H':=by
 induction u generalizing led with
 | here=>obtain ⟨o,r,e,h,t⟩:=h.consE; exact ⟨[],o,r,e,h,fun o' h'=>.cons h' t⟩
 | there _ ih =>
  refine ob_EEAA h.consE fun o r e h t=>?_
  refine ob_EEEAA (ih t) fun pre o' post e' h1 h2=>?_
  exact ⟨_::pre,o',post,by rw [e,e']; rfl,h1,fun o' h'=>.cons h (h2 o' h')⟩
theorem HR.at_ {M:Mem} {a:Addr} {x:MO} {led:Led} {H:AH} (h:HR M led H) (m:(a,x)∈H):∃ o,(a,o)∈led∧OIs M o x:=by
 induction h with
 | nil=>cases m
 | cons h _ ih=>cases m with
  | head=>exact ⟨_,.head _,h⟩
  | tail _ m=>exact (ih m).elim fun o q=>⟨o,.tail _ q.1,q.2⟩
section
variable {g:Gx} {Γ:Fx} {d:Nat} {lo:Loc} {H:AH} {c:Cx} {fz:Led}
theorem HI.update {mf m:Str→Option Value} {cl fz pre post:Led} {a:Addr} {o o':Obj} {H':AH} {h h':Heap} (I:HI g c lo H mf m cl fz (pre++(a,o)::post) h) (F:Fr c.h₀ c.L h' mf)
  (hr:HR (Cx.mem g fz) (pre++(a,o')::post) H') (N:∀ p q:Led,cl++(pre++(a,o)::post)++(c.pins++fz)=p++(a,o)::q→(∀ z∈p,z.1≠a)→(∀ z∈q,z.1≠a)→News c.h₀ c.L h' (p++(a,o')::q)):HI g c lo H' mf m cl fz (pre++(a,o')::post) h':=by
 have e (x:Obj):cl++((pre++(a,x)::post)++(c.pins++fz))=(cl++pre)++(a,x)::(post++(c.pins++fz)):=by simp
 have nd:=I.nd
 rw [e] at nd
 have nd2:((cl++pre).map (·.1)++a::(post++(c.pins++fz)).map (·.1)).Nodup:=by simpa using nd
 have hh:=(List.perm_middle.nodup_iff).mp nd2
 have hn:=(List.nodup_cons.mp hh).1
 have off1:∀ z∈cl++pre,z.1≠a:=fun z hz q=>hn (by rw [← q]; exact List.mem_append_left _ (List.mem_map_of_mem (f:=(·.1)) hz))
 have off2:∀ z∈post++(c.pins++fz),z.1≠a:=fun z hz q=>hn (by rw [← q]; exact List.mem_append_right _ (List.mem_map_of_mem (f:=(·.1)) hz))
 refine ⟨F,I.clr,?_,?_,I.lok,I.loc,hr⟩
 ·rw [e]; exact N _ _ (by simp) off1 off2
 ·rw [e]; simpa using nd
set_option genInjectivity false in
inductive CP (g:Gx) (c:Cx) (lo:Loc) (mf m:Str→Option Value) (fz:Led) (Q:V→AH→Prop) (x:Value) (s':Shared):Prop
 | mk {H':AH} {cl' fz' led':Led} {y:V} (I:Inv g c lo H' mf m cl' fz' led' s') (hs:∀ p∈fz,p∈fz') (i:Is (Cx.mem g fz') x y) (q:Q y H')
noncomputable def CPr (g:Gx) (c:Cx) (lo:Loc) (mf m:Str→Option Value) (fz:Led) (Q:V→AH→Prop) (r:Except Value Flow) (s':Shared):Prop:=match r with
 | .ok (.ret x)=>CP g c lo mf m fz Q x s'
 | _=>False
noncomputable def Call (g:Gx) (d:Nat) (f:Value) (args:List V) (H:AH) (Q:V→AH→Prop):Prop :=
 ∀ (Γ:Fx) (c:Cx),c.Ok g Γ d→∀ (lo:Loc) (xs:List Value) (mf m:Str→Option Value) (cl fz led:Led) (s:Shared),IsAll (Cx.mem g fz) xs args→Inv g c lo H mf m cl fz led s →
  codeAny (model g.prog g.w) c.A (.call f ⟨xs,[]⟩) (CPr g c lo mf m fz Q) s
noncomputable def CallB (g:Gx) (d:Nat) (f:Value) (args:List V) (H:AH) (Q:V→AH→Prop):Prop :=
 ∀ (Γ:Fx) (c:Cx),c.Ok g Γ d→∀ (fz:Led) (lo:Loc) (xs:List Value),IsAll (Cx.mem g fz) xs args→W g c fz (call f xs) lo H (VP g lo Q)
theorem Call.mono {f:Value} {args:List V} {Q Q':V→AH→Prop} (h:Call g d f args H Q) (k:∀ v H',Q v H'→Q' v H'):Call g d f args H Q' :=
 fun Γ c ok lo xs mf m cl fz led s i I=>codeAny_mono (h Γ c ok lo xs mf m cl fz led s i I) fun r s' q=>by
  rcases r with e | (x | _ | _ | _) <;> first | exact False.elim q | skip
  cases q with | mk I hs i q=>exact .mk I hs i (k _ _ q)
theorem Cx.Ok.le {d d':Nat} (ok:c.Ok g Γ d) (h:d'≤d):c.Ok g Γ d':={ ok with room:=by have:=ok.room; exact ar 4 [_,_,_,_] (.im (.le (.a (.a .v0 .v3) (.n 8)) .v2) (.im (.le .v1 .v3) (.le (.a (.a .v0 .v1) (.n 8)) .v2))) rfl this h,units:=by have:=ok.units; exact ar 4 [_,_,_,_] (.im (.le (.a (.a .v0 (.m 10 .v3)) (.n 200)) .v2) (.im (.le .v1 .v3) (.le (.a (.a .v0 (.m 10 .v1)) (.n 200)) .v2))) rfl this h }
theorem Call.le {d d':Nat} {f:Value} {args:List V} {Q:V→AH→Prop} (h:Call g d' f args H Q) (k:d'≤d):Call g d f args H Q :=
 fun Γ c ok=>h Γ c (ok.le k)
theorem Call.W {f:Value} {args:List V} {xs:List Value} {Q:V→AH→Prop} (h:Call g d f args H Q) (ok:c.Ok g Γ d) (i:IsAll (Cx.mem g fz) xs args):W g c fz (call f xs) lo H (VP g lo Q) :=
 fun mf m cl fz₁ led s hs I=>wpAny_call (codeAny_mono (h Γ c ok lo xs mf m cl fz₁ led s (i.mono (mem_mono hs)) I) fun r s' q=>by
  rcases r with e | (x | _ | _ | _) <;> first | exact False.elim q | skip
  cases q with | mk I hs i q=>exact .mk _ _ _ _ _ _ _ I hs ⟨rfl,_,i,q⟩)
theorem kinAt {mf m:Str→Option Value} {cl led:Led} {s:Shared} (ok:c.Ok g Γ d) (I:Inv g c lo H mf m cl fz led s):g.K.In s.heap :=
 ok.gok.kin.keeps fun b o e=>I.hi.fr.keep _ _ (ok.stays _ _ e)
theorem callWith_W (ok:c.Ok g Γ d) {f:Value} {first:List Value} {e:Expr} {rest:List Expr} {pos:Pos} {Q:Led→Value→Loc→AH→Prop} (hk:keepIn g.K f=true)
  (h:W g c fz (spliced (backTo pos (starEach (e::rest) c.env))) lo H (fun fz' vs lo' H'=>W g c fz' (call f (first++vs)) lo' H' Q))
  (he:starEach (e::rest) c.env=(false,eval e c.env)::starEach rest c.env) (hplain:(backTo pos (starEach rest c.env)).any (·.1)=false) :
  W g c fz (callWith pos f first (backTo pos (starEach (e::rest) c.env)) []) lo H Q:=by
 intro mf m cl fz₁ led s hs I
 refine callWith_K (h₀:=s.heap) (kinAt ok I) hk (h.use hs I fun I' hs' q=>⟨kinAt ok I',q.rest (fun _ x=>x) I' hs'⟩) he hplain
theorem callWith0_W (ok:c.Ok g Γ d) {f:Value} {first:List Value} {pos:Pos} {Q:Led→Value→Loc→AH→Prop} (hk:keepIn g.K f=true)
  (h:W g c fz (call f (first++[])) lo H Q):W g c fz (callWith pos f first (backTo pos (starEach [] c.env)) []) lo H Q :=
 fun mf m cl fz₁ led s hs I=>callWith_K0 (kinAt ok I) hk (h mf m cl fz₁ led s hs I)
theorem callWithB_W {id:String} {first:List Value} {e:Expr} {rest:List Expr} {pos:Pos} {Q:Led→Value→Loc→AH→Prop}
  (h:W g c fz (spliced (backTo pos (starEach (e::rest) c.env))) lo H (fun fz' vs lo' H'=>W g c fz' (call (.builtin id) (first++vs)) lo' H' Q))
  (he:starEach (e::rest) c.env=(false,eval e c.env)::starEach rest c.env) (hplain:(backTo pos (starEach rest c.env)).any (·.1)=false) :
  W g c fz (callWith pos (.builtin id) first (backTo pos (starEach (e::rest) c.env)) []) lo H Q:=by
 intro mf m cl fz₁ led s hs I
 exact callWith_method1 (h.use hs I fun I' hs' q=>q.rest (fun _ x=>x) I' hs') he hplain
theorem E.call {x:Str} {p pos:Pos} {f:Value} {e:Expr} {rest:List Expr} {Q:V→AH→Prop} (hf:(x,f)∈Γ.globs) (hk:keepIn g.K f=true)
  (h:Es g Γ d (e::rest) lo H fun vs H₁=>Call g d f vs H₁ Q)
  (he:autoParam (∀ env,starEach (e::rest) env=(false,eval e env)::starEach rest env) irfa) (hplain:autoParam (∀ env,(backTo pos (starEach rest env)).any (·.1)=false) irfa):E g Γ d (.Call (.Name x p) (e::rest) [] pos) lo H Q:=by
 intro c ok fz
 refine W.cast (t:=do callWith pos (← eval (.Name x p) c.env) [] (backTo pos (starEach (e::rest) c.env)) []) ?_ rfl
 refine W.bindV ((E.glo hf (Q:=fun v H'=>v=.glo f∧H'=H) ⟨rfl,rfl⟩ c ok fz)) fun fz₁ x v H₁ s₁ i r_=>?_
 obtain ⟨ev,eH⟩:=r_
 subst ev; subst eH
 have ez:=i.gloE
 subst ez
 exact callWith_W ok hk ((h c ok fz₁ pos).elimVs fun fz₂ xs vs H₂ s₂ is q=>q.W ok is) (he _) (hplain _)
theorem E.call0 {x:Str} {p pos:Pos} {f:Value} {Q:V→AH→Prop} (hf:(x,f)∈Γ.globs) (hk:keepIn g.K f=true) (h:Call g d f [] H Q):E g Γ d (.Call (.Name x p) [] [] pos) lo H Q:=by
 intro c ok fz
 refine W.cast (t:=do callWith pos (← eval (.Name x p) c.env) [] (backTo pos (starEach [] c.env)) []) ?_ rfl
 refine W.bindV ((E.glo hf (Q:=fun v H'=>v=.glo f∧H'=H) ⟨rfl,rfl⟩ c ok fz)) fun fz₁ x v H₁ s₁ i r_=>?_
 obtain ⟨ev,eH⟩:=r_
 subst ev; subst eH
 have ez:=i.gloE
 subst ez
 exact callWith0_W ok hk (h.W ok .nil)
theorem E.callB {x:Str} {p pos:Pos} {id:String} {e:Expr} {rest:List Expr} {Q:V→AH→Prop} (hf:(x,.builtin id)∈Γ.globs)
  (h:Es g Γ d (e::rest) lo H fun vs H₁=>CallB g d (.builtin id) vs H₁ Q)
  (he:autoParam (∀ env,starEach (e::rest) env=(false,eval e env)::starEach rest env) irfa) (hplain:autoParam (∀ env,(backTo pos (starEach rest env)).any (·.1)=false) irfa):E g Γ d (.Call (.Name x p) (e::rest) [] pos) lo H Q:=by
 intro c ok fz
 refine W.cast (t:=do callWith pos (← eval (.Name x p) c.env) [] (backTo pos (starEach (e::rest) c.env)) []) ?_ rfl
 refine W.bindV ((E.glo hf (Q:=fun v H'=>v=.glo _∧H'=H) ⟨rfl,rfl⟩ c ok fz)) fun fz₁ x v H₁ s₁ i r_=>?_
 obtain ⟨ev,eH⟩:=r_
 subst ev; subst eH
 have ez:=i.gloE
 subst ez
 exact callWithB_W ((h c ok fz₁ pos).elimVs fun fz₂ xs vs H₂ s₂ is q=>q Γ c ok fz₂ _ xs is) (he _) (hplain _)
noncomputable def enter (c:Cx) (cl:Led) (g₀:Heap) (L':Addr) (env':Env):Cx :=
 { A:=c.A.deeper env',A₀:=c.A,base:=c.base,h₀:=g₀,outer:=c.fenv::c.outer,fenv:=env',env:=env',L:=L',pins:=cl++c.pins,os:=c.os }
theorem perm4 (cl led pins fz:Led):(cl++(led++(pins++fz))).Perm ([]++(led++((cl++pins)++fz))):=by
 simp only [List.nil_append]
 have h1:(cl++(led++(pins++fz))).Perm (led++(cl++(pins++fz))):=by
  rw [← List.append_assoc,← List.append_assoc (as:=led)]
  exact (List.perm_append_comm).append_right _
 simpa [List.append_assoc] using h1
set_option genInjectivity false in
inductive FnIn (K:Frag) (sc:Scope) (code:Value) (f:Addr) (names:List Str) (dflt:List (Str × Value)) (body:List Stmt):Prop
 | mk {name qual:Str} {params:_} {oc:_} {od:_} {osl:_} {dV kV doc pm:Value} {an:Option Addr} {cdv ct:Value} (h:K.lookup f=some ⟨oc,od,.func (fnOf name qual params body sc dV kV doc pm an cdv ct),osl⟩) (hc:codeIn K cdv qual=true) (hv:code=.none∨cdv=code)
  (hb:∀ s:Shared,K.In s.heap→∀ xs:List Value,xs.length=names.length→BindsTo s (fnOf name qual params body sc dV kV doc pm an cdv ct) ⟨xs,[]⟩ (names.zip xs++dflt))
set_option genInjectivity false in
structure DefOk (g:Gx) (Γ:Fx) (f:Addr) (names:List Str) (dflt:List (Str × Value)) (keys:List Str) (body:List Stmt):Prop where
 ok:FnIn g.K Γ.scope Γ.code f names dflt body
 scope:Γ.scope.isCoroutine=false∧Γ.scope.isGenerator=false∧Γ.scope.kind=.function∧∀ x∈Γ.scope.names,x.2≠.cell
 keys:(names++dflt.map (·.1)++keys).Nodup∧∀ x∈names++dflt.map (·.1)++keys,Γ.scope.names.lookup x=some .local∧(x==("__debug__":Str))=false
 globs:∀ p∈Γ.globs,Γ.scope.names.lookup p.1=some .globalImplicit∧(p.1==("__debug__":Str))=false ∧
  (g.mg p.1=some p.2∨(g.mg p.1=none∧g.mb p.1=some p.2))
 cells:Γ.cells=[]
noncomputable def startLoc (names:List Str) (args:List V) (dflt:List (Str × V)) (keys:List Str):Loc:=names.zip args++dflt++keys.map fun k=>(k,V.unset)
theorem lookup_zip_rev {names:List Str} {xs:List Value} {dflt:List (Str × Value)} {p:Str × Value} (h:p∈names.zip xs++dflt) (nd:((names.zip xs++dflt).map (·.1)).Nodup):(names.zip xs++dflt).reverse.lookup p.1=some p.2:=by
 have nd':(((names.zip xs++dflt).reverse).map (·.1)).Nodup:=by rw [List.map_reverse]; exact (List.reverse_perm _).nodup_iff.mpr nd
 have hm:p∈(names.zip xs++dflt).reverse:=List.mem_reverse.mpr h
 generalize (names.zip xs++dflt).reverse=l at nd' hm
 induction l with
 | nil=>cases hm
 | cons q r ih =>
  rw [List.lookup_cons]
  rcases List.mem_cons.mp hm with rfl | hm
  ·simp
  ·have hne:(p.1==q.1)=false:=by
    refine beq_eq_false_iff_ne.mpr fun e=>?_
    have:=(List.nodup_cons.mp nd').1
    exact this (by show q.1∈_; rw [← e]; exact List.mem_map_of_mem (f:=(·.1)) hm)
   rw [hne]
   exact ih (List.nodup_cons.mp nd').2 hm
theorem map_zip_fst {α:Type} {names:List Str} {xs:List α} (h:xs.length=names.length):(names.zip xs).map (·.1)=names:=List.map_fst_zip (Nat.le_of_eq h.symm)
theorem IsAll.zip {M:Mem} {names:List Str} {xs:List Value} {vs:List V} (i:IsAll M xs vs):∀ p∈names.zip vs,∃ x,(p.1,x)∈names.zip xs∧Is M x p.2:=by
 induction vs generalizing names xs with
 | nil=>intro p hp; rw [List.zip_nil_right] at hp; cases hp
 | cons d ds ih =>
  refine ob_EEAA i.consE fun x r e i' t=>?_
  subst e
  cases names with
  | nil=>intro p hp; cases hp
  | cons n ns =>
   intro p hp
   cases hp with
   | head=>exact ⟨x,.head _,i'⟩
   | tail _ hp=>exact (ih t p hp).elim fun x q=>⟨x,.tail _ q.1,q.2⟩
noncomputable abbrev KDef (Q:V→AH→Prop):R→Loc→AH→Prop:=fun r _ H'=>match r with | .ret v=>Q v H' | .next=>Q .none H' | _=>False
theorem room_lt {a d:Nat} (h:a+(d+1)+8≤recursionLimit):a < recursionLimit:=by exact ar 3 [_,_,_] (.im (.le (.a (.a .v0 (.a .v2 .n1)) (.n 8)) .v1) (.lt .v0 .v1)) rfl h
theorem room_in {a d:Nat} (h:a+(d+1)+8≤recursionLimit):a+1+d+8≤recursionLimit:=by exact ar 3 [_,_,_] (.im (.le (.a (.a .v0 (.a .v1 .n1)) (.n 8)) .v2) (.le (.a (.a (.a .v0 .n1) .v1) (.n 8)) .v2)) rfl h
theorem units_in {a d:Nat} (h:a+10 * (d+1)+200≤cLine):a+3+10 * d+200≤cLine:=by exact ar 3 [_,_,_] (.im (.le (.a (.a .v0 (.m 10 (.a .v1 .n1))) (.n 200)) .v2) (.le (.a (.a (.a .v0 (.n 3)) (.m 10 .v1)) (.n 200)) .v2)) rfl h
set_option tactic.hygienic true in
theorem Call.def_ {f:Addr} {names keys:List Str} {dflt:List (Str × Value)} {dv:List (Str × V)} {body:List Stmt} {args:List V} {Q:V→AH→Prop} (D:DefOk g Γ f names dflt keys body) (ha:args.length=names.length)
  (hd:dv.map (·.1)=dflt.map (·.1)∧∀ p∈dv,∃ x,(p.1,x)∈dflt∧∀ M,Is M x p.2)
  (h:Ss g Γ d body (startLoc names args dv keys) H (KDef Q)):Call g (d+1) (.ref f) args H Q:=by
 intro Γ₀ c ok lo xs mf m cl fz₁ led s is I
 obtain ⟨ho,hcd,hcv,hb⟩:=D.ok
 rename_i name qual params oc od osl dV kV doc pm an cdv ct
 have hxl:xs.length=names.length:=is.length.trans ha
 have keq:(names.zip xs++dflt).map (·.1)=names++dflt.map (·.1):=by rw [List.map_append,map_zip_fst hxl]
 have kst:(startLoc names args dv keys).map (·.1)=names++dflt.map (·.1)++keys:=by
  unfold startLoc; rw [List.map_append,List.map_append,map_zip_fst ha,hd.1]; simp [Function.comp_def]
 have knd:((names.zip xs++dflt).map (·.1)).Nodup:=by rw [keq]; exact (List.nodup_append.mp D.keys.1).1
 have T₀:=ok.gok.top.keeps (fun b o e=>ok.stays b o e)
 refine code_def ok.below I.hi.fr (ok.gok.kin.keeps fun b o e=>ok.stays b o e) I.hi.news T₀ ok.frames ok.fframe ok.fkind ho hcd (room_lt ok.room) (hb s (kinAt ok I) xs hxl) (fun y hy=>?_) (fun gg L' h₁ FG F' N' B' KG TG=>?_) D.scope.1 D.scope.2.1 D.scope.2.2.1 D.scope.2.2.2
 ·have:y.1∈names++dflt.map (·.1):=by rw [← keq]; exact List.mem_map_of_mem (f:=(·.1)) hy
  exact (D.keys.2 y.1 (List.mem_append_left _ this)).1
 ·have ok':(enter c cl gg L' (envOf qual Γ.scope L' f cdv)).Ok g Γ d:=by
   refine ⟨ok.gok,B',?_,ok.handled,rfl,D.scope.2.2.1,fun b o e=>?_,rfl,D.scope.2.2.1,rfl,rfl,?_,?_,D.globs,?_,.inl D.cells⟩
   ·show (c.A.deeper _).frames=_
    unfold Around.deeper; rw [ok.frames]; rfl
   ·exact ok.bot b o e
   ·exact room_in ok.room
   ·exact units_in ok.units
   ·exact hcv
  have pm:=perm4 cl led c.pins fz₁
  have I':Inv g (enter c cl gg L' (envOf qual Γ.scope L' f cdv)) (startLoc names args dv keys) H (fun y=>(names.zip xs++dflt).reverse.lookup y) (fun y=>(names.zip xs++dflt).reverse.lookup y) [] fz₁ led { s with heap:=h₁,toks:=s.toks+(names.zip xs++dflt).length }:=by
   refine ⟨⟨F',.own rfl,fun p hp=>N' p (pm.mem_iff.mpr hp),(pm.map _).nodup_iff.mp I.hi.nd,⟨by rw [kst]; exact D.keys.1,fun p hp=>D.keys.2 p.1 (by rw [← kst]; exact List.mem_map_of_mem (f:=(·.1)) hp)⟩,?_,I.hi.hr⟩,I.gens,I.os,Nat.le_trans I.tk (Nat.le_add_right _ _)⟩
   intro p hp
   unfold startLoc at hp
   rcases List.mem_append.mp hp with hp | hp
   ·right
    rcases List.mem_append.mp hp with hp | hp
    ·obtain ⟨x,a,b⟩:=is.zip p hp
     exact ⟨x,lookup_zip_rev (p:=(p.1,x)) (List.mem_append_left _ a) knd,b⟩
    ·obtain ⟨x,a,b⟩:=hd.2 p hp
     exact ⟨x,lookup_zip_rev (p:=(p.1,x)) (List.mem_append_right _ a) knd,b _⟩
   ·left
    obtain ⟨k,_,rfl⟩:=List.mem_map.mp hp
    rfl
  refine (h _ ok' fz₁).use (fun _ x=>x) I' fun {fl s' lo' H' mf' m' cl' fz' led'} I₂ hs₂ r_=>?_
  obtain ⟨r,hr,q⟩:=r_
  have hcl:cl'=[]:=by
   have C:=I₂.hi.clr
   have N:=I₂.hi.news
   induction C with
   | own _=>rfl
   | apart _ _=>exact absurd rfl (N _ (.head _)).2.1
  subst hcl
  have pm':=perm4 cl led' c.pins fz'
  refine ⟨L',mf',_,I₂.hi.fr,I₂.hi.news,fun F'' N''=>?_⟩
  have J:Inv g c lo H' mf m cl fz' led' s':=⟨⟨F'',I.hi.clr,fun p hp=>N'' p (pm'.mem_iff.mp hp),(pm'.map _).nodup_iff.mpr I₂.hi.nd,I.hi.lok,I.hi.loc.mono (mem_mono hs₂),I₂.hi.hr⟩,I₂.gens,I₂.os,I₂.tk⟩
  induction hr with
  | next=>exact .mk J hs₂ .none q
  | ret i=>exact .mk J hs₂ i q
  | _=>exact q.elim
end
section
variable {g:Gx} {Γ:Fx} {d:Nat} {lo:Loc} {H:AH} {c:Cx} {fz:Led}
theorem HI.freeze {mf m:Str→Option Value} {cl fz led:Led} {x:Addr} {o:Obj} {mo:MO} {h:Heap} (I:HI g c lo ((x,mo)::H) mf m cl fz ((x,o)::led) h):HI g c lo H mf m cl ((x,o)::fz) led h:=by
 have pm:(cl++((x,o)::led++(c.pins++fz))).Perm (cl++(led++(c.pins++((x,o)::fz)))):=by
  refine List.Perm.append_left cl ?_
  have:((x,o)::led++(c.pins++fz)).Perm ((x,o)::(led++(c.pins++fz))):=List.Perm.refl _
  refine this.trans ?_
  have h2:(led++c.pins++(x,o)::fz).Perm ((x,o)::(led++c.pins++fz)):=List.perm_middle
  simpa [List.append_assoc] using h2.symm
 have hr:=I.hr
 refine ⟨I.fr,I.clr,fun p hp=>I.news p (pm.mem_iff.mpr hp),(pm.map _).nodup_iff.mp I.nd,I.lok,I.loc.mono (mem_mono fun _ hp=>.tail _ hp),?_⟩
 cases hr with
 | cons _ r=>exact r.mono (mem_mono fun _ hp=>.tail _ hp)
theorem ClR.to {c':Cx} {mf m:Str→Option Value} {cl:Led} (h:ClR c mf m cl) (e1:c'.env=c.env) (e2:c'.L=c.L) (e3:c'.keep=c.keep):ClR c' mf m cl:=by
 induction h with
 | own e=>exact .own (by rw [e1,e2,e])
 | apart k n=>rw [← e1]; exact .apart (e3.trans k) n
theorem units_un {a d:Nat} (h:a+10 * (d+1)+200≤cLine):a+1+10 * d+200≤cLine:=by exact ar 3 [_,_,_] (.im (.le (.a (.a .v0 (.m 10 (.a .v1 .n1))) (.n 200)) .v2) (.le (.a (.a (.a .v0 .n1) (.m 10 .v1)) (.n 200)) .v2)) rfl h
theorem under_ok {C:Addr} {vals:List Value} (ok:c.Ok g Γ (d+1)):({ c with A:=c.A.under (.builtin "type.__call__" ⟨.ref C::vals,[]⟩) }:Cx).Ok g Γ d :=
 { gok:=ok.gok,below:=ok.below,frames:=ok.frames,handled:=ok.handled,fframe:=ok.fframe,fkind:=ok.fkind,bot:=ok.bot,scope:=ok.scope,kind:=ok.kind,globals:=ok.globals,builtins:=ok.builtins,room:=room_in ok.room,units:=units_un ok.units,globs:=ok.globs,code:=ok.code,cells:=ok.cells }
theorem Call.cls {C fI:Addr} {args:List V} {Q:V→AH→Prop} (hm:makesIn g.K C=true) (hi:findIn g.K (.ref C) "__init__"=some (some (.ref fI))) (hf:isFn g.K (.ref fI)=true)
  (h:∀ x,Call g d (.ref fI) (.ref x::args) ((x,.ins C [])::H) (fun v H'=>v=.none∧∃ vs,H'=(x,.ins C vs)::H∧Q (.obj C vs) H)):Call g (d+1) (.ref C) args H Q:=by
 intro Γ c ok lo xs mf m cl fz led s is I
 have X₀:g.K.In c.h₀:=ok.gok.kin.keeps fun b o e=>ok.stays b o e
 refine make_K I.hi.fr I.hi.news (X₀.keeps I.hi.fr.keep) hm hi (beq_iff_eq.mp hf) (fun x dx h' F' N' lt lt2=>?_)
 have I1:=I.hi.addFz (l:=dx) (o:=emptyDict) F' (fun p hp=>N' p (.tail _ hp)) fun p hp=>Nat.ne_of_lt (lt p hp)
 have I2:=I1.addLed (l:=x) (o:=instObj C dx) (x:=.ins C []) (OIs.ins (os:=[]) (.inl (.head _)) .nil) F' (fun p hp=>by
   rcases List.mem_cons.mp hp with rfl | hp
   ·exact N' _ (.head _)
   ·have e (b:Led):cl++(led++(c.pins++b))=(cl++(led++c.pins))++b:=by simp
    rw [e] at hp
    rcases mem_mid hp with rfl | hp
    ·exact N' _ (.tail _ (.head _))
    ·exact N' _ (.tail _ (.tail _ (by rw [e]; exact hp)))) (fun p hp=>by
   have e (b:Led):cl++(led++(c.pins++b))=(cl++(led++c.pins))++b:=by simp
   rw [e] at hp
   rcases mem_mid hp with rfl | hp
   ·exact Nat.ne_of_lt lt2
   ·exact Nat.ne_of_lt (Nat.lt_trans (lt p (by rw [e]; exact hp)) lt2))
 let c':Cx:={ c with A:=c.A.under (.builtin "type.__call__" ⟨.ref C::xs,[]⟩) }
 have ok':c'.Ok g Γ d:=under_ok ok
 have I3:Inv g c' lo ((x,.ins C [])::H) mf m cl ((dx,emptyDict)::fz) ((x,instObj C dx)::led) { s with heap:=h' }:=⟨⟨I2.fr,I2.clr.to rfl rfl rfl,I2.news,I2.nd,I2.lok,I2.loc,I2.hr⟩,I.gens,I.os,I.tk⟩
 refine codeAny_mono (h x Γ c' ok' lo (.ref x::xs) mf m cl _ _ _ (.cons (.ref x) (is.mono (mem_mono fun _ hp=>.tail _ hp))) I3) fun r s' q=>?_
 rcases r with e | (v | _ | _ | _) <;> first | exact False.elim q | skip
 cases q with | @mk H' cl' fz' led' y I' hs iy q =>
 refine ob_AEA q ?_
 clear q
 intro ey vs eH q
 subst ey; subst eH
 have ez:=iy.noneE
 subst ez
 refine ob_EEAA I'.hi.hr.consE fun o led₀ e ho hr=>?_
 subst e
 have J:=I'.hi.freeze
 refine ob_EEAA ho.insE fun dx' os eo hdx hsl=>?_
 subst eo
 exact ⟨rfl,.mk (fz':=(x,insOf C dx' os.toArray)::fz') ⟨⟨J.fr,J.clr.to rfl rfl rfl,J.news,J.nd,J.lok,J.loc,J.hr⟩,I'.gens,I'.os,I'.tk⟩ (fun p hp=>.tail _ (hs p (.tail _ hp))) (.obj (.inl (.head _)) (mem_mono (fun _ hp=>.tail _ hp) _ _ hdx) (hsl.mono (mem_mono fun _ hp=>.tail _ hp))) q⟩
noncomputable def refA:Value→Option Addr
 | .ref p=>some p
 | _=>none
theorem refA_some {a:Value} {p:Addr} (h:refA a=some p):a=.ref p:=by cases a <;> first | (cases h; rfl) | cases h
theorem ite_some {α:Type} {b:Bool} {x:Option α} {y:α} (h:(if b then x else none)=some y):b=true∧x=some y:=by
 cases b with
 | false=>cases h
 | true=>exact ⟨rfl,h⟩
noncomputable def refIn (o:Option (Option Value)):Option Addr:=o.bind fun r=>r.bind refA
theorem refIn_some {o:Option (Option Value)} {p:Addr} (h:refIn o=some p):o=some (some (.ref p)):=by
 obtain ⟨r,e1,h1⟩:=Option.bind_eq_some_iff.mp h
 obtain ⟨a,e2,h2⟩:=Option.bind_eq_some_iff.mp h1
 rw [e1,e2,refA_some h2]
noncomputable def slotAt (K:Frag) (C:Addr) (name:Str):Option Nat :=
 if plainGet K C name&&isClsIn K C then
  (refIn (findIn K (.ref C) name)).bind fun p=>if specialIn K (.ref p) "__get__"==some (some (.builtin "member_descriptor.__get__"))&&takesIn K (.ref p)==some true then slotIn K p C else none
 else none
noncomputable def setAt (K:Frag) (C:Addr) (name:Str):Option Nat :=
 if findIn K (.ref C) "__setattr__"==some (some (.builtin "object.__setattr__"))&&plainOver K C then
  (refIn (takerIn K C name)).bind fun p=>if typeIn K (.ref p)==some (.type "member_descriptor") then slotIn K p C else none
 else none
theorem IsSl.get {M:Mem} {os:List (Option Value)} {vs:List V} (h:IsSl M os vs) {i:Nat} {v:V} (e:vs[i]?=some v) (n:v≠.unset):∃ x,os[i]?=some (some x)∧Is M x v:=by
 induction vs generalizing os i with
 | nil=>exact nomatch e
 | cons d ds ih=>cases i with
  | zero=>cases h with
   | unset _=>exact absurd (Option.some.inj e).symm n
   | set h _=>exact ⟨_,rfl,Option.some.inj e ▸ h⟩
  | succ i=>cases h with
   | unset r=>exact ih r e
   | set _ r=>exact ih r e
noncomputable def V.plain:V→Bool
 | .glo _=>false
 | .unset=>false
 | _=>true
theorem handed_of {M:Mem} {x:Value} {v:V} (i:Is M x v) (h:v.plain=true):handedIn x=true:=by cases i <;> first | rfl | cases h
theorem instAt {M:Mem} {h:Heap} {a C dx:Addr} {os:List (Option Value)} (h1:h.get? a=some (insOf C dx os.toArray)) (h2:h.get? dx=some (dictOf [] 0)):InstAt h a (insOf C dx os.toArray) C (some (dictOf [] 0)) :=
 ⟨h1,rfl,rfl,h2⟩
set_option tactic.hygienic true in
theorem attr_W (ok:c.Ok g Γ d) {x:Value} {C:Addr} {vs:List V} {name:Str} {expr:Bool} {i:Nat} {v:V} {Q:V→AH→Prop} (ix:Is (Cx.mem g fz) x (.obj C vs)) (hs:slotAt g.K C name=some i) (hv:vs[i]?=some v) (hp:v.plain=true) (h:Q v H) :
  W g c fz (getAttr x name expr) lo H (VP g lo Q):=by
 refine W.now fun mf m cl fz₁ led s hs' I P _ k=>?_
 have ix:=ix.mono (mem_mono hs')
 refine ob_EEEAAA ix.objE fun _ _ _ ez hm hd hsl=>?_
 subst ez
 obtain ⟨y,hy,iy⟩:=hsl.get hv (by rintro rfl; cases hp)
 obtain ⟨q1,hs⟩:=ite_some hs
 obtain ⟨p,q2,hs⟩:=Option.bind_eq_some_iff.mp hs
 obtain ⟨q3,hs⟩:=ite_some hs
 have q2:=refIn_some q2
 simp only [Bool.and_eq_true,beq_iff_eq] at q1 q3
 have X₀:g.K.In c.h₀:=ok.gok.kin.keeps fun b o e=>ok.stays b o e
 exact get_slot I.hi.fr X₀ (instAt (M:=Cx.mem g fz₁) (I.hi.there ok.stays hm) (I.hi.there ok.stays hd)) q1.1 q1.2 q2 q3.1 q3.2 hs (by simp [hy]) (handed_of iy hp) (k _ _ (I.toks _) ⟨rfl,_,iy,h⟩)
noncomputable def AttrM (g:Gx) (a:V) (name:Str) (k:V→Prop):Prop:=∃ C vs i v,a=.obj C vs∧slotAt g.K C name=some i∧vs[i]?=some v∧v.plain=true∧k v
theorem W.letGo {value:Expr} {o r:Value} {v:V} {Q:V→AH→Prop} (ok:c.Ok g Γ d) (i:Is (Cx.mem g fz) r v) (q:Q v H):W g c fz (letTemporaryGo value o r >>= fun _=>Pure.pure r) lo H (VP g lo Q) :=
 W.now fun mf m cl fz₁ led s hs I P _ k=>wpAny_bind (wpAny_letTemporaryGo (wpAny_pure (k _ _ I.z ⟨rfl,v,i.mono (mem_mono hs),q⟩)))
theorem E.attr {value:Expr} {name:Str} {pos:Pos} {Q:V→AH→Prop} (h:E g Γ d value lo H fun a H₁=>AttrM g a name fun v=>Q v H₁)
  (he:autoParam (∀ env,eval (.Attribute value name pos) env=(do
   let o ← eval value env
   standAt pos.atName
   let r ← holding [o] (getAttr o name true)
   letTemporaryGo value o r
   Pure.pure r)) irfa):E g Γ d (.Attribute value name pos) lo H Q:=by
 intro c ok fz
 rw [he]
 refine W.bindV ((h c ok fz)) fun fz₁ x a H₁ s₁ ia ha=>?_
 refine ob_EEEEAAAA ha fun C vs i v e q1 q2 q3 q4=>?_
 try clear ha
 subst e
 exact W.at_ (W.bindV (W.holding (attr_W ok ia q1 q2 q3 q4)) fun fz₂ r v H₂ s₂ iv q=>W.letGo ok iv q)
noncomputable def setSl (i:Nat) (v:V) (vs:List V):List V:=(vs++List.replicate (i+1 - vs.length) V.unset).set i v
theorem IsSl.length {M:Mem} {os:List (Option Value)} {vs:List V} (h:IsSl M os vs):os.length=vs.length:=by
 induction vs generalizing os with
 | nil=>cases h; rfl
 | cons d ds ih=>cases h with
  | unset r=>exact congrArg (·+1) (ih r)
  | set _ r=>exact congrArg (·+1) (ih r)
theorem IsSl.append {M:Mem} {os ps:List (Option Value)} {vs ws:List V} (h:IsSl M os vs) (h':IsSl M ps ws):IsSl M (os++ps) (vs++ws):=by
 induction vs generalizing os with
 | nil=>cases h; exact h'
 | cons d ds ih=>cases h with
  | unset r=>exact .unset (ih r)
  | set i r=>exact .set i (ih r)
theorem IsSl.rep {M:Mem} (n:Nat):IsSl M (List.replicate n Option.none) (List.replicate n V.unset):=by
 induction n with
 | zero=>exact .nil
 | succ n ih=>exact .unset ih
theorem IsSl.put {M:Mem} {x:Value} {v:V} (i:Is M x v) {os:List (Option Value)} {vs:List V} (h:IsSl M os vs) (n:Nat):IsSl M (os.set n (some x)) (vs.set n v):=by
 induction vs generalizing os n with
 | nil=>cases h; exact .nil
 | cons d ds ih=>cases n with
  | zero=>cases h with
   | unset r=>exact .set i r
   | set _ r=>exact .set i r
  | succ n=>cases h with
   | unset r=>exact .unset (ih r n)
   | set j r=>exact .set j (ih r n)
theorem upd_of {a:Addr} {o o':Obj} {pre post:Led} (h1:∀ p∈pre,p.1≠a) (h2:∀ p∈post,p.1≠a):Upd a o o' (pre++(a,o)::post) (pre++(a,o')::post):=by
 induction pre with
 | nil=>exact .head h2
 | cons p pre ih=>exact .tail (h1 p (.head _)) (ih fun q hq=>h1 q (.tail _ hq))
theorem HI.by_upd {mf m:Str→Option Value} {cl fz pre post:Led} {a:Addr} {o o':Obj} {H':AH} {h:Heap} (I:HI g c lo H mf m cl fz (pre++(a,o)::post) h) (hr:HR (Cx.mem g fz) (pre++(a,o')::post) H') :
  ∃ news',Upd a o o' (cl++((pre++(a,o)::post)++(c.pins++fz))) news'∧∀ h',Fr c.h₀ c.L h' mf→News c.h₀ c.L h' news'→HI g c lo H' mf m cl fz (pre++(a,o')::post) h':=by
 have e (x:Obj):cl++((pre++(a,x)::post)++(c.pins++fz))=(cl++pre)++(a,x)::(post++(c.pins++fz)):=by simp
 have nd:=I.nd
 rw [e] at nd
 have nd2:((cl++pre).map (·.1)++a::(post++(c.pins++fz)).map (·.1)).Nodup:=by simpa using nd
 have hh:=(List.perm_middle.nodup_iff).mp nd2
 have hn:=(List.nodup_cons.mp hh).1
 have off1:∀ z∈cl++pre,z.1≠a:=fun z hz q=>hn (by rw [← q]; exact List.mem_append_left _ (List.mem_map_of_mem (f:=(·.1)) hz))
 have off2:∀ z∈post++(c.pins++fz),z.1≠a:=fun z hz q=>hn (by rw [← q]; exact List.mem_append_right _ (List.mem_map_of_mem (f:=(·.1)) hz))
 refine ⟨(cl++pre)++(a,o')::(post++(c.pins++fz)),by rw [e]; exact upd_of off1 off2,fun h' F' N'=>⟨F',I.clr,by rw [e]; exact N',by rw [e]; simpa using nd,I.lok,I.loc,hr⟩⟩
set_option tactic.hygienic true in
theorem setAttr_W (ok:c.Ok g Γ d) {x:Addr} {C:Addr} {vs:List V} {name:Str} {i:Nat} {y:Value} {v:V} {H':AH} {Q:Led→Unit→Loc→AH→Prop} (iy:Is (Cx.mem g fz) y v) (hs:setAt g.K C name=some i) (hi:i < 1000)
  (hu:MUpd x (.ins C vs) (.ins C (setSl i v vs)) H H') (h:∀ fz',(∀ p∈fz,p∈fz')→Q fz' () lo H'):W g c fz (setAttr (.ref x) name y) lo H Q:=by
 intro mf m cl fz₁ led s hs' I
 refine ob_EEEAA (I.hi.hr.split hu) fun pre o post ez3 ho hr=>?_
 subst ez3
 have iy:=iy.mono (mem_mono hs')
 refine ob_EEAA ho.insE fun dx os eo hdx hsl=>?_
 subst eo
 have X₀:g.K.In c.h₀:=ok.gok.kin.keeps fun b o e=>ok.stays b o e
 obtain ⟨q1,hs⟩:=ite_some hs
 obtain ⟨p,q2,hs⟩:=Option.bind_eq_some_iff.mp hs
 obtain ⟨q3,hs⟩:=ite_some hs
 have q2:=refIn_some q2
 simp only [Bool.and_eq_true,beq_iff_eq] at q1 q3
 have hsl':IsSl (Cx.mem g fz₁) ((os++List.replicate (i+1 - os.length) Option.none).set i (some y)) (setSl i v vs):=by
  unfold setSl; rw [hsl.length]; exact (hsl.append (IsSl.rep _)).put iy i
 have ho':OIs (Cx.mem g fz₁) (insOf C dx ((os++List.replicate (i+1 - os.length) Option.none).set i (some y)).toArray) (.ins C (setSl i v vs)):=.ins hdx hsl'
 obtain ⟨news',U,back⟩:=I.hi.by_upd (hr _ ho')
 refine set_slot I.hi.fr X₀ I.hi.news (instAt (M:=Cx.mem g fz₁) (I.hi.thereLed (by simp)) (I.hi.there ok.stays hdx)) q1.1 q1.2 q2 q3 hs hi ?_ rfl U fun h' F' N'=>.mk lo H' mf m cl fz₁ _ (I.to (s.toks+1) (Nat.le_succ _) (back h' F' N')) (fun _ x=>x) (h _ hs')
 show insOf C dx _=insOf C dx _
 congr 1
 apply Array.toList_inj.mp
 simp
theorem S.setattr {o:Expr} {name:Str} {pos' pos:Pos} {value:Expr} {Q:R→Loc→AH→Prop}
  (h:E g Γ d value lo H fun v H₁=>E g Γ d o lo H₁ fun ov H₂=>∃ x C vs i H₃,ov=.ref x∧setAt g.K C name=some i∧i < 1000∧MUpd x (.ins C vs) (.ins C (setSl i v vs)) H₂ H₃∧Q .next lo H₃)
  (hs:autoParam (∀ env,swapsWith value (some (.Attribute o name pos')) pos.line env=pure false) irfa):S g Γ d (.Assign [.Attribute o name pos'] value pos) lo H Q:=by
 intro c ok fz mf m cl fz₁ led s hs' I
 refine plainObj_wpAny_Assign_Attribute ((h c ok fz).useV hs' I fun {cv s₁ H₁ mf₁ m₁ cl₁ fz₂ led₁ v} I₁ hs₁ iv q=>?_) (hs _)
 refine (q c ok fz₂).useV (fun _ x=>x) I₁ fun {cov s₂ H₂ mf₂ m₂ cl₂ fz₃ led₂ ov} I₂ hs₂ io r_=>?_
 refine ob_EEEEEAAAA r_ fun x C vs i H₃ eo q1 q2 q3 q4=>?_
 try clear r_
 subst eo
 rw [io.refE]
 exact (setAttr_W (Q:=fun _ _ lo' H'=>Q .next lo' H') ok (iv.mono (mem_mono hs₂)) q1 q2 q3 fun _ _=>q4).use (fun _ x=>x) I₂ fun I₃ hs₃ q=>.mk _ _ _ _ _ _ _ I₃ (fun p hp=>hs₃ p (hs₂ p (hs₁ p hp))) ⟨_,.next,q⟩
end
section
open PySem PySem.W PySem.Calls PyProof.Rows PySem.NumText
noncomputable def isHex (c:Nat):Bool:=(48≤c&&c≤57)||(97≤c&&c≤102)||(65≤c&&c≤70)
noncomputable def hexDig (c:Nat):Nat:=if c≤57 then c - 48 else if 97≤c then c - 87 else c - 55
noncomputable def hexVal (cs:List Nat):Nat:=cs.foldl (fun a c=>a * 16+hexDig c) 0
theorem isHex_iff {c:Nat}:isHex c=true ↔ (48≤c∧c≤57)∨(97≤c∧c≤102)∨(65≤c∧c≤70):=by
 unfold isHex; simp only [Bool.or_eq_true,Bool.and_eq_true,decide_eq_true_eq,or_assoc]
theorem digit_hex {c:Nat} (h:isHex c=true):digit? c=some (hexDig c)∧hexDig c < 16:=by
 rw [isHex_iff] at h
 unfold digit? hexDig
 rcases h with h | h | h
 ·have a:(decide (48≤c)&&decide (c≤57))=true:=by simp [h]
  rw [if_pos a,if_pos h.2]; exact ⟨rfl,by exact ar 1 [_] (.im (.an (.le (.n 48) .v0) (.le .v0 (.n 57))) (.lt (.s .v0 (.n 48)) (.n 16))) rfl h⟩
 ·have a:(decide (48≤c)&&decide (c≤57))=false:=by simp; exact ar 1 [_] (.im (.an (.le (.n 97) .v0) (.le .v0 (.n 102))) (.im (.le (.n 48) .v0) (.lt (.n 57) .v0))) rfl h
  have b:(decide (97≤c)&&decide (c≤122))=true:=by simp; exact ar 1 [_] (.im (.an (.le (.n 97) .v0) (.le .v0 (.n 102))) (.an (.le (.n 97) .v0) (.le .v0 (.n 122)))) rfl h
  rw [if_neg (by simp [a]),if_pos b,if_neg (by exact ar 1 [_] (.im (.an (.le (.n 97) .v0) (.le .v0 (.n 102))) (.nt (.le .v0 (.n 57)))) rfl h),if_pos h.1]; exact ⟨rfl,by exact ar 1 [_] (.im (.an (.le (.n 97) .v0) (.le .v0 (.n 102))) (.lt (.s .v0 (.n 87)) (.n 16))) rfl h⟩
 ·have a:(decide (48≤c)&&decide (c≤57))=false:=by simp; exact ar 1 [_] (.im (.an (.le (.n 65) .v0) (.le .v0 (.n 70))) (.im (.le (.n 48) .v0) (.lt (.n 57) .v0))) rfl h
  have b:(decide (97≤c)&&decide (c≤122))=false:=by simp; exact ar 1 [_] (.im (.an (.le (.n 65) .v0) (.le .v0 (.n 70))) (.im (.le (.n 97) .v0) (.lt (.n 122) .v0))) rfl h
  have e:(decide (65≤c)&&decide (c≤90))=true:=by simp; exact ar 1 [_] (.im (.an (.le (.n 65) .v0) (.le .v0 (.n 70))) (.an (.le (.n 65) .v0) (.le .v0 (.n 90)))) rfl h
  rw [if_neg (by simp [a]),if_neg (by simp [b]),if_pos e,if_neg (by exact ar 1 [_] (.im (.an (.le (.n 65) .v0) (.le .v0 (.n 70))) (.nt (.le .v0 (.n 57)))) rfl h),if_neg (by exact ar 1 [_] (.im (.an (.le (.n 65) .v0) (.le .v0 (.n 70))) (.nt (.le (.n 97) .v0))) rfl h)]; exact ⟨rfl,by exact ar 1 [_] (.im (.an (.le (.n 65) .v0) (.le .v0 (.n 70))) (.lt (.s .v0 (.n 55)) (.n 16))) rfl h⟩
theorem step_hex {ds:Array Nat} {b:Bool} {c:Nat} (h:isHex c=true):NumText.step 16 (ds,b) c=some (ds.push (hexDig c),true):=by
 have d:=digit_hex h
 have n:(c==95)=false:=by rw [isHex_iff] at h; simp; exact ar 1 [_] (.im (.or (.an (.le (.n 48) .v0) (.le .v0 (.n 57))) (.or (.an (.le (.n 97) .v0) (.le .v0 (.n 102))) (.an (.le (.n 65) .v0) (.le .v0 (.n 70))))) (.nt (.eq .v0 (.n 95)))) rfl h
 unfold NumText.step
 rw [n,d.1]
 simp [d.2]
theorem foldM_hex:∀ (cs:List Nat) (ds:Array Nat) (b:Bool),(∀ c∈cs,isHex c=true)→cs.foldlM (NumText.step 16) (ds,b)=some (cs.foldl (fun acc c=>acc.push (hexDig c)) ds,if cs=[] then b else true)
 | [],ds,b,_=>by simp
 | c::cs,ds,b,h=>by
  rw [List.foldlM_cons,step_hex (h c (.head _))]
  show cs.foldlM (NumText.step 16) (ds.push (hexDig c),true)=_
  rw [foldM_hex cs _ _ fun d hd=>h d (.tail _ hd)]
  simp
theorem push_hex:∀ (cs:List Nat) (ds:Array Nat),(cs.foldl (fun acc c=>acc.push (hexDig c)) ds).foldl (fun acc d=>acc * 16+d) 0=cs.foldl (fun a c=>a * 16+hexDig c) (ds.foldl (fun acc d=>acc * 16+d) 0)
 | [],ds=>rfl
 | c::cs,ds=>by
  rw [List.foldl_cons,push_hex cs,List.foldl_cons]
  congr 1
  simp
set_option tactic.hygienic true in
theorem read_hex {cs:List Nat} (h:∀ c∈cs,isHex c=true) (ne:cs≠[]):(int_private% "readNumeral") 0 16 cs=(int_private% "Numeral.value") ((hexVal cs:Nat):Int):=by
 refine (readNumeral_eq 0 16 cs).trans ?_
 obtain ⟨c,r,rfl⟩:=List.exists_cons_of_ne_nil ne
 have hc:=h c (.head _)
 have hc2:=isHex_iff.mp hc
 have e1:(c::r).dropWhile blank=c::r:=dropWhile_of (by exact ar 1 [_] (.im (.or (.an (.le (.n 48) .v0) (.le .v0 (.n 57))) (.or (.an (.le (.n 97) .v0) (.le .v0 (.n 102))) (.an (.le (.n 65) .v0) (.le .v0 (.n 70))))) (.le (.n 33) .v0)) rfl hc2)
 have e2:sign (c::r)=(false,c::r):=sign_of (by exact ar 1 [_] (.im (.or (.an (.le (.n 48) .v0) (.le .v0 (.n 57))) (.or (.an (.le (.n 97) .v0) (.le .v0 (.n 102))) (.an (.le (.n 65) .v0) (.le .v0 (.n 70))))) (.nt (.eq .v0 (.n 45)))) rfl hc2) (by exact ar 1 [_] (.im (.or (.an (.le (.n 48) .v0) (.le .v0 (.n 57))) (.or (.an (.le (.n 97) .v0) (.le .v0 (.n 102))) (.an (.le (.n 65) .v0) (.le .v0 (.n 70))))) (.nt (.eq .v0 (.n 43)))) rfl hc2)
 have e3:based 16 (c::r)=(16,false,c::r):=by
  unfold based
  split
  ·rename_i p hp
   have:p=16→False:=by
    intro e; subst e
    unfold prefix? at hp
    split at hp
    ·rename_i c' _ heq
     split at hp
     ·rename_i q
      have:=isHex_iff.mp (h c' (by rw [heq]; simp))
      simp only [Bool.or_eq_true,beq_iff_eq] at q
      exact ar 1 [_] (.im (.or (.an (.le (.n 48) .v0) (.le .v0 (.n 57))) (.or (.an (.le (.n 97) .v0) (.le .v0 (.n 102))) (.an (.le (.n 65) .v0) (.le .v0 (.n 70))))) (.im (.or (.eq .v0 (.n 120)) (.eq .v0 (.n 88))) .ff)) rfl this q
     ·split at hp
      ·cases hp
      ·split at hp <;> cases hp
    ·cases hp
   have hne:((16:Nat)==0||(16:Nat)==p)=false:=Bool.or_eq_false_iff.mpr ⟨rfl,beq_eq_false_iff_ne.mpr fun e=>this e.symm⟩
   rw [hne]; rfl
  ·rfl
 rw [e1,e2,e3]
 have e4:((c::r).reverse.dropWhile blank).reverse=c::r:=by
  have:(c::r).reverse.dropWhile blank=(c::r).reverse:=by
   have hl:∀ d∈(c::r).reverse,isHex d=true:=fun d hd=>h d (List.mem_reverse.mp hd)
   generalize (c::r).reverse=l at hl
   cases l with
   | nil=>rfl
   | cons d l=>have:=isHex_iff.mp (hl d (.head _)); exact dropWhile_of (by exact ar 1 [_] (.im (.or (.an (.le (.n 48) .v0) (.le .v0 (.n 57))) (.or (.an (.le (.n 97) .v0) (.le .v0 (.n 102))) (.an (.le (.n 65) .v0) (.le .v0 (.n 70))))) (.le (.n 33) .v0)) rfl this)
  rw [this,List.reverse_reverse]
 show judge 0 false 16 false (digits? 16 ((c::r).reverse.dropWhile blank).reverse)=_
 rw [e4]
 have e5:digits? 16 (c::r)=some ((c::r).foldl (fun acc c=>acc.push (hexDig c)) #[]):=by
  unfold digits?
  rw [foldM_hex _ _ _ h]; rfl
 rw [e5]
 unfold judge
 have e6:=push_hex (c::r) #[]
 simp only [List.contains_cons,beq_self_eq_true,Bool.or_true,Bool.true_or,Bool.not_true,Bool.false_and,Bool.false_eq_true,if_false]
 rw [e6]
 simp [hexVal]
theorem wp_hex {M:Model} {A:Around} {E:Value→Shared→Prop} {s:Shared} {Q:Value→Shared→Prop} {v:Value} {text:List Nat} {n:Int}
  (hs:(text.takeWhile (· != 0)).length≤640) (hr:(int_private% "readNumeral") 0 16 (text.takeWhile (· != 0))=(int_private% "Numeral.value") n)
  (ha:((text.takeWhile (· != 0)).length==text.length)=true) (h:Q (.int n s.toks) { s with toks:=s.toks+1 }) :
  wpAny M A ((int_private% "intFromText") v text 16) Q E s:=by
 obtain ⟨hp,g,d,tk,os⟩:=s
 repeat (any_goals (first
  | assumption
  | (with_reducible refine wpAny_ite_true (decide_eq_true hs) ?_)
  | (with_reducible refine wpAny_ite_true (decide_eq_true ha) ?_)
  | wp_step))
 all_goals (try rw [hr])
 all_goals (try dsimp only)
 repeat (any_goals (first
  | assumption
  | (with_reducible refine wpAny_ite_true (decide_eq_true hs) ?_)
  | (with_reducible refine wpAny_ite_true (decide_eq_true ha) ?_)
  | wp_step))
structure Hid (p:Prop):Prop where
 out:p
theorem take_all {α:Type} (p:α→Bool):∀ l:List α,(∀ x∈l,p x=true)→l.takeWhile p=l
 | [],_=>rfl
 | x::r,h=>by rw [List.takeWhile_cons,h x (.head _),if_pos rfl,take_all p r fun y hy=>h y (.tail _ hy)]
set_option maxHeartbeats 4000000 in
theorem gives_hex {x:PySem.Str} {u v:Tok} (h:∀ c∈x.cps.toList,isHex c=true) (ne:x.cps.toList≠[]) (hl:x.cps.toList.length≤6):Gives (Builtin.«int.__new__» ⟨[.type "int",.str x u,.int 16 v],[]⟩) (.int ((hexVal x.cps.toList:Nat):Int)) :=
 .of_wp fun M A E s Q hq=>by
  obtain ⟨hp,g,d,tk,os⟩:=s
  have f1:=F.conv_sub_int
  have f2:=F.madeHere_int
  have ht:x.cps.toList.takeWhile (· != 0)=x.cps.toList:=take_all _ _ fun c hc=>by have:=isHex_iff.mp (h c hc); simp; exact ar 1 [_] (.im (.or (.an (.le (.n 48) .v0) (.le .v0 (.n 57))) (.or (.an (.le (.n 97) .v0) (.le .v0 (.n 102))) (.an (.le (.n 65) .v0) (.le .v0 (.n 70))))) (.nt (.eq .v0 .n0))) rfl this
  have h128:x.cps.all (· < 128)=true:=by
   rw [Array.all_eq_true']
   intro c hc
   have:=isHex_iff.mp (h c (by simpa using hc)); simp; exact ar 1 [_] (.im (.or (.an (.le (.n 48) .v0) (.le .v0 (.n 57))) (.or (.an (.le (.n 97) .v0) (.le .v0 (.n 102))) (.an (.le (.n 65) .v0) (.le .v0 (.n 70))))) (.lt .v0 (.n 128))) rfl this
  have hk:=Hid.mk (And.intro (read_hex h ne) (And.intro ht hl))
  have hall:=Hid.mk h128
  clear h ne hl ht h128
  repeat (any_goals (first
   | assumption
   | ((with_reducible show wpAny _ _ ((int_private% "intFromText") _ _ _) _ _ _); (try rw [hall.out]); (try simp only [if_true]); refine wp_hex (n:=((hexVal x.cps.toList:Nat):Int)) (by rw [hk.out.2.1]; have:=hk.out.2.2; exact ar 1 [_] (.im (.le .v0 (.n 6)) (.le .v0 (.n 640))) rfl this) (by rw [hk.out.2.1]; exact hk.out.1) (by rw [hk.out.2.1]; simp) ?_)
   | wp_step))
  all_goals first | exact ⟨_,rfl,hq⟩ | skip
end
section
open PySem.Builtin PySem.Builtin.Str
section
variable {prog:Program} {w:World} {A:Around} {E:Value→Shared→Prop} {s:Shared} {Q:Value→Shared→Prop}
theorem typeCall_int_2 (a b:Value):checkTypeCall "int" ⟨[a,b],[]⟩=pure ():=by kernel_rfl
theorem newCall_int_2 (a b:Value):checkBuiltinCall "int.__new__" ⟨[.type "int",a,b],[]⟩=pure ():=by kernel_rfl
theorem args_oi_3 (a b c:Value):argsOk "object.__init__" ⟨[a,b,c],[]⟩:=by unfold argsOk; kernel_rfl
theorem call_hex {x:Str} {u v:Tok} (h:∀ c∈x.cps.toList,isHex c=true) (ne:x.cps.toList≠[]) (hl:x.cps.toList.length≤6) (hq:Q (.int ((hexVal x.cps.toList:Nat):Int) s.toks) { s with toks:=s.toks+1 }) :
  wpAny (model prog w) A (call (.type "int") [.str x u,.int 16 v]) Q E s :=
 callType_new F.called_int F.newNe_int (typeCall_int_2 _ _) (newCall_int_2 _ _) (fun obj=>args_oi_3 obj _ _) F.entry_int_new (gives_hex h ne hl).meets (show (Made.int _).post _ s from ⟨rfl,hq⟩)
noncomputable def swAt (s y:List Nat) (i:Int):Bool:=decide (fromIndex s.length i+y.length≤s.length)&&((s.drop (fromIndex s.length i)).take y.length==y)
theorem subAt_list (x y:Str) (i:Nat):subAt x y i=((x.cps.toList.drop i).take y.cps.toList.length==y.cps.toList):=by
 unfold subAt
 rw [Bool.eq_iff_iff,beq_iff_eq,beq_iff_eq,← Array.toList_inj]
 simp [Str.length]
theorem sw_list (x y:Str) (i:Int):Txt.startswith3 x y i=swAt x.cps.toList y.cps.toList i:=by
 unfold Txt.startswith3 swAt
 rw [subAt_list,str_len x,str_len y]
theorem gives_rfind2 (x y:Str) (i j:Int) (t u v q:Tok):Gives («str.rfind» ⟨[.str x t,.str y u,.int i v,.int j q],[]⟩) (.int (match lastOccurrence x y (fromIndex x.length i) (min (fromIndex x.length j) x.length) with | some k=>(k:Int) | none=>-1)):=by
 show Gives (match lastOccurrence x y (fromIndex x.length i) (min (fromIndex x.length j) x.length) with | some k=>retInt k | none=>(do rule "str.rfind.not-found"; retInt (-1))) _
 cases lastOccurrence x y (fromIndex x.length i) (min (fromIndex x.length j) x.length) with
 | none=>exact .rule (.of_eq rfl)
 | some k=>exact .of_eq rfl
theorem gives_count2 (x y:Str) (i j:Int) (t u v q:Tok):Gives («str.count» ⟨[.str x t,.str y u,.int i v,.int j q],[]⟩) (.int (occurrences x y (fromIndex x.length i) (min (fromIndex x.length j) x.length) (x.length+1)).length):=by
 show Gives (retInt (occurrences x y (fromIndex x.length i) (min (fromIndex x.length j) x.length) (x.length+1)).length) _
 exact .of_eq rfl
noncomputable def S' (s:List Nat):Str:=⟨s.toArray⟩
theorem S'_of (x:Str):S' x.cps.toList=x:=by unfold S'; simp
theorem S'_len (s:List Nat):(S' s).length=s.length:=by simp [S',Str.length]
theorem S'_list (s:List Nat):(S' s).cps.toList=s:=by simp [S']
noncomputable def rfindAt (s y:List Nat) (i j:Int):Int:=match lastOccurrence (S' s) (S' y) (fromIndex s.length i) (min (fromIndex s.length j) s.length) with | some k=>(k:Int) | none=>-1
noncomputable def countAt (s y:List Nat) (i j:Int):Int:=(occurrences (S' s) (S' y) (fromIndex s.length i) (min (fromIndex s.length j) s.length) (s.length+1)).length
noncomputable def findAt (s y:List Nat) (i:Int):Int:=Txt.find3 (S' s) (S' y) i
theorem call_rfind {x y:Str} {i j:Int} {t u v q:Tok} (hq:Q (.int (rfindAt x.cps.toList y.cps.toList i j) s.toks) { s with toks:=s.toks+1 }):wpAny (model prog w) A (call (.builtin "str.rfind") [.str x t,.str y u,.int i v,.int j q]) Q E s:=by
 unfold rfindAt at hq
 rw [S'_of,S'_of,← str_len] at hq
 exact call_gives F.slot_str_rfind (typeIs_str _ _ _) F.entry_str_rfind (F.args_str_rfind_4 _ _ _ _) (gives_rfind2 x y i j t u v q) hq
theorem call_count {x y:Str} {i j:Int} {t u v q:Tok} (hq:Q (.int (countAt x.cps.toList y.cps.toList i j) s.toks) { s with toks:=s.toks+1 }):wpAny (model prog w) A (call (.builtin "str.count") [.str x t,.str y u,.int i v,.int j q]) Q E s:=by
 unfold countAt at hq
 rw [S'_of,S'_of,← str_len] at hq
 exact call_gives F.slot_str_count (typeIs_str _ _ _) F.entry_str_count (F.args_str_count_4 _ _ _ _) (gives_count2 x y i j t u v q) hq
set_option tactic.hygienic true in
theorem call_swT {x:Str} {i:Int} {t v:Tok} {a:Addr} {xs:List Value} {n:Nat} {ys:List Str} (hm:s.heap.get? a=some (tupOf xs.toArray n)) (hi:StrsAre xs ys)
  (hq:Q (.bool (ys.any fun y=>swAt x.cps.toList y.cps.toList i)) s):wpAny (model prog w) A (call (.builtin "str.startswith") [.str x t,.ref a,.int i v]) Q E s:=by
 refine wpAny_call (codeAny_call_builtin F.slot_str_startswith.plain F.entry_str_startswith (F.slot_str_startswith.check _ _ _ _ _ _ _ _ (typeIs_str _ _ _) (F.args_str_startswith_3 _ _ _) ?_))
 have h1:strSomeArgs "startswith" 1 3 ⟨[.str x t,.ref a,.int i v],[]⟩=pure (.str x t,x,[.ref a,.int i v]):=rfl
 have h2:searchRange x.length [.int i v]=pure (fromIndex x.length i,min x.length x.length):=rfl
 unfold «str.startswith» affixEntry
 rw [h1]
 refine wpAny_bind (wpAny_pure ?_)
 show wpAny _ _ (searchRange x.length [.int i v] >>= _) _ _ _
 rw [h2]
 refine wpAny_bind (wpAny_pure ?_)
 dsimp only [List.headD]
 have hT:IsTup s.heap a xs.toArray:=⟨_,hm,rfl,n,rfl⟩
 refine wpAny_bind ?_
 delta asStr?
 dsimp only
 refine wpAny_bind (wpAny_load hm ?_)
 refine wpAny_pure ?_
 dsimp only
 refine wpAny_bind (wpAny_isInstance (b:=true) hT.typeIs (by kernel_rfl) ?_)
 rw [if_pos rfl]
 refine wpAny_bind (wpAny_rule ?_)
 refine wpAny_bind (wpAny_seqItems hm rfl ?_)
 dsimp only
 refine wpAny_bind (forIn_array_ _ (fun rest b s'=>b.1=none∧s'=s∧∃ ms,StrsAre rest ms∧Q (.bool (ms.any fun y=>swAt x.cps.toList y.cps.toList i)) s) _ ?_ ?_ xs.toArray _ ⟨rfl,rfl,ys,hi,hq⟩)
 ·rintro y rest b s' ⟨hb,rfl,ms,hms,hP⟩
  cases hms with
  | cons p tk hms' =>
   refine wpAny_bind (wpAny_pure ?_)
   dsimp only
   rw [List.any_cons] at hP
   have e:(decide (fromIndex x.length i+p.length≤Min.min x.length x.length)&&subAt x p (fromIndex x.length i))=swAt x.cps.toList p.cps.toList i:=by
    rw [Nat.min_self,subAt_list,str_len x,str_len p]
    rfl
   split
   ·rename_i hc
    have hnx:swAt x.cps.toList p.cps.toList i=true:=e.symm.trans hc
    rw [hnx] at hP
    refine wpAny_bind (wpAny_pure ?_)
    exact wpAny_pure (wpAny_pure (by simpa using hP))
   ·rename_i hc
    have hnx:swAt x.cps.toList p.cps.toList i=false:=by
     rw [← e]
     exact eq_false_of_ne_true hc
    rw [hnx] at hP
    exact wpAny_pure ⟨rfl,rfl,_,hms',by simpa using hP⟩
 ·rintro ⟨b1,b2⟩ s' ⟨hb,rfl,ms,hms,hP⟩
  cases hms
  simp only at hb
  subst hb
  exact wpAny_pure (by simpa using hP)
end
end
section
open PySem.Builtin PySem.Builtin.Str
noncomputable def StrMeth (name:Str) (id:String):Prop:=∀ (M:Model) (A:Around) (E:Value→Shared→Prop) (s:Shared) (x:Str) (t:Tok) (pl:Sem Bool) (Q:Value × List Value→Shared→Prop),Q (.builtin id,[.str x t]) s→wpAny M A (getMethod (.str x t) name pl) Q E s
theorem sm_startswith:StrMeth "startswith" "str.startswith":=by
 unfold StrMeth
 intro M A E s x t pl Q h
 with_reducible exact GM.startswith h
theorem sm_find:StrMeth "find" "str.find":=by
 unfold StrMeth
 intro M A E s x t pl Q h
 with_reducible exact GM.find h
theorem sm_rfind:StrMeth "rfind" "str.rfind":=by
 unfold StrMeth
 intro M A E s x t pl Q h
 with_reducible exact GM.rfind h
theorem sm_count:StrMeth "count" "str.count":=by
 unfold StrMeth
 intro M A E s x t pl Q h
 with_reducible exact GM.count h
theorem sm_join:StrMeth "join" "str.join":=by
 unfold StrMeth
 intro M A E s x t pl Q h
 with_reducible exact GM.join h
noncomputable def CallForm (o:Expr) (name:Str) (apos pos:Pos) (args:List Expr):Prop:=∀ env,∃ pl:Sem Bool,eval (.Call (.Attribute o name apos) args [] pos) env=(do
   let ov ← eval o env
   standAt apos.atName
   let (f,first) ← holding [ov] (getMethod ov name pl)
   callWith pos f first (backTo pos (starEach args env)) [])
section
variable {g:Gx} {Γ:Fx} {d:Nat} {lo:Loc} {H:AH}
theorem E.meth {o:Expr} {name:Str} {id:String} {apos pos:Pos} {e:Expr} {rest:List Expr} {Q:V→AH→Prop} (hm:StrMeth name id)
  (h:E g Γ d o lo H fun ov H₁=>∃ x,ov=.str x∧Es g Γ d (e::rest) lo H₁ fun vs H₂=>CallB g d (.builtin id) (.str x::vs) H₂ Q)
  (he:autoParam (∀ env,starEach (e::rest) env=(false,eval e env)::starEach rest env) irfa) (hplain:autoParam (∀ env,(backTo pos (starEach rest env)).any (·.1)=false) irfa)
  (cf:autoParam (CallForm o name apos pos (e::rest)) irfc) :
  E g Γ d (.Call (.Attribute o name apos) (e::rest) [] pos) lo H Q:=by
 intro c ok fz mf m cl fz₁ led s hs I
 obtain ⟨pl,cf⟩:=cf c.env
 refine MethodCall_ ((h c ok fz).useV hs I fun {ov s₁ H₁ mf₁ m₁ cl₁ fz₂ led₁ v} I₁ hs₁ iv r_=>?_) cf
 obtain ⟨x,ev,q⟩:=r_
 subst ev
 refine ob_EEA iv.strE fun y t ez ey=>?_
 subst ez
 unfold StrMeth at hm
 with_reducible refine hm _ _ _ _ _ _ _ _ ?_
 exact W.rest (callWithB_W (first:=[.str y t]) ((q c ok fz₂ pos).elimVs fun fz₃ xs vs H₂ s₂ is q=>q Γ c ok fz₃ _ (.str y t::xs) (.cons (.str y t ey) is)) (he _) (hplain _)) (fun _ x=>x) I₁ hs₁
theorem IsAll.append {M:Mem} {xs ys:List Value} {vs ws:List V} (i:IsAll M xs vs) (j:IsAll M ys ws):IsAll M (xs++ys) (vs++ws):=by
 induction vs generalizing xs with
 | nil=>rw [i.nilE]; exact j
 | cons v vs ih=>obtain ⟨x,r,e,i,t⟩:=i.consE; rw [e]; exact .cons i (ih t)
theorem IsAll.unsnoc {M:Mem} {xs:List Value} {vs:List V} {v:V} (i:IsAll M xs (vs++[v])):∃ ys y,xs=ys++[y]∧Is M y v∧IsAll M ys vs:=by
 induction vs generalizing xs with
 | nil=>obtain ⟨x,r,e,i,t⟩:=i.consE; rw [t.nilE] at e; exact ⟨[],x,e,i,.nil⟩
 | cons u us ih =>
  refine ob_EEAA i.consE fun x r e i t=>?_
  refine ob_EEAA (ih t) fun ys y e' a b=>?_
  exact ⟨x::ys,y,by rw [e,e']; rfl,a,.cons i b⟩
theorem kl_last_of (ys:List Value) (y:Value):kl_last (ys++[y]).toArray.toList=some (ys,y):=by
 show kl_last (ys++[y])=_
 induction ys with
 | nil=>rfl
 | cons x ys ih=>rw [List.cons_append,kl_last,ih]
theorem E.append {o:Expr} {apos pos:Pos} {e:Expr} {Q:V→AH→Prop}
  (h:E g Γ d o lo H fun ov H₁=>∃ a vs₀,ov=.ref a∧(a,.lst vs₀)∈H₁∧E g Γ d e lo H₁ fun v H₂=>∃ vs H₃,MUpd a (.lst vs) (.lst (vs++[v])) H₂ H₃∧vs.length≤1000000∧Q .none H₃)
  (he:autoParam (∀ env,starEach [e] env=(false,eval e env)::starEach [] env) irfa) (cf:autoParam (CallForm o "append" apos pos [e]) irfc):E g Γ d (.Call (.Attribute o "append" apos) [e] [] pos) lo H Q:=by
 intro c ok fz mf m cl fz₁ led s hs I
 obtain ⟨pl,cf⟩:=cf c.env
 refine MethodCall_ ((h c ok fz).useV hs I fun {ov s₁ H₁ mf₁ m₁ cl₁ fz₂ led₁ v} I₁ hs₁ iv r_=>?_) cf
 refine ob_EEAA r_ fun a vs₀ ev hin q=>?_
 try clear r_
 subst ev
 have ez:=iv.refE
 subst ez
 obtain ⟨o,ho,io⟩:=I₁.hi.hr.at_ hin
 refine ob_EEA io.lstE fun xs n eo ha=>?_
 subst eo
 refine listMethod_K I₁.hi.news (List.mem_append.mpr (.inr (List.mem_append.mpr (.inl ho)))) PySem.F.slot_list_append PySem.F.type_list_append ?_
 refine PyProof.Rows.callWith_method1 ?_ (he _) rfl
 rw [he]
 refine spliced_cons ((q c ok fz₂).useV (fun _ x=>x) I₁ fun {y s₂ H₂ mf₂ m₂ cl₂ fz₃ led₂ v} I₂ hs₂ iv r_=>?_)
 refine ob_EEAA r_ fun vs H₃ hu hz qq=>?_
 try clear r_
 refine spliced_nil ?_
 refine ob_EEEAA (I₂.hi.hr.split hu) fun pre o post ez3 ho hr=>?_
 subst ez3
 refine ob_EEA ho.lstE fun xs n eo ha=>?_
 subst eo
 obtain ⟨news',U,back⟩:=I₂.hi.by_upd (o':=listOf (xs.toArray.push y) (n+1)) (hr _ (by
  have:IsAll (Cx.mem g fz₃) (xs++[y]) (vs++[v]):=ha.append (.cons iv .nil)
  have:=OIs.lst (n:=n+1) this
  simpa using this))
 exact append_K I₂.hi.fr I₂.hi.news U (fun h' F' N'=>⟨lo,H₃,mf₂,m₂,cl₂,fz₃,_,I₂.to s₂.toks (Nat.le_refl _) (back h' F' N'),fun p hp=>hs₂ p (hs₁ p hp),rfl,_,.none,qq⟩) (by rw [sizeLine_eq]; have:=ha.length; simp; exact ar 2 [_,_] (.im (.eq .v0 .v1) (.im (.le .v1 (.n 1000000)) (.le .v0 (.n 16777216)))) rfl this hz)
theorem E.pop {o:Expr} {apos pos:Pos} {Q:V→AH→Prop}
  (h:E g Γ d o lo H fun ov H₁=>∃ a vs v H₂,ov=.ref a∧MUpd a (.lst (vs++[v])) (.lst vs) H₁ H₂∧vs.length≤1000000∧Q v H₂)
  (cf:autoParam (CallForm o "pop" apos pos []) irfc):E g Γ d (.Call (.Attribute o "pop" apos) [] [] pos) lo H Q:=by
 intro c ok fz mf m cl fz₁ led s hs I
 obtain ⟨pl,cf⟩:=cf c.env
 refine MethodCall_ ((h c ok fz).useV hs I fun {ov s₁ H₁ mf₁ m₁ cl₁ fz₂ led₁ v'} I₁ hs₁ iv r_=>?_) cf
 refine ob_EEEEAAA r_ fun a vs v H₂ ev hu hz q=>?_
 try clear r_
 subst ev
 have ez:=iv.refE
 subst ez
 refine ob_EEEAA (I₁.hi.hr.split hu) fun pre o post ez3 ho hr=>?_
 subst ez3
 refine ob_EEA ho.lstE fun xs n eo ha=>?_
 subst eo
 refine ob_EEAA ha.unsnoc fun ys y ez2 iy ia=>?_
 subst ez2
 have ho':OIs (Cx.mem g fz₂) (listOf ys.toArray (n+1)) (.lst vs):=.lst ia
 obtain ⟨news',U,back⟩:=I₁.hi.by_upd (hr _ ho')
 refine listMethod_K I₁.hi.news (List.mem_append.mpr (.inr (List.mem_append.mpr (.inl (by simp)))):(a,listOf (ys++[y]).toArray n)∈_) PySem.F.slot_list_pop PySem.F.type_list_pop ?_
 refine PyProof.Rows.callWith_method0 ?_
 exact kl_pop I₁.hi.fr I₁.hi.news (kl_last_of ys y) U (by rw [sizeLine_eq]; have:=ia.length; simp; exact ar 2 [_,_] (.im (.eq .v0 .v1) (.im (.le .v1 (.n 1000000)) (.le .v0 (.n 16777215)))) rfl this hz) (fun h' F' N'=>⟨lo,H₂,mf₁,m₁,cl₁,fz₂,_,I₁.to s₁.toks (Nat.le_refl _) (back h' F' N'),hs₁,rfl,_,iy,q⟩)
end
end
section
open PySem.Builtin PySem.Builtin.Str
theorem joinS (ss:List (List Nat)):Txt.join (Str.ofString "") (ss.map S')=S' ss.flatten:=by
 unfold Txt.join
 rw [StrLaws.glued_eq_join]
 induction ss with
 | nil=>rfl
 | cons x r ih =>
  cases r with
  | nil=>simp [Str.join]
  | cons y r =>
   have e:Str.join (Str.ofString "") ((x::y::r).map S')=S' x++Str.ofString ""++Str.join (Str.ofString "") ((y::r).map S'):=rfl
   rw [e,ih]
   show Str.append (Str.append (S' x) (Str.ofString "")) (S' _)=_
   unfold S' Str.append
   congr 1
   apply Array.toList_inj.mp
   have:(Str.ofString "").cps.toList=[]:=by decide
   simp [this]
theorem strs_of {M:Mem} {xs:List Value} {ss:List (List Nat)} (i:IsAll M xs (ss.map V.str)):∃ l:List (Str × Tok),xs=strValues l∧l.map (·.1)=ss.map S':=by
 induction ss generalizing xs with
 | nil=>exact ⟨[],i.nilE,rfl⟩
 | cons s ss ih =>
  refine ob_EEAA (IsAll.consE i) fun v r e i t=>?_
  refine ob_EEA i.strE fun x tk e' ex=>?_
  obtain ⟨l,e2,q⟩:=ih t
  exact ⟨(x,tk)::l,by rw [e,e',e2]; rfl,by rw [List.map_cons,List.map_cons,q,← ex,S'_of]⟩
theorem IsAll.one {M:Mem} {xs:List Value} {d:V} (i:IsAll M xs [d]):∃ x,xs=[x]∧Is M x d:=by
 refine ob_EEAA i.consE fun x r e i t=>?_
 exact ⟨x,by rw [e,t.nilE],i⟩
theorem IsAll.two {M:Mem} {xs:List Value} {d d':V} (i:IsAll M xs [d,d']):∃ x y,xs=[x,y]∧Is M x d∧Is M y d':=by
 refine ob_EEAA i.consE fun x r e i t=>?_
 obtain ⟨y,e',j⟩:=t.one
 exact ⟨x,y,by rw [e,e'],i,j⟩
theorem IsAll.ssi {M:Mem} {xs:List Value} {s y:List Nat} {i:Int} (h:IsAll M xs [.str s,.str y,.int i]):∃ x t z u v,xs=[.str x t,.str z u,.int i v]∧x.cps.toList=s∧z.cps.toList=y:=by
 refine ob_EEAA h.consE fun _ r e i1 t=>?_
 refine ob_EEAA t.two fun _ _ e' i2 i3=>?_
 refine ob_EEA i1.strE fun x t e1 h1=>?_
 refine ob_EEA i2.strE fun z u e2 h2=>?_
 obtain ⟨v,e3⟩:=i3.intE
 exact ⟨x,t,z,u,v,by rw [e,e',e1,e2,e3],h1,h2⟩
theorem IsAll.ssii {M:Mem} {xs:List Value} {s y:List Nat} {i j:Int} (h:IsAll M xs [.str s,.str y,.int i,.int j]):∃ x t z u v w,xs=[.str x t,.str z u,.int i v,.int j w]∧x.cps.toList=s∧z.cps.toList=y:=by
 refine ob_EEAA h.consE fun _ r e i1 t=>?_
 refine ob_EEAA t.consE fun _ r' e' i2 t=>?_
 refine ob_EEAA t.two fun _ _ e'' i3 i4=>?_
 refine ob_EEA i1.strE fun x t e1 h1=>?_
 refine ob_EEA i2.strE fun z u e2 h2=>?_
 obtain ⟨v,e3⟩:=i3.intE
 obtain ⟨w,e4⟩:=i4.intE
 exact ⟨x,t,z,u,v,w,by rw [e,e',e'',e1,e2,e3,e4],h1,h2⟩
theorem str_nil {x:Str} (e:x.cps.toList=[]):x=Str.ofString "":=by
 have:S' x.cps.toList=S' []:=by rw [e]
 rw [S'_of] at this; rw [this]; rfl
theorem strs_are (l:List (Str × Tok)):StrsAre (strValues l) (l.map (·.1)):=by
 induction l with
 | nil=>exact .nil
 | cons p r ih=>exact .cons _ _ ih
theorem joinOkS (ss:List (List Nat)) (h:ss.flatten.length+ss.length≤1000000):JoinOk (Str.ofString "") (ss.map S')=true:=by
 unfold JoinOk
 rw [Bool.not_eq_true']
 have e:((ss.map S').map (·.length))=ss.map (·.length):=by simp [Function.comp_def,S'_len]
 refine joinFits_of_weight ?_ (by decide)
 have q:=List.length_flatten (L:=ss)
 rw [e,List.length_map]
 show (ss.map List.length).sum+ss.length≤_
 exact ar 3 [_,_,_] (.im (.le (.a .v2 .v1) (.n 1000000)) (.im (.eq .v2 .v0) (.le (.a .v0 .v1) (.n 1048576)))) rfl h q
section
variable {g:Gx} {Γ:Fx} {d:Nat} {lo:Loc} {H:AH} {Q:V→AH→Prop}
theorem CB.len_str {s:List Nat} (hl:s.length < 2 ^ 62) (h:Q (.int s.length) H):CallB g d (.builtin "len") [.str s] H Q:=by
 intro Γ c ok fz lo xs is
 obtain ⟨_,e,i⟩:=is.one
 refine ob_EEA i.strE fun x t e' ex=>?_
 subst e; subst e'; subst ex
 exact W.now fun mf m cl fz₁ led s hs I P _ k=>PySem.P.len_str (by rw [str_len]; exact Int.not_le.mpr (lt63 hl)) (k _ _ (I.toks _) ⟨rfl,_,.int _ _,by rw [str_len]; exact h⟩)
theorem CB.len_lst {vs:List V} (hl:vs.length < 2 ^ 62) (h:Q (.int vs.length) H):CallB g d (.builtin "len") [.lst vs] H Q:=by
 intro Γ c ok fz lo xs is
 obtain ⟨_,e,i⟩:=is.one
 refine ob_EEEAA i.lstE fun _ _ _ e' hm ha=>?_
 subst e; subst e'
 exact W.now fun mf m cl fz₁ led s hs I P _ k=>call_len_list ⟨_,I.hi.there ok.stays (mem_mono hs _ _ hm),rfl,_,rfl⟩ (by rw [List.size_toArray,ha.length]; exact lt63 hl) (k _ _ (I.toks _) ⟨rfl,_,.int _ _,by rw [List.size_toArray,ha.length]; exact h⟩)
theorem CB.ord {n:Nat} (h:Q (.int n) H):CallB g d (.builtin "ord") [.str [n]] H Q:=by
 intro Γ c ok fz lo xs is
 obtain ⟨_,e,i⟩:=is.one
 refine ob_EEA i.strE fun x t e' ex=>?_
 subst e; subst e'
 have e1:x.length=1:=by rw [str_len,ex]; rfl
 have e2:x.cps.getD 0 0=n:=by rw [← Array.toArray_toList (xs:=x.cps),ex]; rfl
 exact W.now fun mf m cl fz₁ led s hs I P _ k=>ord_of_one e1 (k _ _ (I.toks _) ⟨rfl,_,.int _ _,by rw [e2]; exact h⟩)
theorem CB.chr {i:Int} (h0:0≤i) (h1:i≤1114111) (h:Q (.str [i.toNat]) H):CallB g d (.builtin "chr") [.int i] H Q:=by
 intro Γ c ok fz lo xs is
 obtain ⟨_,e,i⟩:=is.one
 obtain ⟨t,e'⟩:=i.intE
 subst e; subst e'
 exact W.now fun mf m cl fz₁ led s hs I P _ k=>chr_of_range h0 h1 (k _ _ (I.toks _) ⟨rfl,_,.str _ _ rfl,h⟩)
theorem CB.min {a b:Int} (h:Q (.int (if b < a then b else a)) H):CallB g d (.builtin "min") [.int a,.int b] H Q:=by
 intro Γ c ok fz lo xs is
 refine ob_EEAA is.two fun _ _ e i j=>?_
 obtain ⟨t,e'⟩:=i.intE
 obtain ⟨u,e''⟩:=j.intE
 subst e; subst e'; subst e''
 refine W.grown fun mf m cl fz₁ led s hs I P _ k=>min_two_ints ok.handled fun h' tk hk=>?_
 by_cases q:b < a
 ·rw [if_pos q] at h ⊢
  exact k _ _ _ (I.hi.grow hk) ⟨rfl,_,.int _ _,h⟩
 ·rw [if_neg q] at h ⊢
  exact k _ _ _ (I.hi.grow hk) ⟨rfl,_,.int _ _,h⟩
theorem CB.int {s:List Nat} {n:Int} (hn:PySem.intText? (S' s)=some n) (hl:s.length≤640) (h:Q (.int n) H):CallB g d (.type "int") [.str s] H Q:=by
 intro Γ c ok fz lo xs is
 obtain ⟨_,e,i⟩:=is.one
 refine ob_EEA i.strE fun x t e' ex=>?_
 subst e; subst e'; subst ex
 rw [S'_of] at hn
 exact W.now fun mf m cl fz₁ led s hs I P _ k=>KIN.call_text hn (by rw [str_len]; exact hl) (k _ _ (I.toks _) ⟨rfl,_,.int _ _,h⟩)
theorem CB.hex {s:List Nat} (hx:∀ c∈s,isHex c=true) (ne:s≠[]) (hl:s.length≤6) (h:Q (.int (hexVal s:Nat)) H):CallB g d (.type "int") [.str s,.int 16] H Q:=by
 intro Γ c ok fz lo xs is
 refine ob_EEAA is.two fun _ _ e i j=>?_
 refine ob_EEA i.strE fun x t e' ex=>?_
 obtain ⟨u,e''⟩:=j.intE
 subst e; subst e'; subst e''; subst ex
 exact W.now fun mf m cl fz₁ led s hs I P _ k=>call_hex hx ne hl (k _ _ (I.toks _) ⟨rfl,_,.int _ _,h⟩)
theorem CB.sw {s y:List Nat} {i:Int} (h:Q (.bool (swAt s y i)) H):CallB g d (.builtin "str.startswith") [.str s,.str y,.int i] H Q:=by
 intro Γ c ok fz lo xs is
 refine ob_EEEEEAA is.ssi fun x t z u v e ex ez=>?_
 subst e; subst ex; subst ez
 exact W.now fun mf m cl fz₁ led s hs I P _ k=>SC.startswith3 (k _ _ I.z ⟨rfl,_,.bool _,by rw [sw_list]; exact h⟩)
theorem CB.swT {s:List Nat} {ys:List (List Nat)} {i:Int} (h:Q (.bool (ys.any fun y=>swAt s y i)) H):CallB g d (.builtin "str.startswith") [.str s,.tup (ys.map V.str),.int i] H Q:=by
 intro Γ c ok fz lo xs is
 refine ob_EEAA is.consE fun _ _ e i t=>?_
 refine ob_EEAA t.two fun _ _ e' j k=>?_
 refine ob_EEA i.strE fun x t e1 ex=>?_
 refine ob_EEEAA j.tupE fun a vs n e2 hm ha=>?_
 obtain ⟨u,e3⟩:=k.intE
 obtain ⟨l,e4,q⟩:=strs_of ha
 subst e; subst e'; subst e1; subst e2; subst e3; subst ex; subst e4
 refine W.now fun mf m cl fz₁ led s hs I P _ k=>call_swT (I.hi.there ok.stays (mem_mono hs _ _ hm)) (strs_are l) (k _ _ I.z ⟨rfl,_,.bool _,?_⟩)
 rw [q,List.any_map]
 simpa only [Function.comp_def,S'_list] using h
theorem CB.find {s y:List Nat} {i:Int} (h:Q (.int (findAt s y i)) H):CallB g d (.builtin "str.find") [.str s,.str y,.int i] H Q:=by
 intro Γ c ok fz lo xs is
 refine ob_EEEEEAA is.ssi fun x t z u v e ex ez=>?_
 subst e; subst ex; subst ez
 unfold findAt at h
 rw [S'_of,S'_of] at h
 exact W.now fun mf m cl fz₁ led s hs I P _ k=>SC.find3 (k _ _ (I.toks _) ⟨rfl,_,.int _ _,h⟩)
theorem CB.rfind {s y:List Nat} {i j:Int} (h:Q (.int (rfindAt s y i j)) H):CallB g d (.builtin "str.rfind") [.str s,.str y,.int i,.int j] H Q:=by
 intro Γ c ok fz lo xs is
 refine ob_EEEEEEAA is.ssii fun x t z u v w e ex ez=>?_
 subst e; subst ex; subst ez
 exact W.now fun mf m cl fz₁ led s hs I P _ k=>call_rfind (k _ _ (I.toks _) ⟨rfl,_,.int _ _,h⟩)
theorem CB.count {s y:List Nat} {i j:Int} (h:Q (.int (countAt s y i j)) H):CallB g d (.builtin "str.count") [.str s,.str y,.int i,.int j] H Q:=by
 intro Γ c ok fz lo xs is
 refine ob_EEEEEEAA is.ssii fun x t z u v w e ex ez=>?_
 subst e; subst ex; subst ez
 exact W.now fun mf m cl fz₁ led s hs I P _ k=>call_count (k _ _ (I.toks _) ⟨rfl,_,.int _ _,h⟩)
theorem join_list {c:Cx} {fz:Led} {ss:List (List Nat)} (hl:ss.flatten.length+ss.length≤1000000) (h:Q (.str ss.flatten) H) {x:Str} {t:Tok} (ex:x.cps.toList=[]) {a:Addr} (hh:∀ mf m cl fz₁ led s,(∀ p∈fz,p∈fz₁)→Inv g c lo H mf m cl fz₁ led s→∃ vs n M,IsAll M vs (ss.map V.str)∧s.heap.get? a=some (listOf vs.toArray n)) :
  W g c fz (call (.builtin "str.join") [.str x t,.ref a]) lo H (VP g lo Q) :=
 W.now fun mf m cl fz₁ led s hs I P _ k=>by
  refine ob_EEEA (hh mf m cl fz₁ led s hs I) fun vs n M ha hg=>?_
  obtain ⟨l,e,q⟩:=strs_of ha
  subst e
  rw [str_nil ex]
  exact SC.join ⟨_,hg,rfl,_,rfl⟩ q (joinOkS ss hl) fun t' kk=>k _ _ (I.toks _) ⟨rfl,_,.str _ _ rfl,by rw [joinS,S'_list]; exact h⟩
theorem CB.join {ss:List (List Nat)} (hl:ss.flatten.length+ss.length≤1000000) (h:Q (.str ss.flatten) H):CallB g d (.builtin "str.join") [.str [],.lst (ss.map V.str)] H Q:=by
 intro Γ c ok fz lo xs is
 refine ob_EEAA is.two fun _ _ e i j=>?_
 refine ob_EEA i.strE fun x t e1 ex=>?_
 refine ob_EEEAA j.lstE fun a vs n e2 hm ha=>?_
 subst e; subst e1; subst e2
 exact join_list hl h ex fun mf m cl fz₁ led s hs I=>⟨vs,n,_,ha,I.hi.there ok.stays (mem_mono hs _ _ hm)⟩
end
end
section
open PySem.Builtin PySem.Builtin.Str
section
variable {g:Gx} {Γ:Fx} {d:Nat} {lo:Loc} {H:AH} {c:Cx} {fz:Led}
theorem callWithT_W {T:String} {e:Expr} {rest:List Expr} {pos:Pos} {Q:Led→Value→Loc→AH→Prop}
  (h:W g c fz (spliced (backTo pos (starEach (e::rest) c.env))) lo H (fun fz' vs lo' H'=>W g c fz' (call (.type T) vs) lo' H' Q))
  (he:starEach (e::rest) c.env=(false,eval e c.env)::starEach rest c.env) (hplain:(backTo pos (starEach rest c.env)).any (·.1)=false) :
  W g c fz (callWith pos (.type T) [] (backTo pos (starEach (e::rest) c.env)) []) lo H Q:=by
 intro mf m cl fz₁ led s hs I
 exact callWith_type1 (wpAny_mono (h mf m cl fz₁ led s hs I) (fun vs s' ⟨lo',H',mf',m',cl',fz',led',I',hs',q⟩=>q.rest (fun _ x=>x) I' hs') fun _ _ x=>x) he hplain
theorem E.callT {x:Str} {p pos:Pos} {T:String} {e:Expr} {rest:List Expr} {Q:V→AH→Prop} (hf:(x,.type T)∈Γ.globs)
  (h:Es g Γ d (e::rest) lo H fun vs H₁=>CallB g d (.type T) vs H₁ Q)
  (he:autoParam (∀ env,starEach (e::rest) env=(false,eval e env)::starEach rest env) irfa) (hplain:autoParam (∀ env,(backTo pos (starEach rest env)).any (·.1)=false) irfa):E g Γ d (.Call (.Name x p) (e::rest) [] pos) lo H Q:=by
 intro c ok fz
 refine W.cast (t:=do callWith pos (← eval (.Name x p) c.env) [] (backTo pos (starEach (e::rest) c.env)) []) ?_ rfl
 refine W.bindV ((E.glo hf (Q:=fun v H'=>v=.glo _∧H'=H) ⟨rfl,rfl⟩ c ok fz)) fun fz₁ x v H₁ s₁ i r_=>?_
 obtain ⟨ev,eH⟩:=r_
 subst ev; subst eH
 have ez:=i.gloE
 subst ez
 exact callWithT_W ((h c ok fz₁ pos).elimVs fun fz₂ xs vs H₂ s₂ is q=>q Γ c ok fz₂ _ xs is) (he _) (hplain _)
theorem E.replace {o:Expr} {apos pos p1 p2:Pos} {y z:Str} {k1 k2:Nat} {Q:V→AH→Prop} (hyz:(y==z)=false)
  (h:E g Γ d o lo H fun ov H₁=>∃ x,ov=.str x∧x.length+(x.length+1) * z.length≤16777216∧Q (.str (Txt.replace (S' x) y z).cps.toList) H₁)
  (cf:autoParam (CallForm o "replace" apos pos [.Constant (.str y) k1 p1,.Constant (.str z) k2 p2]) irfc) :
  E g Γ d (.Call (.Attribute o "replace" apos) [.Constant (.str y) k1 p1,.Constant (.str z) k2 p2] [] pos) lo H Q:=by
 intro c ok fz mf m cl fz₁ led s hs I
 obtain ⟨pl,cf⟩:=cf c.env
 refine MethodCall_ ((h c ok fz).useV hs I fun {ov s₁ H₁ mf₁ m₁ cl₁ fz₂ led₁ v} I₁ hs₁ iv r_=>?_) cf
 refine ob_EAA r_ fun x ev hz q=>?_
 try clear r_
 subst ev
 refine ob_EEA iv.strE fun x t ez e=>?_
 subst ez
 subst e
 with_reducible refine GM.replace ?_
 refine PyProof.Rows.callWith_method1 ?_
 refine spliced_cons (Constant_str (k:=k1) (pos:=p1) (spliced_cons (Constant_str (k:=k2) (pos:=p2) (spliced_nil ?_))))
 have tk:=I₁.tk
 rw [S'_of] at q
 refine wpAny_with_toks (n:=1) (Nat.le_trans tk (Nat.le_trans (Nat.le_succ _) (Nat.le_succ _))) ?_
 exact SC.replace (Nat.pos_iff_ne_zero.mp tk) (Nat.succ_ne_zero _) (Nat.ne_of_lt (Nat.lt_succ_self _)) hyz (by rw [str_len x]; exact hz) fun t' k hk=>⟨lo,H₁,mf₁,m₁,cl₁,fz₂,led₁,(I₁.toks k).up hk,hs₁,rfl,_,.str _ _ rfl,q⟩
end
end
section
open PySem.Builtin PySem.Builtin.Str
noncomputable def valA:CFound→Option Addr
 | .val (.ref f)=>some f
 | _=>none
theorem valA_some {x:CFound} {p:Addr} (h:valA x=some p):x=.val (.ref p):=by
 induction x with
 | val a=>cases a <;> first | (cases h; rfl) | cases h
 | _=>cases h
noncomputable def clsFn (K:Frag) (C:Addr) (name:Str):Option Addr :=
 if specialIn K (.ref C) "__getattribute__"==some (some (.builtin "type.__getattribute__")) then
  (typeIn K (.ref C)).bind fun mc=>if readsIn K C mc then (findCls K (.ref C) mc name).bind valA else none
 else none
section
variable {g:Gx} {Γ:Fx} {d:Nat} {lo:Loc} {H:AH} {c:Cx} {fz:Led}
set_option tactic.hygienic true in
theorem E.cmeth {x name:Str} {C f:Addr} {p apos pos:Pos} {e:Expr} {rest:List Expr} {Q:V→AH→Prop} (hC:(x,.ref C)∈Γ.globs) (hf:clsFn g.K C name=some f) (hk:keepIn g.K (.ref f)=true)
  (h:Es g Γ d (e::rest) lo H fun vs H₁=>Call g d (.ref f) vs H₁ Q)
  (he:autoParam (∀ env,starEach (e::rest) env=(false,eval e env)::starEach rest env) irfa) (hplain:autoParam (∀ env,(backTo pos (starEach rest env)).any (·.1)=false) irfa)
  (cf:autoParam (CallForm (.Name x p) name apos pos (e::rest)) irfc):E g Γ d (.Call (.Attribute (.Name x p) name apos) (e::rest) [] pos) lo H Q:=by
 intro c ok fz mf m cl fz₁ led s hs I
 obtain ⟨pl,cf⟩:=cf c.env
 refine MethodCall_ (((E.glo hC (Q:=fun v H'=>v=.glo (.ref C)∧H'=H) ⟨rfl,rfl⟩) c ok fz).useV hs I fun {ov s₁ H₁ mf₁ m₁ cl₁ fz₂ led₁ v} I₁ hs₁ iv r_=>?_) cf
 obtain ⟨ev,eH⟩:=r_
 subst ev; subst eH
 have ez:=iv.gloE
 subst ez
 obtain ⟨q1,hf⟩:=ite_some hf
 obtain ⟨mc,q2,hf⟩:=Option.bind_eq_some_iff.mp hf
 obtain ⟨q3,hf⟩:=ite_some hf
 obtain ⟨r,q4,hf⟩:=Option.bind_eq_some_iff.mp hf
 rw [valA_some hf] at q4
 have X₀:g.K.In c.h₀:=ok.gok.kin.keeps fun b o e=>ok.stays b o e
 refine method_of_cls I₁.hi.fr X₀ (beq_iff_eq.mp q1) (cls_val I₁.hi.fr X₀ q2 q3 q4 rfl ?_)
 exact W.rest (callWith_W (first:=[]) ok hk ((h c ok fz₂ pos).elimVs fun fz₃ xs vs H₂ s₂ is q=>q.W ok is) (he _) (hplain _)) (fun _ x=>x) (I₁.to (s₁.toks+1) (Nat.le_succ _) I₁.hi) hs₁
theorem app_list (x y:Str):(x++y).cps.toList=x.cps.toList++y.cps.toList:=by
 show (Str.append x y).cps.toList=_
 unfold Str.append
 simp
noncomputable def Parts (g:Gx) (Γ:Fx) (d:Nat):List Expr→List Nat→Loc→AH→(V→AH→Prop)→Prop
 | [],acc,_,H,Q=>Q (.str acc) H
 | e::r,acc,lo,H,Q=>E g Γ d e lo H fun v H₁=>∃ y,v=.str y∧acc.length+y.length≤1000000∧Parts g Γ d r (acc++y) lo H₁ Q
theorem small_line {n:Nat} (h:n≤1000000):n≤sizeLine:=by rw [sizeLine_eq]; exact ar 1 [_] (.im (.le .v0 (.n 1000000)) (.le .v0 (.n 16777216))) rfl h
theorem Parts.joins {es:List Expr} {acc:Str} {lo:Loc} {H:AH} {Q:V→AH→Prop} (hz:acc.length≤1000000) (h:Parts g Γ d es acc.cps.toList lo H Q) (ok:c.Ok g Γ d) {fz₀:Led} {mf m:Str→Option Value} {cl fz led:Led} {s:Shared} (h0:∀ p∈fz₀,p∈fz) (I:Inv g c lo H mf m cl fz led s) :
  Joins (model g.prog g.w) c.A (fun _ _=>False) (evalEach es c.env) acc (fun out s₁=>out.length≤sizeLine∧WP g c fz₀ (VP g lo Q) (.str out s₁.toks) { s₁ with toks:=s₁.toks+1 }) s:=by
 induction es generalizing acc H mf m cl fz led s with
 | nil=>exact ⟨small_line hz,.mk _ _ _ _ _ _ _ (I.to (s.toks+1) (Nat.le_succ _) I.hi) h0 ⟨rfl,_,.str _ _ rfl,h⟩⟩
 | cons e r ih =>
  refine (h c ok fz).useV (fun _ x=>x) I fun {x s₁ H₁ mf₁ m₁ cl₁ fz₁ led₁ v} I₁ hs₁ iv r_=>?_
  refine ob_EAA r_ fun y ev hl q=>?_
  try clear r_
  subst ev
  refine ob_EEA iv.strE fun x t e ex=>?_
  subst e; subst ex
  have hz':(acc++x).length≤1000000:=by rw [str_len,app_list,List.length_append]; exact hl
  exact ⟨x,t,rfl,small_line hz',ih hz' (by rw [app_list]; exact q) (fun p hp=>hs₁ p (h0 p hp)) I₁⟩
theorem E.fstr {e₁ e₂:Expr} {r:List Expr} {pos:Pos} {Q:V→AH→Prop} (h:Parts g Γ d (e₁::e₂::r) [] lo H Q):E g Γ d (.JoinedStr (e₁::e₂::r) pos) lo H Q:=by
 intro c ok fz mf m cl fz₁ led s hs I
 exact wpAny_JoinedStr (Parts.joins (acc:=Str.empty) (Nat.zero_le _) h ok (fun _ x=>x) I)
theorem E.fval {e:Expr} {pos:Pos} {Q:V→AH→Prop} (h:E g Γ d e lo H fun v H₁=>∃ s,v=.str s∧s.length≤1000000∧Q v H₁):E g Γ d (.FormattedValue e (-1) Option.none pos) lo H Q:=by
 intro c ok fz mf m cl fz₁ led s hs I
 refine wpAny_FormattedValue_plain ((h c ok fz).useV hs I fun {x s₁ H₁ mf₁ m₁ cl₁ fz₂ led₁ v} I₁ hs₁ iv r_=>?_)
 refine ob_EAA r_ fun y ev hl q=>?_
 try clear r_
 subst ev
 refine ob_EEA iv.strE fun x t e ex=>?_
 subst e
 exact wpAny_formatField_str (.mk _ _ _ _ _ _ _ I₁ hs₁ ⟨rfl,_,.str _ _ ex,q⟩) (.mk _ _ _ _ _ _ _ (I₁.to (s₁.toks+1) (Nat.le_succ _) I₁.hi) hs₁ ⟨rfl,_,.str _ _ ex,q⟩) (by subst ex; rw [str_len]; exact small_line hl)
end
end
section
open PySem.Builtin PySem.Builtin.Str
noncomputable def Cx.pin (c:Cx) (p:Addr × Obj):Cx:={ c with pins:=p::c.pins }
section
variable {g:Gx} {Γ:Fx} {d:Nat} {lo:Loc} {H:AH} {c:Cx} {mf m:Str→Option Value} {cl fz led:Led} {h h':Heap} {a:Addr} {o o':Obj}
theorem Cx.Ok.pin (ok:c.Ok g Γ d) (p:Addr × Obj):(c.pin p).Ok g Γ d :=
 { gok:=ok.gok,below:=ok.below,frames:=ok.frames,handled:=ok.handled,fframe:=ok.fframe,fkind:=ok.fkind,bot:=ok.bot,scope:=ok.scope,kind:=ok.kind,globals:=ok.globals,builtins:=ok.builtins,room:=ok.room,units:=ok.units,globs:=ok.globs,code:=ok.code,cells:=ok.cells }
theorem pin_led (p:Addr × Obj):cl++(led++((c.pin p).pins++fz))=(cl++led)++p::(c.pins++fz):=by
 show cl++(led++((p::c.pins)++fz))=_
 simp
theorem flat_led:cl++(led++(c.pins++fz))=(cl++led)++(c.pins++fz):=by simp
theorem HI.pinNew (I:HI g c lo H mf m cl fz led h) (o:Obj) (hf:autoParam (o.isFreed=false) irfa):HI g (c.pin (h.objs.size,o)) lo H mf m cl fz led (h.push o):=by
 have N:=I.newN o hf
 rw [flat_led] at N
 refine ⟨I.fr.push o,I.clr.to rfl rfl rfl,?_,?_,I.lok,I.loc,I.hr⟩
 ·rw [pin_led]
  intro p hp
  rcases mem_mid hp with rfl | hp
  ·exact N _ (.head _)
  ·exact N _ (.tail _ hp)
 ·rw [pin_led]
  refine nodup_mid (by rw [← flat_led]; exact I.nd) fun p hp=>?_
  rw [← flat_led] at hp
  exact Nat.ne_of_lt (I.fresh_lt p hp)
theorem HI.unpin {p:Addr × Obj} (I:HI g (c.pin p) lo H mf m cl fz led h):HI g c lo H mf m cl fz led h:=by
 have N:=I.news
 have D:=I.nd
 rw [pin_led] at N D
 refine ⟨I.fr,I.clr.to rfl rfl rfl,?_,?_,I.lok,I.loc,I.hr⟩
 ·rw [flat_led]
  intro p hp
  exact N p ((List.mem_append.mp hp).elim (fun q=>List.mem_append.mpr (.inl q)) fun q=>List.mem_append.mpr (.inr (.tail _ q)))
 ·rw [flat_led]
  refine D.sublist ?_
  simp only [List.map_append,List.map_cons]
  exact (List.Sublist.refl _).append ((List.Sublist.refl _).cons _)
theorem HI.pin_off (I:HI g (c.pin (a,o)) lo H mf m cl fz led h):(∀ p∈cl++led,p.1≠a)∧∀ p∈c.pins++fz,p.1≠a:=by
 have D:=I.nd
 rw [pin_led] at D
 simp only [List.map_append,List.map_cons] at D
 have hh:=(List.perm_middle.nodup_iff).mp D
 have hn:=(List.nodup_cons.mp hh).1
 refine ⟨fun p hp e=>hn ?_,fun p hp e=>hn ?_⟩
 ·rw [← e]
  refine List.mem_append_left _ ?_
  rw [← List.map_append]
  exact List.mem_map_of_mem (f:=(·.1)) hp
 ·rw [← e]
  refine List.mem_append_right _ ?_
  rw [← List.map_append]
  exact List.mem_map_of_mem (f:=(·.1)) hp
theorem HI.pin_at (I:HI g (c.pin (a,o)) lo H mf m cl fz led h):h.get? a=some o∧a≠c.L∧c.h₀.get? a=none:=by
 have N:=I.news
 rw [pin_led] at N
 exact N (a,o) (by simp)
theorem HI.repin (I:HI g (c.pin (a,o)) lo H mf m cl fz led h) (hs:Heap.SameBut a h h') (ho:h'.get? a=some o'):HI g (c.pin (a,o')) lo H mf m cl fz led h':=by
 have N:=I.news
 have off:=I.pin_off
 have D:=I.nd
 rw [pin_led] at N D
 refine ⟨I.fr.change hs I.pin_at.2.1 I.pin_at.2.2,I.clr.to rfl rfl rfl,?_,?_,I.lok,I.loc,I.hr⟩
 ·rw [pin_led]; exact news_set N off.1 off.2 hs ho
 ·rw [pin_led]; simpa using D
theorem HI.endpin (I:HI g (c.pin (a,o)) lo H mf m cl fz led h) (hs:Heap.ExtBut a h h'):HI g c lo H mf m cl fz led h':=by
 have N:=I.news
 have off:=I.pin_off
 have J:=I.unpin
 rw [pin_led] at N
 have q:=I.pin_at
 refine ⟨⟨I.fr.ns.extBut hs q.2.1.symm,fun b x e=>hs b x (fun hb=>?_) (I.fr.keep b x e),I.fr.above⟩,I.clr.to rfl rfl rfl,?_,J.nd,I.lok,I.loc,I.hr⟩
 ·subst hb
  have e':c.h₀.get? b=some x:=e
  rw [q.2.2] at e'; cases e'
 ·rw [flat_led]
  intro p hp
  have z:=N p ((List.mem_append.mp hp).elim (fun q=>List.mem_append.mpr (.inl q)) fun q=>List.mem_append.mpr (.inr (.tail _ q)))
  exact ⟨hs _ _ ((List.mem_append.mp hp).elim (off.1 p) (off.2 p)) z.1,z.2⟩
noncomputable def rngV (x step:Int):Nat→List V
 | 0=>[]
 | n+1=>.int x::rngV (x+step) step n
inductive ItR (M:Mem) (h:Heap) (it:Addr):List V→Prop
 | lst {l:Addr} {xs:List Value} {n i:Nat} {vs:List V}:M l (listOf xs.toArray n)→h.IsListIter it l i→IsAll M (xs.drop i) vs→ItR M h it vs
 | asc {x:Str} {t:Tok} {i:Nat} {vs:List V}:h.IsStrIter it "str_ascii_iterator" x t i→vs=(x.cps.toList.drop i).map (fun c=>V.str [c])→ItR M h it vs
 | wide {x:Str} {t:Tok} {i:Nat} {vs:List V}:h.IsStrIter it "str_iterator" x t i→vs=(x.cps.toList.drop i).map (fun c=>V.str [c])→ItR M h it vs
 | rng {x left step:Int} {vs:List V}:IsRangeIter h it x left step→vs=rngV x step left.toNat→ItR M h it vs
theorem ItR.mono {M M':Mem} {it:Addr} {vs:List V} (r:ItR M h it vs) (hs:∀ a o,M a o→M' a o):ItR M' h it vs:=by
 induction r with
 | lst a b c=>exact .lst (hs _ _ a) b (c.mono hs)
 | asc a e=>exact .asc a e
 | wide a e=>exact .wide a e
 | rng a e=>exact .rng a e
theorem ItR.keeps {M:Mem} {it:Addr} {vs:List V} (r:ItR M h it vs) (hk:∀ o,h.get? it=some o→h'.get? it=some o):ItR M h' it vs:=by
 induction r with
 | lst a b c =>
  obtain ⟨o,b1,b2⟩:=b
  exact .lst a ⟨o,hk o b1,b2⟩ c
 | asc a e =>
  obtain ⟨o,b1,b2⟩:=a
  exact .asc ⟨o,hk o b1,b2⟩ e
 | wide a e =>
  obtain ⟨o,b1,b2⟩:=a
  exact .wide ⟨o,hk o b1,b2⟩ e
 | rng a e=>exact .rng (hk _ a) e
theorem IsAll.head {M:Mem} {xs:List Value} {i:Nat} {v:V} {vs:List V} (r:IsAll M (xs.drop i) (v::vs)):∃ x,xs[i]?=some x∧Is M x v∧IsAll M (xs.drop (i+1)) vs:=by
 cases hd:xs.drop i with
 | nil=>rw [hd] at r; cases r
 | cons x ys =>
  rw [hd] at r
  cases r with
  | cons a b =>
   have e1:xs[i]?=some x:=by
    have:(xs.drop i)[0]?=some x:=by rw [hd]; rfl
    simpa using this
   have e2:xs.drop (i+1)=ys:=by
    have:xs.drop (i+1)=(xs.drop i).drop 1:=by rw [List.drop_drop]
    rw [this,hd]; rfl
   exact ⟨x,e1,a,by rw [e2]; exact b⟩
theorem drop_head {xs:List Nat} {i:Nat} {v:V} {vs:List V} (e:v::vs=(xs.drop i).map (fun c=>V.str [c])):∃ c,xs[i]?=some c∧v=.str [c]∧vs=(xs.drop (i+1)).map (fun c=>V.str [c]):=by
 cases hd:xs.drop i with
 | nil=>rw [hd] at e; cases e
 | cons x ys =>
  rw [hd] at e
  have e1:xs[i]?=some x:=by
   have:(xs.drop i)[0]?=some x:=by rw [hd]; rfl
   simpa using this
  have e2:xs.drop (i+1)=ys:=by
   have:xs.drop (i+1)=(xs.drop i).drop 1:=by rw [List.drop_drop]
   rw [this,hd]; rfl
  rw [e2]
  injection e with e3 e4
  exact ⟨x,e1,e3,e4⟩
theorem next_item {E':Value→Shared→Prop} {s:Shared} {Q:Option Value→Shared→Prop} {v:V} {vs:List V} (ok:c.Ok g Γ d) (I:Inv g (c.pin (a,o)) lo H mf m cl fz led s) (r:ItR (Cx.mem g fz) s.heap a (v::vs))
  (k:∀ x o' s',Inv g (c.pin (a,o')) lo H mf m cl fz led s'→Is (Cx.mem g fz) x v→ItR (Cx.mem g fz) s'.heap a vs→Q (some x) s'):wpAny (model g.prog g.w) c.A (pyNext (.ref a)) Q E' s:=by
 cases r with
 | lst hm hit ha =>
  refine ob_EAA ha.head fun x e1 i1 i2=>?_
  refine wpAny_pyNext_list_item hit ⟨_,I.hi.there (ok.pin (a,o)).stays hm,rfl,_,rfl⟩ (by simpa using e1) fun h' hit' hs'=>?_
  obtain ⟨o',ho',r⟩:=id hit'
  exact k x o' _ ⟨I.hi.repin hs' ho',I.gens,I.os,I.tk⟩ i1 (.lst hm hit' i2)
 | asc hit e =>
  refine ob_EAA (drop_head e) fun n e1 ez2 e2=>?_
  subst ez2
  refine wpAny_pyNext_ascii_item hit (by rw [← Array.getElem?_toList]; exact e1) fun h' hit' hs'=>?_
  obtain ⟨o',ho',r⟩:=id hit'
  exact k _ o' _ ⟨I.hi.repin hs' ho',I.gens,I.os,Nat.le_trans I.tk (Nat.le_succ _)⟩ (.str _ _ rfl) (.asc hit' e2)
 | wide hit e =>
  refine ob_EAA (drop_head e) fun n e1 ez2 e2=>?_
  subst ez2
  refine wpAny_pyNext_wide_item hit (by rw [← Array.getElem?_toList]; exact e1) fun h' hit' hs'=>?_
  obtain ⟨o',ho',r⟩:=id hit'
  exact k _ o' _ ⟨I.hi.repin hs' ho',I.gens,I.os,Nat.le_trans I.tk (Nat.le_succ _)⟩ (.str _ _ rfl) (.wide hit' e2)
 | @rng x left step _ hit e =>
  cases hl:left.toNat with
  | zero=>rw [hl] at e; cases e
  | succ n =>
   rw [hl] at e
   change _=V.int x::rngV (x+step) step n at e
   injection e with e1 e2
   subst e1
   have hn:(left - 1).toNat=n:=by omega
   refine wpAny_pyNext_range_item hit (by omega) fun h' hit' hs'=>?_
   exact k _ _ _ ⟨I.hi.repin hs' hit',I.gens,I.os,Nat.le_trans I.tk (Nat.le_succ _)⟩ (.int _ _) (.rng hit' (by rw [hn]; exact e2))
theorem drop_none {α:Type} {xs:List α} {i:Nat} (h:xs.drop i=[]):xs[i]?=none:=by
 rw [List.getElem?_eq_none_iff]
 have:=congrArg List.length h
 simp at this
 exact ar 2 [_,_] (.im (.eq (.s .v0 .v1) .n0) (.le .v0 .v1)) rfl this
theorem next_end {E':Value→Shared→Prop} {s:Shared} {Q:Option Value→Shared→Prop} (ok:c.Ok g Γ d) (I:Inv g (c.pin (a,o)) lo H mf m cl fz led s) (r:ItR (Cx.mem g fz) s.heap a [])
  (k:∀ s',Inv g c lo H mf m cl fz led s'→Q none s'):wpAny (model g.prog g.w) c.A (pyNext (.ref a)) Q E' s:=by
 cases r with
 | lst hm hit ha =>
  refine wpAny_pyNext_list_end ok.handled hit ⟨_,I.hi.there (ok.pin (a,o)).stays hm,rfl,_,rfl⟩ ?_ fun h' hs'=>?_
  ·have:=ha.length
   rw [List.getElem?_toArray]
   exact drop_none (List.length_eq_zero_iff.mp this)
  ·exact k _ (⟨I.hi.endpin hs',I.gens,I.os,I.tk⟩)
 | asc hit e =>
  refine wpAny_pyNext_ascii_end ok.handled hit ?_ fun h' hs'=>k _ (⟨I.hi.endpin hs',I.gens,I.os,I.tk⟩)
  rw [← Array.getElem?_toList]
  exact drop_none (List.map_eq_nil_iff.mp e.symm)
 | wide hit e =>
  refine wpAny_pyNext_wide_end ok.handled hit ?_ fun h' hs'=>k _ (⟨I.hi.endpin hs',I.gens,I.os,I.tk⟩)
  rw [← Array.getElem?_toList]
  exact drop_none (List.map_eq_nil_iff.mp e.symm)
 | @rng x left step _ hit e =>
  refine wpAny_pyNext_range_end ok.handled hit ?_ fun h' hs'=>k _ (⟨I.hi.endpin hs',I.gens,I.os,I.tk⟩)
  cases hl:left.toNat with
  | zero=>omega
  | succ n=>rw [hl] at e; cases e
noncomputable def items:V→Option (List V)
 | .lst vs=>some vs
 | .str s=>some (s.map fun c=>.str [c])
 | .rng a b c=>if Builtin.Range.small a b c then some (rngV a c (Builtin.Range.rangeSize a b c).toNat) else none
 | _=>none
theorem iter_start {E':Value→Shared→Prop} {s:Shared} {Q:Value→Shared→Prop} {x:Value} {v:V} {vs:List V} (ok:c.Ok g Γ d) (I:Inv g c lo H mf m cl fz led s) (i:Is (Cx.mem g fz) x v) (e:items v=some vs)
  (k:∀ a o s',Inv g (c.pin (a,o)) lo H mf m cl fz led s'→ItR (Cx.mem g fz) s'.heap a vs→Q (.ref a) s'):wpAny (model g.prog g.w) c.A (pyIter x) Q E' s:=by
 cases i with
 | lst hm ha =>
  cases e
  refine wpAny_pyIter_list ⟨_,I.hi.there ok.stays hm,rfl,_,rfl⟩ (k _ _ _ ⟨I.hi.pinNew _ ?_,I.gens,I.os,I.tk⟩ (.lst hm ⟨_,Heap.get?_push_size _ rfl,rfl,rfl⟩ ha))
  rfl
 | str y t ey =>
  subst ey
  cases e
  cases hy:y.cps.all (· < 128) with
  | true =>
   refine wpAny_pyIter_ascii hy (k _ _ _ ⟨I.hi.pinNew _ ?_,I.gens,I.os,I.tk⟩ (.asc (i:=0) ⟨_,Heap.get?_push_size _ rfl,rfl,rfl⟩ rfl))
   rfl
  | false =>
   refine wpAny_pyIter_wide hy (k _ _ _ ⟨I.hi.pinNew _ ?_,I.gens,I.os,I.tk⟩ (.wide (i:=0) ⟨_,Heap.get?_push_size _ rfl,rfl,rfl⟩ rfl))
   rfl
 | @rng r a b c t u v hm =>
  change (if Builtin.Range.small a b c=true then some (rngV a c (Builtin.Range.rangeSize a b c).toNat) else Option.none)=some vs at e
  by_cases hsm:Builtin.Range.small a b c=true
  ·rw [if_pos hsm] at e
   cases e
   refine wpAny_pyIter_range (I.hi.there ok.stays hm) hsm (k _ _ _ ⟨I.hi.pinNew _ ?_,I.gens,I.os,I.tk⟩ (.rng (Heap.get?_push_size _ rfl) rfl))
   rfl
  ·rw [if_neg hsm] at e; cases e
 | _=>cases e
end
end
section
open PySem.Builtin PySem.Builtin.Str
section
variable {g:Gx} {Γ:Fx} {d:Nat} {lo:Loc} {H:AH}
theorem Inv.unpin {c:Cx} {p:Addr × Obj} {mf m:Str→Option Value} {cl fz led:Led} {s:Shared} (I:Inv g (c.pin p) lo H mf m cl fz led s):Inv g c lo H mf m cl fz led s:=⟨I.hi.unpin,I.gens,I.os,I.tk⟩
noncomputable abbrev KFor (J:List V→Loc→AH→Prop) (rest:List V) (Q:R→Loc→AH→Prop):R→Loc→AH→Prop:=fun r lo' H'=>match r with
 | .next | .cont=>J rest lo' H'
 | .brk=>Q .next lo' H'
 | .ret w=>Q (.ret w) lo' H'
set_option genInjectivity false in
inductive FI (g:Gx) (c:Cx) (fz₁:Led) (a:Addr) (J:List V→Loc→AH→Prop) (n:Nat) (s:Shared):Prop
 | mk {vs:List V} {o:Obj} {lo:Loc} {H:AH} {mf m:Str→Option Value} {cl fz' led:Led} (e:vs.length=n) (j:J vs lo H) (I:Inv g (c.pin (a,o)) lo H mf m cl fz' led s) (r:ItR (Cx.mem g fz') s.heap a vs) (hz:∀ p∈fz₁,p∈fz')
theorem Inv.itr {c:Cx} {a:Addr} {o:Obj} {lo lo':Loc} {H H':AH} {mf m mf' m':Str→Option Value} {cl fz led cl' fz' led':Led} {s s':Shared} {vs:List V} {M M':Mem} (I:Inv g (c.pin (a,o)) lo H mf m cl fz led s) (I':Inv g (c.pin (a,o)) lo' H' mf' m' cl' fz' led' s') (r:ItR M s.heap a vs) (hs:∀ a o,M a o→M' a o):ItR M' s'.heap a vs :=
 (r.mono hs).keeps fun o e=>by
  have q:=I.hi.pin_at.1
  rw [q] at e; cases e
  exact I'.hi.pin_at.1
theorem S.for_ {x:Str} {px:Pos} {iter:Expr} {body orelse:List Stmt} {pos:Pos} {Q:R→Loc→AH→Prop}
  (h:E g Γ d iter lo H fun v H₁=>∃ vs,items v=some vs∧∃ J:List V→Loc→AH→Prop,J vs lo H₁ ∧
   (∀ v rest lo H,J (v::rest) lo H→PutK x v lo fun lo'=>Ss g Γ d body lo' H (KFor J rest Q)) ∧
   (∀ lo H,J [] lo H→Ss g Γ d orelse lo H Q))
  (hs:autoParam (∀ env x,foldedSetIterable iter env x=pure x) irfa):S g Γ d (.For (.Name x px) iter body orelse pos) lo H Q:=by
 intro c ok fz mf m cl fz₁ led s hs' I
 refine wpAny_For ((h c ok fz).useV hs' I fun {cv s₁ H₁ mf₁ m₁ cl₁ fz₂ led₁ v} I₁ hs₁ iv r_=>?_) (hs _)
 refine ob_EAEAA r_ fun vs ei J h0 turn fin=>?_
 try clear r_
 refine iter_start ok I₁ iv ei fun a o s₂ I₂ r₂=>?_
 refine codeAny_forLoop (FI g c fz₁ a J) ?_ vs.length (.mk rfl h0 I₂ r₂ hs₁)
 intro n s w
 cases w with | @mk vs o lo H mf m cl fz' led e hJ I r hz =>
 subst e
 cases vs with
 | nil =>
  exact next_end ok I r fun s₁ I₁=>(fin lo H hJ c ok fz').use (fun _ x=>x) I₁ fun I₃ hs₃ q=>.mk _ _ _ _ _ _ _ I₃ (fun p hp=>hs₃ p (hz p hp)) q
 | cons v rest =>
  refine next_item ok I r fun x o' s₁ I₁ ix r₁=>?_
  obtain ⟨lo',hp,hb⟩:=turn v rest lo H hJ
  have ok':=ok.pin (a,o')
  refine wpAny_assign_Name ((store_W (c:=c.pin (a,o')) (fz:=fz') (Q:=fun fz'' _ lo'' H''=>lo''=lo'∧H''=H) ok' hp ix (fun _ _=>⟨rfl,rfl⟩)).use (fun _ x=>x) I₁ fun {x_ s₂ lo₂ H₂ mf₂ m₂ cl₂ fz₂ led₂} I₂ hs₂ r_=>?_)
  obtain ⟨e₂,e₃⟩:=r_
  subst e₂; subst e₃
  have r₂:=I₁.itr I₂ r₁ (mem_mono hs₂)
  refine (hb (c.pin (a,o')) ok' fz₂).use (fun _ x=>x) I₂ fun {f s₃ lo₃ H₃ mf₃ m₃ cl₃ fz₃ led₃} I₃ hs₃ r_=>?_
  obtain ⟨r,hr,q⟩:=r_
  have hz':∀ p∈fz₁,p∈fz₃:=fun p hp=>hs₃ p (hs₂ p (hz p hp))
  have r₃:=I₂.itr I₃ r₂ (mem_mono hs₃)
  induction hr with
  | next=>exact ⟨_,Nat.lt_succ_self _,.mk rfl q I₃ r₃ hz'⟩
  | cont=>exact ⟨_,Nat.lt_succ_self _,.mk rfl q I₃ r₃ hz'⟩
  | brk=>exact .mk _ _ _ _ _ _ _ I₃.unpin hz' ⟨_,.next,q⟩
  | ret i=>exact .mk _ _ _ _ _ _ _ I₃.unpin hz' ⟨_,.ret i,q⟩
end
end
section
open PySem.Builtin PySem.Builtin.Str
structure CompOk (g:Gx) (Γ:Fx) (x:Str):Prop where
 code:Γ.code=.none
 free:∀ y∈Γ.scope.names,y.2≠.free∧y.2≠.cell
 kind:Γ.scope.kind=.function
 names:∀ y∈Γ.scope.names,y.2=.local→Γ.scope.names.lookup y.1=some .local
 x:Γ.scope.names.lookup x=some .local∧(x==("__debug__":Str))=false
 globs:∀ p∈Γ.globs,Γ.scope.names.lookup p.1=some .globalImplicit∧(p.1==("__debug__":Str))=false ∧
  (g.mg p.1=some p.2∨(g.mg p.1=none∧g.mb p.1=some p.2))
 cells:autoParam (Γ.cells=[]) irfa
section
variable {g:Gx} {Γ Γ':Fx} {d:Nat} {lo:Loc} {H:AH} {c:Cx}
theorem iter_self {E':Value→Shared→Prop} {s:Shared} {Q:Value→Shared→Prop} {A:Around} {M:Mem} {a:Addr} {vs:List V} (r:ItR M s.heap a vs) (h:Q (.ref a) s):wpAny (model g.prog g.w) A (pyIter (.ref a)) Q E' s:=by
 induction r with
 | lst _ hit _=>exact wpAny_pyIter_listiter hit h
 | asc hit _=>exact wpAny_pyIter_striter_ascii hit h
 | wide hit _=>exact wpAny_pyIter_striter_wide hit h
 | rng hit _=>exact wpAny_pyIter_rangeiter hit h
noncomputable def inComp (c:Cx) (cl:Led) (mf:Str→Option Value) (env':Env):Cx:={ c with env:=env',pins:=cl++c.pins,keep:=some mf }
theorem HI.enterComp {mf m:Str→Option Value} {cl fz led:Led} {h h':Heap} {p:Addr × Obj} {od:Obj} {mm:Str→Option Value} {x:Str} {env':Env} (hx:Γ'.scope.names.lookup x=some .local∧(x==("__debug__":Str))=false) (he:env'.scope=Γ'.scope∧env'.locals=h.objs.size)
  (I:HI g (c.pin p) lo H mf m cl fz led h) (hod:od.isFreed=false) (hn:h'.Ns h.objs.size mm) (hsb:Heap.SameBut h.objs.size (h.push od) h') :
  ∃ oD,HI g ((inComp c cl mf env').pin p) [(x,.unset)] H mf mm [(env'.locals,oD)] fz led h':=by
 refine ob_EEEAAA (id hn) fun oD es ep h1 h2 h3 h4=>?_
 have N:=I.newN od hod
 have hD:=N _ (.head _)
 have F':Fr c.h₀ c.L h' mf:=(I.fr.push od).change hsb hD.2.1 hD.2.2
 have pm:([(env'.locals,oD)]++(led++(((inComp c cl mf env').pin p).pins++fz))).Perm ((h.objs.size,oD)::(cl++(led++((c.pin p).pins++fz)))):=by
  show ([(env'.locals,oD)]++(led++((p::(cl++c.pins))++fz))).Perm ((h.objs.size,oD)::(cl++(led++((p::c.pins)++fz))))
  rw [he.2]
  refine List.Perm.cons _ ?_
  have e1:cl++(led++((p::c.pins)++fz))=(cl++led)++p::(c.pins++fz):=by simp
  have e2:led++((p::(cl++c.pins))++fz)=led++p::(cl++(c.pins++fz)):=by simp
  show (led++((p::(cl++c.pins))++fz)).Perm _
  rw [e1,e2]
  refine List.perm_middle.trans (List.Perm.trans ?_ List.perm_middle.symm)
  refine List.Perm.cons _ ?_
  rw [← List.append_assoc]
  have:(led++cl).Perm (cl++led):=List.perm_append_comm
  simpa using this.append_right (c.pins++fz)
 have nd:(((h.objs.size,oD)::(cl++(led++((c.pin p).pins++fz)))).map (·.1)).Nodup:=by
  rw [List.map_cons]
  refine List.nodup_cons.mpr ⟨fun q=>?_,I.nd⟩
  obtain ⟨z,hz,e⟩:=List.mem_map.mp q
  exact Nat.ne_of_lt (I.fresh_lt z hz) e
 refine ⟨oD,F',.apart rfl ⟨es,ep,h2,h3,h4⟩,fun z hz=>?_,(pm.map _).nodup_iff.mpr nd,⟨by simp,?_⟩,?_,I.hr⟩
 ·rcases List.mem_cons.mp (pm.mem_iff.mp hz) with rfl | hz
  ·exact ⟨h1,hD.2⟩
  ·have q:=N z (.tail _ hz)
   exact ⟨(hsb.2 _ (Nat.ne_of_lt (I.fresh_lt z hz))).trans q.1,q.2⟩
 ·intro q hq
  rcases List.mem_cons.mp hq with rfl | hq
  ·show env'.scope.names.lookup x=_∧_
   rw [he.1]; exact hx
  ·cases hq
 ·intro q hq
  rcases List.mem_cons.mp hq with rfl | hq
  ·exact .inl rfl
  ·cases hq
theorem HI.leaveComp {mf mf' m mm:Str→Option Value} {cl cl' fz led:Led} {h h':Heap} {lo':Loc} {env':Env} (I:HI g (inComp c cl mf env') lo' H mf' mm cl' fz led h) (lok:LocOk c.env.scope lo) (loc:LocR (Cx.mem g fz) m lo)
  (C:ClR c mf m cl) (hD:env'.locals≠c.L) (hs:Heap.SameBut env'.locals h h'):HI g c lo H mf m cl fz led h':=by
 have C':=I.clr
 have N:=I.news
 have D:=I.nd
 obtain ⟨oD,rfl,rfl⟩:∃ oD,cl'=[(env'.locals,oD)]∧mf'=mf:=by
  generalize hc:inComp c cl mf env'=c' at C'
  induction C' with
  | own e=>exact absurd (by rw [← hc] at e; exact e) hD
  | @apart m o kp q =>
   refine ⟨o,by rw [← hc]; rfl,?_⟩
   rw [← hc] at kp
   exact (Option.some.inj kp).symm
 have q:=N (env'.locals,oD) (.head _)
 have e3:[(env'.locals,oD)]++(led++((inComp c cl mf' env').pins++fz))=(env'.locals,oD)::(led++((cl++c.pins)++fz)):=rfl
 rw [e3] at N D
 have pm:(cl++(led++(c.pins++fz))).Perm (led++((cl++c.pins)++fz)):=by
  have h1:(cl++(led++(c.pins++fz))).Perm (led++(cl++(c.pins++fz))):=by
   rw [← List.append_assoc,← List.append_assoc (as:=led)]
   exact (List.perm_append_comm).append_right _
  simpa [List.append_assoc] using h1
 have D':=List.nodup_cons.mp (by simpa only [List.map_cons] using D)
 refine ⟨I.fr.change hs q.2.1 q.2.2,C,fun z hz=>?_,(pm.map _).nodup_iff.mpr D'.2,lok,loc,I.hr⟩
 have hz':=pm.mem_iff.mp hz
 have z1:=N z (.tail _ hz')
 exact ⟨(hs.2 _ (fun e=>D'.1 (by rw [← e]; exact List.mem_map_of_mem (f:=(·.1)) hz'))).trans z1.1,z1.2⟩
set_option genInjectivity false in
inductive CI (g:Gx) (c:Cx) (x:Str) (a acc:Addr) (H:AH) (f:V→V) (vs:List V) (fz:Led) (n:Nat) (s:Shared):Prop
 | mk {done rest:List V} {o:Obj} {u:V} {mf' mm:Str→Option Value} {cl' fz' led':Led} (e:vs=done++rest) (e':rest.length=n) (I:Inv g (c.pin (a,o)) [(x,u)] ((acc,.lst (done.map f))::H) mf' mm cl' fz' led' s) (r:ItR (Cx.mem g fz') s.heap a rest) (hz:∀ p∈fz,p∈fz')
set_option genInjectivity false in
inductive CE (g:Gx) (c:Cx) (acc:Addr) (H:AH) (vs:List V) (fz:Led) (r:Except Value Flow) (s:Shared):Prop
 | mk {lx:Loc} {mf' mm':Str→Option Value} {cl' fz' led':Led} (e:r=.ok .next) (I:Inv g c lx ((acc,.lst vs)::H) mf' mm' cl' fz' led' s) (hz:∀ p∈fz,p∈fz')
theorem push_all {M:Mem} {xs:List Value} {vs:List V} {y:Value} {v:V} {n:Nat} (ha:IsAll M xs vs) (i:Is M y v):OIs M (listOf (xs.toArray.push y) n) (.lst (vs++[v])):=by
 rw [List.push_toArray]; exact .lst (ha.append (.cons i .nil))
theorem push_size {M:Mem} {xs:List Value} {vs:List V} (ha:IsAll M xs vs) (h:vs.length≤1000000):xs.toArray.size≤sizeLine:=by
 rw [List.size_toArray,ha.length,sizeLine_eq]; exact ar 1 [_] (.im (.le .v0 (.n 1000000)) (.le .v0 (.n 16777216))) rfl h
theorem comp_push {prog:Program} {w₀:World} {A:Around} {E:Value→Shared→Prop} {P:Value→Shared→Prop} {lo:Loc} {mf m:Str→Option Value} {cl fz led:Led} {s:Shared} {acc:Addr} {L:List V} {y:Value} {w:V} (I:Inv g c lo ((acc,.lst L)::H) mf m cl fz led s) (iw:Is (Cx.mem g fz) y w) (hl:L.length≤1000000)
  (k:∀ h' led',Inv g c lo ((acc,.lst (L++[w]))::H) mf m cl fz led' { s with heap:=h' }→P .none { s with heap:=h' }):wpAny (model prog w₀) A (call (.builtin "list.append") [.ref acc,y]) P E s:=by
 obtain ⟨pre,oo,post,el,ho,hr⟩:=I.hi.hr.split (x:=.lst L) (x':=.lst (L++[w])) .here
 subst el
 refine ob_EEA ho.lstE fun xs n eo ha=>?_
 subst eo
 obtain ⟨news',U,back⟩:=I.hi.by_upd (o':=listOf (xs.toArray.push y) (n+1)) (hr _ (push_all ha iw))
 exact append_K I.hi.fr I.hi.news U (fun h' F' N'=>k h' _ ⟨back h' F' N',I.gens,I.os,I.tk⟩) (push_size ha hl)
theorem comp_loop {env':Env} {sc:Scope} {cl fz led cl₀:Led} {mf mm:Str→Option Value} {a acc:Addr} {o:Obj} {x:Str} {px pos:Pos} {elt iter:Expr} {vs:List V} {f:V→V} {s:Shared} (ok':(inComp c cl₀ mf env').Ok g Γ' d)
  (I:Inv g ((inComp c cl₀ mf env').pin (a,o)) [(x,.unset)] ((acc,.lst [])::H) mf mm cl fz led s) (r:ItR (Cx.mem g fz) s.heap a vs) (hlen:vs.length≤1000000)
  (step:∀ u∈vs,∀ H',(∀ p∈H,p∈H')→E g Γ' d elt [(x,u)] H' fun r H''=>H''=H'∧r=f u) :
  codeAny (model g.prog g.w) c.A (.compStart (.ListComp elt [⟨.Name x px,iter,[],0⟩] sc pos) 0 (.ref a) (.ref acc) env')
   (CE g (inComp c cl₀ mf env') acc H (vs.map f) fz) s:=by
 have loop:codeAny (model g.prog g.w) c.A (.compLoop (.ListComp elt [⟨.Name x px,iter,[],0⟩] sc pos) 0 (.ref a) (.ref acc) env')
   (CE g (inComp c cl₀ mf env') acc H (vs.map f) fz) s:=by
  refine codeAny_compLoop_list (CI g (inComp c cl₀ mf env') x a acc H f vs fz) ?_ vs.length (.mk (done:=[]) (rest:=vs) rfl rfl I r fun _ x=>x)
  intro n s w
  cases w with | @mk done rest o u mf' mm cl' fz' led' e e' I r hz =>
  subst e'
  cases rest with
  | nil =>
   rw [List.append_nil] at e
   subst e
   exact next_end (c:=inComp c cl₀ mf env') ok' I r fun s₁ I₁=>.mk rfl I₁ hz
  | cons v rest =>
   refine next_item (c:=inComp c cl₀ mf env') ok' I r fun y o' s₁ I₁ iy r₁=>?_
   have ok₂:=ok'.pin (a,o')
   refine wpAny_assign_Name ((store_W (c:=(inComp c cl₀ mf env').pin (a,o')) (fz:=fz') (Q:=fun fz'' _ lo'' H''=>lo''=[(x,v)]∧H''=(acc,.lst (done.map f))::H) ok₂ .here iy (fun _ _=>⟨rfl,rfl⟩)).use (fun _ x=>x) I₁ fun {x_ s₂ lo₂ H₂ mf₂ m₂ cl₂ fz₂ led₂} I₂ hs₂ r_=>?_)
   obtain ⟨e₂,e₃⟩:=r_
   subst e₂; subst e₃
   have r₂:=I₁.itr I₂ r₁ (mem_mono hs₂)
   refine (step v (e ▸ List.mem_append_right _ (.head _)) _ (fun _ hp=>.tail _ hp) ((inComp c cl₀ mf env').pin (a,o')) ok₂ fz₂).useV (fun _ x=>x) I₂ fun {y₃ s₃ H₃ mf₃ m₃ cl₃ fz₃ led₃ w} I₃ hs₃ iw r_=>?_
   obtain ⟨e₅,e₆⟩:=r_
   subst e₅; subst e₆
   have r₃:=I₂.itr I₃ r₂ (mem_mono hs₃)
   refine comp_push I₃ iw (by rw [List.length_map]; rw [e,List.length_append] at hlen; exact Nat.le_trans (Nat.le_add_right _ _) hlen) fun h' led' J=>⟨_,Nat.lt_succ_self _,?_⟩
   refine .mk (done:=done++[v]) (by rw [e,List.append_assoc]; rfl) rfl (by rw [List.map_append]; exact J) (r₃.keeps fun o e=>?_) (fun p hp=>hs₃ p (hs₂ p (hz p hp)))
   have q:=I₃.hi.pin_at.1
   rw [q] at e; cases e
   exact J.hi.pin_at.1
 exact codeAny_compStart_list loop (iter_self r loop)
end
end
section
open PySem.Builtin PySem.Builtin.Str
noncomputable def PX (g:Gx) (Γ':Fx) (x:Str) (n:Nat) (e:Expr) (Q:V→Prop):Prop :=
 ∀ (A:Around) (E':Value→Shared→Prop) (env:Env) (s:Shared) (m:Str→Option Value) (v:Value),A.handled=none→A.units+100≤cLine→env.scope=Γ'.scope→env.globals=mainGlobals→env.builtins=builtinsNs→s.heap.Ns env.locals m→m x=some v →
  Is (fun _ _=>False) v (.str [n])→(∀ b o,g.B.get? b=some o→s.heap.get? b=some o) →
  wpAny (model g.prog g.w) A (eval e env) (fun y s'=>∃ k w,s'={ s with toks:=k }∧Is (fun _ _=>False) y w∧Q w) E' s
structure GenOk (g:Gx) (Γ:Fx) (x:Str):Prop where
 free:∀ y∈Γ.scope.names,y.2≠.free∧y.2≠.cell
 co:Γ.scope.isCoroutine=false
 kind:Γ.scope.kind=.function
 zero:Γ.scope.names.lookup (".0":Str)=some .local
 x:Γ.scope.names.lookup x=some .local∧(x==("__debug__":Str))=false
 globs:∀ p∈Γ.globs,Γ.scope.names.lookup p.1=some .globalImplicit∧(p.1==("__debug__":Str))=false ∧
  (g.mg p.1=some p.2∨(g.mg p.1=none∧g.mb p.1=some p.2))
section
variable {g:Gx} {Γ Γ':Fx} {d:Nat} {lo:Loc} {H:AH} {c:Cx}
theorem code_step {M:Model} {A:Around} {E':Value→Shared→Prop} {s:Shared} {env:Env} {C P:Addr} {pos:Pos} {q:Str} {scope:Scope} {Q:Value→Shared→Prop} {st:Option Pos} {o:Obj} {N:Mem} (hc:env.code=.ref C) (hC:CodeHd s.heap C P)
  (ho:s.heap.get? P=some o) (io:OIs N o (.tab st)) (hst:st=none∨st=some pos)
  (k:∀ c' h' tk,Heap.ExtBut P s.heap h'→s.heap.objs.size≤h'.objs.size→h'.get? P=some (tabOf pos c')→Q (.ref c') { s with heap:=h',toks:=tk }):wpAny M A (genexprCode env pos q scope) Q E' s:=by
 cases io with
 | tab0=>exact wpAny_genexprCodeX hc (hC.code ho trivial) (hC.tab ho) rfl fun c' h' tk hx hge hlt _ _ ht _=>k c' h' tk hx (Nat.le_trans hge (Nat.le_of_lt hlt)) ht.2
 | tab1 p c' =>
  rcases hst with e | e
  ·cases e
  ·cases e
   exact wpAny_genexprCode_hit hc (hC.code ho trivial) (c':=.ref c') (by simp [codeAmong,rawInt]) (k c' s.heap s.toks (fun _ _ _ e=>e) (Nat.le_refl _) ho)
theorem HI.grown_tab {mf m:Str→Option Value} {cl fz pre post:Led} {P:Addr} {o o':Obj} {H':AH} {h h':Heap} (I:HI g c lo H mf m cl fz (pre++(P,o)::post) h) (k:Heap.ExtBut P h h') (hP:h'.get? P=some o') (hr:HR (Cx.mem g fz) (pre++(P,o')::post) H'):HI g c lo H' mf m cl fz (pre++(P,o')::post) h':=by
 have hin:=I.news (P,o) (by simp)
 have F':Fr c.h₀ c.L h' mf:=by
  refine ⟨I.fr.ns.extBut k hin.2.1.symm,fun b x e=>k b x (fun hb=>?_) (I.fr.keep b x e),I.fr.above⟩
  subst hb
  have e':=hin.2.2
  rw [e] at e'; cases e'
 refine I.update F' hr fun p q e h1 h2 z hz=>?_
 rcases List.mem_append.mp hz with hz | hz
 ·have q1:=I.news z (by
   have:z∈cl++(pre++(P,o)::post)++(c.pins++fz):=by rw [e]; exact List.mem_append_left _ hz
   simpa [List.append_assoc] using this)
  exact ⟨k _ _ (h1 z hz) q1.1,q1.2⟩
 ·rcases List.mem_cons.mp hz with rfl | hz
  ·exact ⟨hP,hin.2⟩
  ·have q1:=I.news z (by
    have:z∈cl++(pre++(P,o)::post)++(c.pins++fz):=by rw [e]; exact List.mem_append_right _ (.tail _ hz)
    simpa [List.append_assoc] using this)
   exact ⟨k _ _ (h2 z hz) q1.1,q1.2⟩
theorem filt (l:List Nat):l.filter (fun _=>true)=l:=by
 induction l with
 | nil=>rfl
 | cons a r ih=>rw [List.filter_cons_of_pos rfl,ih]
theorem passing_all (n:Nat):passing (fun _=>true) n 0=List.range n:=by
 unfold passing
 rw [List.drop_zero,filt]
theorem map_getD (xs:List Nat) (f:Nat→List Nat):(List.range xs.length).map (fun j=>S' (f (xs.getD j 0)))=(xs.map f).map S':=by
 rw [List.map_map]
 apply List.ext_getElem
 ·simp
 ·intro i h1 h2
  simp at h1
  simp [h1]
theorem passing_len (n:Nat):(passing (fun _=>true) n 0).length=n:=by rw [passing_all,List.length_range]
theorem passing_get {n i j:Nat} (e:(passing (fun _=>true) n 0)[j]?=some i):i=j:=by
 rw [passing_all] at e
 obtain ⟨h1,h2⟩:=List.getElem?_eq_some_iff.mp e
 exact h2.symm.trans (List.getElem_range h1)
theorem flat8 {f:Nat→List Nat}:(l:List Nat)→(∀ n∈l,(f n).length≤8)→(l.map f).flatten.length≤8 * l.length
 | [],_=>Nat.le_refl _
 | a::r,h=>by
  rw [List.map_cons,List.flatten_cons,List.length_append]
  exact AR.h380 _ _ _ (flat8 r fun n hn=>h n (.tail _ hn)) (h a (.head _))
theorem join_small {f:Nat→List Nat} {l:List Nat} (h:∀ n∈l,(f n).length≤8) (hl:l.length≤100000):(l.map f).flatten.length+(l.map f).length≤1000000:=by
 rw [List.length_map]
 exact ar 2 [_,_] (.im (.le .v0 (.m 8 .v1)) (.im (.le .v1 (.n 100000)) (.le (.a .v0 .v1) (.n 1000000)))) rfl (flat8 l h) hl
theorem HI.fresh_tab {mf m:Str→Option Value} {cl fz pre post:Led} {P:Addr} {o o':Obj} {h:Heap} (I:HI g c lo H mf m cl fz (pre++(P,o)::post) h) (p:Addr × Obj) (hp:p∈cl++((pre++(P,o')::post)++(c.pins++fz))):p.1 < h.objs.size:=by
 have e:(cl++((pre++(P,o')::post)++(c.pins++fz))).map (·.1)=(cl++((pre++(P,o)::post)++(c.pins++fz))).map (·.1):=by simp
 have h1:p.1∈(cl++((pre++(P,o)::post)++(c.pins++fz))).map (·.1):=by rw [← e]; exact List.mem_map_of_mem (f:=(·.1)) hp
 obtain ⟨q,hq,e2⟩:=List.mem_map.mp h1
 rw [← e2]
 exact I.fresh_lt q hq
theorem E.joinGen {o elt iter:Expr} {x:Str} {px apos gpos pos:Pos} {C P:Addr} {f:Nat→List Nat} {Q:V→AH→Prop} (hC:CodeHd g.B C P) (hcode:Γ.code=.ref C) (O:GenOk g Γ' x) (ho:E g Γ d o lo H fun v H'=>v=.str []∧H'=H)
  (h:E g Γ d iter lo H fun v H₁=>∃ s,v=.str s∧s.length≤100000∧(∀ n∈s,(f n).length≤8∧PX g Γ' x n elt (fun w=>w=.str (f n)))∧∃ st H₂,MUpd P (.tab st) (.tab (some gpos)) H₁ H₂∧(st=Option.none∨st=some gpos)∧Q (.str (s.map f).flatten) H₂)
  (hs:autoParam (∀ env x,genFold iter env x=pure x) irfa) (cf:autoParam (CallForm o "join" apos pos [.GeneratorExp elt [⟨.Name x px,iter,[],0⟩] Γ'.scope gpos]) irfc) :
  E g Γ d (.Call (.Attribute o "join" apos) [.GeneratorExp elt [⟨.Name x px,iter,[],0⟩] Γ'.scope gpos] [] pos) lo H Q:=by
 intro c ok fz mf m cl fz₁ led s hs' I
 obtain ⟨pl,cf⟩:=cf c.env
 refine MethodCall_ ((ho c ok fz).useV hs' I fun {ov s₁ H₁ mf₁ m₁ cl₁ fz₂ led₁ v} I₁ hs₁ iv r_=>?_) cf
 obtain ⟨ev,eH⟩:=r_
 subst ev; subst eH
 refine ob_EEA iv.strE fun sep tk ez esep=>?_
 subst ez
 have e0:sep=Str.ofString "":=by
  have:S' sep.cps.toList=S' []:=by rw [esep]
  rw [S'_of] at this; rw [this]; rfl
 subst e0
 with_reducible refine GM.join ?_
 refine PyProof.Rows.callWith_method1 (spliced_cons ?_)
 refine wpAny_with_toks (n:=1) I₁.tk ?_
 have hcd:c.env.code=.ref C:=by
  rcases ok.code with e | e
  ·rw [hcode] at e; cases e
  ·rw [e,hcode]
 refine wpAny_GeneratorExp_walksQD ok.handled O.co (closureFor_none fun y hy=>(O.free y hy).1) (fun y hy=>(O.free y hy).2) O.zero O.x.1 O.kind (by have:=ok.room; exact ar 3 [_,_,_] (.im (.le (.a (.a .v0 .v2) (.n 8)) .v1) (.lt .v0 .v1)) rfl this)
  ((h c ok fz₂).useV (fun _ x=>x) I₁ fun {cv s₂ H₂' mf₂ m₂ cl₂ fz₃ led₂ v} I₂ hs₂ iv r_=>?_) (hs _)
 refine ob_EAAAEEAA r_ fun xs ev hlen step st H₂ hu hst fin=>?_
 try clear r_
 subst ev
 refine ob_EEA iv.strE fun y t ez ey=>?_
 subst ez
 subst ey
 refine wpAny_pyIter_str fun o St W hSt=>?_
 have T:=ok.gok.top.keeps fun b o e=>ok.stays b o e
 have lim:s₂.heap.NoLimit:=T.nolimit.keeps I₂.hi.fr.keep
 refine ⟨lim.push _,?_⟩
 refine ob_EEEAA (I₂.hi.hr.split hu) fun pre oP post ez3 hoP hr=>?_
 subst ez3
 have hin:=I₂.hi.news (P,oP) (by simp)
 have kB:∀ b o,g.B.get? b=some o→s₂.heap.get? b=some o:=fun b o e=>I₂.hi.fr.keep _ _ (ok.stays b o e)
 have hCs:CodeHd s₂.heap C P:=hC.keeps kB
 have hBP:g.B.get? P=Option.none:=by
  cases q:g.B.get? P with
  | none=>rfl
  | some o'=>have:=ok.stays _ _ q; rw [hin.2.2] at this; cases this
 refine code_step (s:={ s₂ with heap:=s₂.heap.push o }) hcd (hCs.keeps fun b o e=>Heap.get?_push_of_some _ e) (Heap.get?_push_of_some _ hin.1) hoP hst fun c' h₄ tk₄ hx₄ hge₄ hP₄=>?_
 obtain ⟨bm,ob,M⟩:=bmod_of_top ok.gok.top
 have k₄:∀ b o,b≠P→s₂.heap.get? b=some o→h₄.get? b=some o:=fun b o hb e=>hx₄ b o hb (Heap.get?_push_of_some _ e)
 have kB₄:∀ b o,g.B.get? b=some o→h₄.get? b=some o:=fun b o e=>k₄ b o (fun hb=>by rw [hb,hBP] at e; cases e) (kB b o e)
 have M₄:BMod h₄ c.env.globals g.mg bm ob:=by rw [ok.globals]; exact M.keeps kB₄
 refine wpAny_builtinsFor M₄.ns M₄.name M₄.ne M₄.obj M₄.cls M₄.dict M₄.data ?_
 have hI:s₂.heap.objs.size < h₄.objs.size:=Nat.lt_of_lt_of_le (by rw [Heap.size_push]; exact Nat.lt_succ_self _) hge₄
 have hPlt:P < s₂.heap.objs.size:=Heap.lt_size hin.1
 have hlt:c.L < s₂.heap.objs.size:=I₂.hi.fr.ns.lt
 have lim₄:h₄.NoLimit:=ok.gok.top.nolimit.keeps kB₄
 refine ⟨s₂.heap.objs.size,[s₂.heap.objs.size],[s₂.heap.objs.size],y.cps.size,SignAt y,St,(fun _=>true),(fun i v=>∃ u,v=.str (S' (f (y.cps.toList.getD i 0))) u),rfl,W,
  (W c.A ok.handled).frame _ _ _ hSt (fun b hb o e=>?_),(fun b hb=>?_),lim₄,(fun hm=>?_),(fun href hhref=>?_),fun a h₅ tk gs hgb hag hsz₅ hk₅ W₅ hat=>?_⟩
 ·rcases List.mem_cons.mp hb with rfl | hb
  ·exact hx₄ _ _ (Nat.ne_of_gt hPlt) e
  ·cases hb
 ·rcases List.mem_cons.mp hb with rfl | hb
  ·exact hI
  ·cases hb
 ·rcases List.mem_cons.mp hm with e | hm
  ·obtain ⟨mc,hns,_⟩:=lim
   exact absurd hns.lt (by rw [e]; exact Nat.lt_irrefl _)
  ·cases hm
 ·refine ⟨fun A' E' i v t' m₂ _ _ _ _ _ _ _=>wpAny_pure ⟨rfl,t'.heap,t'.toks,rfl,fun _ _ e=>e⟩,fun A' E' i v t' m₂ hA hD hU hP hp hn hm hkp=>?_⟩
  refine ob_EEA hP fun n u hy ez3=>?_
  try clear hP
  subst ez3
  have hy':y.cps.toList[i]?=some n:=by rw [Array.getElem?_toList]; exact hy
  have hd:y.cps.toList.getD i 0=n:=by rw [List.getD_eq_getElem?_getD,hy']; rfl
  obtain ⟨s1,s2⟩:=step n (List.mem_of_getElem? hy')
  refine wpAny_mono (s2 A' E' _ t' m₂ _ hA (by have:=ok.units; exact ar 4 [_,_,_,_] (.im (.le (.a (.a .v2 (.m 10 .v3)) (.n 200)) .v1) (.im (.le .v0 (.a .v2 (.n 8))) (.le (.a .v0 (.n 100)) .v1))) rfl this hU) rfl ok.globals rfl hn hm (.str _ _ rfl) fun b o e=>?_) (fun z s' ⟨k,w,e1,iw,e2⟩=>?_) fun _ _ e=>e
  ·have e4:=kB₄ b o e
   exact hkp b (List.mem_range.mpr (Heap.lt_size e4)) (fun hb=>by
    rcases List.mem_cons.mp hb with rfl | hb
    ·exact absurd (Heap.lt_size (kB _ _ e)) (Nat.lt_irrefl _)
    ·cases hb) o (hhref b o e4)
  ·subst e1; subst e2
   refine ⟨?_,t'.heap,k,rfl,fun _ _ e=>e⟩
   refine ob_EEA iw.strE fun z tk eo ez=>?_
   subst eo
   refine ⟨tk,?_⟩
   rw [hd,← ez,S'_of]
 ·intro htk
  refine spliced_nil ?_
  refine wpAny_with_toks (n:=1) htk ?_
  have k₅:Heap.ExtBut P s₂.heap h₅:=fun b o hb e=>hk₅ b o (k₄ b o hb e)
  have J₅:=I₂.hi.grown_tab k₅ (hk₅ _ _ hP₄) (hr _ (.tab1 gpos c'))
  have hlt5:=I₂.hi.fresh_tab (o':=tabOf gpos c')
  refine join_rowsK (h₀:=c.h₀) (L:=c.L) (m:=mf₂) (K:=s₂.heap.objs.size - 1) (F:=fun j v=>∃ i,(passing (fun _=>true) y.cps.size 0)[j]?=some i∧∃ u,v=.str (S' (f (y.cps.toList.getD i 0))) u) (n:=(passing (fun _=>true) y.cps.size 0).length) J₅.fr (I₂.gens.push hgb)
   ⟨_,_,_,_,W₅,hat,(fun i s' st=>st.1.typeIs),List.mem_cons_self,(fun b hb=>?_),(fun b hb=>?_)⟩ (Nat.le_sub_one_of_lt hlt) (fun j=>S' (f (y.cps.toList.getD j 0))) (fun j v ⟨i,e1,u,e2⟩=>?_) ?_ (fun s' t' F' G' hos k'=>?_) ?_
  ·show b < h₅.objs.size
   rw [hsz₅]
   rcases List.mem_cons.mp hb with rfl | hb
   ·exact Nat.lt_succ_self _
   ·rcases List.mem_cons.mp hb with rfl | hb
    ·exact Nat.lt_succ_of_lt hag
    ·exact Nat.lt_succ_of_lt (Nat.lt_trans (List.mem_range.mp hb) hag)
  ·rcases List.mem_cons.mp hb with rfl | hb
   ·exact Nat.lt_of_le_of_lt (Nat.sub_le _ _) hI
   ·rcases List.mem_cons.mp hb with rfl | hb
    ·exact Nat.sub_lt (Nat.lt_of_le_of_lt (Nat.zero_le _) hlt) Nat.zero_lt_one
    ·cases hb
  ·have ei:i=j:=passing_get e1
   subst ei
   exact ⟨u,e2⟩
  ·have hn:(passing (fun _=>true) y.cps.size 0).length=y.cps.toList.length:=passing_len _
   rw [hn,map_getD]
   exact joinOkS _ (join_small (fun n hn=>(step n hn).1) hlen)
  ·intro htk'
   have hn:(passing (fun _=>true) y.cps.size 0).length=y.cps.toList.length:=passing_len _
   rw [hn,map_getD,joinS]
   have N':News c.h₀ c.L s'.heap (cl₂++((pre++(P,tabOf gpos c')::post)++(c.pins++fz₃))):=fun p hp=>by
    have q:=J₅.news p hp
    exact ⟨k' _ _ (Nat.le_sub_one_of_lt (hlt5 p hp)) q.1,q.2⟩
   exact ⟨lo,H₂,mf₂,m₂,cl₂,fz₃,_,⟨J₅.of F' N',G',by rw [hos]; exact I₂.os,htk'⟩,fun p hp=>hs₂ p (hs₁ p hp),rfl,_,.str _ _ rfl,by rw [S'_list]; exact fin⟩
  ·have hn:(passing (fun _=>true) y.cps.size 0).length=y.cps.toList.length:=passing_len _
   rw [hn,sizeLine_eq]; exact ar 1 [_] (.im (.le .v0 (.n 100000)) (.le .v0 (.n 16777216))) rfl hlen
end
end
section
open PySem PySem.W PySem.Calls PyProof.Rows PyProof.Rows.KTD
open PySem.Builtin PySem.Builtin.Str
noncomputable abbrev M0:Mem:=fun _ _=>False
set_option genInjectivity false in
inductive PWP {α:Type} (s:Shared) (Q:α→Prop) (y:α) (s':Shared):Prop
 | mk (k:Nat) (e:s'={ s with toks:=k }) (q:Q y)
noncomputable def PW {α:Type} (M:Model) (A:Around) (s:Shared) (t:Sem α) (Q:α→Prop):Prop:=∀ (k:Nat) (E':Value→Shared→Prop),wpAny M A t (PWP s Q) E' { s with toks:=k }
section
variable {M:Model} {A:Around} {s:Shared} {α β:Type}
theorem PW.mono {t:Sem α} {Q Q':α→Prop} (h:PW M A s t Q) (k:∀ y,Q y→Q' y):PW M A s t Q':=fun n E'=>wpAny_mono (h n E') (fun y s' w=>by cases w with | mk n e q=>exact ⟨n,e,k y q⟩) fun _ _ x=>x
theorem PW.use {t:Sem α} {Q:α→Prop} (h:PW M A s t Q) {n:Nat} {P:α→Shared→Prop} {E':Value→Shared→Prop} (k:∀ y n,Q y→P y { s with toks:=n }):wpAny M A t P E' { s with toks:=n } :=
 wpAny_mono (h n E') (fun y s' w=>by cases w with | mk n e q=>subst e; exact k y n q) fun _ _ x=>x
theorem PW.bind {t:Sem α} {f:α→Sem β} {Q:β→Prop} (h:PW M A s t fun y=>PW M A s (f y) Q):PW M A s (t >>= f) Q:=fun n E' =>
 wpAny_bind (h.use fun y n q=>q n E')
theorem PW.holding {t:Sem α} {vs:List Value} {Q:α→Prop} (h:PW M A s t Q):PW M A s (holding vs t) Q:=fun n E'=>wpAny_holding (h n E')
theorem PW.operate {t:Sem Value} {vs:List Value} {Q:Value→Prop} (h:PW M A s t Q):PW M A s (operate vs t) Q:=fun n E'=>wpAny_operate' (h n E')
theorem PW.at_ {p:Pos} {t:Sem α} {Q:α→Prop} (h:PW M A s t Q):PW M A s (standAt p >>= fun _=>t) Q:=fun n E'=>wpAny_bind (wpAny_standAt (h n E'))
end
noncomputable abbrev PV (Q:V→Prop):Value→Prop:=fun y=>∃ w,Is M0 y w∧Q w
theorem PW.bindV {M:Model} {A:Around} {s:Shared} {β:Type} {t:Sem Value} {f:Value→Sem β} {Q:V→Prop} {Q':β→Prop} (h:PW M A s t (PV Q)) (k:∀ y a,Is M0 y a→Q a→PW M A s (f y) Q'):PW M A s (t >>= f) Q' :=
 PW.bind (h.mono fun y r=>r.elim fun a r=>k y a r.1 r.2)
structure PCx (g:Gx) (Γ:Fx) (x:Str) (n:Nat) (A:Around) (env:Env) (s:Shared):Prop where
 handled:A.handled=none
 units:A.units+100≤cLine
 scope:env.scope=Γ.scope
 globals:env.globals=mainGlobals
 builtins:env.builtins=builtinsNs
 kept:∀ b o,g.B.get? b=some o→s.heap.get? b=some o
 loc:∃ m v,s.heap.Ns env.locals m∧m x=some v∧Is M0 v (.str [n])
noncomputable def PE (g:Gx) (Γ:Fx) (x:Str) (n:Nat) (e:Expr) (Q:V→Prop):Prop:=∀ A env s,PCx g Γ x n A env s→PW (model g.prog g.w) A s (eval e env) (PV Q)
noncomputable def PT (g:Gx) (Γ:Fx) (x:Str) (n:Nat) (e:Expr) (Q:Bool→Prop):Prop:=∀ A env s,PCx g Γ x n A env s→PW (model g.prog g.w) A s (isTrue e env (eval e env)) Q
section
variable {g:Gx} {Γ:Fx} {x:Str} {n:Nat}
theorem PE.px {e:Expr} {Q:V→Prop} (h:PE g Γ x n e Q):PX g Γ x n e Q:=fun A E' env s m v hA hu h1 h2 h3 h4 h5 h6 h7 =>
 (h A env s ⟨hA,hu,h1,h2,h3,h7,m,v,h4,h5,h6⟩).use (n:=s.toks) fun y k q=>q.elim fun w q=>⟨k,w,rfl,q.1,q.2⟩
theorem PE.str {y:Str} {k:Nat} {pos:Pos} {Q:V→Prop} (h:Q (.str y.cps.toList)):PE g Γ x n (.Constant (.str y) k pos) Q:=fun A env s C k' E'=>Constant_str ⟨_,rfl,_,.str _ _ rfl,h⟩
theorem PE.nm {pos:Pos} {Q:V→Prop} (O:GenOk g Γ x) (h:Q (.str [n])):PE g Γ x n (.Name x pos) Q:=fun A env s C k' E'=>by
 refine ob_EEAA C.loc fun m v h1 h2 h3=>?_
 refine wpAny_Name (wpAny_loadName_local (by rw [C.scope]; exact O.kind) (by unfold Env.kindOf; rw [C.scope]; exact O.x.1) h1 h2 ⟨_,rfl,_,h3,h⟩) O.x.2
theorem PE.ife {test body orelse:Expr} {pos:Pos} {Q:V→Prop} (h:PT g Γ x n test fun b=>if b then PE g Γ x n body Q else PE g Γ x n orelse Q):PE g Γ x n (.IfExp test body orelse pos) Q:=by
 intro A env s C
 rw [eval_IfExp]
 refine PW.bind ((h A env s C).mono fun b q=>?_)
 cases b with
 | true=>exact q A env s C
 | false=>exact q A env s C
theorem units_100 {a:Nat} (h:a+100≤cLine):a+64 < cLine:=by exact ar 2 [_,_] (.im (.le (.a .v0 (.n 100)) .v1) (.lt (.a .v0 (.n 64)) .v1)) rfl h
theorem cmp_P {A:Around} {s:Shared} (hu:A.units+100≤cLine) {op:CmpOp} {u v:Value} {a b:V} {Q:Bool→Prop} (i:Is M0 u a) (j:Is M0 v b) (h:CmpM op a b Q):PW (model g.prog g.w) A s (compareOp op u v) fun y=>∃ r,y=.bool r∧Q r:=fun k' E' =>
 h.elim fun r h=>cmp_core (M:=M0) (fun _ _ h=>h.elim) (units_100 hu) i j h.1 ⟨_,rfl,r,rfl,h.2⟩
theorem PT.cmp {l r:Expr} {op:CmpOp} {pos:Pos} {Q:Bool→Prop} (h:PE g Γ x n l fun a=>PE g Γ x n r fun b=>CmpM op a b Q)
  (hm:autoParam (behindInMarks op r=false) irfd):PT g Γ x n (.Compare l [op] [r] pos) Q:=by
 intro A env s C
 rw [isTrue_Compare1,markedBehindIn_of_false hm]
 exact PW.bindV (h A env s C) fun y a ia ha=>PW.bindV (PW.holding (ha A env s C)) fun z b ib hb =>
  PW.at_ (PW.bind (PW.operate ((cmp_P C.units ia ib hb).mono fun v r=>r.elim fun r q=>by rw [q.1]; exact PW.holding fun k' E'=>wpAny_truthy_bool ⟨_,rfl,q.2⟩)))
theorem glob_P {env:Env} {A:Around} {s:Shared} (O:GenOk g Γ x) (gok:g.Ok) (C:PCx g Γ x n A env s) {y:Str} {v:Value} {p:Pos} {Q:Value→Prop} (hf:(y,v)∈Γ.globs) (h:Q v):PW (model g.prog g.w) A s (eval (.Name y p) env) Q:=fun k' E'=>by
 obtain ⟨h1,h2,h3⟩:=O.globs _ hf
 have T:=gok.top.keeps C.kept
 refine Name_function_global (by rw [C.scope]; exact O.kind) (by unfold Env.kindOf; rw [C.scope]; exact h1) ?_ h2
 rcases h3 with h3 | ⟨h3,h4⟩
 ·exact loadGlobal_global (s:={ s with toks:=k' }) (by rw [C.globals]; exact T.g) h3 ⟨_,rfl,h⟩
 ·exact loadGlobal_builtin (s:={ s with toks:=k' }) (by rw [C.globals]; exact T.g) h3 (by rw [C.builtins]; exact T.b) h4 ⟨_,rfl,h⟩
theorem PE.dget {y:Str} {a:Addr} {D:List (Str × KTD.Dat)} {p p1 p2 apos pos:Pos} {Q:V→Prop} (O:GenOk g Γ x) (gok:g.Ok) (hf:(y,.ref a)∈Γ.globs) (T:TextTab g.B a D)
  (h1:∀ d v,datumAt (S' [n]) D=some d→d.At g.B v→∃ w,Is M0 v w∧Q w) (h2:datumAt (S' [n]) D=none→Q (.str [n]))
  (cf:autoParam (CallForm (.Name y p) "get" apos pos [.Name x p1,.Name x p2]) irfc):PE g Γ x n (.Call (.Attribute (.Name y p) "get" apos) [.Name x p1,.Name x p2] [] pos) Q:=by
 intro A env s C k' E'
 obtain ⟨pl,cf⟩:=cf env
 refine MethodCall_ ((glob_P O gok C hf (Q:=fun v=>v=.ref a) rfl).use fun v k₂ ev=>?_) cf
 subst ev
 have Hh:Here g.B s.heap a D:=⟨T,C.kept⟩
 with_reducible refine getMethod_text (s:={ s with toks:=k₂ }) Hh ?_
 refine PyProof.Rows.callWith_method1 (spliced_cons ((PE.nm (pos:=p1) (Q:=fun w=>w=.str [n]) O rfl A env s C).use fun u k₃ r=>?_))
 refine spliced_cons ((PE.nm (pos:=p2) (Q:=fun w=>w=.str [n]) O rfl A env s C).use fun u₂ k₄ r₂=>spliced_nil ?_)
 obtain ⟨w,iw,ew⟩:=r
 obtain ⟨w₂,iw₂,ew₂⟩:=r₂
 subst ew; subst ew₂
 refine ob_EEA iw.strE fun z t e ez=>?_
 subst e
 have e:z=S' [n]:=by rw [← S'_of z,ez]
 subst e
 refine call_meetsIn PySem.F.slot_dict_get Hh.typeIs PySem.F.entry_dict_get (PySem.F.args_dict_get_3 _ _ _) (meets_get2 (h₀:=g.B) (D:=D)) ⟨Hh,fun d v ha hv=>?_,fun hn=>?_⟩
 ·obtain ⟨w,iw,q⟩:=h1 d v ha hv
  exact ⟨_,rfl,w,iw,q⟩
 ·exact ⟨_,rfl,_,iw₂,h2 hn⟩
end
end
section
open PySem.Builtin PySem.Builtin.Str
section
variable {g:Gx} {Γ:Fx} {d:Nat} {lo:Loc} {H:AH}
end
end
mutual
inductive Rp (a:Addr) (vs:List V):V→V→Prop
 | refl (v:V):Rp a vs v v
 | here:Rp a vs (.ref a) (.lst vs)
 | obj {C:Addr} {ds es:List V}:RpAll a vs ds es→Rp a vs (.obj C ds) (.obj C es)
 | tup {ds es:List V}:RpAll a vs ds es→Rp a vs (.tup ds) (.tup es)
 | lst {ds es:List V}:RpAll a vs ds es→Rp a vs (.lst ds) (.lst es)
inductive RpAll (a:Addr) (vs:List V):List V→List V→Prop
 | nil:RpAll a vs [] []
 | cons {d e:V} {ds es:List V}:Rp a vs d e→RpAll a vs ds es→RpAll a vs (d::ds) (e::es)
end
theorem RpAll.refl {a:Addr} {vs:List V} (ds:List V):RpAll a vs ds ds:=by
 induction ds with
 | nil=>exact .nil
 | cons d ds ih=>exact .cons (.refl d) ih
theorem RpAll.append {a:Addr} {vs ds es ds' es':List V} (h:RpAll a vs ds es) (h':RpAll a vs ds' es'):RpAll a vs (ds++ds') (es++es'):=by
 induction ds generalizing es with
 | nil=>cases h; exact h'
 | cons d ds ih=>cases h with | cons h r=>exact .cons h (ih r)
inductive RpM (a:Addr) (vs:List V):MO→MO→Prop
 | refl (x:MO):RpM a vs x x
 | lst {ds es:List V}:RpAll a vs ds es→RpM a vs (.lst ds) (.lst es)
inductive RpH (a:Addr) (vs:List V):AH→AH→Prop
 | nil:RpH a vs [] []
 | cons {b:Addr} {x y:MO} {H H':AH}:RpM a vs x y→RpH a vs H H'→RpH a vs ((b,x)::H) ((b,y)::H')
inductive RpL (a:Addr) (vs:List V):Loc→Loc→Prop
 | nil:RpL a vs [] []
 | cons {b:Str} {x y:V} {H H':Loc}:Rp a vs x y→RpL a vs H H'→RpL a vs ((b,x)::H) ((b,y)::H')
theorem RpH.refl {a:Addr} {vs:List V} (H:AH):RpH a vs H H:=by
 induction H with
 | nil=>exact .nil
 | cons p H ih=>exact .cons (.refl p.2) ih
theorem RpL.refl {a:Addr} {vs:List V} (H:Loc):RpL a vs H H:=by
 induction H with
 | nil=>exact .nil
 | cons p H ih=>exact .cons (.refl p.2) ih
section
variable {M:Mem} {a:Addr} {vs:List V} {xs:List Value} {n:Nat}
theorem Is.rps (hm:M a (listOf xs.toArray n)) (ha:IsAll M xs vs):(∀ {x:Value} {v:V},Is M x v→∀ v',Rp a vs v v'→Is M x v')∧∀ {ys:List Value} {ds:List V},IsAll M ys ds→∀ es,RpAll a vs ds es→IsAll M ys es:=by
 have h1:∀ v',Rp a vs .none v'→Is M .none v':=fun v' r=>by cases r; exact .none
 have h2:∀ b v',Rp a vs (.bool b) v'→Is M (.bool b) v':=fun b v' r=>by cases r; exact .bool b
 have h3:∀ i t v',Rp a vs (.int i) v'→Is M (.int i t) v':=fun i t v' r=>by cases r; exact .int i t
 have h4:∀ x t {s:List Nat},x.cps.toList=s→∀ v',Rp a vs (.str s) v'→Is M (.str x t) v':=fun x t s h v' r=>by cases r; exact .str x t h
 have h5:∀ {a':Addr} {ws:List Value} {n:Nat} {ds:List V},M a' (tupOf ws.toArray n)→IsAll M ws ds→(∀ es,RpAll a vs ds es→IsAll M ws es)→∀ v',Rp a vs (.tup ds) v'→Is M (.ref a') v':=fun h i ih v' r=>by
  cases r with
  | refl=>exact .tup h i
  | tup r=>exact .tup h (ih _ r)
 have h6:∀ {a':Addr} {ws:List Value} {n:Nat} {ds:List V},M a' (listOf ws.toArray n)→IsAll M ws ds→(∀ es,RpAll a vs ds es→IsAll M ws es)→∀ v',Rp a vs (.lst ds) v'→Is M (.ref a') v':=fun h i ih v' r=>by
  cases r with
  | refl=>exact .lst h i
  | lst r=>exact .lst h (ih _ r)
 have h7:∀ {a' C dx:Addr} {os:List (Option Value)} {ds:List V},M a' (insOf C dx os.toArray)→M dx (dictOf [] 0)→IsSl M os ds→(∀ es,RpAll a vs ds es→IsSl M os es)→∀ v',Rp a vs (.obj C ds) v'→Is M (.ref a') v':=fun h hd i ih v' r=>by
  cases r with
  | refl=>exact .obj h hd i
  | obj r=>exact .obj h hd (ih _ r)
 have h8:∀ (a':Addr) v',Rp a vs (.ref a') v'→Is M (.ref a') v':=fun a' v' r=>by
  cases r with
  | refl=>exact .ref a'
  | here=>exact .lst hm ha
 have h9:∀ (v:Value) v',Rp a vs (.glo v) v'→Is M v v':=fun v v' r=>by cases r; exact .glo v
 have h9b:∀ {r:Addr} {a' b' c':Int} {t u v:Tok},M r (rngOf a' b' c' t u v)→∀ v',Rp a vs (.rng a' b' c') v'→Is M (.ref r) v':=fun h v' r=>by cases r; exact .rng h
 have h10:∀ es,RpAll a vs [] es→IsAll M [] es:=fun es r=>by cases r; exact .nil
 have h11:∀ {v:Value} {ws:List Value} {d:V} {ds:List V},Is M v d→IsAll M ws ds→(∀ v',Rp a vs d v'→Is M v v')→(∀ es,RpAll a vs ds es→IsAll M ws es)→∀ es,RpAll a vs (d::ds) es→IsAll M (v::ws) es:=fun _ _ p q es r=>by cases r with | cons r rs=>exact .cons (p _ r) (q _ rs)
 have h12:∀ es,RpAll a vs [] es→IsSl M [] es:=fun es r=>by cases r; exact .nil
 have h13:∀ {os:List (Option Value)} {ds:List V},IsSl M os ds→(∀ es,RpAll a vs ds es→IsSl M os es)→∀ es,RpAll a vs (.unset::ds) es→IsSl M (Option.none::os) es:=fun _ q es r=>by cases r with | cons r rs=>cases r; exact .unset (q _ rs)
 have h14:∀ {v:Value} {d:V} {os:List (Option Value)} {ds:List V},Is M v d→IsSl M os ds→(∀ v',Rp a vs d v'→Is M v v')→(∀ es,RpAll a vs ds es→IsSl M os es)→∀ es,RpAll a vs (d::ds) es→IsSl M (some v::os) es:=fun _ _ p q es r=>by cases r with | cons r rs=>exact .set (p _ r) (q _ rs)
 exact ⟨fun i=>Is.rec (motive_1:=fun x v _=>∀ v',Rp a vs v v'→Is M x v') (motive_2:=fun ys ds _=>∀ es,RpAll a vs ds es→IsAll M ys es) (motive_3:=fun ys ds _=>∀ es,RpAll a vs ds es→IsSl M ys es) h1 h2 h3 h4 h5 h6 h7 h8 h9 h9b h10 h11 h12 h13 h14 i,
  fun i=>IsAll.rec (motive_1:=fun x v _=>∀ v',Rp a vs v v'→Is M x v') (motive_2:=fun ys ds _=>∀ es,RpAll a vs ds es→IsAll M ys es) (motive_3:=fun ys ds _=>∀ es,RpAll a vs ds es→IsSl M ys es) h1 h2 h3 h4 h5 h6 h7 h8 h9 h9b h10 h11 h12 h13 h14 i⟩
theorem Is.rp (hm:M a (listOf xs.toArray n)) (ha:IsAll M xs vs) {x:Value} {v v':V} (r:Rp a vs v v') (i:Is M x v):Is M x v':=(Is.rps hm ha).1 i _ r
theorem IsAll.rp (hm:M a (listOf xs.toArray n)) (ha:IsAll M xs vs) {ys:List Value} {ds es:List V} (r:RpAll a vs ds es) (i:IsAll M ys ds):IsAll M ys es:=(Is.rps hm ha).2 i _ r
theorem OIs.rp (hm:M a (listOf xs.toArray n)) (ha:IsAll M xs vs) {o:Obj} {x y:MO} (r:RpM a vs x y) (i:OIs M o x):OIs M o y:=by
 induction r with
 | refl=>exact i
 | lst r=>cases i with | lst i=>exact .lst (IsAll.rp hm ha r i)
theorem HR.rp (hm:M a (listOf xs.toArray n)) (ha:IsAll M xs vs) {led:Led} {H H':AH} (r:RpH a vs H H') (h:HR M led H):HR M led H':=by
 induction r generalizing led with
 | nil=>cases h; exact .nil
 | cons r _ ih=>cases h with | cons i is=>exact .cons (OIs.rp hm ha r i) (ih is)
end
inductive Del (p:Addr × MO):AH→AH→Prop
 | here {r:AH}:Del p (p::r) r
 | there {q:Addr × MO} {r r':AH}:Del p r r'→Del p (q::r) (q::r')
theorem HR.del {M:Mem} {a:Addr} {x:MO} {led:Led} {H H':AH} (h:HR M led H) (u:Del (a,x) H H'):∃ pre o post,led=pre++(a,o)::post∧OIs M o x∧HR M (pre++post) H':=by
 induction u generalizing led with
 | here=>obtain ⟨o,r,e,h,t⟩:=h.consE; exact ⟨[],o,r,e,h,t⟩
 | there _ ih =>
  refine ob_EEAA h.consE fun o r e h t=>?_
  refine ob_EEEAA (ih t) fun pre o' post e' h1 h2=>?_
  exact ⟨_::pre,o',post,by rw [e,e']; rfl,h1,.cons h h2⟩
section
variable {g:Gx} {Γ:Fx} {d:Nat} {lo lo':Loc} {H H₁ H₂:AH} {c:Cx}
theorem HI.freezeAt {mf m:Str→Option Value} {cl fz pre post:Led} {a:Addr} {o:Obj} {h:Heap} (I:HI g c lo H mf m cl fz (pre++(a,o)::post) h) (hr:HR (Cx.mem g fz) (pre++post) H₁):HI g c lo H₁ mf m cl ((a,o)::fz) (pre++post) h:=by
 have pm:(cl++((pre++(a,o)::post)++(c.pins++fz))).Perm (cl++((pre++post)++(c.pins++((a,o)::fz)))):=by
  refine List.Perm.append_left cl ?_
  have e1:(pre++(a,o)::post)++(c.pins++fz)=pre++(a,o)::(post++(c.pins++fz)):=by simp
  have e2:(pre++post)++(c.pins++((a,o)::fz))=(pre++(post++c.pins))++(a,o)::fz:=by simp
  rw [e1,e2]
  refine List.perm_middle.trans (List.Perm.trans ?_ List.perm_middle.symm)
  simp
 exact ⟨I.fr,I.clr,fun p hp=>I.news p (pm.mem_iff.mpr hp),(pm.map _).nodup_iff.mp I.nd,I.lok,I.loc.mono (mem_mono fun _ hp=>.tail _ hp),hr.mono (mem_mono fun _ hp=>.tail _ hp)⟩
theorem RpL.keys {a:Addr} {vs:List V} {lo lo':Loc} (h:RpL a vs lo lo'):lo'.map (·.1)=lo.map (·.1):=by
 induction h with
 | nil=>rfl
 | cons _ _ ih=>rw [List.map_cons,List.map_cons,ih]
theorem RpL.back {a:Addr} {vs:List V} {lo lo':Loc} (h:RpL a vs lo lo'):∀ p∈lo',∃ v,(p.1,v)∈lo∧Rp a vs v p.2:=by
 induction h with
 | nil=>intro p hp; cases hp
 | cons h _ ih =>
  intro p hp
  cases hp with
  | head=>exact ⟨_,.head _,h⟩
  | tail _ hp=>exact (ih p hp).elim fun v q=>⟨v,.tail _ q.1,q.2⟩
theorem Inv.freezeAt {mf m:Str→Option Value} {cl fz led:Led} {s:Shared} {a:Addr} {vs:List V} (I:Inv g c lo H mf m cl fz led s) (hd:Del (a,.lst vs) H H₁) (hl:RpL a vs lo lo') (hh:RpH a vs H₁ H₂) :
  ∃ o led',Inv g c lo' H₂ mf m cl ((a,o)::fz) led' s:=by
 refine ob_EEEAA (I.hi.hr.del hd) fun pre o post ez3 ho hr=>?_
 subst ez3
 have J:=I.hi.freezeAt hr
 refine ob_EEA ho.lstE fun xs n eo ha=>?_
 subst eo
 refine ⟨_,_,⟨⟨J.fr,J.clr,J.news,J.nd,J.lok.of_keys hl.keys,?_,?_⟩,I.gens,I.os,I.tk⟩⟩
 ·intro p hp
  obtain ⟨v,h1,h2⟩:=hl.back p hp
  rcases J.loc _ h1 with e | ⟨x,e,i⟩
  ·have e:v=.unset:=e
   subst e
   generalize p.2=u at h2
   cases h2
   exact .inl rfl
  ·exact .inr ⟨x,e,Is.rp (M:=Cx.mem g ((a,listOf xs.toArray n)::fz)) (.inl (.head _)) (ha.mono (mem_mono fun _ hp=>.tail _ hp)) h2 i⟩
 ·exact HR.rp (M:=Cx.mem g ((a,listOf xs.toArray n)::fz)) (.inl (.head _)) (ha.mono (mem_mono fun _ hp=>.tail _ hp)) hh J.hr
theorem Ss.freeze {a:Addr} {vs:List V} {st:List Stmt} {Q:R→Loc→AH→Prop} (hd:Del (a,.lst vs) H H₁) (hl:RpL a vs lo lo') (hh:RpH a vs H₁ H₂) (h:Ss g Γ d st lo' H₂ Q):Ss g Γ d st lo H Q:=by
 intro c ok fz mf m cl fz₁ led s hs I
 obtain ⟨o,led',J⟩:=I.freezeAt hd hl hh
 exact (h c ok fz).use (fun p hp=>.tail _ (hs p hp)) J fun I' hs' q=>.mk _ _ _ _ _ _ _ I' (fun p hp=>hs' p (.tail _ hp)) q
end
section
variable {g:Gx} {Γ:Fx} {d:Nat} {lo:Loc} {H:AH}
theorem E.sliceG {value:Expr} {lower upper:Option Expr} {pp pos:Pos} {l:Addr} {xs:List Value} {ns:List V} {Q:V→AH→Prop} (hB:g.B.IsList l xs.toArray) (hi:∀ M,IsAll M xs ns) (hz:xs.length≤1000000)
  (h:E g Γ d value lo H fun a H₁=>a=.glo (.ref l)∧Part g Γ d lower lo H₁ fun p H₂=>Part g Γ d upper lo H₂ fun u H₃=>Q (.lst (slc ns p u)) H₃):E g Γ d (.Subscript value (.Slice lower upper Option.none pp) pos) lo H Q:=by
 intro c ok fz
 refine W.cast (t:=do let o ← eval value c.env; let i ← holding [o] (eval (.Slice lower upper Option.none pp) c.env); standAt pos; subscriptTail value (.Slice lower upper Option.none pp) o i) ?_ rfl
 refine W.bindV ((h c ok fz)) fun fz₁ x a H₁ s₁ ia r_=>?_
 obtain ⟨ea,ha⟩:=r_
 subst ea
 have ez:=ia.gloE
 subst ez
 rw [arm_eval_Slice]
 refine W.bind (W.holding (W.bind ((part_W ok ha).mono fun fz₂ vl lo₂ H₂ s₂ r_=>?_)))
 refine ob_AEA r_ fun e₂ pl hl hb=>?_
 try clear r_
 subst e₂
 refine W.bind (W.holding ((part_W ok hb).mono fun fz₃ vu lo₃ H₃ s₃ r_=>?_))
 refine ob_AEA r_ fun e₃ pu hu hc=>?_
 try clear r_
 subst e₃
 refine W.bind (W.holding (W.pure (a:=Value.none) fun fz₄ s₄=>?_))
 refine W.frozen fun mf m cl fz₅ led s hs I P _ k=>wpAny_newObj_type (k { cls:=.type "slice",data:=.fields #[vl,vu,.none] } rfl ?_)
 refine W.at_ (W.frozen fun mf m cl fz₁ led s hs' I P _ k=>?_)
 have ho:=I.hi.there ok.stays (.inl (hs' _ (.head _)))
 have hL:s.heap.IsList l xs.toArray:=by
  obtain ⟨o,e,r⟩:=hB
  exact ⟨o,I.hi.fr.keep _ _ (ok.stays _ _ e),r⟩
 have hs:∀ o i,subscripted (.Slice lower upper Option.none pp) false o i=operate [i,o] (getItem o i):=fun _ _=>rfl
 refine tail_any hL.typeIs PySem.F.slot_list_getitem.lookup (wpAny_getItem_list_slice (lo:=pl.map (·.1)) (hi:=pu.map (·.1)) (st:=Option.none) hL ⟨_,ho,rfl,rfl⟩ hl.part.2 hu.part.2 .none nofun ?_ (by rw [List.size_toArray]; exact small_line hz)) (hs _ _)
 have e:(slicePick xs.toArray (pl.map (·.1)) (pu.map (·.1)) Option.none)=(slc xs (pl.map (·.1)) (pu.map (·.1))).toArray:=by
  rw [slicePick_plain]; unfold slc; simp
 rw [e]
 exact k (listOf _ 0) rfl ⟨rfl,_,.lst (.inl (.head _)) ((hi _).slc _ _),hc⟩
end
theorem post_true {cw:ClaimW} {cl:Str→Option Addr} {mean:ExcName→Option Value} {args:List WData} {s₁ s':Shared} {tabs:List (Addr × Addr)} (hT:TabsAt tabs s₁.heap) (hr:∀ cls,cw.raises args cls=false) (hp:cw.post args (.bool true) args=true)
  (k:∀ b o,(ghostOf s₁.heap tabs).get? b=some o→s'.heap.get? b=some o) (hgr:GrownAll tabs s'.heap) (hos:s'.os=s₁.os) (hg:AllBare s'.gens):GoodWG cw cl mean args s₁ (.ok (.ret (.bool true))) s':=by
 have keep:∀ b o,b ∉ tabs.map (·.2)→s₁.heap.get? b=some o→s'.heap.get? b=some o:=fun b o hb e=>k b o (ghost_ne e hb)
 have grown:∀ b o,b∈tabs.map (·.2)→s₁.heap.get? b=some o→isCodeTable s₁.heap b∧o=tabObj #[]∧∃ ps,s'.heap.get? b=some (tabObj ps):=fun b o hb e=>by
  obtain ⟨q,hq,rfl⟩:=List.mem_map.mp hb
  have e2:=(hT q hq).2
  rw [e] at e2
  exact ⟨((hT q hq).1.tab (hT q hq).2).isCodeTable,Option.some.inj e2,hgr.get q hq⟩
 refine ⟨.inl ⟨_,.bool true,[],rfl,hr,.bool true,hp,fun _=>⟨List.nodup_nil,fun a ha=>nomatch ha⟩⟩,⟨fun b o e=>?_,fun b o e=>?_⟩,hos,hg⟩
 ·by_cases hb:b∈tabs.map (·.2)
  ·refine ob_AAE (grown b o hb e) fun ht ez1 ps hP=>?_
   subst ez1
   exact .inr (.inl ⟨ht,rfl,#[],ps,rfl,by rw [Array.empty_append]; exact hP⟩)
  ·exact .inl (keep b o hb e)
 ·by_cases hb:b∈tabs.map (·.2)
  ·refine ob_AAE (grown b o hb e) fun _ _ ps hP=>?_
   exact ⟨_,hP⟩
  ·exact ⟨o,keep b o hb e⟩
noncomputable abbrev mkG (prog:Program) (w:World) (K:Frag) (loose:List Str) (mean:ExcName→Option Value) (mg mb:Str→Option Value) (B:Heap):Gx:={ prog:=prog,w:=w,K:=K,p:=topProg,loose:=loose,mean:=mean,mg:=mg,mb:=mb,B:=B }
noncomputable def tabH (tabs:List (Addr × Addr)):AH:=tabs.map fun q=>(q.2,.tab Option.none)
noncomputable def TabsIn (tabs:List (Addr × Addr)) (H:AH):Prop:=∀ q∈tabs,∃ p,(q.2,.tab p)∈H
theorem grownAll_of {h:Heap}:∀ {tabs:List (Addr × Addr)},(∀ q∈tabs,GrownAt q.2 h)→GrownAll tabs h
 | [],_=>trivial
 | _::_,k=>⟨k _ (.head _),grownAll_of fun q hq=>k q (.tail _ hq)⟩
theorem tabHR {M:Mem}:∀ tabs:List (Addr × Addr),HR M (tabNews tabs) (tabH tabs)
 | []=>.nil
 | q::r=>.cons .tab0 (tabHR r)
theorem HR.perm {M:Mem} {H H':AH} (p:H.Perm H'):∀ {led:Led},HR M led H→∃ led',led.Perm led'∧HR M led' H':=by
 induction p with
 | nil=>intro led h; cases h; exact ⟨[],.refl _,.nil⟩
 | cons x _ ih =>
  intro led h
  cases h with
  | cons h r =>
   obtain ⟨l',p',r'⟩:=ih r
   exact ⟨_::l',p'.cons _,.cons h r'⟩
 | swap x y l =>
  intro led h
  cases h with
  | cons h r =>
   cases r with
   | cons h' r=>exact ⟨_,List.Perm.swap _ _ _,.cons h' (.cons h r)⟩
 | trans _ _ ih1 ih2 =>
  intro led h
  obtain ⟨l1,p1,r1⟩:=ih1 h
  obtain ⟨l2,p2,r2⟩:=ih2 r1
  exact ⟨l2,p1.trans p2,r2⟩
section
variable {g:Gx} {Γ:Fx} {d:Nat} {lo:Loc} {H H':AH} {c:Cx}
theorem Inv.perm {mf m:Str→Option Value} {cl fz led:Led} {s:Shared} (I:Inv g c lo H mf m cl fz led s) (p:H.Perm H'):∃ led',Inv g c lo H' mf m cl fz led' s:=by
 obtain ⟨led',pl,hr⟩:=I.hi.hr.perm p
 have pm:(cl++(led++(c.pins++fz))).Perm (cl++(led'++(c.pins++fz))):=(pl.append_right _).append_left _
 exact ⟨led',⟨⟨I.hi.fr,I.hi.clr,fun q hq=>I.hi.news q (pm.mem_iff.mpr hq),(pm.map _).nodup_iff.mp I.hi.nd,I.hi.lok,I.hi.loc,hr⟩,I.gens,I.os,I.tk⟩⟩
theorem Ss.perm {st:List Stmt} {Q:R→Loc→AH→Prop} (p:H.Perm H') (h:Ss g Γ d st lo H' Q):Ss g Γ d st lo H Q:=by
 intro c ok fz mf m cl fz₁ led s hs I
 obtain ⟨led',J⟩:=I.perm p
 exact h c ok fz mf m cl fz₁ led' s hs J
end
section
variable {g:Gx} {Γ Γ':Fx} {d:Nat} {lo:Loc} {H:AH} {c:Cx}
theorem HI.leavePin {mf mf' m mm:Str→Option Value} {cl cl' fz led:Led} {h:Heap} {lo':Loc} {env':Env} (I:HI g (inComp c cl mf env') lo' H mf' mm cl' fz led h) (lok:LocOk c.env.scope lo) (loc:LocR (Cx.mem g fz) m lo)
  (C:ClR c mf m cl) (hD:env'.locals≠c.L):∃ oD,NsObj oD mm∧HI g (c.pin (env'.locals,oD)) lo H mf m cl fz led h:=by
 have C':=I.clr
 have N:=I.news
 have D:=I.nd
 obtain ⟨oD,rfl,rfl,no⟩:∃ oD,cl'=[(env'.locals,oD)]∧mf'=mf∧NsObj oD mm:=by
  generalize hc:inComp c cl mf env'=c' at C'
  induction C' with
  | own e=>exact absurd (by rw [← hc] at e; exact e) hD
  | @apart m o kp q =>
   refine ⟨o,by rw [← hc]; rfl,?_,q⟩
   rw [← hc] at kp
   exact (Option.some.inj kp).symm
 have e3:[(env'.locals,oD)]++(led++((inComp c cl mf' env').pins++fz))=(env'.locals,oD)::(led++((cl++c.pins)++fz)):=rfl
 rw [e3] at N D
 have pm:(cl++(led++((c.pin (env'.locals,oD)).pins++fz))).Perm ((env'.locals,oD)::(led++((cl++c.pins)++fz))):=by
  show (cl++(led++(((env'.locals,oD)::c.pins)++fz))).Perm _
  have e1:cl++(led++(((env'.locals,oD)::c.pins)++fz))=(cl++led)++(env'.locals,oD)::(c.pins++fz):=by simp
  rw [e1]
  refine List.perm_middle.trans (List.Perm.cons _ ?_)
  have h1:(cl++(led++(c.pins++fz))).Perm (led++(cl++(c.pins++fz))):=by
   rw [← List.append_assoc,← List.append_assoc (as:=led)]
   exact (List.perm_append_comm).append_right _
  simpa [List.append_assoc] using h1
 exact ⟨oD,no,I.fr,C.to rfl rfl rfl,fun z hz=>N z (pm.mem_iff.mp hz),(pm.map _).nodup_iff.mpr D,lok,loc,I.hr⟩
end
noncomputable def clsAtN (K:Frag) (C:Addr) (name:Str):Option Value :=
 if plainGet K C name&&isClsIn K C&&!copiedNames.contains name then
  (findIn K (.ref C) name).bind fun r=>r.bind fun a=>if specialIn K a "__get__"==some none&&handedIn a then some a else none
 else none
section
variable {g:Gx} {Γ:Fx} {d:Nat} {lo:Loc} {H:AH} {c:Cx} {fz:Led}
theorem findObj_clsN {K:Frag} {C:Addr} {name:Str} {a:Value} (hh:isClsIn K C=true) (ha:findIn K (.ref C) name=some (some a)) (hn:specialIn K a "__get__"=some none) (hv:handedIn a=true) (hc:copiedNames.contains name=false) :
  findObj K C (some (dictOf [] 0)) name=some (.value a):=by
 obtain ⟨cd,hc'⟩:=Option.isSome_iff_exists.mp hh
 unfold findObj
 have ho:PySem.W.ownOf cd (some (dictOf [] 0)) name=some none:=by
  unfold PySem.W.ownOf
  split
  ·rfl
  ·rfl
 rw [hc',Option.bind_some,ha,Option.bind_some]
 try dsimp only
 rw [hn]
 try dsimp only [Option.bind_some]
 rw [ho]
 try dsimp only [Option.bind_some]
 rw [hc,Bool.false_and,if_neg bn,hv,if_pos rfl]
set_option tactic.hygienic true in
theorem clsAttrN_W (ok:c.Ok g Γ d) {x:Value} {C:Addr} {vs:List V} {name:Str} {expr:Bool} {a:Value} {v:V} {Q:V→AH→Prop} (ix:Is (Cx.mem g fz) x (.obj C vs)) (hs:clsAtN g.K C name=some a) (iv:∀ M,Is M a v) (q:Q v H) :
  W g c fz (getAttr x name expr) lo H (VP g lo Q):=by
 refine W.now fun mf m cl fz₁ led s hs' I P _ k=>?_
 have ix:=ix.mono (mem_mono hs')
 refine ob_EEEAAA ix.objE fun _ _ _ ez hm hd hsl=>?_
 subst ez
 obtain ⟨q1,hs⟩:=ite_some hs
 obtain ⟨r,q2,hs⟩:=Option.bind_eq_some_iff.mp hs
 obtain ⟨b,rfl,hs⟩:=Option.bind_eq_some_iff.mp hs
 obtain ⟨q3,hs⟩:=ite_some hs
 cases hs
 simp only [Bool.and_eq_true,beq_iff_eq,Bool.not_eq_true'] at q1 q3
 have X₀:g.K.In c.h₀:=ok.gok.kin.keeps fun b o e=>ok.stays b o e
 exact get_value (X₀.keeps I.hi.fr.keep) (instAt (M:=Cx.mem g fz₁) (I.hi.there ok.stays hm) (I.hi.there ok.stays hd)) (plainGet_of q1.1.1).1 (findObj_clsN q1.1.2 q2 q3.1 q3.2 q1.2) q3.2 (k _ _ (I.toks _) ⟨rfl,_,iv _,q⟩)
theorem E.attrC {value:Expr} {name:Str} {pos:Pos} {Q:V→AH→Prop} (h:E g Γ d value lo H fun a H₁=>∃ C vs x v,a=.obj C vs∧clsAtN g.K C name=some x∧(∀ M,Is M x v)∧Q v H₁)
  (he:autoParam (∀ env,eval (.Attribute value name pos) env=(do
   let o ← eval value env
   standAt pos.atName
   let r ← holding [o] (getAttr o name true)
   letTemporaryGo value o r
   Pure.pure r)) irfa):E g Γ d (.Attribute value name pos) lo H Q:=by
 intro c ok fz
 rw [he]
 refine W.bindV (h c ok fz) fun fz₁ x a H₁ s₁ ia r_=>?_
 refine ob_EEEEAAA r_ fun C vs y v ea q1 q2 q3=>?_
 try clear r_
 subst ea
 exact W.at_ (W.bindV (W.holding (clsAttrN_W ok ia q1 q2 q3)) fun fz₂ r v H₂ s₂ iv q=>W.letGo ok iv q)
theorem E.attrS {x name:Str} {p pos:Pos} {C:Addr} {vs:List V} {i:Nat} {v:V} {Q:V→AH→Prop} (q:Q v H) (hm:(x,.obj C vs)∈lo) (hs:slotAt g.K C name=some i) (hv:vs[i]?=some v) (hp:v.plain=true)
  (he:autoParam (∀ env,eval (.Attribute (.Name x p) name pos) env=(do
   let o ← eval (.Name x p) env
   standAt pos.atName
   let r ← holding [o] (getAttr o name true)
   letTemporaryGo (.Name x p) o r
   Pure.pure r)) irfa):E g Γ d (.Attribute (.Name x p) name pos) lo H Q :=
 E.attr (E.loc hm nofun ⟨C,vs,i,v,rfl,hs,hv,hp,q⟩) he
theorem E.attrT {x name:Str} {p pos:Pos} {C:Addr} {vs:List V} {y:Value} {v:V} {Q:V→AH→Prop} (q:Q v H) (hm:(x,.obj C vs)∈lo) (hs:clsAtN g.K C name=some y) (hv:∀ M,Is M y v)
  (he:autoParam (∀ env,eval (.Attribute (.Name x p) name pos) env=(do
   let o ← eval (.Name x p) env
   standAt pos.atName
   let r ← holding [o] (getAttr o name true)
   letTemporaryGo (.Name x p) o r
   Pure.pure r)) irfa):E g Γ d (.Attribute (.Name x p) name pos) lo H Q :=
 E.attrC (E.loc hm nofun ⟨C,vs,y,v,rfl,hs,hv,q⟩) he
noncomputable abbrev KSet (x C:Addr) (vs vs':List V) (i:Nat) (lo:Loc) (H:AH) (Q:R→Loc→AH→Prop):V→AH→Prop:=fun v H₁=>H₁=(x,.ins C vs)::H∧setSl i v vs=vs'∧Q .next lo ((x,.ins C vs')::H)
theorem S.setattrH {self name:Str} {x C:Addr} {vs vs':List V} {i:Nat} {p pos' pos:Pos} {value:Expr} {Q:R→Loc→AH→Prop} (hi:setAt g.K C name=some i) (h1:i < 1000) (hm:(self,.ref x)∈lo)
  (hs:∀ env,pure false=swapsWith value (some (.Attribute (.Name self p) name pos')) pos.line env) (h:E g Γ d value lo ((x,.ins C vs)::H) (KSet x C vs vs' i lo H Q)):S g Γ d (.Assign [.Attribute (.Name self p) name pos'] value pos) lo ((x,.ins C vs)::H) Q :=
 S.setattr (h.mono fun v H₁ r=>by rw [r.1]; exact E.loc hm nofun ⟨x,C,vs,i,_,rfl,hi,h1,.here,r.2.1 ▸ r.2.2⟩) fun env=>(hs env).symm
end
section
open PySem.Builtin PySem.Builtin.Str
section
variable {g:Gx} {Γ Γ':Fx} {d:Nat} {lo:Loc} {H:AH} {c:Cx}
end
end
section
open PySem.Builtin PySem.Builtin.Str
section
variable {g:Gx} {Γ:Fx} {d:Nat} {lo:Loc} {H:AH}
end
end
section
open PySem.Builtin PySem.Builtin.Str
section
variable {g:Gx} {Γ:Fx} {d:Nat} {lo:Loc} {H:AH} {c:Cx} {fz:Led}
theorem kind_of (ok:c.Ok g Γ d) {x:Str} {k:NameKind} (h:Γ.scope.names.lookup x=some k):c.env.kindOf x=some k:=by unfold Env.kindOf; rw [ok.scope]; exact h
theorem cells_of (ok:c.Ok g Γ d) {x:Str} {a:Addr} (h:Γ.cells.lookup x=some a):c.env.cells.lookup x=some a:=by
 rw [ok.cells.resolve_left (by intro e; rw [e] at h; cases h)]; exact h
theorem E.cell {x:Str} {pos:Pos} {a:Addr} {v:V} {Q:V→AH→Prop} (hc:Γ.cells.lookup x=some a) (hk:Γ.scope.names.lookup x=some .cell∧(x==("__debug__":Str))=false) (hm:(a,.cell v)∈H) (hv:v≠.unset) (q:Q v H):E g Γ d (.Name x pos) lo H Q:=by
 intro c ok fz
 refine W.now fun mf m cl fz₁ led s hs I P _ k=>?_
 obtain ⟨o,ho,io⟩:=I.hi.hr.at_ hm
 rcases io.cellE with ⟨e,_⟩ | ⟨y,hd,iy⟩
 ·exact absurd e hv
 ·exact wpAny_Name (wpAny_loadName_cell ok.kind (kind_of ok hk.1) (cells_of ok hc) ⟨o,I.hi.thereLed ho,hd⟩ (k _ _ I.z ⟨rfl,_,iy,q⟩)) hk.2
theorem storeC_W (ok:c.Ok g Γ d) {x:Str} {a:Addr} {cv:Value} {u v:V} {H':AH} {Q:Led→Unit→Loc→AH→Prop} (hc:Γ.cells.lookup x=some a) (hk:Γ.scope.names.lookup x=some .cell) (hu:MUpd a (.cell u) (.cell v) H H') (i:Is (Cx.mem g fz) cv v)
  (h:∀ fz',(∀ p∈fz,p∈fz')→Q fz' () lo H'):W g c fz (storeName c.env x cv) lo H Q:=by
 intro mf m cl fz₁ led s hs I
 obtain ⟨pre,o,post,el,io,hr⟩:=I.hi.hr.split hu
 subst el
 have hd:∃ v0,o.data=.cell v0:=io.cellE.elim (fun e=>⟨_,e.2⟩) (fun ⟨_,e,_⟩=>⟨_,e⟩)
 obtain ⟨v0,hd⟩:=hd
 have hmem:=I.hi.news (a,o) (by simp)
 refine wpAny_storeName_cell ok.kind (kind_of ok hk) (cells_of ok hc) ⟨o,hmem.1,hd⟩ fun h' hv hsb=>?_
 obtain ⟨o',ho',hd'⟩:=hv
 have N:=I.hi.news
 refine .mk lo H' mf m cl fz₁ (pre++(a,o')::post) ⟨I.hi.update (I.hi.fr.change hsb hmem.2.1 hmem.2.2) (hr o' (.cell hd' (i.mono (mem_mono hs)))) fun p q e h1 h2=>?_,I.gens,I.os,I.tk⟩ (fun _ x=>x) (h _ hs)
 rw [← List.append_assoc,e] at N
 exact N.setAt h1 h2 hsb ho'
theorem bindC_W (ok:c.Ok g Γ d) {x:Str} {a:Addr} {cv:Value} {u v:V} {H':AH} {Q:Led→Unit→Loc→AH→Prop} (hc:Γ.cells.lookup x=some a) (hk:Γ.scope.names.lookup x=some .cell) (hu:MUpd a (.cell u) (.cell v) H H') (i:Is (Cx.mem g fz) cv v)
  (h:∀ fz',(∀ p∈fz,p∈fz')→Q fz' () lo H'):W g c fz (bindName c.env x cv) lo H Q :=
 (storeC_W ok hc hk hu i h).lift fun _ _ _ x=>wpAny_bindName x
noncomputable def CellK (a:Addr) (v:V) (H:AH) (k:AH→Prop):Prop:=∃ u H',MUpd a (.cell u) (.cell v) H H'∧k H'
theorem S.assignC {x:Str} {a:Addr} {pos' pos:Pos} {value:Expr} {Q:R→Loc→AH→Prop} (hc:Γ.cells.lookup x=some a) (hk:Γ.scope.names.lookup x=some .cell) (h:E g Γ d value lo H fun v H₁=>CellK a v H₁ fun H₂=>Q .next lo H₂)
  (hs:∀ env,env.kindOf x=some .cell→swapsWith value (some (.Name x pos')) pos.line env=pure false):S g Γ d (.Assign [.Name x pos'] value pos) lo H Q:=by
 intro c ok fz
 rw [exec_Assign_Name _ _ _ _ _ (hs _ (kind_of ok hk))]
 refine W.at_ (W.bindV ((h c ok fz)) fun fz₁ x v H₁ s₁ i r_=>?_)
 obtain ⟨u,H',hu,q⟩:=r_
 exact W.at_ (W.bind (bindC_W ok hc hk hu i fun fz₂ s₂=>W.pure fun _ _=>⟨_,.next,q⟩))
theorem swaps_cell {elt:Expr} {gs:List Comprehension} {sc:Scope} {q:Pos} {x:Str} {p:Pos} {n:Nat} {env:Env} (h:env.kindOf x=some .cell):swapsWith (.ListComp elt gs sc q) (some (.Name x p)) n env=pure false:=by
 unfold swapsWith
 first | rfl | (dsimp only; rw [h]; rw [show ((some NameKind.cell==some NameKind.local):Bool)=false from rfl,Bool.and_false]; rfl)
end
section
variable {prog:Program} {w:World} {A₀ A:Around} {s:Shared} {base h₀:Heap} {outer:List Env} {L:Addr} {m:Str→Option Value} {env:Env} {news:List (Addr × Obj)} {K:Frag}
 {R:Result→Shared→Prop} {name qual:Str} {params:Arguments} {body:List Stmt} {scope:Scope} {dV kV doc pm cdv ct oc:Value} {an od:Option Addr} {osl:Array (Option Value)} {f:Addr} {args:Args} {binds:List (Str × Value)}
theorem cellsAre_map {cm:Str→Option Value} {cs:List (Str × Addr)} {cells:List (Addr × Obj)} (h:CellsAre cm cs cells):cells.map (·.1)=cs.map (·.2):=by
 induction h with
 | nil=>rfl
 | cons _ _ ih=>rw [List.map_cons,List.map_cons,ih]
end
theorem HR.appE {M:Mem} {led:Led} {H H':AH} (h:HR M led (H++H')):∃ a b,led=a++b∧HR M a H∧HR M b H':=by
 induction H generalizing led with
 | nil=>exact ⟨[],led,rfl,.nil,h⟩
 | cons p H ih =>
  refine ob_EEAA h.consE fun o r e ho hr=>?_
  obtain ⟨a,b,e2,ha,hb⟩:=ih hr
  exact ⟨(p.1,o)::a,b,by rw [e,e2]; rfl,.cons ho ha,hb⟩
theorem HR.app {M:Mem} {a b:Led} {H H':AH} (h:HR M a H) (h':HR M b H'):HR M (a++b) (H++H'):=by
 induction h with
 | nil=>exact h'
 | cons h _ ih=>exact .cons h ih
noncomputable abbrev Fx.at_ (Γ:Fx) (L:Addr):Fx:={ Γ with cells:=cellsFrom (L+1) Γ.scope.names [] }
set_option genInjectivity false in
structure CompOkC (g:Gx) (Γ Γ':Fx) (sc:Scope) (x:Str):Prop where
 rel:∀ env:Env,env.scope=Γ.scope→env.scope.kind=.function→relabel sc env=Γ'.scope
 clos:∀ env:Env,env.scope=Γ.scope→(Γ.cells=[]∨env.cells=Γ.cells)→closureFor sc env=pure Γ'.cells
 code:Γ'.code=.none
 cell:∀ y∈sc.names,y.2≠.cell
 kind:sc.kind=.function∧Γ'.scope.kind=.function
 names:∀ y∈sc.names,y.2=.local→sc.names.lookup y.1=some .local
 x:Γ'.scope.names.lookup x=some .local∧(x==("__debug__":Str))=false
 globs:∀ p∈Γ'.globs,Γ'.scope.names.lookup p.1=some .globalImplicit∧(p.1==("__debug__":Str))=false ∧
  (g.mg p.1=some p.2∨(g.mg p.1=none∧g.mb p.1=some p.2))
section
variable {g:Gx} {Γ Γ':Fx} {d:Nat} {lo:Loc} {H:AH} {c:Cx}
theorem inComp_okC (ok:c.Ok g Γ d) {sc:Scope} {x:Str} (O:CompOkC g Γ Γ' sc x) {cl:Led} {mf:Str→Option Value} {L b₀:Addr} {qual:Str} :
  (inComp c cl mf { newEnv sc L c.env.globals Γ'.cells qual Option.none .none (some c.env) b₀ with scope:=Γ'.scope }).Ok g Γ' d :=
 { gok:=ok.gok,below:=ok.below,frames:=ok.frames,handled:=ok.handled,fframe:=ok.fframe,fkind:=ok.fkind,bot:=ok.bot,scope:=rfl,kind:=O.kind.2,globals:=ok.globals,builtins:=ok.builtins,room:=ok.room,units:=ok.units,globs:=O.globs,code:=.inl O.code,cells:=.inr rfl }
noncomputable abbrev LoopK (g:Gx) (Γ':Fx) (d:Nat) (elt iter:Expr) (ifs:List Expr) (sc:Scope) (x:Str) (px pos:Pos) (vs out:List V) (H:AH):Prop :=
 ∀ {c:Cx} {env':Env} {cl fz led cl₀:Led} {mf mm:Str→Option Value} {a acc:Addr} {o:Obj} {s:Shared},(inComp c cl₀ mf env').Ok g Γ' d→Inv g ((inComp c cl₀ mf env').pin (a,o)) [(x,.unset)] ((acc,.lst [])::H) mf mm cl fz led s→ItR (Cx.mem g fz) s.heap a vs →
  codeAny (model g.prog g.w) c.A (.compStart (.ListComp elt [⟨.Name x px,iter,ifs,0⟩] sc pos) 0 (.ref a) (.ref acc) env') (CE g (inComp c cl₀ mf env') acc H out fz) s
theorem E.compG {sc:Scope} {elt iter:Expr} {ifs:List Expr} {x:Str} {px pos:Pos} {Q:V→AH→Prop} (O:CompOkC g Γ Γ' sc x)
  (h:E g Γ d iter lo H fun v H₁=>∃ vs out,items v=some vs∧LoopK g Γ' d elt iter ifs sc x px pos vs out H₁∧Q (.lst out) H₁)
  (hs:autoParam (∀ env x,foldedSetIterable iter env x=pure x) irfa):E g Γ d (.ListComp elt [⟨.Name x px,iter,ifs,0⟩] sc pos) lo H Q:=by
 intro c ok fz mf m cl fz₁ led s hs' I
 rw [eval_ListComp]
 refine wpAny_comprehension_free rfl (hs _) (O.clos c.env ok.scope ok.cells) O.kind.1 O.names ((h c ok fz).useV hs' I fun {cv s₁ H₁ mf₁ m₁ cl₁ fz₂ led₁ v} I₁ hs₁ iv r_=>?_)
 refine ob_EEAA r_ fun vs f ei loop fin=>?_
 try clear r_
 refine iter_start ok I₁ iv ei fun a o s₂ I₂ r₂=>?_
 refine wpAny_newList ?_
 have J₃:HI g (c.pin (a,o)) lo ((s₂.heap.objs.size,.lst [])::H₁) mf₁ m₁ cl₁ fz₂ ((s₂.heap.objs.size,listOf #[] 0)::led₁) (s₂.heap.push (listOf #[] 0)):=I₂.hi.newLed (.lst (vs:=[]) .nil)
 have r₃:ItR (Cx.mem g fz₂) (s₂.heap.push (listOf #[] 0)) a vs:=r₂.keeps fun o e=>Heap.get?_push_of_some _ e
 generalize s₂.heap.objs.size=acc at *
 refine wpAny_newFunctionEnv O.cell (fun y hy=>nomatch hy) (fun h' hn hsb=>?_) O.kind.1
 have hLt:c.L < (s₂.heap.push (listOf #[] 0)).objs.size:=J₃.fr.ns.lt
 rw [show (List.reverse ([]:List (Str × Value)))=[] from rfl] at hn
 generalize hD:(s₂.heap.push (listOf #[] 0)).objs.size=D at *
 rw [O.rel c.env ok.scope ok.kind]
 have ok':=inComp_okC ok O (cl:=cl₁) (mf:=mf₁) (L:=D) (qual:=c.env.qual) (b₀:=builtinsNs)
 obtain ⟨oD,J₄⟩:=J₃.enterComp O.x (env':={ newEnv sc D c.env.globals Γ'.cells c.env.qual Option.none .none (some c.env) builtinsNs with scope:=Γ'.scope }) ⟨rfl,hD.symm⟩ rfl (by rw [hD]; exact hn) (by rw [hD]; exact hsb)
 have r₄:ItR (Cx.mem g fz₂) h' a vs:=r₃.keeps fun o e=>by
  have hlt:=Heap.lt_size e
  rw [hD] at hlt
  exact (hsb.2 a (Nat.ne_of_lt hlt)).trans (Heap.get?_push_of_some _ e)
 have hDL:D≠c.L:=Nat.ne_of_gt hLt
 refine codeAny_mono (loop ok' (s:={ heap:=h',gens:=s₂.gens,drawn:=s₂.drawn,toks:=s₂.toks+0,os:=s₂.os }) ⟨J₄,I₂.gens,I₂.os,I₂.tk⟩ r₄) fun r s' w=>?_
 cases w with | @mk lx mf' mm' cl' fz' led' er I₅ hz =>
 subst er
 refine ⟨mm',I₅.hi.ns,fun h'' hs''=>?_⟩
 have J₆:=I₅.hi.leaveComp I₁.hi.lok (I₁.hi.loc.mono (mem_mono hz)) I₁.hi.clr hDL hs''
 refine ob_EEAA J₆.hr.consE fun oo led₀ el ho hr=>?_
 subst el
 have J₇:=J₆.freeze
 refine ob_EEA ho.lstE fun xs n eo ha=>?_
 subst eo
 exact .mk lo H₁ mf₁ m₁ cl₁ _ led₀ ⟨J₇,I₅.gens,I₅.os,I₅.tk⟩ (fun p hp=>.tail _ (hz p (hs₁ p hp))) ⟨rfl,_,.lst (.inl (.head _)) (ha.mono (mem_mono fun _ hp=>.tail _ hp)),fin⟩
theorem E.compC {sc:Scope} {elt iter:Expr} {x:Str} {px pos:Pos} {Q:V→AH→Prop} (O:CompOkC g Γ Γ' sc x)
  (h:E g Γ d iter lo H fun v H₁=>∃ vs f,items v=some vs∧vs.length≤1000000∧(∀ u∈vs,∀ H',(∀ p∈H₁,p∈H')→E g Γ' d elt [(x,u)] H' fun r H''=>H''=H'∧r=f u)∧Q (.lst (vs.map f)) H₁)
  (hs:autoParam (∀ env x,foldedSetIterable iter env x=pure x) irfa):E g Γ d (.ListComp elt [⟨.Name x px,iter,[],0⟩] sc pos) lo H Q :=
 E.compG O (h.mono fun v H₁ r=>ob_EEAAA r fun vs f ei hlen step fin=>⟨vs,vs.map f,ei,fun ok' I r=>comp_loop ok' I r hlen step,fin⟩) hs
end
noncomputable def relS (sc Γ:Scope):Scope:={ sc with names:=sc.names.map fun (n,k)=>if (k==.free&&Γ.names.lookup n==some .cell) then (n,.cell) else (n,k) }
theorem relS_ok {sc Γ:Scope} (env:Env) (h:env.scope=Γ) (hk:env.scope.kind=.function):relabel sc env=relS sc Γ:=by
 unfold relabel relS Env.kindOf
 rw [hk,h]
 simp only [beq_self_eq_true,Bool.and_true]
noncomputable def closGo (cells:List (Str × Addr)):List (Str × NameKind)→List (Str × Addr)→Option (List (Str × Addr))
 | [],acc=>some acc
 | (n,k)::r,acc=>if k==.free then (cells.lookup n).bind (fun a=>closGo cells r ((n,a)::acc)) else closGo cells r acc
theorem clos_for {env:Env} {cells:List (Str × Addr)} (hc:env.cells=cells) {f:Str × NameKind→List (Str × Addr)→Sem (ForInStep (List (Str × Addr)))} (hf:∀ n k acc,f (n,k) acc=if k==.free then (do let a ← cellOf env n; pure (.yield ((n,a)::acc))) else pure (.yield acc)):∀ (names:List (Str × NameKind)) (acc cs:List (Str × Addr)),closGo cells names acc=some cs→forIn names acc f=pure cs
 | [],acc,cs,h=>by cases h; rfl
 | (n,k)::r,acc,cs,h=>by
  replace h:(if (k==.free)=true then (cells.lookup n).bind (fun a=>closGo cells r ((n,a)::acc)) else closGo cells r acc)=some cs:=h
  rw [List.forIn_cons,hf]
  cases hk:(k==.free) with
  | false =>
   rw [hk] at h
   exact clos_for hc hf r acc cs h
  | true =>
   rw [hk] at h
   simp only [if_true] at h ⊢
   unfold cellOf
   rw [hc]
   cases hl:cells.lookup n with
   | none=>rw [hl] at h; cases h
   | some a=>rw [hl] at h; exact clos_for hc hf r _ cs h
theorem clos_of {sc:Scope} {env:Env} {cells cs:List (Str × Addr)} (hc:env.cells=cells) (h:closGo cells sc.names []=some cs):closureFor sc env=pure cs:=by
 unfold closureFor
 dsimp only
 rw [clos_for hc (fun n k acc=>rfl) sc.names [] cs h]
 rfl
theorem clos_nil {cells:List (Str × Addr)}:∀ {names:List (Str × NameKind)},(∀ y∈names,y.2≠.free∧y.2≠.cell)→closGo cells names []=some []:=fun {names} h=>by
 induction names with
 | nil=>rfl
 | cons q r ih =>
  obtain ⟨n,k⟩:=q
  refine Eq.trans (if_neg (by simpa using (h _ (.head _)).1)) ?_
  exact ih fun y hy=>h y (.tail _ hy)
theorem CompOk.toC {g:Gx} {Γ Γ':Fx} {x:Str} (O:CompOk g Γ' x):CompOkC g Γ Γ' Γ'.scope x:=by
 refine ⟨fun env _ _=>?_,fun env _ _=>?_,O.code,fun y hy=>(O.free y hy).2,⟨O.kind,O.kind⟩,O.names,O.x,O.globs⟩
 ·unfold relabel
  rw [show Γ'.scope.names.map (fun (n,k)=>if (k==.free&&env.scope.kind==.function&&env.kindOf n==some .cell) then (n,NameKind.cell) else (n,k))=Γ'.scope.names from (List.map_congr_left fun y hy=>by
   show (if (y.2==.free&&_&&_) then _ else y)=id y
   rw [show (y.2==NameKind.free)=false from beq_eq_false_iff_ne.mpr (O.free y hy).1]
   rfl).trans (List.map_id _)]
 ·rw [clos_of rfl (clos_nil O.free),O.cells]
theorem E.comp {g:Gx} {Γ Γ':Fx} {d:Nat} {lo:Loc} {H:AH} {elt iter:Expr} {x:Str} {px pos:Pos} {Q:V→AH→Prop} (O:CompOk g Γ' x)
  (h:E g Γ d iter lo H fun v H₁=>∃ vs f,items v=some vs∧vs.length≤1000000∧(∀ u∈vs,∀ H',E g Γ' d elt [(x,u)] H' fun r H''=>H''=H'∧r=f u)∧Q (.lst (vs.map f)) H₁)
  (hs:autoParam (∀ env x,foldedSetIterable iter env x=pure x) irfa):E g Γ d (.ListComp elt [⟨.Name x px,iter,[],0⟩] Γ'.scope pos) lo H Q :=
 E.compC O.toC (h.mono fun v H₁ r=>r.elim fun vs r=>r.elim fun f r=>⟨vs,f,r.1,r.2.1,fun u hu H' _=>r.2.2.1 u hu H',r.2.2.2⟩) hs
end
section
open PySem.Builtin PySem.Builtin.Str
section
variable {g:Gx} {Γ:Fx} {d:Nat} {lo:Loc} {H:AH}
theorem CB.range {n:Int} {Q:V→AH→Prop} (h:Q (.rng 0 n 1) H):CallB g d (.type "range") [.int n] H Q:=by
 intro Γ c ok fz lo xs is mf m cl fz₁ led s hs I
 obtain ⟨_,e,i⟩:=is.one
 refine i.intE.elim fun t e1=>?_
 subst e; subst e1
 refine call_range_1 ?_
 exact .mk lo H mf m cl ((s.heap.objs.size,rngOf 0 n 1 s.toks t (s.toks+1))::fz₁) led ⟨I.hi.newFz _,I.gens,I.os,Nat.le_succ_of_le (Nat.le_succ_of_le I.tk)⟩ (fun _ hp=>.tail _ hp) ⟨rfl,_,.rng (.inl (.head _)),h⟩
theorem rngV_map:∀ (n:Nat) (x:Int),rngV x 1 n=(List.range' 0 n).map fun i=>V.int (x+(i:Nat))
 | 0,x=>rfl
 | n+1,x=>by
  show V.int x::rngV (x+1) 1 n=_
  rw [rngV_map n (x+1),List.range'_succ,List.map_cons,List.range'_eq_map_range,List.range'_eq_map_range,List.map_map,List.map_map]
  congr 1
  ·simp
  ·refine List.map_congr_left fun i _=>?_
   show V.int (x+1+((0+i:Nat):Int))=V.int (x+((0+1+i:Nat):Int))
   congr 1; omega
theorem items_range {n:Nat} (h:n≤1000):items (.rng 0 n 1)=some ((List.range' 0 n).map fun i=>V.int (i:Nat)):=by
 have e1:Builtin.Range.rangeSize 0 (n:Int) 1=n:=by unfold Builtin.Range.rangeSize; simp; exact ar 1 [_] (.im (.eq .v0 .n0) (.ieq .n0 .v0)) rfl
 have e2:Builtin.Range.small 0 (n:Int) 1=true:=by
  unfold Builtin.Range.small
  rw [e1]
  unfold Builtin.Range.rangeFitsLong
  simp; exact ar 1 [_] (.im (.le .v0 (.n 1000)) (.an (.ilt .v0 (.n 9223372036854775808)) (.or (.eq .v0 .n0) (.ilt .v0 (.n 9223372036854775808))))) rfl h
 show (if Builtin.Range.small 0 (n:Int) 1=true then some (rngV 0 1 (Builtin.Range.rangeSize 0 (n:Int) 1).toNat) else none)=_
 rw [if_pos e2,e1,Int.toNat_natCast,rngV_map]
 simp
theorem bot_list {c:Cx} (ok:c.Ok g Γ d) {l:Addr} {xs:Array Value} (hB:g.B.IsList l xs) {mf m:Str→Option Value} {cl fz led:Led} {s:Shared} (I:Inv g c lo H mf m cl fz led s):s.heap.IsList l xs:=by
 obtain ⟨o,e,r⟩:=hB
 exact ⟨o,I.hi.fr.keep _ _ (ok.stays _ _ e),r⟩
theorem E.idxG {value slice:Expr} {pos:Pos} {l:Addr} {xs:List Value} {ns:List V} {Q:V→AH→Prop} (hB:g.B.IsList l xs.toArray) (hi:∀ M,IsAll M xs ns) (hz:xs.length≤1000000)
  (h:E g Γ d value lo H fun a H₁=>a=.glo (.ref l)∧E g Γ d slice lo H₁ fun b H₂=>∃ (j:Nat) (v:V),b=.int j∧ns[j]?=some v∧Q v H₂)
  (hs:autoParam (∀ o i,subscripted slice false o i=operate [o,i] (getItem o i)) irfa):E g Γ d (.Subscript value slice pos) lo H Q:=by
 intro c ok fz
 refine W.cast (t:=do let o ← eval value c.env; let i ← holding [o] (eval slice c.env); standAt pos; subscriptTail value slice o i) ?_ rfl
 refine W.bindV ((h c ok fz)) fun fz₁ x a H₁ s₁ ia r_=>?_
 obtain ⟨ea,ha⟩:=r_
 subst ea
 have ez:=ia.gloE
 subst ez
 refine W.bindV (W.holding (ha c ok fz₁)) fun fz₂ y b H₂ s₂ ib r_=>?_
 obtain ⟨j,v,eb,hj,q⟩:=r_
 subst eb
 refine ib.intE.elim fun t e2=>?_
 subst e2
 refine W.at_ (W.now fun mf m cl fz₁ led s hs' I P _ k=>?_)
 have hL:=bot_list ok hB I
 obtain ⟨z,hzz,iz⟩:=(hi (Cx.mem g fz₁)).get hj
 have hjl:j < xs.length:=(List.getElem?_eq_some_iff.mp hzz).1
 exact tail_any hL.typeIs PySem.F.slot_list_getitem.lookup (wpAny_getItem_list (x:=z) hL (Int.natCast_nonneg j) (by exact ar 2 [_,_] (.im (.lt .v0 .v1) (.im (.le .v1 (.n 1000000)) (.ilt .v0 (.n 9223372036854775808)))) rfl hjl hz) (by rw [List.getElem?_toArray]; exact hzz) (k _ _ I.z ⟨rfl,_,iz,q⟩)) (hs _ _)
end
end
section
variable {g:Gx} {d:Nat}
theorem perm5 (cl a b pins fz:Led):(cl++((a++b)++(pins++fz))).Perm (cl++(b++((a++pins)++fz))):=by
 refine List.Perm.append_left cl ?_
 have h1:((a++b)++(pins++fz)).Perm ((b++a)++(pins++fz)):=List.perm_append_comm.append_right _
 refine h1.trans ?_
 rw [List.append_assoc,List.append_assoc]
theorem Call.frame {f:Value} {args:List V} (F:AH) {H:AH} {Q:V→AH→Prop} (h:Call g d f args H Q):Call g d f args (F++H) (fun v H'=>∃ H'',H'=F++H''∧Q v H''):=by
 intro Γ c ok lo xs mf m cl fz led s is I
 obtain ⟨a,b,e,ha,hb⟩:=I.hi.hr.appE
 subst e
 have pm:=perm5 cl a b c.pins fz
 have ok':({ c with pins:=a++c.pins }:Cx).Ok g Γ d:={ gok:=ok.gok,below:=ok.below,frames:=ok.frames,handled:=ok.handled,fframe:=ok.fframe,fkind:=ok.fkind,bot:=ok.bot,scope:=ok.scope,kind:=ok.kind,globals:=ok.globals,builtins:=ok.builtins,room:=ok.room,units:=ok.units,globs:=ok.globs,code:=ok.code,cells:=ok.cells }
 have I':Inv g { c with pins:=a++c.pins } lo H mf m cl fz b s:=⟨⟨I.hi.fr,I.hi.clr.to rfl rfl rfl,fun p hp=>I.hi.news p (pm.mem_iff.mpr hp),(pm.map _).nodup_iff.mp I.hi.nd,I.hi.lok,I.hi.loc,hb⟩,I.gens,I.os,I.tk⟩
 refine codeAny_mono (h Γ _ ok' lo xs mf m cl fz b s is I') fun r s' q=>?_
 rcases r with e | (x | _ | _ | _) <;> first | exact False.elim q | skip
 induction q with
 | @mk H' cl' fz' led' y J hs i q =>
  have pm':=perm5 cl' a led' c.pins fz'
  exact .mk (led':=a++led') ⟨⟨J.hi.fr,J.hi.clr.to rfl rfl rfl,fun p hp=>J.hi.news p (pm'.mem_iff.mp hp),(pm'.map _).nodup_iff.mpr J.hi.nd,J.hi.lok,J.hi.loc,HR.app (ha.mono (mem_mono hs)) J.hi.hr⟩,J.gens,J.os,J.tk⟩ hs i ⟨H',rfl,q⟩
end
section
open PySem.Builtin PySem.Builtin.Str
section
variable {g:Gx} {Γ:Fx} {d:Nat} {lo:Loc} {H:AH}
theorem E.pop0 {o:Expr} {k:Nat} {p apos pos:Pos} {Q:V→AH→Prop}
  (h:E g Γ d o lo H fun ov H₁=>∃ a vs v H₂,ov=.ref a∧MUpd a (.lst (v::vs)) (.lst vs) H₁ H₂∧vs.length≤1000000∧Q v H₂)
  (cf:autoParam (CallForm o "pop" apos pos [.Constant (.int 0) k p]) irfc):E g Γ d (.Call (.Attribute o "pop" apos) [.Constant (.int 0) k p] [] pos) lo H Q:=by
 intro c ok fz mf m cl fz₁ led s hs I
 obtain ⟨pl,cf⟩:=cf c.env
 refine MethodCall_ ((h c ok fz).useV hs I fun {ov s₁ H₁ mf₁ m₁ cl₁ fz₂ led₁ v'} I₁ hs₁ iv r_=>?_) cf
 refine ob_EEEEAAA r_ fun a vs v H₂ ev hu hz q=>?_
 try clear r_
 subst ev
 have ez:=iv.refE
 subst ez
 refine ob_EEEAA (I₁.hi.hr.split hu) fun pre o post ez3 ho hr=>?_
 have hmem:(a,o)∈led₁:=by rw [ez3]; simp
 refine ob_EEA ho.lstE fun xs n eo ha=>?_
 subst eo
 refine listMethod_K I₁.hi.news (List.mem_append.mpr (.inr (List.mem_append.mpr (.inl hmem)))) PySem.F.slot_list_pop PySem.F.type_list_pop ?_
 refine PyProof.Rows.callWith_method1 ?_ rfl rfl
 refine spliced_cons (((E.int (g:=g) (Γ:=Γ) (d:=d) (lo:=lo) (H:=H₁) (i:=0) (k:=k) (pos:=p) (Q:=fun (v:V) (H':AH)=>v=V.int 0∧H'=H₁) ⟨rfl,rfl⟩) c ok fz₂).useV (fun _ x=>x) I₁ fun {y s₂ H₃ mf₂ m₂ cl₂ fz₃ led₂ w} I₂ hs₂ iw r_=>?_)
 obtain ⟨ew,eH⟩:=r_
 subst ew; subst eH
 refine spliced_nil ?_
 refine iw.intE.elim fun t e2=>?_
 subst e2
 refine ob_EEEAA (I₂.hi.hr.split hu) fun pre o post ez3 ho hr=>?_
 subst ez3
 refine ob_EEA ho.lstE fun xs n eo ha=>?_
 subst eo
 obtain ⟨y,ys,ez2,iy,ia⟩:=IsAll.consE ha
 subst ez2
 have ho':OIs (Cx.mem g fz₃) (listOf ([]++ys).toArray (n+1)) (.lst vs):=.lst ia
 obtain ⟨news',U,back⟩:=I₂.hi.by_upd (hr _ ho')
 have hl:=ia.length
 refine kl_popAt (k:=0) (p:=[]) (q:=ys) (y:=y) I₂.hi.fr I₂.hi.news (by decide) (by simp [seqIndex?]) rfl U (by rw [sizeLine_eq]; simp; exact ar 2 [_,_] (.im (.eq .v0 .v1) (.im (.le .v1 (.n 1000000)) (.le .v0 (.n 16777215)))) rfl hl hz) (fun h' F' N'=>?_)
 exact .mk lo H₂ mf₂ m₂ cl₂ fz₃ _ (I₂.to s₂.toks (Nat.le_refl _) (back h' F' N')) (fun p hp=>hs₂ p (hs₁ p hp)) ⟨rfl,_,iy,q⟩
end
end
section
open PySem.Builtin PySem.Builtin.Str
section
variable {g:Gx} {Γ:Fx} {d:Nat} {lo:Loc} {H:AH} {c:Cx} {fz:Led}
theorem assignT_W (ok:c.Ok g Γ d) {elts:List Expr} {xs:List Str} {x1:Nat} {pos:Pos} {x:Value} {vs:List V} {lo':Loc} (hn:NmEs elts xs) (i:Is (Cx.mem g fz) x (.tup vs)) (hp:PutL xs vs lo lo'):W g c fz (assign (.Tuple elts x1 pos) c.env x) lo H (fun _ _ lo'' H''=>lo''=lo'∧H''=H):=by
 intro mf m cl fz₁ led s hs I
 refine ob_EEEAA (i.mono (mem_mono hs)).tupE fun a ws n e hm ha=>?_
 subst e
 rw [arm_assign_Tuple]
 have L:=hn.len c.env
 refine wpAny_bind (wpAny_standAt (wpAny_unpack_tuple (items:=ws.toArray) ok.handled ⟨_,I.hi.there ok.stays hm,rfl,_,rfl⟩ (by rw [L.1,hp.len,List.size_toArray,ha.length]) L.2 fun h' hx=>?_))
 have I₂:Inv g c lo H mf m cl fz₁ led { s with heap:=h' }:=I.to s.toks (Nat.le_refl _) (I.hi.grow fun b o e=>hx b o (Nat.ne_of_lt (Heap.lt_size e)) e)
 exact (inOrder_W (Q:=fun _ _ lo'' H''=>lo''=lo'∧H''=H) ok hn ha hp fun _ _=>⟨rfl,rfl⟩).use (fun _ x=>x) I₂ fun I₃ hs₃ q=>.mk _ _ _ _ _ _ _ I₃ hs₃ q
theorem owned_no {M:Mem} {elts:List Expr} {x1:Nat} {pos:Pos} {a:Addr} {vs:List V} {x:Value} {prog:Program} {w:World} {A:Around} {E:Value→Shared→Prop} {s:Shared} {Q:Unit→Shared→Prop} (r:ItR M s.heap a vs) (h:Q () s):wpAny (model prog w) A (letOwnedTupleGo (.Tuple elts x1 pos) (.ref a) x) Q E s:=by
 have key:∀ {n:String} {o:Obj},s.heap.get? a=some o→o.cls=.type n→(["enumerate","zip","dict_itemiterator","dict_reverseitemiterator","odict_iterator","itertools.zip_longest","itertools.pairwise"].contains n)=false→wpAny (model prog w) A (letOwnedTupleGo (.Tuple elts x1 pos) (.ref a) x) Q E s:=fun {n o} ho hc hn=>by
  unfold letOwnedTupleGo
  cases x <;> first | exact wpAny_pure h | skip
  refine wpAny_bind (wpAny_load ho ?_)
  rw [hc]
  cases o.data <;> first | exact wpAny_pure h | skip
  show wpAny _ A (if (_&&_)=true then _ else _) Q E s
  rw [hn,Bool.false_and]
  exact wpAny_pure h
 induction r with
 | lst hm hit ha=>obtain ⟨o,ho,hc,hd⟩:=hit; exact key ho hc (by decide)
 | asc hit e=>obtain ⟨o,ho,hc,hd⟩:=hit; exact key ho hc (by decide)
 | wide hit e=>obtain ⟨o,ho,hc,hd⟩:=hit; exact key ho hc (by decide)
 | rng hit e=>exact key hit rfl (by decide)
theorem S.forT {elts:List Expr} {xs:List Str} {x1:Nat} {px:Pos} {iter:Expr} {body orelse:List Stmt} {pos:Pos} {Q:R→Loc→AH→Prop} (hn:NmEs elts xs)
  (h:E g Γ d iter lo H fun v H₁=>∃ vs,items v=some vs∧∃ J:List V→Loc→AH→Prop,J vs lo H₁ ∧
   (∀ v rest lo H,J (v::rest) lo H→UnpK v xs lo fun lo'=>Ss g Γ d body lo' H (KFor J rest Q)) ∧
   (∀ lo H,J [] lo H→Ss g Γ d orelse lo H Q))
  (hs:autoParam (∀ env x,foldedSetIterable iter env x=pure x) irfa):S g Γ d (.For (.Tuple elts x1 px) iter body orelse pos) lo H Q:=by
 intro c ok fz mf m cl fz₁ led s hs' I
 refine wpAny_For ((h c ok fz).useV hs' I fun {cv s₁ H₁ mf₁ m₁ cl₁ fz₂ led₁ v} I₁ hs₁ iv r_=>?_) (hs _)
 refine ob_EAEAA r_ fun vs ei J h0 turn fin=>?_
 try clear r_
 refine iter_start ok I₁ iv ei fun a o s₂ I₂ r₂=>?_
 refine codeAny_forLoop_any (FI g c fz₁ a J) ?_ vs.length (.mk rfl h0 I₂ r₂ hs₁)
 intro n s w
 cases w with | @mk vs o lo H mf m cl fz' led e hJ I r hz =>
 subst e
 cases vs with
 | nil =>
  exact next_end ok I r fun s₁ I₁=>(fin lo H hJ c ok fz').use (fun _ x=>x) I₁ fun I₃ hs₃ q=>.mk _ _ _ _ _ _ _ I₃ (fun p hp=>hs₃ p (hz p hp)) q
 | cons v rest =>
  refine next_item ok I r fun x o' s₁ I₁ ix r₁=>?_
  refine owned_no r₁ ?_
  obtain ⟨ws,ev,lo',hp,hb⟩:=turn v rest lo H hJ
  subst ev
  have ok':=ok.pin (a,o')
  refine (assignT_W (c:=c.pin (a,o')) (fz:=fz') (H:=H) ok' hn ix hp).use (fun _ x=>x) I₁ fun {x_ s₂ lo₂ H₂ mf₂ m₂ cl₂ fz₂ led₂} I₂ hs₂ r_=>?_
  obtain ⟨e₂,e₃⟩:=r_
  subst e₂; subst e₃
  have r₂:=I₁.itr I₂ r₁ (mem_mono hs₂)
  refine (hb (c.pin (a,o')) ok' fz₂).use (fun _ x=>x) I₂ fun {f s₃ lo₃ H₃ mf₃ m₃ cl₃ fz₃ led₃} I₃ hs₃ r_=>?_
  obtain ⟨r,hr,q⟩:=r_
  have hz':∀ p∈fz₁,p∈fz₃:=fun p hp=>hs₃ p (hs₂ p (hz p hp))
  have r₃:=I₂.itr I₃ r₂ (mem_mono hs₃)
  induction hr with
  | next=>exact ⟨_,Nat.lt_succ_self _,.mk rfl q I₃ r₃ hz'⟩
  | cont=>exact ⟨_,Nat.lt_succ_self _,.mk rfl q I₃ r₃ hz'⟩
  | brk=>exact .mk _ _ _ _ _ _ _ I₃.unpin hz' ⟨_,.next,q⟩
  | ret i=>exact .mk _ _ _ _ _ _ _ I₃.unpin hz' ⟨_,.ret i,q⟩
end
end
section
open PySem.Builtin PySem.Builtin.Str
noncomputable def Cx.pinL (c:Cx) (ps:Led):Cx:={ c with pins:=ps++c.pins }
noncomputable def Tg (tg:Expr):Prop:=(∃ x p,tg=.Name x p)∨∃ es k p,tg=.Tuple es k p
noncomputable def enumV (i:Nat):List V→List V
 | []=>[]
 | v::vs=>.tup [.int (i:Int),v]::enumV (i+1) vs
set_option genInjectivity false in
inductive ItP (M:Mem) (h:Heap) (a:Addr):Led→List V→Prop
 | one {o:Obj} {vs:List V} (ho:h.get? a=some o) (r:ItR M h a vs):ItP M h a [(a,o)] vs
 | enum {it l:Addr} {oe oi:Obj} {xs:List Value} {n i:Nat} {old:Value} {vs:List V} (ho:h.get? a=some oe) (hi:h.get? it=some oi) (he:IsEnum h a it i old) (hl:h.IsListIter it l i) (hm:M l (listOf xs.toArray n)) (ha:IsAll M (xs.drop i) vs) (hne:a≠it):ItP M h a [(a,oe),(it,oi)] (enumV i vs)
theorem ItP.keeps {M M':Mem} {h h':Heap} {a:Addr} {ps:Led} {vs:List V} (r:ItP M h a ps vs) (hk:∀ p∈ps,h'.get? p.1=some p.2) (hs:∀ a o,M a o→M' a o):ItP M' h' a ps vs:=by
 induction r with
 | one ho r =>
  have e:=hk _ (.head _)
  exact .one e ((r.mono hs).keeps fun o' q=>by rw [ho] at q; cases q; exact e)
 | enum ho hi he hl hm ha hne =>
  have e1:=hk _ (.head _)
  have e2:=hk _ (.tail _ (.head _))
  refine .enum (old:=old) e1 e2 ?_ ?_ (hs _ _ hm) (ha.mono hs) hne
  ·exact e1.trans (ho.symm.trans he)
  ·obtain ⟨o,q,r⟩:=hl
   rw [hi] at q; cases q
   exact ⟨_,e2,r⟩
section
variable {g:Gx} {Γ Γ':Fx} {d:Nat} {lo:Loc} {H:AH} {c:Cx} {mf m:Str→Option Value} {cl fz led ps ps' nw:Led} {h h':Heap} {a:Addr}
theorem Cx.Ok.pinL (ok:c.Ok g Γ d) (ps:Led):(c.pinL ps).Ok g Γ d :=
 { gok:=ok.gok,below:=ok.below,frames:=ok.frames,handled:=ok.handled,fframe:=ok.fframe,fkind:=ok.fkind,bot:=ok.bot,scope:=ok.scope,kind:=ok.kind,globals:=ok.globals,builtins:=ok.builtins,room:=ok.room,units:=ok.units,globs:=ok.globs,code:=ok.code,cells:=ok.cells }
theorem pinL_perm {ps A:Led}:(cl++(led++((ps++A)++fz))).Perm (ps++(cl++(led++(A++fz)))):=by
 have h1:(led++((ps++A)++fz)).Perm (ps++(led++(A++fz))):=by
  rw [List.append_assoc]
  exact List.perm_append_comm_assoc ..
 refine (List.Perm.append_left cl h1).trans ?_
 exact List.perm_append_comm_assoc ..
theorem HI.repinL (I:HI g (c.pinL ps) lo H mf m cl fz led h) (hk:∀ b o,b ∉ ps.map (·.1)→h.get? b=some o→h'.get? b=some o) (hpp:∀ p∈ps',h'.get? p.1=some p.2∧p.1∈ps.map (·.1)) (nd':(ps'.map (·.1)).Nodup)
  (hn:∀ p∈nw,h'.get? p.1=some p.2∧h.objs.size≤p.1) (ndn:(nw.map (·.1)).Nodup):HI g (c.pinL ps') lo H mf m cl (nw++fz) led h':=by
 have N:News c.h₀ c.L h (ps++(cl++(led++(c.pins++fz)))):=fun p hp=>I.news p (pinL_perm.mem_iff.mpr hp)
 have D:=(pinL_perm.map (·.1)).nodup_iff.mp I.nd
 rw [List.map_append] at D
 obtain ⟨D1,D2,D3⟩:=List.nodup_append.mp D
 have off:∀ p∈cl++(led++(c.pins++fz)),p.1 ∉ ps.map (·.1):=fun p hp q=>D3 _ q _ (List.mem_map_of_mem (f:=(·.1)) hp) rfl
 have pk:∀ b,b∈ps.map (·.1)→b≠c.L∧c.h₀.get? b=none∧b < h.objs.size:=fun b hb=>by
  obtain ⟨q,hq,rfl⟩:=List.mem_map.mp hb
  have z:=N q (List.mem_append_left _ hq)
  exact ⟨z.2.1,z.2.2,Heap.lt_size z.1⟩
 have hs:∀ p∈fz,p∈nw++fz:=fun p hp=>List.mem_append_right _ hp
 have pm:(cl++(led++((c.pinL ps').pins++(nw++fz)))).Perm (nw++(ps'++(cl++(led++(c.pins++fz))))):=by
  refine pinL_perm.trans ?_
  have e1:(cl++(led++(c.pins++(nw++fz)))).Perm (nw++(cl++(led++(c.pins++fz)))) :=
   (List.Perm.append_left cl ((List.Perm.append_left led (List.perm_append_comm_assoc ..)).trans (List.perm_append_comm_assoc ..))).trans (List.perm_append_comm_assoc ..)
  exact (List.Perm.append_left ps' e1).trans (List.perm_append_comm_assoc ..)
 refine ⟨⟨I.fr.ns.at' fun o e=>hk _ _ (fun q=>(pk _ q).1 rfl) e,fun b o e=>hk _ _ (fun q=>?_) (I.fr.keep b o e),I.fr.above⟩,I.clr.to rfl rfl rfl,fun p hp=>?_,(pm.map _).nodup_iff.mpr ?_,I.lok,I.loc.mono (mem_mono hs),I.hr.mono (mem_mono hs)⟩
 ·have e':=(pk _ q).2.1
  have e2:c.h₀.get? b=some o:=e
  rw [e'] at e2; cases e2
 ·rcases List.mem_append.mp (pm.mem_iff.mp hp) with hp | hp
  ·have z:=hn p hp
   refine ⟨z.1,fun e=>?_,?_⟩
   ·have lt:c.L < h.objs.size:=I.fr.ns.lt
    rw [show p.1=c.L from e] at z
    exact Nat.lt_irrefl _ (Nat.lt_of_lt_of_le lt z.2)
   ·cases q:c.h₀.get? p.1 with
    | none=>exact q
    | some o=>exact absurd (Heap.lt_size (I.fr.keep _ o q)) (Nat.not_lt.mpr z.2)
  ·rcases List.mem_append.mp hp with hp | hp
   ·have z:=hpp p hp
    exact ⟨z.1,(pk _ z.2).1,(pk _ z.2).2.1⟩
   ·have z:=N p (List.mem_append_right _ hp)
    exact ⟨hk _ _ (off p hp) z.1,z.2⟩
 ·rw [List.map_append,List.map_append]
  have old:∀ x∈(cl++(led++(c.pins++fz))).map (·.1),x < h.objs.size:=fun x hx=>by
   obtain ⟨q,hq,rfl⟩:=List.mem_map.mp hx
   exact Heap.lt_size (N q (List.mem_append_right _ hq)).1
  have pso:∀ x∈ps'.map (·.1),x∈ps.map (·.1):=fun x hx=>by
   obtain ⟨q,hq,rfl⟩:=List.mem_map.mp hx
   exact (hpp q hq).2
  refine List.nodup_append.mpr ⟨ndn,List.nodup_append.mpr ⟨nd',D2,fun x hx y hy e=>?_⟩,fun x hx y hy e=>?_⟩
  ·exact D3 x (pso x hx) y hy e
  ·obtain ⟨q,hq,rfl⟩:=List.mem_map.mp hx
   have z:=(hn q hq).2
   have lt:y < h.objs.size:=by
    rcases List.mem_append.mp hy with hy | hy
    ·exact (pk _ (pso _ hy)).2.2
    ·exact old _ hy
   rw [← e] at lt
   exact Nat.lt_irrefl _ (Nat.lt_of_lt_of_le lt z)
theorem HI.pinL_at (I:HI g (c.pinL ps) lo H mf m cl fz led h):∀ p∈ps,h.get? p.1=some p.2:=fun p hp=>(I.news p (pinL_perm.mem_iff.mpr (List.mem_append_left _ hp))).1
theorem owned_name {prog:Program} {w:World} {A:Around} {E:Value→Shared→Prop} {s:Shared} {Q:Unit→Shared→Prop} {x:Str} {p:Pos} {it v:Value} (h:Q () s):wpAny (model prog w) A (letOwnedTupleGo (.Name x p) it v) Q E s:=by
 unfold letOwnedTupleGo
 exact wpAny_pure h
theorem owned_tg {M:Mem} {tg:Expr} (ht:Tg tg) {a:Addr} {vs:List V} {x:Value} {prog:Program} {w:World} {A:Around} {E:Value→Shared→Prop} {s:Shared} {Q:Unit→Shared→Prop} (r:ItR M s.heap a vs) (h:Q () s):wpAny (model prog w) A (letOwnedTupleGo tg (.ref a) x) Q E s:=by
 rcases ht with ⟨x,p,rfl⟩ | ⟨es,k,p,rfl⟩
 ·exact owned_name h
 ·exact owned_no r h
noncomputable abbrev TgI (tg:Expr) (ps:Led):Prop:=Tg tg∧(ps.length=1∨∃ es k p,tg=.Tuple es k p)
theorem ItP.next {tg:Expr} {E' E'':Value→Shared→Prop} {s:Shared} {Q:Value→Shared→Prop} {v:V} {vs:List V} (ht:TgI tg ps) (ok:c.Ok g Γ d) (I:Inv g (c.pinL ps) lo H mf m cl fz led s) (r:ItP (Cx.mem g fz) s.heap a ps (v::vs))
  (k:∀ x ps' fz' s',ps'.length=ps.length→Inv g (c.pinL ps') lo H mf m cl fz' led s'→(∀ p∈fz,p∈fz')→Is (Cx.mem g fz') x v→ItP (Cx.mem g fz') s'.heap a ps' vs→Q x s') :
  wpAny (model g.prog g.w) c.A (pyNext (.ref a)) (fun r s₁=>∃ x,r=some x∧wpAny (model g.prog g.w) c.A (letOwnedTupleGo tg (.ref a) x) (fun _ s₂=>Q x s₂) E'' s₁) E' s:=by
 generalize hv:v::vs=vv at r
 induction r with
 | one ho r =>
  subst hv
  refine next_item (c:=c) (a:=a) ok I r fun x o' s' J ix r'=>⟨x,rfl,owned_tg ht.1 r' (k x [(a,o')] fz s' rfl J (fun _ x=>x) ix (.one (J.hi.pinL_at (ps:=[(a,o')]) _ (.head _)) r'))⟩
 | enum ho hi he hl hm ha hne =>
  cases vs_1 with
  | nil=>cases hv
  | cons w' ws' =>
  obtain ⟨rfl,rfl⟩:=List.cons.inj hv
  obtain ⟨es,tk,tp,rfl⟩:∃ es k p,tg=.Tuple es k p:=ht.2.resolve_left (by intro e; cases e)
  refine ob_EAA ha.head fun x e1 i1 i2=>?_
  have hL:s.heap.IsList l xs.toArray:=⟨_,I.hi.there (ok.pinL _).stays hm,rfl,_,rfl⟩
  refine wpAny_pyNext_enum_item he hl hL (by simpa using e1) hne fun h₁ he₁ hl₁ ht₁ hz₁ hk₁=>⟨_,rfl,?_⟩
  refine wpAny_letOwnedTupleGo_enum he₁ fun h₂ he₂ hs₂=>?_
  replace hs₂:Heap.SameBut a h₁ h₂:=hs₂
  obtain ⟨oi',hoi',hli'⟩:=hl₁.extBut hs₂.extBut (Ne.symm hne)
  have hat:(s.heap.objs.size:Addr)≠a:=Nat.ne_of_gt (Heap.lt_size ho)
  have ht₂:=hs₂.extBut _ _ hat ht₁
  have J:HI g (c.pinL [(a,_),(it,oi')]) lo H mf m cl ([(s.heap.objs.size,tupOf #[.int i s.toks,x] 0)]++fz) led h₂:=I.hi.repinL (fun b o hb e=>hs₂.extBut b o (fun q=>hb (by rw [q]; exact .head _)) (hk₁ b o (fun q=>hb (by rw [q]; exact .head _)) (fun q=>hb (by rw [q]; exact .tail _ (.head _))) e))
   (fun p hp=>by
    rcases List.mem_cons.mp hp with rfl | hp
    ·exact ⟨he₂,.head _⟩
    ·rcases List.mem_cons.mp hp with rfl | hp
     ·exact ⟨hoi',.tail _ (.head _)⟩
     ·cases hp)
   (List.nodup_cons.mpr ⟨by simpa using hne,by simp⟩)
   (fun p hp=>by
    rcases List.mem_cons.mp hp with rfl | hp
    ·exact ⟨ht₂,Nat.le_refl _⟩
    ·cases hp)
   (by simp)
  refine k (.ref s.heap.objs.size) [(a,_),(it,oi')] _ _ rfl ⟨J,I.gens,I.os,Nat.le_succ_of_le I.tk⟩ (fun p hp=>.tail _ hp) (.tup (n:=0) (vs:=[.int i s.toks,x]) (.inl (.head _)) (.cons (.int _ _) (.cons (i1.mono (mem_mono fun p hp=>.tail _ hp)) .nil))) ?_
  exact .enum (it:=it) (oi:=oi') (l:=l) (xs:=xs) (n:=n) (i:=i+1) (old:=x) he₂ hoi' he₂ ⟨oi',hoi',hli'⟩ (mem_mono (fun p hp=>.tail _ hp) _ _ hm) (i2.mono (mem_mono fun p hp=>.tail _ hp)) hne
theorem ItP.done {E':Value→Shared→Prop} {s:Shared} {Q:Option Value→Shared→Prop} (ok:c.Ok g Γ d) (I:Inv g (c.pinL ps) lo H mf m cl fz led s) (r:ItP (Cx.mem g fz) s.heap a ps [])
  (k:∀ s',Inv g c lo H mf m cl fz led s'→Q Option.none s'):wpAny (model g.prog g.w) c.A (pyNext (.ref a)) Q E' s:=by
 generalize hv:([]:List V)=vv at r
 induction r with
 | one ho r =>
  subst hv
  exact next_end (c:=c) (a:=a) ok I r k
 | enum ho hi he hl hm ha hne =>
  cases vs with
  | cons w' ws'=>cases hv
  | nil =>
  have hL:s.heap.IsList l xs.toArray:=⟨_,I.hi.there (ok.pinL _).stays hm,rfl,_,rfl⟩
  refine wpAny_pyNext_enum_end ok.handled he hl hL ?_ fun h' hx=>k _ ⟨?_,I.gens,I.os,I.tk⟩
  ·have:=ha.length
   rw [List.getElem?_toArray]
   exact drop_none (List.length_eq_zero_iff.mp this)
  ·exact I.hi.repinL (ps':=[]) (nw:=[]) (fun b o hb e=>hx b o (fun q=>hb (by rw [q]; exact .tail _ (.head _))) e) (fun _ hp=>nomatch hp) (by simp) (fun _ hp=>nomatch hp) (by simp)
theorem ItP.self {E':Value→Shared→Prop} {s:Shared} {Q:Value→Shared→Prop} {A:Around} {M:Mem} {a:Addr} {vs:List V} (r:ItP M s.heap a ps vs) (h:Q (.ref a) s):wpAny (model g.prog g.w) A (pyIter (.ref a)) Q E' s:=by
 induction r with
 | one ho r=>exact iter_self r h
 | enum ho hi he hl hm ha hne=>exact wpAny_pyIter_enum he h
end
end
section
open PySem.Builtin PySem.Builtin.Str
noncomputable abbrev enumO (it:Addr):Obj:={ cls:=.type "enumerate",dict:=none,data:=.fields #[.none,.bool false,.ref it,rawInt 0,.none,.none],slots:=#[] }
noncomputable def Bd (g:Gx) (Γ:Fx) (d:Nat) (tg:Expr) (v:V) (lo lo':Loc):Prop:=∀ (c:Cx),c.Ok g Γ d→∀ fz x H,Is (Cx.mem g fz) x v→W g c fz (assign tg c.env x) lo H (fun _ _ lo'' H''=>lo''=lo'∧H''=H)
section
variable {g:Gx} {Γ Γ':Fx} {d:Nat} {lo:Loc} {H:AH} {c:Cx}
theorem Bd.name {x:Str} {p:Pos} {v:V} {lo':Loc} (h:Put x v lo lo'):Bd g Γ d (.Name x p) v lo lo':=fun c ok fz y H i =>
 (store_W (Q:=fun _ _ lo'' H''=>lo''=lo'∧H''=H) ok h i fun _ _=>⟨rfl,rfl⟩).lift fun _ _ _ q=>wpAny_assign_Name q
theorem Bd.tup {es:List Expr} {xs:List Str} {k:Nat} {p:Pos} {vs:List V} {lo':Loc} (hn:NmEs es xs) (h:PutL xs vs lo lo'):Bd g Γ d (.Tuple es k p) (.tup vs) lo lo':=fun c ok fz y H i=>assignT_W ok hn i h
set_option genInjectivity false in
inductive CJT (g:Gx) (c:Cx) (a acc:Addr) (tg:Expr) (J:List V→List V→Loc→AH→Prop) (fz:Led) (n:Nat) (s:Shared):Prop
 | mk {rest out:List V} {ps:Led} {lo:Loc} {H:AH} {mf' mm:Str→Option Value} {cl' fz' led':Led} (e':rest.length=n) (ht:TgI tg ps) (j:J rest out lo H) (hl:out.length+rest.length≤1000000) (I:Inv g (c.pinL ps) lo ((acc,.lst out)::H) mf' mm cl' fz' led' s) (r:ItP (Cx.mem g fz') s.heap a ps rest) (hz:∀ p∈fz,p∈fz')
set_option genInjectivity false in
inductive CEJ (g:Gx) (c:Cx) (acc:Addr) (P:List V→AH→Prop) (fz:Led) (r:Except Value Flow) (s:Shared):Prop
 | mk {lx:Loc} {H:AH} {out:List V} {mf' mm':Str→Option Value} {cl' fz' led':Led} (e:r=.ok .next) (q:P out H) (I:Inv g c lx ((acc,.lst out)::H) mf' mm' cl' fz' led' s) (hz:∀ p∈fz,p∈fz')
noncomputable abbrev TurnJ (g:Gx) (Γ':Fx) (d:Nat) (tg elt:Expr) (J:List V→List V→Loc→AH→Prop):Prop :=
 ∀ v rest out lo H,J (v::rest) out lo H→∃ lo',Bd g Γ' d tg v lo lo'∧∀ acc,E g Γ' d elt lo' ((acc,.lst out)::H) fun r H''=>∃ H₃,H''=(acc,.lst out)::H₃∧J rest (out++[r]) lo' H₃
theorem comp_loopJ {env':Env} {sc:Scope} {cl fz led cl₀ ps:Led} {mf mm:Str→Option Value} {a acc:Addr} {pos:Pos} {tg elt iter:Expr} {vs:List V} {J:List V→List V→Loc→AH→Prop} {P:List V→AH→Prop} {s:Shared} (ok':(inComp c cl₀ mf env').Ok g Γ' d) (ht:TgI tg ps)
  (I:Inv g ((inComp c cl₀ mf env').pinL ps) lo ((acc,.lst [])::H) mf mm cl fz led s) (r:ItP (Cx.mem g fz) s.heap a ps vs) (hlen:vs.length≤1000000)
  (h0:J vs [] lo H) (step:TurnJ g Γ' d tg elt J) (fin:∀ out lo H,J [] out lo H→P out H) :
  codeAny (model g.prog g.w) c.A (.compStart (.ListComp elt [⟨tg,iter,[],0⟩] sc pos) 0 (.ref a) (.ref acc) env')
   (CEJ g (inComp c cl₀ mf env') acc P fz) s:=by
 have loop:codeAny (model g.prog g.w) c.A (.compLoop (.ListComp elt [⟨tg,iter,[],0⟩] sc pos) 0 (.ref a) (.ref acc) env')
   (CEJ g (inComp c cl₀ mf env') acc P fz) s:=by
  refine kcp_loop (CJT g (inComp c cl₀ mf env') a acc tg J fz) ?_ vs.length (.mk rfl ht h0 (by simpa using hlen) I r fun _ x=>x)
  intro n s w
  cases w with | @mk rest out ps lo H mf' mm cl' fz' led' e' ht j hl I r hz =>
  subst e'
  cases rest with
  | nil=>exact ItP.done (c:=inComp c cl₀ mf env') ok' I r fun s₁ I₁=>.mk rfl (fin _ _ _ j) I₁ hz
  | cons v rest =>
   obtain ⟨lo',bd,el⟩:=step v rest out lo H j
   refine wpAny_mono (ItP.next (c:=inComp c cl₀ mf env') (E'':=notedBy (model g.prog g.w) c.A env' fun e s'=>CEJ g (inComp c cl₀ mf env') acc P fz (.error e) s') (Q:=fun x s₂=>wpAny (model g.prog g.w) c.A (assign tg env' x) (fun _ s₂ =>
     wpAny (model g.prog g.w) c.A (eval elt env') (fun x s₄ =>
      wpAny (model g.prog g.w) c.A (call (.builtin "list.append") [.ref acc,x]) (fun _ s₅=>∃ m,m < (v::rest).length∧CJT g (inComp c cl₀ mf env') a acc tg J fz m s₅) (notedBy (model g.prog g.w) c.A env' fun e s'=>CEJ g (inComp c cl₀ mf env') acc P fz (.error e) s') s₄) (notedBy (model g.prog g.w) c.A env' fun e s'=>CEJ g (inComp c cl₀ mf env') acc P fz (.error e) s') s₂)
     (notedBy (model g.prog g.w) c.A env' fun e s'=>CEJ g (inComp c cl₀ mf env') acc P fz (.error e) s') s₂) ht ok' I r fun x ps' fz₁ s₁ hps I₁ hs₁ ix r₁=>?_) (fun r s₁ q=>by obtain ⟨x,rfl,q⟩:=q; exact q) fun _ _ q=>q
   have ok₂:=ok'.pinL ps'
   refine (bd ((inComp c cl₀ mf env').pinL ps') ok₂ fz₁ x _ ix).use (fun _ x=>x) I₁ fun {x_ s₂ lo₂ H₂ mf₂ m₂ cl₂ fz₂ led₂} I₂ hs₂ r_=>?_
   obtain ⟨e₂,e₃⟩:=r_
   subst e₂; subst e₃
   have r₂:=r₁.keeps I₂.hi.pinL_at (mem_mono hs₂)
   refine (el acc ((inComp c cl₀ mf env').pinL ps') ok₂ fz₂).useV (fun _ x=>x) I₂ fun {y₃ s₃ H₃ mf₃ m₃ cl₃ fz₃ led₃ w} I₃ hs₃ iw r_=>?_
   obtain ⟨H₄,e₅,j'⟩:=r_
   subst e₅
   have r₃:=r₂.keeps I₃.hi.pinL_at (mem_mono hs₃)
   refine comp_push I₃ iw (Nat.le_trans (Nat.le_add_right _ _) hl) fun h' led' J=>⟨_,Nat.lt_succ_self _,?_⟩
   refine .mk rfl ⟨ht.1,by rw [hps]; exact ht.2⟩ j' (by rw [List.length_append]; simp only [List.length_cons,List.length_nil] at hl ⊢; exact ar 2 [_,_] (.im (.le (.a .v0 (.a .v1 .n1)) (.n 1000000)) (.le (.a (.a .v0 (.a .n0 .n1)) .v1) (.n 1000000))) rfl hl) J (r₃.keeps J.hi.pinL_at fun _ _ x=>x) (fun p hp=>hs₃ p (hs₂ p (hs₁ p (hz p hp))))
 exact codeAny_compStart_list loop (ItP.self r loop)
theorem HI.enterCompL {mf m:Str→Option Value} {cl fz led ps:Led} {h h':Heap} {od:Obj} {mm:Str→Option Value} {xs:List Str} {env':Env} (hx:LocOk Γ'.scope (xs.map fun x=>(x,V.unset))) (he:env'.scope=Γ'.scope∧env'.locals=h.objs.size)
  (I:HI g (c.pinL ps) lo H mf m cl fz led h) (hod:od.isFreed=false) (hn:h'.Ns h.objs.size mm) (hsb:Heap.SameBut h.objs.size (h.push od) h') :
  ∃ oD,HI g ((inComp c cl mf env').pinL ps) (xs.map fun x=>(x,V.unset)) H mf mm [(env'.locals,oD)] fz led h':=by
 refine ob_EEEAAA (id hn) fun oD es ep h1 h2 h3 h4=>?_
 have N:=I.newN od hod
 have hD:=N _ (.head _)
 have F':Fr c.h₀ c.L h' mf:=(I.fr.push od).change hsb hD.2.1 hD.2.2
 have pm:([(env'.locals,oD)]++(led++(((inComp c cl mf env').pinL ps).pins++fz))).Perm ((h.objs.size,oD)::(cl++(led++((c.pinL ps).pins++fz)))):=by
  show ((env'.locals,oD)::(led++((ps++(cl++c.pins))++fz))).Perm ((h.objs.size,oD)::(cl++(led++((ps++c.pins)++fz))))
  rw [he.2]
  refine List.Perm.cons _ ?_
  have e1:(ps++(cl++c.pins)).Perm (cl++(ps++c.pins)):=List.perm_append_comm_assoc ..
  have e2:(led++((ps++(cl++c.pins))++fz)).Perm (led++(cl++((ps++c.pins)++fz))):=by
   rw [← List.append_assoc (as:=cl)]
   exact List.Perm.append_left _ (e1.append_right _)
  exact e2.trans (List.perm_append_comm_assoc ..)
 have nd:(((h.objs.size,oD)::(cl++(led++((c.pinL ps).pins++fz)))).map (·.1)).Nodup:=by
  rw [List.map_cons]
  refine List.nodup_cons.mpr ⟨fun q=>?_,I.nd⟩
  obtain ⟨z,hz,e⟩:=List.mem_map.mp q
  exact Nat.ne_of_lt (I.fresh_lt z hz) e
 refine ⟨oD,F',.apart rfl ⟨es,ep,h2,h3,h4⟩,fun z hz=>?_,(pm.map _).nodup_iff.mpr nd,?_,?_,I.hr⟩
 ·rcases List.mem_cons.mp (pm.mem_iff.mp hz) with rfl | hz
  ·exact ⟨h1,hD.2⟩
  ·have q:=N z (.tail _ hz)
   exact ⟨(hsb.2 _ (Nat.ne_of_lt (I.fresh_lt z hz))).trans q.1,q.2⟩
 ·show LocOk env'.scope _
  rw [he.1]; exact hx
 ·intro q hq
  obtain ⟨x,_,rfl⟩:=List.mem_map.mp hq
  exact .inl rfl
theorem comp_mid {sc:Scope} {elt iter tg:Expr} {x₀:Str} {xs:List Str} {pos:Pos} {J:List V→List V→Loc→AH→Prop} {a:Addr} {ps:Led} {mf m:Str→Option Value} {cl fz fz₀ led:Led} {s:Shared} {vs:List V} {E':Value→Shared→Prop} {Q:V→AH→Prop}
  (ok:c.Ok g Γ d) (O:CompOkC g Γ Γ' sc x₀) (hx:LocOk Γ'.scope (xs.map fun x=>(x,V.unset))) (ht:TgI tg ps) (hs₀:∀ p∈fz₀,p∈fz)
  (I:Inv g (c.pinL ps) lo H mf m cl fz led s) (r:ItP (Cx.mem g fz) s.heap a ps vs) (hlen:vs.length≤1000000)
  (h0:J vs [] (xs.map fun x=>(x,V.unset)) H) (step:TurnJ g Γ' d tg elt J) (fin:∀ out lo H,J [] out lo H→∀ acc,Q (.ref acc) ((acc,.lst out)::H)) :
  wpAny (model g.prog g.w) c.A (newList []) (fun acc s₃ =>
   wpAny (model g.prog g.w) c.A (newFunctionEnv sc c.env.globals Γ'.cells [] c.env.qual none .none (some c.env)) (fun cenv s₄ =>
    codeAny (model g.prog g.w) c.A (.compStart (.ListComp elt [⟨tg,iter,[],0⟩] sc pos) 0 (.ref a) acc { cenv with scope:=relabel sc c.env })
     (compPost (model g.prog g.w) c.A E' Option.none (WP g c fz₀ (VP g lo Q)) acc cenv.locals) s₄) E' s₃) E' s:=by
 refine wpAny_newList ?_
 have J₃:HI g (c.pinL ps) lo ((s.heap.objs.size,.lst [])::H) mf m cl fz ((s.heap.objs.size,listOf #[] 0)::led) (s.heap.push (listOf #[] 0)):=I.hi.newLed (.lst (vs:=[]) .nil)
 have r₃:ItP (Cx.mem g fz) (s.heap.push (listOf #[] 0)) a ps vs:=r.keeps J₃.pinL_at fun _ _ x=>x
 generalize s.heap.objs.size=acc at *
 refine wpAny_newFunctionEnv O.cell (fun y hy=>nomatch hy) (fun h' hn hsb=>?_) O.kind.1
 have hLt:c.L < (s.heap.push (listOf #[] 0)).objs.size:=J₃.fr.ns.lt
 rw [show (List.reverse ([]:List (Str × Value)))=[] from rfl] at hn
 generalize hD:(s.heap.push (listOf #[] 0)).objs.size=D at *
 rw [O.rel c.env ok.scope ok.kind]
 have ok':=inComp_okC ok O (cl:=cl) (mf:=mf) (L:=D) (qual:=c.env.qual) (b₀:=builtinsNs)
 obtain ⟨oD,J₄⟩:=J₃.enterCompL hx (env':={ newEnv sc D c.env.globals Γ'.cells c.env.qual Option.none .none (some c.env) builtinsNs with scope:=Γ'.scope }) ⟨rfl,hD.symm⟩ rfl (by rw [hD]; exact hn) (by rw [hD]; exact hsb)
 have r₄:ItP (Cx.mem g fz) h' a ps vs:=r₃.keeps J₄.pinL_at fun _ _ x=>x
 have hDL:D≠c.L:=Nat.ne_of_gt hLt
 refine codeAny_mono (comp_loopJ (P:=fun out H'=>Q (.ref acc) ((acc,.lst out)::H')) ok' ht (s:={ heap:=h',gens:=s.gens,drawn:=s.drawn,toks:=s.toks+0,os:=s.os }) ⟨J₄,I.gens,I.os,I.tk⟩ r₄ hlen h0 step fun out lo H j=>fin out lo H j acc) fun r s' w=>?_
 cases w with | @mk lx H' out mf' mm' cl' fz' led' er q I₅ hz =>
 subst er
 refine ⟨mm',I₅.hi.ns,fun h'' hs''=>?_⟩
 have J₆:=I₅.hi.leaveComp I.hi.lok (I.hi.loc.mono (mem_mono hz)) (I.hi.clr.to rfl rfl rfl) hDL hs''
 exact .mk lo _ mf m cl fz' led' ⟨J₆,I₅.gens,I₅.os,I₅.tk⟩ (fun p hp=>hz p (hs₀ p hp)) ⟨rfl,_,.ref acc,q⟩
theorem HI.pinNewL {mf m:Str→Option Value} {cl fz led ps:Led} {h h':Heap} (I:HI g c lo H mf m cl fz led h) (hk:∀ b o,h.get? b=some o→h'.get? b=some o) (hn:∀ p∈ps,h'.get? p.1=some p.2∧h.objs.size≤p.1) (nd:(ps.map (·.1)).Nodup):HI g (c.pinL ps) lo H mf m cl fz led h':=by
 have off:∀ p∈ps,∀ b,b < h.objs.size→p.1≠b:=fun p hp b hb e=>Nat.lt_irrefl _ (Nat.lt_of_lt_of_le hb (e ▸ (hn p hp).2))
 refine ⟨I.fr.keeps hk,I.clr.to rfl rfl rfl,fun p hp=>?_,(pinL_perm.map _).nodup_iff.mpr ?_,I.lok,I.loc,I.hr⟩
 ·rcases List.mem_append.mp (pinL_perm.mem_iff.mp hp) with hp | hp
  ·refine ⟨(hn p hp).1,off p hp _ I.fr.ns.lt,?_⟩
   show c.h₀.get? p.1=none
   cases q:c.h₀.get? p.1 with
   | none=>rfl
   | some o=>exact absurd rfl (off p hp _ (Heap.lt_size (I.fr.keep _ o q)))
  ·have z:=I.news p hp
   exact ⟨hk _ _ z.1,z.2⟩
 ·rw [List.map_append]
  refine List.nodup_append.mpr ⟨nd,I.nd,fun x hx y hy e=>?_⟩
  obtain ⟨p,hp,rfl⟩:=List.mem_map.mp hx
  obtain ⟨q,hq,rfl⟩:=List.mem_map.mp hy
  exact off p hp _ (I.fresh_lt q hq) e
theorem enumV_len:∀ (vs:List V) (i:Nat),(enumV i vs).length=vs.length
 | [],_=>rfl
 | v::vs,i=>congrArg (·+1) (enumV_len vs _)
theorem Es.one {e:Expr} {R:V→AH→Prop} (h:E g Γ d e lo H R) (he:autoParam (∀ env,starEach [e] env=(false,eval e env)::starEach [] env) irfa):Es g Γ d [e] lo H (fun us H'=>∃ v,us=[v]∧R v H'):=Es.cons (h.mono fun v H₁ r=>Es.nil ⟨v,rfl,r⟩) he
theorem E.compEnum {sc:Scope} {elt e:Expr} {x₀ xe:Str} {xs:List Str} {es:List Expr} {k:Nat} {pe p1 p2 pos:Pos} {Q:V→AH→Prop} (O:CompOkC g Γ Γ' sc x₀) (hx:LocOk Γ'.scope (xs.map fun x=>(x,V.unset))) (hf:(xe,.type "enumerate")∈Γ.globs)
  (h:E g Γ d e lo H fun v H₁=>∃ vs,v=.lst vs∧vs.length≤1000000∧∃ J:List V→List V→Loc→AH→Prop,J (enumV 0 vs) [] (xs.map fun x=>(x,V.unset)) H₁∧TurnJ g Γ' d (.Tuple es k pe) elt J∧∀ out lo H,J [] out lo H→∀ acc,Q (.ref acc) ((acc,.lst out)::H))
  (he:autoParam (∀ env,starEach [e] env=(false,eval e env)::starEach [] env) irfa)
  (hs:autoParam (∀ env x,foldedSetIterable (.Call (.Name xe p1) [e] [] p2) env x=pure x) irfa):E g Γ d (.ListComp elt [⟨.Tuple es k pe,.Call (.Name xe p1) [e] [] p2,[],0⟩] sc pos) lo H Q:=by
 intro c ok fz mf m cl fz₁ led s hs' I
 rw [eval_ListComp]
 refine wpAny_comprehension_free rfl (hs _) (O.clos c.env ok.scope ok.cells) O.kind.1 O.names ?_
 show wpAny _ _ (do callWith p2 (← eval (.Name xe p1) c.env) [] (backTo p2 (starEach [e] c.env)) []) _ _ _
 refine wpAny_bind ((E.glo hf (Q:=fun v H'=>v=.glo (.type "enumerate")∧H'=H) ⟨rfl,rfl⟩ c ok fz).useV hs' I fun {cv s₀ H₀ mf₀ m₀ cl₀ fz₀ led₀ v₀} I₀ hs₀ i₀ r_=>?_)
 obtain ⟨ev,eH⟩:=r_
 subst ev; subst eH
 have ez:=i₀.gloE
 subst ez
 refine callWith_type1 ?_ (he _) rfl
 refine ((Es.one h he) c ok fz₀ p2).use (fun _ x=>x) I₀ fun {cv s₁ lo₁ H₁ mf₁ m₁ cl₁ fz₂ led₁} I₁ hs₁ r_=>?_
 obtain ⟨e₁,us,is,v,ev,vs,ev',hlen,J,h0,step,fin⟩:=r_
 subst e₁; subst ev; subst ev'
 obtain ⟨x,e₁,iv⟩:=is.one
 subst e₁
 refine ob_EEEAA iv.lstE fun l ws n e hm ha=>?_
 subst e
 have hL:s₁.heap.IsList l ws.toArray:=⟨_,I₁.hi.there ok.stays hm,rfl,_,rfl⟩
 refine call_enumerate_list hL fun h' hen hli hsz hk=>?_
 obtain ⟨oi,hoi,rli⟩:=id hli
 refine wpAny_pyIter_enum hen ?_
 have I₂:HI g (c.pinL [(s₁.heap.objs.size+1,enumO s₁.heap.objs.size),(s₁.heap.objs.size,oi)]) lo₁ H₁ mf₁ m₁ cl₁ fz₂ led₁ h':=by
  refine HI.pinNewL I₁.hi hk (fun p hp=>?_) (List.nodup_cons.mpr ⟨by simp,by simp⟩)
  rcases List.mem_cons.mp hp with rfl | hp
  ·exact ⟨hen,Nat.le_succ _⟩
  ·rcases List.mem_cons.mp hp with rfl | hp
   ·exact ⟨hoi,Nat.le_refl _⟩
   ·cases hp
 exact comp_mid (ps:=[(s₁.heap.objs.size+1,enumO s₁.heap.objs.size),(s₁.heap.objs.size,oi)]) ok O hx ⟨.inr ⟨_,_,_,rfl⟩,.inr ⟨_,_,_,rfl⟩⟩ (fun p hp=>hs₁ p (hs₀ p hp)) ⟨I₂,I₁.gens,I₁.os,I₁.tk⟩ (.enum (i:=0) (old:=.none) hen hoi hen ⟨oi,hoi,rli⟩ hm ha (Nat.succ_ne_self _)) (by rw [enumV_len]; exact hlen) h0 step fin
end
end
section
open PySem.Builtin PySem.Builtin.Str
theorem IsAll.rev {M:Mem}:∀ {xs:List Value} {vs:List V},IsAll M xs vs→IsAll M xs.reverse vs.reverse:=fun {xs vs} i=>by
 induction vs generalizing xs with
 | nil=>rw [i.nilE]; exact .nil
 | cons d ds ih =>
  obtain ⟨v,r,e,h,t⟩:=i.consE
  subst e
  rw [List.reverse_cons,List.reverse_cons]
  exact (ih t).append (.cons h .nil)
section
variable {g:Gx} {Γ:Fx} {d:Nat} {lo:Loc} {H:AH}
theorem E.revLive {value:Expr} {k1:Nat} {p1 p2 pp pos:Pos} {Q:V→AH→Prop}
  (h:E g Γ d value lo H fun a H₁=>∃ l vs,a=.ref l∧MUpd l (.lst vs) (.lst vs) H₁ H₁∧vs.length≤1000000∧Q (.lst vs.reverse) H₁):E g Γ d (.Subscript value (.Slice Option.none Option.none (some (.UnaryOp .USub (.Constant (.int 1) k1 p1) p2)) pp) pos) lo H Q:=by
 intro c ok fz
 refine W.cast (t:=do let o ← eval value c.env; let i ← holding [o] (eval (.Slice Option.none Option.none (some (.UnaryOp .USub (.Constant (.int 1) k1 p1) p2)) pp) c.env); standAt pos; subscriptTail value (.Slice Option.none Option.none (some (.UnaryOp .USub (.Constant (.int 1) k1 p1) p2)) pp) o i) ?_ rfl
 refine W.bindV ((h c ok fz)) fun fz₁ x a H₁ s₁ ia r_=>?_
 obtain ⟨l,vs,ea,hu,hz,hq⟩:=r_
 subst ea
 have ez:=ia.refE
 subst ez
 rw [arm_eval_Slice]
 refine W.bind (W.holding (W.bind (W.pure (a:=Value.none) fun fz₂ s₂=>?_)))
 refine W.bind (W.holding (W.pure (a:=Value.none) fun fz₃ s₃=>?_))
 refine W.bind (W.holding ((part_W (e:=some (.UnaryOp .USub (.Constant (.int 1) k1 p1) p2)) (k:=fun p H₂=>p=some (-1)∧H₂=H₁∧Q (.lst vs.reverse) H₁) ok (E.neg (E.int ⟨1,rfl,some (-1),.int (-1),rfl,rfl,hq⟩))).mono fun fz₄ vl lo₂ H₂ s₄ r_=>?_))
 obtain ⟨e₂,pl,hl,ep,eH,q⟩:=r_
 subst e₂; subst eH
 refine W.frozen fun mf m cl fz₅ led s hs I P _ k=>wpAny_newObj_type (k { cls:=.type "slice",data:=.fields #[.none,.none,vl] } rfl ?_)
 refine W.at_ (W.frozen fun mf m cl fz₁ led s hs' I P _ k=>?_)
 have ho:=I.hi.there ok.stays (.inl (hs' _ (.head _)))
 obtain ⟨pre,o,post,e,hol,hr⟩:=I.hi.hr.split hu
 subst e
 refine ob_EEA hol.lstE fun xs n eo ha=>?_
 subst eo
 have hg:=(I.hi.news _ (List.mem_append.mpr (.inr (List.mem_append.mpr (.inl (by simp)))):(l,listOf xs.toArray n)∈_)).1
 have hL:s.heap.IsList l xs.toArray:=⟨_,hg,rfl,_,rfl⟩
 have hs:∀ o i,subscripted (.Slice Option.none Option.none (some (.UnaryOp .USub (.Constant (.int 1) k1 p1) p2)) pp) false o i=operate [o,i] (getItem o i):=fun _ _=>rfl
 have hst:pl.map (·.1)=some (-1):=ep
 refine tail_any hL.typeIs PySem.F.slot_list_getitem.lookup (wpAny_getItem_list_slice (lo:=Option.none) (hi:=Option.none) (st:=some (-1)) hL ⟨_,ho,rfl,rfl⟩ .none .none (by have:=hl.part.2; rw [hst] at this; exact this) (by decide) ?_ (by rw [List.size_toArray,ha.length]; exact small_line hz)) (hs _ _)
 rw [krv_pick]
 exact k (listOf _ 0) rfl ⟨rfl,_,.lst (.inl (.head _)) ((ha.mono (mem_mono fun _ hp=>.tail _ hp)).rev),q⟩
theorem CB.range3 {a b c:Int} {Q:V→AH→Prop} (hc:c≠0) (hp:Builtin.divisionGoesByPylong (b - a) c=false) (h:Q (.rng a b c) H):CallB g d (.type "range") [.int a,.int b,.int c] H Q:=by
 intro Γ cx ok fz lo xs is mf m cl fz₁ led s hs I
 obtain ⟨x,r1,e4,ia,is1⟩:=is.consE
 obtain ⟨y,r2,e5,ib,is2⟩:=is1.consE
 obtain ⟨z,e6,ic⟩:=is2.one
 subst e6; subst e5; subst e4
 refine ia.intE.elim fun t e1=>?_
 refine ib.intE.elim fun u e2=>?_
 refine ic.intE.elim fun v e3=>?_
 subst e1; subst e2; subst e3
 refine call_range_3 hc ?_ (.inl hp)
 exact .mk lo H mf m cl ((s.heap.objs.size,rngOf a b c t u v)::fz₁) led ⟨I.hi.newFz _,I.gens,I.os,I.tk⟩ (fun _ hp=>.tail _ hp) ⟨rfl,_,.rng (.inl (.head _)),h⟩
theorem T.liveE {e:Expr} {Q:Bool→AH→Prop} (h:E g Γ d e lo H fun v H₁=>∃ a vs,v=.ref a∧MUpd a (.lst vs) (.lst vs) H₁ H₁∧vs.length≤1000000∧Q (!vs.isEmpty) H₁)
  (he:autoParam (∀ env,isTrue e env (eval e env)=(do let v ← eval e env; standAt e.pos; holding [v] (truthy v))) irfa):T g Γ d e lo H Q:=by
 intro c ok fz
 rw [he]
 refine W.bindV (h c ok fz) fun fz₁ y v H₁ s₁ iv r_=>?_
 obtain ⟨a,vs,ev,hH,hl,q⟩:=r_
 subst ev
 have ez:=iv.refE
 subst ez
 refine W.at_ (W.holding (W.now fun mf m cl fz₂ led s hs I P _ k=>?_))
 obtain ⟨pre,o,post,e,ho,hr⟩:=I.hi.hr.split hH
 subst e
 refine ob_EEA ho.lstE fun xs n eo ha=>?_
 subst eo
 have e:=ha.length
 have hg:=(I.hi.news _ (List.mem_append.mpr (.inr (List.mem_append.mpr (.inl (by simp)))):(a,listOf xs.toArray n)∈_)).1
 exact wpAny_truthy_list (items:=_) ⟨_,hg,rfl,_,rfl⟩ (by rw [List.size_toArray,e]; exact lt63 (Nat.lt_of_le_of_lt hl (by decide))) (k _ _ (I.toks _) ⟨rfl,by rw [empty_len e]; exact q⟩)
end
noncomputable def dn:Nat→List V
 | 0=>[]
 | n+1=>.int (n:Int)::dn n
theorem rngV_dn:∀ (n:Nat),rngV ((n:Int) - 1) (-1) n=dn n
 | 0=>rfl
 | n+1=>by
  show V.int (((n+1:Nat):Int) - 1)::rngV (((n+1:Nat):Int) - 1+-1) (-1) n=V.int (n:Int)::dn n
  have e:(((n+1:Nat):Int) - 1)=(n:Int):=by omega
  rw [e,show (n:Int)+-1=(n:Int) - 1 from rfl,rngV_dn n]
theorem items_dn {n:Nat} (h:n≤1000):items (.rng ((n:Int) - 1) (-1) (-1))=some (dn n):=by
 have e1:Builtin.Range.rangeSize ((n:Int) - 1) (-1) (-1)=n:=by
  unfold Builtin.Range.rangeSize
  by_cases q:n=0
  ·subst q; rfl
  ·simp; omega
 have e2:Builtin.Range.small ((n:Int) - 1) (-1) (-1)=true:=by
  unfold Builtin.Range.small
  rw [e1]
  unfold Builtin.Range.rangeFitsLong
  simp; omega
 show (if Builtin.Range.small ((n:Int) - 1) (-1) (-1)=true then some (rngV ((n:Int) - 1) (-1) (Builtin.Range.rangeSize ((n:Int) - 1) (-1) (-1)).toNat) else none)=_
 rw [if_pos e2,e1,Int.toNat_natCast,rngV_dn]
theorem cells_un {M:Mem} {cm:Str→Option Value} {cs:List (Str × Addr)} {cells:List (Addr × Obj)} (hv:∀ x∈cs,cm x.1=none) (h:CellsAre cm cs cells):HR M cells (cs.map fun q=>(q.2,MO.cell .unset)):=by
 induction h with
 | nil=>exact .nil
 | @cons n c o cs cells hd _ ih=>exact .cons (.cell0 (hd.trans (by rw [hv _ (.head _)]))) (ih fun x hx=>hv x (.tail _ hx))
theorem law_inC {prog:Program} {w:World} {K:Frag} {p:Program} {loose:List Str} {mean:ExcName→Option Value} {mg mb:Str→Option Value} {s₁ s:Shared} {tabs:List (Addr × Addr)} {L fa:Addr} {m cm:Str→Option Value} {nm:Str} {cd:Value} {body:List Stmt} {Γ:Fx} {lo:Loc} {d:Nat} {cells:Led} {bs:List (Str × Value)}
  {Q:Flow→Shared→Prop} {E':Value→Shared→Prop} (hT:TabsAt tabs s₁.heap) (X:K.In s₁.heap) (hK:noTabs K=true) (T:Top p loose mean mg mb s₁.heap) (hg:s₁.gens=#[]) (hgs:s.gens=s₁.gens) (hos:s.os=s₁.os) (htk:1≤s.toks)
  (F:Fr s₁.heap L s.heap m) (N:News s₁.heap L s.heap cells) (Y:CellsAre cm (cellsFrom (L+1) Γ.scope.names []) cells) (hcm:∀ x∈cellsFrom (L+1) Γ.scope.names [],cm x.1=Option.none) (hcn:((cellsFrom (L+1) Γ.scope.names []).map (·.2)).Nodup)
  (hnd:(tabs.map (·.2)).Nodup) (hkind:Γ.scope.kind=.function) (hcode:Γ.code=.none) (hcells:Γ.cells=[]) (hd:d≤60)
  (hglobs:∀ p∈Γ.globs,Γ.scope.names.lookup p.1=some .globalImplicit∧(p.1==("__debug__":Str))=false∧(mg p.1=some p.2∨(mg p.1=none∧mb p.1=some p.2)))
  (lok:LocOk Γ.scope lo) (loc:∀ p∈lo,p.2=.unset∨∃ v,m p.1=some v∧∀ M,Is M v p.2)
  (hb:∀ g:Gx,g=mkG prog w K (loose++(recsOf p).map (·.name)++(litsOf p).map (·.1)++(clssOf p loose).map (·.name)) mean mg mb (ghostOf s₁.heap tabs)→g.Ok→CodeAll tabs g.B →
   Ss g (Γ.at_ L) d body lo (((cellsFrom (L+1) Γ.scope.names []).map fun q=>(q.2,MO.cell .unset))++tabH tabs) (fun r _ H'=>r=.ret (.bool true)∧TabsIn tabs H'))
  (hQ:∀ s',(∀ b o,(ghostOf s₁.heap tabs).get? b=some o→s'.heap.get? b=some o)→GrownAll tabs s'.heap→s'.os=s₁.os→AllBare s'.gens→Q (.ret (.bool true)) s') :
  wpAny (model prog w) (callerA.deeper (envOfC nm Γ.scope L fa cd)) (execs body (envOfC nm Γ.scope L fa cd)) Q E' s:=by
 have gok:(mkG prog w K (loose++(recsOf p).map (·.name)++(litsOf p).map (·.1)++(clssOf p loose).map (·.name)) mean mg mb (ghostOf s₁.heap tabs)).Ok:=⟨ghost_K hT X hK,ghost_top hT T⟩
 have F':=ghost_fr hT F
 have N':=ghost_news hT F N
 let c:Cx:={ A:=callerA.deeper (envOfC nm Γ.scope L fa cd),A₀:=callerA,base:=ghostOf s₁.heap tabs,h₀:=ghostOf s₁.heap tabs,outer:=[],fenv:=envOfC nm Γ.scope L fa cd,env:=envOfC nm Γ.scope L fa cd,L:=L,pins:=[],os:=s.os }
 have ok:c.Ok (mkG prog w K (loose++(recsOf p).map (·.name)++(litsOf p).map (·.1)++(clssOf p loose).map (·.name)) mean mg mb (ghostOf s₁.heap tabs)) (Γ.at_ L) d:=by
  refine ⟨gok,ghost_below hT,rfl,rfl,rfl,hkind,fun _ _ e=>e,rfl,hkind,rfl,rfl,?_,?_,hglobs,.inl hcode,.inr rfl⟩
  ·show callerA.depth+1+d+8≤recursionLimit
   have:callerA.depth+1+60+8≤recursionLimit:=by decide +kernel
   exact ar 3 [_,_,_] (.im (.le (.a (.a (.a .v0 .n1) (.n 60)) (.n 8)) .v2) (.im (.le .v1 (.n 60)) (.le (.a (.a (.a .v0 .n1) .v1) (.n 8)) .v2))) rfl this hd
  ·show (callerA.deeper (envOfC nm Γ.scope L fa cd)).units+10 * d+200≤cLine
   have:callerA.units+3+10 * 60+200≤cLine:=by decide +kernel
   have e:(callerA.deeper (envOfC nm Γ.scope L fa cd)).units=callerA.units+3:=rfl
   exact ar 4 [_,_,_,_] (.im (.le (.a (.a (.a .v3 (.n 3)) (.m 10 (.n 60))) (.n 200)) .v2) (.im (.eq .v0 (.a .v3 (.n 3))) (.im (.le .v1 (.n 60)) (.le (.a (.a .v0 (.m 10 .v1)) (.n 200)) .v2)))) rfl this e hd
 have ek:(cells++tabNews tabs).map (·.1)=(cellsFrom (L+1) Γ.scope.names []).map (·.2)++tabs.map (·.2):=by
  rw [List.map_append,cellsAre_map Y]
  congr 1
  simp [Function.comp_def]
 have I:Inv (mkG prog w K (loose++(recsOf p).map (·.name)++(litsOf p).map (·.1)++(clssOf p loose).map (·.name)) mean mg mb (ghostOf s₁.heap tabs)) c lo (((cellsFrom (L+1) Γ.scope.names []).map fun q=>(q.2,MO.cell .unset))++tabH tabs) m m [] [] (cells++tabNews tabs) s:=by
  refine ⟨⟨F',.own rfl,fun z hz=>N' z ?_,?_,lok,fun z hz=>?_,.app (cells_un hcm Y) (tabHR tabs)⟩,?_,rfl,htk⟩
  ·simpa [c] using hz
  ·show (([]++((cells++tabNews tabs)++([]++[])):Led).map (·.1)).Nodup
   rw [List.nil_append,List.nil_append,List.append_nil,ek]
   refine List.nodup_append.mpr ⟨hcn,hnd,fun x hx y hy e=>?_⟩
   rw [← cellsAre_map Y] at hx
   obtain ⟨q,hq,rfl⟩:=List.mem_map.mp hx
   obtain ⟨r,hr,rfl⟩:=List.mem_map.mp hy
   have h1:=(N q hq).2.2
   have h2:=(hT r hr).2
   rw [e] at h1
   rw [h1] at h2; cases h2
  ·exact (loc z hz).imp id fun ⟨v,e,i⟩=>⟨v,e,i _⟩
  ·rw [hgs]; exact .of_eq hg
 refine (hb _ rfl gok (ghost_code hT) c ok []).use (fun _ x=>x) I fun {fl s' lo' H' mf' m' cl' fz' led'} I' hs' r_=>?_
 refine ob_EAA r_ fun r hr er hin=>?_
 try clear r_
 subst er
 cases hr with
 | ret i =>
  rw [i.boolE]
  refine hQ s' (fun b o e=>I'.hi.fr.keep _ _ e) (grownAll_of fun q hq=>?_) (I'.os.trans hos) I'.gens
  obtain ⟨p,hp⟩:=hin q hq
  obtain ⟨o,ho,io⟩:=I'.hi.hr.at_ hp
  have:=I'.hi.thereLed ho
  cases io with
  | tab0=>exact ⟨_,this⟩
  | tab1=>exact ⟨_,this⟩
end
section
open PySem.Builtin PySem.Builtin.Str
section
variable {g:Gx} {Γ:Fx} {d:Nat} {lo:Loc} {H:AH}
theorem E.and1 {x:Expr} {pos:Pos} {Q:V→AH→Prop} (h:E g Γ d x lo H Q):E g Γ d (.BoolOp .And [x] pos) lo H Q:=fun c ok fz=>W.cast (t:=eval x c.env) (h c ok fz) rfl
theorem E.andM {x y:Expr} {rest:List Expr} {pos:Pos} {Q:V→AH→Prop} (b:Bool) (h:E g Γ d x lo H fun v H₁=>v=.bool b∧H₁=H) (hf:b=false→Q (.bool false) H) (ht:b=true→E g Γ d (.BoolOp .And (y::rest) pos) lo H Q):E g Γ d (.BoolOp .And (x::y::rest) pos) lo H Q:=by
 intro c ok fz
 refine W.cast (t:=do
  let v ← eval x c.env
  standAt pos
  let t ← holding [v] (truthy v)
  match BoolOp.And,t with
  | .And,false | .Or,true=>pure v
  | _,_=>eval (.BoolOp .And (y::rest) pos) c.env) ?_ rfl
 refine W.bindV ((h c ok fz)) fun fz₁ x a H₁ s₁ ia ha=>?_
 obtain ⟨rfl,rfl⟩:=ha
 refine W.at_ (W.bindB (W.holding (truthy_W ok ia (Q:=fun b' H'=>H'=H₁∧b'=b) ⟨b,.bool b,rfl,rfl⟩)) fun fz₂ b' H₂ s₂ r_=>?_)
 obtain ⟨rfl,rfl⟩:=r_
 cases b' with
 | false=>exact W.pure fun _ s₃=>⟨rfl,_,(ia.mono (mem_mono s₂)).mono (mem_mono s₃),hf rfl⟩
 | true=>exact ht rfl c ok fz₂
noncomputable abbrev IsBv (b:Bool) (H:AH):V→AH→Prop:=fun v H'=>v=.bool b∧H'=H
theorem E.andB {x y:Expr} {rest:List Expr} {pos:Pos} {b b' bb:Bool} (hb:(b&&b')=bb) (h:E g Γ d x lo H (IsBv b H)) (ht:b=true→E g Γ d (.BoolOp .And (y::rest) pos) lo H (IsBv b' H)):E g Γ d (.BoolOp .And (x::y::rest) pos) lo H (IsBv bb H):=by
 subst hb
 refine E.andM b h (fun e=>⟨by rw [e]; rfl,rfl⟩) fun e=>?_
 rw [e,Bool.true_and]; exact ht e
end
end
section
open PySem.Builtin PySem.Builtin.Str
section
variable {g:Gx} {Γ Γ':Fx} {d:Nat} {lo:Loc} {H:AH} {c:Cx}
theorem S.compJ {sc:Scope} {elt iter tg:Expr} {x₀ y:Str} {xs:List Str} {py pos spos:Pos} {Q:R→Loc→AH→Prop} (O:CompOkC g Γ Γ' sc x₀) (hx:LocOk Γ'.scope (xs.map fun x=>(x,V.unset))) (ht:Tg tg)
  (h:E g Γ d iter lo H fun v H₁=>∃ vs,items v=some vs∧vs.length≤1000000∧∃ J:List V→List V→Loc→AH→Prop,J vs [] (xs.map fun x=>(x,V.unset)) H₁∧TurnJ g Γ' d tg elt J∧∀ out lo₂ H,J [] out lo₂ H→PutK y (.lst out) lo fun lo'=>Q .next lo' H)
  (hsw:∀ env:Env,env.scope=Γ.scope→swapsWith (.ListComp elt [⟨tg,iter,[],0⟩] sc pos) (some (.Name y py)) spos.line env=pure true)
  (hs:autoParam (∀ env x,foldedSetIterable iter env x=pure x) irfa):S g Γ d (.Assign [.Name y py] (.ListComp elt [⟨tg,iter,[],0⟩] sc pos) spos) lo H Q:=by
 intro c ok fz mf m cl fz₁ led s hs' I
 rw [exec_Assign_Name_used _ _ _ _ (hsw _ ok.scope)]
 refine wpAny_bind (wpAny_standAt (wpAny_bind ?_))
 show wpAny _ c.A (do let _ ← comprehension (.ListComp elt [⟨tg,iter,[],0⟩] sc pos) sc c.env _ (newList []) false (eval iter c.env) (some (PySem.assign (.Name y py) c.env))) _ _ s
 refine wpAny_bind (wpAny_mono (wpAny_comprehension_free (use:=some (PySem.assign (.Name y py) c.env)) (Q:=fun _ s'=>WP g c fz₁ (RP g Q) .next s') rfl (hs _) (O.clos c.env ok.scope ok.cells) O.kind.1 O.names ((h c ok fz).useV hs' I fun {cv s₁ H₁ mf₁ m₁ cl₁ fz₂ led₁ v} I₁ hs₁ iv r_=>?_))
  (fun _ s' hq=>wpAny_pure (wpAny_pure hq)) fun _ _ e=>e)
 obtain ⟨vs,ei,hlen,J,h0,step,fin⟩:=r_
 refine iter_start ok I₁ iv ei fun a o s₂ I₂ r₂=>?_
 refine wpAny_newList ?_
 have J₃:HI g (c.pinL [(a,o)]) lo ((s₂.heap.objs.size,.lst [])::H₁) mf₁ m₁ cl₁ fz₂ ((s₂.heap.objs.size,listOf #[] 0)::led₁) (s₂.heap.push (listOf #[] 0)):=HI.newLed (c:=c.pinL [(a,o)]) I₂.hi (.lst (vs:=[]) .nil)
 have r₃:ItP (Cx.mem g fz₂) (s₂.heap.push (listOf #[] 0)) a [(a,o)] vs:=(ItP.one I₂.hi.pin_at.1 r₂).keeps J₃.pinL_at fun _ _ x=>x
 generalize s₂.heap.objs.size=acc at *
 refine wpAny_newFunctionEnv O.cell (fun y hy=>nomatch hy) (fun h' hn hsb=>?_) O.kind.1
 have hLt:c.L < (s₂.heap.push (listOf #[] 0)).objs.size:=J₃.fr.ns.lt
 rw [show (List.reverse ([]:List (Str × Value)))=[] from rfl] at hn
 generalize hD:(s₂.heap.push (listOf #[] 0)).objs.size=D at *
 rw [O.rel c.env ok.scope ok.kind]
 have ok':=inComp_okC ok O (cl:=cl₁) (mf:=mf₁) (L:=D) (qual:=c.env.qual) (b₀:=builtinsNs)
 obtain ⟨oD,J₄⟩:=J₃.enterCompL hx (env':={ newEnv sc D c.env.globals Γ'.cells c.env.qual Option.none .none (some c.env) builtinsNs with scope:=Γ'.scope }) ⟨rfl,hD.symm⟩ rfl (by rw [hD]; exact hn) (by rw [hD]; exact hsb)
 have r₄:ItP (Cx.mem g fz₂) h' a [(a,o)] vs:=r₃.keeps J₄.pinL_at fun _ _ x=>x
 have hDL:D≠c.L:=Nat.ne_of_gt hLt
 refine codeAny_mono (comp_loopJ (P:=fun out H'=>PutK y (.lst out) lo fun lo'=>Q .next lo' H') ok' ⟨ht,.inl rfl⟩ (s:={ heap:=h',gens:=s₂.gens,drawn:=s₂.drawn,toks:=s₂.toks+0,os:=s₂.os }) ⟨J₄,I₂.gens,I₂.os,I₂.tk⟩ r₄ hlen h0 step fin) fun r s' w=>?_
 cases w with | @mk lx H' out mf' mm' cl' fz' led' er q I₅ hz =>
 subst er
 obtain ⟨lo',hp,fin⟩:=q
 obtain ⟨oD',no,J₆⟩:=I₅.hi.leavePin I₁.hi.lok (I₁.hi.loc.mono (mem_mono hz)) (I₁.hi.clr.to rfl rfl rfl) hDL
 refine ob_EEAA J₆.hr.consE fun oo led₀ el ho hr=>?_
 subst el
 have J₇:=J₆.freeze
 refine ob_EEA ho.lstE fun xs n eo ha=>?_
 subst eo
 have iv':Is (Cx.mem g ((acc,listOf xs.toArray n)::fz')) (.ref acc) (.lst out):=.lst (.inl (.head _)) (ha.mono (mem_mono fun _ hp=>.tail _ hp))
 refine wpAny_assign_Name ((store_W (c:=c.pin (D,oD')) (fz:=(acc,listOf xs.toArray n)::fz') (Q:=fun _ _ lo'' H''=>Q .next lo'' H'') (ok.pin (D,oD')) hp iv' (fun _ _=>fin)).use (fun _ x=>x) ⟨J₇,I₅.gens,I₅.os,I₅.tk⟩ fun I₃ hs₃ q=>?_)
 refine ob_EEAA no fun es ep n1 n2 n3=>?_
 try clear no
 exact ⟨mm',⟨oD',es,ep,I₃.hi.pin_at.1,n1,n2,n3⟩,fun h'' hs''=>.mk _ _ _ _ _ _ _ ⟨I₃.hi.endpin hs''.extBut,I₃.gens,I₃.os,I₃.tk⟩ (fun p hp=>hs₃ p (.tail _ (hz p (hs₁ p hp)))) ⟨_,.next,q⟩⟩
end
end
section
open PySem.Builtin PySem.Builtin.Str
section
variable {g:Gx} {Γ:Fx} {d:Nat} {lo:Loc} {H:AH} {c:Cx} {fz:Led}
theorem binds_W (ok:c.Ok g Γ d) {xs:List Str} {cvs:List Value} {vs:List V} {lo lo':Loc} {Q:Led→Unit→Loc→AH→Prop} (i:IsAll (Cx.mem g fz) cvs vs)
  (h:PutL xs vs lo lo') (q:∀ fz',(∀ p∈fz,p∈fz')→Q fz' () lo' H):W g c fz (assignInOrder (xs.map fun n=>bindName c.env n) cvs) lo H Q:=by
 induction h generalizing cvs fz with
 | nil=>rw [i.nilE]; exact W.pure q
 | cons hp _ ih =>
  refine ob_EEAA i.consE fun v r ev iv ir=>?_
  subst ev
  refine W.cast (t:=do holding _ (bindName c.env _ _); assignInOrder (List.map _ _) _) ?_ rfl
  exact W.bind (W.holding (bind_W ok hp iv fun fz' s=>ih (ir.mono (mem_mono s)) fun fz'' s'=>q fz'' fun p hp=>s' p (s p hp)))
theorem S.swap {elts:List Expr} {names:List Str} {x1:Nat} {pos' pos:Pos} {value:Expr} {Q:R→Loc→AH→Prop}
  (h:E g Γ d value lo H fun v H₁=>∃ vs,v=.tup vs∧vs.length=names.length∧PutAll names.reverse vs.reverse lo fun lo'=>Q .next lo' H₁)
  (hw:∀ env:Env,env.scope=Γ.scope→swappedStores [Expr.Tuple elts x1 pos'] value env=pure (some names))
  (hs:autoParam (∀ env,swapsWithSole [Expr.Tuple elts x1 pos'] value pos.line env=pure false) irfa):S g Γ d (.Assign [Expr.Tuple elts x1 pos'] value pos) lo H Q:=by
 intro c ok fz mf m cl fz₁ led s hs' I
 refine Assign_Tuple_swapped ((h c ok fz).useV hs' I fun {x s' H' mf' m' cl' fz' led' a} I' hs'' i r_=>?_) (hs _) (hw _ ok.scope)
 obtain ⟨vs,e,hl,lo',hp,q⟩:=r_
 subst e
 refine ob_EEEAA i.tupE fun a vs n e hm ha=>?_
 subst e
 have en:names.length=vs.toArray.size:=by rw [List.size_toArray,ha.length,hl]
 rw [en]
 refine unpackItems_tuple (items:=vs.toArray) ok.handled ⟨_,I'.hi.there ok.stays hm,rfl,_,rfl⟩ fun h' hx=>?_
 have I₂:Inv g c lo H' mf' m' cl' fz' led' { s' with heap:=h' }:=I'.to s'.toks (Nat.le_refl _) (I'.hi.grow fun b o e=>hx b o (Nat.ne_of_lt (Heap.lt_size e)) e)
 exact (binds_W (Q:=fun _ _ lo'' H''=>Q .next lo'' H'') ok ha.rev hp fun _ _=>q).use (fun _ x=>x) I₂ fun I₃ hs₃ q=>.mk _ _ _ _ _ _ _ I₃ (fun p hp=>hs₃ p (hs'' p hp)) ⟨_,.next,q⟩
end
end
section
open PySem PySem.W PySem.Calls PyProof.Rows PyProof.Rows.KTD
set_option genSizeOf false
set_option genInjectivity false
noncomputable abbrev Prg:Program:=PySem.Challenge.pw_te0061_05
noncomputable def stV:Stmt→Expr × List Stmt × List Stmt × Scope
 | .FunctionDef _ _ b _ _ _ s _ _ _=>(default,b,[],s)
 | .ClassDef _ _ _ b _ _ _ _ _ _ _=>(default,b,[],default)
 | .Assign _ e _=>(e,[],[],default)
 | .Return e _=>(e.getD default,[],[],default)
 | .For _ _ b _ _=>(default,b,[],default)
 | .While t b _ _=>(t,b,[],default)
 | .If t b o _=>(t,b,o,default)
 | _=>(default,[],[],default)
noncomputable def conS:Const→Str
 | .str x=>x
 | _=>default
noncomputable def exV:Expr→List Expr × Scope × Str × Option Pos × Nat
 | .Call _ es _ _=>(es,default,default,none,0)
 | .GeneratorExp e _ sc p=>([e],sc,default,some p,0)
 | .ListComp e _ sc p=>([e],sc,default,some p,0)
 | .List es _=>(es,default,default,none,0)
 | .BinOp l _ _ _=>([l],default,default,none,0)
 | .Name x _=>([],default,x,none,1)
 | .Starred _ _=>([],default,default,none,2)
 | .Constant c _ _=>([],default,conS c,none,0)
 | _=>([],default,default,none,0)
noncomputable def hdS (l:List Stmt):Stmt:=l.headD (.Pass default)
noncomputable def exN:Nat→Expr→Expr
 | 0,e=>e
 | n+1,e=>exN n ((exV e).1.headD default)
noncomputable def bodyOf (s:Option Stmt):List Stmt:=(stV (hdS s.toList)).2.1
noncomputable def ifB (l:List Stmt):List Stmt:=(stV (hdS l)).2.1
noncomputable def elB (l:List Stmt):List Stmt:=(stV (hdS l)).2.2.1
noncomputable def retE (l:List Stmt):Expr:=(stV (hdS l)).1
noncomputable def withB (l:List Stmt):List Stmt:=l.filter fun s=>!(stV s).2.1.isEmpty
noncomputable def bodyAt (i:Nat):List Stmt:=bodyOf (Prg.main.body[i]?)
noncomputable def scopeAt (i:Nat):Scope:=(stV (hdS (Prg.main.body[i]?).toList)).2.2.2
noncomputable def initB (i:Nat):List Stmt:=ifB (withB (bodyAt i))
noncomputable def initSc (i:Nat):Scope:=(stV (hdS (withB (bodyAt i)))).2.2.2
noncomputable def HEXS:Str:="0123456789abcdefABCDEF"
noncomputable def lit (x:String):List Nat:=(Str.ofString x).cps.toList
noncomputable def digTab:List V:=["0","1","2","3","4","5","6","7","8","9"].map fun x=>V.str (lit x)
noncomputable def sig5:List Nat:=[97,70,57,48,45,95,103,117,101,69,233,128,65533,128512,1114111,34,39,92,40,41,123,125,91,93,32,9,10,13,12,1,31,127,43,46,37,64,35,47,42,62]
noncomputable def sigTab:List V:=sig5.map fun c=>V.str [c]
noncomputable def repTab:List (Str × KTD.Dat):=[("\"",.flat (.str "\\\"")),("\\",.flat (.str "\\\\")),("\n",.flat (.str "\\A ")),("\r",.flat (.str "\\D ")),("\x0c",.flat (.str "\\C "))]
noncomputable def globL:List (Str × Value):=("_law_take",.ref 734)::("_DIGITS",.ref 606)::("_is_ident_start",.ref 642)::("_consume_ident",.ref 649)::("_consume_unicode_range",.ref 677)::("_consume_url",.ref 670)::("_consume_quoted_string",.ref 656)::("_number_end",.ref 613)::("ascii_lower",.ref 26)::("serialize_url",.ref 41)::("serialize_string_value",.ref 34)::("WhitespaceToken",.ref 163)::("UnicodeRangeToken",.ref 385)::("LiteralToken",.ref 206)::("IdentToken",.ref 235)::("URLToken",.ref 355)::("ParseError",.ref 104)::("FunctionBlock",.ref 600)::("DimensionToken",.ref 479)::("PercentageToken",.ref 447)::("NumberToken",.ref 415)::("AtKeywordToken",.ref 265)::("HashToken",.ref 295)::("CurlyBracketsBlock",.ref 571)::("SquareBracketsBlock",.ref 542)::("ParenthesesBlock",.ref 513)::("StringToken",.ref 325)::("Comment",.ref 134)::("_is_name_start",.ref 635)::("_consume_escape",.ref 663)::("_hex_end",.ref 620)::("_law_SIGNS",.ref 678)::("_law_ENDS",.ref 685)::("_law_BLANKS",.ref 692)::("_law_TAILS",.ref 699)::("_law_HEX",.str HEXS 1303)::("_law_SIZES",.ref 706)::("parse_component_value_list",.ref 628)::("_law_told",.ref 797)::("Node",.ref 74)::("_replacement_string_value",.ref 27)::("_law_PADS",.ref 713)::("_law_HEADS",.ref 720)::("_law_BETWEEN",.ref 727)::("_law_hexed",.ref 741)::("_law_spelled",.ref 748)::("_law_part",.ref 755)::("_law_starts",.ref 762)::("_law_named",.ref 769)::("_law_quoted",.ref 776)::("_law_addressed",.ref 783)::("_law_places",.ref 790)::[]
noncomputable def bltL:List (Str × Value):=[("ord",.builtin "ord"),("len",.builtin "len"),("int",.type "int"),("chr",.builtin "chr"),("min",.builtin "min"),("range",.type "range"),("sum",.builtin "sum"),("enumerate",.type "enumerate")]
noncomputable def keepL:List Addr:=34::41::26::56::93::104::123::134::152::163::181::206::224::235::254::265::284::295::314::325::344::355::374::385::404::415::436::447::468::479::502::513::531::542::560::571::589::600::613::620::628::635::642::649::656::663::670::677::685::692::699::706::713::720::727::734::741::748::755::762::769::776::783::790::797::[]
noncomputable def clsL:List (Addr × Addr):=[(104,93),(134,123),(163,152),(206,181),(235,224),(265,254),(295,284),(325,314),(355,344),(385,374),(415,404),(447,436),(479,468),(513,502),(542,531),(571,560),(600,589)]
noncomputable def setL:List (Addr × Str × Nat):=(104,"source_line",3)::(104,"source_column",2)::(104,"kind",0)::(104,"message",1)::(134,"source_line",2)::(134,"source_column",1)::(134,"value",0)::(163,"source_line",2)::(163,"source_column",1)::(163,"value",0)::(206,"source_line",2)::(206,"source_column",1)::(206,"value",0)::(235,"source_line",3)::(235,"source_column",2)::(235,"value",1)::(235,"lower_value",0)::(265,"source_line",3)::(265,"source_column",2)::(265,"value",1)::(265,"lower_value",0)::(295,"source_line",3)::(295,"source_column",2)::(295,"value",1)::(295,"is_identifier",0)::(325,"source_line",3)::(325,"source_column",2)::(325,"value",1)::(325,"representation",0)::(355,"source_line",3)::(355,"source_column",2)::(355,"value",1)::(355,"representation",0)::(385,"source_line",3)::(385,"source_column",2)::(385,"start",1)::(385,"end",0)::(415,"source_line",5)::(415,"source_column",4)::(415,"value",3)::(415,"int_value",0)::(415,"is_integer",1)::(415,"representation",2)::(447,"source_line",5)::(447,"source_column",4)::(447,"value",3)::(447,"int_value",0)::(447,"is_integer",1)::(447,"representation",2)::(479,"source_line",7)::(479,"source_column",6)::(479,"value",5)::(479,"int_value",0)::(479,"is_integer",1)::(479,"representation",3)::(479,"unit",4)::(479,"lower_unit",2)::(513,"source_line",2)::(513,"source_column",1)::(513,"content",0)::(542,"source_line",2)::(542,"source_column",1)::(542,"content",0)::(571,"source_line",2)::(571,"source_column",1)::(571,"content",0)::(600,"source_line",4)::(600,"source_column",3)::(600,"name",2)::(600,"lower_name",1)::(600,"arguments",0)::[]
noncomputable def slotL:List (Addr × Str × Nat):=(104,"kind",0)::(134,"value",0)::(163,"value",0)::(206,"value",0)::(235,"value",1)::(265,"value",1)::(295,"value",1)::(295,"is_identifier",0)::(325,"value",1)::(355,"value",1)::(385,"start",1)::(385,"end",0)::(415,"value",3)::(447,"value",3)::(479,"unit",4)::(479,"representation",3)::(513,"content",0)::(542,"content",0)::(571,"content",0)::(600,"name",2)::(600,"arguments",0)::(104,"source_line",3)::(104,"source_column",2)::(134,"source_line",2)::(134,"source_column",1)::(163,"source_line",2)::(163,"source_column",1)::(206,"source_line",2)::(206,"source_column",1)::(235,"source_line",3)::(235,"source_column",2)::(265,"source_line",3)::(265,"source_column",2)::(295,"source_line",3)::(295,"source_column",2)::(325,"source_line",3)::(325,"source_column",2)::(355,"source_line",3)::(355,"source_column",2)::(385,"source_line",3)::(385,"source_column",2)::(415,"source_line",5)::(415,"source_column",4)::(447,"source_line",5)::(447,"source_column",4)::(479,"source_line",7)::(479,"source_column",6)::(513,"source_line",2)::(513,"source_column",1)::(542,"source_line",2)::(542,"source_column",1)::(571,"source_line",2)::(571,"source_column",1)::(600,"source_line",4)::(600,"source_column",3)::(479,"int_value",0)::[]
noncomputable def typL:List (Addr × Value):=[(104,.str "error" 300),(134,.str "comment" 345),(163,.str "whitespace" 386),(206,.str "literal" 427),(235,.str "ident" 486),(265,.str "at-keyword" 531),(295,.str "hash" 576),(325,.str "string" 622),(355,.str "url" 668),(385,.str "unicode-range" 714),(415,.str "number" 762),(447,.str "percentage" 817),(479,.str "dimension" 874),(513,.str "() block" 933),(542,.str "[] block" 974),(571,.str "{} block" 1015),(600,.str "function" 1058)]
noncomputable abbrev Γ5:Fx:={ scope:=scopeAt 5,globs:=[],code:=.ref 33 }
noncomputable abbrev Γ6:Fx:={ scope:=scopeAt 6,globs:=[],code:=.ref 40 }
noncomputable abbrev Γ8:Fx:={ scope:=scopeAt 2,globs:=[] }
noncomputable abbrev Γ29:Fx:={ scope:=scopeAt 28,globs:=[("_DIGITS",.ref 606)] }
noncomputable abbrev Γ30:Fx:={ scope:=scopeAt 29,globs:=[] }
noncomputable abbrev Γ31:Fx:={ scope:=scopeAt 30,globs:=[("ord",.builtin "ord"),("len",.builtin "len"),("_is_ident_start",.ref 642),("_consume_ident",.ref 649),("_consume_unicode_range",.ref 677),("_consume_url",.ref 670),("_consume_quoted_string",.ref 656),("_number_end",.ref 613),("ascii_lower",.ref 26),("serialize_url",.ref 41),("serialize_string_value",.ref 34),("int",.type "int"),("WhitespaceToken",.ref 163),("UnicodeRangeToken",.ref 385),("LiteralToken",.ref 206),("IdentToken",.ref 235),("URLToken",.ref 355),("ParseError",.ref 104),("FunctionBlock",.ref 600),("DimensionToken",.ref 479),("PercentageToken",.ref 447),("NumberToken",.ref 415),("AtKeywordToken",.ref 265),("HashToken",.ref 295),("CurlyBracketsBlock",.ref 571),("SquareBracketsBlock",.ref 542),("ParenthesesBlock",.ref 513),("StringToken",.ref 325),("Comment",.ref 134)] }
noncomputable abbrev Γ32:Fx:={ scope:=scopeAt 31,globs:=[("ord",.builtin "ord")] }
noncomputable abbrev Γ33:Fx:={ scope:=scopeAt 32,globs:=[("_is_name_start",.ref 635),("len",.builtin "len")] }
noncomputable abbrev Γ34:Fx:={ scope:=scopeAt 33,globs:=[("len",.builtin "len"),("ord",.builtin "ord"),("_consume_escape",.ref 663)] }
noncomputable abbrev Γ35:Fx:={ scope:=scopeAt 34,globs:=[("len",.builtin "len"),("_consume_escape",.ref 663)] }
noncomputable abbrev Γ36:Fx:={ scope:=scopeAt 35,globs:=[("_hex_end",.ref 620),("int",.type "int"),("chr",.builtin "chr"),("len",.builtin "len")] }
noncomputable abbrev Γ37:Fx:={ scope:=scopeAt 36,globs:=[("len",.builtin "len"),("_consume_quoted_string",.ref 656),("_consume_escape",.ref 663)] }
noncomputable abbrev Γ38:Fx:={ scope:=scopeAt 37,globs:=[("len",.builtin "len"),("min",.builtin "min"),("int",.type "int")] }
noncomputable abbrev Γ40:Fx:={ scope:=scopeAt 40,globs:=[] }
noncomputable abbrev Γ41:Fx:={ scope:=scopeAt 41,globs:=[] }
noncomputable abbrev Γ42:Fx:={ scope:=scopeAt 42,globs:=[] }
noncomputable abbrev Γ44:Fx:={ scope:=scopeAt 44,globs:=[] }
noncomputable abbrev Γ45:Fx:={ scope:=scopeAt 45,globs:=[] }
noncomputable abbrev Γ46:Fx:={ scope:=scopeAt 46,globs:=[] }
noncomputable abbrev Γ47:Fx:={ scope:=scopeAt 47,globs:=[] }
noncomputable abbrev Γ48:Fx:={ scope:=scopeAt 48,globs:=[] }
noncomputable abbrev Γ49:Fx:={ scope:=scopeAt 49,globs:=[("len",.builtin "len"),("_law_TAILS",.ref 699),("_law_BLANKS",.ref 692),("_law_HEX",.str HEXS 1303)] }
noncomputable abbrev Γ50:Fx:={ scope:=scopeAt 50,globs:=[("_law_HEX",.str HEXS 1303),("_law_ENDS",.ref 685),("_law_hexed",.ref 741),("ord",.builtin "ord")] }
noncomputable abbrev Γ51:Fx:={ scope:=scopeAt 51,globs:=[] }
noncomputable abbrev Γ52:Fx:={ scope:=scopeAt 52,globs:=[("_law_part",.ref 755)] }
noncomputable abbrev Γ53:Fx:={ scope:=scopeAt 53,globs:=[("range",.type "range"),("len",.builtin "len"),("_law_part",.ref 755),("_law_starts",.ref 762),("_law_spelled",.ref 748)] }
noncomputable abbrev Γ54:Fx:={ scope:=scopeAt 54,globs:=[("range",.type "range"),("len",.builtin "len"),("_law_ENDS",.ref 685),("_law_spelled",.ref 748)] }
noncomputable abbrev Γ55:Fx:={ scope:=scopeAt 55,globs:=[("_law_PADS",.ref 713),("range",.type "range"),("len",.builtin "len"),("_law_spelled",.ref 748),("_law_HEADS",.ref 720)] }
noncomputable abbrev Γ56:Fx:={ scope:=scopeAt 56,globs:=[] }
noncomputable abbrev Γ57:Fx:={ scope:=scopeAt 57,globs:=[("len",.builtin "len")] }
noncomputable abbrev ΓI9:Fx:={ scope:=initSc 8,globs:=[] }
noncomputable abbrev ΓI10:Fx:={ scope:=initSc 9,globs:=[("Node",.ref 74)] }
noncomputable abbrev ΓI11:Fx:={ scope:=initSc 10,globs:=[("Node",.ref 74)] }
noncomputable abbrev ΓI12:Fx:={ scope:=initSc 11,globs:=[("Node",.ref 74)] }
noncomputable abbrev ΓI13:Fx:={ scope:=initSc 12,globs:=[("Node",.ref 74)] }
noncomputable abbrev ΓI14:Fx:={ scope:=initSc 13,globs:=[("Node",.ref 74),("ascii_lower",.ref 26)] }
noncomputable abbrev ΓI15:Fx:={ scope:=initSc 14,globs:=[("Node",.ref 74),("ascii_lower",.ref 26)] }
noncomputable abbrev ΓI16:Fx:={ scope:=initSc 15,globs:=[("Node",.ref 74)] }
noncomputable abbrev ΓI17:Fx:={ scope:=initSc 16,globs:=[("Node",.ref 74)] }
noncomputable abbrev ΓI18:Fx:={ scope:=initSc 17,globs:=[("Node",.ref 74)] }
noncomputable abbrev ΓI19:Fx:={ scope:=initSc 18,globs:=[("Node",.ref 74)] }
noncomputable abbrev ΓI20:Fx:={ scope:=initSc 19,globs:=[("Node",.ref 74)] }
noncomputable abbrev ΓI21:Fx:={ scope:=initSc 20,globs:=[("Node",.ref 74)] }
noncomputable abbrev ΓI22:Fx:={ scope:=initSc 21,globs:=[("Node",.ref 74),("ascii_lower",.ref 26)] }
noncomputable abbrev ΓI23:Fx:={ scope:=initSc 22,globs:=[("Node",.ref 74)] }
noncomputable abbrev ΓI24:Fx:={ scope:=initSc 23,globs:=[("Node",.ref 74)] }
noncomputable abbrev ΓI25:Fx:={ scope:=initSc 24,globs:=[("Node",.ref 74)] }
noncomputable abbrev ΓI26:Fx:={ scope:=initSc 25,globs:=[("Node",.ref 74),("ascii_lower",.ref 26)] }
noncomputable def curry:Nat→(List Value→Prop)→Prop
 | 0,P=>P []
 | n+1,P=>∀ x,curry n fun r=>P (x::r)
theorem curry_all (n:Nat):∀ P:List Value→Prop,curry n P→∀ xs:List Value,xs.length=n→P xs:=by
 induction n with
 | zero =>
  intro P h xs e
  cases xs with
  | nil=>exact h
  | cons=>cases e
 | succ n ih =>
  intro P h xs e
  cases xs with
  | nil=>cases e
  | cons x r=>exact ih (fun r=>P (x::r)) (h x) r (Nat.succ.inj e)
theorem FnIn.p {K:Frag} {sc:Scope} {code:Value} {f:Addr} {names:List Str} {dflt:List (Str × Value)} {body:List Stmt} {name qual:Str} {params:Arguments} {oc:Value} {od:Option Addr} {osl:Array (Option Value)} {dV kV doc pm:Value} {an:Option Addr} {cdv ct:Value} (h:K.lookup f=some ⟨oc,od,.func (fnOf name qual params body sc dV kV doc pm an cdv ct),osl⟩) (hc:codeIn K cdv qual=true) (hv:code=.none∨cdv=code)
  (hb:∀ s:Shared,K.In s.heap→curry names.length fun xs=>BindsTo s (fnOf name qual params body sc dV kV doc pm an cdv ct) ⟨xs,[]⟩ (names.zip xs++dflt)):FnIn K sc code f names dflt body:=.mk h hc hv fun s X=>curry_all _ _ (hb s X)
noncomputable def fnL:List (Scope × Value × Addr × List Str × List (Str × Value) × List Stmt) :=
 (Γ5.scope,Γ5.code,34,["value"],[],bodyAt 5) ::
 (Γ6.scope,Γ6.code,41,["value"],[],bodyAt 6) ::
 (Γ8.scope,Γ8.code,26,["text"],[],bodyAt 2) ::
 (Γ29.scope,Γ29.code,613,["css","pos"],[],bodyAt 28) ::
 (Γ30.scope,Γ30.code,620,["css","pos"],[],bodyAt 29) ::
 (Γ31.scope,Γ31.code,628,["css"],[("skip_comments",.bool false)],bodyAt 30) ::
 (Γ32.scope,Γ32.code,635,["css","pos"],[],bodyAt 31) ::
 (Γ33.scope,Γ33.code,642,["css","pos"],[],bodyAt 32) ::
 (Γ34.scope,Γ34.code,649,["css","pos"],[],bodyAt 33) ::
 (Γ35.scope,Γ35.code,656,["css","pos"],[],bodyAt 34) ::
 (Γ36.scope,Γ36.code,663,["css","pos"],[],bodyAt 35) ::
 (Γ37.scope,Γ37.code,670,["css","pos"],[],bodyAt 36) ::
 (Γ38.scope,Γ38.code,677,["css","pos"],[],bodyAt 37) ::
 (Γ40.scope,Γ40.code,685,[],[],bodyAt 40) ::
 (Γ41.scope,Γ41.code,692,[],[],bodyAt 41) ::
 (Γ42.scope,Γ42.code,699,[],[],bodyAt 42) ::
 (Γ44.scope,Γ44.code,706,[],[],bodyAt 44) ::
 (Γ45.scope,Γ45.code,713,[],[],bodyAt 45) ::
 (Γ46.scope,Γ46.code,720,[],[],bodyAt 46) ::
 (Γ47.scope,Γ47.code,727,[],[],bodyAt 47) ::
 (Γ48.scope,Γ48.code,734,["tape"],[],bodyAt 48) ::
 (Γ49.scope,Γ49.code,741,["number","way","behind"],[],bodyAt 49) ::
 (Γ50.scope,Γ50.code,748,["sign","way","plain","behind"],[],bodyAt 50) ::
 (Γ51.scope,Γ51.code,755,["sign"],[],bodyAt 51) ::
 (Γ52.scope,Γ52.code,762,["text"],[],bodyAt 52) ::
 (Γ53.scope,Γ53.code,769,["signs","ways","place","behind"],[],bodyAt 53) ::
 (Γ54.scope,Γ54.code,776,["signs","ways","quote"],[],bodyAt 54) ::
 (Γ55.scope,Γ55.code,783,["signs","ways","n"],[],bodyAt 55) ::
 (Γ56.scope,Γ56.code,790,["text"],[],bodyAt 56) ::
 (Γ57.scope,Γ57.code,797,["nodes"],[],bodyAt 57) ::
 (ΓI9.scope,ΓI9.code,56,["self","source_line","source_column"],[],initB 8) ::
 (ΓI10.scope,ΓI10.code,93,["self","line","column","kind","message"],[],initB 9) ::
 (ΓI11.scope,ΓI11.code,123,["self","line","column","value"],[],initB 10) ::
 (ΓI12.scope,ΓI12.code,152,["self","line","column","value"],[],initB 11) ::
 (ΓI13.scope,ΓI13.code,181,["self","line","column","value"],[],initB 12) ::
 (ΓI14.scope,ΓI14.code,224,["self","line","column","value"],[],initB 13) ::
 (ΓI15.scope,ΓI15.code,254,["self","line","column","value"],[],initB 14) ::
 (ΓI16.scope,ΓI16.code,284,["self","line","column","value","is_identifier"],[],initB 15) ::
 (ΓI17.scope,ΓI17.code,314,["self","line","column","value","representation"],[],initB 16) ::
 (ΓI18.scope,ΓI18.code,344,["self","line","column","value","representation"],[],initB 17) ::
 (ΓI19.scope,ΓI19.code,374,["self","line","column","start","end"],[],initB 18) ::
 (ΓI20.scope,ΓI20.code,404,["self","line","column","value","int_value","representation"],[],initB 19) ::
 (ΓI21.scope,ΓI21.code,436,["self","line","column","value","int_value","representation"],[],initB 20) ::
 (ΓI22.scope,ΓI22.code,468,["self","line","column","value","int_value","representation","unit"],[],initB 21) ::
 (ΓI23.scope,ΓI23.code,502,["self","line","column","content"],[],initB 22) ::
 (ΓI24.scope,ΓI24.code,531,["self","line","column","content"],[],initB 23) ::
 (ΓI25.scope,ΓI25.code,560,["self","line","column","content"],[],initB 24) ::
 (ΓI26.scope,ΓI26.code,589,["self","line","column","name","arguments"],[],initB 25)::[]
structure KF (K:Frag):Prop where
 keepB:keepL.all (fun a=>keepIn K (.ref a))=true
 globB:globL.all (fun p=>nsIn K mainGlobals p.1==some (some p.2))=true
 bltB:bltL.all (fun p=>nsIn K mainGlobals p.1==some none)=true
 clsB:clsL.all (fun p=>makesIn K p.1&&(findIn K (.ref p.1) "__init__"==some (some (.ref p.2))&&isFn K (.ref p.2)))=true
 setB:setL.all (fun p=>setAt K p.1 p.2.1==some p.2.2)=true
 slotB:slotL.all (fun p=>slotAt K p.1 p.2.1==some p.2.2)=true
 typB:typL.all (fun p=>clsAtN K p.1 "type"==some p.2)=true
 cm:clsFn K 74 "__init__"=some 56
 no:noTabs K=true
 rep:KTD.tabLook (KTD.datLooks fun b=>K.lookup b) (fun b=>K.lookup b) 27 repTab=true
 dig:∃ (xs:List Value) (n:Nat),K.lookup 606=some (tupOf xs.toArray n)∧∀ M,IsAll M xs digTab
 sig:∃ (xs:List Value) (n:Nat),K.lookup 678=some (listOf xs.toArray n)∧∀ M,IsAll M xs sigTab
 fn:∀ e∈fnL,FnIn K e.1 e.2.1 e.2.2.1 e.2.2.2.1 e.2.2.2.2.1 e.2.2.2.2.2
theorem KF.at {K:Frag} (hK:KF K) (k:Nat) {sc:Scope} {code:Value} {f:Addr} {ns:List Str} {df:List (Str × Value)} {bd:List Stmt} (h:fnL[k]?=some (sc,code,f,ns,df,bd)):FnIn K sc code f ns df bd:=hK.fn _ (List.mem_of_getElem? h)
theorem all_at {α:Type} {l:List α} {p:α→Bool} (h:l.all p=true) {k:Nat} {x:α} (e:l[k]?=some x):p x=true:=List.all_eq_true.mp h x (List.mem_of_getElem? e)
section
variable {K:Frag} (hK:KF K)
include hK
theorem KF.keepE {a:Addr} (e:keepL.contains a=true):keepIn K (.ref a)=true:=List.all_eq_true.mp hK.keepB a (List.contains_iff_mem.mp e)
theorem KF.cls (k:Nat) {C f:Addr} (e:clsL[k]?=some (C,f)):makesIn K C=true∧findIn K (.ref C) "__init__"=some (some (.ref f))∧isFn K (.ref f)=true:=by
 have h:=all_at hK.clsB e
 rw [Bool.and_eq_true,Bool.and_eq_true,beq_iff_eq] at h
 exact h
theorem KF.set (k:Nat) {C:Addr} {x:Str} {i:Nat} (e:setL[k]?=some (C,x,i)):setAt K C x=some i:=beq_iff_eq.mp (all_at hK.setB e)
theorem KF.slot (k:Nat) {C:Addr} {x:Str} {i:Nat} (e:slotL[k]?=some (C,x,i)):slotAt K C x=some i:=beq_iff_eq.mp (all_at hK.slotB e)
theorem KF.typ (k:Nat) {C:Addr} {v:Value} (e:typL[k]?=some (C,v)):clsAtN K C "type"=some v:=beq_iff_eq.mp (all_at hK.typB e)
end
noncomputable def pickG:List (Bool × Nat)→List (Str × Value)
 | []=>[]
 | (b,k)::r=>(if b then bltL.getD k ("len",.builtin "len") else globL.getD k ("Node",.ref 74))::pickG r
noncomputable abbrev IsGl (mg mb:Str→Option Value) (p:Str × Value):Prop:=mg p.1=some p.2∨(mg p.1=none∧mb p.1=some p.2)
theorem blt_boot:bltL.all (fun p=>!(p.1=="__name__")&&bootBuiltins p.1==some p.2)=true:=by kernel_rfl
theorem KF.gl {K:Frag} (hK:KF K) {h:Heap} (X:K.In h) {p:Program} {loose:List Str} {mean:ExcName→Option Value} {mg mb:Str→Option Value} (T:Top p loose mean mg mb h) {x:Str × Value} (e:x∈globL∨x∈bltL):IsGl mg mb x:=by
 rcases e with e | e
 ·exact .inl (mg_of X T.g (beq_iff_eq.mp (List.all_eq_true.mp hK.globB x e)))
 ·have q:=List.all_eq_true.mp blt_boot x e
  rw [Bool.and_eq_true,beq_iff_eq,Bool.not_eq_true',beq_eq_false_iff_ne] at q
  exact .inr ⟨mg_none_of X T.g (beq_iff_eq.mp (List.all_eq_true.mp hK.bltB x e)),by rw [T.builtins x.1 q.1,q.2]⟩
theorem KF.pick {K:Frag} (hK:KF K) {h:Heap} (X:K.In h) {p:Program} {loose:List Str} {mean:ExcName→Option Value} {mg mb:Str→Option Value} (T:Top p loose mean mg mb h) (ks:List (Bool × Nat)):∀ x∈pickG ks,IsGl mg mb x:=by
 have hg:∀ (l:List (Str × Value)) (d:Str × Value) (k:Nat),d∈l→l.getD k d∈l:=fun l d k hd=>by
  rw [List.getD_eq_getElem?_getD]
  cases q:l[k]? with
  | none=>exact hd
  | some y=>exact List.mem_of_getElem? q
 induction ks with
 | nil=>intro x hx; cases hx
 | cons b r ih =>
  refine fm ⟨?_,ih⟩
  obtain ⟨b,k⟩:=b
  cases b with
  | true=>exact hK.gl X T (.inr (hg _ _ _ (List.mem_of_getElem? (i:=1) rfl)))
  | false=>exact hK.gl X T (.inl (hg _ _ _ (List.mem_of_getElem? (i:=39) rfl)))
structure GG (w:World) (g:Gx):Prop where
 hK:KF g.K
 hw:g.w=w
 hprog:g.prog=Prg
 ok:g.Ok
 codes:CodeAll [((33:Addr),(29:Addr)),(40,36)] g.B
theorem GG.pick {w:World} {g:Gx} (G:GG w g) (ks:List (Bool × Nat)):∀ x∈pickG ks,IsGl g.mg g.mb x:=G.hK.pick G.ok.kin G.ok.top ks
noncomputable def glSc (sc:Scope) (globs:List (Str × Value)):Bool:=globs.all fun p=>sc.names.lookup p.1==some .globalImplicit&&!(p.1=="__debug__")
noncomputable def scB (sc:Scope) (ns:List Str) (globs:List (Str × Value)):Bool :=
 !sc.isCoroutine&&(!sc.isGenerator&&(decide (sc.kind=.function)&&(sc.names.all (fun x=>decide (x.2≠.cell))&&(decide ns.Nodup&&(ns.all (fun x=>sc.names.lookup x==some .local&&!(x=="__debug__"))&&glSc sc globs)))))
theorem globs_of {mg mb:Str→Option Value} {sc:Scope} {globs:List (Str × Value)} (h:glSc sc globs=true) (hg:∀ x∈globs,IsGl mg mb x):∀ p∈globs,sc.names.lookup p.1=some .globalImplicit∧(p.1==("__debug__":Str))=false∧(mg p.1=some p.2∨(mg p.1=none∧mb p.1=some p.2)):=fun p hp=>by
 have q:=List.all_eq_true.mp h p hp
 rw [Bool.and_eq_true,beq_iff_eq,Bool.not_eq_true'] at q
 exact ⟨q.1,q.2,hg p hp⟩
theorem DefOk.of {g:Gx} {sc:Scope} {globs:List (Str × Value)} {code:Value} {f:Addr} {names keys:List Str} {dflt:List (Str × Value)} {body:List Stmt} (hf:FnIn g.K sc code f names dflt body) (hs:scB sc (names++dflt.map (·.1)++keys) globs=true) (hg:∀ x∈globs,IsGl g.mg g.mb x) :
  DefOk g { scope:=sc,globs:=globs,code:=code } f names dflt keys body:=by
 unfold scB at hs
 simp only [Bool.and_eq_true,Bool.not_eq_true',decide_eq_true_eq,List.all_eq_true,beq_iff_eq] at hs
 obtain ⟨h1,h2,h3,h4,h5,h6,h7⟩:=hs
 exact ⟨hf,⟨h1,h2,h3,h4⟩,⟨h5,h6⟩,globs_of h7 hg,rfl⟩
section
variable {w:World} {g:Gx} (G:GG w g)
include G
theorem D5:DefOk g Γ5 34 ["value"] [] [] (bodyAt 5):=.of (G.hK.at 0 rfl) (by decide +kernel) (G.pick [])
theorem D6:DefOk g Γ6 41 ["value"] [] [] (bodyAt 6):=.of (G.hK.at 1 rfl) (by decide +kernel) (G.pick [])
theorem D8:DefOk g Γ8 26 ["text"] [] [] (bodyAt 2):=.of (G.hK.at 2 rfl) (by decide +kernel) (G.pick [])
theorem D29:DefOk g Γ29 613 ["css","pos"] [] ["end","start","plain","power"] (bodyAt 28):=.of (G.hK.at 3 rfl) (by decide +kernel) (G.pick [(false,1)])
theorem D30:DefOk g Γ30 620 ["css","pos"] [] ["end"] (bodyAt 29):=.of (G.hK.at 4 rfl) (by decide +kernel) (G.pick [])
theorem D31:DefOk g Γ31 628 ["css"] [("skip_comments",.bool false)] ["length","token_start_pos","pos","line","last_newline","root","tokens","end_char","stack","newline","column","c","value","start","end","is_url","url_pos","error","repr","error_key","arguments","plain","repr_","int_value","unit","is_identifier","content"] (bodyAt 30):=.of (G.hK.at 5 rfl) (by decide +kernel) (G.pick [(true,0),(true,1),(false,2),(false,3),(false,4),(false,5),(false,6),(false,7),(false,8),(false,9),(false,10),(true,2),(false,11),(false,12),(false,13),(false,14),(false,15),(false,16),(false,17),(false,18),(false,19),(false,20),(false,21),(false,22),(false,23),(false,24),(false,25),(false,26),(false,27)])
theorem D32:DefOk g Γ32 635 ["css","pos"] [] ["c"] (bodyAt 31):=.of (G.hK.at 6 rfl) (by decide +kernel) (G.pick [(true,0)])
theorem D33:DefOk g Γ33 642 ["css","pos"] [] [] (bodyAt 32):=.of (G.hK.at 7 rfl) (by decide +kernel) (G.pick [(false,28),(true,1)])
theorem D34:DefOk g Γ34 649 ["css","pos"] [] ["chunks","length","start_pos","c"] (bodyAt 33):=.of (G.hK.at 8 rfl) (by decide +kernel) (G.pick [(true,1),(true,0),(false,29)])
theorem D35:DefOk g Γ35 656 ["css","pos"] [] ["error","quote","chunks","length","start_pos","c"] (bodyAt 34):=.of (G.hK.at 9 rfl) (by decide +kernel) (G.pick [(true,1),(false,29)])
theorem D36:DefOk g Γ36 663 ["css","pos"] [] ["end","codepoint"] (bodyAt 35):=.of (G.hK.at 10 rfl) (by decide +kernel) (G.pick [(false,30),(true,2),(true,3),(true,1)])
theorem D37:DefOk g Γ37 670 ["css","pos"] [] ["error","length","c","value","chunks","start_pos"] (bodyAt 36):=.of (G.hK.at 11 rfl) (by decide +kernel) (G.pick [(true,1),(false,6),(false,29)])
theorem D38:DefOk g Γ38 677 ["css","pos"] [] ["length","start_pos","max_pos","start","question_marks","end"] (bodyAt 37):=.of (G.hK.at 12 rfl) (by decide +kernel) (G.pick [(true,1),(true,4),(true,2)])
theorem D40:DefOk g Γ40 685 [] [] [] (bodyAt 40):=.of (G.hK.at 13 rfl) (by decide +kernel) (G.pick [])
theorem D41:DefOk g Γ41 692 [] [] [] (bodyAt 41):=.of (G.hK.at 14 rfl) (by decide +kernel) (G.pick [])
theorem D42:DefOk g Γ42 699 [] [] [] (bodyAt 42):=.of (G.hK.at 15 rfl) (by decide +kernel) (G.pick [])
theorem D44:DefOk g Γ44 706 [] [] [] (bodyAt 44):=.of (G.hK.at 16 rfl) (by decide +kernel) (G.pick [])
theorem D45:DefOk g Γ45 713 [] [] [] (bodyAt 45):=.of (G.hK.at 17 rfl) (by decide +kernel) (G.pick [])
theorem D46:DefOk g Γ46 720 [] [] [] (bodyAt 46):=.of (G.hK.at 18 rfl) (by decide +kernel) (G.pick [])
theorem D47:DefOk g Γ47 727 [] [] [] (bodyAt 47):=.of (G.hK.at 19 rfl) (by decide +kernel) (G.pick [])
theorem D48:DefOk g Γ48 734 ["tape"] [] [] (bodyAt 48):=.of (G.hK.at 20 rfl) (by decide +kernel) (G.pick [])
theorem D49:DefOk g Γ49 741 ["number","way","behind"] [] ["table","figures","tail"] (bodyAt 49):=.of (G.hK.at 21 rfl) (by decide +kernel) (G.pick [(true,1),(false,34),(false,33),(false,35)])
theorem D50:DefOk g Γ50 748 ["sign","way","plain","behind"] [] [] (bodyAt 50):=.of (G.hK.at 22 rfl) (by decide +kernel) (G.pick [(false,35),(false,32),(false,44),(true,0)])
theorem D51:DefOk g Γ51 755 ["sign"] [] [] (bodyAt 51):=.of (G.hK.at 23 rfl) (by decide +kernel) (G.pick [])
theorem D52:DefOk g Γ52 762 ["text"] [] [] (bodyAt 52):=.of (G.hK.at 24 rfl) (by decide +kernel) (G.pick [(false,46)])
theorem D53:DefOk g Γ53 769 ["signs","ways","place","behind"] [] ["text","i","plain"] (bodyAt 53):=.of (G.hK.at 25 rfl) (by decide +kernel) (G.pick [(true,5),(true,1),(false,46),(false,47),(false,45)])
theorem D54:DefOk g Γ54 776 ["signs","ways","quote"] [] ["text","i","plain"] (bodyAt 54):=.of (G.hK.at 26 rfl) (by decide +kernel) (G.pick [(true,5),(true,1),(false,32),(false,45)])
theorem D55:DefOk g Γ55 783 ["signs","ways","n"] [] ["text","i","plain"] (bodyAt 55):=.of (G.hK.at 27 rfl) (by decide +kernel) (G.pick [(false,41),(true,5),(true,1),(false,45),(false,42)])
theorem D56:DefOk g Γ56 790 ["text"] [] ["places","line","column","before","c"] (bodyAt 56):=.of (G.hK.at 28 rfl) (by decide +kernel) (G.pick [])
theorem D57:DefOk g Γ57 797 ["nodes"] [] ["rows","node","kind","told"] (bodyAt 57):=.of (G.hK.at 29 rfl) (by decide +kernel) (G.pick [(true,1)])
theorem DI9:DefOk g ΓI9 56 ["self","source_line","source_column"] [] [] (initB 8):=.of (G.hK.at 30 rfl) (by decide +kernel) (G.pick [])
theorem DI10:DefOk g ΓI10 93 ["self","line","column","kind","message"] [] [] (initB 9):=.of (G.hK.at 31 rfl) (by decide +kernel) (G.pick [(false,39)])
theorem DI11:DefOk g ΓI11 123 ["self","line","column","value"] [] [] (initB 10):=.of (G.hK.at 32 rfl) (by decide +kernel) (G.pick [(false,39)])
theorem DI12:DefOk g ΓI12 152 ["self","line","column","value"] [] [] (initB 11):=.of (G.hK.at 33 rfl) (by decide +kernel) (G.pick [(false,39)])
theorem DI13:DefOk g ΓI13 181 ["self","line","column","value"] [] [] (initB 12):=.of (G.hK.at 34 rfl) (by decide +kernel) (G.pick [(false,39)])
theorem DI14:DefOk g ΓI14 224 ["self","line","column","value"] [] [] (initB 13):=.of (G.hK.at 35 rfl) (by decide +kernel) (G.pick [(false,39),(false,8)])
theorem DI15:DefOk g ΓI15 254 ["self","line","column","value"] [] [] (initB 14):=.of (G.hK.at 36 rfl) (by decide +kernel) (G.pick [(false,39),(false,8)])
theorem DI16:DefOk g ΓI16 284 ["self","line","column","value","is_identifier"] [] [] (initB 15):=.of (G.hK.at 37 rfl) (by decide +kernel) (G.pick [(false,39)])
theorem DI17:DefOk g ΓI17 314 ["self","line","column","value","representation"] [] [] (initB 16):=.of (G.hK.at 38 rfl) (by decide +kernel) (G.pick [(false,39)])
theorem DI18:DefOk g ΓI18 344 ["self","line","column","value","representation"] [] [] (initB 17):=.of (G.hK.at 39 rfl) (by decide +kernel) (G.pick [(false,39)])
theorem DI19:DefOk g ΓI19 374 ["self","line","column","start","end"] [] [] (initB 18):=.of (G.hK.at 40 rfl) (by decide +kernel) (G.pick [(false,39)])
theorem DI20:DefOk g ΓI20 404 ["self","line","column","value","int_value","representation"] [] [] (initB 19):=.of (G.hK.at 41 rfl) (by decide +kernel) (G.pick [(false,39)])
theorem DI21:DefOk g ΓI21 436 ["self","line","column","value","int_value","representation"] [] [] (initB 20):=.of (G.hK.at 42 rfl) (by decide +kernel) (G.pick [(false,39)])
theorem DI22:DefOk g ΓI22 468 ["self","line","column","value","int_value","representation","unit"] [] [] (initB 21):=.of (G.hK.at 43 rfl) (by decide +kernel) (G.pick [(false,39),(false,8)])
theorem DI23:DefOk g ΓI23 502 ["self","line","column","content"] [] [] (initB 22):=.of (G.hK.at 44 rfl) (by decide +kernel) (G.pick [(false,39)])
theorem DI24:DefOk g ΓI24 531 ["self","line","column","content"] [] [] (initB 23):=.of (G.hK.at 45 rfl) (by decide +kernel) (G.pick [(false,39)])
theorem DI25:DefOk g ΓI25 560 ["self","line","column","content"] [] [] (initB 24):=.of (G.hK.at 46 rfl) (by decide +kernel) (G.pick [(false,39)])
theorem DI26:DefOk g ΓI26 589 ["self","line","column","name","arguments"] [] [] (initB 25):=.of (G.hK.at 47 rfl) (by decide +kernel) (G.pick [(false,39),(false,8)])
end
end
set_option genSizeOf false
set_option compiler.extract_closed false
section
variable {α:Type} {p0 p1 p2 p3 p4 p5 p6 p7:α} {p:α} {r:List α}
theorem me0:p∈p::r:=.head _
theorem me1:p∈p0::p::r:=.tail _ me0
theorem me2:p∈p0::p1::p::r:=.tail _ me1
theorem me3:p∈p0::p1::p2::p::r:=.tail _ me2
theorem me4:p∈p0::p1::p2::p3::p::r:=.tail _ me3
theorem me5:p∈p0::p1::p2::p3::p4::p::r:=.tail _ me4
theorem me6:p∈p0::p1::p2::p3::p4::p5::p::r:=.tail _ me5
theorem me7:p∈p0::p1::p2::p3::p4::p5::p6::p::r:=.tail _ me6
theorem me8 (h:p∈r):p∈p0::p1::p2::p3::p4::p5::p6::p7::r:=.tail _ (.tail _ (.tail _ (.tail _ (.tail _ (.tail _ (.tail _ (.tail _ (h))))))))
end
section
variable {p0 p1 p2 p3 p4 p5 p6 p7:Str × V} {x:Str} {u v:V} {r:Loc} {k:Loc→Prop}
theorem pk0 (h:k ((x,v)::r)):PutK x v ((x,u)::r) k:=⟨_,.here,h⟩
theorem pk1 (h:k (p0::(x,v)::r)):PutK x v (p0::(x,u)::r) k:=(pk0 (k:=fun l=>k (p0::l)) h).elim fun _ q=>⟨_,.there q.1,q.2⟩
theorem pk2 (h:k (p0::p1::(x,v)::r)):PutK x v (p0::p1::(x,u)::r) k:=(pk1 (k:=fun l=>k (p0::l)) h).elim fun _ q=>⟨_,.there q.1,q.2⟩
theorem pk3 (h:k (p0::p1::p2::(x,v)::r)):PutK x v (p0::p1::p2::(x,u)::r) k:=(pk2 (k:=fun l=>k (p0::l)) h).elim fun _ q=>⟨_,.there q.1,q.2⟩
theorem pk4 (h:k (p0::p1::p2::p3::(x,v)::r)):PutK x v (p0::p1::p2::p3::(x,u)::r) k:=(pk3 (k:=fun l=>k (p0::l)) h).elim fun _ q=>⟨_,.there q.1,q.2⟩
theorem pk5 (h:k (p0::p1::p2::p3::p4::(x,v)::r)):PutK x v (p0::p1::p2::p3::p4::(x,u)::r) k:=(pk4 (k:=fun l=>k (p0::l)) h).elim fun _ q=>⟨_,.there q.1,q.2⟩
theorem pk6 (h:k (p0::p1::p2::p3::p4::p5::(x,v)::r)):PutK x v (p0::p1::p2::p3::p4::p5::(x,u)::r) k:=(pk5 (k:=fun l=>k (p0::l)) h).elim fun _ q=>⟨_,.there q.1,q.2⟩
theorem pk7 (h:k (p0::p1::p2::p3::p4::p5::p6::(x,v)::r)):PutK x v (p0::p1::p2::p3::p4::p5::p6::(x,u)::r) k:=(pk6 (k:=fun l=>k (p0::l)) h).elim fun _ q=>⟨_,.there q.1,q.2⟩
noncomputable abbrev KP8 (p0 p1 p2 p3 p4 p5 p6 p7:Str × V) (k:Loc→Prop):Loc→Prop:=fun l=>k (p0::p1::p2::p3::p4::p5::p6::p7::l)
theorem pk8 (h:PutK x v r (KP8 p0 p1 p2 p3 p4 p5 p6 p7 k)):PutK x v (p0::p1::p2::p3::p4::p5::p6::p7::r) k:=h.elim fun _ q=>⟨_,.there (.there (.there (.there (.there (.there (.there (.there (q.1)))))))),q.2⟩
end
noncomputable def V.isSet:V→Bool
 | .unset=>false
 | _=>true
theorem V.set_ne {v:V} (h:v.isSet=true):v≠.unset:=fun e=>by subst e; exact nomatch h
theorem V.ne_set {v:V} (h:v≠.unset):v.isSet=true:=by cases v <;> first | rfl | exact absurd rfl h
theorem SubM.str {s:List Nat} {i n:Nat} {k:V→Prop} (h:s[i]?=some n) (hl:s.length < 2 ^ 62) (q:k (.str [n])):SubM (.str s) (.int (i:Int)) k:=by
 have hi:i < s.length:=(List.getElem?_eq_some_iff.mp h).1
 refine ⟨_,.str ⟨by (first | lia | omega),by (first | lia | omega)⟩ ?_,q⟩
 unfold seqIndex?
 have h0:¬ (i:Int) < 0:=by (first | lia | omega)
 have:=(List.getElem?_eq_some_iff.mp h).2
 simp [h0,hi,this]
theorem beq_one (a b:Nat):(([a]:List Nat)==[b])=(a==b):=by simp
section
variable {i j:Int} {x y:List Nat} {vs:List V} {k:Bool→Prop} {q:V→Prop}
theorem cm7 (h:k (x==y)):CmpM .Eq (.str x) (.str y) k:=⟨_,.seq x y,h⟩
theorem cm10 (h:k false):CmpM .Eq (.str x) .none k:=⟨_,.sno x,h⟩
theorem cm13 (h:k (vs.any (eqStr x))) (e:allStr vs=true):CmpM .In (.str x) (.tup vs) k:=⟨_,.tin x e,h⟩
theorem cm15 (h:k true):CmpM .Is .none .none k:=⟨_,.isn,h⟩
theorem cm16 (h:k false):CmpM .Is (.int i) .none k:=⟨_,.ano (.int i),h⟩
theorem cm17 (h:k false):CmpM .Is (.str x) .none k:=⟨_,.ano (.str x),h⟩
theorem cm18 (h:k false):CmpM .Is (.tup vs) .none k:=⟨_,.ano (.tup vs),h⟩
theorem cm19 (h:k false):CmpM .IsNot .none .none k:=⟨_,.isnn,h⟩
theorem cm20 (h:k true):CmpM .IsNot (.int i) .none k:=⟨_,.anno (.int i),h⟩
theorem cm21 (h:k true):CmpM .IsNot (.str x) .none k:=⟨_,.anno (.str x),h⟩
theorem cm22 (h:k true):CmpM .IsNot (.tup vs) .none k:=⟨_,.anno (.tup vs),h⟩
theorem bm2 (h:q (.int (i - j))):BinM .Sub (.int i) (.int j) q:=⟨_,.isub i j,h⟩
theorem bm3 (h:q (.str (x++y))) (e:x.length+y.length≤sizeLine):BinM .Add (.str x) (.str y) q:=⟨_,.sadd e,h⟩
theorem bm4 (h:q (.int (i.fmod j))) (e:j≠0):BinM .Mod (.int i) (.int j) q:=⟨_,.imod i e,h⟩
theorem bmN {a b:Nat} (h:q (.int ((a+b:Nat):Int))):BinM .Add (.int (a:Int)) (.int (b:Int)) q:=⟨_,.iadd _ _,h⟩
theorem tm2 {b:Bool} (h:k b):TrueM (.bool b) k:=⟨_,.bool b,h⟩
end
theorem exS {s:List Nat} {P:List Nat→Prop} (h:P s):∃ x,V.str s=V.str x∧P x:=⟨s,rfl,h⟩
theorem lt62 {n:Nat} (h:n≤1000000):n < 2 ^ 62:=by (first | lia | omega)
theorem leSize {n:Nat} (h:n≤1000000):n≤sizeLine:=by rw [sizeLine_eq]; (first | lia | omega)
noncomputable def TupK (vs:List V) (k:V→Prop):Prop:=vs.length≤1000∧k (.tup vs)
theorem tk {vs:List V} {k:V→Prop} (h:k (.tup vs)) (e:vs.length≤1000):TupK vs k:=⟨e,h⟩
section
noncomputable abbrev IsB (b:Bool) (H:AH):V→AH→Prop:=fun v H₁=>v=.bool b∧H₁=H
noncomputable abbrev IsT (b:Bool) (H:AH):Bool→AH→Prop:=fun v H₁=>v=b∧H₁=H
noncomputable abbrev IsV (v:V) (H:AH):V→AH→Prop:=fun v' H₁=>v'=v∧H₁=H
noncomputable abbrev KV (Q:V→AH→Prop) (H:AH):V→Prop:=fun v=>Q v H
noncomputable abbrev KT (Q:Bool→AH→Prop) (H:AH):Bool→Prop:=fun v=>Q v H
noncomputable abbrev KB (Q:V→AH→Prop) (H:AH):Bool→Prop:=fun v=>Q (.bool v) H
noncomputable abbrev KPut (Q:R→Loc→AH→Prop) (H:AH):Loc→Prop:=fun lo'=>Q .next lo' H
noncomputable abbrev KAsg (x:Str) (lo:Loc) (Q:R→Loc→AH→Prop):V→AH→Prop:=fun v H=>PutK x v lo (KPut Q H)
noncomputable abbrev KPut2 (y:Str) (v:V) (Q:R→Loc→AH→Prop) (H:AH):Loc→Prop:=fun lo'=>PutK y v lo' (KPut Q H)
noncomputable abbrev KAsg2 (x y:Str) (lo:Loc) (Q:R→Loc→AH→Prop):V→AH→Prop:=fun v H=>PutK x v lo (KPut2 y v Q H)
noncomputable abbrev KAug1 (x:Str) (lo:Loc) (Q:R→Loc→AH→Prop) (H:AH):V→Prop:=fun r=>PutK x r lo (KPut Q H)
noncomputable abbrev KAug (v:V) (x:Str) (lo:Loc) (Q:R→Loc→AH→Prop):V→AH→Prop:=fun w H=>BinM .Add v w (KAug1 x lo Q H)
noncomputable abbrev KRet (lo:Loc) (Q:R→Loc→AH→Prop):V→AH→Prop:=fun v H=>Q (.ret v) lo H
noncomputable abbrev KExp (lo:Loc) (Q:R→Loc→AH→Prop):V→AH→Prop:=fun _ H=>Q .next lo H
noncomputable abbrev KAss (lo:Loc) (Q:R→Loc→AH→Prop):Bool→AH→Prop:=fun b H=>b=true∧Q .next lo H
noncomputable abbrev KNot (Q:Bool→AH→Prop):Bool→AH→Prop:=fun b H=>Q (!b) H
noncomputable abbrev KENot1 (Q:V→AH→Prop) (H:AH):Bool→Prop:=fun b=>Q (.bool !b) H
noncomputable abbrev KENot (Q:V→AH→Prop):V→AH→Prop:=fun v H=>TrueM v (KENot1 Q H)
noncomputable abbrev KTof (Q:Bool→AH→Prop):V→AH→Prop:=fun v H=>TrueM v (KT Q H)
noncomputable abbrev KCmp2 (op:CmpOp) (a:V) (Q:V→AH→Prop):V→AH→Prop:=fun b H=>CmpM op a b (KB Q H)
noncomputable abbrev KTc2 (op:CmpOp) (a:V) (Q:Bool→AH→Prop):V→AH→Prop:=fun b H=>CmpM op a b (KT Q H)
noncomputable abbrev KBin2 (op:Operator) (a:V) (Q:V→AH→Prop):V→AH→Prop:=fun b H=>BinM op a b (KV Q H)
noncomputable abbrev KSub2 (a:V) (Q:V→AH→Prop):V→AH→Prop:=fun b H=>SubM a b (KV Q H)
noncomputable abbrev KSl3 (a:V) (l:Option Int) (Q:V→AH→Prop):Option Int→AH→Prop:=fun u H=>SliM a l u (KV Q H)
noncomputable abbrev KO (k:Option Int→AH→Prop) (H:AH):Option Int→Prop:=fun o=>k o H
noncomputable abbrev KPart (k:Option Int→AH→Prop):V→AH→Prop:=fun v H=>PartK v (KO k H)
noncomputable abbrev KEs2 (v:V) (Q:List V→AH→Prop):List V→AH→Prop:=fun vs H=>Q (v::vs) H
noncomputable abbrev KTup (Q:V→AH→Prop):List V→AH→Prop:=fun vs H=>TupK vs (KV Q H)
noncomputable abbrev KUnp (xs:List Str) (lo:Loc) (Q:R→Loc→AH→Prop):V→AH→Prop:=fun v H=>UnpK v xs lo (KPut Q H)
noncomputable abbrev KPa (xs:List Str) (vs:List V) (k:Loc→Prop):Loc→Prop:=fun lo'=>PutAll xs vs lo' k
noncomputable abbrev KNeg (Q:V→AH→Prop):V→AH→Prop:=fun v H=>∃ i,v=.int i∧Q (.int (-i)) H
variable (g:Gx) (Γ:Fx) (d:Nat)
noncomputable abbrev KSs (rest:List Stmt) (Q:R→Loc→AH→Prop):R→Loc→AH→Prop:=fun r lo H=>match r with
 | .next=>Ss g Γ d rest lo H Q
 | r=>Q r lo H
noncomputable abbrev KIf (a b:List Stmt) (lo:Loc) (Q:R→Loc→AH→Prop):Bool→AH→Prop:=fun t H=>if t then Ss g Γ d a lo H Q else Ss g Γ d b lo H Q
noncomputable abbrev KIfe (a b:Expr) (lo:Loc) (Q:V→AH→Prop):Bool→AH→Prop:=fun t H=>if t then E g Γ d a lo H Q else E g Γ d b lo H Q
noncomputable abbrev KAnd (rest:List Expr) (pos:Pos) (lo:Loc) (Q:Bool→AH→Prop):Bool→AH→Prop:=fun t H=>if t then T g Γ d (.BoolOp .And rest pos) lo H Q else Q false H
noncomputable abbrev KCmp (op:CmpOp) (r:Expr) (lo:Loc) (Q:V→AH→Prop):V→AH→Prop:=fun a H=>E g Γ d r lo H (KCmp2 op a Q)
noncomputable abbrev KTc (op:CmpOp) (r:Expr) (lo:Loc) (Q:Bool→AH→Prop):V→AH→Prop:=fun a H=>E g Γ d r lo H (KTc2 op a Q)
noncomputable abbrev KBin (op:Operator) (r:Expr) (lo:Loc) (Q:V→AH→Prop):V→AH→Prop:=fun a H=>E g Γ d r lo H (KBin2 op a Q)
noncomputable abbrev KSub (r:Expr) (lo:Loc) (Q:V→AH→Prop):V→AH→Prop:=fun a H=>E g Γ d r lo H (KSub2 a Q)
noncomputable abbrev KSl2 (u:Option Expr) (lo:Loc) (a:V) (Q:V→AH→Prop):Option Int→AH→Prop:=fun l H=>Part g Γ d u lo H (KSl3 a l Q)
noncomputable abbrev KSl (l u:Option Expr) (lo:Loc) (Q:V→AH→Prop):V→AH→Prop:=fun a H=>Part g Γ d l lo H (KSl2 g Γ d u lo a Q)
noncomputable abbrev KEs (rest:List Expr) (lo:Loc) (Q:List V→AH→Prop):V→AH→Prop:=fun v H=>Es g Γ d rest lo H (KEs2 v Q)
noncomputable abbrev KCB (f:Value) (Q:V→AH→Prop):List V→AH→Prop:=fun vs H=>CallB g d f vs H Q
noncomputable abbrev KCl (f:Value) (Q:V→AH→Prop):List V→AH→Prop:=fun vs H=>Call g d f vs H Q
noncomputable abbrev KM2 (id:String) (x:List Nat) (Q:V→AH→Prop):List V→AH→Prop:=fun vs H=>CallB g d (.builtin id) (.str x::vs) H Q
noncomputable abbrev KMeth (id:String) (args:List Expr) (lo:Loc) (Q:V→AH→Prop):V→AH→Prop:=fun ov H=>∃ x,ov=.str x∧Es g Γ d args lo H (KM2 g d id x Q)
end
section
variable {g:Gx} {Γ:Fx} {d:Nat} {lo:Loc} {H:AH}
theorem Ss.consK {st:Stmt} {rest:List Stmt} {Q:R→Loc→AH→Prop} (h:S g Γ d st lo H (KSs g Γ d rest Q)):Ss g Γ d (st::rest) lo H Q:=Ss.cons h
theorem S.assignK {x:Str} {pos' pos:Pos} {value:Expr} {Q:R→Loc→AH→Prop} (h:E g Γ d value lo H (KAsg x lo Q)) (hs:∀ env,pure false=swapsWith value (some (.Name x pos')) pos.line env):S g Γ d (.Assign [.Name x pos'] value pos) lo H Q:=S.assign h fun env=>(hs env).symm
theorem S.augK {x:Str} {pos' pos:Pos} {value:Expr} {v:V} {Q:R→Loc→AH→Prop} (h:E g Γ d value lo H (KAug v x lo Q)) (hm:(x,v)∈lo) (hv:v.isSet=true):S g Γ d (.AugAssign (.Name x pos') .Add value pos) lo H Q:=S.aug hm (V.set_ne hv) (h.mono fun _ _ q=>⟨rfl,q⟩)
theorem S.retK {e:Expr} {pos:Pos} {Q:R→Loc→AH→Prop} (h:E g Γ d e lo H (KRet lo Q)):S g Γ d (.Return (some e) pos) lo H Q:=S.ret h
theorem S.exprK {e:Expr} {pos:Pos} {Q:R→Loc→AH→Prop} (h:E g Γ d e lo H (KExp lo Q)) (hs:∀ env,pure false=swapsWith e none pos.line env):S g Γ d (.Expr e pos) lo H Q:=S.expr h fun env=>(hs env).symm
theorem S.assertK {test:Expr} {msg:Option Expr} {pos:Pos} {Q:R→Loc→AH→Prop} (h:T g Γ d test lo H (KAss lo Q)):S g Γ d (.Assert test msg pos) lo H Q:=S.assert h
theorem S.tryK {body orelse:List Stmt} {h₀:ExceptHandler} {hs:List ExceptHandler} {pos:Pos} {Q:R→Loc→AH→Prop} (h:Ss g Γ d body lo H (KSs g Γ d orelse Q)):S g Γ d (.Try body (h₀::hs) orelse [] pos) lo H Q:=S.try_ h
theorem S.ifK {test:Expr} {body orelse:List Stmt} {pos:Pos} {Q:R→Loc→AH→Prop} (h:T g Γ d test lo H (KIf g Γ d body orelse lo Q)):S g Γ d (.If test body orelse pos) lo H Q:=S.if_ h
theorem S.twoK {x y:Str} {px py pos:Pos} {value:Expr} {Q:R→Loc→AH→Prop} (h:E g Γ d value lo H (KAsg2 x y lo Q)) (hw:∀ env,pure none=swappedStores [Expr.Name x px,Expr.Name y py] value env):S g Γ d (.Assign [.Name x px,.Name y py] value pos) lo H Q:=S.two h fun env=>(hw env).symm
theorem T.ofK {e:Expr} {Q:Bool→AH→Prop} (h:E g Γ d e lo H (KTof Q)) (he:∀ env,(do let v ← eval e env; standAt e.pos; holding [v] (truthy v))=isTrue e env (eval e env)):T g Γ d e lo H Q:=T.of h fun env=>(he env).symm
theorem E.locK {x:Str} {pos:Pos} {v:V} {Q:V→AH→Prop} (h:Q v H) (hm:(x,v)∈lo) (hv:v.isSet=true):E g Γ d (.Name x pos) lo H Q:=E.loc hm (V.set_ne hv) h
theorem E.tupKK {elts:List Expr} {n:Nat} {pos:Pos} {Q:V→AH→Prop} (h:Es g Γ d elts lo H (KTup Q)):E g Γ d (.Tuple elts n pos) lo H Q:=E.tup h
theorem E.cmpK {l r:Expr} {op:CmpOp} {pos:Pos} {Q:V→AH→Prop} (h:E g Γ d l lo H (KCmp g Γ d op r lo Q)) (hm:false=behindInMarks op r):E g Γ d (.Compare l [op] [r] pos) lo H Q:=E.cmp h hm.symm
theorem T.cmpK {l r:Expr} {op:CmpOp} {pos:Pos} {Q:Bool→AH→Prop} (h:E g Γ d l lo H (KTc g Γ d op r lo Q)) (hm:false=behindInMarks op r):T g Γ d (.Compare l [op] [r] pos) lo H Q:=T.cmp h hm.symm
theorem T.notK {x:Expr} {pos:Pos} {Q:Bool→AH→Prop} (h:T g Γ d x lo H (KNot Q)):T g Γ d (.UnaryOp .Not x pos) lo H Q:=T.not h
theorem E.notK {x:Expr} {pos:Pos} {Q:V→AH→Prop} (h:E g Γ d x lo H (KENot Q)):E g Γ d (.UnaryOp .Not x pos) lo H Q:=E.not h
theorem E.negK {x:Expr} {pos:Pos} {Q:V→AH→Prop} (h:E g Γ d x lo H (KNeg Q)):E g Γ d (.UnaryOp .USub x pos) lo H Q:=E.neg h
theorem kneg {i:Int} {Q:V→AH→Prop} (h:Q (.int (-i)) H):KNeg Q (.int i) H:=⟨i,rfl,h⟩
theorem T.andK {x:Expr} {rest:List Expr} {pos:Pos} {Q:Bool→AH→Prop} (h:T g Γ d x lo H (KAnd g Γ d rest pos lo Q)):T g Γ d (.BoolOp .And (x::rest) pos) lo H Q:=T.and h
theorem E.binK {l r:Expr} {op:Operator} {pos:Pos} {Q:V→AH→Prop} (h:E g Γ d l lo H (KBin g Γ d op r lo Q)):E g Γ d (.BinOp l op r pos) lo H Q:=E.bin h
theorem E.subK {value slice:Expr} {pos:Pos} {Q:V→AH→Prop} (h:E g Γ d value lo H (KSub g Γ d slice lo Q)) (hs:∀ o i,operate [o,i] (getItem o i)=subscripted slice false o i):E g Γ d (.Subscript value slice pos) lo H Q:=E.sub h fun o i=>(hs o i).symm
theorem E.sliceK {value:Expr} {lower upper:Option Expr} {pp pos:Pos} {Q:V→AH→Prop} (h:E g Γ d value lo H (KSl g Γ d lower upper lo Q)):E g Γ d (.Subscript value (.Slice lower upper Option.none pp) pos) lo H Q:=E.slice h
theorem part_someK {e:Expr} {k:Option Int→AH→Prop} (h:E g Γ d e lo H (KPart k)):Part g Γ d (some e) lo H k:=h
theorem part_none {k:Option Int→AH→Prop} (h:k none H):Part g Γ d none lo H k:=h
theorem pk_int {i:Int} {k:Option Int→Prop} (h:k (some i)):PartK (.int i) k:=⟨_,.int i,h⟩
theorem sli_str {s:List Nat} {l u:Option Int} {k:V→Prop} (e:s.length≤1000000) (h:k (.str (slc s l u))):SliM (.str s) l u k:=⟨_,.str (leSize e),h⟩
theorem sub_strA {s:List Nat} {i n:Nat} {k:V→Prop} (q:k (.str [n])) (h:s[i]?=some n) (hl:s.length≤1000000):SubM (.str s) (.int (i:Int)) k:=SubM.str h (lt62 hl) q
theorem sli_strA {s:List Nat} {l u:Option Int} {k:V→Prop} (h:k (.str (slc s l u))) (e:s.length≤1000000):SliM (.str s) l u k:=sli_str e h
theorem len_strA {s:List Nat} {Q:V→AH→Prop} (h:Q (.int s.length) H) (e:s.length≤1000000):CallB g d (.builtin "len") [.str s] H Q:=CB.len_str (lt62 e) h
theorem T.chainK {l r₁ r₂:Expr} {op₁ op₂:CmpOp} {pos:Pos} {Q:Bool→AH→Prop} (h:E g Γ d l lo H fun a H₁=>E g Γ d r₁ lo H₁ fun b H₂=>CmpM op₁ a b fun t=>if t then E g Γ d r₂ lo H₂ (fun e H₃=>CmpM op₂ b e fun t'=>Q t' H₃) else Q false H₂) (hm:lastMarks [op₁,op₂] [r₁,r₂]=false):T g Γ d (.Compare l [op₁,op₂] [r₁,r₂] pos) lo H Q:=T.chain2 h hm
noncomputable def notStar (e:Expr):Bool:=!((exV e).2.2.2.2==2)
theorem star_cons {e:Expr} {rest:List Expr} (h:notStar e=true) (env:Env):starEach (e::rest) env=(false,eval e env)::starEach rest env:=by
 cases e <;> first | rfl | exact nomatch h
theorem star_any {rest:List Expr} (h:rest.all notStar=true) (pos:Pos) (env:Env):(backTo pos (starEach rest env)).any (·.1)=false:=by
 induction rest with
 | nil=>rfl
 | cons e r ih =>
  rw [List.all_cons,Bool.and_eq_true] at h
  rw [star_cons h.1]
  exact (Bool.false_or _).trans (ih h.2)
theorem Es.consK {e:Expr} {rest:List Expr} {Q:List V→AH→Prop} (h:E g Γ d e lo H (KEs g Γ d rest lo Q)) (hs:notStar e=true):Es g Γ d (e::rest) lo H Q:=Es.cons h (star_cons hs)
theorem E.callBK {x:Str} {p pos:Pos} {id:String} {e:Expr} {rest:List Expr} {Q:V→AH→Prop} (h:Es g Γ d (e::rest) lo H (KCB g d (.builtin id) Q)) (hf:(x,.builtin id)∈Γ.globs) (hs:(e::rest).all notStar=true):E g Γ d (.Call (.Name x p) (e::rest) [] pos) lo H Q :=
 have q:=Bool.and_eq_true_iff.mp hs
 E.callB hf h (star_cons q.1) fun env=>star_any q.2 _ env
theorem E.callTK {x:Str} {p pos:Pos} {T:String} {e:Expr} {rest:List Expr} {Q:V→AH→Prop} (h:Es g Γ d (e::rest) lo H (KCB g d (.type T) Q)) (hf:(x,.type T)∈Γ.globs) (hs:(e::rest).all notStar=true):E g Γ d (.Call (.Name x p) (e::rest) [] pos) lo H Q :=
 have q:=Bool.and_eq_true_iff.mp hs
 E.callT hf h (star_cons q.1) fun env=>star_any q.2 _ env
theorem E.callK {x:Str} {p pos:Pos} {f:Value} {e:Expr} {rest:List Expr} {Q:V→AH→Prop} (h:Es g Γ d (e::rest) lo H (KCl g d f Q)) (hf:(x,f)∈Γ.globs) (hk:keepIn g.K f=true) (hs:(e::rest).all notStar=true):E g Γ d (.Call (.Name x p) (e::rest) [] pos) lo H Q :=
 have q:=Bool.and_eq_true_iff.mp hs
 E.call hf hk h (star_cons q.1) fun env=>star_any q.2 _ env
inductive SM:Str→String→Prop
 | sw:SM "startswith" "str.startswith"
 | fi:SM "find" "str.find"
 | jo:SM "join" "str.join"
 | rf:SM "rfind" "str.rfind"
 | co:SM "count" "str.count"
theorem SM.ok {name:Str} {id:String} (h:SM name id):StrMeth name id:=by
 induction h with
 | sw=>exact sm_startswith
 | fi=>exact sm_find
 | jo=>exact sm_join
 | rf=>exact sm_rfind
 | co=>exact sm_count
theorem E.methK {o:Expr} {name:Str} {id:String} {apos pos:Pos} {e:Expr} {rest:List Expr} {Q:V→AH→Prop} (hm:SM name id) (h:E g Γ d o lo H (KMeth g Γ d id (e::rest) lo Q)) (cf:CallForm o name apos pos (e::rest)) (hs:(e::rest).all notStar=true):E g Γ d (.Call (.Attribute o name apos) (e::rest) [] pos) lo H Q :=
 have q:=Bool.and_eq_true_iff.mp hs
 E.meth hm.ok h (star_cons q.1) (fun env=>star_any q.2 _ env) cf
theorem km_str {id:String} {args:List Expr} {x:List Nat} {Q:V→AH→Prop} (h:Es g Γ d args lo H (KM2 g d id x Q)):KMeth g Γ d id args lo Q (.str x) H:=⟨x,rfl,h⟩
theorem unp_tup {vs:List V} {xs:List Str} {k:Loc→Prop} (h:PutAll xs vs lo k):UnpK (.tup vs) xs lo k:=⟨vs,rfl,h⟩
theorem pa_consK {x:Str} {xs:List Str} {v:V} {vs:List V} {k:Loc→Prop} (h:PutK x v lo (KPa xs vs k)):PutAll (x::xs) (v::vs) lo k:=let ⟨_,a,_,b,q⟩:=h; ⟨_,.cons a b,q⟩
theorem pa_nil {k:Loc→Prop} (h:k lo):PutAll [] [] lo k:=⟨_,.nil,h⟩
theorem S.unpackK {elts:List Expr} (xs:List Str) {x1:Nat} {pos' pos:Pos} {value:Expr} {Q:R→Loc→AH→Prop} (hn:NmEs elts xs) (h:E g Γ d value lo H (KUnp xs lo Q))
  (hs:autoParam (∀ env,swapsWithSole [Expr.Tuple elts x1 pos'] value pos.line env=pure false) irfa) (hw:autoParam (∀ env,swappedStores [Expr.Tuple elts x1 pos'] value env=pure none) irfa):S g Γ d (.Assign [Expr.Tuple elts x1 pos'] value pos) lo H Q:=S.unpack hn h hs hw
theorem E.or2b {x y:Expr} {pos:Pos} {Q:V→AH→Prop} (b:Bool) (hx:E g Γ d x lo H (IsB b H)) (h:b=true→Q (.bool true) H) (h':b=false→E g Γ d y lo H Q):E g Γ d (.BoolOp .Or [x,y] pos) lo H Q :=
 E.or2 (hx.mono fun v H₁ r=>by
  rw [r.1,r.2]
  cases b with
  | true=>exact tm2 (h rfl)
  | false=>exact tm2 (h' rfl))
theorem E.and2b {x y:Expr} {pos:Pos} {Q:V→AH→Prop} (b:Bool) (hx:E g Γ d x lo H (IsB b H)) (h:b=false→Q (.bool false) H) (h':b=true→E g Γ d y lo H Q):E g Γ d (.BoolOp .And [x,y] pos) lo H Q :=
 E.and2 (hx.mono fun v H₁ r=>by
  rw [r.1,r.2]
  cases b with
  | true=>exact tm2 (h' rfl)
  | false=>exact tm2 (h rfl))
theorem T.to {e:Expr} {Q:Bool→AH→Prop} (b:Bool) (ht:T g Γ d e lo H (IsT b H)) (h:Q b H):T g Γ d e lo H Q:=ht.mono fun _ _ r=>by rw [r.1,r.2]; exact h
theorem E.to {e:Expr} {Q:V→AH→Prop} (v:V) (ht:E g Γ d e lo H (IsV v H)) (h:Q v H):E g Γ d e lo H Q:=ht.mono fun _ _ r=>by rw [r.1,r.2]; exact h
theorem E.ifeb {test x y:Expr} {pos:Pos} {Q:V→AH→Prop} (b:Bool) (ht:T g Γ d test lo H (IsT b H)) (h:b=true→E g Γ d x lo H Q) (h':b=false→E g Γ d y lo H Q):E g Γ d (.IfExp test x y pos) lo H Q :=
 E.ife (ht.mono fun v H₁ r=>by
  rw [r.1,r.2]
  cases b with
  | true=>exact h rfl
  | false=>exact h' rfl)
theorem S.ifb {test:Expr} {x y:List Stmt} {pos:Pos} {Q:R→Loc→AH→Prop} (b:Bool) (ht:T g Γ d test lo H (IsT b H)) (h:b=true→Ss g Γ d x lo H Q) (h':b=false→Ss g Γ d y lo H Q):S g Γ d (.If test x y pos) lo H Q :=
 S.if_ (ht.mono fun v H₁ r=>by
  rw [r.1,r.2]
  cases b with
  | true=>exact h rfl
  | false=>exact h' rfl)
theorem S.ifT {test:Expr} {x y:List Stmt} {pos:Pos} {Q:R→Loc→AH→Prop} (ht:T g Γ d test lo H (IsT true H)) (h:Ss g Γ d x lo H Q):S g Γ d (.If test x y pos) lo H Q:=S.ifb true ht (fun _=>h) nofun
theorem S.ifF {test:Expr} {x y:List Stmt} {pos:Pos} {Q:R→Loc→AH→Prop} (ht:T g Γ d test lo H (IsT false H)) (h:Ss g Γ d y lo H Q):S g Γ d (.If test x y pos) lo H Q:=S.ifb false ht nofun (fun _=>h)
theorem T.orT {x:Expr} {r:List Expr} {pos:Pos} {Q:Bool→AH→Prop} (hx:T g Γ d x lo H (IsT true H)) (h:Q true H):T g Γ d (.BoolOp .Or (x::r) pos) lo H Q:=T.or (hx.mono fun v H₁ r=>by rw [r.1,r.2]; exact h)
theorem T.orF {x:Expr} {r:List Expr} {pos:Pos} {Q:Bool→AH→Prop} (hx:T g Γ d x lo H (IsT false H)) (h:T g Γ d (.BoolOp .Or r pos) lo H Q):T g Γ d (.BoolOp .Or (x::r) pos) lo H Q:=T.or (hx.mono fun v H₁ r=>by rw [r.1,r.2]; exact h)
theorem T.or2b {x y:Expr} {pos:Pos} {Q:Bool→AH→Prop} (b:Bool) (hx:T g Γ d x lo H (IsT b H)) (h:b=true→Q true H) (h':b=false→T g Γ d y lo H Q):T g Γ d (.BoolOp .Or [x,y] pos) lo H Q :=
 T.or (hx.mono fun v H₁ r=>by
  rw [r.1,r.2]
  cases b with
  | true=>exact h rfl
  | false=>exact T.or ((h' rfl).mono fun v H' q=>by cases v <;> first | exact q | exact T.or0 q))
theorem T.and2b {x y:Expr} {pos:Pos} {Q:Bool→AH→Prop} (b:Bool) (hx:T g Γ d x lo H (IsT b H)) (h:b=false→Q false H) (h':b=true→T g Γ d y lo H Q):T g Γ d (.BoolOp .And [x,y] pos) lo H Q :=
 T.and (hx.mono fun v H₁ r=>by
  rw [r.1,r.2]
  cases b with
  | false=>exact h rfl
  | true=>exact T.and ((h' rfl).mono fun v H' q=>by cases v <;> first | exact q | exact T.and0 q))
noncomputable abbrev KApp (a:Addr) (vs:List V) (H:AH) (Q:V→AH→Prop):V→AH→Prop:=fun v H₂=>H₂=(a,.lst vs)::H∧Q .none ((a,.lst (vs++[v]))::H)
noncomputable def KApd (a:Addr) (Q:V→AH→Prop) (v:V) (H₂:AH):Prop:=∃ vs H₃,MUpd a (.lst vs) (.lst (vs++[v])) H₂ H₃∧vs.length≤1000000∧Q .none H₃
theorem KApd.mk {a:Addr} {Q:V→AH→Prop} {v:V} {vs:List V} {H₃:AH} (hu:MUpd a (.lst vs) (.lst (vs++[v])) H H₃) (hl:vs.length≤1000000) (q:Q .none H₃):KApd a Q v H:=⟨vs,H₃,hu,hl,q⟩
theorem E.appendK {x:Str} {p apos pos:Pos} {e:Expr} {a:Addr} {vs₀:List V} {Q:V→AH→Prop} (h:E g Γ d e lo H (KApd a Q)) (hm:(x,.ref a)∈lo) (hin:(a,.lst vs₀)∈H)
  (he:autoParam (∀ env,starEach [e] env=(false,eval e env)::starEach [] env) irfa) (cf:autoParam (CallForm (.Name x p) "append" apos pos [e]) irfc):E g Γ d (.Call (.Attribute (.Name x p) "append" apos) [e] [] pos) lo H Q :=
 E.append (E.loc hm (by nofun) ⟨a,vs₀,rfl,hin,h⟩) he cf
theorem E.appendH {x:Str} {p apos pos:Pos} {e:Expr} {a:Addr} {vs:List V} {Q:V→AH→Prop} (hm:(x,.ref a)∈lo) (hl:vs.length≤1000000)
  (h:E g Γ d e lo ((a,.lst vs)::H) (KApp a vs H Q))
  (he:autoParam (∀ env,starEach [e] env=(false,eval e env)::starEach [] env) irfa) (cf:autoParam (CallForm (.Name x p) "append" apos pos [e]) irfc):E g Γ d (.Call (.Attribute (.Name x p) "append" apos) [e] [] pos) lo ((a,.lst vs)::H) Q :=
 E.append (E.loc hm (by nofun) ⟨a,vs,rfl,.head _,h.mono fun v H₂ r=>⟨vs,_,by rw [r.1]; exact .here,hl,r.2⟩⟩) he cf
noncomputable def RpLK (a:Addr) (vs:List V) (lo:Loc) (k:Loc→Prop):Prop:=∃ lo',RpL a vs lo lo'∧k lo'
theorem rk_nil {a:Addr} {vs:List V} {k:Loc→Prop} (h:k []):RpLK a vs [] k:=⟨_,.nil,h⟩
theorem rk_here {a:Addr} {vs:List V} {x:Str} {r:Loc} {k:Loc→Prop} (h:RpLK a vs r fun r'=>k ((x,.lst vs)::r')):RpLK a vs ((x,.ref a)::r) k:=let ⟨_,p,q⟩:=h; ⟨_,.cons .here p,q⟩
theorem rk_skip {a:Addr} {vs:List V} {p:Str × V} {r:Loc} {k:Loc→Prop} (h:RpLK a vs r fun r'=>k (p::r')):RpLK a vs (p::r) k:=let ⟨_,p,q⟩:=h; ⟨_,.cons (.refl _) p,q⟩
noncomputable abbrev KSt (g:Gx) (Γ:Fx) (d:Nat) (st:List Stmt) (H:AH) (Q:R→Loc→AH→Prop):Loc→Prop:=fun lo'=>Ss g Γ d st lo' H Q
theorem Ss.freezeH {a:Addr} {vs:List V} {st:List Stmt} {Q:R→Loc→AH→Prop} (h:RpLK a vs lo (KSt g Γ d st H Q)):Ss g Γ d st lo ((a,.lst vs)::H) Q :=
 let ⟨_,p,q⟩:=h; Ss.freeze .here p (RpH.refl _) q
theorem S.to {st:Stmt} {Q:R→Loc→AH→Prop} (lo₂:Loc) (H₂:AH) (h:S g Γ d st lo H fun r lo' H'=>r=.next∧lo'=lo₂∧H'=H₂) (k:Q .next lo₂ H₂):S g Γ d st lo H Q :=
 h.mono fun r lo' H' q=>by rw [q.1,q.2.1,q.2.2]; exact k
theorem kt {p:Prop} [Decidable p] {a b:Prop} (h:p→a) (h':¬ p→b):if p then a else b:=by by_cases q:p; rw [if_pos q]; exact h q; rw [if_neg q]; exact h' q
theorem val1 {α:Type} {k:α→Prop} {x y:α} (e:x=y) (h:k y):k x:=e ▸ h
theorem val2 {α β:Type} {k:α→β→Prop} {x y:α} {z:β} (e:x=y) (h:k y z):k x z:=e ▸ h
theorem kpos {p:Prop} [Decidable p] {a b:Prop} (hp:p) (h:a):if p then a else b:=by rw [if_pos hp]; exact h
theorem kno {p:Prop} [Decidable p] {a b:Prop} (hp:¬ p) (h:b):if p then a else b:=by rw [if_neg hp]; exact h
end
noncomputable def isUp (n:Nat):Bool:=decide (65≤n)&&decide (n≤90)
noncomputable def isLow (n:Nat):Bool:=decide (97≤n)&&decide (n≤122)
noncomputable def isDig (n:Nat):Bool:=decide (48≤n)&&decide (n≤57)
noncomputable def isNS (n:Nat):Bool:=isUp n||isLow n||n==95||decide (n > 127)
noncomputable def isNm (n:Nat):Bool:=isUp n||isLow n||isDig n||n==95||n==45||decide (n > 127)
noncomputable def isWs (n:Nat):Bool:=n==32||n==10||n==9
theorem set_of {l:List Nat} {p:Nat→Bool} (h1:l.all (· < 128)=true) (h2:(List.range 128).all (fun n=>l.contains n==p n)=true) (h3:∀ n,128≤n→p n=false) (n:Nat):inStr [n] l=p n:=by
 rw [inStr_one]
 by_cases h:n < 128
 ·have:=List.all_eq_true.mp h2 n (List.mem_range.mpr h)
  exact eq_of_beq this
 ·rw [h3 n (by exact ar 1 [_] (.im (.nt (.lt .v0 (.n 128))) (.le (.n 128) .v0)) rfl h)]
  rw [List.contains_eq_mem]
  refine decide_eq_false fun hm=>h ?_
  have:=List.all_eq_true.mp h1 n hm
  simpa using this
theorem cs_letters (n:Nat):inStr [n] (Str.ofString "abcdefghijklmnopqrstuvwxyzABCDEFGHIJKLMNOPQRSTUVWXYZ_").cps.toList=(isUp n||isLow n||n==95) :=
 set_of (p:=fun n=>(isUp n||isLow n||n==95)) (by decide +kernel) (by decide +kernel) (fun n h=>by simp [isUp,isLow]; exact ar 1 [_] (.im (.le (.n 128) .v0) (.an (.an (.im (.le (.n 65) .v0) (.lt (.n 90) .v0)) (.im (.le (.n 97) .v0) (.lt (.n 122) .v0))) (.nt (.eq .v0 (.n 95))))) rfl h) n
theorem cs_name (n:Nat):inStr [n] (Str.ofString "abcdefghijklmnopqrstuvwxyz-_0123456789ABCDEFGHIJKLMNOPQRSTUVWXYZ").cps.toList=(isUp n||isLow n||isDig n||n==95||n==45) :=
 set_of (p:=fun n=>(isUp n||isLow n||isDig n||n==95||n==45)) (by decide +kernel) (by decide +kernel) (fun n h=>by simp [isUp,isLow,isDig]; exact ar 1 [_] (.im (.le (.n 128) .v0) (.an (.an (.an (.an (.im (.le (.n 65) .v0) (.lt (.n 90) .v0)) (.im (.le (.n 97) .v0) (.lt (.n 122) .v0))) (.im (.le (.n 48) .v0) (.lt (.n 57) .v0))) (.nt (.eq .v0 (.n 95)))) (.nt (.eq .v0 (.n 45))))) rfl h) n
theorem cs_hash (n:Nat):inStr [n] (Str.ofString "0123456789abcdefghijklmnopqrstuvwxyz-_ABCDEFGHIJKLMNOPQRSTUVWXYZ").cps.toList=(isUp n||isLow n||isDig n||n==95||n==45) :=
 set_of (p:=fun n=>(isUp n||isLow n||isDig n||n==95||n==45)) (by decide +kernel) (by decide +kernel) (fun n h=>by simp [isUp,isLow,isDig]; exact ar 1 [_] (.im (.le (.n 128) .v0) (.an (.an (.an (.an (.im (.le (.n 65) .v0) (.lt (.n 90) .v0)) (.im (.le (.n 97) .v0) (.lt (.n 122) .v0))) (.im (.le (.n 48) .v0) (.lt (.n 57) .v0))) (.nt (.eq .v0 (.n 95)))) (.nt (.eq .v0 (.n 45))))) rfl h) n
theorem cs_hex (n:Nat):inStr [n] (Str.ofString "0123456789abcdefABCDEF").cps.toList=isHex n :=
 set_of (p:=fun n=>isHex n) (by decide +kernel) (by decide +kernel) (fun n h=>by simp [isHex]; exact ar 1 [_] (.im (.le (.n 128) .v0) (.an (.an (.im (.le (.n 48) .v0) (.lt (.n 57) .v0)) (.im (.le (.n 97) .v0) (.lt (.n 102) .v0))) (.im (.le (.n 65) .v0) (.lt (.n 70) .v0)))) rfl h) n
theorem cs_hexq (n:Nat):inStr [n] (Str.ofString "0123456789abcdefABCDEF?").cps.toList=(isHex n||n==63) :=
 set_of (p:=fun n=>(isHex n||n==63)) (by decide +kernel) (by decide +kernel) (fun n h=>by simp [isHex]; exact ar 1 [_] (.im (.le (.n 128) .v0) (.an (.an (.an (.im (.le (.n 48) .v0) (.lt (.n 57) .v0)) (.im (.le (.n 97) .v0) (.lt (.n 102) .v0))) (.im (.le (.n 65) .v0) (.lt (.n 70) .v0))) (.nt (.eq .v0 (.n 63))))) rfl h) n
theorem cs_ws (n:Nat):inStr [n] (Str.ofString " \n\t").cps.toList=isWs n :=
 set_of (p:=fun n=>isWs n) (by decide +kernel) (by decide +kernel) (fun n h=>by simp [isWs]; exact ar 1 [_] (.im (.le (.n 128) .v0) (.an (.an (.nt (.eq .v0 (.n 32))) (.nt (.eq .v0 (.n 10)))) (.nt (.eq .v0 (.n 9))))) rfl h) n
section
open PySem.Builtin PySem.Builtin.Str
theorem fromIndex_nat (n i:Nat):fromIndex n (i:Int)=i:=by
 unfold fromIndex
 (first | lia | omega)
theorem swAt_nat (s y:List Nat) (i:Nat) (hy:y≠[]):swAt s y (i:Int)=((s.drop i).take y.length==y):=by
 unfold swAt
 rw [fromIndex_nat]
 by_cases h:i+y.length≤s.length
 ·rw [decide_eq_true h,Bool.true_and]
 ·rw [decide_eq_false h,Bool.false_and]
  refine (beq_eq_false_iff_ne.mpr fun e=>h ?_).symm
  have h1:=congrArg List.length e
  rw [List.length_take,List.length_drop] at h1
  have h2:0 < y.length:=List.length_pos_iff.mpr hy
  exact ar 3 [_,_,_] (.im (.eq (.i .v1 (.s .v2 .v0)) .v1) (.im (.lt .n0 .v1) (.le (.a .v0 .v1) .v2))) rfl h1 h2
theorem drop_cons {s:List Nat} {i n:Nat} (hi:s[i]?=some n):s.drop i=n::s.drop (i+1):=by
 have:=List.drop_eq_getElem_cons (List.getElem?_eq_some_iff.mp hi).1
 rw [this,(List.getElem?_eq_some_iff.mp hi).2]
theorem get_of_drop {s:List Nat} {i n:Nat} {t:List Nat} (h:s.drop i=n::t):s[i]?=some n∧s.drop (i+1)=t∧i < s.length:=by
 have h1:(s.drop i)[0]?=some n:=by rw [h]; rfl
 rw [List.getElem?_drop] at h1
 have h2:s.drop (i+1)=(s.drop i).drop 1:=by rw [List.drop_drop]
 refine ⟨h1,by rw [h2,h]; rfl,(List.getElem?_eq_some_iff.mp h1).1⟩
noncomputable def escOk (r:List Nat):Bool:=r.take 1==[92]&&!(r.take 2==[92,10])
noncomputable def headP (p:Nat→Bool) (r:List Nat):Bool:=match r with
 | []=>false
 | c::_=>p c
theorem lit_nil:(Str.ofString "").cps.toList=[]:=by decide +kernel
theorem lit_rep:(Str.ofString "�").cps.toList=[65533]:=by decide +kernel
theorem one_beq (a b:Nat):(([a]:List Nat)==[b])=(b==a):=by
 rw [Bool.eq_iff_iff,beq_iff_eq,beq_iff_eq]
 exact ⟨fun h=>(List.cons.inj h).1.symm,fun h=>by rw [h]⟩
theorem any2 {a b:Nat} {p:Nat→Bool} (r:List Nat) (h:∀ c,p c=(c==a||c==b)):([V.str [a],V.str [b]].any (eqStr (r.take 1)))=headP p r:=by
 cases r with
 | nil=>rfl
 | cons c t =>
  show ([a]==[c]||([b]==[c]||false))=p c
  rw [one_beq,one_beq,Bool.or_false,h]
theorem ws_one (r:List Nat):([V.str (Str.ofString " ").cps.toList,V.str (Str.ofString "\n").cps.toList,V.str (Str.ofString "\t").cps.toList].any (eqStr (r.take 1)))=headP isWs r:=by
 rw [show (Str.ofString " ").cps.toList=[32] from by decide +kernel,show (Str.ofString "\n").cps.toList=[10] from by decide +kernel,show (Str.ofString "\t").cps.toList=[9] from by decide +kernel]
 cases r with
 | nil=>rfl
 | cons c t =>
  show ([32]==[c]||([10]==[c]||([9]==[c]||false)))=(c==32||c==10||c==9)
  rw [one_beq,one_beq,one_beq,Bool.or_false,Bool.or_assoc]
theorem lit_bs:(Str.ofString "\\").cps.toList=[92]:=by decide +kernel
theorem lit_bsnl:(Str.ofString "\\\n").cps.toList=[92,10]:=by decide +kernel
theorem eqc_dash (n:Nat):([n]==(Str.ofString "-").cps.toList)=(n==45):=by
 rw [show (Str.ofString "-").cps.toList=[45] from by decide +kernel]; simp
theorem eqc_bs (n:Nat):([n]==(Str.ofString "\\").cps.toList)=(n==92):=by
 rw [show (Str.ofString "\\").cps.toList=[92] from by decide +kernel]; simp
theorem eqc_nl (n:Nat):([n]==(Str.ofString "\n").cps.toList)=(n==10):=by
 rw [show (Str.ofString "\n").cps.toList=[10] from by decide +kernel]; simp
theorem eqc_lp (n:Nat):([n]==(Str.ofString "(").cps.toList)=(n==40):=by
 rw [show (Str.ofString "(").cps.toList=[40] from by decide +kernel]; simp
theorem eqc_rp (n:Nat):([n]==(Str.ofString ")").cps.toList)=(n==41):=by
 rw [show (Str.ofString ")").cps.toList=[41] from by decide +kernel]; simp
theorem eqc_dq (n:Nat):([n]==(Str.ofString "\"").cps.toList)=(n==34):=by
 rw [show (Str.ofString "\"").cps.toList=[34] from by decide +kernel]; simp
theorem eqc_sq (n:Nat):([n]==(Str.ofString "'").cps.toList)=(n==39):=by
 rw [show (Str.ofString "'").cps.toList=[39] from by decide +kernel]; simp
theorem eqc_at (n:Nat):([n]==(Str.ofString "@").cps.toList)=(n==64):=by
 rw [show (Str.ofString "@").cps.toList=[64] from by decide +kernel]; simp
theorem eqc_hash (n:Nat):([n]==(Str.ofString "#").cps.toList)=(n==35):=by
 rw [show (Str.ofString "#").cps.toList=[35] from by decide +kernel]; simp
theorem eqc_lc (n:Nat):([n]==(Str.ofString "{").cps.toList)=(n==123):=by
 rw [show (Str.ofString "{").cps.toList=[123] from by decide +kernel]; simp
theorem eqc_lb (n:Nat):([n]==(Str.ofString "[").cps.toList)=(n==91):=by
 rw [show (Str.ofString "[").cps.toList=[91] from by decide +kernel]; simp
theorem eqc_cr (n:Nat):([n]==(Str.ofString "\r").cps.toList)=(n==13):=by
 rw [show (Str.ofString "\r").cps.toList=[13] from by decide +kernel]; simp
theorem eqc_ff (n:Nat):([n]==(Str.ofString "\x0c").cps.toList)=(n==12):=by
 rw [show (Str.ofString "\x0c").cps.toList=[12] from by decide +kernel]; simp
theorem eqc_q (n:Nat):([n]==(Str.ofString "?").cps.toList)=(n==63):=by
 rw [show (Str.ofString "?").cps.toList=[63] from by decide +kernel]; simp
theorem eqc_plus (n:Nat):([n]==(Str.ofString "+").cps.toList)=(n==43):=by
 rw [show (Str.ofString "+").cps.toList=[43] from by decide +kernel]; simp
theorem eqc_us (n:Nat):([n]==(Str.ofString "_").cps.toList)=(n==95):=by
 rw [show (Str.ofString "_").cps.toList=[95] from by decide +kernel]; simp
end
theorem C32 {w:World} {g:Gx} (G:GG w g) {H:AH} {s:List Nat} {i n:Nat} {Q:V→AH→Prop} (hi:s[i]?=some n) (hl:s.length≤1000000) (q:Q (.bool (isNS n)) H):Call g 1 (.ref 635) [.str s,.int i] H Q:=by
 refine Call.def_ (dv:=[]) (D32 G) rfl ⟨rfl,fun _ h=>nomatch h⟩ ?_
 walk_at"n"
 refine Ss.consK ?_
 walk_at"A"
 refine E.or2b (isUp n||isLow n||n==95) ?_ (fun h=>?_) (fun h=>?_)
 ·walk_at"A"
  first | (refine ⟨?_,rfl⟩; rw [cs_letters] <;> rfl; done) | (rw [cs_letters]; exact ⟨rfl,rfl⟩)
 ·have e:isNS n=true:=by unfold isNS; rw [h]; rfl
  rw [← e]; exact q
 ·walk_at"A"
  have e:isNS n=decide ((n:Int) > 127):=by
   unfold isNS; rw [h,Bool.false_or]
   exact decide_eq_decide.mpr (by exact ar 1 [_] (.iff (.lt (.n 127) .v0) (.ilt (.n 127) .v0)) rfl)
  rw [← e]; exact q
noncomputable def dashStart (t:List Nat):Bool:=match t with
 | []=>false
 | e::_=>isNS e||e==45
noncomputable def identStart (r:List Nat):Bool:=match r with
 | []=>false
 | c::t=>isNS c||(if c==45 then dashStart t||escOk t else escOk (c::t))
set_option tactic.hygienic true in
theorem C33 {w:World} {g:Gx} (G:GG w g) {H:AH} {s:List Nat} {i n:Nat} {Q:V→AH→Prop} (hi:s[i]?=some n) (hl:s.length≤1000000) (q:Q (.bool (identStart (s.drop i))) H):Call g 2 (.ref 642) [.str s,.int i] H Q:=by
 refine Call.def_ (dv:=[]) (D33 G) rfl ⟨rfl,fun _ h=>nomatch h⟩ ?_
 walk_at"n"
 refine Ss.consK ?_
 refine S.ifK ?_
 walk_at"A"
 refine (C32 G hi hl ?_).le (by walk_at"m")
 walk_at"A"
 have hd:s.drop i=n::s.drop (i+1):=by
  have:=List.drop_eq_getElem_cons (List.getElem?_eq_some_iff.mp hi).1
  rw [this,(List.getElem?_eq_some_iff.mp hi).2]
 rw [hd] at q
 walk_at"l"
 ·rename_i h
  walk_at"A"
  simp only [identStart,h,Bool.true_or] at q
  exact q
 ·rename_i h
  have h:=eq_false_of_ne_true h
  simp only [identStart,h,Bool.false_or] at q
  walk_at"A"
  refine S.ifK ?_
  walk_at"A"
  first | (refine' val1 ?_ ?_; rw [eqc_dash]) | (refine' val2 ?_ ?_; rw [eqc_dash]) | rw [eqc_dash]
  walk_at"l"
  ·rename_i h1
   rw [if_pos h1] at q
   have hn:n=45:=eq_of_beq h1
   subst hn
   walk_at"A"
   generalize ht:s.drop (i+1)=t at q
   refine E.or2b (dashStart t) ?_ (fun ha=>?_) (fun ha=>?_)
   ·refine E.and2b (decide (i+1 < s.length)) ?_ (fun hb=>?_) (fun hb=>?_)
    ·walk_at"A"
     exact ⟨rfl,rfl⟩
    ·have:t=[]:=by rw [← ht]; exact List.drop_eq_nil_iff.mpr (by simpa using hb)
     subst this
     exact ⟨rfl,rfl⟩
    ·have hb:i+1 < s.length:=by simpa using hb
     obtain ⟨e,t',rfl⟩:∃ e t',t=e::t':=by
      cases t with
      | nil=>exact absurd (List.drop_eq_nil_iff.mp ht) (by exact ar 2 [_,_] (.im (.lt (.a .v1 .n1) .v0) (.nt (.le .v0 (.a .v1 .n1)))) rfl (Ar.t ‹_›))
      | cons e t'=>exact ⟨e,t',rfl⟩
     have hg:=(get_of_drop ht).1
     refine E.or2b (isNS e) ?_ (fun hc=>?_) (fun hc=>?_)
     ·walk_at"A"
      exact (C32 G hg hl ⟨rfl,rfl⟩).le (by walk_at"m")
     ·(try walk_at"k"); simp [dashStart,hc]
     ·walk_at"A"
      rw [eqc_dash]
      (try walk_at"k"); simp [dashStart,hc]
   ·rw [ha] at q
    exact q
   ·rw [ha,Bool.false_or] at q
    refine E.and2b (t.take 1==[92]) ?_ (fun hb=>?_) (fun hb=>?_)
    ·walk_at"A"
     first | (refine ⟨?_,rfl⟩; rw [lit_bs,swAt_nat _ _ _ (by simp),ht] <;> rfl; done) | (rw [lit_bs,swAt_nat _ _ _ (by simp),ht]; exact ⟨rfl,rfl⟩)
    ·have e:escOk t=false:=by unfold escOk; rw [hb]; rfl
     rw [← e]; exact q
    ·walk_at"A"
     rw [lit_bsnl,swAt_nat _ _ _ (by simp),ht]
     have e:escOk t=!(t.take 2==[92,10]):=by unfold escOk; rw [hb]; rfl
     show Q (.bool (!(t.take 2==[92,10]))) H
     rw [← e]; exact q
  ·rename_i h1
   rw [if_neg h1] at q
   walk_at"A"
   refine S.ifK ?_
   walk_at"A"
   first | (refine' val1 ?_ ?_; rw [eqc_bs]) | (refine' val2 ?_ ?_; rw [eqc_bs]) | rw [eqc_bs]
   walk_at"l"
   ·rename_i h2
    walk_at"A"
    rw [lit_bsnl,swAt_nat _ _ _ (by simp),hd]
    have hn:n=92:=eq_of_beq h2
    subst hn
    have e:escOk (92::s.drop (i+1))=!((92::s.drop (i+1)).take 2==[92,10]):=by unfold escOk; simp
    rw [e] at q
    exact q
   ·rename_i h2
    walk_at"A"
    have e:escOk (n::s.drop (i+1))=false:=by
     unfold escOk
     have:([n]==[92])=(n==92):=beq_one n 92
     (try walk_at"k"); simp only [List.take_succ_cons,List.take_zero,this,eq_false_of_ne_true h2,Bool.false_and]
    rw [e] at q
    exact q
noncomputable def hexRun (r:List Nat):List Nat:=(r.take 6).takeWhile isHex
theorem clipAt_nat (n i:Nat):clipAt n (i:Int)=min i n:=by
 unfold clipAt
 rw [if_neg (Int.not_lt.mpr (Int.natCast_nonneg i))]
 rcases Nat.le_total i n with h | h
 ·rw [Int.min_eq_left (Int.ofNat_le.mpr h),Int.max_eq_right (Int.natCast_nonneg i),Nat.min_eq_left h]; rfl
 ·rw [Int.min_eq_right (Int.ofNat_le.mpr h),Int.max_eq_right (Int.natCast_nonneg n),Nat.min_eq_right h]; rfl
theorem drop_clip {α:Type} (s:List α) (a:Nat):s.drop (min a s.length)=s.drop a:=by
 rcases Nat.le_total a s.length with h | h
 ·rw [Nat.min_eq_left h]
 ·rw [Nat.min_eq_right h,List.drop_length,List.drop_eq_nil_of_le h]
theorem clip_sub (a b L:Nat):min (min b L - min a L) (L - a)=min (b - a) (L - a):=by
 rcases Nat.le_total a L with h | h
 ·rw [Nat.min_eq_left h,Nat.sub_min_sub_right,Nat.sub_min_sub_right,Nat.min_assoc,Nat.min_self]
 ·rw [Nat.sub_eq_zero_of_le h,Nat.min_zero,Nat.min_zero]
theorem slc_nat {α:Type} {s:List α} {a b:Nat}:slc s (some (a:Int)) (some (b:Int))=(s.drop a).take (b - a):=by
 show (s.drop (clipAt s.length a)).take (clipAt s.length b - clipAt s.length a)=_
 rw [clipAt_nat,clipAt_nat,drop_clip,List.take_eq_take_iff,List.length_drop]
 exact clip_sub a b s.length
theorem slc_one {s:List Nat} {i:Nat}:slc s (some (i:Int)) (some ((i+1:Nat):Int))=(s.drop i).take 1:=by
 rw [slc_nat,Nat.add_sub_cancel_left]
theorem slc_from {α:Type} {s:List α} {a:Nat}:slc s (some (a:Int)) none=s.drop a:=by
 show (s.drop (clipAt s.length a)).take (s.length - clipAt s.length a)=_
 rw [clipAt_nat,← List.length_drop,List.take_length,drop_clip]
theorem slc_to {α:Type} {s:List α} {a:Nat}:slc s none (some (a:Int))=s.take a:=by
 show (s.drop 0).take (clipAt s.length a - 0)=_
 rw [clipAt_nat,List.drop_zero,Nat.sub_zero,List.take_eq_take_iff,Nat.min_assoc,Nat.min_self]
set_option tactic.hygienic true in
theorem C30 {w:World} {g:Gx} (G:GG w g) {H:AH} {s:List Nat} {i:Nat} {Q:V→AH→Prop} (hl:s.length≤1000000) (q:Q (.int ((i+(hexRun (s.drop i)).length:Nat):Int)) H):Call g 1 (.ref 620) [.str s,.int i] H Q:=by
 refine Call.def_ (dv:=[]) (D30 G) rfl ⟨rfl,fun _ h=>nomatch h⟩ ?_
 walk_at"n"
 refine Ss.consK ?_
 walk_at"A"
 refine S.while_ (J:=fun m lo' H'=>H'=H∧∃ e:Nat,lo'=([("css",V.str s),("pos",V.int i),("end",V.int ((i+e:Nat):Int))]:Loc)∧m=6 - e∧e≤6∧(hexRun (s.drop i)).length=e+(((s.drop (i+e)).take (6 - e)).takeWhile isHex).length) ?_ 6 ?_
 ·rintro m lo' H' ⟨rfl,e,rfl,rfl,he,hr⟩
  generalize hr':s.drop (i+e)=r at hr
  refine T.to (decide (e < 6)&&headP isHex r) ?_ ?_
  ·walk_at"A"
   walk_at"l"
   ·rename_i h
    have h:e < 6:=by have:=of_decide_eq_true h; exact ar 2 [_,_] (.im (.lt (.a .v1 .v0) (.a .v1 (.n 6))) (.lt .v0 (.n 6))) rfl (Ar.t h)
    first | (refine' val1 ?_ ?_; rw [decide_eq_true h,Bool.true_and]) | (refine' val2 ?_ ?_; rw [decide_eq_true h,Bool.true_and]) | rw [decide_eq_true h,Bool.true_and]
    walk_at"A"
    rw [slc_one,lit_nil,hr']
    cases r with
    | nil=>exact ⟨rfl,rfl⟩
    | cons c t =>
     have hg:=(get_of_drop hr').1
     first | refine kpos (by rfl) ?_ | rw [if_pos (by rfl)]
     walk_at"A"
     first | (refine' val1 ?_ ?_; rw [cs_hex]) | (refine' val2 ?_ ?_; rw [cs_hex]) | rw [cs_hex]
     walk_at"l"
     ·rename_i h1
      walk_at"A"
      exact ⟨h1.symm,rfl⟩
     ·rename_i h1
      exact ⟨(eq_false_of_ne_true h1).symm,rfl⟩
   ·rename_i h
    have h:¬ e < 6:=fun q=>h (decide_eq_true (by exact ar 2 [_,_] (.im (.lt .v1 (.n 6)) (.lt (.a .v0 .v1) (.a .v0 (.n 6)))) rfl q))
    first | (refine ⟨?_,rfl⟩; rw [decide_eq_false h,Bool.false_and] <;> rfl; done) | (rw [decide_eq_false h,Bool.false_and]; exact ⟨rfl,rfl⟩)
  ·walk_at"l"
   ·rename_i h
    rw [Bool.and_eq_true] at h
    have h1:e < 6:=of_decide_eq_true h.1
    cases r with
    | nil=>cases h.2
    | cons c t =>
     have hg:=get_of_drop hr'
     walk_at"A"
     refine ⟨6 - (e+1),by exact ar 1 [_] (.im (.lt .v0 (.n 6)) (.lt (.s (.n 6) (.a .v0 .n1)) (.s (.n 6) .v0))) rfl h1,rfl,e+1,rfl,rfl,by walk_at"m",?_⟩
     have e6:6 - e=(6 - (e+1))+1:=by exact ar 1 [_] (.im (.lt .v0 (.n 6)) (.eq (.s (.n 6) .v0) (.a (.s (.n 6) (.a .v0 .n1)) .n1))) rfl h1
     have hc:isHex c=true:=h.2
     rw [e6,List.take_succ_cons,List.takeWhile_cons,if_pos hc,List.length_cons] at hr
     rw [show i+(e+1)=i+e+1 from rfl,hg.2.1,hr]
     exact AR.h61 _ _
   ·rename_i h
    have h:=eq_false_of_ne_true h
    walk_at"A"
    have:(List.takeWhile isHex (List.take (6 - e) r)).length=0:=by
     rw [Bool.and_eq_false_iff] at h
     rcases h with h | h
     ·have:6 - e=0:=by have:=of_decide_eq_false h; exact ar 1 [_] (.im (.nt (.lt .v0 (.n 6))) (.eq (.s (.n 6) .v0) .n0)) rfl (Ar.f h)
      rw [this]; rfl
     ·cases r with
      | nil=>simp
      | cons c t =>
       cases h6:6 - e with
       | zero=>rfl
       | succ k =>
        have h:isHex c=false:=h
        (try walk_at"k"); simp [h]
    rw [hr,this] at q
    exact q
 ·refine ⟨rfl,0,rfl,rfl,by walk_at"m",?_⟩
  (try walk_at"k"); simp [hexRun]
noncomputable def esc (r:List Nat):Nat × Nat :=
 if hexRun r=[] then (match r with
  | []=>(65533,0)
  | c::_=>(c,1))
 else (if 0 < hexVal (hexRun r)∧hexVal (hexRun r)≤1114111 then hexVal (hexRun r) else 65533,(hexRun r).length+if headP isWs (r.drop (hexRun r).length) then 1 else 0)
theorem hexRun_take (r:List Nat):r.take (hexRun r).length=hexRun r:=by
 unfold hexRun
 have h1:(r.take 6).takeWhile isHex=(r.take 6).take ((r.take 6).takeWhile isHex).length:=by
  have:=List.takeWhile_prefix (l:=r.take 6) isHex
  exact (List.prefix_iff_eq_take.mp this)
 have h2:((r.take 6).takeWhile isHex).length≤6:=by
  have:=(List.takeWhile_prefix (l:=r.take 6) isHex).length_le
  rw [List.length_take] at this; exact ar 2 [_,_] (.im (.le .v0 (.i (.n 6) .v1)) (.le .v0 (.n 6))) rfl this
 generalize ((r.take 6).takeWhile isHex).length=k at h1 h2
 rw [h1,List.take_take,Nat.min_eq_left h2]
theorem hexRun_hex (r:List Nat):∀ c∈hexRun r,isHex c=true:=fun c hc=>by
 have:=List.all_takeWhile (p:=isHex) (l:=r.take 6)
 exact List.all_eq_true.mp this c hc
theorem hexRun_len (r:List Nat):(hexRun r).length≤6:=by
 have:=(List.takeWhile_prefix (l:=r.take 6) isHex).length_le
 rw [List.length_take] at this; unfold hexRun; exact ar 2 [_,_] (.im (.le .v0 (.i (.n 6) .v1)) (.le .v0 (.n 6))) rfl this
set_option tactic.hygienic true in
theorem C36 {w:World} {g:Gx} (G:GG w g) {H:AH} {s:List Nat} {i:Nat} {Q:V→AH→Prop} (hl:s.length≤1000000) (q:Q (.tup [.str [(esc (s.drop i)).1],.int ((i+(esc (s.drop i)).2:Nat):Int)]) H):Call g 2 (.ref 663) [.str s,.int i] H Q:=by
 refine Call.def_ (dv:=[]) (D36 G) rfl ⟨rfl,fun _ h=>nomatch h⟩ ?_
 walk_at"n"
 refine Ss.consK ?_
 walk_at"A"
 refine C30 G hl ?_
 walk_at"A"
 refine S.ifK ?_
 walk_at"A"
 have hx:=hexRun_take (s.drop i)
 have hall:=hexRun_hex (s.drop i)
 have hlen:=hexRun_len (s.drop i)
 unfold esc at q
 generalize hexRun (s.drop i)=h at *
 walk_at"l"
 ·rename_i h1
  have h1:h≠[]:=by
   rintro rfl
   have:=of_decide_eq_true h1
   simp at this
  rw [if_neg h1] at q
  walk_at"A"
  first | (refine' val1 ?_ ?_; rw [slc_nat,show i+h.length - i=h.length by walk_at"m",hx]) | (refine' val2 ?_ ?_; rw [slc_nat,show i+h.length - i=h.length by walk_at"m",hx]) | rw [slc_nat,show i+h.length - i=h.length by exact AR.h39 _ _,hx]
  refine CB.hex hall h1 hlen ?_
  walk_at"A"
  refine E.to (.str [if 0 < hexVal h∧hexVal h≤1114111 then hexVal h else 65533]) ?_ ?_
  ·refine E.ifeb (decide (0 < hexVal h)&&decide (hexVal h≤1114111)) ?_ (fun hb=>?_) (fun hb=>?_)
   ·walk_at"A"
    walk_at"l"
    ·rename_i h2
     first | (refine' val1 ?_ ?_; rw [h2,Bool.true_and]) | (refine' val2 ?_ ?_; rw [h2,Bool.true_and]) | rw [h2,Bool.true_and]
     walk_at"A"
     refine ⟨?_,rfl⟩
     exact decide_eq_decide.mpr (by exact ar 1 [_] (.iff (.ile .v0 (.n 1114111)) (.le .v0 (.n 1114111))) rfl)
    ·rename_i h2
     first | (refine ⟨?_,rfl⟩; rw [eq_false_of_ne_true h2,Bool.false_and] <;> rfl; done) | (rw [eq_false_of_ne_true h2,Bool.false_and]; exact ⟨rfl,rfl⟩)
   ·rw [Bool.and_eq_true,decide_eq_true_eq,decide_eq_true_eq] at hb
    walk_at"A"
    refine CB.chr (by exact AR.h45 _) (by exact ar 1 [_] (.im (.an (.lt .n0 .v0) (.le .v0 (.n 1114111))) (.ile .v0 (.n 1114111))) rfl hb) ?_
    first | refine kpos hb ?_ | rw [if_pos hb]
    exact ⟨rfl,rfl⟩
   ·walk_at"A"
    first | (refine ⟨?_,rfl⟩; rw [if_neg (fun q=>by rw [decide_eq_true q.1,decide_eq_true q.2] at hb; cases hb),lit_rep] <;> rfl; done) | (rw [if_neg (fun q=>by rw [decide_eq_true q.1,decide_eq_true q.2] at hb; cases hb),lit_rep]; exact ⟨rfl,rfl⟩)
  walk_at"A"
  refine E.to (.int ((i+(h.length+if headP isWs ((s.drop i).drop h.length)=true then 1 else 0):Nat):Int)) ?_ ?_
  ·refine E.ifeb (headP isWs ((s.drop i).drop h.length)) ?_ (fun hb=>?_) (fun hb=>?_)
   ·walk_at"A"
    first | (refine ⟨?_,rfl⟩; rw [slc_one,ws_one,List.drop_drop] <;> rfl; done) | (rw [slc_one,ws_one,List.drop_drop]; exact ⟨rfl,rfl⟩)
   ·walk_at"A"
    first | refine kpos hb ?_ | rw [if_pos hb]
    exact ⟨rfl,rfl⟩
   ·walk_at"A"
    first | (refine ⟨?_,rfl⟩; rw [if_neg (nf hb)] <;> rfl; done) | (rw [if_neg (nf hb)]; exact ⟨rfl,rfl⟩)
  walk_at"A"
  exact q
 ·rename_i h1
  have h1:h=[]:=by
   have:¬ (i+h.length > i):=fun q=>h1 (decide_eq_true q)
   exact List.length_eq_zero_iff.mp (by exact ar 2 [_,_] (.im (.nt (.lt .v1 (.a .v1 .v0))) (.eq .v0 .n0)) rfl (Ar.g h1))
  rw [if_pos h1] at q
  walk_at"A"
  refine S.ifK ?_
  walk_at"A"
  walk_at"l"
  ·rename_i h2
   have h2:i < s.length:=of_decide_eq_true h2
   have hg:=List.getElem?_eq_getElem h2
   have hd:=drop_cons hg
   walk_at"A"
   rw [hd] at q
   exact q
  ·rename_i h2
   have h2:¬ i < s.length:=fun q=>h2 (decide_eq_true q)
   walk_at"A"
   rw [List.drop_eq_nil_iff.mpr (by exact AR.h326 _ _ (Ar.g ‹_›))] at q
   rw [lit_rep]
   exact q
section
set_option genSizeOf false
set_option genInjectivity false
noncomputable def ident:List Nat→List Nat × Nat
 | []=>([],0)
 | c::t=>if isNm c then (c::(ident t).1,(ident t).2+1)
  else if escOk (c::t) then ((esc t).1::(ident (t.drop (esc t).2)).1,(ident (t.drop (esc t).2)).2+(esc t).2+1)
  else ([],0)
 termination_by r=>r.length
 decreasing_by
  all_goals simp
  all_goals exact AR.h72 _ _
theorem ident_nil:ident []=([],0):=by rw [ident]
theorem ident_cons (c:Nat) (t:List Nat):ident (c::t)=if isNm c then (c::(ident t).1,(ident t).2+1)
  else if escOk (c::t) then ((esc t).1::(ident (t.drop (esc t).2)).1,(ident (t.drop (esc t).2)).2+(esc t).2+1)
  else ([],0):=by rw [ident]
set_option tactic.hygienic true in
theorem esc_le (r:List Nat):(esc r).2≤r.length:=by
 unfold esc
 walk_at"l"
 ·cases r with
  | nil=>exact Nat.le_refl _
  | cons c t=>simp
 ·have h1:(hexRun r).length≤r.length:=by
   have:=congrArg List.length (hexRun_take r)
   rw [List.length_take] at this; exact ar 2 [_,_] (.im (.eq (.i .v0 .v1) .v0) (.le .v0 .v1)) rfl this
  show (hexRun r).length+_≤_
  walk_at"l"
  ·rename_i h
   have:(r.drop (hexRun r).length)≠[]:=by rintro e; rw [e] at h; cases h
   have h2:=List.length_pos_iff.mpr this
   rw [List.length_drop] at h2
   exact ar 2 [_,_] (.im (.lt .n0 (.s .v1 .v0)) (.le (.a .v0 .n1) .v1)) rfl h2
  ·walk_at"m"
theorem ident_len:∀ (n:Nat) (r:List Nat),r.length≤n→(ident r).1.length≤(ident r).2∧(ident r).2≤r.length
 | _,[],_=>by rw [ident_nil]; simp
 | 0,_::_,h=>by simp at h
 | n+1,c::t,h=>by
  have ht:t.length≤n:=by simpa using h
  first | (refine' val1 ?_ ?_; rw [ident_cons]) | (refine' val2 ?_ ?_; rw [ident_cons]) | rw [ident_cons]
  walk_at"l"
  ·have:=ident_len n t ht
   (try walk_at"k"); simp only [List.length_cons]; exact AR.h123 _ _ _ this
  ·walk_at"l"
   ·have:=ident_len n (t.drop (esc t).2) (by rw [List.length_drop]; exact AR.h210 _ _ _ ht)
    have h2:=esc_le t
    rw [List.length_drop] at this
    (try walk_at"k"); simp only [List.length_cons]; exact AR.h354 _ _ _ _ this h2
   ·(try walk_at"k"); simp
theorem esc_no {s:List Nat} {p n:Nat} (hg:s[p]?=some n) (h:(n==92)=false):escOk (s.drop p)=false:=by
 rw [drop_cons hg]; unfold escOk
 simp only [List.take_succ_cons,List.take_zero,beq_one,h,Bool.false_and]
theorem esc_yes {s:List Nat} {p n:Nat} (hg:s[p]?=some n) (h:(n==92)=true):(!swAt s [92,10] (p:Int))=escOk (s.drop p):=by
 rw [swAt_nat _ _ _ (by simp),drop_cons hg]
 unfold escOk
 have:((n::s.drop (p+1)).take 1==[92])=true:=by simpa using h
 rw [this]; rfl
theorem esc_in {s:List Nat} {p n:Nat} (hg:s[p]?=some n):p+1+(esc (s.drop (p+1))).2≤s.length:=by
 have hk:=esc_le (s.drop (p+1))
 have hp:=(List.getElem?_eq_some_iff.mp hg).1
 rw [List.length_drop] at hk
 exact ar 3 [_,_,_] (.im (.le .v1 (.s .v2 (.a .v0 .n1))) (.im (.lt .v0 .v2) (.le (.a (.a .v0 .n1) .v1) .v2))) rfl hk hp
theorem ident_stop {s:List Nat} {p n:Nat} (hg:s[p]?=some n) (hn:isNm n=false) (he:escOk (s.drop p)=false):ident (s.drop p)=([],0):=by
 rw [drop_cons hg] at he ⊢
 rw [ident_cons,if_neg (nf hn),if_neg (nf he)]
structure Ch (s X:List Nat) (p sp:Nat) (cs:List (List Nat)) (Y:List Nat):Prop where
 h1:sp≤p
 h2:p≤s.length
 h3:cs.length≤2 * p
 h4:X=cs.flatten++(s.drop sp).take (p - sp)++Y
section
variable {s X Y:List Nat} {p sp n:Nat} {cs:List (List Nat)}
theorem Ch.one (h:Ch s X p sp cs (n::Y)) (hg:s[p]?=some n):Ch s X (p+1) sp cs Y:=by
 have h1:=h.h1
 refine ⟨AR.h282 _ _ h1,(List.getElem?_eq_some_iff.mp hg).1,AR.h279 _ _ h.h3,?_⟩
 rw [h.h4,show p+1 - sp=(p - sp)+1 by exact AR.h122 _ _ h1,List.take_add_one,List.getElem?_drop,show sp+(p - sp)=p by exact AR.h165 _ _ h1,hg,List.append_assoc,List.append_assoc,List.append_assoc]
 rfl
theorem Ch.esc {k:Nat} (h:Ch s X p sp cs (n::Y)) (hk:p+1+k≤s.length):Ch s X (p+1+k) (p+1+k) (cs++[(s.drop sp).take (p - sp)]++[[n]]) Y:=by
 refine ⟨Nat.le_refl _,hk,?_,?_⟩
 ·have h3:=h.h3
  rw [List.length_append,List.length_append]
  exact ar 3 [_,_,_] (.im (.le .v0 (.m 2 .v1)) (.le (.a (.a .v0 .n1) .n1) (.m 2 (.a (.a .v1 .n1) .v2)))) rfl h3
 ·rw [h.h4,List.flatten_append,List.flatten_append,List.flatten_singleton,List.flatten_singleton,Nat.sub_self,List.take_zero,List.append_nil,List.append_assoc,List.append_assoc,List.append_assoc]
  rfl
theorem Ch.map:cs.map V.str++[V.str (slc s (some (sp:Int)) (some (p:Int)))]++[V.str [n]]=(cs++[(s.drop sp).take (p - sp)]++[[n]]).map V.str:=by
 rw [slc_nat,List.map_append,List.map_append]; rfl
theorem Ch.room (h:Ch s X p sp cs Y) (hl:s.length≤10000):(cs.map V.str).length≤1000000:=by
 rw [List.length_map]; exact AR.h473 _ _ _ h.h3 hl h.h2
theorem Ch.room2 {x:V} (h:Ch s X p sp cs Y) (hl:s.length≤10000):(cs.map V.str++[x]).length≤1000000:=by
 rw [List.length_append,List.length_map]; exact Nat.succ_le_succ (AR.h477 _ _ _ h.h3 hl h.h2)
theorem Ch.start {i:Nat} (hi:i≤s.length):Ch s Y i i [] Y:=⟨Nat.le_refl _,hi,Nat.zero_le _,by rw [Nat.sub_self]; rfl⟩
theorem CB.joinCh {g:Gx} {d:Nat} {H:AH} {Q:V→AH→Prop} (h:Ch s X p sp cs []) (hX:X.length≤20000) (hl:s.length≤10000) (q:Q (.str X) H):CallB g d (.builtin "str.join") [.str (Str.ofString "").cps.toList,.lst (cs.map V.str++[.str (slc s (some (sp:Int)) (some (p:Int)))])] H Q:=by
 have e:X=(cs++[(s.drop sp).take (p - sp)]).flatten:=by rw [h.h4,List.append_nil,List.flatten_append,List.flatten_singleton]
 rw [slc_nat,lit_nil,show cs.map V.str++[V.str ((s.drop sp).take (p - sp))]=(cs++[(s.drop sp).take (p - sp)]).map V.str by rw [List.map_append]; rfl]
 rw [e] at hX q
 refine CB.join ?_ q
 rw [List.length_append]
 exact ar 4 [_,_,_,_] (.im (.le .v0 (.n 20000)) (.im (.le .v1 (.m 2 .v2)) (.im (.le .v3 (.n 10000)) (.im (.le .v2 .v3) (.le (.a .v0 (.a .v1 .n1)) (.n 1000000)))))) rfl hX h.h3 hl h.h2
end
inductive J34 (s:List Nat) (i:Nat) (H:AH) (a:Addr):Nat→Loc→AH→Prop
 | mk (p:Nat) {sp:Nat} {cs:List (List Nat)} {cv:V} (h:Ch s (ident (s.drop i)).1 p sp cs (ident (s.drop p)).1) (h5:i+(ident (s.drop i)).2=p+(ident (s.drop p)).2) :
  J34 s i H a (s.length - p) [("css",.str s),("pos",.int p),("chunks",.ref a),("length",.int s.length),("start_pos",.int sp),("c",cv)] ((a,.lst (cs.map V.str))::H)
inductive Q34 (s:List Nat) (i:Nat) (H:AH) (a:Addr):R→Loc→AH→Prop
 | mk {sp:Nat} {cs:List (List Nat)} {cv:V} (h:Ch s (ident (s.drop i)).1 (i+(ident (s.drop i)).2) sp cs []) :
  Q34 s i H a .next [("css",.str s),("pos",.int ((i+(ident (s.drop i)).2:Nat):Int)),("chunks",.ref a),("length",.int s.length),("start_pos",.int sp),("c",cv)] ((a,.lst (cs.map V.str))::H)
section
variable {s:List Nat} {i:Nat} {H:AH} {a:Addr} {p sp n:Nat} {cs:List (List Nat)} {cv:V} (h:Ch s (ident (s.drop i)).1 p sp cs (ident (s.drop p)).1) (h5:i+(ident (s.drop i)).2=p+(ident (s.drop p)).2)
include h h5
theorem J34.nm (hg:s[p]?=some n) (hn:isNm n=true):J34 s i H a (s.length - (p+1)) [("css",.str s),("pos",.int ((p+1:Nat):Int)),("chunks",.ref a),("length",.int s.length),("start_pos",.int sp),("c",cv)] ((a,.lst (cs.map V.str))::H):=by
 rw [drop_cons hg,ident_cons,if_pos hn] at h h5
 exact .mk _ (h.one hg) (h5.trans (AR.h61 _ _))
theorem J34.esc (hg:s[p]?=some n) (hn:isNm n=false) (he:escOk (s.drop p)=true):J34 s i H a (s.length - (p+1+(esc (s.drop (p+1))).2)) [("css",.str s),("pos",.int ((p+1+(esc (s.drop (p+1))).2:Nat):Int)),("chunks",.ref a),("length",.int s.length),("start_pos",.int ((p+1+(esc (s.drop (p+1))).2:Nat):Int)),("c",cv)] ((a,.lst (cs.map V.str++[V.str (slc s (some (sp:Int)) (some (p:Int)))]++[V.str [(esc (s.drop (p+1))).1]]))::H):=by
 rw [drop_cons hg] at he
 rw [drop_cons hg,ident_cons,if_neg (nf hn),if_pos he,List.drop_drop] at h h5
 rw [Ch.map]
 exact .mk _ (h.esc (esc_in hg)) (h5.trans (by exact ar 3 [_,_,_] (.eq (.a .v0 (.a (.a .v1 .v2) .n1)) (.a (.a (.a .v0 .n1) .v2) .v1)) rfl))
theorem Q34.of (e:ident (s.drop p)=([],0)):Q34 s i H a .next [("css",.str s),("pos",.int p),("chunks",.ref a),("length",.int s.length),("start_pos",.int sp),("c",cv)] ((a,.lst (cs.map V.str))::H):=by
 rw [e] at h h5
 subst h5
 exact .mk h
end
theorem C34 {w:World} {g:Gx} (G:GG w g) {H:AH} {s:List Nat} {i:Nat} {Q:V→AH→Prop} (hl:s.length≤10000) (hi:i≤s.length) (q:Q (.tup [.str (ident (s.drop i)).1,.int ((i+(ident (s.drop i)).2:Nat):Int)]) H):Call g 3 (.ref 649) [.str s,.int i] H Q:=by
 have hl':s.length≤1000000:=by exact AR.h296 _ hl
 refine Call.def_ (dv:=[]) (D34 G) rfl ⟨rfl,fun _ h=>nomatch h⟩ ?_
 walk_at"n"
 refine Ss.consK ?_
 walk_at"A"
 refine E.lstA ?_
 walk_at"A"
 refine ⟨by simp,fun a=>?_⟩
 walk_at"A"
 refine S.mono (S.while_ (Q:=Q34 s i H a) (J:=J34 s i H a) ?_ (s.length - i) (.mk i (Ch.start hi) rfl)) ?_
 ·intro m lo' H' h
  obtain ⟨p,h,h5⟩:=h
  refine T.to (decide (p < s.length)) ?_ ?_
  ·walk_at"A"
   exact ⟨rfl,rfl⟩
  refine kt (fun hp=>?_) (fun hp=>?_)
  ·obtain ⟨n,hg⟩:∃ n,s[p]?=some n:=⟨_,List.getElem?_eq_getElem (of_decide_eq_true hp)⟩
   walk_at"A"
   refine S.ifb (isNm n) ?_ (fun hn=>?_) (fun hn=>?_)
   ·refine T.or2b (isUp n||isLow n||isDig n||n==95||n==45) ?_ (fun h=>?_) (fun h=>?_)
    ·walk_at"A"
     first | (refine ⟨?_,rfl⟩; rw [cs_name] <;> rfl; done) | (rw [cs_name]; exact ⟨rfl,rfl⟩)
    ·exact ⟨by unfold isNm; rw [h]; rfl,rfl⟩
    ·walk_at"A"
     refine ⟨?_,rfl⟩
     unfold isNm
     rw [h,Bool.false_or]
     exact decide_eq_decide.mpr (by exact AR.h18 _)
   ·walk_at"A"
    exact ⟨_,by exact AR.h195 _ _ (Ar.t hp),J34.nm h h5 hg hn⟩
   ·walk_at"A"
    refine S.ifb (escOk (s.drop p)) ?_ (fun he=>?_) (fun he=>?_)
    ·refine T.and2b (n==92) ?_ (fun h=>?_) (fun h=>?_)
     ·walk_at"A"
      first | (refine ⟨?_,rfl⟩; rw [eqc_bs] <;> rfl; done) | (rw [eqc_bs]; exact ⟨rfl,rfl⟩)
     ·exact ⟨(esc_no hg h).symm,rfl⟩
     ·walk_at"A"
      exact ⟨esc_yes hg h,rfl⟩
    ·walk_at"A"
     refine E.appendH (by walk_at"d") (h.room hl) ?_
     walk_at"A"
     refine ⟨rfl,?_⟩
     walk_at"A"
     refine S.unpackK ["c","pos"] (by repeat constructor) ?_
     walk_at"A"
     refine (C36 G hl' ?_).le (by walk_at"m")
     walk_at"A"
     refine E.appendH (by walk_at"d") (h.room2 hl) ?_
     walk_at"A"
     refine ⟨rfl,?_⟩
     walk_at"A"
     exact ⟨_,by exact ar 3 [_,_,_] (.im (.lt .v1 .v0) (.lt (.s .v0 (.a (.a .v1 .n1) .v2)) (.s .v0 .v1))) rfl (Ar.t hp),J34.esc h h5 hg hn he⟩
    ·walk_at"A"
     exact Q34.of h h5 (ident_stop hg hn he)
  ·walk_at"A"
   exact Q34.of h h5 (by rw [List.drop_eq_nil_iff.mpr (by exact AR.h326 _ _ (Ar.g ‹_›)),ident_nil])
 ·intro r lo' H' h
  obtain ⟨h⟩:=h
  try dsimp only
  walk_at"A"
  refine E.appendH (by walk_at"d") (h.room hl) ?_
  walk_at"A"
  refine ⟨rfl,?_⟩
  refine Ss.freezeH ?_
  walk_at"j"
  walk_at"A"
  refine CB.joinCh h ?_ hl ?_
  ·have h7:=ident_len _ (s.drop i) (Nat.le_refl _)
   rw [List.length_drop] at h7
   exact ar 4 [_,_,_,_] (.im (.an (.le .v0 .v1) (.le .v1 (.s .v2 .v3))) (.im (.le .v2 (.n 10000)) (.le .v0 (.n 20000)))) rfl h7 hl
  walk_at"A"
  exact q
end
section
set_option genSizeOf false
set_option genInjectivity false
structure QR where
 val:List Nat
 n:Nat
 st:Nat
noncomputable def qstr (q:Nat):List Nat→QR
 | []=>⟨[],0,2⟩
 | c::t=>if c==q then ⟨[],1,0⟩
  else if c==92 then (if t==[] then ⟨[],1,2⟩
   else if t.head?==some 10 then ⟨(qstr q (t.drop 1)).val,(qstr q (t.drop 1)).n+2,(qstr q (t.drop 1)).st⟩
   else ⟨(esc t).1::(qstr q (t.drop (esc t).2)).val,(qstr q (t.drop (esc t).2)).n+(esc t).2+1,(qstr q (t.drop (esc t).2)).st⟩)
  else if c==10 then ⟨[],0,1⟩
  else ⟨c::(qstr q t).val,(qstr q t).n+1,(qstr q t).st⟩
 termination_by r=>r.length
 decreasing_by
  all_goals simp
  all_goals (first | exact ar 1 [_] (.lt (.s .v0 .n1) (.a .v0 .n1)) rfl | exact AR.h72 _ _)
theorem qstr_nil (q:Nat):qstr q []=⟨[],0,2⟩:=by rw [qstr]
theorem qstr_cons (q c:Nat) (t:List Nat):qstr q (c::t)=if c==q then ⟨[],1,0⟩
  else if c==92 then (if t==[] then ⟨[],1,2⟩
   else if t.head?==some 10 then ⟨(qstr q (t.drop 1)).val,(qstr q (t.drop 1)).n+2,(qstr q (t.drop 1)).st⟩
   else ⟨(esc t).1::(qstr q (t.drop (esc t).2)).val,(qstr q (t.drop (esc t).2)).n+(esc t).2+1,(qstr q (t.drop (esc t).2)).st⟩)
  else if c==10 then ⟨[],0,1⟩
  else ⟨c::(qstr q t).val,(qstr q t).n+1,(qstr q t).st⟩:=by rw [qstr]
noncomputable def qres (i:Nat) (r:QR):V:=match r.st with
 | 0=>.tup [.str r.val,.int ((i+r.n:Nat):Int),.none]
 | 1=>.tup [.none,.int ((i+r.n:Nat):Int),.tup [.str (lit "bad-string"),.str (lit "Bad string token")]]
 | _=>.tup [.str r.val,.int ((i+r.n:Nat):Int),.tup [.str (lit "eof-in-string"),.str (lit "EOF in string")]]
set_option tactic.hygienic true in
theorem qstr_len (q:Nat):∀ (n:Nat) (r:List Nat),r.length≤n→(qstr q r).val.length≤(qstr q r).n∧(qstr q r).n≤r.length
 | _,[],_=>by rw [qstr_nil]; simp
 | 0,_::_,h=>by simp at h
 | n+1,c::t,h=>by
  have ht:t.length≤n:=by simpa using h
  first | (refine' val1 ?_ ?_; rw [qstr_cons]) | (refine' val2 ?_ ?_; rw [qstr_cons]) | rw [qstr_cons]
  walk_at"l"
  ·(try walk_at"k"); simp
  ·walk_at"l"
   ·walk_at"l"
    ·(try walk_at"k"); simp
    ·rename_i h0
     have h0:0 < t.length:=List.length_pos_iff.mpr (by simpa using h0)
     walk_at"l"
     ·have:=qstr_len q n (t.drop 1) (by rw [List.length_drop]; exact ar 2 [_,_] (.im (.le .v0 .v1) (.le (.s .v0 .n1) .v1)) rfl ht)
      rw [List.length_drop] at this
      (try walk_at"k"); simp only [List.length_cons]; exact ar 3 [_,_,_] (.im (.an (.le .v0 .v1) (.le .v1 (.s .v2 .n1))) (.im (.lt .n0 .v2) (.an (.le .v0 (.a .v1 (.n 2))) (.le (.a .v1 (.n 2)) (.a .v2 .n1))))) rfl this h0
     ·have:=qstr_len q n (t.drop (esc t).2) (by rw [List.length_drop]; exact AR.h210 _ _ _ ht)
      have h2:=esc_le t
      rw [List.length_drop] at this
      (try walk_at"k"); simp only [List.length_cons]; exact AR.h354 _ _ _ _ this h2
   ·walk_at"l"
    ·(try walk_at"k"); simp
    ·have:=qstr_len q n t ht
     (try walk_at"k"); simp only [List.length_cons]; exact AR.h123 _ _ _ this
structure N37 (s:List Nat) (j:Nat) (R:QR) (p sp:Nat) (cs:List (List Nat)) (B:QR):Prop where
 h:Ch s R.val p sp cs B.val
 h5:j+R.n=p+B.n
 hst:R.st=B.st
section
variable {s:List Nat} {j p sp n:Nat} {R B:QR} {cs:List (List Nat)}
theorem N37.one (h:N37 s j R p sp cs ⟨n::B.val,B.n+1,B.st⟩) (hg:s[p]?=some n):N37 s j R (p+1) sp cs B:=⟨h.h.one hg,h.h5.trans (AR.h61 _ _),h.hst⟩
theorem N37.esc {k:Nat} (h:N37 s j R p sp cs ⟨n::B.val,B.n+k+1,B.st⟩) (hk:p+1+k≤s.length):N37 s j R (p+1+k) (p+1+k) (cs++[(s.drop sp).take (p - sp)]++[[n]]) B :=
 ⟨h.h.esc hk,h.h5.trans (by exact ar 3 [_,_,_] (.eq (.a .v0 (.a (.a .v1 .v2) .n1)) (.a (.a (.a .v0 .n1) .v2) .v1)) rfl),h.hst⟩
theorem N37.skip {k:Nat} {Y:List Nat} {m st:Nat} (h:N37 s j R p sp cs ⟨Y,m+k,st⟩) (hk:p+k≤s.length) (h1:1≤k):N37 s j R (p+k) (p+k) (cs++[(s.drop sp).take (p - sp)]) ⟨Y,m,st⟩:=by
 refine ⟨⟨Nat.le_refl _,hk,?_,?_⟩,h.h5.trans (by exact ar 3 [_,_,_] (.eq (.a .v0 (.a .v1 .v2)) (.a (.a .v0 .v2) .v1)) rfl),h.hst⟩
 ·have h3:=h.h.h3
  rw [List.length_append]
  exact ar 3 [_,_,_] (.im (.le .v0 (.m 2 .v1)) (.im (.le .n1 .v2) (.le (.a .v0 .n1) (.m 2 (.a .v1 .v2))))) rfl h3 h1
 ·rw [h.h.h4,List.flatten_append,List.flatten_singleton,Nat.sub_self,List.take_zero,List.append_nil]
theorem Ch.map1 {s:List Nat} {p sp:Nat} {cs:List (List Nat)}:cs.map V.str++[V.str (slc s (some (sp:Int)) (some (p:Int)))]=(cs++[(s.drop sp).take (p - sp)]).map V.str:=by
 rw [slc_nat,List.map_append]; rfl
end
noncomputable def B35 (q:Nat) (s:List Nat) (p:Nat):QR:=qstr q (s.drop p)
section
variable {q n:Nat} {s:List Nat} {p:Nat} (hg:s[p]?=some n)
include hg
theorem B35_q (h:(n==q)=true):B35 q s p=⟨[],1,0⟩:=by unfold B35; rw [drop_cons hg,qstr_cons,if_pos h]
theorem B35_bs (h:(n==q)=false) (h2:(n==92)=true):B35 q s p=if s.drop (p+1)==[] then ⟨[],1,2⟩
   else if (s.drop (p+1)).head?==some 10 then ⟨(qstr q ((s.drop (p+1)).drop 1)).val,(qstr q ((s.drop (p+1)).drop 1)).n+2,(qstr q ((s.drop (p+1)).drop 1)).st⟩
   else ⟨(esc (s.drop (p+1))).1::(B35 q s (p+1+(esc (s.drop (p+1))).2)).val,(B35 q s (p+1+(esc (s.drop (p+1))).2)).n+(esc (s.drop (p+1))).2+1,(B35 q s (p+1+(esc (s.drop (p+1))).2)).st⟩:=by
 unfold B35; rw [drop_cons hg,qstr_cons,if_neg (nf h),if_pos h2,List.drop_drop (i:=(esc (s.drop (p+1))).2)]
theorem B35_eof (h:(n==q)=false) (h2:(n==92)=true) (hb:s.length≤p+1):B35 q s p=⟨(B35 q s (p+1)).val,(B35 q s (p+1)).n+1,(B35 q s (p+1)).st⟩:=by
 have e:s.drop (p+1)=[]:=List.drop_eq_nil_iff.mpr hb
 rw [B35_bs hg h h2,e,if_pos (by rfl)]
 unfold B35; rw [e,qstr_nil]
theorem B35_nl2 {n2:Nat} (h:(n==q)=false) (h2:(n==92)=true) (hg2:s[p+1]?=some n2) (h3:(n2==10)=true):B35 q s p=⟨(B35 q s (p+2)).val,(B35 q s (p+2)).n+2,(B35 q s (p+2)).st⟩:=by
 rw [B35_bs hg h h2,drop_cons hg2,if_neg (by simp),if_pos (by simpa using h3)]; rfl
theorem B35_esc {n2:Nat} (h:(n==q)=false) (h2:(n==92)=true) (hg2:s[p+1]?=some n2) (h3:(n2==10)=false):B35 q s p=⟨(esc (s.drop (p+1))).1::(B35 q s (p+1+(esc (s.drop (p+1))).2)).val,(B35 q s (p+1+(esc (s.drop (p+1))).2)).n+(esc (s.drop (p+1))).2+1,(B35 q s (p+1+(esc (s.drop (p+1))).2)).st⟩:=by
 rw [B35_bs hg h h2,if_neg (by rw [drop_cons hg2]; simp),if_neg (by rw [drop_cons hg2]; simpa using h3)]
theorem B35_nl (h:(n==q)=false) (h2:(n==92)=false) (h3:(n==10)=true):B35 q s p=⟨[],0,1⟩:=by
 unfold B35; rw [drop_cons hg,qstr_cons,if_neg (nf h),if_neg (nf h2),if_pos h3]
theorem B35_one (h:(n==q)=false) (h2:(n==92)=false) (h3:(n==10)=false):B35 q s p=⟨n::(B35 q s (p+1)).val,(B35 q s (p+1)).n+1,(B35 q s (p+1)).st⟩:=by
 unfold B35; rw [drop_cons hg,qstr_cons,if_neg (nf h),if_neg (nf h2),if_neg (nf h3)]
end
noncomputable abbrev L35 (s:List Nat) (q p:Nat) (ev:V) (a:Addr) (sv cv:V):Loc:=[("css",.str s),("pos",.int p),("error",ev),("quote",.str [q]),("chunks",.ref a),("length",.int s.length),("start_pos",sv),("c",cv)]
inductive J35 (q:Nat) (s:List Nat) (j:Nat) (H:AH) (a:Addr):Nat→Loc→AH→Prop
 | mk (p:Nat) {sp:Nat} {cs:List (List Nat)} {cv:V} (h:N37 s j (B35 q s j) p sp cs (B35 q s p)) :
  J35 q s j H a (s.length - p) (L35 s q p .none a (.int sp) cv) ((a,.lst (cs.map V.str))::H)
inductive Q35 (q:Nat) (s:List Nat) (j:Nat) (H:AH) (a:Addr):R→Loc→AH→Prop
 | ret {v:V} {lo:Loc} (e:v=qres j (B35 q s j)):Q35 q s j H a (.ret v) lo H
 | next {cv sv ev:V} {p:Nat} {cs:List (List Nat)} (e:.tup [.str cs.flatten,.int p,ev]=qres j (B35 q s j)) (h:cs.flatten.length+cs.length≤1000000) (hev:ev≠.unset):Q35 q s j H a .next (L35 s q p ev a sv cv) ((a,.lst (cs.map V.str))::H)
section
variable {q:Nat} {s:List Nat} {j p sp:Nat} {H:AH} {a:Addr} {cs:List (List Nat)}
theorem Q35.small (hl:s.length≤10000) {k st:Nat} (h:N37 s j (B35 q s j) p sp cs ⟨[],k,st⟩):(B35 q s j).val=(cs++[(s.drop sp).take (p - sp)]).flatten∧(cs++[(s.drop sp).take (p - sp)]).flatten.length+(cs++[(s.drop sp).take (p - sp)]).length≤1000000:=by
 have e:(B35 q s j).val=(cs++[(s.drop sp).take (p - sp)]).flatten:=by rw [h.h.h4,List.append_nil,List.flatten_append,List.flatten_singleton]
 have h7:=qstr_len q _ (s.drop j) (Nat.le_refl _)
 rw [List.length_drop] at h7
 refine ⟨e,?_⟩
 rw [← e,List.length_append]
 exact ar 6 [_,_,_,_,_,_] (.im (.le .v0 .v5) (.im (.le .v5 (.s .v3 .v4)) (.im (.le .v1 (.m 2 .v2)) (.im (.le .v2 .v3) (.im (.le .v3 (.n 10000)) (.le (.a .v0 (.a .v1 .n1)) (.n 1000000))))))) rfl h7.1 h7.2 h.h.h3 h.h.h2 hl
theorem Q35.qq {cv sv:V} (hl:s.length≤10000) (h:N37 s j (B35 q s j) p sp cs ⟨[],1,0⟩):Q35 q s j H a .next (L35 s q (p+1) .none a sv cv) ((a,.lst (cs.map V.str++[V.str (slc s (some (sp:Int)) (some (p:Int)))]))::H):=by
 have k:=Q35.small hl h
 rw [Ch.map1]
 refine .next ?_ k.2 nofun
 unfold qres; rw [h.hst,h.h5,k.1]; rfl
theorem Q35.eof {cv sv:V} (hl:s.length≤10000) (h:N37 s j (B35 q s j) p sp cs ⟨[],0,2⟩):Q35 q s j H a .next (L35 s q p (.tup [.str (lit "eof-in-string"),.str (lit "EOF in string")]) a sv cv) ((a,.lst (cs.map V.str++[V.str (slc s (some (sp:Int)) (some (p:Int)))]))::H):=by
 have k:=Q35.small hl h
 rw [Ch.map1]
 refine .next ?_ k.2 nofun
 unfold qres; rw [h.hst,h.h5,k.1]; rfl
theorem Q35.nl {lo:Loc} (h:N37 s j (B35 q s j) p sp cs ⟨[],0,1⟩):Q35 q s j H a (.ret (.tup [.none,.int p,.tup [.str (lit "bad-string"),.str (lit "Bad string token")]])) lo H:=by
 refine .ret ?_
 unfold qres; rw [h.hst,h.h5]; rfl
end
theorem B35_nil {q:Nat} {s:List Nat} {p:Nat} (h:s.length≤p):B35 q s p=⟨[],0,2⟩:=by unfold B35; rw [List.drop_eq_nil_iff.mpr h,qstr_nil]
theorem C35 {w:World} {g:Gx} (G:GG w g) {H:AH} {s:List Nat} {i q₀:Nat} {Q:V→AH→Prop} (hl:s.length≤10000) (hi:s[i]?=some q₀) (hq:q₀=34∨q₀=39) (q:Q (qres (i+1) (qstr q₀ (s.drop (i+1)))) H):Call g 3 (.ref 656) [.str s,.int i] H Q:=by
 have hl':s.length≤1000000:=by exact AR.h296 _ hl
 refine Call.def_ (dv:=[]) (D35 G) rfl ⟨rfl,fun _ h=>nomatch h⟩ ?_
 walk_at"n"
 refine Ss.consK ?_
 walk_at"A"
 refine ⟨?_,?_⟩
 ·rw [show (Str.ofString "\"").cps.toList=[34] from by decide +kernel,show (Str.ofString "'").cps.toList=[39] from by decide +kernel]
  rcases hq with rfl | rfl <;> decide
 try dsimp only
 walk_at"A"
 refine E.lstA ?_
 walk_at"A"
 refine ⟨by simp,fun a=>?_⟩
 walk_at"A"
 refine S.mono (S.while_ (Q:=Q35 q₀ s (i+1) H a) (J:=J35 q₀ s (i+1) H a) ?_ (s.length - (i+1)) (.mk (i+1) ⟨Ch.start (List.getElem?_eq_some_iff.mp hi).1,rfl,rfl⟩)) ?_
 ·clear q
  intro m lo' H' h
  obtain ⟨p,h⟩:=h
  refine T.to (decide (p < s.length)) ?_ ?_
  ·walk_at"A"
   exact ⟨rfl,rfl⟩
  refine kt (fun hp=>?_) (fun hp=>?_)
  ·obtain ⟨n,hg⟩:∃ n,s[p]?=some n:=⟨_,List.getElem?_eq_getElem (of_decide_eq_true hp)⟩
   walk_at"A"
   refine S.ifb (n==q₀) ?_ (fun hn=>?_) (fun hn=>?_)
   ·walk_at"A"
    exact ⟨by simp,rfl⟩
   ·rw [B35_q hg hn] at h
    walk_at"A"
    refine E.appendH (by walk_at"d") (h.h.room hl) ?_
    walk_at"A"
    refine ⟨rfl,?_⟩
    walk_at"A"
    exact Q35.qq hl h
   walk_at"A"
   refine S.ifb (n==92) ?_ (fun hn2=>?_) (fun hn2=>?_)
   ·walk_at"A"
    first | (refine ⟨?_,rfl⟩; rw [eqc_bs] <;> rfl; done) | (rw [eqc_bs]; exact ⟨rfl,rfl⟩)
   ·walk_at"A"
    refine E.appendH (by walk_at"d") (h.h.room hl) ?_
    walk_at"A"
    refine ⟨rfl,?_⟩
    walk_at"A"
    refine S.ifb (decide (p+1 < s.length)) ?_ (fun hb=>?_) (fun hb=>?_)
    ·walk_at"A"
     exact ⟨rfl,rfl⟩
    ·obtain ⟨n2,hg2⟩:∃ n,s[p+1]?=some n:=⟨_,List.getElem?_eq_getElem (of_decide_eq_true hb)⟩
     walk_at"A"
     refine S.ifb (n2==10) ?_ (fun hc=>?_) (fun hc=>?_)
     ·walk_at"A"
      first | (refine ⟨?_,rfl⟩; rw [eqc_nl] <;> rfl; done) | (rw [eqc_nl]; exact ⟨rfl,rfl⟩)
     ·rw [B35_nl2 hg hn hn2 hg2 hc] at h
      walk_at"A"
      rw [Ch.map1]
      exact ⟨_,by exact ar 2 [_,_] (.im (.lt .v1 .v0) (.lt (.s .v0 (.a .v1 (.n 2))) (.s .v0 .v1))) rfl (Ar.t hp),.mk (p+2) (h.skip (of_decide_eq_true hb) (by decide))⟩
     ·rw [B35_esc hg hn hn2 hg2 hc] at h
      walk_at"A"
      refine S.unpackK ["c","pos"] (by repeat constructor) ?_
      walk_at"A"
      refine (C36 G hl' ?_).le (by walk_at"m")
      walk_at"A"
      refine E.appendH (by walk_at"d") (h.h.room2 hl) ?_
      walk_at"A"
      refine ⟨rfl,?_⟩
      walk_at"A"
      rw [Ch.map]
      exact ⟨_,by exact ar 3 [_,_,_] (.im (.lt .v1 .v0) (.lt (.s .v0 (.a (.a .v1 .n1) .v2)) (.s .v0 .v1))) rfl (Ar.t hp),.mk _ (h.esc (esc_in hg))⟩
    ·rw [B35_eof hg hn hn2 (Nat.le_of_not_lt (of_decide_eq_false hb))] at h
     walk_at"A"
     rw [Ch.map1]
     exact ⟨_,by exact AR.h195 _ _ (Ar.t hp),.mk (p+1) (h.skip (of_decide_eq_true hp) (by decide))⟩
   ·walk_at"A"
    refine S.ifb (n==10) ?_ (fun hn3=>?_) (fun hn3=>?_)
    ·walk_at"A"
     first | (refine ⟨?_,rfl⟩; rw [eqc_nl] <;> rfl; done) | (rw [eqc_nl]; exact ⟨rfl,rfl⟩)
    ·rw [B35_nl hg hn hn2 hn3] at h
     refine Ss.freezeH ?_
     walk_at"j"
     walk_at"A"
     exact Q35.nl h
    ·rw [B35_one hg hn hn2 hn3] at h
     walk_at"A"
     exact ⟨_,by exact AR.h195 _ _ (Ar.t hp),.mk (p+1) (h.one hg)⟩
  ·rw [B35_nil (Nat.le_of_not_lt fun x=>hp (decide_eq_true x))] at h
   walk_at"A"
   refine E.appendH (by walk_at"d") (h.h.room hl) ?_
   walk_at"A"
   refine ⟨rfl,?_⟩
   walk_at"A"
   exact Q35.eof hl h
 ·intro r lo' H' h
  induction h with
  | ret e=>subst e; exact q
  | next e h hev =>
   try dsimp only
   refine Ss.freezeH ?_
   walk_at"j"
   walk_at"A"
   first | (refine' val1 ?_ ?_; rw [lit_nil]) | (refine' val2 ?_ ?_; rw [lit_nil]) | rw [lit_nil]
   refine CB.join h ?_
   walk_at"A"
   have q:Q (qres (i+1) (B35 q₀ s (i+1))) H:=q
   rw [← e] at q
   exact q
end
noncomputable def digs (r:List Nat):Nat:=(r.takeWhile isDig).length
theorem digs_cons (c:Nat) (t:List Nat):digs (c::t)=if isDig c then digs t+1 else 0:=by
 unfold digs; rw [List.takeWhile_cons]; split <;> simp
theorem dig_one (r:List Nat):digTab.any (eqStr (r.take 1))=headP isDig r:=by
 have e:digTab=[48,49,50,51,52,53,54,55,56,57].map fun n=>V.str [n]:=by
  unfold digTab lit
  (try walk_at"k"); simp only [List.map_cons,List.map_nil]
  congr 1
 cases r with
 | nil=>decide +kernel
 | cons c t =>
  have h:[48,49,50,51,52,53,54,55,56,57].contains c=isDig c:=by
   rw [← inStr_one]
   exact set_of (p:=isDig) (by decide +kernel) (by decide +kernel) (fun n h=>Bool.and_eq_false_iff.mpr (.inr (decide_eq_false (Nat.not_le.mpr (Nat.lt_of_lt_of_le (by decide:57 < 128) h))))) c
  rw [e,List.any_map]
  refine Eq.trans ?_ h
  rw [List.contains_eq_any_beq]
  exact congrArg (List.any _) (funext fun n=>(beq_one n c).trans BEq.comm)
theorem cmDig {r:List Nat} {k:Bool→Prop} (h:k (headP isDig r)):CmpM .In (.str (r.take 1)) (.tup digTab) k:=cm13 (by rw [dig_one]; exact h) (by decide +kernel)
theorem digTab_is {w:World} {g:Gx} (G:GG w g) (M:Mem) (hM:∀ a o,g.B.get? a=some o→M a o):Is M (.ref 606) (.tup digTab):=by
 obtain ⟨xs,n,h1,h2⟩:=G.hK.dig
 exact .tup (hM _ _ (G.ok.kin _ _ h1)) (h2 M)
noncomputable def isSg (n:Nat):Bool:=n==45||n==43
noncomputable def isE (n:Nat):Bool:=n==101||n==69
noncomputable def expo (r:List Nat):Nat :=
 if headP isE r then
  (if headP isDig (r.drop (1+if headP isSg (r.drop 1) then 1 else 0)) then (1+if headP isSg (r.drop 1) then 1 else 0)+digs (r.drop (1+if headP isSg (r.drop 1) then 1 else 0)) else 0)
 else 0
noncomputable def numEnd (r:List Nat):Option (Nat × Bool) :=
 let a:=if headP isSg r then 1 else 0
 let b:=a+digs (r.drop a)
 if headP (·==46) (r.drop b)&&headP isDig (r.drop (b+1)) then
  (let c:=b+2+digs (r.drop (b+2)); some (c+expo (r.drop c),false))
 else if b=a then none
 else some (b+expo (r.drop b),expo (r.drop b)==0)
noncomputable def numV (i:Nat):Option (Nat × Bool)→V
 | none=>.tup [.none,.bool false]
 | some (n,p)=>.tup [.int ((i+n:Nat):Int),.bool p]
noncomputable def stAt (i j:Nat):Stmt:=hdS ((bodyAt i).drop j)
set_option tactic.hygienic true in
theorem S.run {g:Gx} {Γ:Fx} {d:Nat} {H:AH} {test:Expr} {body:List Stmt} {pos:Pos} {Q:R→Loc→AH→Prop} {L:Nat→Loc} {s:List Nat} {p:Nat→Bool} (i:Nat)
  (ht:∀ e,T g Γ d test (L e) H fun b H'=>b=headP p (s.drop e)∧H'=H)
  (hb:∀ e,Ss g Γ d body (L e) H fun r lo' H'=>r=.next∧lo'=L (e+1)∧H'=H)
  (k:Q .next (L (i+((s.drop i).takeWhile p).length)) H):S g Γ d (.While test body [] pos) (L i) H Q:=by
 refine S.while_ (J:=fun m lo' H'=>∃ e,lo'=L e∧H'=H∧m=s.length - e∧e+((s.drop e).takeWhile p).length=i+((s.drop i).takeWhile p).length) ?_ (s.length - i) ⟨i,rfl,rfl,rfl,rfl⟩
 rintro m lo' H' ⟨e,rfl,rfl,rfl,he⟩
 refine T.to (headP p (s.drop e)) (ht e) ?_
 cases hd:s.drop e with
 | nil =>
  rw [hd] at he
  first | refine kno (by exact bn) ?_ | rw [if_neg (by exact bn)]
  refine Ss.nil ?_
  rw [← he] at k
  exact k
 | cons c t =>
  rw [hd,List.takeWhile_cons] at he
  have hg:=get_of_drop hd
  walk_at"l"
  ·rename_i h
   have h:p c=true:=h
   rw [if_pos h] at he
   refine (hb e).mono ?_
   rintro r lo' H' ⟨rfl,rfl,rfl⟩
   exact ⟨s.length - (e+1),by walk_at"m",e+1,rfl,rfl,rfl,by rw [hg.2.1]; simp at he; exact ar 4 [_,_,_,_] (.im (.eq (.a .v0 (.a .v1 .n1)) (.a .v2 .v3)) (.eq (.a (.a .v0 .n1) .v1) (.a .v2 .v3))) rfl he⟩
  ·rename_i h
   have h:p c=false:=eq_false_of_ne_true h
   rw [if_neg (nf h)] at he
   refine Ss.nil ?_
   rw [← he] at k
   exact k
theorem sg_one (r:List Nat):([V.str (Str.ofString "-").cps.toList,V.str (Str.ofString "+").cps.toList].any (eqStr (r.take 1)))=headP isSg r:=by
 rw [show (Str.ofString "-").cps.toList=[45] from by decide +kernel,show (Str.ofString "+").cps.toList=[43] from by decide +kernel]
 exact any2 r fun _=>rfl
theorem e_one (r:List Nat):([V.str (Str.ofString "e").cps.toList,V.str (Str.ofString "E").cps.toList].any (eqStr (r.take 1)))=headP isE r:=by
 rw [show (Str.ofString "e").cps.toList=[101] from by decide +kernel,show (Str.ofString "E").cps.toList=[69] from by decide +kernel]
 exact any2 r fun _=>rfl
theorem dot_one (r:List Nat):(r.take 1==(Str.ofString ".").cps.toList)=headP (·==46) r:=by
 rw [show (Str.ofString ".").cps.toList=[46] from by decide +kernel]
 cases r with
 | nil=>rfl
 | cons c t=>exact beq_one c 46
noncomputable abbrev L29 (s:List Nat) (i:Nat) (ev sv pv wv:V):Loc:=[("css",.str s),("pos",.int i),("end",ev),("start",sv),("plain",pv),("power",wv)]
theorem int_beq (a b:Nat):((a:Int)==(b:Int))=decide (a=b):=by
 rw [Bool.eq_iff_iff,beq_iff_eq,decide_eq_true_eq]; exact Int.ofNat_inj
noncomputable def sgN (r:List Nat):Nat:=if headP isSg r then 1 else 0
theorem expo_not {r:List Nat} (h:headP isE r=false):expo r=0:=by unfold expo; rw [if_neg (nf h)]
theorem expo_no {s:List Nat} {m:Nat} (h:headP isE (s.drop m)=true) (h2:headP isDig (s.drop (m+1+sgN (s.drop (m+1))))=false):expo (s.drop m)=0:=by
 unfold expo
 rw [if_pos h,List.drop_drop,List.drop_drop,← Nat.add_assoc,if_neg (by rw [← Bool.not_eq_true] at h2; exact h2)]
theorem expo_yes {s:List Nat} {m:Nat} (h:headP isE (s.drop m)=true) (h2:headP isDig (s.drop (m+1+sgN (s.drop (m+1))))=true):m+expo (s.drop m)=m+1+sgN (s.drop (m+1))+digs (s.drop (m+1+sgN (s.drop (m+1))))∧(expo (s.drop m)==0)=false:=by
 have e:expo (s.drop m)=1+sgN (s.drop (m+1))+digs (s.drop (m+1+sgN (s.drop (m+1)))):=by
  unfold expo
  rw [if_pos h,List.drop_drop,List.drop_drop,← Nat.add_assoc,if_pos (show headP isDig (s.drop (m+1+if headP isSg (s.drop (m+1)) then 1 else 0))=true from h2)]; rfl
 rw [e]
 refine ⟨ar 3 [_,_,_] (.eq (.a .v0 (.a (.a .n1 .v1) .v2)) (.a (.a (.a .v0 .n1) .v1) .v2)) rfl,?_⟩
 rw [beq_eq_false_iff_ne]
 exact ar 2 [_,_] (.nt (.eq (.a (.a .n1 .v0) .v1) .n0)) rfl
section
variable {w:World} {g:Gx} (G:GG w g) {d:Nat} {s:List Nat} {i:Nat} {H:AH} {Q:R→Loc→AH→Prop} (hl':s.length≤1000000)
include G hl'
theorem X29 {m:Nat} {pl:Bool} {sv:V} (q:∀ pw,Q .next (L29 s i (.int ((m+expo (s.drop m):Nat):Int)) sv (.bool (pl&&(expo (s.drop m)==0))) pw) H) :
  S g Γ29 d (stAt 28 6) (L29 s i (.int (m:Nat)) sv (.bool pl) .unset) H Q:=by
 refine S.ifb (headP isE (s.drop m)) ?_ (fun h=>?_) (fun h=>?_)
 ·walk_at"A"
  rw [slc_one]
  exact ⟨e_one _,rfl⟩
 ·walk_at"A"
  refine S.to (L29 s i (.int (m:Nat)) sv (.bool pl) (.int ((m+1+sgN (s.drop (m+1)):Nat):Int))) H ?_ ?_
  ·clear q
   unfold sgN
   refine S.ifb (headP isSg (s.drop (m+1))) ?_ (fun h=>?_) (fun h=>?_)
   ·walk_at"A"
    rw [slc_one]
    exact ⟨sg_one _,rfl⟩
   ·rw [if_pos h]
    walk_at"A"
    exact ⟨rfl,rfl,rfl⟩
   ·rw [if_neg (nf h)]
    walk_at"A"
    exact ⟨rfl,rfl,rfl⟩
  try dsimp only
  walk_at"A"
  refine S.ifb (headP isDig (s.drop (m+1+sgN (s.drop (m+1))))) ?_ (fun h2=>?_) (fun h2=>?_)
  ·walk_at"A"
   refine E.glob (by walk_at"d") (fun M hM=>⟨_,digTab_is G M hM,?_⟩)
   rw [slc_one]
   exact cmDig ⟨rfl,rfl⟩
  ·have q:=q (.int ((m+1+sgN (s.drop (m+1)):Nat):Int))
   rw [(expo_yes h h2).1,(expo_yes h h2).2,Bool.and_false] at q
   unfold digs at q
   generalize m+1+sgN (s.drop (m+1))=k at q
   walk_at"A"
   refine S.run (p:=isDig) (s:=s) (L:=fun e=>L29 s i (.int (e:Nat)) sv (.bool false) (.int (k:Nat))) k (fun e=>?_) (fun e=>?_) ?_
   ·walk_at"A"
    refine E.glob (by walk_at"d") (fun M hM=>⟨_,digTab_is G M hM,?_⟩)
    rw [slc_one]
    exact cmDig ⟨rfl,rfl⟩
   ·walk_at"A"
    exact ⟨rfl,rfl,rfl⟩
   walk_at"A"
   exact q
  ·have q:=q (.int ((m+1+sgN (s.drop (m+1)):Nat):Int))
   rw [expo_no h h2,show (pl&&(0==0))=pl from Bool.and_true pl] at q
   walk_at"A"
   exact q
 ·have q:=q .unset
  rw [expo_not h,show (pl&&(0==0))=pl from Bool.and_true pl] at q
  walk_at"A"
  exact q
theorem Y29 {m a:Nat} (q:Q .next (L29 s i (.int ((m+digs (s.drop m):Nat):Int)) (.int (a:Nat)) .unset .unset) H) :
  S g Γ29 d (stAt 28 3) (L29 s i (.int (m:Nat)) (.int (a:Nat)) .unset .unset) H Q:=by
 refine S.run (p:=isDig) (s:=s) (L:=fun e=>L29 s i (.int (e:Nat)) (.int (a:Nat)) .unset .unset) m (fun e=>?_) (fun e=>?_) q
 ·walk_at"A"
  refine E.glob (by walk_at"d") (fun M hM=>⟨_,digTab_is G M hM,?_⟩)
  rw [slc_one]
  exact cmDig ⟨rfl,rfl⟩
 ·walk_at"A"
  exact ⟨rfl,rfl,rfl⟩
end
section
variable {s:List Nat} {i m:Nat}
theorem numEnd_eq:numEnd (s.drop i)=if headP (·==46) (s.drop (i+(sgN (s.drop i)+digs (s.drop (i+sgN (s.drop i))))))&&headP isDig (s.drop (i+(sgN (s.drop i)+digs (s.drop (i+sgN (s.drop i))))+1)) then
   some (sgN (s.drop i)+digs (s.drop (i+sgN (s.drop i)))+2+digs (s.drop (i+(sgN (s.drop i)+digs (s.drop (i+sgN (s.drop i))))+2))+expo (s.drop (i+(sgN (s.drop i)+digs (s.drop (i+sgN (s.drop i)))+2+digs (s.drop (i+(sgN (s.drop i)+digs (s.drop (i+sgN (s.drop i))))+2))))),false)
  else if sgN (s.drop i)+digs (s.drop (i+sgN (s.drop i)))=sgN (s.drop i) then none else some (sgN (s.drop i)+digs (s.drop (i+sgN (s.drop i)))+expo (s.drop (i+(sgN (s.drop i)+digs (s.drop (i+sgN (s.drop i)))))),expo (s.drop (i+(sgN (s.drop i)+digs (s.drop (i+sgN (s.drop i))))))==0):=by
 unfold numEnd
 simp only [List.drop_drop]
 rfl
variable (hm:i+(sgN (s.drop i)+digs (s.drop (i+sgN (s.drop i))))=m)
include hm
theorem ne_pt (h:(headP (·==46) (s.drop m)&&headP isDig (s.drop (m+1)))=true):numV i (numEnd (s.drop i))=.tup [.int ((m+2+digs (s.drop (m+2))+expo (s.drop (m+2+digs (s.drop (m+2)))):Nat):Int),.bool false]:=by
 rw [numEnd_eq,hm,if_pos h]
 have hc:i+(sgN (s.drop i)+digs (s.drop (i+sgN (s.drop i)))+2+digs (s.drop (m+2)))=m+2+digs (s.drop (m+2)):=by rw [← Nat.add_assoc,← Nat.add_assoc,hm]
 unfold numV
 dsimp only
 rw [hc,← Nat.add_assoc i,hc]
theorem ne_none (h:(headP (·==46) (s.drop m)&&headP isDig (s.drop (m+1)))=false) (h2:m=i+sgN (s.drop i)):numV i (numEnd (s.drop i))=.tup [.none,.bool false]:=by
 rw [numEnd_eq,hm,if_neg (nf h),if_pos (Nat.add_left_cancel (hm.trans h2))]; rfl
theorem ne_int (h:(headP (·==46) (s.drop m)&&headP isDig (s.drop (m+1)))=false) (h2:m≠i+sgN (s.drop i)):numV i (numEnd (s.drop i))=.tup [.int ((m+expo (s.drop m):Nat):Int),.bool (expo (s.drop m)==0)]:=by
 rw [numEnd_eq,hm,if_neg (nf h),if_neg (fun e=>h2 (by rw [← hm,e]))]
 unfold numV
 dsimp only
 rw [← Nat.add_assoc i,hm]
end
theorem C29 {w:World} {g:Gx} (G:GG w g) {H:AH} {s:List Nat} {i:Nat} {Q:V→AH→Prop} (hl:s.length≤10000) (q:Q (numV i (numEnd (s.drop i))) H):Call g 1 (.ref 613) [.str s,.int i] H Q:=by
 have hl':s.length≤1000000:=by exact AR.h296 _ hl
 refine Call.def_ (dv:=[]) (D29 G) rfl ⟨rfl,fun _ h=>nomatch h⟩ ?_
 walk_at"n"
 refine Ss.consK ?_
 walk_at"A"
 refine S.to (L29 s i (.int ((i+sgN (s.drop i):Nat):Int)) .unset .unset .unset) H ?_ ?_
 ·clear q
  unfold sgN
  refine S.ifb (headP isSg (s.drop i)) ?_ (fun h=>?_) (fun h=>?_)
  ·walk_at"A"
   rw [slc_one]
   exact ⟨sg_one _,rfl⟩
  ·rw [if_pos h]
   walk_at"A"
   exact ⟨rfl,rfl,rfl⟩
  ·rw [if_neg (nf h)]
   walk_at"A"
   exact ⟨rfl,rfl,rfl⟩
 try dsimp only
 walk_at"A"
 refine Y29 G hl' ?_
 have hm:i+(sgN (s.drop i)+digs (s.drop (i+sgN (s.drop i))))=i+sgN (s.drop i)+digs (s.drop (i+sgN (s.drop i))):=(Nat.add_assoc _ _ _).symm
 generalize i+sgN (s.drop i)+digs (s.drop (i+sgN (s.drop i)))=m at hm
 walk_at"A"
 refine S.ifb (headP (·==46) (s.drop m)&&headP isDig (s.drop (m+1))) ?_ (fun h=>?_) (fun h=>?_)
 ·refine T.and2b (headP (·==46) (s.drop m)) ?_ (fun h=>?_) (fun h=>?_)
  ·walk_at"A"
   rw [slc_one]
   exact ⟨dot_one _,rfl⟩
  ·rw [h]; exact ⟨rfl,rfl⟩
  ·rw [h,Bool.true_and]
   walk_at"A"
   refine E.glob (by walk_at"d") (fun M hM=>⟨_,digTab_is G M hM,?_⟩)
   rw [show m+2=m+1+1 from rfl,slc_one]
   exact cmDig ⟨rfl,rfl⟩
 ·rw [ne_pt hm h] at q
  unfold digs at q
  walk_at"A"
  refine S.run (p:=isDig) (s:=s) (L:=fun e=>L29 s i (.int (e:Nat)) (.int ((i+sgN (s.drop i):Nat):Int)) (.bool false) .unset) (m+2) (fun e=>?_) (fun e=>?_) ?_
  ·walk_at"A"
   refine E.glob (by walk_at"d") (fun M hM=>⟨_,digTab_is G M hM,?_⟩)
   rw [slc_one]
   exact cmDig ⟨rfl,rfl⟩
  ·walk_at"A"
   exact ⟨rfl,rfl,rfl⟩
  walk_at"A"
  refine X29 G hl' fun pw=>?_
  walk_at"A"
  exact q
 ·walk_at"A"
  refine S.ifb (decide (m=i+sgN (s.drop i))) ?_ (fun h2=>?_) (fun h2=>?_)
  ·walk_at"A"
   exact ⟨int_beq _ _,rfl⟩
  ·rw [ne_none hm h (of_decide_eq_true h2)] at q
   walk_at"A"
   exact q
  ·rw [ne_int hm h (of_decide_eq_false h2)] at q
   walk_at"A"
   refine X29 G hl' fun pw=>?_
   walk_at"A"
   exact q
section
set_option genSizeOf false
set_option genInjectivity false
theorem cb_ws {g:Gx} {d:Nat} {H:AH} {s:List Nat} {i:Nat} {Q:V→AH→Prop} (h:Q (.bool (headP isWs (s.drop i))) H):CallB g d (.builtin "str.startswith") [.str s,.tup [.str (Str.ofString " ").cps.toList,.str (Str.ofString "\n").cps.toList,.str (Str.ofString "\t").cps.toList],.int (i:Int)] H Q:=by
 first | (refine' val1 ?_ ?_; rw [show (Str.ofString " ").cps.toList=[32] from by decide +kernel,show (Str.ofString "\n").cps.toList=[10] from by decide +kernel,show (Str.ofString "\t").cps.toList=[9] from by decide +kernel]) | (refine' val2 ?_ ?_; rw [show (Str.ofString " ").cps.toList=[32] from by decide +kernel,show (Str.ofString "\n").cps.toList=[10] from by decide +kernel,show (Str.ofString "\t").cps.toList=[9] from by decide +kernel]) | rw [show (Str.ofString " ").cps.toList=[32] from by decide +kernel,show (Str.ofString "\n").cps.toList=[10] from by decide +kernel,show (Str.ofString "\t").cps.toList=[9] from by decide +kernel]
 refine CB.swT (ys:=[[32],[10],[9]]) ?_
 (try walk_at"k"); simp only [List.any_cons,List.any_nil,swAt_nat _ _ _ (List.cons_ne_nil _ _),Bool.or_false]
 have e:((s.drop i).take [32].length==[32]||((s.drop i).take [10].length==[10]||(s.drop i).take [9].length==[9]))=headP isWs (s.drop i):=by
  cases s.drop i with
  | nil=>rfl
  | cons c t =>
   rw [Bool.eq_iff_iff]
   (try walk_at"k"); simp [headP,isWs]
   exact ar 1 [_] (.iff (.or (.eq .v0 (.n 32)) (.or (.eq .v0 (.n 10)) (.eq .v0 (.n 9)))) (.or (.or (.eq .v0 (.n 32)) (.eq .v0 (.n 10))) (.eq .v0 (.n 9)))) rfl
 rw [e]; exact h
noncomputable def wsN (r:List Nat):Nat:=(r.takeWhile isWs).length
noncomputable def isBadU (n:Nat):Bool:=n==34||n==39||n==40||decide (n≤8)||n==11||(decide (14≤n)&&decide (n≤31))||n==127
theorem cs_badU (n:Nat):inStr [n] (Str.ofString "\"'(\x00\x01\x02\x03\x04\x05\x06\x07\x08\x0b\x0e\x0f\x10\x11\x12\x13\x14\x15\x16\x17\x18\x19\x1a\x1b\x1c\x1d\x1e\x1f\x7f").cps.toList=isBadU n :=
 set_of (p:=isBadU) (by decide +kernel) (by decide +kernel) (fun n h=>by simp [isBadU]; exact ar 1 [_] (.im (.le (.n 128) .v0) (.an (.an (.an (.an (.an (.an (.nt (.eq .v0 (.n 34))) (.nt (.eq .v0 (.n 39)))) (.nt (.eq .v0 (.n 40)))) (.lt (.n 8) .v0)) (.nt (.eq .v0 (.n 11)))) (.im (.le (.n 14) .v0) (.lt (.n 31) .v0))) (.nt (.eq .v0 (.n 127))))) rfl h) n
noncomputable def urlB:List Nat→QR
 | []=>⟨[],0,2⟩
 | c::t=>if c==41 then ⟨[],1,0⟩
  else if isWs c then ⟨[],1,1⟩
  else if escOk (c::t) then ⟨(esc t).1::(urlB (t.drop (esc t).2)).val,(urlB (t.drop (esc t).2)).n+(esc t).2+1,(urlB (t.drop (esc t).2)).st⟩
  else if isBadU c then ⟨[],1,3⟩
  else ⟨c::(urlB t).val,(urlB t).n+1,(urlB t).st⟩
 termination_by r=>r.length
 decreasing_by
  all_goals simp
  all_goals exact AR.h72 _ _
theorem urlB_nil:urlB []=⟨[],0,2⟩:=by rw [urlB]
theorem urlB_cons (c:Nat) (t:List Nat):urlB (c::t)=if c==41 then ⟨[],1,0⟩
  else if isWs c then ⟨[],1,1⟩
  else if escOk (c::t) then ⟨(esc t).1::(urlB (t.drop (esc t).2)).val,(urlB (t.drop (esc t).2)).n+(esc t).2+1,(urlB (t.drop (esc t).2)).st⟩
  else if isBadU c then ⟨[],1,3⟩
  else ⟨c::(urlB t).val,(urlB t).n+1,(urlB t).st⟩:=by rw [urlB]
theorem urlB_len:∀ (n:Nat) (r:List Nat),r.length≤n→(urlB r).val.length≤(urlB r).n∧(urlB r).n≤r.length
 | _,[],_=>by rw [urlB_nil]; simp
 | 0,_::_,h=>by simp at h
 | n+1,c::t,h=>by
  have ht:t.length≤n:=by simpa using h
  first | (refine' val1 ?_ ?_; rw [urlB_cons]) | (refine' val2 ?_ ?_; rw [urlB_cons]) | rw [urlB_cons]
  walk_at"l"
  ·(try walk_at"k"); simp
  ·walk_at"l"
   ·(try walk_at"k"); simp
   ·walk_at"l"
    ·have:=urlB_len n (t.drop (esc t).2) (by rw [List.length_drop]; exact AR.h210 _ _ _ ht)
     have h2:=esc_le t
     rw [List.length_drop] at this
     (try walk_at"k"); simp only [List.length_cons]; exact AR.h354 _ _ _ _ this h2
    ·walk_at"l"
     ·(try walk_at"k"); simp
     ·have:=urlB_len n t ht
      (try walk_at"k"); simp only [List.length_cons]; exact AR.h123 _ _ _ this
noncomputable def urlRem:List Nat→Nat
 | []=>0
 | [_]=>1
 | c::e::t=>if c==92&&e==41 then urlRem t+2 else if c==41 then 1 else urlRem (e::t)+1
theorem urlRem_cons (c e:Nat) (t:List Nat):urlRem (c::e::t)=if c==92&&e==41 then urlRem t+2 else if c==41 then 1 else urlRem (e::t)+1:=rfl
theorem urlRem_le:∀ r:List Nat,urlRem r≤r.length
 | []=>Nat.le_refl _
 | [_]=>Nat.le_refl _
 | c::e::t=>by
  have h1:=urlRem_le t
  have h2:=urlRem_le (e::t)
  rw [urlRem_cons]
  simp only [List.length_cons] at h2 ⊢
  walk_at"l"
  ·exact ar 2 [_,_] (.im (.le .v0 .v1) (.le (.a .v0 (.n 2)) (.a (.a .v1 .n1) .n1))) rfl h1
  ·split <;> (first | exact ar 1 [_] (.le .n1 (.a (.a .v0 .n1) .n1)) rfl | exact ar 2 [_,_] (.im (.le .v0 (.a .v1 .n1)) (.le (.a .v0 .n1) (.a (.a .v1 .n1) .n1))) rfl h2)
structure UR where
 val:Option (List Nat)
 n:Nat
 err:Nat
noncomputable def urlT (r1:List Nat) (k:Nat) (b:QR):UR:=match b.st with
 | 0=>⟨some b.val,k+b.n,0⟩
 | 2=>⟨some b.val,k+b.n,1⟩
 | 1=>match r1.drop (b.n+wsN (r1.drop b.n)) with
  | []=>⟨some b.val,k+b.n+wsN (r1.drop b.n),1⟩
  | e::t=>if e==41 then ⟨some b.val,k+b.n+wsN (r1.drop b.n)+1,0⟩ else ⟨none,k+b.n+wsN (r1.drop b.n)+urlRem (e::t),2⟩
 | _=>⟨none,k+b.n+urlRem (r1.drop b.n),2⟩
theorem urlT0 {r1:List Nat} {k:Nat} {b:QR} (h:b.st=0):urlT r1 k b=⟨some b.val,k+b.n,0⟩:=by unfold urlT; rw [h]; rfl
theorem urlT1 {r1:List Nat} {k:Nat} {b:QR} (h:b.st=1):urlT r1 k b=match r1.drop (b.n+wsN (r1.drop b.n)) with
  | []=>⟨some b.val,k+b.n+wsN (r1.drop b.n),1⟩
  | e::t=>if e==41 then ⟨some b.val,k+b.n+wsN (r1.drop b.n)+1,0⟩ else ⟨none,k+b.n+wsN (r1.drop b.n)+urlRem (e::t),2⟩:=by unfold urlT; rw [h]; rfl
theorem urlT2 {r1:List Nat} {k:Nat} {b:QR} (h:b.st=2):urlT r1 k b=⟨some b.val,k+b.n,1⟩:=by unfold urlT; rw [h]; rfl
theorem urlT3 {r1:List Nat} {k:Nat} {b:QR} (h:b.st=3):urlT r1 k b=⟨none,k+b.n+urlRem (r1.drop b.n),2⟩:=by unfold urlT; rw [h]; rfl
noncomputable def urlR (r:List Nat):UR:=match r.drop (wsN r) with
 | []=>⟨some [],wsN r,1⟩
 | c::t=>if c==41 then ⟨some [],wsN r+1,0⟩ else urlT (c::t) (wsN r) (urlB (c::t))
noncomputable def optV:Option (List Nat)→V
 | none=>.none
 | some x=>.str x
noncomputable def errU:Nat→V
 | 0=>.none
 | 1=>.tup [.str (lit "eof-in-url"),.str (lit "EOF in URL")]
 | _=>.tup [.str (lit "bad-url"),.str (lit "bad URL token")]
noncomputable def uV (i:Nat) (u:UR):V:=.tup [optV u.val,.int ((i+u.n:Nat):Int),errU u.err]
noncomputable def isQt (n:Nat):Bool:=n==34||n==39
noncomputable def B37 (s:List Nat) (p:Nat):QR:=urlB (s.drop p)
section
variable {s:List Nat} {p n:Nat} (hg:s[p]?=some n)
include hg
theorem B37_rp (h:(n==41)=true):B37 s p=⟨[],1,0⟩:=by unfold B37; rw [drop_cons hg,urlB_cons,if_pos h]
theorem B37_ws (h:(n==41)=false) (h2:isWs n=true):B37 s p=⟨[],1,1⟩:=by unfold B37; rw [drop_cons hg,urlB_cons,if_neg (nf h),if_pos h2]
theorem B37_esc (h:(n==41)=false) (h2:isWs n=false) (h3:escOk (s.drop p)=true):B37 s p=⟨(esc (s.drop (p+1))).1::(B37 s (p+1+(esc (s.drop (p+1))).2)).val,(B37 s (p+1+(esc (s.drop (p+1))).2)).n+(esc (s.drop (p+1))).2+1,(B37 s (p+1+(esc (s.drop (p+1))).2)).st⟩:=by
 unfold B37; rw [drop_cons hg] at h3 ⊢; rw [urlB_cons,if_neg (nf h),if_neg (nf h2),if_pos h3,List.drop_drop]
theorem B37_bad (h:(n==41)=false) (h2:isWs n=false) (h3:escOk (s.drop p)=false) (h4:isBadU n=true):B37 s p=⟨[],1,3⟩:=by
 unfold B37; rw [drop_cons hg] at h3 ⊢; rw [urlB_cons,if_neg (nf h),if_neg (nf h2),if_neg (nf h3),if_pos h4]
theorem B37_one (h:(n==41)=false) (h2:isWs n=false) (h3:escOk (s.drop p)=false) (h4:isBadU n=false):B37 s p=⟨n::(B37 s (p+1)).val,(B37 s (p+1)).n+1,(B37 s (p+1)).st⟩:=by
 unfold B37; rw [drop_cons hg] at h3 ⊢; rw [urlB_cons,if_neg (nf h),if_neg (nf h2),if_neg (nf h3),if_neg (nf h4)]
end
theorem B37_nil {s:List Nat} {p:Nat} (h:s.length≤p):B37 s p=⟨[],0,2⟩:=by unfold B37; rw [List.drop_eq_nil_iff.mpr h,urlB_nil]
inductive J37 (s:List Nat) (j:Nat) (H:AH) (a:Addr):Nat→Loc→AH→Prop
 | mk (p:Nat) {sp:Nat} {cs:List (List Nat)} {cv:V} (h:N37 s j (B37 s j) p sp cs (B37 s p)) :
  J37 s j H a (s.length - p) [("css",.str s),("pos",.int p),("error",.none),("length",.int s.length),("c",cv),("value",.unset),("chunks",.ref a),("start_pos",.int sp)] ((a,.lst (cs.map V.str))::H)
noncomputable abbrev L37 (s:List Nat) (p:Nat) (cv vv ch sv:V):Loc:=[("css",.str s),("pos",.int p),("error",.none),("length",.int s.length),("c",cv),("value",vv),("chunks",ch),("start_pos",sv)]
inductive Q37 (s:List Nat) (i k:Nat) (H:AH):R→Loc→AH→Prop
 | ret {v:V} {lo:Loc} (e:v=uV i (urlT (s.drop (i+k)) k (B37 s (i+k)))):Q37 s i k H (.ret v) lo H
 | ws {cv ch sv:V} (h:(B37 s (i+k)).st=1):Q37 s i k H .next (L37 s (i+k+(B37 s (i+k)).n) cv (.str (B37 s (i+k)).val) ch sv) H
 | bad {cv ch sv:V} (h:(B37 s (i+k)).st=3):Q37 s i k H .next (L37 s (i+k+(B37 s (i+k)).n) cv .none ch sv) H
section
variable {s:List Nat} {i k p sp n:Nat} {cs:List (List Nat)} {H:AH}
theorem Q37.eof {lo:Loc} (h:N37 s (i+k) (B37 s (i+k)) p sp cs ⟨[],0,2⟩):Q37 s i k H (.ret (.tup [.str (B37 s (i+k)).val,.int p,.tup [.str (lit "eof-in-url"),.str (lit "EOF in URL")]])) lo H:=by
 refine .ret ?_
 rw [urlT2 h.hst]
 have:=h.h5
 show _=V.tup [.str _,.int ((i+(k+(B37 s (i+k)).n):Nat):Int),_]
 rw [← Nat.add_assoc,this]; rfl
theorem Q37.rp {lo:Loc} (h:N37 s (i+k) (B37 s (i+k)) p sp cs ⟨[],1,0⟩):Q37 s i k H (.ret (.tup [.str (B37 s (i+k)).val,.int ((p+1:Nat):Int),.none])) lo H:=by
 refine .ret ?_
 rw [urlT0 h.hst]
 have:=h.h5
 show _=V.tup [.str _,.int ((i+(k+(B37 s (i+k)).n):Nat):Int),_]
 rw [← Nat.add_assoc,this]; rfl
theorem Q37.blank {cv ch sv:V} (h:N37 s (i+k) (B37 s (i+k)) p sp cs ⟨[],1,1⟩):Q37 s i k H .next (L37 s (p+1) cv (.str (B37 s (i+k)).val) ch sv) H:=by
 have:=Q37.ws (H:=H) (cv:=cv) (ch:=ch) (sv:=sv) h.hst; rw [h.h5] at this; exact this
theorem Q37.badU {cv ch sv:V} (h:N37 s (i+k) (B37 s (i+k)) p sp cs ⟨[],1,3⟩):Q37 s i k H .next (L37 s (p+1) cv .none ch sv) H:=by
 have:=Q37.bad (H:=H) (cv:=cv) (ch:=ch) (sv:=sv) h.hst; rw [h.h5] at this; exact this
theorem B37_small (hl:s.length≤10000) (p:Nat):(B37 s p).val.length≤20000:=by
 have h:=urlB_len _ (s.drop p) (Nat.le_refl _)
 rw [List.length_drop] at h
 exact Nat.le_trans h.1 (Nat.le_trans h.2 (by exact ar 2 [_,_] (.im (.le .v0 (.n 10000)) (.le (.s .v0 .v1) (.n 20000))) rfl hl))
end
noncomputable def W37:Stmt:=hdS ((elB (elB ((bodyAt 36).drop 5))).drop 2)
theorem C37a {w:World} {g:Gx} (G:GG w g) {H:AH} {s:List Nat} {i k:Nat} {cv:V} {a:Addr} (hl:s.length≤10000) (hi:i+k≤s.length) :
  S g Γ37 2 W37 [("css",.str s),("pos",.int ((i+k:Nat):Int)),("error",.none),("length",.int s.length),("c",cv),("value",.unset),("chunks",.ref a),("start_pos",.int ((i+k:Nat):Int))] ((a,.lst [])::H) (Q37 s i k H):=by
 have hl':s.length≤1000000:=by exact AR.h296 _ hl
 refine S.while_ (J:=J37 s (i+k) H a) ?_ (s.length - (i+k)) (.mk (i+k) ⟨Ch.start hi,rfl,rfl⟩)
 intro m lo' H' h
 obtain ⟨p,h⟩:=h
 refine T.to true ?_ ?_
 ·walk_at"A"
  exact ⟨rfl,rfl⟩
 refine kpos rfl ?_
 walk_at"A"
 refine S.ifb (decide (p ≥ s.length)) ?_ (fun hp=>?_) (fun hp=>?_)
 ·walk_at"A"
  exact ⟨rfl,rfl⟩
 ·rw [B37_nil (of_decide_eq_true hp)] at h
  walk_at"A"
  refine E.appendH (by walk_at"d") (h.h.room hl) ?_
  walk_at"A"
  refine ⟨rfl,?_⟩
  refine Ss.freezeH ?_
  walk_at"j"
  walk_at"A"
  refine CB.joinCh h.h (B37_small hl _) hl ?_
  walk_at"A"
  exact Q37.eof h
 obtain ⟨n,hg⟩:∃ n,s[p]?=some n:=⟨_,List.getElem?_eq_getElem (Nat.lt_of_not_le (of_decide_eq_false hp))⟩
 walk_at"A"
 refine S.ifb (n==41) ?_ (fun h1=>?_) (fun h1=>?_)
 ·walk_at"A"
  first | (refine ⟨?_,rfl⟩; rw [eqc_rp] <;> rfl; done) | (rw [eqc_rp]; exact ⟨rfl,rfl⟩)
 ·rw [B37_rp hg h1] at h
  walk_at"A"
  refine E.appendH (by walk_at"d") (h.h.room hl) ?_
  walk_at"A"
  refine ⟨rfl,?_⟩
  refine Ss.freezeH ?_
  walk_at"j"
  walk_at"A"
  refine CB.joinCh h.h (B37_small hl _) hl ?_
  walk_at"A"
  exact Q37.rp h
 walk_at"A"
 refine S.ifb (isWs n) ?_ (fun h2=>?_) (fun h2=>?_)
 ·walk_at"A"
  first | (refine ⟨?_,rfl⟩; rw [cs_ws] <;> rfl; done) | (rw [cs_ws]; exact ⟨rfl,rfl⟩)
 ·rw [B37_ws hg h1 h2] at h
  walk_at"A"
  refine E.appendH (by walk_at"d") (h.h.room hl) ?_
  walk_at"A"
  refine ⟨rfl,?_⟩
  refine Ss.freezeH ?_
  walk_at"j"
  walk_at"A"
  refine CB.joinCh h.h (B37_small hl _) hl ?_
  walk_at"A"
  exact Q37.blank h
 walk_at"A"
 refine S.ifb (escOk (s.drop p)) ?_ (fun h3=>?_) (fun h3=>?_)
 ·refine T.and2b (n==92) ?_ (fun h=>?_) (fun h=>?_)
  ·walk_at"A"
   first | (refine ⟨?_,rfl⟩; rw [eqc_bs] <;> rfl; done) | (rw [eqc_bs]; exact ⟨rfl,rfl⟩)
  ·exact ⟨(esc_no hg h).symm,rfl⟩
  ·walk_at"A"
   exact ⟨esc_yes hg h,rfl⟩
 ·rw [B37_esc hg h1 h2 h3] at h
  walk_at"A"
  refine E.appendH (by walk_at"d") (h.h.room hl) ?_
  walk_at"A"
  refine ⟨rfl,?_⟩
  walk_at"A"
  refine S.unpackK ["c","pos"] (by repeat constructor) ?_
  walk_at"A"
  refine (C36 G hl' ?_).le (by walk_at"m")
  walk_at"A"
  refine E.appendH (by walk_at"d") (h.h.room2 hl) ?_
  walk_at"A"
  refine ⟨rfl,?_⟩
  walk_at"A"
  rw [Ch.map]
  exact ⟨_,by exact ar 3 [_,_,_] (.im (.nt (.le .v0 .v1)) (.lt (.s .v0 (.a (.a .v1 .n1) .v2)) (.s .v0 .v1))) rfl (Ar.f hp),.mk _ (h.esc (esc_in hg))⟩
 walk_at"A"
 refine S.ifb (isBadU n) ?_ (fun h4=>?_) (fun h4=>?_)
 ·walk_at"A"
  first | (refine ⟨?_,rfl⟩; rw [cs_badU] <;> rfl; done) | (rw [cs_badU]; exact ⟨rfl,rfl⟩)
 ·rw [B37_bad hg h1 h2 h3 h4] at h
  refine Ss.freezeH ?_
  walk_at"j"
  walk_at"A"
  exact Q37.badU h
 ·rw [B37_one hg h1 h2 h3 h4] at h
  walk_at"A"
  exact ⟨_,by exact ar 2 [_,_] (.im (.nt (.le .v0 .v1)) (.lt (.s .v0 (.a .v1 .n1)) (.s .v0 .v1))) rfl (Ar.f hp),.mk _ (h.one hg)⟩
inductive J37r (s:List Nat) (e:Nat) (cv vv ch sv:V) (H:AH):Nat→Loc→AH→Prop
 | mk (p:Nat) (h:p+urlRem (s.drop p)=e):J37r s e cv vv ch sv H (s.length - p) (L37 s p cv vv ch sv) H
theorem rem_two {s:List Nat} {p n e:Nat} (hg:s[p]?=some n) (h:(n==92&&(s.drop (p+1)).take 1==[41])=true) (he:p+urlRem (s.drop p)=e):p+2+urlRem (s.drop (p+2))=e:=by
 rw [drop_cons hg] at he
 rw [Bool.and_eq_true] at h
 cases ht:s.drop (p+1) with
 | nil=>rw [ht] at h; exact absurd h.2 (by decide)
 | cons c t =>
  rw [ht] at he h
  have hc:c=41:=by simpa using h.2
  have hn:n=92:=by simpa using h.1
  subst hc; subst hn
  rw [urlRem_cons,if_pos (by rfl)] at he
  rw [show s.drop (p+2)=t from (get_of_drop ht).2.1]
  exact ar 3 [_,_,_] (.im (.eq (.a .v0 (.a .v1 (.n 2))) .v2) (.eq (.a (.a .v0 (.n 2)) .v1) .v2)) rfl he
theorem rem_one {s:List Nat} {p n:Nat} (hg:s[p]?=some n) (h:(n==92&&(s.drop (p+1)).take 1==[41])=false):urlRem (s.drop p)=if n==41 then 1 else urlRem (s.drop (p+1))+1:=by
 rw [drop_cons hg]
 cases ht:s.drop (p+1) with
 | nil=>exact (ite_self 1).symm
 | cons c t =>
  rw [ht] at h
  rw [urlRem_cons,if_neg]
  simp at h ⊢
  exact h
theorem C37b {w:World} {g:Gx} (G:GG w g) {H:AH} {s:List Nat} {p:Nat} {cv vv ch sv:V} {Q:R→Loc→AH→Prop} (hl':s.length≤1000000) (q:Q .next (L37 s (p+urlRem (s.drop p)) cv vv ch sv) H) :
  S g Γ37 2 (stAt 36 7) (L37 s p cv vv ch sv) H Q:=by
 refine S.while_ (J:=J37r s (p+urlRem (s.drop p)) cv vv ch sv H) ?_ (s.length - p) (.mk p rfl)
 intro m lo' H' h
 obtain ⟨p',he⟩:=h
 refine T.to (decide (p' < s.length)) ?_ ?_
 ·walk_at"A"
  exact ⟨rfl,rfl⟩
 refine kt (fun hp=>?_) (fun hp=>?_)
 ·obtain ⟨n,hg⟩:∃ n,s[p']?=some n:=⟨_,List.getElem?_eq_getElem (of_decide_eq_true hp)⟩
  walk_at"A"
  refine S.ifb (n==92&&(s.drop (p'+1)).take 1==[41]) ?_ (fun h=>?_) (fun h=>?_)
  ·walk_at"A"
   rw [show (Str.ofString "\\)").cps.toList=[92,41] from by decide +kernel,swAt_nat _ _ _ (by simp),drop_cons hg]
   exact ⟨rfl,rfl⟩
  ·walk_at"A"
   exact ⟨_,by exact ar 2 [_,_] (.im (.lt .v1 .v0) (.lt (.s .v0 (.a .v1 (.n 2))) (.s .v0 .v1))) rfl (Ar.t hp),.mk _ (rem_two hg h he)⟩
  ·walk_at"A"
   rw [rem_one hg h] at he
   refine S.ifb (n==41) ?_ (fun h2=>?_) (fun h2=>?_)
   ·walk_at"A"
    first | (refine ⟨?_,rfl⟩; rw [eqc_rp] <;> rfl; done) | (rw [eqc_rp]; exact ⟨rfl,rfl⟩)
   ·rw [if_pos h2] at he
    walk_at"A"
    rw [← he] at q; exact q
   ·rw [if_neg (nf h2)] at he
    walk_at"A"
    exact ⟨_,by exact AR.h195 _ _ (Ar.t hp),.mk _ (by rw [← he]; exact ar 2 [_,_] (.eq (.a (.a .v0 .n1) .v1) (.a .v0 (.a .v1 .n1))) rfl)⟩
 ·rw [List.drop_eq_nil_iff.mpr (by exact AR.h326 _ _ (Ar.g ‹_›))] at he
  walk_at"A"
  rw [← he] at q; exact q
theorem urlT_ws {s:List Nat} {i k p2:Nat} (hst:(B37 s (i+k)).st=1) (e:i+k+(B37 s (i+k)).n+((s.drop (i+k+(B37 s (i+k)).n)).takeWhile isWs).length=p2):urlT (s.drop (i+k)) k (B37 s (i+k))=match s.drop p2 with
  | []=>⟨some (B37 s (i+k)).val,p2 - i,1⟩
  | e::t=>if e==41 then ⟨some (B37 s (i+k)).val,p2 - i+1,0⟩ else ⟨none,p2 - i+urlRem (e::t),2⟩:=by
 rw [urlT1 hst]
 subst e
 simp only [List.drop_drop,wsN]
 rw [show i+k+((B37 s (i+k)).n+(List.takeWhile isWs (List.drop (i+k+(B37 s (i+k)).n) s)).length)=i+k+(B37 s (i+k)).n+(List.takeWhile isWs (List.drop (i+k+(B37 s (i+k)).n) s)).length from (Nat.add_assoc _ _ _).symm,show k+(B37 s (i+k)).n+(List.takeWhile isWs (List.drop (i+k+(B37 s (i+k)).n) s)).length=i+k+(B37 s (i+k)).n+(List.takeWhile isWs (List.drop (i+k+(B37 s (i+k)).n) s)).length - i by exact ar 4 [_,_,_,_] (.eq (.a (.a .v1 .v2) .v3) (.s (.a (.a (.a .v0 .v1) .v2) .v3) .v0)) rfl]
theorem uV_sub {i p:Nat} {v:Option (List Nat)} {e:Nat} (h:i≤p):uV i ⟨v,p - i,e⟩=.tup [optV v,.int (p:Int),errU e]:=by
 unfold uV; dsimp only; rw [Nat.add_sub_cancel' h]
theorem C37w {w:World} {g:Gx} (G:GG w g) {H:AH} {s:List Nat} {i k:Nat} {cv ch sv:V} {Q:R→Loc→AH→Prop} (hl':s.length≤1000000) (hst:(B37 s (i+k)).st=1) (q:∀ lo,Q (.ret (uV i (urlT (s.drop (i+k)) k (B37 s (i+k))))) lo H) :
  Ss g Γ37 2 ((bodyAt 36).drop 6) (L37 s (i+k+(B37 s (i+k)).n) cv (.str (B37 s (i+k)).val) ch sv) H Q:=by
 refine Ss.consK (S.ifT ?_ ?_)
 ·walk_at"A"
  exact ⟨rfl,rfl⟩
 have hi:i≤i+k+(B37 s (i+k)).n:=by rw [Nat.add_assoc]; exact Nat.le_add_right _ _
 generalize he:(s.drop (i+k+(B37 s (i+k)).n)).takeWhile isWs=W
 have e:=urlT_ws (i:=i) (k:=k) hst rfl
 rw [he] at e
 rw [e] at q
 generalize i+k+(B37 s (i+k)).n=p at hi he q
 generalize (B37 s (i+k)).val=v at q
 clear e hst
 refine Ss.consK ?_
 refine S.run (p:=isWs) (s:=s) (L:=fun e=>L37 s e cv (.str v) ch sv) p (fun e=>?_) (fun e=>?_) ?_
 ·walk_at"A"
  exact cb_ws (tm2 ⟨rfl,rfl⟩)
 ·walk_at"A"
  exact ⟨rfl,rfl,rfl⟩
 rw [he]
 have hi:=Nat.le_trans hi (Nat.le_add_right p W.length)
 generalize p+W.length=p at q hi
 walk_at"A"
 refine S.ifb (decide (p < s.length)) ?_ (fun h=>?_) (fun h=>?_)
 ·walk_at"A"
  exact ⟨rfl,rfl⟩
 ·obtain ⟨n,hg⟩:∃ n,s[p]?=some n:=⟨_,List.getElem?_eq_getElem (of_decide_eq_true h)⟩
  rw [drop_cons hg] at q
  walk_at"A"
  refine S.ifb (n==41) ?_ (fun h=>?_) (fun h=>?_)
  ·walk_at"A"
   first | (refine ⟨?_,rfl⟩; rw [eqc_rp] <;> rfl; done) | (rw [eqc_rp]; exact ⟨rfl,rfl⟩)
  ·have e:=uV_sub (v:=some v) (e:=0) (Nat.le_succ_of_le hi)
   rw [Nat.succ_sub hi] at e
   dsimp only at q
   rw [if_pos h,e] at q
   walk_at"A"
   exact q _
  ·dsimp only at q
   rw [if_neg (nf h),← drop_cons hg] at q
   have e:=uV_sub (i:=i) (v:=none) (e:=2) (Nat.le_trans hi (Nat.le_add_right p (urlRem (s.drop p))))
   rw [Nat.sub_add_comm hi] at e
   rw [e] at q
   walk_at"A"
   refine C37b G hl' ?_
   walk_at"A"
   exact q _
 ·rw [List.drop_eq_nil_iff.mpr (Nat.le_of_not_lt (of_decide_eq_false h))] at q
  have e:=uV_sub (v:=some v) (e:=1) hi
  dsimp only at q
  rw [e] at q
  walk_at"A"
  refine S.ifT ?_ ?_
  ·walk_at"A"
   exact ⟨rfl,rfl⟩
  walk_at"A"
  exact q _
theorem C37n {w:World} {g:Gx} (G:GG w g) {H:AH} {s:List Nat} {i k:Nat} {cv ch sv:V} {Q:R→Loc→AH→Prop} (hl':s.length≤1000000) (hst:(B37 s (i+k)).st=3) (q:∀ lo,Q (.ret (uV i (urlT (s.drop (i+k)) k (B37 s (i+k))))) lo H) :
  Ss g Γ37 2 ((bodyAt 36).drop 6) (L37 s (i+k+(B37 s (i+k)).n) cv .none ch sv) H Q:=by
 refine Ss.consK (S.ifF ?_ ?_)
 ·walk_at"A"
  exact ⟨rfl,rfl⟩
 have e:uV i (urlT (s.drop (i+k)) k (B37 s (i+k)))=.tup [.none,.int ((i+k+(B37 s (i+k)).n+urlRem (s.drop (i+k+(B37 s (i+k)).n)):Nat):Int),errU 2]:=by
  rw [urlT3 hst,List.drop_drop]
  unfold uV
  dsimp only
  rw [← Nat.add_assoc,← Nat.add_assoc]; rfl
 rw [e] at q
 generalize i+k+(B37 s (i+k)).n=p at q
 walk_at"A"
 refine C37b G hl' ?_
 walk_at"A"
 exact q _
theorem C37 {w:World} {g:Gx} (G:GG w g) {H:AH} {s:List Nat} {i:Nat} {Q:V→AH→Prop} (hl:s.length≤10000) (hi:i≤s.length) (hq:headP isQt ((s.drop i).drop (wsN (s.drop i)))=false) (q:Q (uV i (urlR (s.drop i))) H):Call g 3 (.ref 670) [.str s,.int i] H Q:=by
 have hl':s.length≤1000000:=by exact AR.h296 _ hl
 refine Call.def_ (dv:=[]) (D37 G) rfl ⟨rfl,fun _ h=>nomatch h⟩ ?_
 walk_at"n"
 refine Ss.consK ?_
 walk_at"A"
 refine S.run (p:=isWs) (s:=s) (L:=fun e=>[("css",.str s),("pos",.int e),("error",.none),("length",.int s.length),("c",.unset),("value",.unset),("chunks",.unset),("start_pos",.unset)]) i (fun e=>?_) (fun e=>?_) ?_
 ·walk_at"A"
  exact cb_ws (tm2 ⟨rfl,rfl⟩)
 ·walk_at"A"
  exact ⟨rfl,rfl,rfl⟩
 try dsimp only
 unfold urlR wsN at q
 unfold wsN at hq
 have hk:(List.takeWhile isWs (List.drop i s)).length≤s.length - i:=by
  have:=(List.takeWhile_prefix (l:=List.drop i s) isWs).length_le
  rw [List.length_drop] at this; exact this
 generalize (List.takeWhile isWs (List.drop i s)).length=k at q hq hk
 rw [List.drop_drop] at q hq
 walk_at"A"
 refine S.ifb (decide (i+k ≥ s.length)) ?_ (fun h=>?_) (fun h=>?_)
 ·walk_at"A"
  exact ⟨rfl,rfl⟩
 ·have h:=of_decide_eq_true h
  rw [List.drop_eq_nil_iff.mpr h] at q
  walk_at"A"
  exact q
 have h:=of_decide_eq_false h
 have hp:i+k < s.length:=by exact ar 3 [_,_,_] (.im (.nt (.le .v2 (.a .v0 .v1))) (.lt (.a .v0 .v1) .v2)) rfl (Ar.f ‹_›)
 have hg:=List.getElem?_eq_getElem hp
 have hd:=drop_cons hg
 generalize s[i+k]=n at hg hd
 rw [hd] at q hq
 have hq:isQt n=false:=hq
 dsimp only at q
 walk_at"A"
 refine S.ifF ?_ ?_
 ·walk_at"A"
  rw [show (Str.ofString "\"").cps.toList=[34] from by decide +kernel,show (Str.ofString "'").cps.toList=[39] from by decide +kernel]
  refine ⟨?_,rfl⟩
  rw [← hq]
  exact any2 [n] fun _=>rfl
 walk_at"A"
 refine S.ifb (n==41) ?_ (fun h=>?_) (fun h=>?_)
 ·walk_at"A"
  first | (refine ⟨?_,rfl⟩; rw [eqc_rp] <;> rfl; done) | (rw [eqc_rp]; exact ⟨rfl,rfl⟩)
 ·rw [if_pos h] at q
  walk_at"A"
  exact q
 rw [if_neg (nf h)] at q
 walk_at"A"
 refine E.lstA ?_
 walk_at"A"
 refine ⟨by simp,fun a=>?_⟩
 walk_at"A"
 refine S.mono (C37a G hl (Nat.le_of_lt hp)) ?_
 intro r lo' H' h
 induction h with
 | ret e=>subst e; rw [← hd] at q; exact q
 | ws hst =>
  rw [← hd] at q
  try dsimp only
  refine Ss.nil ?_
  try dsimp only
  refine Ss.nil ?_
  exact C37w G hl' hst fun _=>q
 | bad hst =>
  rw [← hd] at q
  try dsimp only
  refine Ss.nil ?_
  try dsimp only
  refine Ss.nil ?_
  exact C37n G hl' hst fun _=>q
end
theorem T.andC {g:Gx} {Γ:Fx} {d:Nat} {lo:Loc} {H:AH} {x:Expr} {r:List Expr} {pos:Pos} {Q:Bool→AH→Prop} (b:Bool) (hx:T g Γ d x lo H fun v H₁=>v=b∧H₁=H) (h:b=false→Q false H) (h':b=true→T g Γ d (.BoolOp .And r pos) lo H Q):T g Γ d (.BoolOp .And (x::r) pos) lo H Q :=
 T.and (hx.mono fun v H₁ ⟨e,eH⟩=>by
  subst e; subst eH
  cases v with
  | false=>exact h rfl
  | true=>exact h' rfl)
theorem T.orC {g:Gx} {Γ:Fx} {d:Nat} {lo:Loc} {H:AH} {x:Expr} {r:List Expr} {pos:Pos} {Q:Bool→AH→Prop} (b:Bool) (hx:T g Γ d x lo H fun v H₁=>v=b∧H₁=H) (h:b=true→Q true H) (h':b=false→T g Γ d (.BoolOp .Or r pos) lo H Q):T g Γ d (.BoolOp .Or (x::r) pos) lo H Q :=
 T.or (hx.mono fun v H₁ ⟨e,eH⟩=>by
  subst e; subst eH
  cases v with
  | true=>exact h rfl
  | false=>exact h' rfl)
noncomputable def qRun (r:List Nat):List Nat:=((r.drop (hexRun r).length).take (6 - (hexRun r).length)).takeWhile (·==63)
structure RR where
 a:List Nat
 b:List Nat
 n:Nat
noncomputable def rng (r:List Nat):RR :=
 if qRun r≠[] then ⟨hexRun r++List.replicate (qRun r).length 48,hexRun r++List.replicate (qRun r).length 70,(hexRun r).length+(qRun r).length⟩
 else if headP (·==45) (r.drop (hexRun r).length)&&headP isHex (r.drop ((hexRun r).length+1)) then ⟨hexRun r,hexRun (r.drop ((hexRun r).length+1)),(hexRun r).length+1+(hexRun (r.drop ((hexRun r).length+1))).length⟩
 else ⟨hexRun r,hexRun r,(hexRun r).length⟩
theorem qRun_len (r:List Nat):(hexRun r).length+(qRun r).length≤6:=by
 have:=(List.takeWhile_prefix (l:=(r.drop (hexRun r).length).take (6 - (hexRun r).length)) (·==63)).length_le
 have h:=hexRun_len r
 rw [List.length_take] at this; unfold qRun; exact ar 3 [_,_,_] (.im (.le .v1 (.i (.s (.n 6) .v0) .v2)) (.im (.le .v0 (.n 6)) (.le (.a .v0 .v1) (.n 6)))) rfl this h
theorem hexRun_ne {r:List Nat} (h:headP isHex r=true):hexRun r≠[]:=by
 cases r with
 | nil=>cases h
 | cons c t =>
  have h:isHex c=true:=h
  unfold hexRun
  rw [List.take_succ_cons,List.takeWhile_cons,if_pos h]
  (try walk_at"k"); simp
set_option tactic.hygienic true in
theorem rng_ok (r:List Nat) (h:headP (fun n=>isHex n||n==63) r=true):((rng r).a≠[]∧(rng r).a.length≤6∧∀ c∈(rng r).a,isHex c=true)∧((rng r).b≠[]∧(rng r).b.length≤6∧∀ c∈(rng r).b,isHex c=true):=by
 have h1:=hexRun_hex r
 have h2:=qRun_len r
 have h3:=hexRun_len r
 have ne:qRun r=[]→hexRun r≠[]:=by
  intro e
  cases r with
  | nil=>cases h
  | cons c t =>
   by_cases hc:isHex c=true
   ·exact hexRun_ne hc
   ·have h:(isHex c||c==63)=true:=h
    rw [eq_false_of_ne_true hc,Bool.false_or] at h
    exfalso
    have hh:hexRun (c::t)=[]:=by
     unfold hexRun
     rw [List.take_succ_cons,List.takeWhile_cons,if_neg hc]
    unfold qRun at e
    rw [hh] at e
    simp only [List.length_nil,List.drop_zero,Nat.sub_zero,List.take_succ_cons,List.takeWhile_cons,h,if_true] at e
    cases e
 have pad:∀ x,isHex x=true→∀ c∈hexRun r++List.replicate (qRun r).length x,isHex c=true:=by
  intro x hx c hc
  rcases List.mem_append.mp hc with hc | hc
  ·exact h1 c hc
  ·rw [(List.mem_replicate.mp hc).2]; exact hx
 unfold rng
 walk_at"l"
 ·rename_i hq
  have:0 < (qRun r).length:=List.length_pos_iff.mpr hq
  refine ⟨⟨?_,?_,pad 48 (by decide)⟩,⟨?_,?_,pad 70 (by decide)⟩⟩
  ·intro e
   have:=congrArg List.length e
   rw [List.length_append,List.length_replicate,List.length_nil] at this; exact ar 2 [_,_] (.im (.eq (.a .v0 .v1) .n0) (.im (.lt .n0 .v1) .ff)) rfl this ‹_›
  ·(try walk_at"k"); simp; walk_at"m"
  ·intro e
   have:=congrArg List.length e
   rw [List.length_append,List.length_replicate,List.length_nil] at this; exact ar 2 [_,_] (.im (.eq (.a .v0 .v1) .n0) (.im (.lt .n0 .v1) .ff)) rfl this ‹_›
  ·(try walk_at"k"); simp; walk_at"m"
 ·rename_i hq
  have hq:qRun r=[]:=Classical.not_not.mp hq
  walk_at"l"
  ·rename_i h5
   rw [Bool.and_eq_true] at h5
   exact ⟨⟨ne hq,h3,h1⟩,⟨hexRun_ne h5.2,hexRun_len _,hexRun_hex _⟩⟩
  ·exact ⟨⟨ne hq,h3,h1⟩,⟨ne hq,h3,h1⟩⟩
theorem hexRun_le (r:List Nat):(hexRun r).length≤r.length:=by
 have:=congrArg List.length (hexRun_take r)
 rw [List.length_take] at this; exact ar 2 [_,_] (.im (.eq (.i .v0 .v1) .v0) (.le .v0 .v1)) rfl this
theorem min_nat {a b:Nat}:(if (b:Int) < (a:Int) then (b:Int) else (a:Int))=((min a b:Nat):Int):=by
 split <;> (first | exact ar 2 [_,_] (.im (.ilt .v0 .v1) (.ieq .v0 (.i .v1 .v0))) rfl ‹_› | exact ar 2 [_,_] (.im (.nt (.ilt .v1 .v0)) (.ieq .v0 (.i .v0 .v1))) rfl ‹_›)
theorem rep_flat (n c:Nat):(List.replicate n [c]).flatten=List.replicate n c:=by
 induction n with
 | zero=>rfl
 | succ n ih=>rw [List.replicate_succ,List.flatten_cons,ih]; rfl
theorem headP_take {p:Nat→Bool} {s:List Nat} {m e:Nat}:headP p ((s.take m).drop e)=(decide (e < m)&&headP p (s.drop e)):=by
 rw [List.drop_take]
 by_cases h:e < m
 ·rw [decide_eq_true h,Bool.true_and]
  cases s.drop e with
  | nil=>simp
  | cons c t =>
   obtain ⟨k,hk⟩:∃ k,m - e=k+1:=⟨m - e - 1,by exact ar 2 [_,_] (.im (.lt .v1 .v0) (.eq (.s .v0 .v1) (.a (.s (.s .v0 .v1) .n1) .n1))) rfl h⟩
   rw [hk]; rfl
 ·rw [decide_eq_false h,Bool.false_and,show m - e=0 by exact ar 2 [_,_] (.im (.nt (.lt .v1 .v0)) (.eq (.s .v0 .v1) .n0)) rfl h]
  rfl
theorem take_min {s:List Nat} {i n:Nat}:(s.take (min (i+n) s.length)).drop i=(s.drop i).take n:=by
 rw [List.drop_take]
 apply List.ext_getElem?
 intro k
 (try walk_at"k"); simp only [List.getElem?_take,List.getElem?_drop]
 by_cases hk:i+k < s.length
 ·by_cases hb:k < n
  ·rw [if_pos (by exact ar 4 [_,_,_,_] (.im (.lt (.a .v1 .v0) .v3) (.im (.lt .v0 .v2) (.lt .v0 (.s (.i (.a .v1 .v2) .v3) .v1)))) rfl hk hb),if_pos hb]
  ·rw [if_neg (by exact ar 4 [_,_,_,_] (.im (.nt (.lt .v0 .v2)) (.nt (.lt .v0 (.s (.i (.a .v1 .v2) .v3) .v1)))) rfl hb),if_neg hb]
 ·rw [List.getElem?_eq_none (by exact ar 3 [_,_,_] (.im (.nt (.lt (.a .v1 .v2) .v0)) (.le .v0 (.a .v1 .v2))) rfl hk)]
  split <;> split <;> rfl
theorem C38 {w:World} {g:Gx} (G:GG w g) {H:AH} {s:List Nat} {i:Nat} {Q:V→AH→Prop} (hl:s.length≤10000) (hq:headP (fun n=>isHex n||n==63) (s.drop i)=true) (q:Q (.tup [.int (hexVal (rng (s.drop i)).a:Nat),.int (hexVal (rng (s.drop i)).b:Nat),.int ((i+(rng (s.drop i)).n:Nat):Int)]) H):Call g 3 (.ref 677) [.str s,.int i] H Q:=by
 have hl':s.length≤1000000:=by exact AR.h296 _ hl
 refine Call.def_ (dv:=[]) (D38 G) rfl ⟨rfl,fun _ h=>nomatch h⟩ ?_
 walk_at"n"
 refine Ss.consK ?_
 walk_at"A"
 refine CB.min ?_
 first | (refine' val1 ?_ ?_; rw [min_nat]) | (refine' val2 ?_ ?_; rw [min_nat]) | rw [min_nat]
 walk_at"A"
 have ok:=rng_ok _ hq
 refine S.run (p:=isHex) (s:=s.take (min (i+6) s.length)) (L:=fun e=>[("css",.str s),("pos",.int e),("length",.int s.length),("start_pos",.int i),("max_pos",.int ((min (i+6) s.length:Nat):Int)),("start",.unset),("question_marks",.unset),("end",.unset)]) i (fun e=>?_) (fun e=>?_) ?_
 ·first | (refine' val1 ?_ ?_; rw [headP_take]) | (refine' val2 ?_ ?_; rw [headP_take]) | rw [headP_take]
  refine T.and2b (decide (e < min (i+6) s.length)) ?_ (fun h=>?_) (fun h=>?_)
  ·walk_at"A"
   exact ⟨rfl,rfl⟩
  ·first | (refine ⟨?_,rfl⟩; rw [h] <;> rfl; done) | (rw [h]; exact ⟨rfl,rfl⟩)
  ·rw [h,Bool.true_and]
   have h:=of_decide_eq_true h
   have hp:e < s.length:=by exact ar 3 [_,_,_] (.im (.lt .v0 (.i (.a .v2 (.n 6)) .v1)) (.lt .v0 .v1)) rfl (Ar.t ‹_›)
   have hg:=List.getElem?_eq_getElem hp
   have hd:=drop_cons hg
   generalize s[e]=n at hg hd
   first | (refine' val1 ?_ ?_; rw [hd]) | (refine' val2 ?_ ?_; rw [hd]) | rw [hd]
   walk_at"A"
   first | (refine ⟨?_,rfl⟩; rw [cs_hex] <;> rfl; done) | (rw [cs_hex]; exact ⟨rfl,rfl⟩)
 ·walk_at"A"
  exact ⟨rfl,rfl,rfl⟩
 rw [take_min,show (((s.drop i).take 6).takeWhile isHex).length=(hexRun (s.drop i)).length from rfl]
 try dsimp only
 have hle:=hexRun_le (s.drop i)
 have hq6:=qRun_len (s.drop i)
 have hht:=hexRun_take (s.drop i)
 have h6:=hexRun_len (s.drop i)
 walk_at"A"
 rw [slc_nat,show i+(hexRun (s.drop i)).length - i=(hexRun (s.drop i)).length by exact AR.h39 _ _,hht]
 generalize hh:(hexRun (s.drop i)).length=h at hle hq6 h6 hht
 rw [List.length_drop] at hle
 refine S.run (p:=(·==63)) (s:=s.take (min (i+6) s.length)) (L:=fun e=>[("css",.str s),("pos",.int e),("length",.int s.length),("start_pos",.int ((i+h:Nat):Int)),("max_pos",.int ((min (i+6) s.length:Nat):Int)),("start",.str (hexRun (s.drop i))),("question_marks",.unset),("end",.unset)]) (i+h) (fun e=>?_) (fun e=>?_) ?_
 ·first | (refine' val1 ?_ ?_; rw [headP_take]) | (refine' val2 ?_ ?_; rw [headP_take]) | rw [headP_take]
  refine T.and2b (decide (e < min (i+6) s.length)) ?_ (fun h=>?_) (fun h=>?_)
  ·walk_at"A"
   exact ⟨rfl,rfl⟩
  ·first | (refine ⟨?_,rfl⟩; rw [h] <;> rfl; done) | (rw [h]; exact ⟨rfl,rfl⟩)
  ·rw [h,Bool.true_and]
   have h:=of_decide_eq_true h
   have hp:e < s.length:=by exact ar 3 [_,_,_] (.im (.lt .v0 (.i (.a .v2 (.n 6)) .v1)) (.lt .v0 .v1)) rfl (Ar.t ‹_›)
   have hg:=List.getElem?_eq_getElem hp
   have hd:=drop_cons hg
   generalize s[e]=n at hg hd
   first | (refine' val1 ?_ ?_; rw [hd]) | (refine' val2 ?_ ?_; rw [hd]) | rw [hd]
   walk_at"A"
   first | (refine ⟨?_,rfl⟩; rw [eqc_q] <;> rfl; done) | (rw [eqc_q]; exact ⟨rfl,rfl⟩)
 ·walk_at"A"
  exact ⟨rfl,rfl,rfl⟩
 have eq:(((s.take (min (i+6) s.length)).drop (i+h)).takeWhile (·==63))=qRun (s.drop i):=by
  unfold qRun
  rw [hh,show i+6=i+h+(6 - h) by exact ar 3 [_,_,_] (.im (.le (.a .v1 .v2) (.n 6)) (.eq (.a .v0 (.n 6)) (.a (.a .v0 .v1) (.s (.n 6) .v1)))) rfl hq6,take_min,List.drop_drop]
 rw [eq]
 try dsimp only
 unfold rng at q ok
 rw [hh] at q ok
 walk_at"A"
 rw [show (((i+h+(qRun (s.drop i)).length:Nat):Int) - ((i+h:Nat):Int))=((qRun (s.drop i)).length:Int) by exact AR.h0]
 have hqr:(qRun (s.drop i)≠[]) ↔ ((qRun (s.drop i)).length:Int)≠0:=by
  rw [← List.length_pos_iff]; exact ar 1 [_] (.iff (.lt .n0 .v0) (.nt (.ieq .v0 .n0))) rfl
 generalize hz:(qRun (s.drop i)).length=z at hqr q hq6
 refine S.ifb ((z:Int) != 0) ?_ (fun h1=>?_) (fun h1=>?_)
 ·walk_at"A"
  exact ⟨rfl,rfl⟩
 ·have h1':qRun (s.drop i)≠[]:=hqr.mpr (by simpa using h1)
  rw [if_pos h1'] at q ok
  walk_at"A"
  refine ⟨_,.smul (by exact AR.h45 _) (by exact ar 2 [_,_] (.im (.le (.a .v1 .v0) (.n 6)) (.ilt .v0 (.n 1000))) rfl hq6) (by decide),?_⟩
  rw [show (Str.ofString "F").cps.toList=[70] from by decide +kernel,show ((z:Int)).toNat=z by exact AR.h51,rep_flat]
  have hs:(hexRun (s.drop i)).length+z≤1000000:=by exact ar 3 [_,_,_] (.im (.le (.a .v2 .v1) (.n 6)) (.im (.eq .v0 .v2) (.le (.a .v0 .v1) (.n 1000000)))) rfl hq6 hh
  refine bm3 ?_ (leSize (by simp; walk_at"m"))
  walk_at"A"
  refine ⟨_,.smul (by exact AR.h45 _) (by exact ar 2 [_,_] (.im (.le (.a .v1 .v0) (.n 6)) (.ilt .v0 (.n 1000))) rfl hq6) (by decide),?_⟩
  first | (refine' val1 ?_ ?_; rw [show (Str.ofString "0").cps.toList=[48] from by decide +kernel,show ((z:Int)).toNat=z by walk_at"m",rep_flat]) | (refine' val2 ?_ ?_; rw [show (Str.ofString "0").cps.toList=[48] from by decide +kernel,show ((z:Int)).toNat=z by walk_at"m",rep_flat]) | rw [show (Str.ofString "0").cps.toList=[48] from by decide +kernel,show ((z:Int)).toNat=z by exact AR.h51,rep_flat]
  refine bm3 ?_ (leSize (by simp; walk_at"m"))
  walk_at"A"
  rw [hz] at ok
  refine CB.hex ok.1.2.2 ok.1.1 ok.1.2.1 ?_
  walk_at"A"
  refine CB.hex ok.2.2.2 ok.2.1 ok.2.2.1 ?_
  walk_at"A"
  rw [show i+h+z=i+(h+z) by exact ar 3 [_,_,_] (.eq (.a (.a .v0 .v1) .v2) (.a .v0 (.a .v1 .v2))) rfl]
  exact q
 ·have h1':¬ (qRun (s.drop i)≠[]):=fun hn=>by
   have:=hqr.mp hn
   simp at h1; exact ar 1 [_] (.im (.nt (.ieq .v0 .n0)) (.im (.eq .v0 .n0) .ff)) rfl this h1
  have hz0:z=0:=by
   have:qRun (s.drop i)=[]:=Classical.not_not.mp h1'
   rw [this] at hz; exact hz.symm
  rw [if_neg h1'] at q ok
  subst hz0
  (try walk_at"k"); simp only [Nat.add_zero]
  walk_at"A"
  simp only [List.drop_drop] at q ok
  refine S.ifb (headP (·==45) (s.drop (i+h))&&headP isHex (s.drop (i+(h+1)))) ?_ (fun h2=>?_) (fun h2=>?_)
  ·refine T.andC (decide (i+h+1 < s.length)) ?_ (fun h2=>?_) (fun h2=>?_)
   ·walk_at"A"
    exact ⟨rfl,rfl⟩
   ·have h2:=of_decide_eq_false h2
    rw [List.drop_eq_nil_iff.mpr (show s.length≤i+(h+1) by exact ar 3 [_,_,_] (.im (.nt (.lt (.a (.a .v1 .v2) .n1) .v0)) (.le .v0 (.a .v1 (.a .v2 .n1)))) rfl (Ar.f ‹_›))]
    exact ⟨by simp [headP],rfl⟩
   ·have h2:=of_decide_eq_true h2
    have hp:i+h < s.length:=by exact ar 3 [_,_,_] (.im (.lt (.a (.a .v0 .v1) .n1) .v2) (.lt (.a .v0 .v1) .v2)) rfl (Ar.t ‹_›)
    have hg:=List.getElem?_eq_getElem hp
    have hd:=drop_cons hg
    have hg2:=List.getElem?_eq_getElem h2
    have hd2:=drop_cons hg2
    generalize s[i+h]=n at hg hd
    generalize s[i+h+1]=n2 at hg2 hd2
    first | (refine' val1 ?_ ?_; rw [hd,show i+(h+1)=i+h+1 from rfl,hd2]) | (refine' val2 ?_ ?_; rw [hd,show i+(h+1)=i+h+1 from rfl,hd2]) | rw [hd,show i+(h+1)=i+h+1 from rfl,hd2]
    refine T.and2b (n==45) ?_ (fun h3=>?_) (fun h3=>?_)
    ·walk_at"A"
     first | (refine ⟨?_,rfl⟩; rw [eqc_dash] <;> rfl; done) | (rw [eqc_dash]; exact ⟨rfl,rfl⟩)
    ·exact ⟨by simp only [headP,h3,Bool.false_and],rfl⟩
    ·walk_at"A"
     rw [cs_hex]
     exact ⟨by simp only [headP,h3,Bool.true_and],rfl⟩
  ·rw [if_pos h2] at q ok
   walk_at"A"
   refine CB.min ?_
   first | (refine' val1 ?_ ?_; rw [show i+h+1+6=(i+h+1)+6 from rfl,min_nat]) | (refine' val2 ?_ ?_; rw [show i+h+1+6=(i+h+1)+6 from rfl,min_nat]) | rw [show i+h+1+6=(i+h+1)+6 from rfl,min_nat]
   walk_at"A"
   refine S.run (p:=isHex) (s:=s.take (min (i+h+1+6) s.length)) (L:=fun e=>[("css",.str s),("pos",.int e),("length",.int s.length),("start_pos",.int ((i+h+1:Nat):Int)),("max_pos",.int ((min (i+h+1+6) s.length:Nat):Int)),("start",.str (hexRun (s.drop i))),("question_marks",.int ((0:Nat):Int)),("end",.unset)]) (i+h+1) (fun e=>?_) (fun e=>?_) ?_
   ·first | (refine' val1 ?_ ?_; rw [headP_take]) | (refine' val2 ?_ ?_; rw [headP_take]) | rw [headP_take]
    refine T.and2b (decide (e < min (i+h+1+6) s.length)) ?_ (fun h=>?_) (fun h=>?_)
    ·walk_at"A"
     exact ⟨rfl,rfl⟩
    ·first | (refine ⟨?_,rfl⟩; rw [h] <;> rfl; done) | (rw [h]; exact ⟨rfl,rfl⟩)
    ·rw [h,Bool.true_and]
     have h:=of_decide_eq_true h
     have hp:e < s.length:=by exact ar 4 [_,_,_,_] (.im (.lt .v0 (.i (.a (.a (.a .v2 .v3) .n1) (.n 6)) .v1)) (.lt .v0 .v1)) rfl (Ar.t ‹_›)
     have hg:=List.getElem?_eq_getElem hp
     have hd:=drop_cons hg
     generalize s[e]=n at hg hd
     first | (refine' val1 ?_ ?_; rw [hd]) | (refine' val2 ?_ ?_; rw [hd]) | rw [hd]
     walk_at"A"
     first | (refine ⟨?_,rfl⟩; rw [cs_hex] <;> rfl; done) | (rw [cs_hex]; exact ⟨rfl,rfl⟩)
   ·walk_at"A"
    exact ⟨rfl,rfl,rfl⟩
   rw [take_min,show (((s.drop (i+h+1)).take 6).takeWhile isHex).length=(hexRun (s.drop (i+h+1))).length from rfl]
   try dsimp only
   walk_at"A"
   first | (refine' val1 ?_ ?_; rw [slc_nat,show i+h+1+(hexRun (s.drop (i+h+1))).length - (i+h+1)=(hexRun (s.drop (i+h+1))).length by walk_at"m",hexRun_take]) | (refine' val2 ?_ ?_; rw [slc_nat,show i+h+1+(hexRun (s.drop (i+h+1))).length - (i+h+1)=(hexRun (s.drop (i+h+1))).length by walk_at"m",hexRun_take]) | rw [slc_nat,show i+h+1+(hexRun (s.drop (i+h+1))).length - (i+h+1)=(hexRun (s.drop (i+h+1))).length by exact ar 3 [_,_,_] (.eq (.s (.a (.a (.a .v0 .v1) .n1) .v2) (.a (.a .v0 .v1) .n1)) .v2) rfl,hexRun_take]
   refine CB.hex ok.1.2.2 ok.1.1 ok.1.2.1 ?_
   walk_at"A"
   refine CB.hex ok.2.2.2 ok.2.1 ok.2.2.1 ?_
   walk_at"A"
   have e:i+(h+1+(hexRun (s.drop (i+(h+1)))).length)=i+h+1+(hexRun (s.drop (i+h+1))).length:=by
    rw [show i+(h+1)=i+h+1 from rfl]; exact ar 3 [_,_,_] (.eq (.a .v0 (.a (.a .v1 .n1) .v2)) (.a (.a (.a .v0 .v1) .n1) .v2)) rfl
   rw [e] at q
   exact q
  ·rw [if_neg (nf h2)] at q ok
   walk_at"A"
   refine CB.hex ok.1.2.2 ok.1.1 ok.1.2.1 ?_
   walk_at"A"
   refine CB.hex ok.2.2.2 ok.2.1 ok.2.2.1 ?_
   walk_at"A"
   exact q
noncomputable def genElt (l:List Stmt):Expr:=exN 2 (retE l)
noncomputable def genSc (l:List Stmt):Scope:=(exV (exN 1 (retE l))).2.1
noncomputable def genPos (l:List Stmt):Option Pos:=(exV (exN 1 (retE l))).2.2.2.1
noncomputable abbrev Γ5g:Fx:={ scope:=genSc (bodyAt 5),globs:=[("_replacement_string_value",.ref 27)] }
noncomputable abbrev Γ6g:Fx:={ scope:=genSc (bodyAt 6),globs:=[] }
theorem O5 {w:World} {g:Gx} (G:GG w g):GenOk g Γ5g "c":=⟨by decide +kernel,rfl,rfl,rfl,by decide +kernel,globs_of (by decide +kernel) (G.pick [(false,40)])⟩
theorem O6 {w:World} {g:Gx} (G:GG w g):GenOk g Γ6g "c":=⟨by decide +kernel,rfl,rfl,rfl,by decide +kernel,fun _ h=>nomatch h⟩
theorem PE.ifb {g:Gx} {Γ:Fx} {x:Str} {n:Nat} {test body orelse:Expr} {pos:Pos} {Q:V→Prop} (b:Bool) (ht:PT g Γ x n test fun v=>v=b) (h:b=true→PE g Γ x n body Q) (h':b=false→PE g Γ x n orelse Q):PE g Γ x n (.IfExp test body orelse pos) Q :=
 PE.ife fun A env s C=>(ht A env s C).mono fun v e=>by
  subst e
  cases v with
  | true=>exact h rfl
  | false=>exact h' rfl
noncomputable def lk:List (Nat × List Nat)→Nat→List Nat
 | [],n=>[n]
 | p::r,n=>if n==p.1 then p.2 else lk r n
theorem lk_len {t:List (Nat × List Nat)} (h:t.all (fun p=>decide (p.2.length≤8))=true) (n:Nat):(lk t n).length≤8:=by
 induction t with
 | nil=>exact Nat.le_add_left 1 7
 | cons p r ih =>
  rw [List.all_cons,Bool.and_eq_true] at h
  show (if n==p.1 then p.2 else lk r n).length≤8
  split
  ·exact of_decide_eq_true h.1
  ·exact ih h.2
noncomputable def urF (n:Nat):List Nat:=lk [(39,[92,39]),(34,[92,34]),(92,[92,92]),(32,[92,32]),(9,[92,57,32]),(10,[92,65,32]),(13,[92,68,32]),(12,[92,67,32]),(40,[92,40]),(41,[92,41])] n
theorem urF_len (n:Nat):(urF n).length≤8:=lk_len (by decide) n
theorem PE.lk {w:World} {g:Gx} (G:GG w g) {n k:Nat} {x:List Nat} {r:List (Nat × List Nat)} {K X:Str} {p1 p2 p3 p4 pos:Pos} {k1 k2:Nat} {orelse:Expr} (hK:∀ n,([n]==K.cps.toList)=(n==k)) (hX:X.cps.toList=x) (h:PE g Γ6g "c" n orelse fun w=>w=.str (Internal.lk r n)):PE g Γ6g "c" n (.IfExp (.Compare (.Name "c" p1) [.Eq] [.Constant (.str K) k1 p2] p3) (.Constant (.str X) k2 p4) orelse pos) fun w=>w=.str (Internal.lk ((k,x)::r) n):=by
 refine PE.ifb (n==k) (PT.cmp (PE.nm (O6 G) (PE.str (cm7 (hK n))))) (fun q=>?_) (fun q=>?_)
 ·rw [show Internal.lk ((k,x)::r) n=x from if_pos q]
  exact PE.str (congrArg V.str hX)
 ·rw [show Internal.lk ((k,x)::r) n=Internal.lk r n from if_neg (nf q)]
  exact h
theorem elt6 {w:World} {g:Gx} (G:GG w g) (n:Nat):PE g Γ6g "c" n (genElt (bodyAt 6)) fun w=>w=.str (urF n):=by
 have e32:∀ n,([n]==(Str.ofString " ").cps.toList)=(n==32):=fun n=>by rw [show (Str.ofString " ").cps.toList=[32] from by decide +kernel,beq_one]
 have e9:∀ n,([n]==(Str.ofString "\t").cps.toList)=(n==9):=fun n=>by rw [show (Str.ofString "\t").cps.toList=[9] from by decide +kernel,beq_one]
 exact PE.lk G eqc_sq (by decide +kernel) (PE.lk G eqc_dq (by decide +kernel) (PE.lk G eqc_bs (by decide +kernel) (PE.lk G e32 (by decide +kernel) (PE.lk G e9 (by decide +kernel) (PE.lk G eqc_nl (by decide +kernel) (PE.lk G eqc_cr (by decide +kernel) (PE.lk G eqc_ff (by decide +kernel) (PE.lk G eqc_lp (by decide +kernel) (PE.lk G eqc_rp (by decide +kernel) (PE.nm (O6 G) rfl))))))))))
theorem C6 {w:World} {g:Gx} (G:GG w g) {H H₂:AH} {s:List Nat} {st:Option Pos} {Q:V→AH→Prop} (hl:s.length≤10000) (hu:MUpd 36 (.tab st) (.tab (genPos (bodyAt 6))) H H₂) (hst:st=none∨st=genPos (bodyAt 6)) (q:Q (.str (s.map urF).flatten) H₂):Call g 1 (.ref 41) [.str s] H Q:=by
 refine Call.def_ (dv:=[]) (D6 G) rfl ⟨rfl,fun _ h=>nomatch h⟩ ?_
 walk_at"n"
 refine Ss.consK ?_
 refine S.retK ?_
 refine E.joinGen (Γ':=Γ6g) (f:=urF) G.codes.2.1 rfl (O6 G) ?_ ?_
 ·walk_at"A"
  exact ⟨by rw [lit_nil],rfl⟩
 ·walk_at"A"
  refine ⟨by exact AR.h295 _ hl,fun n hn=>⟨urF_len n,?_⟩,st,H₂,hu,hst,q⟩
  refine PE.px ?_
  exact elt6 G n
section
open PySem PySem.W PySem.Calls PyProof.Rows PyProof.Rows.KTD
theorem repTab_at {w:World} {g:Gx} (G:GG w g):TextTab g.B 27 repTab :=
 kt_text_in G.ok.kin G.hK.rep
theorem flat_is {v:Value} {x:Str} (h:PyProof.V.Flat v (.str x)):Is M0 v (.str x.cps.toList):=by
 have:=h default
 cases this
 exact .str _ _ rfl
theorem dat_mem {k:Str} {d:KTD.Dat}:∀ D:List (Str × KTD.Dat),datumAt k D=some d→∃ p∈D,p.2=d
 | [],h=>nomatch h
 | p::D,h=>by
  have h:(if decide (k=p.1)=true then some p.2 else datumAt k D)=some d:=h
  by_cases q:decide (k=p.1)=true
  ·rw [if_pos q] at h
   exact ⟨p,.head _,Option.some.inj h⟩
  ·rw [if_neg q] at h
   obtain ⟨p',h1,h2⟩:=dat_mem D h
   exact ⟨p',.tail _ h1,h2⟩
theorem rep_ok:∀ p∈repTab,∃ x:Str,p.2=.flat (.str x)∧x.cps.toList.length≤8:=by
 unfold repTab
 refine fm ⟨⟨_,rfl,by decide +kernel⟩,fm ⟨⟨_,rfl,by decide +kernel⟩,fm ⟨⟨_,rfl,by decide +kernel⟩,fm ⟨⟨_,rfl,by decide +kernel⟩,fm ⟨⟨_,rfl,by decide +kernel⟩,fun _ h=>nomatch h⟩⟩⟩⟩⟩
noncomputable def datTx:Option KTD.Dat→List Nat→List Nat
 | some (.flat (.str x)),_=>x.cps.toList
 | _,y=>y
noncomputable def qsF (n:Nat):List Nat:=datTx (datumAt (S' [n]) repTab) [n]
theorem qsF_len (n:Nat):(qsF n).length≤8:=by
 unfold qsF
 cases h:datumAt (S' [n]) repTab with
 | none=>exact Nat.le_add_left 1 7
 | some d =>
  obtain ⟨p,hp,rfl⟩:=dat_mem _ h
  obtain ⟨x,e,hx⟩:=rep_ok p hp
  rw [e]; exact hx
set_option tactic.hygienic true in
theorem elt5 {w:World} {g:Gx} (G:GG w g) (n:Nat):PE g Γ5g "c" n (genElt (bodyAt 5)) fun w=>w=.str (qsF n):=by
 refine PE.dget (O5 G) G.ok (List.mem_cons_self) (repTab_at G) (fun d v hd hv=>?_) (fun hd=>?_)
 ·obtain ⟨p,hp,rfl⟩:=dat_mem _ hd
  obtain ⟨x,e,hx⟩:=rep_ok p hp
  rw [e] at hd hv
  refine ⟨_,flat_is hv,?_⟩
  show V.str x.cps.toList=V.str (datTx (datumAt (S' [n]) repTab) [n])
  rw [hd]; rfl
 ·show V.str [n]=V.str (datTx (datumAt (S' [n]) repTab) [n])
  rw [hd]; rfl
theorem C5 {w:World} {g:Gx} (G:GG w g) {H H₂:AH} {s:List Nat} {st:Option Pos} {Q:V→AH→Prop} (hl:s.length≤10000) (hu:MUpd 29 (.tab st) (.tab (genPos (bodyAt 5))) H H₂) (hst:st=none∨st=genPos (bodyAt 5)) (q:Q (.str (s.map qsF).flatten) H₂):Call g 1 (.ref 34) [.str s] H Q:=by
 refine Call.def_ (dv:=[]) (D5 G) rfl ⟨rfl,fun _ h=>nomatch h⟩ ?_
 walk_at"n"
 refine Ss.consK ?_
 refine S.retK ?_
 refine E.joinGen (Γ':=Γ5g) (f:=qsF) G.codes.1 rfl (O5 G) ?_ ?_
 ·walk_at"A"
  exact ⟨by rw [lit_nil],rfl⟩
 ·walk_at"A"
  refine ⟨by exact AR.h295 _ hl,fun n hn=>⟨qsF_len n,?_⟩,st,H₂,hu,hst,q⟩
  refine PE.px ?_
  exact elt5 G n
end
noncomputable abbrev Γ8c:Fx:={ scope:=genSc (bodyAt 2),globs:=[("ord",.builtin "ord"),("chr",.builtin "chr")] }
theorem O8 {w:World} {g:Gx} (G:GG w g):CompOk g Γ8c "c":=⟨rfl,by decide +kernel,rfl,by decide +kernel,by decide +kernel,globs_of (by decide +kernel) (G.pick [(true,0),(true,3)]),rfl⟩
noncomputable def low (n:Nat):Nat:=if isUp n then n+32 else n
noncomputable def lowV:V→V
 | .str [c]=>.str [low c]
 | v=>v
theorem str_lt_one {a b:Nat}:(!decide (([a]:List Nat) < [b]))=decide (b≤a):=by
 have:([a] < [b]) ↔ a < b:=by
  rw [List.cons_lt_cons_iff]; simp
 rw [decide_eq_decide.mpr this,← decide_not]
 exact decide_eq_decide.mpr (by exact ar 2 [_,_] (.iff (.nt (.lt .v0 .v1)) (.le .v1 .v0)) rfl)
theorem flat_one (s:List Nat):(s.map fun c=>[low c]).flatten=s.map low:=by
 induction s with
 | nil=>rfl
 | cons a r ih=>rw [List.map_cons,List.flatten_cons,ih]; rfl
set_option tactic.hygienic true in
theorem C8 {w:World} {g:Gx} (G:GG w g) {H:AH} {s:List Nat} {Q:V→AH→Prop} (hl:s.length≤10000) (q:Q (.str (s.map low)) H):Call g 1 (.ref 26) [.str s] H Q:=by
 have hl':s.length≤1000000:=by exact AR.h296 _ hl
 refine Call.def_ (dv:=[]) (D8 G) rfl ⟨rfl,fun _ h=>nomatch h⟩ ?_
 walk_at"n"
 refine Ss.consK ?_
 walk_at"A"
 refine E.comp (Γ':=Γ8c) (O8 G) ?_
 walk_at"A"
 refine ⟨_,lowV,rfl,?_,?_,?_⟩
 ·(try walk_at"k"); simp; walk_at"m"
 ·intro u hu H'
  obtain ⟨c,hc,rfl⟩:=List.mem_map.mp hu
  refine E.ifeb (isUp c) ?_ (fun h=>?_) (fun h=>?_)
  ·refine T.chain2 ?_ (by with_unfolding_all rfl)
   walk_at"A"
   rw [show (Str.ofString "A").cps.toList=[65] from by decide +kernel,str_lt_one]
   walk_at"l"
   ·rename_i h
    walk_at"A"
    rw [show (Str.ofString "Z").cps.toList=[90] from by decide +kernel,str_lt_one]
    refine ⟨?_,rfl⟩
    unfold isUp
    rw [h,Bool.true_and]
   ·rename_i h
    refine ⟨?_,rfl⟩
    unfold isUp
    rw [eq_false_of_ne_true h,Bool.false_and]
  ·have h':=h
   unfold isUp at h'
   rw [Bool.and_eq_true,decide_eq_true_eq,decide_eq_true_eq] at h'
   walk_at"A"
   refine CB.chr (by exact ar 1 [_] (.ile .n0 (.a .v0 (.n 32))) rfl) (by exact ar 1 [_] (.im (.an (.le (.n 65) .v0) (.le .v0 (.n 90))) (.ile (.a .v0 (.n 32)) (.n 1114111))) rfl h') ?_
   refine ⟨rfl,?_⟩
   show _=V.str [low c]
   unfold low
   first | refine kpos h ?_ | rw [if_pos h]
   rfl
  ·walk_at"A"
   refine ⟨rfl,?_⟩
   show _=V.str [low c]
   unfold low
   rw [if_neg (nf h)]
 ·walk_at"A"
  rw [lit_nil,show List.map lowV (List.map (fun c=>V.str [c]) s)=(s.map fun c=>[low c]).map V.str by rw [List.map_map,List.map_map]; rfl]
  have e:(s.map fun c=>[low c]).flatten=s.map low:=flat_one s
  refine CB.join (by rw [e]; simp; exact ar 1 [_] (.im (.le .v0 (.n 10000)) (.le (.a .v0 .v0) (.n 1000000))) rfl hl) ?_
  walk_at"A"
  rw [e]
  exact q
noncomputable abbrev KInit (x C:Addr) (H:AH) (Q:V→AH→Prop):V→AH→Prop:=fun v H'=>v=.none∧∃ vs,H'=(x,.ins C vs)::H∧Q (.obj C vs) H
theorem CI9 {w:World} {g:Gx} (G:GG w g) {H:AH} {x C:Addr} {vs:List V} {l c:Int} {Q:V→AH→Prop} {a b:Nat} (h1:setAt g.K C "source_line"=some a) (h2:setAt g.K C "source_column"=some b) (ha:a < 1000) (hb:b < 1000) (q:Q .none ((x,.ins C (setSl b (.int c) (setSl a (.int l) vs)))::H)):Call g 1 (.ref 56) [.ref x,.int l,.int c] ((x,.ins C vs)::H) Q:=by
 refine Call.def_ (dv:=[]) (DI9 G) rfl ⟨rfl,fun _ h=>nomatch h⟩ ?_
 walk_at"n"
 refine Ss.consK (S.setattrH (vs':=setSl a (.int l) vs) h1 ha (by walk_at"d") (fun _=>rfl) ?_)
 walk_at"A"
 refine ⟨rfl,rfl,?_⟩
 refine Ss.consK (S.setattrH (vs':=setSl b (.int c) (setSl a (.int l) vs)) h2 hb (by walk_at"d") (fun _=>rfl) ?_)
 walk_at"A"
 refine ⟨rfl,rfl,?_⟩
 walk_at"A"
 exact q
theorem Call.node {w:World} {g:Gx} (G:GG w g) {Γ:Fx} {C fI:Addr} {ps:List Str} {body rest:List Stmt} {args:List V} {tl:Loc} {l c:Int} {H:AH} {Q:V→AH→Prop} {a b:Nat} {vs:List V} {p1 p2 p3 p4 p5 p6 p7:Pos} (hc:makesIn g.K C=true∧findIn g.K (.ref C) "__init__"=some (some (.ref fI))∧isFn g.K (.ref fI)=true)
  (D:DefOk g Γ fI ("self"::"line"::"column"::ps) [] [] body) (hn:(("Node":Str),Value.ref 74)∈Γ.globs) (h1:setAt g.K C "source_line"=some a) (h2:setAt g.K C "source_column"=some b) (ha:a < 1000) (hb:b < 1000) (hv:setSl b (.int c) (setSl a (.int l) [])=vs) (hl:args.length=ps.length) (ht:ps.zip args=tl)
  (hbody:body=.Expr (.Call (.Attribute (.Name "Node" p1) "__init__" p2) [.Name "self" p3,.Name "line" p4,.Name "column" p5] [] p6) p7::rest) (cf:CallForm (.Name "Node" p1) "__init__" p2 p6 [.Name "self" p3,.Name "line" p4,.Name "column" p5])
  (h:∀ x,Ss g Γ 1 rest ((("self":Str),V.ref x)::(("line":Str),V.int l)::(("column":Str),V.int c)::tl) ((x,.ins C vs)::H) (KDef (KInit x C H Q))):Call g 3 (.ref C) (.int l::.int c::args) H Q:=by
 refine Call.cls hc.1 hc.2.1 hc.2.2 fun x=>?_
 refine Call.def_ (dv:=[]) D (by rw [List.length_cons,List.length_cons,List.length_cons,hl]; rfl) ⟨rfl,fun _ h=>nomatch h⟩ ?_
 have e:startLoc ("self"::"line"::"column"::ps) (.ref x::.int l::.int c::args) [] []=(("self":Str),V.ref x)::(("line":Str),V.int l)::(("column":Str),V.int c)::tl:=by
  unfold startLoc
  rw [List.zip_cons_cons,List.zip_cons_cons,List.zip_cons_cons,ht,List.append_nil,List.map_nil,List.append_nil]
 rw [e,hbody]
 refine Ss.consK ?_
 walk_at"a"
 refine E.cmeth (C:=74) (f:=56) hn G.hK.cm (G.hK.keepE (by kernel_rfl)) ?_ (fun _=>rfl) (fun _=>rfl) cf
 walk_at"A"
 refine (CI9 G h1 h2 ha hb ?_).le (by decide)
 rw [hv]
 exact h x
noncomputable def isInt:V→Bool
 | .none=>false
 | _=>true
theorem K10 {w:World} {g:Gx} (G:GG w g) {H:AH} {l c:Int} {v0:List Nat} {v1:List Nat} {Q:V→AH→Prop} (q:Q (.obj 104 [(.str v0),(.str v1),.int c,.int l]) H):Call g 3 (.ref 104) [.int l,.int c,(.str v0),(.str v1)] H Q:=by
 refine Call.node G (tl:=[("kind",(.str v0)),("message",(.str v1))]) (G.hK.cls 0 rfl) (DI10 G) (by walk_at"d") (G.hK.set 0 rfl) (G.hK.set 1 rfl) (by decide) (by decide) (vs:=[.unset,.unset,.int c,.int l]) rfl rfl rfl rfl (fun _=>⟨_,rfl⟩) fun x=>?_
 walk_at"A"
 refine S.setattrH (vs':=[(.str v0),.unset,.int c,.int l]) (G.hK.set 2 rfl) (by decide) (by walk_at"d") (fun _=>rfl) ?_
 walk_at"A"
 refine ⟨rfl,rfl,?_⟩
 walk_at"A"
 refine S.setattrH (vs':=[(.str v0),(.str v1),.int c,.int l]) (G.hK.set 3 rfl) (by decide) (by walk_at"d") (fun _=>rfl) ?_
 walk_at"A"
 refine ⟨rfl,rfl,?_⟩
 walk_at"A"
 exact ⟨rfl,_,rfl,q⟩
theorem K11 {w:World} {g:Gx} (G:GG w g) {H:AH} {l c:Int} {v0:List Nat} {Q:V→AH→Prop} (q:Q (.obj 134 [(.str v0),.int c,.int l]) H):Call g 3 (.ref 134) [.int l,.int c,(.str v0)] H Q:=by
 refine Call.node G (tl:=[("value",(.str v0))]) (G.hK.cls 1 rfl) (DI11 G) (by walk_at"d") (G.hK.set 4 rfl) (G.hK.set 5 rfl) (by decide) (by decide) (vs:=[.unset,.int c,.int l]) rfl rfl rfl rfl (fun _=>⟨_,rfl⟩) fun x=>?_
 walk_at"A"
 refine S.setattrH (vs':=[(.str v0),.int c,.int l]) (G.hK.set 6 rfl) (by decide) (by walk_at"d") (fun _=>rfl) ?_
 walk_at"A"
 refine ⟨rfl,rfl,?_⟩
 walk_at"A"
 exact ⟨rfl,_,rfl,q⟩
theorem K12 {w:World} {g:Gx} (G:GG w g) {H:AH} {l c:Int} {v0:List Nat} {Q:V→AH→Prop} (q:Q (.obj 163 [(.str v0),.int c,.int l]) H):Call g 3 (.ref 163) [.int l,.int c,(.str v0)] H Q:=by
 refine Call.node G (tl:=[("value",(.str v0))]) (G.hK.cls 2 rfl) (DI12 G) (by walk_at"d") (G.hK.set 7 rfl) (G.hK.set 8 rfl) (by decide) (by decide) (vs:=[.unset,.int c,.int l]) rfl rfl rfl rfl (fun _=>⟨_,rfl⟩) fun x=>?_
 walk_at"A"
 refine S.setattrH (vs':=[(.str v0),.int c,.int l]) (G.hK.set 9 rfl) (by decide) (by walk_at"d") (fun _=>rfl) ?_
 walk_at"A"
 refine ⟨rfl,rfl,?_⟩
 walk_at"A"
 exact ⟨rfl,_,rfl,q⟩
theorem K13 {w:World} {g:Gx} (G:GG w g) {H:AH} {l c:Int} {v0:List Nat} {Q:V→AH→Prop} (q:Q (.obj 206 [(.str v0),.int c,.int l]) H):Call g 3 (.ref 206) [.int l,.int c,(.str v0)] H Q:=by
 refine Call.node G (tl:=[("value",(.str v0))]) (G.hK.cls 3 rfl) (DI13 G) (by walk_at"d") (G.hK.set 10 rfl) (G.hK.set 11 rfl) (by decide) (by decide) (vs:=[.unset,.int c,.int l]) rfl rfl rfl rfl (fun _=>⟨_,rfl⟩) fun x=>?_
 walk_at"A"
 refine S.setattrH (vs':=[(.str v0),.int c,.int l]) (G.hK.set 12 rfl) (by decide) (by walk_at"d") (fun _=>rfl) ?_
 walk_at"A"
 refine ⟨rfl,rfl,?_⟩
 walk_at"A"
 exact ⟨rfl,_,rfl,q⟩
theorem K14 {w:World} {g:Gx} (G:GG w g) {H:AH} {l c:Int} {v0:List Nat} {Q:V→AH→Prop} (hl:v0.length≤10000) (q:Q (.obj 235 [(.str (v0.map low)),(.str v0),.int c,.int l]) H):Call g 3 (.ref 235) [.int l,.int c,(.str v0)] H Q:=by
 refine Call.node G (tl:=[("value",(.str v0))]) (G.hK.cls 4 rfl) (DI14 G) (by walk_at"d") (G.hK.set 13 rfl) (G.hK.set 14 rfl) (by decide) (by decide) (vs:=[.unset,.unset,.int c,.int l]) rfl rfl rfl rfl (fun _=>⟨_,rfl⟩) fun x=>?_
 walk_at"A"
 refine S.setattrH (vs':=[.unset,(.str v0),.int c,.int l]) (G.hK.set 15 rfl) (by decide) (by walk_at"d") (fun _=>rfl) ?_
 walk_at"A"
 refine ⟨rfl,rfl,?_⟩
 walk_at"A"
 refine S.setattrH (vs':=[(.str (v0.map low)),(.str v0),.int c,.int l]) (G.hK.set 16 rfl) (by decide) (by walk_at"d") (fun _=>rfl) ?_
 walk_at"A"
 refine (C8 G hl ?_).le (by decide)
 refine ⟨rfl,rfl,?_⟩
 walk_at"A"
 exact ⟨rfl,_,rfl,q⟩
theorem K15 {w:World} {g:Gx} (G:GG w g) {H:AH} {l c:Int} {v0:List Nat} {Q:V→AH→Prop} (hl:v0.length≤10000) (q:Q (.obj 265 [(.str (v0.map low)),(.str v0),.int c,.int l]) H):Call g 3 (.ref 265) [.int l,.int c,(.str v0)] H Q:=by
 refine Call.node G (tl:=[("value",(.str v0))]) (G.hK.cls 5 rfl) (DI15 G) (by walk_at"d") (G.hK.set 17 rfl) (G.hK.set 18 rfl) (by decide) (by decide) (vs:=[.unset,.unset,.int c,.int l]) rfl rfl rfl rfl (fun _=>⟨_,rfl⟩) fun x=>?_
 walk_at"A"
 refine S.setattrH (vs':=[.unset,(.str v0),.int c,.int l]) (G.hK.set 19 rfl) (by decide) (by walk_at"d") (fun _=>rfl) ?_
 walk_at"A"
 refine ⟨rfl,rfl,?_⟩
 walk_at"A"
 refine S.setattrH (vs':=[(.str (v0.map low)),(.str v0),.int c,.int l]) (G.hK.set 20 rfl) (by decide) (by walk_at"d") (fun _=>rfl) ?_
 walk_at"A"
 refine (C8 G hl ?_).le (by decide)
 refine ⟨rfl,rfl,?_⟩
 walk_at"A"
 exact ⟨rfl,_,rfl,q⟩
theorem K16 {w:World} {g:Gx} (G:GG w g) {H:AH} {l c:Int} {v0:List Nat} {v1:Bool} {Q:V→AH→Prop} (q:Q (.obj 295 [(.bool v1),(.str v0),.int c,.int l]) H):Call g 3 (.ref 295) [.int l,.int c,(.str v0),(.bool v1)] H Q:=by
 refine Call.node G (tl:=[("value",(.str v0)),("is_identifier",(.bool v1))]) (G.hK.cls 6 rfl) (DI16 G) (by walk_at"d") (G.hK.set 21 rfl) (G.hK.set 22 rfl) (by decide) (by decide) (vs:=[.unset,.unset,.int c,.int l]) rfl rfl rfl rfl (fun _=>⟨_,rfl⟩) fun x=>?_
 walk_at"A"
 refine S.setattrH (vs':=[.unset,(.str v0),.int c,.int l]) (G.hK.set 23 rfl) (by decide) (by walk_at"d") (fun _=>rfl) ?_
 walk_at"A"
 refine ⟨rfl,rfl,?_⟩
 walk_at"A"
 refine S.setattrH (vs':=[(.bool v1),(.str v0),.int c,.int l]) (G.hK.set 24 rfl) (by decide) (by walk_at"d") (fun _=>rfl) ?_
 walk_at"A"
 refine ⟨rfl,rfl,?_⟩
 walk_at"A"
 exact ⟨rfl,_,rfl,q⟩
theorem K17 {w:World} {g:Gx} (G:GG w g) {H:AH} {l c:Int} {v0:List Nat} {v1:List Nat} {Q:V→AH→Prop} (q:Q (.obj 325 [(.str v1),(.str v0),.int c,.int l]) H):Call g 3 (.ref 325) [.int l,.int c,(.str v0),(.str v1)] H Q:=by
 refine Call.node G (tl:=[("value",(.str v0)),("representation",(.str v1))]) (G.hK.cls 7 rfl) (DI17 G) (by walk_at"d") (G.hK.set 25 rfl) (G.hK.set 26 rfl) (by decide) (by decide) (vs:=[.unset,.unset,.int c,.int l]) rfl rfl rfl rfl (fun _=>⟨_,rfl⟩) fun x=>?_
 walk_at"A"
 refine S.setattrH (vs':=[.unset,(.str v0),.int c,.int l]) (G.hK.set 27 rfl) (by decide) (by walk_at"d") (fun _=>rfl) ?_
 walk_at"A"
 refine ⟨rfl,rfl,?_⟩
 walk_at"A"
 refine S.setattrH (vs':=[(.str v1),(.str v0),.int c,.int l]) (G.hK.set 28 rfl) (by decide) (by walk_at"d") (fun _=>rfl) ?_
 walk_at"A"
 refine ⟨rfl,rfl,?_⟩
 walk_at"A"
 exact ⟨rfl,_,rfl,q⟩
theorem K18 {w:World} {g:Gx} (G:GG w g) {H:AH} {l c:Int} {v0:List Nat} {v1:List Nat} {Q:V→AH→Prop} (q:Q (.obj 355 [(.str v1),(.str v0),.int c,.int l]) H):Call g 3 (.ref 355) [.int l,.int c,(.str v0),(.str v1)] H Q:=by
 refine Call.node G (tl:=[("value",(.str v0)),("representation",(.str v1))]) (G.hK.cls 8 rfl) (DI18 G) (by walk_at"d") (G.hK.set 29 rfl) (G.hK.set 30 rfl) (by decide) (by decide) (vs:=[.unset,.unset,.int c,.int l]) rfl rfl rfl rfl (fun _=>⟨_,rfl⟩) fun x=>?_
 walk_at"A"
 refine S.setattrH (vs':=[.unset,(.str v0),.int c,.int l]) (G.hK.set 31 rfl) (by decide) (by walk_at"d") (fun _=>rfl) ?_
 walk_at"A"
 refine ⟨rfl,rfl,?_⟩
 walk_at"A"
 refine S.setattrH (vs':=[(.str v1),(.str v0),.int c,.int l]) (G.hK.set 32 rfl) (by decide) (by walk_at"d") (fun _=>rfl) ?_
 walk_at"A"
 refine ⟨rfl,rfl,?_⟩
 walk_at"A"
 exact ⟨rfl,_,rfl,q⟩
theorem K19 {w:World} {g:Gx} (G:GG w g) {H:AH} {l c:Int} {v0:Int} {v1:Int} {Q:V→AH→Prop} (q:Q (.obj 385 [(.int v1),(.int v0),.int c,.int l]) H):Call g 3 (.ref 385) [.int l,.int c,(.int v0),(.int v1)] H Q:=by
 refine Call.node G (tl:=[("start",(.int v0)),("end",(.int v1))]) (G.hK.cls 9 rfl) (DI19 G) (by walk_at"d") (G.hK.set 33 rfl) (G.hK.set 34 rfl) (by decide) (by decide) (vs:=[.unset,.unset,.int c,.int l]) rfl rfl rfl rfl (fun _=>⟨_,rfl⟩) fun x=>?_
 walk_at"A"
 refine S.setattrH (vs':=[.unset,(.int v0),.int c,.int l]) (G.hK.set 35 rfl) (by decide) (by walk_at"d") (fun _=>rfl) ?_
 walk_at"A"
 refine ⟨rfl,rfl,?_⟩
 walk_at"A"
 refine S.setattrH (vs':=[(.int v1),(.int v0),.int c,.int l]) (G.hK.set 36 rfl) (by decide) (by walk_at"d") (fun _=>rfl) ?_
 walk_at"A"
 refine ⟨rfl,rfl,?_⟩
 walk_at"A"
 exact ⟨rfl,_,rfl,q⟩
theorem K20 {w:World} {g:Gx} (G:GG w g) {H:AH} {l c:Int} {v0:List Nat} {v1:V} {v2:List Nat} {Q:V→AH→Prop} (hi:v1=.none∨∃ z,v1=.int z) (q:Q (.obj 415 [v1,(.bool (isInt v1)),(.str v2),(.str v0),.int c,.int l]) H):Call g 3 (.ref 415) [.int l,.int c,(.str v0),v1,(.str v2)] H Q:=by
 have hv:v1.isSet=true:=by rcases hi with rfl | ⟨z,rfl⟩ <;> rfl
 refine Call.node G (tl:=[("value",(.str v0)),("int_value",v1),("representation",(.str v2))]) (G.hK.cls 10 rfl) (DI20 G) (by walk_at"d") (G.hK.set 37 rfl) (G.hK.set 38 rfl) (by decide) (by decide) (vs:=[.unset,.unset,.unset,.unset,.int c,.int l]) rfl rfl rfl rfl (fun _=>⟨_,rfl⟩) fun x=>?_
 walk_at"A"
 refine S.setattrH (vs':=[.unset,.unset,.unset,(.str v0),.int c,.int l]) (G.hK.set 39 rfl) (by decide) (by walk_at"d") (fun _=>rfl) ?_
 walk_at"A"
 refine ⟨rfl,rfl,?_⟩
 walk_at"A"
 refine S.setattrH (vs':=[v1,.unset,.unset,(.str v0),.int c,.int l]) (G.hK.set 40 rfl) (by decide) (by walk_at"d") (fun _=>rfl) ?_
 refine E.locK ?_ (by walk_at"d") hv
 refine ⟨rfl,rfl,?_⟩
 walk_at"A"
 refine S.setattrH (vs':=[v1,(.bool (isInt v1)),.unset,(.str v0),.int c,.int l]) (G.hK.set 41 rfl) (by decide) (by walk_at"d") (fun _=>rfl) ?_
 refine E.to (.bool (isInt v1)) ?_ ?_
 ·refine E.cmpK (E.locK ?_ (by walk_at"d") hv) rfl
  walk_at"A"
  rcases hi with rfl | ⟨z,rfl⟩
  ·exact cm19 ⟨rfl,rfl⟩
  ·exact cm20 ⟨rfl,rfl⟩
 refine ⟨rfl,rfl,?_⟩
 walk_at"A"
 refine S.setattrH (vs':=[v1,(.bool (isInt v1)),(.str v2),(.str v0),.int c,.int l]) (G.hK.set 42 rfl) (by decide) (by walk_at"d") (fun _=>rfl) ?_
 walk_at"A"
 refine ⟨rfl,rfl,?_⟩
 walk_at"A"
 exact ⟨rfl,_,rfl,q⟩
theorem K21 {w:World} {g:Gx} (G:GG w g) {H:AH} {l c:Int} {v0:List Nat} {v1:V} {v2:List Nat} {Q:V→AH→Prop} (hi:v1=.none∨∃ z,v1=.int z) (q:Q (.obj 447 [v1,(.bool (isInt v1)),(.str v2),(.str v0),.int c,.int l]) H):Call g 3 (.ref 447) [.int l,.int c,(.str v0),v1,(.str v2)] H Q:=by
 have hv:v1.isSet=true:=by rcases hi with rfl | ⟨z,rfl⟩ <;> rfl
 refine Call.node G (tl:=[("value",(.str v0)),("int_value",v1),("representation",(.str v2))]) (G.hK.cls 11 rfl) (DI21 G) (by walk_at"d") (G.hK.set 43 rfl) (G.hK.set 44 rfl) (by decide) (by decide) (vs:=[.unset,.unset,.unset,.unset,.int c,.int l]) rfl rfl rfl rfl (fun _=>⟨_,rfl⟩) fun x=>?_
 walk_at"A"
 refine S.setattrH (vs':=[.unset,.unset,.unset,(.str v0),.int c,.int l]) (G.hK.set 45 rfl) (by decide) (by walk_at"d") (fun _=>rfl) ?_
 walk_at"A"
 refine ⟨rfl,rfl,?_⟩
 walk_at"A"
 refine S.setattrH (vs':=[v1,.unset,.unset,(.str v0),.int c,.int l]) (G.hK.set 46 rfl) (by decide) (by walk_at"d") (fun _=>rfl) ?_
 refine E.locK ?_ (by walk_at"d") hv
 refine ⟨rfl,rfl,?_⟩
 walk_at"A"
 refine S.setattrH (vs':=[v1,(.bool (isInt v1)),.unset,(.str v0),.int c,.int l]) (G.hK.set 47 rfl) (by decide) (by walk_at"d") (fun _=>rfl) ?_
 refine E.to (.bool (isInt v1)) ?_ ?_
 ·refine E.cmpK (E.locK ?_ (by walk_at"d") hv) rfl
  walk_at"A"
  rcases hi with rfl | ⟨z,rfl⟩
  ·exact cm19 ⟨rfl,rfl⟩
  ·exact cm20 ⟨rfl,rfl⟩
 refine ⟨rfl,rfl,?_⟩
 walk_at"A"
 refine S.setattrH (vs':=[v1,(.bool (isInt v1)),(.str v2),(.str v0),.int c,.int l]) (G.hK.set 48 rfl) (by decide) (by walk_at"d") (fun _=>rfl) ?_
 walk_at"A"
 refine ⟨rfl,rfl,?_⟩
 walk_at"A"
 exact ⟨rfl,_,rfl,q⟩
theorem K22 {w:World} {g:Gx} (G:GG w g) {H:AH} {l c:Int} {v0:List Nat} {v1:V} {v2:List Nat} {v3:List Nat} {Q:V→AH→Prop} (hl:v3.length≤10000) (hi:v1=.none∨∃ z,v1=.int z) (q:Q (.obj 479 [v1,(.bool (isInt v1)),(.str (v3.map low)),(.str v2),(.str v3),(.str v0),.int c,.int l]) H):Call g 3 (.ref 479) [.int l,.int c,(.str v0),v1,(.str v2),(.str v3)] H Q:=by
 have hv:v1.isSet=true:=by rcases hi with rfl | ⟨z,rfl⟩ <;> rfl
 refine Call.node G (tl:=[("value",(.str v0)),("int_value",v1),("representation",(.str v2)),("unit",(.str v3))]) (G.hK.cls 12 rfl) (DI22 G) (by walk_at"d") (G.hK.set 49 rfl) (G.hK.set 50 rfl) (by decide) (by decide) (vs:=[.unset,.unset,.unset,.unset,.unset,.unset,.int c,.int l]) rfl rfl rfl rfl (fun _=>⟨_,rfl⟩) fun x=>?_
 walk_at"A"
 refine S.setattrH (vs':=[.unset,.unset,.unset,.unset,.unset,(.str v0),.int c,.int l]) (G.hK.set 51 rfl) (by decide) (by walk_at"d") (fun _=>rfl) ?_
 walk_at"A"
 refine ⟨rfl,rfl,?_⟩
 walk_at"A"
 refine S.setattrH (vs':=[v1,.unset,.unset,.unset,.unset,(.str v0),.int c,.int l]) (G.hK.set 52 rfl) (by decide) (by walk_at"d") (fun _=>rfl) ?_
 refine E.locK ?_ (by walk_at"d") hv
 refine ⟨rfl,rfl,?_⟩
 walk_at"A"
 refine S.setattrH (vs':=[v1,(.bool (isInt v1)),.unset,.unset,.unset,(.str v0),.int c,.int l]) (G.hK.set 53 rfl) (by decide) (by walk_at"d") (fun _=>rfl) ?_
 refine E.to (.bool (isInt v1)) ?_ ?_
 ·refine E.cmpK (E.locK ?_ (by walk_at"d") hv) rfl
  walk_at"A"
  rcases hi with rfl | ⟨z,rfl⟩
  ·exact cm19 ⟨rfl,rfl⟩
  ·exact cm20 ⟨rfl,rfl⟩
 refine ⟨rfl,rfl,?_⟩
 walk_at"A"
 refine S.setattrH (vs':=[v1,(.bool (isInt v1)),.unset,(.str v2),.unset,(.str v0),.int c,.int l]) (G.hK.set 54 rfl) (by decide) (by walk_at"d") (fun _=>rfl) ?_
 walk_at"A"
 refine ⟨rfl,rfl,?_⟩
 walk_at"A"
 refine S.setattrH (vs':=[v1,(.bool (isInt v1)),.unset,(.str v2),(.str v3),(.str v0),.int c,.int l]) (G.hK.set 55 rfl) (by decide) (by walk_at"d") (fun _=>rfl) ?_
 walk_at"A"
 refine ⟨rfl,rfl,?_⟩
 walk_at"A"
 refine S.setattrH (vs':=[v1,(.bool (isInt v1)),(.str (v3.map low)),(.str v2),(.str v3),(.str v0),.int c,.int l]) (G.hK.set 56 rfl) (by decide) (by walk_at"d") (fun _=>rfl) ?_
 walk_at"A"
 refine (C8 G hl ?_).le (by decide)
 refine ⟨rfl,rfl,?_⟩
 walk_at"A"
 exact ⟨rfl,_,rfl,q⟩
theorem K23 {w:World} {g:Gx} (G:GG w g) {H:AH} {l c:Int} {v0:Addr} {Q:V→AH→Prop} (q:Q (.obj 513 [(.ref v0),.int c,.int l]) H):Call g 3 (.ref 513) [.int l,.int c,(.ref v0)] H Q:=by
 refine Call.node G (tl:=[("content",(.ref v0))]) (G.hK.cls 13 rfl) (DI23 G) (by walk_at"d") (G.hK.set 57 rfl) (G.hK.set 58 rfl) (by decide) (by decide) (vs:=[.unset,.int c,.int l]) rfl rfl rfl rfl (fun _=>⟨_,rfl⟩) fun x=>?_
 walk_at"A"
 refine S.setattrH (vs':=[(.ref v0),.int c,.int l]) (G.hK.set 59 rfl) (by decide) (by walk_at"d") (fun _=>rfl) ?_
 walk_at"A"
 refine ⟨rfl,rfl,?_⟩
 walk_at"A"
 exact ⟨rfl,_,rfl,q⟩
theorem K24 {w:World} {g:Gx} (G:GG w g) {H:AH} {l c:Int} {v0:Addr} {Q:V→AH→Prop} (q:Q (.obj 542 [(.ref v0),.int c,.int l]) H):Call g 3 (.ref 542) [.int l,.int c,(.ref v0)] H Q:=by
 refine Call.node G (tl:=[("content",(.ref v0))]) (G.hK.cls 14 rfl) (DI24 G) (by walk_at"d") (G.hK.set 60 rfl) (G.hK.set 61 rfl) (by decide) (by decide) (vs:=[.unset,.int c,.int l]) rfl rfl rfl rfl (fun _=>⟨_,rfl⟩) fun x=>?_
 walk_at"A"
 refine S.setattrH (vs':=[(.ref v0),.int c,.int l]) (G.hK.set 62 rfl) (by decide) (by walk_at"d") (fun _=>rfl) ?_
 walk_at"A"
 refine ⟨rfl,rfl,?_⟩
 walk_at"A"
 exact ⟨rfl,_,rfl,q⟩
theorem K25 {w:World} {g:Gx} (G:GG w g) {H:AH} {l c:Int} {v0:Addr} {Q:V→AH→Prop} (q:Q (.obj 571 [(.ref v0),.int c,.int l]) H):Call g 3 (.ref 571) [.int l,.int c,(.ref v0)] H Q:=by
 refine Call.node G (tl:=[("content",(.ref v0))]) (G.hK.cls 15 rfl) (DI25 G) (by walk_at"d") (G.hK.set 63 rfl) (G.hK.set 64 rfl) (by decide) (by decide) (vs:=[.unset,.int c,.int l]) rfl rfl rfl rfl (fun _=>⟨_,rfl⟩) fun x=>?_
 walk_at"A"
 refine S.setattrH (vs':=[(.ref v0),.int c,.int l]) (G.hK.set 65 rfl) (by decide) (by walk_at"d") (fun _=>rfl) ?_
 walk_at"A"
 refine ⟨rfl,rfl,?_⟩
 walk_at"A"
 exact ⟨rfl,_,rfl,q⟩
theorem K26 {w:World} {g:Gx} (G:GG w g) {H:AH} {l c:Int} {v0:List Nat} {v1:Addr} {Q:V→AH→Prop} (hl:v0.length≤10000) (q:Q (.obj 600 [(.ref v1),(.str (v0.map low)),(.str v0),.int c,.int l]) H):Call g 3 (.ref 600) [.int l,.int c,(.str v0),(.ref v1)] H Q:=by
 refine Call.node G (tl:=[("name",(.str v0)),("arguments",(.ref v1))]) (G.hK.cls 16 rfl) (DI26 G) (by walk_at"d") (G.hK.set 66 rfl) (G.hK.set 67 rfl) (by decide) (by decide) (vs:=[.unset,.unset,.unset,.int c,.int l]) rfl rfl rfl rfl (fun _=>⟨_,rfl⟩) fun x=>?_
 walk_at"A"
 refine S.setattrH (vs':=[.unset,.unset,(.str v0),.int c,.int l]) (G.hK.set 68 rfl) (by decide) (by walk_at"d") (fun _=>rfl) ?_
 walk_at"A"
 refine ⟨rfl,rfl,?_⟩
 walk_at"A"
 refine S.setattrH (vs':=[.unset,(.str (v0.map low)),(.str v0),.int c,.int l]) (G.hK.set 69 rfl) (by decide) (by walk_at"d") (fun _=>rfl) ?_
 walk_at"A"
 refine (C8 G hl ?_).le (by decide)
 refine ⟨rfl,rfl,?_⟩
 walk_at"A"
 refine S.setattrH (vs':=[(.ref v1),(.str (v0.map low)),(.str v0),.int c,.int l]) (G.hK.set 70 rfl) (by decide) (by walk_at"d") (fun _=>rfl) ?_
 walk_at"A"
 refine ⟨rfl,rfl,?_⟩
 walk_at"A"
 exact ⟨rfl,_,rfl,q⟩
noncomputable def plV (l c:Int):V:=.tup [.int l,.int c]
noncomputable def leafT (pl:V) (k:String) (v:List Nat):V:=.tup [pl,.str (lit k),.str v,.none]
mutual
inductive NodeT:Nat→V→V→Prop
 | error {n:Nat} {k m:List Nat} {c l:Int}:NodeT n (.obj 104 [.str k,.str m,.int c,.int l]) (leafT (plV l c) "error" k)
 | comment {n:Nat} {v:List Nat} {c l:Int}:NodeT n (.obj 134 [.str v,.int c,.int l]) (leafT (plV l c) "comment" v)
 | white {n:Nat} {v:List Nat} {c l:Int}:NodeT n (.obj 163 [.str v,.int c,.int l]) (leafT (plV l c) "whitespace" v)
 | literal {n:Nat} {v:List Nat} {c l:Int}:NodeT n (.obj 206 [.str v,.int c,.int l]) (leafT (plV l c) "literal" v)
 | ident {n:Nat} {v lv:List Nat} {c l:Int}:NodeT n (.obj 235 [.str lv,.str v,.int c,.int l]) (leafT (plV l c) "ident" v)
 | atk {n:Nat} {v lv:List Nat} {c l:Int}:NodeT n (.obj 265 [.str lv,.str v,.int c,.int l]) (leafT (plV l c) "at-keyword" v)
 | hash {n:Nat} {v:List Nat} {b:Bool} {c l:Int}:NodeT n (.obj 295 [.bool b,.str v,.int c,.int l]) (.tup [plV l c,.str (lit "hash"),.str v,.bool b])
 | string {n:Nat} {v rp:List Nat} {c l:Int}:NodeT n (.obj 325 [.str rp,.str v,.int c,.int l]) (leafT (plV l c) "string" v)
 | url {n:Nat} {v rp:List Nat} {c l:Int}:NodeT n (.obj 355 [.str rp,.str v,.int c,.int l]) (leafT (plV l c) "url" v)
 | range {n:Nat} {a b:Int} {c l:Int}:NodeT n (.obj 385 [.int b,.int a,.int c,.int l]) (.tup [plV l c,.str (lit "unicode-range"),.int a,.int b])
 | number {n:Nat} {v rp:List Nat} {iv ii:V} {c l:Int}:NodeT n (.obj 415 [iv,ii,.str rp,.str v,.int c,.int l]) (leafT (plV l c) "number" v)
 | percent {n:Nat} {v rp:List Nat} {iv ii:V} {c l:Int}:NodeT n (.obj 447 [iv,ii,.str rp,.str v,.int c,.int l]) (leafT (plV l c) "percentage" v)
 | dim {n:Nat} {v rp u lu:List Nat} {iv ii:V} {c l:Int}:NodeT n (.obj 479 [iv,ii,.str lu,.str rp,.str u,.str v,.int c,.int l]) (.tup [plV l c,.str (lit "dimension"),.str u,.tup [.str rp,iv]])
 | paren {n:Nat} {vs ts:List V} {c l:Int}:NodesT n vs ts→vs.length≤1000000→NodeT (n+1) (.obj 513 [.lst vs,.int c,.int l]) (.tup [plV l c,.str (lit "() block"),.none,.lst ts])
 | square {n:Nat} {vs ts:List V} {c l:Int}:NodesT n vs ts→vs.length≤1000000→NodeT (n+1) (.obj 542 [.lst vs,.int c,.int l]) (.tup [plV l c,.str (lit "[] block"),.none,.lst ts])
 | curly {n:Nat} {vs ts:List V} {c l:Int}:NodesT n vs ts→vs.length≤1000000→NodeT (n+1) (.obj 571 [.lst vs,.int c,.int l]) (.tup [plV l c,.str (lit "{} block"),.none,.lst ts])
 | func {n:Nat} {vs ts:List V} {v lv:List Nat} {c l:Int}:NodesT n vs ts→vs.length≤1000000→NodeT (n+1) (.obj 600 [.lst vs,.str lv,.str v,.int c,.int l]) (.tup [plV l c,.str (lit "function"),.str v,.lst ts])
inductive NodesT:Nat→List V→List V→Prop
 | nil {n:Nat}:NodesT n [] []
 | cons {n:Nat} {v t:V} {vs ts:List V}:NodeT n v t→NodesT n vs ts→NodesT n (v::vs) (t::ts)
end
theorem NodesT.append {n:Nat} {vs ts ws us:List V} (h:NodesT n vs ts):NodesT n ws us→NodesT n (vs++ws) (ts++us):=by
 refine NodesT.rec (motive_1:=fun _ _ _ _=>True) (motive_2:=fun n vs ts _=>NodesT n ws us→NodesT n (vs++ws) (ts++us)) ?_ ?_ ?_ ?_ ?_ ?_ ?_ ?_ ?_ ?_ ?_ ?_ ?_ ?_ ?_ ?_ ?_ ?_ ?_ h
 all_goals first | exact trivial | exact fun _ _ _=>trivial | exact fun h=>h | exact fun a _ _ ih h=>.cons a (ih h)
theorem NodesT.snoc {n:Nat} {vs ts:List V} {v t:V} (h:NodesT n vs ts) (a:NodeT n v t):NodesT n (vs++[v]) (ts++[t]):=h.append (.cons a .nil)
theorem NodesT.len {n:Nat} {vs ts:List V} (h:NodesT n vs ts):vs.length=ts.length:=by
 refine NodesT.rec (motive_1:=fun _ _ _ _=>True) (motive_2:=fun _ vs ts _=>vs.length=ts.length) ?_ ?_ ?_ ?_ ?_ ?_ ?_ ?_ ?_ ?_ ?_ ?_ ?_ ?_ ?_ ?_ ?_ ?_ ?_ h
 all_goals first | exact trivial | exact fun _ _ _=>trivial | exact rfl | exact fun _ _ _ ih=>congrArg (·+1) ih
inductive Step where
 | leaf (ts:List V) (n:Nat)
 | opn (P K N:V) (ec n:Nat)
 | cls
 | stop (ts:List V)
noncomputable def isUu (c:Nat):Bool:=c==85||c==117
noncomputable def isUrl (v:List Nat):Bool:=v.map low==[117,114,108]
noncomputable def urlTs (pl:V) (u:UR):List V:=(match u.val with | some v=>[leafT pl "url" v] | none=>[])++(match u.err with | 0=>[] | 1=>[leafT pl "error" (lit "eof-in-url")] | _=>[leafT pl "error" (lit "bad-url")])
noncomputable def stepI (pl:V) (v:List Nat) (n:Nat) (r:List Nat):Step :=
 if headP (·==40) (r.drop n) then
  (if isUrl v&&!headP isQt ((r.drop (n+1)).drop (wsN (r.drop (n+1)))) then .leaf (urlTs pl (urlR (r.drop (n+1)))) (n+1+(urlR (r.drop (n+1))).n)
  else .opn pl (.str (lit "function")) (.str v) 41 (n+1))
 else .leaf [leafT pl "ident" v] n
noncomputable def intV (pn:Bool) (t:List Nat):V:=if pn then (match PySem.intText? (S' t) with | some z=>.int z | none=>.none) else .none
noncomputable def stepN (pl:V) (pn:Bool) (n:Nat) (r:List Nat):Step :=
 if identStart (r.drop n) then .leaf [.tup [pl,.str (lit "dimension"),.str (ident (r.drop n)).1,.tup [.str (r.take n),intV pn (r.take n)]]] (n+(ident (r.drop n)).2)
 else if headP (·==37) (r.drop n) then .leaf [leafT pl "percentage" (r.take n)] (n+1)
 else .leaf [leafT pl "number" (r.take n)] n
noncomputable def strTs (pl:V) (q:QR):List V:=match q.st with
 | 0=>[leafT pl "string" q.val]
 | 1=>[leafT pl "error" (lit "bad-string")]
 | _=>[leafT pl "string" q.val,leafT pl "error" (lit "eof-in-string")]
noncomputable def comEnd:List Nat→Option Nat
 | []=>none
 | c::t=>if c==42&&headP (·==47) t then some 0 else (comEnd t).map (·+1)
noncomputable def isTl (c:Nat):Bool:=c==126||c==124||c==94||c==36||c==42
noncomputable def isCl (c:Nat):Bool:=c==125||c==93||c==41
noncomputable def stepZ (pl:V) (ec:Option Nat) (c:Nat) (t:List Nat):Step :=
 if c==64 then (if identStart t then .leaf [leafT pl "at-keyword" (ident t).1] (1+(ident t).2) else .leaf [leafT pl "literal" [64]] 1)
 else if c==35 then (if headP isNm t||escOk t then .leaf [.tup [pl,.str (lit "hash"),.str (ident t).1,.bool (identStart t)]] (1+(ident t).2) else .leaf [leafT pl "literal" [35]] 1)
 else if c==123 then .opn pl (.str (lit "{} block")) .none 125 1
 else if c==91 then .opn pl (.str (lit "[] block")) .none 93 1
 else if c==40 then .opn pl (.str (lit "() block")) .none 41 1
 else if ec==some c then .cls
 else if isCl c then .leaf [leafT pl "error" [c]] 1
 else if isQt c then .leaf (strTs pl (qstr c t)) (1+(qstr c t).n)
 else if c==47&&headP (·==42) t then (match comEnd (t.drop 1) with
  | none=>.stop [leafT pl "comment" (t.drop 1)]
  | some k=>.leaf [leafT pl "comment" ((t.drop 1).take k)] (k+4))
 else if c==60&&t.take 3==[33,45,45] then .leaf [leafT pl "literal" [60,33,45,45]] 4
 else if c==124&&headP (·==124) t then .leaf [leafT pl "literal" [124,124]] 2
 else if isTl c then (if headP (·==61) t then .leaf [leafT pl "literal" [c,61]] 2 else .leaf [leafT pl "literal" [c]] 1)
 else .leaf [leafT pl "literal" [c]] 1
noncomputable def step (pl:V) (ec:Option Nat) (c:Nat) (t:List Nat):Step :=
 if isWs c then .leaf [leafT pl "whitespace" ((c::t).take (wsN (c::t)))] (wsN (c::t))
 else if isUu c&&(headP (·==43) t&&headP (fun n=>isHex n||n==63) (t.drop 1)) then .leaf [.tup [pl,.str (lit "unicode-range"),.int (hexVal (rng (t.drop 1)).a:Nat),.int (hexVal (rng (t.drop 1)).b:Nat)]] (2+(rng (t.drop 1)).n)
 else if (c::t).take 3==[45,45,62] then .leaf [leafT pl "literal" [45,45,62]] 3
 else if identStart (c::t) then stepI pl (ident (c::t)).1 (ident (c::t)).2 (c::t)
 else match numEnd (c::t) with
  | some (n,pn)=>stepN pl pn n (c::t)
  | none=>stepZ pl ec c t
noncomputable def mv (p:Nat × Nat) (r:List Nat):Nat × Nat:=r.foldl (fun p c=>if c==10 then (p.1+1,1) else (p.1,p.2+1)) p
noncomputable def plP (p:Nat × Nat):V:=plV p.1 p.2
structure FT where
 items:List V
 P:V
 K:V
 N:V
 ec:Option Nat
noncomputable def closeT:List V→List FT→List V
 | cur,[]=>cur
 | cur,f::r=>closeT (f.items++[.tup [f.P,f.K,f.N,.lst cur]]) r
noncomputable def run:Nat→Nat × Nat→List Nat→List V→Option Nat→List FT→List V
 | 0,_,_,cur,_,st=>closeT cur st
 | _+1,_,[],cur,_,st=>closeT cur st
 | k+1,pl,c::t,cur,ec,st=>match step (plP pl) ec c t with
  | .leaf ts n=>run k (mv pl ((c::t).take n)) ((c::t).drop n) (cur++ts) ec st
  | .opn P K N e n=>run k (mv pl ((c::t).take n)) ((c::t).drop n) [] (some e) (⟨cur,P,K,N,ec⟩::st)
  | .cls=>(match st with
   | f::r=>run k (mv pl [c]) t (f.items++[.tup [f.P,f.K,f.N,.lst cur]]) f.ec r
   | []=>[])
  | .stop ts=>closeT (cur++ts) st
theorem run_cons (k:Nat) (pl:Nat × Nat) (c:Nat) (t:List Nat) (cur:List V) (ec:Option Nat) (st:List FT):run (k+1) pl (c::t) cur ec st=match step (plP pl) ec c t with
  | .leaf ts n=>run k (mv pl ((c::t).take n)) ((c::t).drop n) (cur++ts) ec st
  | .opn P K N e n=>run k (mv pl ((c::t).take n)) ((c::t).drop n) [] (some e) (⟨cur,P,K,N,ec⟩::st)
  | .cls=>(match st with
   | f::r=>run k (mv pl [c]) t (f.items++[.tup [f.P,f.K,f.N,.lst cur]]) f.ec r
   | []=>[])
  | .stop ts=>closeT (cur++ts) st:=rfl
theorem run_nil (k:Nat) (pl:Nat × Nat) (cur:List V) (ec:Option Nat) (st:List FT):run k pl [] cur ec st=closeT cur st:=by cases k <;> rfl
noncomputable def isOp (c:Nat):Bool:=c==40||c==91||c==123
noncomputable def cnt (r:List Nat):Nat:=r.countP isOp
theorem tw_le {p:Nat→Bool} (r:List Nat):(r.takeWhile p).length≤r.length:=(List.takeWhile_prefix p).length_le
theorem wsN_le (r:List Nat):wsN r≤r.length:=tw_le r
theorem ident_le (r:List Nat):(ident r).2≤r.length:=(ident_len _ r (Nat.le_refl _)).2
set_option tactic.hygienic true in
theorem urlR_le (r:List Nat):(urlR r).n≤r.length:=by
 have h0:=wsN_le r
 unfold urlR
 split
 ·exact h0
 ·rename_i c t hd
  have hlen:r.length - wsN r=(c::t).length:=by rw [← List.length_drop,hd]
  split
  ·simp at hlen ⊢; exact AR.h176 _ _ _ hlen
  ·have h1:=(urlB_len _ (c::t) (Nat.le_refl _)).2
   generalize urlB (c::t)=b at h1
   unfold urlT
   split
   ·dsimp only; exact ar 4 [_,_,_,_] (.im (.eq (.s .v2 .v0) .v3) (.im (.le .v1 .v3) (.im (.le .v0 .v2) (.le (.a .v0 .v1) .v2)))) rfl hlen h1 h0
   ·dsimp only; exact ar 4 [_,_,_,_] (.im (.eq (.s .v2 .v0) .v3) (.im (.le .v1 .v3) (.im (.le .v0 .v2) (.le (.a .v0 .v1) .v2)))) rfl hlen h1 h0
   ·have h2:=wsN_le ((c::t).drop b.n)
    rw [List.length_drop] at h2
    split
    ·dsimp only; exact ar 5 [_,_,_,_,_] (.im (.eq (.s .v3 .v0) .v4) (.im (.le .v2 (.s .v4 .v1)) (.im (.le .v0 .v3) (.im (.le .v1 .v4) (.le (.a (.a .v0 .v1) .v2) .v3))))) rfl hlen h2 h0 h1
    ·rename_i e t' he
     have hl2:(c::t).length - (b.n+wsN ((c::t).drop b.n))=(e::t').length:=by rw [← List.length_drop,he]
     split
     ·rw [List.length_cons (a:=e)] at hl2; dsimp only; exact ar 6 [_,_,_,_,_,_] (.im (.eq (.s .v4 (.a .v1 .v2)) (.a .v5 .n1)) (.im (.eq (.s .v3 .v0) .v4) (.le (.a (.a (.a .v0 .v1) .v2) .n1) .v3))) rfl hl2 hlen
     ·have:=urlRem_le (e::t')
      dsimp only; exact ar 7 [_,_,_,_,_,_,_] (.im (.eq (.s .v5 (.a .v1 .v2)) .v6) (.im (.eq (.s .v4 .v0) .v5) (.im (.le .v2 (.s .v5 .v1)) (.im (.le .v3 .v6) (.im (.le .v0 .v4) (.im (.le .v1 .v5) (.le (.a (.a (.a .v0 .v1) .v2) .v3) .v4))))))) rfl hl2 hlen h2 this h0 h1
   ·have:=urlRem_le ((c::t).drop b.n)
    rw [List.length_drop] at this
    dsimp only; exact ar 5 [_,_,_,_,_] (.im (.eq (.s .v3 .v0) .v4) (.im (.le .v2 (.s .v4 .v1)) (.im (.le .v0 .v3) (.im (.le .v1 .v4) (.le (.a (.a .v0 .v1) .v2) .v3))))) rfl hlen this h0 h1
theorem digs_le (r:List Nat):digs r≤r.length:=tw_le r
theorem drop_len {r:List Nat} {n:Nat} {c:Nat} {t:List Nat} (h:r.drop n=c::t):n+1≤r.length:=by
 have:=congrArg List.length h
 rw [List.length_drop] at this; simp at this; exact AR.h176 _ _ _ this
theorem headP_len {p:Nat→Bool} {r:List Nat} {n:Nat} (h:headP p (r.drop n)=true):n+1≤r.length:=by
 cases hd:r.drop n with
 | nil=>rw [hd] at h; cases h
 | cons c t=>exact drop_len hd
set_option tactic.hygienic true in
theorem expo_le (r:List Nat):expo r≤r.length:=by
 unfold expo
 generalize (if headP isSg (r.drop 1)=true then 1 else 0)=z
 split
 ·split
  ·rename_i h
   have:=headP_len h
   have h2:=digs_le (r.drop (1+z))
   rw [List.length_drop] at h2
   exact ar 3 [_,_,_] (.im (.le (.a (.a .n1 .v0) .n1) .v2) (.im (.le .v1 (.s .v2 (.a .n1 .v0))) (.le (.a (.a .n1 .v0) .v1) .v2))) rfl this h2
  ·exact AR.h81 _
 ·exact AR.h81 _
set_option tactic.hygienic true in
theorem numEnd_le {r:List Nat} {n:Nat} {b:Bool} (h:numEnd r=some (n,b)):1≤n∧n≤r.length:=by
 unfold numEnd at h
 have ha:(if headP isSg r then 1 else 0)≤r.length:=by
  split
  ·rename_i h; exact headP_len (n:=0) h
  ·exact AR.h81 _
 generalize (if headP isSg r=true then 1 else 0)=a at h ha
 dsimp only at h
 have h1:=digs_le (r.drop a)
 rw [List.length_drop] at h1
 split at h
 ·rename_i h2
  rw [Bool.and_eq_true] at h2
  have h3:=headP_len h2.2
  cases h
  have h4:=digs_le (r.drop (a+digs (r.drop a)+2))
  have h5:=expo_le (r.drop (a+digs (r.drop a)+2+digs (r.drop (a+digs (r.drop a)+2))))
  rw [List.length_drop] at h4 h5
  exact ar 5 [_,_,_,_,_] (.im (.le (.a (.a (.a .v0 .v1) .n1) .n1) .v4) (.im (.le .v3 (.s .v4 (.a (.a (.a .v0 .v1) (.n 2)) .v2))) (.im (.le .v2 (.s .v4 (.a (.a .v0 .v1) (.n 2)))) (.an (.le .n1 (.a (.a (.a (.a .v0 .v1) (.n 2)) .v2) .v3)) (.le (.a (.a (.a (.a .v0 .v1) (.n 2)) .v2) .v3) .v4))))) rfl h3 h5 h4
 ·split at h
  ·cases h
  ·cases h
   have h5:=expo_le (r.drop (a+digs (r.drop a)))
   rw [List.length_drop] at h5
   exact ar 4 [_,_,_,_] (.im (.le .v2 (.s .v3 (.a .v0 .v1))) (.im (.le .v1 (.s .v3 .v0)) (.im (.nt (.eq (.a .v0 .v1) .v0)) (.an (.le .n1 (.a (.a .v0 .v1) .v2)) (.le (.a (.a .v0 .v1) .v2) .v3))))) rfl h5 h1 ‹_›
theorem qRun_le (r:List Nat):(hexRun r).length+(qRun r).length≤r.length:=by
 unfold qRun
 have h1:=tw_le (p:=(·==63)) ((r.drop (hexRun r).length).take (6 - (hexRun r).length))
 have h2:=hexRun_le r
 rw [List.length_take,List.length_drop] at h1
 exact ar 3 [_,_,_] (.im (.le .v1 (.i (.s (.n 6) .v0) (.s .v2 .v0))) (.im (.le .v0 .v2) (.le (.a .v0 .v1) .v2))) rfl h1 h2
set_option tactic.hygienic true in
theorem rng_le (r:List Nat):(rng r).n≤r.length:=by
 have h1:=qRun_le r
 have h2:=hexRun_le r
 unfold rng
 split
 ·exact h1
 ·split
  ·rename_i h
   rw [Bool.and_eq_true] at h
   have h3:=headP_len h.2
   have h4:=hexRun_le (r.drop ((hexRun r).length+1))
   rw [List.length_drop] at h4
   dsimp only; exact ar 3 [_,_,_] (.im (.le (.a (.a .v0 .n1) .n1) .v2) (.im (.le .v1 (.s .v2 (.a .v0 .n1))) (.le (.a (.a .v0 .n1) .v1) .v2))) rfl h3 h4
  ·exact h2
set_option tactic.hygienic true in
theorem identStart_pos {r:List Nat} (h:identStart r=true):1≤(ident r).2:=by
 cases r with
 | nil=>cases h
 | cons c t =>
  rw [ident_cons]
  split
  ·dsimp only; exact AR.h84 _
  ·rename_i h1
   split
   ·dsimp only; exact ar 2 [_,_] (.le .n1 (.a (.a .v0 .v1) .n1)) rfl
   ·rename_i h2
    exfalso
    have e1:isNS c=false:=by
     cases hn:isNS c with
     | false=>rfl
     | true =>
      exfalso; apply h1
      unfold isNS at hn; unfold isNm
      simp only [Bool.or_eq_true] at hn ⊢
      rcases hn with ((hn | hn) | hn) | hn <;> simp [hn]
    have e2:(c==45)=false:=by
     cases hn:c==45 with
     | false=>rfl
     | true=>exfalso; apply h1; unfold isNm; rw [hn]; simp
    simp only [identStart,e1,e2,Bool.false_or,Bool.false_eq_true,if_false] at h
    exact h2 h
theorem comEnd_cons (c:Nat) (t:List Nat):comEnd (c::t)=if c==42&&headP (·==47) t then some 0 else (comEnd t).map (·+1):=rfl
set_option tactic.hygienic true in
theorem comEnd_le:∀ {r:List Nat} {k:Nat},comEnd r=some k→k+2≤r.length
 | [],_,h=>by cases h
 | c::t,k,h=>by
  rw [comEnd_cons] at h
  split at h
  ·rename_i h1
   rw [Bool.and_eq_true] at h1
   cases h
   have:=headP_len (n:=0) h1.2
   simp; walk_at"m"
  ·cases h2:comEnd t with
   | none=>rw [h2] at h; cases h
   | some j =>
    rw [h2] at h
    cases h
    have:=comEnd_le h2
    simp; walk_at"m"
theorem wsN_pos {c:Nat} {t:List Nat} (h:isWs c=true):1≤wsN (c::t):=by
 unfold wsN; rw [List.takeWhile_cons,if_pos h]; simp
noncomputable def StepOk (c:Nat) (t:List Nat):Step→Prop
 | .leaf _ n=>1≤n∧n≤t.length+1
 | .opn _ _ _ _ n=>1≤n∧n≤t.length+1∧(c::t)[n - 1]?.any isOp=true
 | _=>True
theorem stepOk_leaf {c:Nat} {t:List Nat} {ts:List V} {n:Nat} (h:1≤n∧n≤t.length+1):StepOk c t (.leaf ts n):=h
theorem stepOk_ite {c:Nat} {t:List Nat} {b:Bool} {x y:Step} (h:b=true→StepOk c t x) (h':b=false→StepOk c t y):StepOk c t (if b then x else y):=by
 cases b with
 | true=>exact h rfl
 | false=>exact h' rfl
set_option tactic.hygienic true in
theorem step_le (pl:V) (ec:Option Nat) (c:Nat) (t:List Nat):StepOk c t (step pl ec c t):=by
 unfold step
 split
 ·rename_i h; exact ⟨wsN_pos h,wsN_le (c::t)⟩
 split
 ·rename_i h
  rw [Bool.and_eq_true,Bool.and_eq_true] at h
  have h1:=headP_len h.2.2
  have h2:=rng_le (t.drop 1)
  rw [List.length_drop] at h2
  refine stepOk_leaf ?_; exact ar 2 [_,_] (.im (.le (.a .n1 .n1) .v1) (.im (.le .v0 (.s .v1 .n1)) (.an (.le .n1 (.a (.n 2) .v0)) (.le (.a (.n 2) .v0) (.a .v1 .n1))))) rfl h1 h2
 split
 ·rename_i h
  have:=congrArg List.length (eq_of_beq h)
  rw [List.length_take] at this
  simp at this
  refine stepOk_leaf ?_; exact ar 1 [_] (.im (.eq (.i (.n 3) (.a .v0 .n1)) (.n 3)) (.an (.le .n1 (.n 3)) (.le (.n 3) (.a .v0 .n1)))) rfl this
 split
 ·rename_i h
  have h1:=identStart_pos h
  have h2:=ident_le (c::t)
  simp only [List.length_cons] at h2
  unfold stepI
  split
  ·rename_i h3
   have h4:=headP_len h3
   simp only [List.length_cons] at h4
   split
   ·have:=urlR_le ((c::t).drop ((ident (c::t)).2+1))
    rw [List.length_drop] at this
    simp only [List.length_cons] at this
    refine stepOk_leaf ?_; exact ar 3 [_,_,_] (.im (.le (.a .v0 .n1) (.a .v2 .n1)) (.im (.le .v1 (.s (.a .v2 .n1) (.a .v0 .n1))) (.an (.le .n1 (.a (.a .v0 .n1) .v1)) (.le (.a (.a .v0 .n1) .v1) (.a .v2 .n1))))) rfl h4 this
   ·refine ⟨by exact AR.h84 _,by walk_at"m",?_⟩
    rw [Nat.add_sub_cancel]
    cases hd:(c::t).drop (ident (c::t)).2 with
    | nil=>rw [hd] at h3; cases h3
    | cons e t' =>
     rw [hd] at h3
     rw [(get_of_drop hd).1]
     have:(e==40)=true:=h3
     show isOp e=true
     unfold isOp; rw [this]; rfl
  ·exact ⟨h1,h2⟩
 split
 ·rename_i n b h
  have h1:=numEnd_le h
  simp only [List.length_cons] at h1
  unfold stepN
  split
  ·have:=ident_le ((c::t).drop n)
   rw [List.length_drop] at this
   simp only [List.length_cons] at this
   refine stepOk_leaf ?_; exact ar 3 [_,_,_] (.im (.an (.le .n1 .v0) (.le .v0 (.a .v2 .n1))) (.im (.le .v1 (.s (.a .v2 .n1) .v0)) (.an (.le .n1 (.a .v0 .v1)) (.le (.a .v0 .v1) (.a .v2 .n1))))) rfl h1 this
  ·split
   ·rename_i h2
    have:=headP_len h2
    simp only [List.length_cons] at this
    refine stepOk_leaf ?_; exact ar 2 [_,_] (.im (.le (.a .v0 .n1) (.a .v1 .n1)) (.an (.le .n1 (.a .v0 .n1)) (.le (.a .v0 .n1) (.a .v1 .n1)))) rfl this
   ·exact ⟨h1.1,by exact ar 2 [_,_] (.im (.an (.le .n1 .v0) (.le .v0 (.a .v1 .n1))) (.le .v0 (.a .v1 .n1))) rfl h1⟩
 ·unfold stepZ
  refine stepOk_ite (fun h=>stepOk_ite (fun h=>?_) (fun h=>?_)) (fun h=>?_)
  ·have:=ident_le t
   refine stepOk_leaf ?_; exact AR.h144 _ _ this
  ·refine stepOk_leaf ?_; exact AR.h47 _
  refine stepOk_ite (fun h=>stepOk_ite (fun h=>?_) (fun h=>?_)) (fun h=>?_)
  ·have:=ident_le t
   refine stepOk_leaf ?_; exact AR.h144 _ _ this
  ·refine stepOk_leaf ?_; exact AR.h47 _
  refine stepOk_ite (fun h=>⟨by walk_at"m",by exact AR.h84 _,by rw [eq_of_beq h]; rfl⟩) (fun h=>?_)
  refine stepOk_ite (fun h=>⟨by walk_at"m",by exact AR.h84 _,by rw [eq_of_beq h]; rfl⟩) (fun h=>?_)
  refine stepOk_ite (fun h=>⟨by walk_at"m",by exact AR.h84 _,by rw [eq_of_beq h]; rfl⟩) (fun h=>?_)
  refine stepOk_ite (fun h=>trivial) (fun h=>?_)
  refine stepOk_ite (fun h=>stepOk_leaf (by exact AR.h47 _)) (fun h=>?_)
  refine stepOk_ite (fun h=>?_) (fun h=>?_)
  ·have:=(qstr_len c _ t (Nat.le_refl _)).2
   refine stepOk_leaf ?_; exact AR.h144 _ _ this
  refine stepOk_ite (fun h=>?_) (fun h=>?_)
  ·cases hk:comEnd (t.drop 1) with
   | none=>trivial
   | some k =>
    have:=comEnd_le hk
    rw [List.length_drop] at this
    refine stepOk_leaf ?_; exact ar 2 [_,_] (.im (.le (.a .v0 (.n 2)) (.s .v1 .n1)) (.an (.le .n1 (.a .v0 (.n 4))) (.le (.a .v0 (.n 4)) (.a .v1 .n1)))) rfl this
  refine stepOk_ite (fun h=>?_) (fun h=>?_)
  ·rw [Bool.and_eq_true] at h
   have:=congrArg List.length (eq_of_beq h.2)
   rw [List.length_take] at this
   simp at this
   refine stepOk_leaf ?_; exact ar 1 [_] (.im (.eq (.i (.n 3) .v0) (.n 3)) (.an (.le .n1 (.n 4)) (.le (.n 4) (.a .v0 .n1)))) rfl this
  refine stepOk_ite (fun h=>?_) (fun h=>?_)
  ·rw [Bool.and_eq_true] at h
   have:=headP_len (n:=0) h.2
   refine stepOk_leaf ?_; exact ar 1 [_] (.im (.le (.a .n0 .n1) .v0) (.an (.le .n1 (.n 2)) (.le (.n 2) (.a .v0 .n1)))) rfl this
  refine stepOk_ite (fun h=>stepOk_ite (fun h=>?_) (fun h=>?_)) (fun h=>?_)
  ·have:=headP_len (n:=0) h
   refine stepOk_leaf ?_; exact ar 1 [_] (.im (.le (.a .n0 .n1) .v0) (.an (.le .n1 (.n 2)) (.le (.n 2) (.a .v0 .n1)))) rfl this
  ·refine stepOk_leaf ?_; exact AR.h47 _
  ·refine stepOk_leaf ?_; exact AR.h47 _
structure NF where
 items:List V
 a:Addr
 bl:V→V
 ec:Option Nat
noncomputable def optS:Option Nat→V
 | none=>.none
 | some c=>.str [c]
noncomputable def framesH:Addr→List NF→AH
 | _,[]=>[]
 | a,f::r=>(f.a,.lst (f.items++[f.bl (.ref a)]))::framesH f.a r
noncomputable def stackV (fs:List NF):List V:=fs.reverse.map fun f=>.tup [.ref f.a,optS f.ec]
theorem stackV_snoc (fs:List NF) (cur:List V) (a:Addr) (mk:V→V) (ec:Option Nat):stackV (⟨cur,a,mk,ec⟩::fs)=stackV fs++[.tup [.ref a,optS ec]]:=by unfold stackV; rw [List.reverse_cons,List.map_append]; rfl
noncomputable def rootOf:Addr→List NF→Addr
 | a,[]=>a
 | _,f::r=>rootOf f.a r
inductive FrRel (M L:Nat):List NF→List FT→Prop
 | nil:FrRel M L [] []
 | cons {f:NF} {t:FT} {fs:List NF} {ft:List FT}:NodesT (M - fs.length) f.items t.items→f.items.length≤L→f.ec=t.ec →
   (∀ vs us,NodesT (M - (fs.length+1)) vs us→vs.length≤1000000→NodeT (M - fs.length) (f.bl (.lst vs)) (.tup [t.P,t.K,t.N,.lst us]))→(∀ a vs,Rp a vs (f.bl (.ref a)) (f.bl (.lst vs))) →
   FrRel M L fs ft→FrRel M L (f::fs) (t::ft)
theorem FrRel.mono {M L L':Nat} (h:L≤L') {fs:List NF} {ft:List FT} (r:FrRel M L fs ft):FrRel M L' fs ft :=
 FrRel.rec (motive:=fun fs ft _=>FrRel M L' fs ft) .nil (fun a b c d e _ ih=>.cons a (Nat.le_trans b h) c d e ih) r
noncomputable def okst:Option Nat→List FT→Prop
 | ec,[]=>ec=none
 | _,f::r=>okst f.ec r
theorem mv_app (p:Nat × Nat) (a b:List Nat):mv p (a++b)=mv (mv p a) b:=List.foldl_append
noncomputable abbrev mvA (s:List Nat) (p:Nat):Nat × Nat:=mv (1,1) (s.take p)
noncomputable abbrev plA (s:List Nat) (p:Nat):V:=plP (mvA s p)
theorem mvA_add (s:List Nat) (p n:Nat):mvA s (p+n)=mv (mvA s p) ((s.drop p).take n):=by
 rw [mvA,List.take_add,mv_app]
structure PRel (s:List Nat) (FIN:List V) (M:Nat) (root:Addr) (p:Nat) (ec:Option Nat) (a:Addr) (cur curT:List V) (fs:List NF) (ft:List FT):Prop where
 ple:p≤s.length
 nodes:NodesT (M - fs.length) cur curT
 frames:FrRel M (2 * p) fs ft
 rootA:rootOf a fs=root
 ok:okst ec ft
 len:cur.length≤2 * p
 flen:fs.length≤p
 cnt:fs.length+cnt (s.drop p) < M
 fin:∃ k,s.length - p≤k∧run k (mvA s p) (s.drop p) curT ec ft=FIN
 small:s.length≤100000
set_option genInjectivity false in
set_option genSizeOf false in
inductive PEnd (FIN:List V) (M:Nat) (root a:Addr) (cur:List V) (fs:List NF):Prop
 | mk (curT:List V) (ft:List FT) (L:Nat) (h1:NodesT (M - fs.length) cur curT) (h2:FrRel M L fs ft) (h3:rootOf a fs=root) (h4:fs.length < M) (h5:closeT curT ft=FIN) (h6:cur.length≤999999) (h7:L≤999998)
section
variable {s:List Nat} {FIN:List V} {M:Nat} {root a:Addr} {p:Nat} {ec:Option Nat} {cur curT:List V} {fs:List NF} {ft:List FT} {c:Nat} {t:List Nat}
theorem PRel.run_cons (P:PRel s FIN M root p ec a cur curT fs ft) (hd:s.drop p=c::t):∃ k,t.length≤k∧run (k+1) (mvA s p) (c::t) curT ec ft=FIN:=by
 obtain ⟨k,hk,e⟩:=P.fin
 have:=congrArg List.length hd
 rw [List.length_drop] at this
 simp only [List.length_cons] at this
 cases k with
 | zero=>exact (ar 3 [_,_,_] (.im (.eq (.s .v0 .v1) (.a .v2 .n1)) (.im (.le (.s .v0 .v1) .n0) .ff)) rfl this hk).elim
 | succ k=>exact ⟨k,by exact ar 4 [_,_,_,_] (.im (.eq (.s .v2 .v3) (.a .v0 .n1)) (.im (.le (.s .v2 .v3) (.a .v1 .n1)) (.le .v0 .v1))) rfl this hk,by rw [← hd]; exact e⟩
theorem cnt_drop (r:List Nat) (n:Nat):cnt (r.drop n)≤cnt r:=by
 unfold cnt; exact List.Sublist.countP_le (List.drop_sublist n r)
theorem PRel.leaf (P:PRel s FIN M root p ec a cur curT fs ft) (hd:s.drop p=c::t) {ts vs:List V} {n:Nat} (hs:step (plA s p) ec c t=.leaf ts n) (hn:NodesT (M - fs.length) vs ts) (h2:vs.length≤2) :
  PRel s FIN M root (p+n) ec a (cur++vs) (curT++ts) fs ft∧p < p+n:=by
 obtain ⟨k,hk,e⟩:=P.run_cons hd
 have hl:=step_le (plA s p) ec c t
 rw [hs] at hl
 have hlen:=congrArg List.length hd
 rw [List.length_drop] at hlen
 simp only [List.length_cons] at hlen
 have hl:1≤n∧n≤t.length+1:=hl
 have hple:=P.ple
 have hlp:=P.len
 have hfl:=P.flen
 have hc:=P.cnt
 have hc2:Internal.cnt (s.drop (p+n))≤Internal.cnt (s.drop p):=by rw [← List.drop_drop]; exact cnt_drop _ _
 refine ⟨⟨by exact ar 4 [_,_,_,_] (.im (.an (.le .n1 .v1) (.le .v1 (.a .v3 .n1))) (.im (.eq (.s .v2 .v0) (.a .v3 .n1)) (.le (.a .v0 .v1) .v2))) rfl hl hlen,P.nodes.append hn,P.frames.mono (by exact ar 2 [_,_] (.le (.m 2 .v0) (.m 2 (.a .v0 .v1))) rfl),P.rootA,P.ok,by rw [List.length_append]; exact ar 5 [_,_,_,_,_] (.im (.an (.le .n1 .v3) (.le .v3 (.a .v4 .n1))) (.im (.le .v0 (.m 2 .v2)) (.im (.le .v1 (.n 2)) (.le (.a .v0 .v1) (.m 2 (.a .v2 .v3)))))) rfl hl hlp h2,by exact ar 3 [_,_,_] (.im (.le .v0 .v1) (.le .v0 (.a .v1 .v2))) rfl hfl,by exact ar 4 [_,_,_,_] (.im (.lt (.a .v0 .v3) .v2) (.im (.le .v1 .v3) (.lt (.a .v0 .v1) .v2))) rfl hc hc2,⟨k,by exact ar 5 [_,_,_,_,_] (.im (.an (.le .n1 .v2) (.le .v2 (.a .v4 .n1))) (.im (.eq (.s .v0 .v1) (.a .v4 .n1)) (.im (.le .v4 .v3) (.le (.s .v0 (.a .v1 .v2)) .v3)))) rfl hl hlen hk,?_⟩,P.small⟩,by exact ar 3 [_,_,_] (.im (.an (.le .n1 .v1) (.le .v1 (.a .v2 .n1))) (.lt .v0 (.a .v0 .v1))) rfl hl⟩
 rw [Internal.run_cons,hs] at e
 rw [← List.drop_drop,mvA_add,hd]
 exact e
theorem cnt_op {r:List Nat} {n:Nat} (h1:1≤n) (h:r[n - 1]?.any isOp=true):cnt (r.drop n)+1≤cnt r:=by
 cases hg:r[n - 1]? with
 | none=>rw [hg] at h; cases h
 | some c =>
  rw [hg] at h
  have h:isOp c=true:=h
  have hd:=drop_cons hg
  rw [show n - 1+1=n by exact ar 1 [_] (.im (.le .n1 .v0) (.eq (.a (.s .v0 .n1) .n1) .v0)) rfl h1] at hd
  have h2:=cnt_drop r (n - 1)
  rw [hd] at h2
  have:cnt (c::r.drop n)=cnt (r.drop n)+1:=by unfold cnt; rw [List.countP_cons_of_pos h]
  exact ar 3 [_,_,_] (.im (.eq .v2 (.a .v0 .n1)) (.im (.le .v2 .v1) (.le (.a .v0 .n1) .v1))) rfl this h2
theorem PRel.opn (P:PRel s FIN M root p ec a cur curT fs ft) (hd:s.drop p=c::t) {PL K N:V} {e n:Nat} (hs:step (plA s p) ec c t=.opn PL K N e n) {a':Addr} {mk:V→V}
  (hm:∀ i vs us,NodesT i vs us→vs.length≤1000000→NodeT (i+1) (mk (.lst vs)) (.tup [PL,K,N,.lst us])) (hr:∀ a vs,Rp a vs (mk (.ref a)) (mk (.lst vs))) :
  PRel s FIN M root (p+n) (some e) a' [] [] (⟨cur,a,mk,ec⟩::fs) (⟨curT,PL,K,N,ec⟩::ft)∧p < p+n:=by
 obtain ⟨k,hk,er⟩:=P.run_cons hd
 have hl:=step_le (plA s p) ec c t
 rw [hs] at hl
 have hlen:=congrArg List.length hd
 rw [List.length_drop] at hlen
 simp only [List.length_cons] at hlen
 have hl:1≤n∧n≤t.length+1∧(c::t)[n - 1]?.any isOp=true:=hl
 have hple:=P.ple
 have hlp:=P.len
 have hfl:=P.flen
 have hc:=P.cnt
 have hc2:Internal.cnt (s.drop (p+n))+1≤Internal.cnt (s.drop p):=by rw [← List.drop_drop,hd]; exact cnt_op hl.1 hl.2.2
 refine ⟨⟨by walk_at"m",.nil,.cons P.nodes (by show cur.length≤_; exact ar 3 [_,_,_] (.im (.le .v0 (.m 2 .v1)) (.le .v0 (.m 2 (.a .v1 .v2)))) rfl hlp) rfl ?_ hr (P.frames.mono (by exact ar 2 [_,_] (.le (.m 2 .v0) (.m 2 (.a .v0 .v1))) rfl)),P.rootA,P.ok,by simp,by simp; walk_at"m",by simp; exact ar 4 [_,_,_,_] (.im (.le (.a .v1 .n1) .v3) (.im (.lt (.a .v0 .v3) .v2) (.lt (.a (.a .v0 .n1) .v1) .v2))) rfl hc2 hc,⟨k,by walk_at"m",?_⟩,P.small⟩,by walk_at"m"⟩
 ·intro vs us h hl
  have:=hm _ vs us h hl
  rw [show M - (fs.length+1)+1=M - fs.length by exact ar 3 [_,_,_] (.im (.lt (.a .v1 .v2) .v0) (.eq (.a (.s .v0 (.a .v1 .n1)) .n1) (.s .v0 .v1))) rfl hc] at this
  exact this
 ·rw [Internal.run_cons,hs] at er
  rw [← List.drop_drop,mvA_add,hd]
  exact er
theorem PRel.cls {f:NF} (P:PRel s FIN M root p ec a cur curT (f::fs) ft) (hd:s.drop p=c::t) (hs:step (plA s p) ec c t=.cls) :
  ∃ curT' ft',PRel s FIN M root (p+1) f.ec f.a (f.items++[f.bl (.lst cur)]) curT' fs ft':=by
 obtain ⟨k,hk,e⟩:=P.run_cons hd
 have hlen:=congrArg List.length hd
 rw [List.length_drop] at hlen
 simp only [List.length_cons] at hlen
 have hple:=P.ple
 have hlp:=P.len
 have hfl:=P.flen
 have hc:=P.cnt
 have hn:=P.nodes
 have hok:=P.ok
 have hrt:=P.rootA
 have hc2:Internal.cnt (s.drop (p+1))≤Internal.cnt (s.drop p):=by rw [← List.drop_drop]; exact cnt_drop _ _
 have hf:=P.frames
 simp only [List.length_cons] at hfl hc hn
 cases hf with
 | @cons _ ftop _ ft' h1 h2 h3 h4 h5 h6 =>
  refine ⟨ftop.items++[.tup [ftop.P,ftop.K,ftop.N,.lst curT]],ft',⟨by exact AR.h176 _ _ _ hlen,h1.snoc (h4 _ _ hn (by have:=P.small; exact ar 4 [_,_,_,_] (.im (.eq (.s .v1 .v2) (.a .v3 .n1)) (.im (.le .v0 (.m 2 .v2)) (.im (.le .v1 (.n 100000)) (.le .v0 (.n 1000000))))) rfl hlen hlp this)),h6.mono (by exact ar 1 [_] (.le (.m 2 .v0) (.m 2 (.a .v0 .n1))) rfl),hrt,?_,by rw [List.length_append]; simp; exact ar 2 [_,_] (.im (.le .v0 (.m 2 .v1)) (.le (.a .v0 .n1) (.m 2 (.a .v1 .n1)))) rfl h2,by exact ar 2 [_,_] (.im (.le (.a .v0 .n1) .v1) (.le .v0 (.a .v1 .n1))) rfl hfl,by exact ar 4 [_,_,_,_] (.im (.lt (.a (.a .v0 .n1) .v3) .v2) (.im (.le .v1 .v3) (.lt (.a .v0 .v1) .v2))) rfl hc hc2,⟨k,by exact ar 4 [_,_,_,_] (.im (.eq (.s .v0 .v1) (.a .v3 .n1)) (.im (.le .v3 .v2) (.le (.s .v0 (.a .v1 .n1)) .v2))) rfl hlen hk,?_⟩,P.small⟩⟩
  ·rw [h3]; exact hok
  ·rw [Internal.run_cons,hs] at e
   rw [← List.drop_drop,mvA_add,hd,h3]
   exact e
theorem PRel.cls_ne (P:PRel s FIN M root p (some c) a cur curT fs ft):∃ f fs',fs=f::fs':=by
 have hf:=P.frames
 have ho:=P.ok
 cases hf with
 | nil=>cases ho
 | cons=>exact ⟨_,_,rfl⟩
theorem PRel.stop (P:PRel s FIN M root p ec a cur curT fs ft) (hd:s.drop p=c::t) {ts vs:List V} (hs:step (plA s p) ec c t=.stop ts) (hn:NodesT (M - fs.length) vs ts) (h2:vs.length≤2):PEnd FIN M root a (cur++vs) fs:=by
 obtain ⟨k,hk,e⟩:=P.run_cons hd
 have hc:=P.cnt
 rw [Internal.run_cons,hs] at e
 have h3:=P.small
 have h4:=P.len
 have h5:=P.ple
 exact ⟨_,ft,_,P.nodes.append hn,P.frames,P.rootA,by exact ar 3 [_,_,_] (.im (.lt (.a .v0 .v2) .v1) (.lt .v0 .v1)) rfl hc,e,by rw [List.length_append]; exact ar 4 [_,_,_,_] (.im (.le .v0 (.m 2 .v2)) (.im (.le .v3 (.n 100000)) (.im (.le .v1 (.n 2)) (.im (.le .v2 .v3) (.le (.a .v0 .v1) (.n 999999)))))) rfl h4 h3 h2 h5,by exact ar 2 [_,_] (.im (.le .v1 (.n 100000)) (.im (.le .v0 .v1) (.le (.m 2 .v0) (.n 999998)))) rfl h3 h5⟩
theorem PRel.done (P:PRel s FIN M root p ec a cur curT fs ft) (hd:s.drop p=[]):PEnd FIN M root a cur fs:=by
 obtain ⟨k,hk,e⟩:=P.fin
 have hc:=P.cnt
 rw [hd] at e
 rw [run_nil] at e
 have h3:=P.small
 have h4:=P.len
 have h5:=P.ple
 exact ⟨_,ft,_,P.nodes,P.frames,P.rootA,by exact ar 3 [_,_,_] (.im (.lt (.a .v0 .v2) .v1) (.lt .v0 .v1)) rfl hc,e,by exact ar 3 [_,_,_] (.im (.le .v0 (.m 2 .v1)) (.im (.le .v2 (.n 100000)) (.im (.le .v1 .v2) (.le .v0 (.n 999999))))) rfl h4 h3 h5,by exact ar 2 [_,_] (.im (.le .v1 (.n 100000)) (.im (.le .v0 .v1) (.le (.m 2 .v0) (.n 999998)))) rfl h3 h5⟩
end
section
set_option genInjectivity false
set_option genSizeOf false
noncomputable def TabOk (i:Nat) (t:Option Pos):Prop:=t=none∨t=genPos (bodyAt i)
noncomputable abbrev TabH (t1 t2 t3:Option Pos):AH:=[(29,.tab t2),(36,.tab t3)]
noncomputable abbrev HP (stk a:Addr) (cur:List V) (fs:List NF) (T:AH):AH:=(stk,.lst (stackV fs))::(a,.lst cur)::(framesH a fs++T)
noncomputable def lA (s:List Nat) (p:Nat):Int:=((mvA s p).1:Int)
noncomputable def cA (s:List Nat) (p:Nat):Int:=((mvA s p).2:Int)
noncomputable def nlA (s:List Nat) (p:Nat):Int:=(p:Int) - cA s p
noncomputable abbrev LO (s:List Nat) (p tsp:Nat) (root a:Addr) (ec:Option Nat) (stk:Addr) (jK jC jB jR jO jE jJ jQ jF jM jG jA jL jN jH jP jI jD:V):Loc:=[("css",.str s),("skip_comments",.bool false),("length",.int s.length),("token_start_pos",.int tsp),("pos",.int p),("line",.int (lA s tsp)),("last_newline",.int (nlA s tsp)),("root",.ref root),("tokens",.ref a),("end_char",optS ec),("stack",.ref stk),("newline",jK),("column",jC),("c",jB),("value",jR),("start",jO),("end",jE),("is_url",jJ),("url_pos",jQ),("error",jF),("repr",jM),("error_key",jG),("arguments",jA),("plain",jL),("repr_",jN),("int_value",jH),("unit",jP),("is_identifier",jI),("content",jD)]
inductive PJ (s:List Nat) (FIN:List V) (M:Nat) (root stk:Addr) (t1:Option Pos):Nat→Loc→AH→Prop
 | mk (p:Nat) {tsp:Nat} {ec:Option Nat} {a:Addr} {cur curT:List V} {fs:List NF} {ft:List FT} {t2 t3:Option Pos} {jK jC jB jR jO jE jJ jQ jF jM jG jA jL jN jH jP jI jD:V} (hts:tsp≤p) (P:PRel s FIN M root p ec a cur curT fs ft) (h2:TabOk 5 t2) (h3:TabOk 6 t3) :
  PJ s FIN M root stk t1 (s.length - p) (LO s p tsp root a ec stk jK jC jB jR jO jE jJ jQ jF jM jG jA jL jN jH jP jI jD) (HP stk a cur fs (TabH t1 t2 t3))
inductive PF (s:List Nat) (FIN:List V) (M:Nat) (root stk:Addr) (t1:Option Pos):R→Loc→AH→Prop
 | mk {pv tv:V} {l ln:Int} {ec:V} {a:Addr} {cur:List V} {fs:List NF} {t2 t3:Option Pos} {jK jC jB jR jO jE jJ jQ jF jM jG jA jL jN jH jP jI jD:V} (P:PEnd FIN M root a cur fs) (h2:TabOk 5 t2) (h3:TabOk 6 t3) :
  PF s FIN M root stk t1 .next [("css",.str s),("skip_comments",.bool false),("length",.int s.length),("token_start_pos",tv),("pos",pv),("line",.int l),("last_newline",.int ln),("root",.ref root),("tokens",.ref a),("end_char",ec),("stack",.ref stk),("newline",jK),("column",jC),("c",jB),("value",jR),("start",jO),("end",jE),("is_url",jJ),("url_pos",jQ),("error",jF),("repr",jM),("error_key",jG),("arguments",jA),("plain",jL),("repr_",jN),("int_value",jH),("unit",jP),("is_identifier",jI),("content",jD)] (HP stk a cur fs (TabH t1 t2 t3))
noncomputable def QB (s:List Nat) (FIN:List V) (M:Nat) (root stk:Addr) (t1:Option Pos) (n:Nat) (r:R) (lo:Loc) (H:AH):Prop:=match r with
 | .next | .cont=>∃ m,m < n∧PJ s FIN M root stk t1 m lo H
 | .brk=>PF s FIN M root stk t1 .next lo H
 | .ret v=>PF s FIN M root stk t1 (.ret v) lo H
section
variable {s:List Nat} {FIN:List V} {M:Nat} {root a stk:Addr} {p:Nat} {ec:Option Nat} {cur curT:List V} {fs:List NF} {ft:List FT} {c:Nat} {t:List Nat} {t1 t2 t3:Option Pos}
theorem PJ.leaf (P:PRel s FIN M root p ec a cur curT fs ft) (hd:s.drop p=c::t) {ts vs:List V} {n:Nat} (hs:step (plA s p) ec c t=.leaf ts n) (hn:NodesT (M - fs.length) vs ts) (h2:vs.length≤2) {p':Nat} (hp:p'=p+n) {cur':List V} (hc:cur'=cur++vs) (ht2:TabOk 5 t2) (ht3:TabOk 6 t3) {jK jC jB jR jO jE jJ jQ jF jM jG jA jL jN jH jP jI jD:V} :
  ∃ m,m < s.length - p∧PJ s FIN M root stk t1 m (LO s p' p root a ec stk jK jC jB jR jO jE jJ jQ jF jM jG jA jL jN jH jP jI jD) (HP stk a cur' fs (TabH t1 t2 t3)):=by
 subst hp; subst hc
 obtain ⟨P',h⟩:=P.leaf hd hs hn h2
 have:=P'.ple
 exact ⟨_,by exact ar 3 [_,_,_] (.im (.le (.a .v1 .v2) .v0) (.im (.lt .v1 (.a .v1 .v2)) (.lt (.s .v0 (.a .v1 .v2)) (.s .v0 .v1)))) rfl this h,.mk _ (by walk_at"m") P' ht2 ht3⟩
theorem PJ.opn (P:PRel s FIN M root p ec a cur curT fs ft) (hd:s.drop p=c::t) {PL K N:V} {e n:Nat} (hs:step (plA s p) ec c t=.opn PL K N e n) {a':Addr} {mk:V→V}
  (hm:∀ i vs us,NodesT i vs us→vs.length≤1000000→NodeT (i+1) (mk (.lst vs)) (.tup [PL,K,N,.lst us])) (hr:∀ a vs,Rp a vs (mk (.ref a)) (mk (.lst vs))) {p':Nat} (hp:p'=p+n) {S' cur':List V} (hS:S'=stackV fs++[.tup [.ref a,optS ec]]) (hc:cur'=cur++[mk (.ref a')]) {ev:V} (he:ev=.str [e]) (ht2:TabOk 5 t2) (ht3:TabOk 6 t3) {jK jC jB jR jO jE jJ jQ jF jM jG jA jL jN jH jP jI jD:V} :
  ∃ m,m < s.length - p∧PJ s FIN M root stk t1 m [("css",.str s),("skip_comments",.bool false),("length",.int s.length),("token_start_pos",.int p),("pos",.int p'),("line",.int (lA s p)),("last_newline",.int (nlA s p)),("root",.ref root),("tokens",.ref a'),("end_char",ev),("stack",.ref stk),("newline",jK),("column",jC),("c",jB),("value",jR),("start",jO),("end",jE),("is_url",jJ),("url_pos",jQ),("error",jF),("repr",jM),("error_key",jG),("arguments",jA),("plain",jL),("repr_",jN),("int_value",jH),("unit",jP),("is_identifier",jI),("content",jD)] ((stk,.lst S')::(a',.lst [])::(a,.lst cur')::(framesH a fs++TabH t1 t2 t3)):=by
 subst hp; subst hS; subst he; subst hc
 obtain ⟨P',h⟩:=P.opn hd hs (a':=a') hm hr
 have:=P'.ple
 rw [← stackV_snoc fs cur a mk ec]
 exact ⟨_,by exact ar 3 [_,_,_] (.im (.le (.a .v1 .v2) .v0) (.im (.lt .v1 (.a .v1 .v2)) (.lt (.s .v0 (.a .v1 .v2)) (.s .v0 .v1)))) rfl this h,.mk _ (by walk_at"m") P' ht2 ht3⟩
theorem PJ.cls {f:NF} (P:PRel s FIN M root p ec a cur curT (f::fs) ft) (hd:s.drop p=c::t) (hs:step (plA s p) ec c t=.cls) {ev:V} (he:ev=optS f.ec) (ht2:TabOk 5 t2) (ht3:TabOk 6 t3) {jK jC jB jR jO jE jJ jQ jF jM jG jA jL jN jH jP jI jD:V} :
  ∃ m,m < s.length - p∧PJ s FIN M root stk t1 m [("css",.str s),("skip_comments",.bool false),("length",.int s.length),("token_start_pos",.int p),("pos",.int ((p+1:Nat):Int)),("line",.int (lA s p)),("last_newline",.int (nlA s p)),("root",.ref root),("tokens",.ref f.a),("end_char",ev),("stack",.ref stk),("newline",jK),("column",jC),("c",jB),("value",jR),("start",jO),("end",jE),("is_url",jJ),("url_pos",jQ),("error",jF),("repr",jM),("error_key",jG),("arguments",jA),("plain",jL),("repr_",jN),("int_value",jH),("unit",jP),("is_identifier",jI),("content",jD)] (HP stk f.a (f.items++[f.bl (.lst cur)]) fs (TabH t1 t2 t3)):=by
 subst he
 obtain ⟨curT',ft',P'⟩:=P.cls hd hs
 have:=P'.ple
 exact ⟨_,by exact ar 2 [_,_] (.im (.le (.a .v1 .n1) .v0) (.lt (.s .v0 (.a .v1 .n1)) (.s .v0 .v1))) rfl this,.mk _ (by walk_at"m") P' ht2 ht3⟩
theorem PF.stop (P:PRel s FIN M root p ec a cur curT fs ft) (hd:s.drop p=c::t) {ts vs:List V} (hs:step (plA s p) ec c t=.stop ts) (hn:NodesT (M - fs.length) vs ts) (h2:vs.length≤2) {cur':List V} (hc:cur'=cur++vs) (ht2:TabOk 5 t2) (ht3:TabOk 6 t3) {l ln:Int} {ev pv tv jK jC jB jR jO jE jJ jQ jF jM jG jA jL jN jH jP jI jD:V} :
  PF s FIN M root stk t1 .next [("css",.str s),("skip_comments",.bool false),("length",.int s.length),("token_start_pos",tv),("pos",pv),("line",.int l),("last_newline",.int ln),("root",.ref root),("tokens",.ref a),("end_char",ev),("stack",.ref stk),("newline",jK),("column",jC),("c",jB),("value",jR),("start",jO),("end",jE),("is_url",jJ),("url_pos",jQ),("error",jF),("repr",jM),("error_key",jG),("arguments",jA),("plain",jL),("repr_",jN),("int_value",jH),("unit",jP),("is_identifier",jI),("content",jD)] (HP stk a cur' fs (TabH t1 t2 t3)):=by
 subst hc
 exact .mk (P.stop hd hs hn h2) ht2 ht3
theorem PF.done (P:PRel s FIN M root p ec a cur curT fs ft) (hd:s.drop p=[]) (ht2:TabOk 5 t2) (ht3:TabOk 6 t3) {l ln:Int} {ev pv tv jK jC jB jR jO jE jJ jQ jF jM jG jA jL jN jH jP jI jD:V} :
  PF s FIN M root stk t1 .next [("css",.str s),("skip_comments",.bool false),("length",.int s.length),("token_start_pos",tv),("pos",pv),("line",.int l),("last_newline",.int ln),("root",.ref root),("tokens",.ref a),("end_char",ev),("stack",.ref stk),("newline",jK),("column",jC),("c",jB),("value",jR),("start",jO),("end",jE),("is_url",jJ),("url_pos",jQ),("error",jF),("repr",jM),("error_key",jG),("arguments",jA),("plain",jL),("repr_",jN),("int_value",jH),("unit",jP),("is_identifier",jI),("content",jD)] (HP stk a cur fs (TabH t1 t2 t3)) :=
 .mk (P.done hd) ht2 ht3
end
theorem MUpd.app {b:Addr} {x x':MO} {T T':AH} (h:MUpd b x x' T T'):∀ F:AH,MUpd b x x' (F++T) (F++T')
 | []=>h
 | _::F=>.there (MUpd.app h F)
theorem rp_framesH {a:Addr} {vs:List V} {f:NF} (h:Rp a vs (f.bl (.ref a)) (f.bl (.lst vs))) (r:AH):RpH a vs ((f.a,.lst (f.items++[f.bl (.ref a)]))::r) ((f.a,.lst (f.items++[f.bl (.lst vs)]))::r) :=
 .cons (.lst (RpAll.append (RpAll.refl _) (.cons h .nil))) (RpH.refl _)
theorem Ss.freezeFs {g:Gx} {Γ:Fx} {d:Nat} {lo:Loc} {st:List Stmt} {Q:R→Loc→AH→Prop} {stk:Addr} {S:MO} {T:AH} {FIN:List V} {M root:Nat} :
  ∀ (fs:List NF) (a:Addr) (cur:List V),PEnd FIN M root a cur fs→(∀ vs,NodesT M vs FIN→vs.length≤999999→Ss g Γ d st lo ((stk,S)::(root,.lst vs)::T) Q)→Ss g Γ d st lo ((stk,S)::(a,.lst cur)::(framesH a fs++T)) Q
 | [],a,cur,⟨curT,ft,L,h1,h2,h3,h4,h5,h6,h7⟩,k=>by
  cases h2
  subst h3
  have h5:curT=FIN:=h5
  subst h5
  exact k cur h1 h6
 | f::fs,a,cur,⟨curT,ft,L,h1,h2,h3,h4,h5,h6,h7⟩,k=>by
  cases h2 with
  | @cons _ ft0 _ ft g1 g2 g3 g4 g5 g6 =>
   simp only [List.length_cons] at h1 h4
   refine Ss.freeze (a:=a) (vs:=cur) (.there .here) (RpL.refl _) (.cons (.refl _) (rp_framesH (f:=f) (g5 _ _) _)) ?_
   exact Ss.freezeFs fs f.a _ ⟨_,ft,L,g1.snoc (g4 _ _ h1 (by exact AR.h299 _ h6)),g6,h3,by exact ar 2 [_,_] (.im (.lt (.a .v0 .n1) .v1) (.lt .v0 .v1)) rfl h4,h5,by rw [List.length_append]; simp; exact ar 2 [_,_] (.im (.le .v1 (.n 999998)) (.im (.le .v0 .v1) (.le .v0 (.n 999998)))) rfl h7 g2,h7⟩ k
noncomputable def loopB:List Stmt:=ifB (withB (bodyAt 30))
end
open NumText in
theorem intText_plus {x:Str} {cs:List Nat} (hx:x.cps.toList=43::cs) (h:AllDigits cs) (h1:cs≠[]) (h2:x.length≤4300):∃ z,PySem.intText? x=some z:=by
 have hall:∀ c∈x.cps.toList,43≤c∧c≤57:=by
  rw [hx]
  intro c hc
  rcases List.mem_cons.mp hc with e | hc
  ·exact ar 1 [_] (.im (.eq .v0 (.n 43)) (.an (.le (.n 43) .v0) (.le .v0 (.n 57)))) rfl e
  ·have:=h c hc; exact ar 1 [_] (.im (.an (.le (.n 48) .v0) (.le .v0 (.n 57))) (.an (.le (.n 43) .v0) (.le .v0 (.n 57)))) rfl this
 have hl:x.cps.toList.length=x.length:=Array.length_toList
 have e1:numTextOf x=x.cps.toList:=by
  refine if_pos ?_
  rw [← Array.all_toList,List.all_eq_true]
  intro c hc
  have:=hall c hc
  exact decide_eq_true (by exact ar 1 [_] (.im (.an (.le (.n 43) .v0) (.le .v0 (.n 57))) (.lt .v0 (.n 128))) rfl this)
 have e2:numSeenOf x=x.cps.toList:=by
  show (numTextOf x).takeWhile _=_
  rw [e1]
  refine takeWhile_all fun c hc=>?_
  have:=hall c hc
  exact bne_iff_ne.mpr (by exact ar 1 [_] (.im (.an (.le (.n 43) .v0) (.le .v0 (.n 57))) (.nt (.eq .v0 .n0))) rfl this)
 unfold PySem.intText?
 rw [e1,e2,if_pos (beq_self_eq_true _),hx]
 rw [hx,List.length_cons] at hl
 have es:sign ((43::cs).dropWhile blank)=(false,cs):=by rw [dropWhile_of (by decide)]; rfl
 have ec:core (43::cs)=cs:=by
  unfold core
  rw [es]
  show (cs.reverse.dropWhile blank).reverse=cs
  rw [dropWhile_digits h.reverse,List.reverse_reverse]
 rw [ec,es,digits_of h h1]
 have hsz:=PySem.NumText.push_size cs #[]
 refine ⟨_,if_pos ?_⟩
 rw [hsz]; simp only [Array.size_empty]; exact ar 2 [_,_] (.im (.eq (.a .v0 .n1) .v1) (.im (.le .v1 (.n 4300)) (.le (.a .n0 .v0) (.n 4300)))) rfl hl h2
theorem S'_toList (s:List Nat):(S' s).cps.toList=s:=by simp [S']
theorem S'_length (s:List Nat):(S' s).length=s.length:=by rw [str_len,S'_toList]
theorem intText_sd {sg ds:List Nat} (hs:sg=[]∨sg=[45]∨sg=[43]) (h:∀ c∈ds,48≤c∧c≤57) (hne:ds≠[]) (hl:ds.length≤4000):∃ z,PySem.intText? (S' (sg++ds))=some z:=by
 rcases hs with rfl | rfl | rfl
 ·exact ⟨_,intText_digits (by rw [S'_toList]; exact h) (by rw [S'_toList]; exact hne) (by rw [S'_length]; simp; exact ar 1 [_] (.im (.le .v0 (.n 4000)) (.le .v0 (.n 4300))) rfl hl)⟩
 ·exact ⟨_,intText_neg (S'_toList _) h hne (by rw [S'_length]; simp; exact ar 1 [_] (.im (.le .v0 (.n 4000)) (.le .v0 (.n 4299))) rfl hl)⟩
 ·exact intText_plus (S'_toList _) h hne (by rw [S'_length]; simp; exact ar 1 [_] (.im (.le .v0 (.n 4000)) (.le .v0 (.n 4299))) rfl hl)
set_option tactic.hygienic true in
theorem num_int {r:List Nat} {n:Nat} (h:numEnd r=some (n,true)) (hl:r.length≤640):∃ z,PySem.intText? (S' (r.take n))=some z:=by
 unfold numEnd at h
 have hsg:(if headP isSg r then 1 else 0)=(r.take (if headP isSg r then 1 else 0)).length∧(r.take (if headP isSg r then 1 else 0)=[]∨r.take (if headP isSg r then 1 else 0)=[45]∨r.take (if headP isSg r then 1 else 0)=[43]):=by
  cases r with
  | nil=>exact ⟨rfl,.inl rfl⟩
  | cons c t =>
   by_cases hc:isSg c=true
   ·have:headP isSg (c::t)=true:=hc
    rw [if_pos this]
    refine ⟨rfl,.inr ?_⟩
    unfold isSg at hc
    simp at hc
    rcases hc with rfl | rfl
    ·exact .inl rfl
    ·exact .inr rfl
   ·have:¬ headP isSg (c::t)=true:=hc
    rw [if_neg this]
    exact ⟨rfl,.inl rfl⟩
 generalize (if headP isSg r=true then 1 else 0)=a at h hsg
 dsimp only at h
 split at h
 ·cases h
 ·split at h
  ·cases h
  ·rename_i hne
   have h:=Option.some.inj h
   have h1:=congrArg Prod.fst h
   have h2:=congrArg Prod.snd h
   dsimp only at h1 h2
   have h3:expo (r.drop (a+digs (r.drop a)))=0:=by simpa using h2
   have hn:n=a+digs (r.drop a):=by exact ar 4 [_,_,_,_] (.im (.eq (.a (.a .v1 .v2) .v3) .v0) (.im (.eq .v3 .n0) (.eq .v0 (.a .v1 .v2)))) rfl h1 h3
   subst hn
   have e:r.take (a+digs (r.drop a))=r.take a++(r.drop a).takeWhile isDig:=by
    rw [List.take_add]
    congr 1
    unfold digs
    exact (List.prefix_iff_eq_take.mp (List.takeWhile_prefix _)).symm
   rw [e]
   refine intText_sd hsg.2 (fun c hc=>?_) (fun q=>?_) ?_
   ·have:=List.all_eq_true.mp (List.all_takeWhile (p:=isDig) (l:=r.drop a)) c hc
    unfold isDig at this
    simpa using this
   ·have:digs (r.drop a)=0:=by unfold digs; rw [q]; rfl
    exact ar 2 [_,_] (.im (.eq .v0 .n0) (.im (.nt (.eq (.a .v1 .v0) .v1)) .ff)) rfl this hne
   ·have:=tw_le (p:=isDig) (r.drop a)
    rw [List.length_drop] at this; exact ar 3 [_,_,_] (.im (.le .v0 (.s .v1 .v2)) (.im (.le .v1 (.n 640)) (.le .v0 (.n 4000)))) rfl this hl
section
open PySem.Builtin PySem.Builtin.Str PySem.StrLaws
noncomputable def occQ (s y:List Nat) (hi:Nat):Nat→Nat→Nat→Nat→List Nat
 | _,0,_,_=>[]
 | 0,_+1,_,_=>[]
 | l+1,k+1,i,free=>if free≤i∧i+y.length≤hi∧(s.drop i).take y.length=y then i::occQ s y hi l k (i+1) (i+y.length) else occQ s y hi (l+1) k (i+1) free
theorem occQ_zero (s y:List Nat) (hi k i f:Nat):occQ s y hi 0 k i f=[]:=by cases k <;> rfl
theorem subAt_S' (s y:List Nat) (i:Nat):subAt (S' s) (S' y) i=((s.drop i).take y.length==y):=by
 rw [subAt_eq,S'_toList,S'_toList,S'_length]
theorem occQ_s (s y:List Nat) (hi l k i free:Nat):occQ s y hi (l+1) (k+1) i free=if free≤i∧i+y.length≤hi∧(s.drop i).take y.length=y then i::occQ s y hi l k (i+1) (i+y.length) else occQ s y hi (l+1) k (i+1) free:=rfl
theorem occ_forIn (s y:List Nat) (hi limit:Nat):∀ (k i:Nat) (acc:Array Nat) (free:Nat),(forIn (List.range' i k) (acc,free) (occBody (S' s) (S' y) hi limit)).run.fst.toList=acc.toList++occQ s y hi (limit - acc.size) k i free:=by
 intro k
 induction k with
 | zero=>intro i acc free; cases h:limit - acc.size <;> exact (List.append_nil _).symm
 | succ k ih0 =>
  intro i acc free
  rw [List.range'_succ,List.forIn_cons]
  unfold occBody
  rw [S'_length,subAt_S']
  by_cases h:((acc.size < limit∧free≤i)∧i+y.length≤hi)∧((s.drop i).take y.length==y)=true
  ·rw [if_pos h]
   have ih:=ih0 (i+1) (acc.push i) (i+y.length)
   have e:limit - acc.size=(limit - (acc.push i).size)+1:=by simp; walk_at"m"
   rw [e,occQ_s,if_pos ⟨h.1.1.2,h.1.2,eq_of_beq h.2⟩]
   refine Eq.trans ih ?_
   simp
  ·rw [if_neg h]
   have ih:=ih0 (i+1) acc free
   refine Eq.trans ih ?_
   congr 1
   cases hl:limit - acc.size with
   | zero=>rw [occQ_zero,occQ_zero]
   | succ l =>
    rw [occQ_s,if_neg]
    intro q
    refine h ⟨⟨⟨by exact ar 3 [_,_,_] (.im (.eq (.s .v1 .v0) (.a .v2 .n1)) (.lt .v0 .v1)) rfl hl,q.1⟩,q.2.1⟩,?_⟩
    rw [q.2.2]; exact beq_self_eq_true y
theorem occ_Q (s y:List Nat) (lo hi limit:Nat):occurrences (S' s) (S' y) lo hi limit=occQ s y hi limit (hi+1 - lo) lo lo:=by
 rw [occ_eq,occ_forIn]
 simp
theorem occ_com (s:List Nat):∀ (k i free:Nat),s.length+1 - i=k→i≤s.length→free≤i→occQ s [42,47] s.length 1 k i free=match comEnd (s.drop i) with
  | none=>[]
  | some j=>[i+j]:=by
 intro k
 induction k with
 | zero=>intro i free hk hi hf; exact (ar 2 [_,_] (.im (.eq (.s (.a .v0 .n1) .v1) .n0) (.im (.le .v1 .v0) .ff)) rfl hk hi).elim
 | succ k ih0 =>
  intro i free hk hi hf
  rw [occQ_s]
  cases hd:s.drop i with
  | nil =>
   have:=List.drop_eq_nil_iff.mp hd
   rw [if_neg (by intro q; simp at q)]
   have:k=0:=by exact ar 3 [_,_,_] (.im (.eq (.s (.a .v1 .n1) .v2) (.a .v0 .n1)) (.im (.le .v1 .v2) (.eq .v0 .n0))) rfl hk this
   subst this
   rfl
  | cons c t =>
   have hg:=get_of_drop hd
   have hl:=congrArg List.length hd
   rw [List.length_drop] at hl
   simp only [List.length_cons] at hl
   rw [comEnd_cons]
   by_cases h:(c==42&&headP (·==47) t)=true
   ·rw [if_pos h]
    rw [Bool.and_eq_true] at h
    cases t with
    | nil=>exact absurd h.2 (by simp [headP])
    | cons e u =>
     have h1:c=42:=by simpa using h.1
     have h2:e=47:=by simpa [headP] using h.2
     subst h1; subst h2
     rw [if_pos ⟨hf,by simp at hl ⊢; exact ar 3 [_,_,_] (.im (.eq (.s .v1 .v0) (.a (.a .v2 .n1) .n1)) (.le (.a .v0 (.n 2)) .v1)) rfl hl,rfl⟩,occQ_zero]
     rfl
   ·rw [if_neg h,if_neg]
    ·have ht:=hg.2.1
     by_cases hi2:i+1≤s.length
     ·rw [ih0 (i+1) free (by exact ar 3 [_,_,_] (.im (.eq (.s (.a .v0 .n1) .v1) (.a .v2 .n1)) (.eq (.s (.a .v0 .n1) (.a .v1 .n1)) .v2)) rfl hk) hi2 (by exact AR.h282 _ _ hf),ht]
      cases comEnd t with
      | none=>rfl
      | some j=>show [i+1+j]=[i+(j+1)]; congr 1; exact ar 2 [_,_] (.eq (.a (.a .v0 .n1) .v1) (.a .v0 (.a .v1 .n1))) rfl
     ·exact (ar 3 [_,_,_] (.im (.eq (.s .v0 .v1) (.a .v2 .n1)) (.im (.nt (.le (.a .v1 .n1) .v0)) .ff)) rfl hl hi2).elim
    ·intro q
     apply h
     have q:=q.2.2
     cases t with
     | nil=>simp at q
     | cons e u =>
      simp at q
      simp [headP,q.1,q.2]
theorem findAt_com (s:List Nat) (i:Nat) (h:i≤s.length):findAt s [42,47] (i:Int)=match comEnd (s.drop i) with
  | none=>-1
  | some k=>((i+k:Nat):Int):=by
 unfold findAt Txt.find3
 rw [S'_length,fromIndex_nat,occ_Q,occ_com s _ i i rfl h (Nat.le_refl _)]
 cases comEnd (s.drop i) <;> rfl
noncomputable def repl (y z:List Nat):List Nat→List Nat
 | []=>[]
 | c::t=>if (c::t).take y.length=y then z++repl y z (t.drop (y.length - 1)) else c::repl y z t
 termination_by r=>r.length
 decreasing_by
  all_goals simp
  all_goals exact ar 2 [_,_] (.lt (.s .v0 (.s .v1 .n1)) (.a .v0 .n1)) rfl
theorem repl_nil (y z:List Nat):repl y z []=[]:=by rw [repl]
theorem repl_cons (y z:List Nat) (c:Nat) (t:List Nat):repl y z (c::t)=if (c::t).take y.length=y then z++repl y z (t.drop (y.length - 1)) else c::repl y z t:=by rw [repl]
theorem occQ_skip (s y:List Nat) (hi:Nat):∀ (d l k j:Nat),k≤l→occQ s y hi l k j (j+d)=occQ s y hi l (k - d) (j+d) (j+d)
 | 0,l,k,j,h=>rfl
 | d+1,l,0,j,h=>by rw [Nat.zero_sub]; cases l <;> rfl
 | d+1,l,k+1,j,h=>by
  obtain ⟨l',rfl⟩:∃ l',l=l'+1:=⟨l - 1,by exact ar 2 [_,_] (.im (.le (.a .v1 .n1) .v0) (.eq .v0 (.a (.s .v0 .n1) .n1))) rfl h⟩
  rw [occQ_s,if_neg (by intro q; have:=q.1; exact ar 2 [_,_] (.im (.le (.a .v0 (.a .v1 .n1)) .v0) .ff) rfl this)]
  have ih:=occQ_skip s y hi d (l'+1) k (j+1) (by exact ar 2 [_,_] (.im (.le (.a .v0 .n1) (.a .v1 .n1)) (.le .v0 (.a .v1 .n1))) rfl h)
  rw [show j+1+d=j+(d+1) by exact ar 2 [_,_] (.eq (.a (.a .v0 .n1) .v1) (.a .v0 (.a .v1 .n1))) rfl] at ih
  rw [ih,show k+1 - (d+1)=k - d by exact ar 2 [_,_] (.eq (.s (.a .v0 .n1) (.a .v1 .n1)) (.s .v0 .v1)) rfl]
theorem occQ_free (s y:List Nat) (hi:Nat):∀ (k l i f f':Nat),f≤i→f'≤i→occQ s y hi l k i f=occQ s y hi l k i f'
 | 0,l,i,f,f',_,_=>by cases l <;> rfl
 | k+1,0,i,f,f',_,_=>rfl
 | k+1,l+1,i,f,f',h,h'=>by
  rw [occQ_s,occQ_s]
  by_cases q:i+y.length≤hi∧(s.drop i).take y.length=y
  ·rw [if_pos ⟨h,q⟩,if_pos ⟨h',q⟩]
  ·rw [if_neg (fun x=>q x.2),if_neg (fun x=>q x.2)]
   exact occQ_free s y hi k (l+1) (i+1) f f' (by exact AR.h282 _ _ h) (by exact AR.h282 _ _ h')
theorem join_parts (s y z:List Nat) (hy:y≠[]):∀ (k:Nat) (l i a:Nat),s.length+1 - i=k→k≤l→i≤s.length+1→a≤i →
  (PySem.Str.join (S' z) (partsFrom (S' s) y.length a (occQ s y s.length l k i i))).cps.toList=(s.drop a).take (i - a)++repl y z (s.drop i):=by
 intro k
 have hyl:0 < y.length:=List.length_pos_iff.mpr hy
 induction k using Nat.strongRecOn with
 | _ k ih =>
  intro l i a hk hl hi ha
  cases k with
  | zero =>
   have e:occQ s y s.length l 0 i i=[]:=by cases l <;> rfl
   rw [e]
   show (strSub (S' s) a (S' s).length).cps.toList=_
   rw [strSub_toList,S'_toList,S'_length,List.drop_eq_nil_iff.mpr (show s.length≤i by exact ar 2 [_,_] (.im (.eq (.s (.a .v0 .n1) .v1) .n0) (.le .v0 .v1)) rfl hk),repl_nil,List.append_nil]
   rw [List.take_eq_take_iff,List.length_drop]
   exact ar 3 [_,_,_] (.im (.eq (.s (.a .v0 .n1) .v2) .n0) (.eq (.i (.s .v0 .v1) (.s .v0 .v1)) (.i (.s .v2 .v1) (.s .v0 .v1)))) rfl hk
  | succ k =>
   obtain ⟨l',rfl⟩:∃ l',l=l'+1:=⟨l - 1,by exact ar 2 [_,_] (.im (.le (.a .v1 .n1) .v0) (.eq .v0 (.a (.s .v0 .n1) .n1))) rfl hl⟩
   rw [occQ_s]
   by_cases h:i≤i∧i+y.length≤s.length∧(s.drop i).take y.length=y
   ·rw [if_pos h]
    have hsk:=occQ_skip s y s.length (y.length - 1) l' k (i+1) (by exact ar 2 [_,_] (.im (.le (.a .v0 .n1) (.a .v1 .n1)) (.le .v0 .v1)) rfl hl)
    rw [show i+1+(y.length - 1)=i+y.length by exact ar 2 [_,_] (.im (.lt .n0 .v1) (.eq (.a (.a .v0 .n1) (.s .v1 .n1)) (.a .v0 .v1))) rfl hyl] at hsk
    rw [hsk]
    have ih':=ih (k - (y.length - 1)) (by exact ar 2 [_,_] (.lt (.s .v0 (.s .v1 .n1)) (.a .v0 .n1)) rfl) l' (i+y.length) (i+y.length) (by exact ar 4 [_,_,_,_] (.im (.eq (.s (.a .v0 .n1) .v1) (.a .v3 .n1)) (.im (.lt .n0 .v2) (.eq (.s (.a .v0 .n1) (.a .v1 .v2)) (.s .v3 (.s .v2 .n1))))) rfl hk hyl) (by exact ar 3 [_,_,_] (.im (.le (.a .v0 .n1) (.a .v2 .n1)) (.le (.s .v0 (.s .v1 .n1)) .v2)) rfl hl) (by walk_at"m") (Nat.le_refl _)
    obtain ⟨p,r,hp⟩:=partsFrom_ne (S' s) y.length (i+y.length) (occQ s y s.length l' (k - (y.length - 1)) (i+y.length) (i+y.length))
    rw [hp] at ih'
    rw [show ∀ (x:PySem.Str) (w a c:Nat) (r:List Nat),partsFrom x w a (c::r)=strSub x a c::partsFrom x w (c+w) r from fun _ _ _ _ _=>rfl,hp,join_cons_cons]
    rw [app_list,app_list,ih',strSub_toList,S'_toList,S'_toList,Nat.sub_self,List.take_zero,List.nil_append]
    cases hd:s.drop i with
    | nil =>
     rw [hd] at h
     exact absurd h.2.2.symm (by simpa using hy)
    | cons c t =>
     rw [repl_cons,if_pos (by rw [← hd]; exact h.2.2)]
     have:t.drop (y.length - 1)=s.drop (i+y.length):=by
      have e1:=congrArg (List.drop y.length) hd
      rw [List.drop_drop] at e1
      rw [e1]
      obtain ⟨n,hn⟩:∃ n,y.length=n+1:=⟨y.length - 1,by exact ar 1 [_] (.im (.lt .n0 .v0) (.eq .v0 (.a (.s .v0 .n1) .n1))) rfl hyl⟩
      rw [hn]; rfl
     rw [this,List.append_assoc]
   ·rw [if_neg h]
    rw [occQ_free s y s.length k (l'+1) (i+1) i (i+1) (by exact ar 1 [_] (.le .v0 (.a .v0 .n1)) rfl) (by exact ar 1 [_] (.le (.a .v0 .n1) (.a .v0 .n1)) rfl)]
    rw [ih k (by exact ar 1 [_] (.lt .v0 (.a .v0 .n1)) rfl) (l'+1) (i+1) a (by exact ar 3 [_,_,_] (.im (.eq (.s (.a .v0 .n1) .v1) (.a .v2 .n1)) (.eq (.s (.a .v0 .n1) (.a .v1 .n1)) .v2)) rfl hk) (by exact ar 2 [_,_] (.im (.le (.a .v0 .n1) (.a .v1 .n1)) (.le .v0 (.a .v1 .n1))) rfl hl) (by exact ar 3 [_,_,_] (.im (.eq (.s (.a .v1 .n1) .v0) (.a .v2 .n1)) (.le (.a .v0 .n1) (.a .v1 .n1))) rfl hk) (by exact AR.h282 _ _ ha)]
    cases hd:s.drop i with
    | nil =>
     have hle:=List.drop_eq_nil_iff.mp hd
     rw [List.drop_eq_nil_iff.mpr (show s.length≤i+1 by exact AR.h282 _ _ hle),List.take_of_length_le (by rw [List.length_drop]; exact ar 3 [_,_,_] (.im (.le .v0 .v2) (.le (.s .v0 .v1) (.s (.a .v2 .n1) .v1))) rfl hle),List.take_of_length_le (by rw [List.length_drop]; exact ar 3 [_,_,_] (.im (.le .v0 .v2) (.le (.s .v0 .v1) (.s .v2 .v1))) rfl hle)]
    | cons c t =>
     have hg:=get_of_drop hd
     rw [repl_cons,if_neg,hg.2.1]
     ·have e:(s.drop a).take (i+1 - a)=(s.drop a).take (i - a)++[c]:=by
       rw [show i+1 - a=(i - a)+1 by exact AR.h122 _ _ ha,List.take_add_one,List.getElem?_drop,show a+(i - a)=i by exact AR.h165 _ _ ha,hg.1]
       rfl
      rw [e]; simp
     ·intro q
      apply h
      have:=congrArg List.length q
      rw [List.length_take,← hd,List.length_drop] at this
      exact ⟨Nat.le_refl _,by exact ar 3 [_,_,_] (.im (.eq (.i .v1 (.s .v2 .v0)) .v1) (.im (.lt .n0 .v1) (.le (.a .v0 .v1) .v2))) rfl this hyl,by rw [hd]; exact q⟩
theorem replace_repl (s y z:List Nat) (hy:y≠[]):(Txt.replace (S' s) (S' y) (S' z)).cps.toList=repl y z s:=by
 have e:=join_parts s y z hy (s.length+1) (s.length+1) 0 0 (by exact ar 1 [_] (.eq (.s (.a .v0 .n1) .n0) (.a .v0 .n1)) rfl) (Nat.le_refl _) (by exact ar 1 [_] (.le .n0 (.a .v0 .n1)) rfl) (Nat.le_refl _)
 simp only [Nat.sub_self,List.take_zero,List.nil_append,List.drop_zero] at e
 unfold Txt.replace
 rw [S'_length,S'_length,occ_Q,Nat.sub_zero]
 cases ho:(occQ s y s.length (s.length+1) (s.length+1) 0 0) with
 | nil =>
  rw [ho] at e
  rw [if_pos (by rfl),← e]
  show _=(strSub (S' s) 0 (S' s).length).cps.toList
  rw [strSub_toList,S'_toList,S'_length]
  simp
 | cons x r =>
  rw [if_neg,← ho,glued_eq_join,partsBetween_eq,e]
  have:(y.length==0)=false:=beq_eq_false_iff_ne.mpr (by have:=List.length_pos_iff.mpr hy; exact ar 1 [_] (.im (.lt .n0 .v0) (.nt (.eq .v0 .n0))) rfl this)
  rw [this]
  simp
theorem replace_repl' (x:List Nat) (y z:Str) (y' z':List Nat) (hy:y.cps.toList=y') (hz:z.cps.toList=z') (hne:y'≠[]):(Txt.replace (S' x) y z).cps.toList=repl y' z' x:=by
 subst hy; subst hz
 have h:=replace_repl x y.cps.toList z.cps.toList hne
 rw [S'_of,S'_of] at h
 exact h
set_option tactic.hygienic true in
theorem repl_len (y z:List Nat) (h:z.length≤y.length) (hy:y≠[]):∀ (n:Nat) (s:List Nat),s.length≤n→(repl y z s).length≤s.length
 | _,[],_=>by rw [repl_nil]; simp
 | 0,_::_,h=>by simp at h
 | n+1,c::t,hn=>by
  have hn:t.length≤n:=by simpa using hn
  have hyl:0 < y.length:=List.length_pos_iff.mpr hy
  rw [repl_cons]
  split
  ·rename_i q
   have:=repl_len y z h hy n (t.drop (y.length - 1)) (by rw [List.length_drop]; exact ar 3 [_,_,_] (.im (.le .v0 .v2) (.le (.s .v0 (.s .v1 .n1)) .v2)) rfl hn)
   have e:=congrArg List.length q
   rw [List.length_take] at e
   rw [List.length_append]
   rw [List.length_drop] at this
   simp only [List.length_cons] at e ⊢
   exact ar 4 [_,_,_,_] (.im (.eq (.i .v3 (.a .v2 .n1)) .v3) (.im (.le .v1 (.s .v2 (.s .v3 .n1))) (.im (.le .v0 .v3) (.le (.a .v0 .v1) (.a .v2 .n1))))) rfl e this h
  ·have:=repl_len y z h hy n t hn
   simp only [List.length_cons]; exact AR.h173 _ _ this
noncomputable def norm (s:List Nat):List Nat:=repl [12] [10] (repl [13] [10] (repl [13,10] [10] (repl [0] [65533] s)))
theorem norm_len (s:List Nat):(norm s).length≤s.length:=by
 unfold norm
 have h1:=repl_len [0] [65533] (by simp) (by simp) _ s (Nat.le_refl _)
 have h2:=repl_len [13,10] [10] (by simp) (by simp) _ (repl [0] [65533] s) (Nat.le_refl _)
 have h3:=repl_len [13] [10] (by simp) (by simp) _ (repl [13,10] [10] (repl [0] [65533] s)) (Nat.le_refl _)
 have h4:=repl_len [12] [10] (by simp) (by simp) _ (repl [13] [10] (repl [13,10] [10] (repl [0] [65533] s))) (Nat.le_refl _)
 exact ar 5 [_,_,_,_,_] (.im (.le .v0 .v2) (.im (.le .v3 .v1) (.im (.le .v4 .v3) (.im (.le .v2 .v4) (.le .v0 .v1))))) rfl h4 h1 h2 h3
end
section
open PySem.Builtin PySem.Builtin.Str PySem.StrLaws
noncomputable def lastQ (s:List Nat) (hi:Nat):Nat→Nat→Option Nat→Option Nat
 | 0,_,last=>last
 | k+1,i,last=>lastQ s hi k (i+1) (if i+1≤hi∧(s.drop i).take 1=[10] then some i else last)
theorem lastQ_s (s:List Nat) (hi k i:Nat) (last:Option Nat):lastQ s hi (k+1) i last=lastQ s hi k (i+1) (if i+1≤hi∧(s.drop i).take 1=[10] then some i else last):=rfl
theorem last_forIn (s:List Nat) (hi:Nat):∀ (k i:Nat) (last:Option Nat),(forIn (List.range' i k) last (lastBody (S' s) (S' [10]) hi)).run=lastQ s hi k i last
 | 0,i,last=>rfl
 | k+1,i,last=>by
  rw [List.range'_succ,List.forIn_cons,lastQ_s]
  unfold lastBody
  rw [S'_length,subAt_S']
  by_cases h:i+1≤hi∧(s.drop i).take 1=[10]
  ·rw [if_pos ⟨h.1,beq_iff_eq.mpr h.2⟩,if_pos h]
   exact last_forIn s hi k (i+1) (some i)
  ·rw [if_neg (fun q=>h ⟨q.1,beq_iff_eq.mp q.2⟩),if_neg h]
   exact last_forIn s hi k (i+1) last
noncomputable def NoNl (r:List Nat):Prop:=∀ c∈r,c≠10
inductive LastR (r:List Nat) (i:Nat) (last:Option Nat):Option Nat→Prop
 | none (h:NoNl r):LastR r i last last
 | some (A B:List Nat) (h:r=A++10::B) (hB:NoNl B):LastR r i last (some (i+A.length))
theorem last_R (s:List Nat) (hi:Nat) (hh:hi≤s.length):∀ (k i:Nat) (last:Option Nat),hi+1 - i=k→LastR ((s.drop i).take (hi - i)) i last (lastQ s hi k i last)
 | 0,i,last,e=>by
  rw [show hi - i=0 by exact ar 2 [_,_] (.im (.eq (.s (.a .v0 .n1) .v1) .n0) (.eq (.s .v0 .v1) .n0)) rfl e]
  exact .none (fun c h=>by simp at h)
 | k+1,i,last,e=>by
  rw [lastQ_s]
  by_cases hi2:i=hi
  ·subst hi2
   rw [if_neg (by omega),show k=0 by exact ar 2 [_,_] (.im (.eq (.s (.a .v1 .n1) .v1) (.a .v0 .n1)) (.eq .v0 .n0)) rfl e,Nat.sub_self]
   exact .none (fun c h=>by simp at h)
  ·have hd:=drop_cons (List.getElem?_eq_getElem (show i < s.length by exact ar 4 [_,_,_,_] (.im (.eq (.s (.a .v2 .n1) .v0) (.a .v3 .n1)) (.im (.le .v2 .v1) (.im (.nt (.eq .v0 .v2)) (.lt .v0 .v1)))) rfl e hh hi2))
   generalize s[i]=c at hd
   have ih:=last_R s hi hh k (i+1) (if i+1≤hi∧(s.drop i).take 1=[10] then some i else last) (by exact ar 3 [_,_,_] (.im (.eq (.s (.a .v0 .n1) .v1) (.a .v2 .n1)) (.eq (.s (.a .v0 .n1) (.a .v1 .n1)) .v2)) rfl e)
   rw [show hi - i=hi - (i+1)+1 by exact ar 3 [_,_,_] (.im (.eq (.s (.a .v0 .n1) .v1) (.a .v2 .n1)) (.im (.nt (.eq .v1 .v0)) (.eq (.s .v0 .v1) (.a (.s .v0 (.a .v1 .n1)) .n1)))) rfl e hi2,hd,List.take_succ_cons]
   rw [hd] at ih
   generalize lastQ s hi k (i+1) _=x at ih
   generalize (s.drop (i+1)).take (hi - (i+1))=r at ih
   cases ih with
   | none h =>
    by_cases hc:c=10
    ·rw [if_pos ⟨by exact ar 3 [_,_,_] (.im (.eq (.s (.a .v1 .n1) .v0) (.a .v2 .n1)) (.im (.nt (.eq .v0 .v1)) (.le (.a .v0 .n1) .v1))) rfl e hi2,by simp [hc]⟩]
     subst hc
     exact .some [] r rfl h
    ·rw [if_neg (by simp [hc])]
     exact .none (fun e he=>(List.mem_cons.mp he).elim (fun q=>q ▸ hc) (h e))
   | some A B h hB =>
    rw [show i+1+A.length=i+(c::A).length by simp; exact ar 2 [_,_] (.eq (.a (.a .v0 .n1) .v1) (.a .v0 (.a .v1 .n1))) rfl,h]
    exact .some (c::A) B rfl hB
theorem mv_noNl:∀ (B:List Nat) (l c:Nat),NoNl B→mv (l,c) B=(l,c+B.length)
 | [],l,c,_=>rfl
 | b::B,l,c,h=>by
  have h1:=h b (.head _)
  have ih:=mv_noNl B l (c+1) (fun e he=>h e (.tail _ he))
  show mv (if b==10 then _ else _) B=_
  rw [if_neg (by simpa using h1),ih]
  simp; exact ar 2 [_,_] (.eq (.a (.a .v0 .n1) .v1) (.a .v0 (.a .v1 .n1))) rfl
theorem mv_line:∀ (A:List Nat) (l c:Nat),(mv (l,c) A).1=l+A.count 10
 | [],l,c=>rfl
 | b::A,l,c=>by
  show (mv (if b==10 then _ else _) A).1=_
  by_cases h:b=10
  ·subst h
   rw [if_pos (by decide:((10:Nat)==10)=true),mv_line A]; simp; exact ar 2 [_,_] (.eq (.a (.a .v0 .n1) .v1) (.a .v0 (.a .v1 .n1))) rfl
  ·rw [if_neg (by simpa using h),mv_line A]; simp [h]
theorem mv_nl (A B:List Nat) (p:Nat × Nat) (hB:NoNl B):mv p (A++10::B)=(p.1+A.count 10+1,1+B.length):=by
 rw [mv_app]
 obtain ⟨l,c⟩:=p
 have h1:=mv_line A l c
 generalize mv (l,c) A=q at h1
 show mv (q.1+1,1) B=_
 rw [mv_noNl B _ _ hB,h1]
theorem occ_count (s:List Nat) (hi:Nat) (hh:hi≤s.length):∀ (k i l free:Nat),hi+1 - i=k→k≤l→free≤i→(occQ s [10] hi l k i free).length=((s.drop i).take (hi - i)).count 10
 | 0,i,l,free,e,h1,h2=>by
  rw [show hi - i=0 by exact ar 2 [_,_] (.im (.eq (.s (.a .v0 .n1) .v1) .n0) (.eq (.s .v0 .v1) .n0)) rfl e]
  cases l <;> (rw [List.take_zero]; rfl)
 | k+1,i,l,free,e,h1,h2=>by
  obtain ⟨l,rfl⟩:∃ l',l=l'+1:=⟨l - 1,by exact ar 2 [_,_] (.im (.le (.a .v1 .n1) .v0) (.eq .v0 (.a (.s .v0 .n1) .n1))) rfl h1⟩
  rw [occQ_s]
  by_cases hi2:i=hi
  ·subst hi2
   rw [if_neg (fun q=>by have:=q.2.1; have e:[10].length=1:=rfl; exact ar 2 [_,_] (.im (.le (.a .v0 .v1) .v0) (.im (.eq .v1 .n1) .ff)) rfl this e),show k=0 by exact ar 2 [_,_] (.im (.eq (.s (.a .v1 .n1) .v1) (.a .v0 .n1)) (.eq .v0 .n0)) rfl e,Nat.sub_self]
   simp; rfl
  ·have hd:=drop_cons (List.getElem?_eq_getElem (show i < s.length by exact ar 4 [_,_,_,_] (.im (.eq (.s (.a .v2 .n1) .v0) (.a .v3 .n1)) (.im (.le .v2 .v1) (.im (.nt (.eq .v0 .v2)) (.lt .v0 .v1)))) rfl e hh hi2))
   generalize s[i]=c at hd
   rw [show hi - i=hi - (i+1)+1 by exact ar 3 [_,_,_] (.im (.eq (.s (.a .v0 .n1) .v1) (.a .v2 .n1)) (.im (.nt (.eq .v1 .v0)) (.eq (.s .v0 .v1) (.a (.s .v0 (.a .v1 .n1)) .n1)))) rfl e hi2,hd,List.take_succ_cons]
   by_cases hc:c=10
   ·subst hc
    rw [if_pos ⟨h2,by simp; exact ar 3 [_,_,_] (.im (.eq (.s (.a .v1 .n1) .v0) (.a .v2 .n1)) (.im (.nt (.eq .v0 .v1)) (.le (.a .v0 .n1) .v1))) rfl e hi2,by simp⟩,List.length_cons,occ_count s hi hh k (i+1) l _ (by exact ar 3 [_,_,_] (.im (.eq (.s (.a .v0 .n1) .v1) (.a .v2 .n1)) (.eq (.s (.a .v0 .n1) (.a .v1 .n1)) .v2)) rfl e) (by exact ar 2 [_,_] (.im (.le (.a .v0 .n1) (.a .v1 .n1)) (.le .v0 .v1)) rfl h1) (by simp)]
    simp
   ·rw [if_neg (by simp [hc]),occ_count s hi hh k (i+1) (l+1) _ (by exact ar 3 [_,_,_] (.im (.eq (.s (.a .v0 .n1) .v1) (.a .v2 .n1)) (.eq (.s (.a .v0 .n1) (.a .v1 .n1)) .v2)) rfl e) (by exact ar 2 [_,_] (.im (.le (.a .v0 .n1) (.a .v1 .n1)) (.le .v0 (.a .v1 .n1))) rfl h1) (by exact ar 2 [_,_] (.im (.le .v0 .v1) (.le .v0 (.a .v1 .n1))) rfl h2)]
    simp [hc]
theorem rfindAt_eq (s:List Nat) (i p:Nat) (h:p≤s.length):rfindAt s [10] (i:Int) (p:Int)=match lastQ s p (p+1 - i) i none with | some k=>(k:Int) | none=>-1:=by
 unfold rfindAt
 rw [fromIndex_nat,fromIndex_nat,Nat.min_eq_left h,last_eq,last_forIn]
 try rfl
theorem countAt_eq (s:List Nat) (i p:Nat) (h:p≤s.length):countAt s [10] (i:Int) (p:Int)=(((s.drop i).take (p - i)).count 10:Nat):=by
 unfold countAt
 rw [fromIndex_nat,fromIndex_nat,Nat.min_eq_left h,occ_Q,occ_count s p h _ i _ _ rfl (by exact ar 3 [_,_,_] (.im (.le .v0 .v2) (.le (.s (.a .v0 .n1) .v1) (.a .v2 .n1))) rfl h) (Nat.le_refl _)]
theorem mvA_seg (s:List Nat) {i p:Nat} (h:i≤p):mvA s p=mv (mvA s i) ((s.drop i).take (p - i)):=by
 have:=mvA_add s i (p - i)
 rw [show i+(p - i)=p by exact ar 2 [_,_] (.im (.le .v0 .v1) (.eq (.a .v0 (.s .v1 .v0)) .v1)) rfl h] at this
 exact this
inductive NlR (s:List Nat) (i p:Nat):Int→Prop
 | none (h1:lA s i=lA s p) (h2:nlA s i=nlA s p):NlR s i p (-1)
 | some (n:Nat) (h1:lA s i+(1+countAt s [10] (i:Int) (n:Int))=lA s p) (h2:(n:Int)=nlA s p):NlR s i p n
theorem nl_R (s:List Nat) {i p:Nat} (h:i≤p) (hp:p≤s.length):NlR s i p (rfindAt s [10] (i:Int) (p:Int)):=by
 rw [rfindAt_eq s i p hp]
 have hL:=last_R s p hp (p+1 - i) i none rfl
 have hm:=mvA_seg s h
 have hlen:((s.drop i).take (p - i)).length=p - i:=by simp; exact ar 3 [_,_,_] (.im (.le .v0 .v2) (.eq (.i (.s .v0 .v1) (.s .v2 .v1)) (.s .v0 .v1))) rfl hp
 generalize lastQ s p (p+1 - i) i none=x at hL
 generalize hr:(s.drop i).take (p - i)=r at hL hm hlen
 cases hL with
 | none hn =>
  have hm':mvA s p=((mvA s i).1,(mvA s i).2+r.length):=by rw [hm]; exact mv_noNl r _ _ hn
  refine .none ?_ ?_
  ·unfold lA; rw [hm']
  ·unfold nlA cA; rw [hm']; dsimp only; omega
 | some A B e hB =>
  subst e
  rw [mv_nl A B _ hB] at hm
  have ha:(s.drop i).take A.length=A:=by
   have:=congrArg (List.take A.length) hr
   rw [List.take_take,Nat.min_eq_left (by simp at hlen; exact ar 4 [_,_,_,_] (.im (.eq (.a .v0 (.a .v3 .n1)) (.s .v1 .v2)) (.le .v0 (.s .v1 .v2))) rfl hlen),List.take_left] at this
   exact this
  simp at hlen
  refine .some (i+A.length) ?_ ?_
  ·rw [countAt_eq s i _ (by exact ar 5 [_,_,_,_,_] (.im (.eq (.a .v1 (.a .v3 .n1)) (.s .v4 .v0)) (.im (.le .v4 .v2) (.le (.a .v0 .v1) .v2))) rfl hlen hp),show i+A.length - i=A.length by exact ar 2 [_,_] (.eq (.s (.a .v0 .v1) .v0) .v1) rfl,ha]
   unfold lA; rw [hm]; dsimp only; exact ar 2 [_,_] (.ieq (.a .v0 (.a .n1 .v1)) (.a (.a .v0 .v1) .n1)) rfl
  ·unfold nlA cA; rw [hm]; dsimp only; omega
end
noncomputable def numB:List Stmt:=ifB (loopB.drop 7)
noncomputable def zB:List Stmt:=elB (loopB.drop 7)
theorem one_node {n:Nat} {v t:V} (h:NodeT n v t):NodesT n [v] [t]:=.cons h .nil
theorem TN {w:World} {g:Gx} (G:GG w g) {s:List Nat} {FIN:List V} {M:Nat} {root a stk:Addr} {p:Nat} {ec:Option Nat} {cur curT:List V} {fs:List NF} {ft:List FT} {c:Nat} {t:List Nat} {t1 t2 t3:Option Pos} {n:Nat} {pl:Bool}
  (hl:s.length≤600) (P:PRel s FIN M root p ec a cur curT fs ft) (hd:s.drop p=c::t) (hs:step (plA s p) ec c t=stepN (plA s p) pl n (c::t)) (hne:numEnd (c::t)=some (n,pl)) (ht2:TabOk 5 t2) (ht3:TabOk 6 t3)  {jK jR jO jE jJ jQ jF jM jG jA jL jN jH jP jI jD:V} (he:jE=.int ((p+n:Nat):Int)) (hpl:jL=.bool pl) :
  Ss g Γ31 3 numB (LO s p p root a ec stk jK (.int (cA s p)) (.str [c]) jR jO jE jJ jQ jF jM jG jA jL jN jH jP jI jD) (HP stk a cur fs (TabH t1 t2 t3)) (QB s FIN M root stk t1 (s.length - p)):=by
 subst he; subst hpl
 have hl2:s.length≤10000:=by exact AR.h293 _ hl
 have hl3:s.length≤1000000:=by exact AR.h298 _ hl
 have hcl:=P.len
 have hple:=P.ple
 have hlen:=congrArg List.length hd
 rw [List.length_drop] at hlen
 simp only [List.length_cons] at hlen
 have hn:=numEnd_le hne
 simp only [List.length_cons] at hn
 refine Ss.consK ?_
 walk_at"A"
 rw [slc_nat,show p+n - p=n by exact AR.h39 _ _,hd]
 have hz:pl=true→∃ z,PySem.intText? (S' ((c::t).take n))=some z:=fun e=>by
  subst e
  exact num_int hne (by simp; exact ar 3 [_,_,_] (.im (.eq (.s .v1 .v2) (.a .v0 .n1)) (.im (.le .v1 (.n 600)) (.le .v0 (.n 639)))) rfl hlen hl)
 obtain ⟨iv,hive,hiv,hiv2⟩:∃ iv:V,iv=intV pl ((c::t).take n)∧(iv=.none∨∃ z,iv=.int z)∧(∀ lo H,((("plain":Str),V.bool pl)∈lo)→((("repr_":Str),V.str ((c::t).take n))∈lo)→E g Γ31 3 (match (numB.drop 3).head? with | some (.Assign _ e _)=>e | _=>default) lo H fun v H'=>v=iv∧H'=H):=by
  cases pl with
  | true =>
   obtain ⟨z,hz⟩:=hz rfl
   refine ⟨.int z,by unfold intV; rw [if_pos rfl,hz],.inr ⟨z,rfl⟩,fun lo H h1 h2=>?_⟩
   refine E.ifeb true ?_ (fun _=>?_) (fun h=>by cases h)
   ·refine T.of (E.loc h1 (by nofun) (tm2 ⟨rfl,rfl⟩)) (by intro _; rfl)
   ·walk_at"A"
    refine E.loc h2 (by nofun) ?_
    walk_at"A"
    refine CB.int hz (by simp; exact ar 4 [_,_,_,_] (.im (.eq (.s .v2 .v3) (.a .v1 .n1)) (.im (.le .v2 (.n 600)) (.le (.i .v0 (.a .v1 .n1)) (.n 640)))) rfl hlen hl) ⟨rfl,rfl⟩
  | false =>
   refine ⟨.none,rfl,.inl rfl,fun lo H h1 h2=>?_⟩
   refine E.ifeb false ?_ (fun h=>by cases h) (fun _=>?_)
   ·refine T.of (E.loc h1 (by nofun) (tm2 ⟨rfl,rfl⟩)) (by intro _; rfl)
   ·walk_at"A"
    exact ⟨rfl,rfl⟩
 have hivn:iv≠.unset:=by rcases hiv with rfl | ⟨z,rfl⟩ <;> nofun
 refine E.to iv (hiv2 _ _ (by walk_at"d") (by walk_at"d")) ?_
 walk_at"A"
 refine S.ifb (identStart ((c::t).drop n)) ?_ (fun h=>?_) (fun h=>?_)
 ·refine T.and2b (decide (p+n < s.length)) ?_ (fun h=>?_) (fun h=>?_)
  ·walk_at"A"
   exact ⟨rfl,rfl⟩
  ·refine ⟨?_,rfl⟩
   rw [List.drop_eq_nil_iff.mpr (by have:=of_decide_eq_false h; simp; exact ar 4 [_,_,_,_] (.im (.eq (.s .v2 .v3) (.a .v0 .n1)) (.im (.nt (.lt (.a .v3 .v1) .v2)) (.le (.a .v0 .n1) .v1))) rfl hlen (Ar.f h))]
   rfl
  ·have h:=of_decide_eq_true h
   walk_at"A"
   refine (C33 G (List.getElem?_eq_getElem h) hl3 ?_).le (by walk_at"m")
   walk_at"A"
   first | (refine ⟨?_,rfl⟩; rw [← List.drop_drop,hd] <;> rfl; done) | (rw [← List.drop_drop,hd]; exact ⟨rfl,rfl⟩)
 ·walk_at"A"
  refine S.unpackK ["unit","pos"] (by repeat constructor) ?_
  walk_at"A"
  refine C34 G hl2 (by exact ar 4 [_,_,_,_] (.im (.an (.le .n1 .v1) (.le .v1 (.a .v3 .n1))) (.im (.eq (.s .v2 .v0) (.a .v3 .n1)) (.le (.a .v0 .v1) .v2))) rfl hn hlen) ?_
  first | (refine' val1 ?_ ?_; rw [← List.drop_drop,hd]) | (refine' val2 ?_ ?_; rw [← List.drop_drop,hd]) | rw [← List.drop_drop,hd]
  walk_at"A"
  refine E.appendK (a:=a) ?_ (by walk_at"d") (.tail _ (.head _))
  walk_at"B"
  refine K22 G ?_ hiv ?_
  ·have h1:=ident_len _ ((c::t).drop n) (Nat.le_refl _)
   rw [List.length_drop] at h1
   simp only [List.length_cons] at h1
   exact ar 6 [_,_,_,_,_,_] (.im (.eq (.s .v1 .v2) (.a .v3 .n1)) (.im (.an (.le .v0 .v4) (.le .v4 (.s (.a .v3 .n1) .v5))) (.im (.le .v1 (.n 600)) (.le .v0 (.n 10000))))) rfl hlen h1 hl
  refine KApd.mk (vs:=cur) (.there .here) (by exact AR.h468 _ _ _ hcl hl hple) ?_
  walk_at"A"
  exact PJ.leaf (n:=n+(ident ((c::t).drop n)).2) P hd (hs.trans (by unfold stepN; rw [if_pos h,← hive]; rfl)) (one_node .dim) (by simp) (by exact ar 3 [_,_,_] (.eq (.a (.a .v0 .v1) .v2) (.a .v0 (.a .v1 .v2))) rfl) rfl ht2 ht3
 walk_at"A"
 refine S.ifb (headP (·==37) ((c::t).drop n)) ?_ (fun h2=>?_) (fun h2=>?_)
 ·walk_at"A"
  rw [show (Str.ofString "%").cps.toList=[37] from by decide +kernel,swAt_nat _ _ _ (by simp),← List.drop_drop,hd]
  refine ⟨?_,rfl⟩
  cases (c::t).drop n with
  | nil=>rfl
  | cons e u=>exact beq_one e 37
 ·walk_at"A"
  refine E.appendK (a:=a) ?_ (by walk_at"d") (.tail _ (.head _))
  walk_at"B"
  refine K21 G hiv ?_
  refine KApd.mk (vs:=cur) (.there .here) (by exact AR.h468 _ _ _ hcl hl hple) ?_
  walk_at"A"
  exact PJ.leaf (n:=n+1) P hd (hs.trans (by unfold stepN; rw [if_neg (nf h),if_pos h2]; rfl)) (one_node .percent) (by simp) (by exact ar 2 [_,_] (.eq (.a (.a .v0 .v1) .n1) (.a .v0 (.a .v1 .n1))) rfl) rfl ht2 ht3
 ·walk_at"A"
  refine E.appendK (a:=a) ?_ (by walk_at"d") (.tail _ (.head _))
  walk_at"B"
  refine K20 G hiv ?_
  refine KApd.mk (vs:=cur) (.there .here) (by exact AR.h468 _ _ _ hcl hl hple) ?_
  walk_at"A"
  exact PJ.leaf (n:=n) P hd (hs.trans (by unfold stepN; rw [if_neg (nf h),if_neg (nf h2)]; rfl)) (one_node .number) (by simp) (by exact ar 2 [_,_] (.eq (.a .v0 .v1) (.a .v0 .v1)) rfl) rfl ht2 ht3
section
set_option genSizeOf false
set_option genInjectivity false
theorem cs_cl (n:Nat):inStr [n] (Str.ofString "}])").cps.toList=isCl n :=
 set_of (p:=isCl) (by decide +kernel) (by decide +kernel) (fun n h=>by simp [isCl]; exact ar 1 [_] (.im (.le (.n 128) .v0) (.an (.an (.nt (.eq .v0 (.n 125))) (.nt (.eq .v0 (.n 93)))) (.nt (.eq .v0 (.n 41))))) rfl h) n
theorem cs_tl (n:Nat):inStr [n] (Str.ofString "~|^$*").cps.toList=isTl n :=
 set_of (p:=isTl) (by decide +kernel) (by decide +kernel) (fun n h=>by simp [isTl]; exact ar 1 [_] (.im (.le (.n 128) .v0) (.an (.an (.an (.an (.nt (.eq .v0 (.n 126))) (.nt (.eq .v0 (.n 124)))) (.nt (.eq .v0 (.n 94)))) (.nt (.eq .v0 (.n 36)))) (.nt (.eq .v0 (.n 42))))) rfl h) n
theorem qt_any (n:Nat):([V.str (Str.ofString "\"").cps.toList,V.str (Str.ofString "'").cps.toList].any (eqStr [n]))=isQt n:=by
 rw [show (Str.ofString "\"").cps.toList=[34] from by decide +kernel,show (Str.ofString "'").cps.toList=[39] from by decide +kernel]
 exact any2 [n] fun _=>rfl
theorem stackV_cons (f:NF) (fs:List NF):stackV (f::fs)=stackV fs++[.tup [.ref f.a,optS f.ec]]:=by simp [stackV]
theorem stackV_len (fs:List NF):(stackV fs).length=fs.length:=by simp [stackV]
theorem qres0 {i:Nat} {q:QR} (h:q.st=0):qres i q=.tup [.str q.val,.int ((i+q.n:Nat):Int),.none]:=by unfold qres; rw [h]; rfl
theorem qres1 {i:Nat} {q:QR} (h:q.st=1):qres i q=.tup [.none,.int ((i+q.n:Nat):Int),.tup [.str (lit "bad-string"),.str (lit "Bad string token")]]:=by unfold qres; rw [h]; rfl
set_option tactic.hygienic true in
theorem qres2 {i:Nat} {q:QR} (h:q.st≠0) (h':q.st≠1):qres i q=.tup [.str q.val,.int ((i+q.n:Nat):Int),.tup [.str (lit "eof-in-string"),.str (lit "EOF in string")]]:=by
 cases q with | mk v n st=>cases st with | zero=>exact absurd rfl h | succ k=>cases k with | zero=>exact absurd rfl h' | succ _=>rfl
set_option tactic.hygienic true in
theorem strTs2 {pl:V} {q:QR} (h:q.st≠0) (h':q.st≠1):strTs pl q=[leafT pl "string" q.val,leafT pl "error" (lit "eof-in-string")]:=by
 cases q with | mk v n st=>cases st with | zero=>exact absurd rfl h | succ k=>cases k with | zero=>exact absurd rfl h' | succ _=>rfl
theorem qsL {v:List Nat}:((v.map qsF).flatten).length≤8 * v.length:=by
 induction v with
 | nil=>simp
 | cons a r ih =>
  have:=qsF_len a
  (try walk_at"k"); simp only [List.map_cons,List.flatten_cons,List.length_append,List.length_cons]
  exact AR.h380 _ _ _ ih this
noncomputable def brB:Nat→List Stmt→List Stmt
 | 0,l=>bif (ifB l).isEmpty then l else ifB l
 | n+1,l=>brB n (elB l)
noncomputable def fst1:List Bool→Nat
 | []=>0
 | b::r=>bif b then 0 else fst1 r+1
theorem Ss.toNil {g:Gx} {Γ:Fx} {d:Nat} {lo:Loc} {H:AH} {st:List Stmt} {Q:R→Loc→AH→Prop} (h:Ss g Γ d st lo H Q):Ss g Γ d st lo H (KSs g Γ d [] Q):=h.mono fun r lo' H' q=>by
 induction r with
 | next=>exact Ss.nil q
 | _=>exact q
inductive Chain (g:Gx) (Γ:Fx) (d:Nat) (lo:Loc) (H:AH):List Bool→List Stmt→Prop
 | nil {l:List Stmt} (h:(ifB l).isEmpty=true):Chain g Γ d lo H [] l
 | cons {b:Bool} {r:List Bool} {test:Expr} {x y:List Stmt} {pos:Pos} (ht:T g Γ d test lo H (IsT b H)) (hx:x.isEmpty=false) (C:Chain g Γ d lo H r y):Chain g Γ d lo H (b::r) [.If test x y pos]
theorem Chain.use {g:Gx} {Γ:Fx} {d:Nat} {lo:Loc} {H:AH} {bs:List Bool} {st:List Stmt} (C:Chain g Γ d lo H bs st) {Q:R→Loc→AH→Prop} (k:Ss g Γ d (brB (fst1 bs) st) lo H Q):Ss g Γ d st lo H Q:=by
 induction C with
 | @nil l h =>
  change Ss g Γ d (bif (ifB l).isEmpty then l else ifB l) lo H Q at k
  rw [h] at k; exact k
 | @cons b r test x y pos ht hx C ih =>
  refine Ss.consK ?_
  cases b with
  | true =>
   have e:ifB [.If test x y pos]=x:=rfl
   change Ss g Γ d (bif (ifB [.If test x y pos]).isEmpty then [.If test x y pos] else ifB [.If test x y pos]) lo H Q at k
   rw [e,hx] at k
   exact S.ifT ht (Ss.toNil k)
  | false=>exact S.ifF ht (Ss.toNil (ih k))
theorem joint {α:Type} {P:Nat→α→Prop} {b:Bool} {r:List Bool} {x y:α} (h1:b=true→P 0 x) (h2:P (fst1 r+1) y):P (fst1 (b::r)) (if b then x else y):=by
 cases b with
 | true=>exact h1 rfl
 | false=>exact h2
inductive KZ (pl:V) (ec:Option Nat) (c:Nat) (t:List Nat):Nat→Step→Prop
 | atk (h:c=64):KZ pl ec c t 0 ((if identStart t then .leaf [leafT pl "at-keyword" (ident t).1] (1+(ident t).2) else .leaf [leafT pl "literal" [64]] 1))
 | hash (h:c=35):KZ pl ec c t 1 ((if headP isNm t||escOk t then .leaf [.tup [pl,.str (lit "hash"),.str (ident t).1,.bool (identStart t)]] (1+(ident t).2) else .leaf [leafT pl "literal" [35]] 1))
 | lc (h:c=123):KZ pl ec c t 2 (.opn pl (.str (lit "{} block")) .none 125 1)
 | lb (h:c=91):KZ pl ec c t 3 (.opn pl (.str (lit "[] block")) .none 93 1)
 | lp (h:c=40):KZ pl ec c t 4 (.opn pl (.str (lit "() block")) .none 41 1)
 | cls (h:(ec==some c)=true):KZ pl ec c t 5 (.cls)
 | cl (h:(isCl c)=true):KZ pl ec c t 6 (.leaf [leafT pl "error" [c]] 1)
 | qt (h:(isQt c)=true):KZ pl ec c t 7 (.leaf (strTs pl (qstr c t)) (1+(qstr c t).n))
 | com (h:(c==47&&headP (·==42) t)=true):KZ pl ec c t 8 ((match comEnd (t.drop 1) with | none=>.stop [leafT pl "comment" (t.drop 1)] | some k=>.leaf [leafT pl "comment" ((t.drop 1).take k)] (k+4)))
 | cdo (h:(c==60&&t.take 3==[33,45,45])=true):KZ pl ec c t 9 (.leaf [leafT pl "literal" [60,33,45,45]] 4)
 | bar (h:(c==124&&headP (·==124) t)=true):KZ pl ec c t 10 (.leaf [leafT pl "literal" [124,124]] 2)
 | tl (h:(isTl c)=true):KZ pl ec c t 11 ((if headP (·==61) t then .leaf [leafT pl "literal" [c,61]] 2 else .leaf [leafT pl "literal" [c]] 1))
 | lit :KZ pl ec c t 12 (.leaf [leafT pl "literal" [c]] 1)
theorem kz_cases (pl:V) (ec:Option Nat) (c:Nat) (t:List Nat):KZ pl ec c t (fst1 [c==64,c==35,c==123,c==91,c==40,ec==some c,isCl c,isQt c,c==47&&headP (·==42) t,c==60&&t.take 3==[33,45,45],c==124&&headP (·==124) t,isTl c]) (stepZ pl ec c t) :=
 joint (P:=KZ pl ec c t) (fun h=>.atk (eq_of_beq h)) <|
 joint (P:=fun n a=>KZ pl ec c t (n+1) a) (fun h=>.hash (eq_of_beq h)) <|
 joint (P:=fun n a=>KZ pl ec c t (n+2) a) (fun h=>.lc (eq_of_beq h)) <|
 joint (P:=fun n a=>KZ pl ec c t (n+3) a) (fun h=>.lb (eq_of_beq h)) <|
 joint (P:=fun n a=>KZ pl ec c t (n+4) a) (fun h=>.lp (eq_of_beq h)) <|
 joint (P:=fun n a=>KZ pl ec c t (n+5) a) (fun h=>.cls h) <|
 joint (P:=fun n a=>KZ pl ec c t (n+6) a) (fun h=>.cl h) <|
 joint (P:=fun n a=>KZ pl ec c t (n+7) a) (fun h=>.qt h) <|
 joint (P:=fun n a=>KZ pl ec c t (n+8) a) (fun h=>.com h) <|
 joint (P:=fun n a=>KZ pl ec c t (n+9) a) (fun h=>.cdo h) <|
 joint (P:=fun n a=>KZ pl ec c t (n+10) a) (fun h=>.bar h) <|
 joint (P:=fun n a=>KZ pl ec c t (n+11) a) (fun h=>.tl h) <|
 .lit
set_option maxHeartbeats 4000000 in
theorem z_chain {g:Gx} {s:List Nat} {root a stk:Addr} {p:Nat} {ec:Option Nat} {c:Nat} {t:List Nat}  {jK jR jO jE jJ jQ jF jM jG jA jL jN jH jP jI jD:V} {H:AH} (hl3:s.length≤1000000) (hd:s.drop p=c::t) :
  Chain g Γ31 3 (LO s p p root a ec stk jK (.int (cA s p)) (.str [c]) jR jO jE jJ jQ jF jM jG jA jL jN jH jP jI jD) H [c==64,c==35,c==123,c==91,c==40,ec==some c,isCl c,isQt c,c==47&&headP (·==42) t,c==60&&t.take 3==[33,45,45],c==124&&headP (·==124) t,isTl c] zB:=by
 have hgd:=get_of_drop hd
 have hec:optS ec≠.unset:=by cases ec <;> nofun
 refine .cons (b:=c==64) ?_ rfl ?_
 ·walk_at"B"
  first | (refine ⟨?_,rfl⟩; rw [eqc_at] <;> rfl; done) | (rw [eqc_at]; exact ⟨rfl,rfl⟩)
 refine .cons (b:=c==35) ?_ rfl ?_
 ·walk_at"B"
  first | (refine ⟨?_,rfl⟩; rw [eqc_hash] <;> rfl; done) | (rw [eqc_hash]; exact ⟨rfl,rfl⟩)
 refine .cons (b:=c==123) ?_ rfl ?_
 ·walk_at"B"
  first | (refine ⟨?_,rfl⟩; rw [eqc_lc] <;> rfl; done) | (rw [eqc_lc]; exact ⟨rfl,rfl⟩)
 refine .cons (b:=c==91) ?_ rfl ?_
 ·walk_at"B"
  first | (refine ⟨?_,rfl⟩; rw [eqc_lb] <;> rfl; done) | (rw [eqc_lb]; exact ⟨rfl,rfl⟩)
 refine .cons (b:=c==40) ?_ rfl ?_
 ·walk_at"B"
  first | (refine ⟨?_,rfl⟩; rw [eqc_lp] <;> rfl; done) | (rw [eqc_lp]; exact ⟨rfl,rfl⟩)
 refine .cons (b:=ec==some c) ?_ rfl ?_
 ·walk_at"B"
  cases ec with
  | none=>exact cm10 ⟨rfl,rfl⟩
  | some e =>
   refine cm7 ⟨?_,rfl⟩
   rw [beq_one,Bool.eq_iff_iff,beq_iff_eq,beq_iff_eq,Option.some.injEq]
   exact eq_comm
 refine .cons (b:=isCl c) ?_ rfl ?_
 ·walk_at"B"
  first | (refine ⟨?_,rfl⟩; rw [cs_cl] <;> rfl; done) | (rw [cs_cl]; exact ⟨rfl,rfl⟩)
 refine .cons (b:=isQt c) ?_ rfl ?_
 ·walk_at"B"
  exact ⟨qt_any c,rfl⟩
 refine .cons (b:=c==47&&headP (·==42) t) ?_ rfl ?_
 ·walk_at"B"
  rw [show (Str.ofString "/*").cps.toList=[47,42] from by decide +kernel,swAt_nat _ _ _ (by simp),hd]
  refine ⟨?_,rfl⟩
  cases t with
  | nil=>simp [headP]
  | cons e u=>rw [Bool.eq_iff_iff]; simp [headP]
 refine .cons (b:=c==60&&t.take 3==[33,45,45]) ?_ rfl ?_
 ·walk_at"B"
  first | (refine ⟨?_,rfl⟩; rw [show (Str.ofString "<!--").cps.toList=[60,33,45,45] from by decide +kernel,swAt_nat _ _ _ (by simp),hd] <;> rfl; done) | (rw [show (Str.ofString "<!--").cps.toList=[60,33,45,45] from by decide +kernel,swAt_nat _ _ _ (by simp),hd]; exact ⟨rfl,rfl⟩)
 refine .cons (b:=c==124&&headP (·==124) t) ?_ rfl ?_
 ·walk_at"B"
  rw [show (Str.ofString "||").cps.toList=[124,124] from by decide +kernel,swAt_nat _ _ _ (by simp),hd]
  refine ⟨?_,rfl⟩
  cases t with
  | nil=>simp [headP]
  | cons e u=>rw [Bool.eq_iff_iff]; simp [headP]
 refine .cons (b:=isTl c) ?_ rfl ?_
 ·walk_at"B"
  first | (refine ⟨?_,rfl⟩; rw [cs_tl] <;> rfl; done) | (rw [cs_tl]; exact ⟨rfl,rfl⟩)
 exact .nil rfl
theorem nlit {n:Nat} {x y:List Nat} {c l:Int} (e:x=y):NodeT n (.obj 206 [.str x,.int c,.int l]) (leafT (plV l c) "literal" y):=e ▸ .literal
set_option maxHeartbeats 4000000 in
theorem TZ {w:World} {g:Gx} (G:GG w g) {s:List Nat} {FIN:List V} {M:Nat} {root a stk:Addr} {p:Nat} {ec:Option Nat} {cur curT:List V} {fs:List NF} {ft:List FT} {c:Nat} {t:List Nat} {t1 t2 t3:Option Pos}
  (hl:s.length≤600) (P:PRel s FIN M root p ec a cur curT fs ft) (hd:s.drop p=c::t) (hs:step (plA s p) ec c t=stepZ (plA s p) ec c t) (ht2:TabOk 5 t2) (ht3:TabOk 6 t3)  {jK jR jO jE jJ jQ jF jM jG jA jL jN jH jP jI jD:V} :
  Ss g Γ31 3 zB (LO s p p root a ec stk jK (.int (cA s p)) (.str [c]) jR jO jE jJ jQ jF jM jG jA jL jN jH jP jI jD) (HP stk a cur fs (TabH t1 t2 t3)) (QB s FIN M root stk t1 (s.length - p)):=by
 have hl2:s.length≤10000:=by exact AR.h293 _ hl
 have hl3:s.length≤1000000:=by exact AR.h298 _ hl
 have hcl:=P.len
 have hple:=P.ple
 have hfl:=P.flen
 have hgd:=get_of_drop hd
 have hlen:=congrArg List.length hd
 rw [List.length_drop] at hlen
 simp only [List.length_cons] at hlen
 have hec:optS ec≠.unset:=by cases ec <;> nofun
 have hi:t.length≤s.length:=by exact ar 3 [_,_,_] (.im (.eq (.s .v1 .v2) (.a .v0 .n1)) (.le .v0 .v1)) rfl hlen
 have hidt:=ident_len _ t (Nat.le_refl _)
 refine (z_chain hl3 hd).use ?_
 have hk:=kz_cases (plA s p) ec c t
 generalize fst1 [c==64,c==35,c==123,c==91,c==40,ec==some c,isCl c,isQt c,c==47&&headP (·==42) t,c==60&&t.take 3==[33,45,45],c==124&&headP (·==124) t,isTl c]=n at hk
 generalize stepZ (plA s p) ec c t=A at hs hk
 induction hk with
 | atk h =>
  refine Ss.consK ?_
  walk_at"B"
  refine S.ifb (identStart t) ?_ (fun h=>?_) (fun h=>?_)
  ·refine T.and2b (decide (p+1 < s.length)) ?_ (fun h=>?_) (fun h=>?_)
   ·walk_at"B"
    exact ⟨rfl,rfl⟩
   ·refine ⟨?_,rfl⟩
    have h:=of_decide_eq_false h
    have:t=[]:=List.length_eq_zero_iff.mp (by exact ar 3 [_,_,_] (.im (.eq (.s .v1 .v2) (.a .v0 .n1)) (.im (.nt (.lt (.a .v2 .n1) .v1)) (.eq .v0 .n0))) rfl hlen (Ar.f ‹_›))
    rw [this]; rfl
   ·have h:=of_decide_eq_true h
    walk_at"B"
    refine (C33 G (List.getElem?_eq_getElem h) hl3 ?_).le (by walk_at"m")
    walk_at"B"
    first | (refine ⟨?_,rfl⟩; rw [hgd.2.1] <;> rfl; done) | (rw [hgd.2.1]; exact ⟨rfl,rfl⟩)
  ·walk_at"B"
   refine S.unpackK ["value","pos"] (by repeat constructor) ?_
   walk_at"B"
   refine C34 G hl2 (by exact AR.h176 _ _ _ hlen) ?_
   first | (refine' val1 ?_ ?_; rw [hgd.2.1]) | (refine' val2 ?_ ?_; rw [hgd.2.1]) | rw [hgd.2.1]
   walk_at"B"
   refine E.appendK (a:=a) ?_ (by walk_at"d") (.tail _ (.head _))
   walk_at"B"
   refine K15 G (by exact AR.h464 _ _ _ _ _ hlen hidt hl) ?_
   refine KApd.mk (vs:=cur) (.there .here) (by exact AR.h468 _ _ _ hcl hl hple) ?_
   walk_at"B"
   exact PJ.leaf P hd (hs.trans (if_pos h)) (one_node .atk) (by simp) (by exact AR.h30 _ _) rfl ht2 ht3
  ·walk_at"B"
   refine E.appendK (a:=a) ?_ (by walk_at"d") (.tail _ (.head _))
   walk_at"B"
   refine K13 G ?_
   refine KApd.mk (vs:=cur) (.there .here) (by exact AR.h468 _ _ _ hcl hl hple) ?_
   walk_at"B"
   exact PJ.leaf P hd (hs.trans (if_neg (nf h))) (one_node (nlit (by decide +kernel))) (by simp) (by exact AR.h63 _) rfl ht2 ht3
 | hash h =>
  refine Ss.consK ?_
  walk_at"B"
  refine S.ifb (headP isNm t||escOk t) ?_ (fun h=>?_) (fun h=>?_)
  ·refine T.and2b (decide (p+1 < s.length)) ?_ (fun h=>?_) (fun h=>?_)
   ·walk_at"B"
    exact ⟨rfl,rfl⟩
   ·refine ⟨?_,rfl⟩
    have h:=of_decide_eq_false h
    have:t=[]:=List.length_eq_zero_iff.mp (by exact ar 3 [_,_,_] (.im (.eq (.s .v1 .v2) (.a .v0 .n1)) (.im (.nt (.lt (.a .v2 .n1) .v1)) (.eq .v0 .n0))) rfl hlen (Ar.f ‹_›))
    rw [this]; rfl
   ·have h:=of_decide_eq_true h
    have hg1:=List.getElem?_eq_getElem h
    have hd1:=drop_cons hg1
    generalize s[p+1]=n at hg1 hd1
    rw [hgd.2.1] at hd1
    first | (refine' val1 ?_ ?_; rw [hd1]) | (refine' val2 ?_ ?_; rw [hd1]) | rw [hd1]
    refine T.orC (isUp n||isLow n||isDig n||n==95||n==45) ?_ (fun h=>?_) (fun h=>?_)
    ·walk_at"B"
     first | (refine ⟨?_,rfl⟩; rw [cs_hash] <;> rfl; done) | (rw [cs_hash]; exact ⟨rfl,rfl⟩)
    ·exact ⟨by simp only [headP,isNm,h,Bool.true_or],rfl⟩
    refine T.orC (decide (n > 127)) ?_ (fun h2=>?_) (fun h2=>?_)
    ·walk_at"B"
     exact ⟨decide_eq_decide.mpr (by exact AR.h18 _),rfl⟩
    ·exact ⟨by simp only [headP,isNm,h,h2,Bool.false_or,Bool.true_or],rfl⟩
    have hn:headP isNm (n::s.drop (p+1+1))=false:=by simp only [headP,isNm,h,h2,Bool.false_or]
    first | (refine' val1 ?_ ?_; rw [hn,Bool.false_or]) | (refine' val2 ?_ ?_; rw [hn,Bool.false_or]) | rw [hn,Bool.false_or]
    refine T.orC (escOk (n::s.drop (p+1+1))) ?_ (fun h2=>?_) (fun h2=>?_)
    ·refine T.and2b (n==92) ?_ (fun h=>?_) (fun h=>?_)
     ·walk_at"B"
      first | (refine ⟨?_,rfl⟩; rw [eqc_bs] <;> rfl; done) | (rw [eqc_bs]; exact ⟨rfl,rfl⟩)
     ·refine ⟨?_,rfl⟩
      unfold escOk
      (try walk_at"k"); simp only [List.take_succ_cons,List.take_zero,beq_one,h,Bool.false_and]
     ·walk_at"B"
      rw [lit_bsnl,swAt_nat _ _ _ (by simp),hgd.2.1,hd1]
      refine ⟨?_,rfl⟩
      unfold escOk
      have:((n::s.drop (p+1+1)).take 1==[92])=true:=by simpa using h
      rw [this]; rfl
    ·exact ⟨h2.symm,rfl⟩
    ·walk_at"B"
     exact ⟨h2.symm,rfl⟩
  ·have h0:p+1 < s.length:=by
    cases t with
    | nil=>simp [headP,escOk] at h
    | cons=>simp at hlen; exact ar 3 [_,_,_] (.im (.eq (.s .v1 .v0) (.a (.a .v2 .n1) .n1)) (.lt (.a .v0 .n1) .v1)) rfl hlen
   walk_at"B"
   refine (C33 G (List.getElem?_eq_getElem h0) hl3 ?_).le (by walk_at"m")
   walk_at"B"
   refine S.unpackK ["value","pos"] (by repeat constructor) ?_
   walk_at"B"
   refine C34 G hl2 (by exact AR.h176 _ _ _ hlen) ?_
   first | (refine' val1 ?_ ?_; rw [hgd.2.1]) | (refine' val2 ?_ ?_; rw [hgd.2.1]) | rw [hgd.2.1]
   walk_at"B"
   refine E.appendK (a:=a) ?_ (by walk_at"d") (.tail _ (.head _))
   walk_at"B"
   refine K16 G ?_
   refine KApd.mk (vs:=cur) (.there .here) (by exact AR.h468 _ _ _ hcl hl hple) ?_
   walk_at"B"
   exact PJ.leaf P hd (hs.trans (if_pos h)) (one_node .hash) (by simp) (by exact AR.h30 _ _) rfl ht2 ht3
  ·walk_at"B"
   refine E.appendK (a:=a) ?_ (by walk_at"d") (.tail _ (.head _))
   walk_at"B"
   refine K13 G ?_
   refine KApd.mk (vs:=cur) (.there .here) (by exact AR.h468 _ _ _ hcl hl hple) ?_
   walk_at"B"
   exact PJ.leaf P hd (hs.trans (if_neg (nf h))) (one_node (nlit (by decide +kernel))) (by simp) (by exact AR.h63 _) rfl ht2 ht3
 | lc h =>
  refine Ss.consK ?_
  walk_at"B"
  refine E.lstA ?_
  refine Es.nil ?_
  refine ⟨by simp,fun a'=>?_⟩
  repeat walk_at"g"
  refine Ss.perm (List.Perm.swap _ _ _) ?_
  walk_at"B"
  refine E.appendK (a:=a) ?_ (by walk_at"d") (.tail _ (.tail _ (.head _)))
  walk_at"B"
  refine K25 G ?_
  refine KApd.mk (vs:=cur) (.there (.there .here)) (by exact AR.h468 _ _ _ hcl hl hple) ?_
  walk_at"B"
  refine E.appendK (a:=stk) ?_ (by walk_at"d") (.head _)
  walk_at"B"
  refine KApd.mk (vs:=stackV fs) (.here) (by rw [stackV_len]; exact AR.h469 _ _ _ hl hfl hple) ?_
  walk_at"B"
  exact PJ.opn (mk:=fun v=>.obj 571 [v,.int (cA s p),.int (lA s p)]) P hd hs (fun i vs us h hl=>.curly h hl) (fun a vs=>.obj (.cons .here (RpAll.refl _))) rfl rfl rfl (congrArg V.str (by decide +kernel)) ht2 ht3
 | lb h =>
  refine Ss.consK ?_
  walk_at"B"
  refine E.lstA ?_
  refine Es.nil ?_
  refine ⟨by simp,fun a'=>?_⟩
  repeat walk_at"g"
  refine Ss.perm (List.Perm.swap _ _ _) ?_
  walk_at"B"
  refine E.appendK (a:=a) ?_ (by walk_at"d") (.tail _ (.tail _ (.head _)))
  walk_at"B"
  refine K24 G ?_
  refine KApd.mk (vs:=cur) (.there (.there .here)) (by exact AR.h468 _ _ _ hcl hl hple) ?_
  walk_at"B"
  refine E.appendK (a:=stk) ?_ (by walk_at"d") (.head _)
  walk_at"B"
  refine KApd.mk (vs:=stackV fs) (.here) (by rw [stackV_len]; exact AR.h469 _ _ _ hl hfl hple) ?_
  walk_at"B"
  exact PJ.opn (mk:=fun v=>.obj 542 [v,.int (cA s p),.int (lA s p)]) P hd hs (fun i vs us h hl=>.square h hl) (fun a vs=>.obj (.cons .here (RpAll.refl _))) rfl rfl rfl (congrArg V.str (by decide +kernel)) ht2 ht3
 | lp h =>
  refine Ss.consK ?_
  walk_at"B"
  refine E.lstA ?_
  refine Es.nil ?_
  refine ⟨by simp,fun a'=>?_⟩
  repeat walk_at"g"
  refine Ss.perm (List.Perm.swap _ _ _) ?_
  walk_at"B"
  refine E.appendK (a:=a) ?_ (by walk_at"d") (.tail _ (.tail _ (.head _)))
  walk_at"B"
  refine K23 G ?_
  refine KApd.mk (vs:=cur) (.there (.there .here)) (by exact AR.h468 _ _ _ hcl hl hple) ?_
  walk_at"B"
  refine E.appendK (a:=stk) ?_ (by walk_at"d") (.head _)
  walk_at"B"
  refine KApd.mk (vs:=stackV fs) (.here) (by rw [stackV_len]; exact AR.h469 _ _ _ hl hfl hple) ?_
  walk_at"B"
  exact PJ.opn (mk:=fun v=>.obj 513 [v,.int (cA s p),.int (lA s p)]) P hd hs (fun i vs us h hl=>.paren h hl) (fun a vs=>.obj (.cons .here (RpAll.refl _))) rfl rfl rfl (congrArg V.str (by decide +kernel)) ht2 ht3
 | cls h =>
  have hc:=eq_of_beq h
  subst hc
  obtain ⟨f,fs',rfl⟩:=P.cls_ne
  have hrp:∀ a vs,Rp a vs (f.bl (.ref a)) (f.bl (.lst vs)):=by
   have:=P.frames
   cases this with
   | cons _ _ _ _ g5 _=>exact g5
  refine Ss.consK ?_
  walk_at"B"
  refine S.unpackK ["tokens","end_char"] (by repeat constructor) ?_
  refine E.pop ?_
  walk_at"B"
  unfold HP
  rw [stackV_cons]
  refine ⟨stk,stackV fs',_,_,rfl,.here,by rw [stackV_len]; simp at hfl; exact ar 3 [_,_,_] (.im (.le (.a .v0 .n1) .v1) (.im (.le .v2 (.n 600)) (.im (.le .v1 .v2) (.le .v0 (.n 1000000))))) rfl hfl hl hple,?_⟩
  refine unp_tup (pa_consK ?_)
  repeat walk_at"g"
  refine pa_consK ?_
  repeat walk_at"g"
  refine pa_nil ?_
  try dsimp only
  refine Ss.freeze (a:=a) (vs:=cur) (.there .here) (RpL.refl _) (.cons (.refl _) (rp_framesH (f:=f) (hrp _ _) _)) ?_
  walk_at"B"
  exact PJ.cls P hd hs rfl ht2 ht3
 | cl h =>
  refine Ss.consK ?_
  walk_at"B"
  refine E.appendK (a:=a) ?_ (by walk_at"d") (.tail _ (.head _))
  walk_at"B"
  refine bm3 ?_ (leSize (by rw [show (Str.ofString "Unmatched ").cps.toList.length=10 from by decide +kernel]; simp))
  walk_at"B"
  refine K10 G ?_
  refine KApd.mk (vs:=cur) (.there .here) (by exact AR.h468 _ _ _ hcl hl hple) ?_
  walk_at"B"
  exact PJ.leaf P hd hs (one_node .error) (by simp) (by exact AR.h63 _) rfl ht2 ht3
 | qt h =>
  have hq:c=34∨c=39:=by unfold isQt at h; simpa using h
  refine Ss.consK ?_
  walk_at"B"
  refine S.unpackK ["value","pos","error"] (by repeat constructor) ?_
  walk_at"B"
  refine C35 G hl2 hgd.1 hq ?_
  rw [hgd.2.1]
  have hqn:=qstr_len c _ t (Nat.le_refl _)
  generalize qstr c t=qq at hs hqn
  by_cases h0:qq.st=0
  ·rw [qres0 h0]
   rw [show strTs (plA s p) qq=[leafT (plA s p) "string" qq.val] from by unfold strTs; rw [h0]; rfl] at hs
   walk_at"B"
   refine S.ifT ?_ ?_
   ·walk_at"B"
    exact ⟨rfl,rfl⟩
   walk_at"B"
   refine E.fstr ?_
   refine E.str ⟨_,rfl,by decide +kernel,?_⟩
   refine E.fval ?_
   walk_at"B"
   refine (C5 (st:=t2) G (by exact AR.h464 _ _ _ _ _ hlen hqn hl) (H₂:=HP stk a cur fs (TabH t1 (genPos (bodyAt 5)) t3)) (.there (.there (MUpd.here.app _))) ht2 ?_).le (by walk_at"m")
   have hqs:=qsL (v:=qq.val)
   refine ⟨_,rfl,by exact ar 6 [_,_,_,_,_,_] (.im (.eq (.s .v1 .v2) (.a .v3 .n1)) (.im (.an (.le .v4 .v5) (.le .v5 .v3)) (.im (.le .v0 (.m 8 .v4)) (.im (.le .v1 (.n 600)) (.le .v0 (.n 1000000)))))) rfl hlen hqn hqs hl,⟨_,rfl,by rw [show (Str.ofString "\"").cps.toList=[34] from by decide +kernel]; simp at hqs ⊢; exact ar 6 [_,_,_,_,_,_] (.im (.eq (.s .v1 .v2) (.a .v3 .n1)) (.im (.an (.le .v4 .v5) (.le .v5 .v3)) (.im (.le .v0 (.m 8 .v4)) (.im (.le .v1 (.n 600)) (.le (.a .n1 .v0) (.n 1000000)))))) rfl hlen hqn hqs hl,?_⟩⟩
   refine E.str ⟨_,rfl,by rw [show (Str.ofString "\"").cps.toList=[34] from by decide +kernel]; simp at hqs ⊢; exact AR.h488 _ _ _ _ _ _ hlen hqn hqs hl,?_⟩
   dsimp only [Parts]
   walk_at"B"
   refine S.ifF ?_ ?_
   ·walk_at"B"
    exact ⟨rfl,rfl⟩
   walk_at"B"
   refine E.appendK (a:=a) ?_ (by walk_at"d") (.tail _ (.head _))
   walk_at"B"
   refine K17 G ?_
   refine KApd.mk (vs:=cur) (.there .here) (by exact AR.h468 _ _ _ hcl hl hple) ?_
   walk_at"B"
   refine S.ifF ?_ ?_
   ·walk_at"B"
    exact ⟨rfl,rfl⟩
   walk_at"B"
   exact PJ.leaf P hd hs (one_node .string) (by simp) (by exact AR.h30 _ _) rfl (.inr rfl) ht3
  ·by_cases h1:qq.st=1
   ·rw [qres1 h1]
    rw [show strTs (plA s p) qq=[leafT (plA s p) "error" (lit "bad-string")] from by unfold strTs; rw [h1]; rfl] at hs
    walk_at"B"
    refine S.ifF ?_ ?_
    ·walk_at"B"
     exact ⟨rfl,rfl⟩
    walk_at"B"
    refine S.ifT ?_ ?_
    ·walk_at"B"
     exact ⟨rfl,rfl⟩
    walk_at"B"
    refine E.appendK (a:=a) ?_ (by walk_at"d") (.tail _ (.head _))
    walk_at"B"
    refine ⟨_,.tup (j:=0) ⟨by decide,by decide⟩ rfl rfl,?_⟩
    walk_at"B"
    refine ⟨_,.tup (j:=1) ⟨by decide,by decide⟩ rfl rfl,?_⟩
    walk_at"B"
    refine K10 G ?_
    refine KApd.mk (vs:=cur) (.there .here) (by exact AR.h468 _ _ _ hcl hl hple) ?_
    walk_at"B"
    exact PJ.leaf P hd hs (one_node .error) (by simp) (by exact AR.h30 _ _) rfl ht2 ht3
   ·rw [qres2 h0 h1]
    rw [strTs2 h0 h1] at hs
    walk_at"B"
    refine S.ifT ?_ ?_
    ·walk_at"B"
     exact ⟨rfl,rfl⟩
    walk_at"B"
    refine E.fstr ?_
    refine E.str ⟨_,rfl,by decide +kernel,?_⟩
    refine E.fval ?_
    walk_at"B"
    refine (C5 (st:=t2) G (by exact AR.h464 _ _ _ _ _ hlen hqn hl) (H₂:=HP stk a cur fs (TabH t1 (genPos (bodyAt 5)) t3)) (.there (.there (MUpd.here.app _))) ht2 ?_).le (by walk_at"m")
    have hqs:=qsL (v:=qq.val)
    refine ⟨_,rfl,by exact ar 6 [_,_,_,_,_,_] (.im (.eq (.s .v1 .v2) (.a .v3 .n1)) (.im (.an (.le .v4 .v5) (.le .v5 .v3)) (.im (.le .v0 (.m 8 .v4)) (.im (.le .v1 (.n 600)) (.le .v0 (.n 1000000)))))) rfl hlen hqn hqs hl,⟨_,rfl,by rw [show (Str.ofString "\"").cps.toList=[34] from by decide +kernel]; simp at hqs ⊢; exact ar 6 [_,_,_,_,_,_] (.im (.eq (.s .v1 .v2) (.a .v3 .n1)) (.im (.an (.le .v4 .v5) (.le .v5 .v3)) (.im (.le .v0 (.m 8 .v4)) (.im (.le .v1 (.n 600)) (.le (.a .n1 .v0) (.n 1000000)))))) rfl hlen hqn hqs hl,?_⟩⟩
    refine E.str ⟨_,rfl,by rw [show (Str.ofString "\"").cps.toList=[34] from by decide +kernel]; simp at hqs ⊢; exact AR.h488 _ _ _ _ _ _ hlen hqn hqs hl,?_⟩
    dsimp only [Parts]
    walk_at"B"
    refine S.ifT ?_ ?_
    ·walk_at"B"
     exact ⟨rfl,rfl⟩
    walk_at"B"
    refine sli_str ?hz ?_
    case hz=>rw [show (Str.ofString "\"").cps.toList=[34] from by decide +kernel]; simp at hqs ⊢; exact AR.h488 _ _ _ _ _ _ hlen hqn hqs hl
    walk_at"B"
    refine E.appendK (a:=a) ?_ (by walk_at"d") (.tail _ (.head _))
    walk_at"B"
    refine K17 G ?_
    refine KApd.mk (vs:=cur) (.there .here) (by exact AR.h468 _ _ _ hcl hl hple) ?_
    walk_at"B"
    refine S.ifT ?_ ?_
    ·walk_at"B"
     exact ⟨rfl,rfl⟩
    walk_at"B"
    refine E.appendK (a:=a) ?_ (by walk_at"d") (.tail _ (.head _))
    walk_at"B"
    refine ⟨_,.tup (j:=0) ⟨by decide,by decide⟩ rfl rfl,?_⟩
    walk_at"B"
    refine ⟨_,.tup (j:=1) ⟨by decide,by decide⟩ rfl rfl,?_⟩
    walk_at"B"
    refine K10 G ?_
    refine ⟨_,_,.there .here,by simp; exact ar 3 [_,_,_] (.im (.le .v0 (.m 2 .v1)) (.im (.le .v2 (.n 600)) (.im (.le .v1 .v2) (.le .v0 (.n 999999))))) rfl hcl hl hple,?_⟩
    walk_at"B"
    exact PJ.leaf (vs:=[_,_]) P hd hs (.cons .string (.cons .error .nil)) (by simp) (by exact AR.h30 _ _) (List.append_assoc _ _ _) (.inr rfl) ht3
 | com h =>
  rw [Bool.and_eq_true] at h
  have hp2:p+2≤s.length:=by
   have:=headP_len (n:=0) h.2
   exact ar 3 [_,_,_] (.im (.le (.a .n0 .n1) .v2) (.im (.eq (.s .v1 .v0) (.a .v2 .n1)) (.le (.a .v0 (.n 2)) .v1))) rfl this hlen
  have h47:=eq_of_beq h.1
  subst h47
  have hdd:t.drop 1=s.drop (p+2):=by rw [← hgd.2.1,List.drop_drop]
  refine Ss.consK ?_
  walk_at"B"
  first | (refine' val1 ?_ ?_; rw [show (Str.ofString "*/").cps.toList=[42,47] from by decide +kernel]) | (refine' val2 ?_ ?_; rw [show (Str.ofString "*/").cps.toList=[42,47] from by decide +kernel]) | rw [show (Str.ofString "*/").cps.toList=[42,47] from by decide +kernel]
  refine CB.find ?_
  rw [findAt_com s (p+2) hp2]
  rw [hdd] at hs
  cases hk:comEnd (s.drop (p+2)) with
  | none =>
   rw [hk] at hs
   dsimp only at hs ⊢
   walk_at"B"
   refine S.ifT ?_ ?_
   ·walk_at"B"
    exact ⟨rfl,rfl⟩
   walk_at"B"
   refine S.ifT ?_ ?_
   ·walk_at"B"
    exact ⟨rfl,rfl⟩
   walk_at"B"
   refine E.appendK (a:=a) ?_ (by walk_at"d") (.tail _ (.head _))
   walk_at"B"
   first | (refine' val1 ?_ ?_; rw [slc_from]) | (refine' val2 ?_ ?_; rw [slc_from]) | rw [slc_from]
   refine K11 G ?_
   refine KApd.mk (vs:=cur) (.there .here) (by exact AR.h468 _ _ _ hcl hl hple) ?_
   walk_at"B"
   exact PF.stop P hd hs (one_node .comment) (by simp) rfl ht2 ht3
  | some k =>
   rw [hk] at hs
   dsimp only at hs ⊢
   have hkl:=comEnd_le hk
   rw [List.length_drop] at hkl
   walk_at"B"
   refine S.ifF ?_ ?_
   ·walk_at"B"
    refine ⟨?_,rfl⟩
    rw [beq_eq_false_iff_ne]
    intro e
    have e:((p+2+k:Nat):Int)=-1:=e
    exact AR.h240 ‹_›
   walk_at"B"
   refine S.ifT ?_ ?_
   ·walk_at"B"
    exact ⟨rfl,rfl⟩
   walk_at"B"
   refine E.appendK (a:=a) ?_ (by walk_at"d") (.tail _ (.head _))
   walk_at"B"
   first | (refine' val1 ?_ ?_; rw [slc_nat,show p+2+k - (p+2)=k by walk_at"m"]) | (refine' val2 ?_ ?_; rw [slc_nat,show p+2+k - (p+2)=k by walk_at"m"]) | rw [slc_nat,show p+2+k - (p+2)=k by exact ar 2 [_,_] (.eq (.s (.a (.a .v0 (.n 2)) .v1) (.a .v0 (.n 2))) .v1) rfl]
   refine K11 G ?_
   refine KApd.mk (vs:=cur) (.there .here) (by exact AR.h468 _ _ _ hcl hl hple) ?_
   walk_at"B"
   exact PJ.leaf P hd hs (one_node .comment) (by simp) (by exact ar 2 [_,_] (.eq (.a (.a (.a .v0 (.n 2)) .v1) (.n 2)) (.a .v0 (.a .v1 (.n 4)))) rfl) rfl ht2 ht3
 | cdo h =>
  refine Ss.consK ?_
  walk_at"B"
  refine E.appendK (a:=a) ?_ (by walk_at"d") (.tail _ (.head _))
  walk_at"B"
  refine K13 G ?_
  refine KApd.mk (vs:=cur) (.there .here) (by exact AR.h468 _ _ _ hcl hl hple) ?_
  walk_at"B"
  exact PJ.leaf P hd hs (one_node (nlit (by decide +kernel))) (by simp) (by exact ar 1 [_] (.eq (.a .v0 (.n 4)) (.a .v0 (.n 4))) rfl) rfl ht2 ht3
 | bar h =>
  refine Ss.consK ?_
  walk_at"B"
  refine E.appendK (a:=a) ?_ (by walk_at"d") (.tail _ (.head _))
  walk_at"B"
  refine K13 G ?_
  refine KApd.mk (vs:=cur) (.there .here) (by exact AR.h468 _ _ _ hcl hl hple) ?_
  walk_at"B"
  exact PJ.leaf P hd hs (one_node (nlit (by decide +kernel))) (by simp) (by exact ar 1 [_] (.eq (.a .v0 (.n 2)) (.a .v0 (.n 2))) rfl) rfl ht2 ht3
 | tl h =>
  refine Ss.consK ?_
  walk_at"B"
  refine S.ifb (headP (·==61) t) ?_ (fun h=>?_) (fun h=>?_)
  ·walk_at"B"
   rw [show (Str.ofString "=").cps.toList=[61] from by decide +kernel,swAt_nat _ _ _ (by simp),hgd.2.1]
   refine ⟨?_,rfl⟩
   cases t with
   | nil=>rfl
   | cons e u=>exact beq_one e 61
  ·walk_at"B"
   refine E.appendK (a:=a) ?_ (by walk_at"d") (.tail _ (.head _))
   walk_at"B"
   first | (refine' val1 ?_ ?_; rw [show (Str.ofString "=").cps.toList=[61] from by decide +kernel]) | (refine' val2 ?_ ?_; rw [show (Str.ofString "=").cps.toList=[61] from by decide +kernel]) | rw [show (Str.ofString "=").cps.toList=[61] from by decide +kernel]
   refine bm3 ?_ (leSize (by simp))
   walk_at"B"
   refine K13 G ?_
   refine KApd.mk (vs:=cur) (.there .here) (by exact AR.h468 _ _ _ hcl hl hple) ?_
   walk_at"B"
   exact PJ.leaf P hd (hs.trans (if_pos h)) (one_node .literal) (by simp) (by exact ar 1 [_] (.eq (.a (.a .v0 .n1) .n1) (.a .v0 (.n 2))) rfl) rfl ht2 ht3
  ·walk_at"B"
   refine E.appendK (a:=a) ?_ (by walk_at"d") (.tail _ (.head _))
   walk_at"B"
   refine K13 G ?_
   refine KApd.mk (vs:=cur) (.there .here) (by exact AR.h468 _ _ _ hcl hl hple) ?_
   walk_at"B"
   exact PJ.leaf P hd (hs.trans (if_neg (nf h))) (one_node .literal) (by simp) (by exact AR.h63 _) rfl ht2 ht3
 | lit =>
  refine Ss.consK ?_
  walk_at"B"
  refine E.appendK (a:=a) ?_ (by walk_at"d") (.tail _ (.head _))
  walk_at"B"
  refine K13 G ?_
  refine KApd.mk (vs:=cur) (.there .here) (by exact AR.h468 _ _ _ hcl hl hple) ?_
  walk_at"B"
  exact PJ.leaf P hd hs (one_node .literal) (by simp) (by exact AR.h63 _) rfl ht2 ht3
end
noncomputable def firstB:List Stmt:=(loopB.drop 5)
theorem cs_Uu (n:Nat):inStr [n] (Str.ofString "Uu").cps.toList=isUu n :=
 set_of (p:=isUu) (by decide +kernel) (by decide +kernel) (fun n h=>by simp [isUu]; exact ar 1 [_] (.im (.le (.n 128) .v0) (.an (.nt (.eq .v0 (.n 85))) (.nt (.eq .v0 (.n 117))))) rfl h) n
theorem urL {v:List Nat}:((v.map urF).flatten).length≤8 * v.length:=by
 induction v with
 | nil=>simp
 | cons a r ih =>
  have:=urF_len a
  (try walk_at"k"); simp only [List.map_cons,List.flatten_cons,List.length_append,List.length_cons]
  exact AR.h380 _ _ _ ih this
theorem lit_urlo:(Str.ofString "url(").cps.toList=[117,114,108,40]:=by decide +kernel
theorem lit_rp:(Str.ofString ")").cps.toList=[41]:=by decide +kernel
set_option tactic.hygienic true in
theorem urlR_val {r:List Nat} {v:List Nat} (h:(urlR r).val=some v):v.length≤r.length∧((urlR r).err=0∨(urlR r).err=1):=by
 unfold urlR at h ⊢
 split at h
 ·rename_i hd
  cases h
  (try walk_at"k"); simp
 ·rename_i c t hd
  have hlen:r.length - wsN r=(c::t).length:=by rw [← List.length_drop,hd]
  split at h
  ·rename_i h1
   first | refine kpos h1 ?_ | rw [if_pos h1]
   cases h
   (try walk_at"k"); simp
  ·rename_i h1
   first | refine kno h1 ?_ | rw [if_neg h1]
   have hb:=urlB_len _ (c::t) (Nat.le_refl _)
   generalize urlB (c::t)=b at h hb ⊢
   unfold urlT at h ⊢
   split at h
   ·cases h; exact ⟨by exact AR.h439 _ _ _ _ _ hlen hb,.inl rfl⟩
   ·cases h; exact ⟨by exact AR.h439 _ _ _ _ _ hlen hb,.inr rfl⟩
   ·split at h
    ·rename_i hx; cases h; exact ⟨by exact AR.h439 _ _ _ _ _ hlen hb,.inr rfl⟩
    ·rename_i e u hx
     split at h
     ·rename_i h2; rw [if_pos h2]; cases h; exact ⟨by exact AR.h439 _ _ _ _ _ hlen hb,.inl rfl⟩
     ·cases h
   ·cases h
set_option tactic.hygienic true in
theorem urlR_none {r:List Nat} (h:(urlR r).val=none):(urlR r).err=2:=by
 unfold urlR at h ⊢
 split at h
 ·cases h
 ·rename_i c t hd
  split at h
  ·cases h
  ·rename_i h1
   first | refine kno h1 ?_ | rw [if_neg h1]
   generalize urlB (c::t)=b at h ⊢
   unfold urlT at h ⊢
   split at h
   ·cases h
   ·cases h
   ·split at h
    ·cases h
    ·rename_i e u hx
     split at h
     ·cases h
     ·rename_i h2; rw [if_neg h2]
   ·rfl
noncomputable def QC (s:List Nat) (FIN:List V) (M:Nat) (root stk:Addr) (t1:Option Pos) (n:Nat) (r:R) (lo:Loc) (H:AH):Prop:=match r with
 | .next=>False
 | .cont=>∃ m,m < n∧PJ s FIN M root stk t1 m lo H
 | .brk=>PF s FIN M root stk t1 .next lo H
 | .ret v=>PF s FIN M root stk t1 (.ret v) lo H
noncomputable def identB:List Stmt:=ifB (elB (elB (elB firstB)))
theorem TI_call {w:World} {g:Gx} (G:GG w g) {s:List Nat} {FIN:List V} {M:Nat} {root a stk:Addr} {p:Nat} {ec:Option Nat} {cur curT:List V} {fs:List NF} {ft:List FT} {c:Nat} {t:List Nat} {t1 t2 t3:Option Pos}
  (hl:s.length≤600) (P:PRel s FIN M root p ec a cur curT fs ft) (hd:s.drop p=c::t) {v:List Nat} {n:Nat} (hs:step (plA s p) ec c t=.opn (plA s p) (.str (lit "function")) (.str v) 41 (n+1)) (hlen:s.length - p=t.length+1) (hidt:v.length≤n∧n≤t.length+1) (hec:optS ec≠.unset) (ht2:TabOk 5 t2) (ht3:TabOk 6 t3)  {jK jO jE jJ jQ jF jM jG jA jL jN jH jP jI jD jB:V} :
  Ss g Γ31 3 (identB.drop 5) (LO s (p+n+1) p root a ec stk jK (.int (cA s p)) jB (.str v) jO jE jJ jQ jF jM jG jA jL jN jH jP jI jD) (HP stk a cur fs (TabH t1 t2 t3)) (QC s FIN M root stk t1 (s.length - p)):=by
 have hcl:=P.len
 have hple:=P.ple
 have hfl:=P.flen
 refine Ss.consK ?_
 refine S.assignK ?_ (fun _=>rfl)
 refine E.lstA ?_
 refine Es.nil ?_
 refine ⟨by simp,fun a'=>?_⟩
 repeat walk_at"g"
 refine Ss.perm (List.Perm.swap _ _ _) ?_
 walk_at"B"
 refine E.appendK (a:=a) ?_ (by walk_at"d") (.tail _ (.tail _ (.head _)))
 walk_at"B"
 refine K26 G (by exact AR.h465 _ _ _ _ _ hlen hidt hl) ?_
 refine KApd.mk (vs:=cur) (.there (.there .here)) (by exact AR.h468 _ _ _ hcl hl hple) ?_
 walk_at"B"
 refine E.appendK (a:=stk) ?_ (by walk_at"d") (.head _)
 walk_at"B"
 refine KApd.mk (vs:=stackV fs) (.here) (by rw [stackV_len]; exact AR.h469 _ _ _ hl hfl hple) ?_
 walk_at"B"
 exact PJ.opn (mk:=fun x=>.obj 600 [x,.str (v.map low),.str v,.int (cA s p),.int (lA s p)]) P hd hs (fun i vs us h hl=>.func h hl) (fun a vs=>.obj (.cons .here (RpAll.refl _))) (by exact ar 2 [_,_] (.eq (.a (.a .v0 .v1) .n1) (.a .v0 (.a .v1 .n1))) rfl) rfl rfl (congrArg V.str (by decide +kernel)) ht2 ht3
set_option maxHeartbeats 4000000 in
set_option tactic.hygienic true in
theorem TI {w:World} {g:Gx} (G:GG w g) {s:List Nat} {FIN:List V} {M:Nat} {root a stk:Addr} {p:Nat} {ec:Option Nat} {cur curT:List V} {fs:List NF} {ft:List FT} {c:Nat} {t:List Nat} {t1 t2 t3:Option Pos}
  (hl:s.length≤600) (P:PRel s FIN M root p ec a cur curT fs ft) (hd:s.drop p=c::t) (hs:step (plA s p) ec c t=stepI (plA s p) (ident (c::t)).1 (ident (c::t)).2 (c::t)) (ht2:TabOk 5 t2) (ht3:TabOk 6 t3)  {jK jR jO jE jJ jQ jF jM jG jA jL jN jH jP jI jD:V} :
  Ss g Γ31 3 identB (LO s p p root a ec stk jK (.int (cA s p)) (.str [c]) jR jO jE jJ jQ jF jM jG jA jL jN jH jP jI jD) (HP stk a cur fs (TabH t1 t2 t3)) (QC s FIN M root stk t1 (s.length - p)):=by
 have hl2:s.length≤10000:=by exact AR.h293 _ hl
 have hl3:s.length≤1000000:=by exact AR.h298 _ hl
 have hcl:=P.len
 have hple:=P.ple
 have hfl:=P.flen
 have hlen:=congrArg List.length hd
 rw [List.length_drop] at hlen
 simp only [List.length_cons] at hlen
 have hec:optS ec≠.unset:=by cases ec <;> nofun
 have hidt:=ident_len _ (c::t) (Nat.le_refl _)
 simp only [List.length_cons] at hidt
 refine Ss.consK ?_
 refine S.unpackK ["value","pos"] (by repeat constructor) ?_
 walk_at"B"
 refine C34 G hl2 hple ?_
 rw [hd]
 generalize hv:(ident (c::t)).1=v at hs hidt ⊢
 generalize hn:(ident (c::t)).2=n at hs hidt ⊢
 have hdn:s.drop (p+n)=(c::t).drop n:=by rw [← hd,List.drop_drop]
 have hdn1:s.drop (p+n+1)=(c::t).drop (n+1):=by rw [← hd,List.drop_drop]; rfl
 unfold stepI at hs
 walk_at"B"
 refine S.ifb (!headP (·==40) ((c::t).drop n)) ?_ (fun h=>?_) (fun h=>?_)
 ·walk_at"B"
  rw [show (Str.ofString "(").cps.toList=[40] from by decide +kernel,swAt_nat _ _ _ (by simp),hdn]
  refine ⟨?_,rfl⟩
  cases (c::t).drop n with
  | nil=>rfl
  | cons e u=>exact congrArg not (beq_one e 40)
 ·rw [if_neg (by rw [Bool.not_eq_true'] at h; rw [h]; exact bn)] at hs
  walk_at"B"
  refine E.appendK (a:=a) ?_ (by walk_at"d") (.tail _ (.head _))
  walk_at"B"
  refine K14 G (by exact AR.h465 _ _ _ _ _ hlen hidt hl) ?_
  refine KApd.mk (vs:=cur) (.there .here) (by exact AR.h468 _ _ _ hcl hl hple) ?_
  walk_at"B"
  exact PJ.leaf P hd hs (one_node .ident) (by simp) (by exact ar 2 [_,_] (.eq (.a .v0 .v1) (.a .v0 .v1)) rfl) rfl ht2 ht3
 rw [Bool.not_eq_false'] at h
 rw [if_pos h] at hs
 have hpl:=headP_len h
 simp only [List.length_cons] at hpl
 rw [← hdn1] at hs
 walk_at"B"
 refine (C8 G (by exact AR.h465 _ _ _ _ _ hlen hidt hl) ?_).le (by walk_at"m")
 walk_at"B"
 rw [show (Str.ofString "url").cps.toList=[117,114,108] from by decide +kernel]
 have hwl:=wsN_le (s.drop (p+n+1))
 rw [List.length_drop] at hwl
 refine S.ifb (isUrl v) ?_ (fun hu=>?_) (fun hu=>?_)
 ·walk_at"B"
  exact ⟨rfl,rfl⟩
 ·rw [hu,Bool.true_and] at hs
  walk_at"B"
  refine S.run (p:=isWs) (s:=s) (L:=fun e=>LO s (p+n+1) p root a ec stk jK (.int (cA s p)) (.str [c]) (.str v) jO jE (.bool (List.map low v==[117,114,108])) (.int e) jF jM jG jA jL jN jH jP jI jD) (p+n+1) (fun e=>?_) (fun e=>?_) ?_
  ·walk_at"B"
   exact cb_ws (tm2 ⟨rfl,rfl⟩)
  ·walk_at"B"
   exact ⟨rfl,rfl,rfl⟩
  try dsimp only
  change _ at hwl
  rw [show (List.takeWhile isWs (List.drop (p+n+1) s)).length=wsN (s.drop (p+n+1)) from rfl]
  generalize hk:wsN (s.drop (p+n+1))=k at hs hwl ⊢
  rw [List.drop_drop] at hs
  walk_at"B"
  refine S.ifb (!headP isQt (s.drop (p+n+1+k))) ?_ (fun h2=>?_) (fun h2=>?_)
  ·refine T.or2b (decide (p+n+1+k ≥ s.length)) ?_ (fun h=>?_) (fun h=>?_)
   ·walk_at"B"
    exact ⟨rfl,rfl⟩
   ·have h:=of_decide_eq_true h
    refine ⟨?_,rfl⟩
    rw [List.drop_eq_nil_iff.mpr h]; rfl
   ·have h:=of_decide_eq_false h
    have hp:p+n+1+k < s.length:=by exact ar 4 [_,_,_,_] (.im (.nt (.le .v3 (.a (.a (.a .v0 .v1) .n1) .v2))) (.lt (.a (.a (.a .v0 .v1) .n1) .v2) .v3)) rfl (Ar.f ‹_›)
    have hg:=List.getElem?_eq_getElem hp
    have hd:=drop_cons hg
    generalize s[p+n+1+k]=e at hg hd
    first | (refine' val1 ?_ ?_; rw [hd]) | (refine' val2 ?_ ?_; rw [hd]) | rw [hd]
    walk_at"B"
    first | (refine ⟨?_,rfl⟩; rw [qt_any] <;> rfl; done) | (rw [qt_any]; exact ⟨rfl,rfl⟩)
  ·rw [if_pos h2] at hs
   walk_at"B"
   refine S.unpackK ["value","pos","error"] (by repeat constructor) ?_
   walk_at"B"
   refine C37 G hl2 (by exact ar 4 [_,_,_,_] (.im (.le (.a .v1 .n1) (.a .v3 .n1)) (.im (.eq (.s .v2 .v0) (.a .v3 .n1)) (.le (.a (.a .v0 .v1) .n1) .v2))) rfl hpl hlen) (by rw [hk,List.drop_drop]; simpa using h2) ?_
   have hul:=urlR_le (s.drop (p+n+1))
   have hu1:=@urlR_val (s.drop (p+n+1))
   have hu2:=@urlR_none (s.drop (p+n+1))
   rw [List.length_drop] at hul
   generalize urlR (s.drop (p+n+1))=U at hs hul hu1 hu2
   unfold uV
   cases hv:U.val with
   | none =>
    have he:=hu2 hv
    rw [show urlTs (plA s p) U=[leafT (plA s p) "error" (lit "bad-url")] from by unfold urlTs; rw [hv,he]; rfl] at hs
    first | (refine' val1 ?_ ?_; rw [he]) | (refine' val2 ?_ ?_; rw [he]) | rw [he]
    walk_at"B"
    refine S.ifF ?_ ?_
    ·walk_at"B"
     first | exact cm19 ⟨rfl,rfl⟩ | exact cm21 ⟨rfl,rfl⟩ | exact cm22 ⟨rfl,rfl⟩ | exact cm20 ⟨rfl,rfl⟩ | exact tm2 ⟨rfl,rfl⟩ | exact cm15 ⟨rfl,rfl⟩ | exact cm17 ⟨rfl,rfl⟩ | exact cm18 ⟨rfl,rfl⟩ | exact cm16 ⟨rfl,rfl⟩ | exact cm7 ⟨rfl,rfl⟩
    walk_at"B"
    refine S.ifT ?_ ?_
    ·walk_at"B"
     first | exact cm19 ⟨rfl,rfl⟩ | exact cm21 ⟨rfl,rfl⟩ | exact cm22 ⟨rfl,rfl⟩ | exact cm20 ⟨rfl,rfl⟩ | exact tm2 ⟨rfl,rfl⟩ | exact cm15 ⟨rfl,rfl⟩ | exact cm17 ⟨rfl,rfl⟩ | exact cm18 ⟨rfl,rfl⟩ | exact cm16 ⟨rfl,rfl⟩ | exact cm7 ⟨rfl,rfl⟩
    walk_at"B"
    refine E.appendK (a:=a) ?_ (by walk_at"d") (.tail _ (.head _))
    walk_at"B"
    refine ⟨_,.tup (j:=0) ⟨by decide,by decide⟩ rfl rfl,?_⟩
    walk_at"B"
    refine ⟨_,.tup (j:=1) ⟨by decide,by decide⟩ rfl rfl,?_⟩
    walk_at"B"
    refine K10 G ?_
    refine KApd.mk (vs:=cur) (.there .here) (by exact AR.h468 _ _ _ hcl hl hple) ?_
    walk_at"B"
    exact PJ.leaf P hd hs (one_node .error) (by simp) (by exact AR.h11 _ _ _) rfl ht2 ht3
   | some v' =>
    obtain ⟨hv1,he⟩:=hu1 hv
    rw [List.length_drop] at hv1
    have hqs:=urL (v:=v')
    rcases he with he | he
    ·rw [show urlTs (plA s p) U=[leafT (plA s p) "url" v'] from by unfold urlTs; rw [hv,he]; rfl] at hs
     first | (refine' val1 ?_ ?_; rw [he]) | (refine' val2 ?_ ?_; rw [he]) | rw [he]
     walk_at"B"
     refine S.ifT ?_ ?_
     ·walk_at"B"
      first | exact cm19 ⟨rfl,rfl⟩ | exact cm21 ⟨rfl,rfl⟩ | exact cm22 ⟨rfl,rfl⟩ | exact cm20 ⟨rfl,rfl⟩ | exact tm2 ⟨rfl,rfl⟩ | exact cm15 ⟨rfl,rfl⟩ | exact cm17 ⟨rfl,rfl⟩ | exact cm18 ⟨rfl,rfl⟩ | exact cm16 ⟨rfl,rfl⟩ | exact cm7 ⟨rfl,rfl⟩
     walk_at"B"
     refine E.fstr ?_
     refine E.str ⟨_,rfl,by decide +kernel,?_⟩
     refine E.fval ?_
     walk_at"B"
     refine (C6 (st:=t3) G (by exact ar 4 [_,_,_,_] (.im (.le .v0 (.s .v1 (.a (.a .v2 .v3) .n1))) (.im (.le .v1 (.n 600)) (.le .v0 (.n 10000)))) rfl hv1 hl) (H₂:=HP stk a cur fs (TabH t1 t2 (genPos (bodyAt 6)))) (.there (.there ((MUpd.there .here).app _))) ht3 ?_).le (by walk_at"m")
     refine ⟨_,rfl,by exact ar 5 [_,_,_,_,_] (.im (.le .v0 (.m 8 .v1)) (.im (.le .v1 (.s .v2 (.a (.a .v3 .v4) .n1))) (.im (.le .v2 (.n 600)) (.le .v0 (.n 1000000))))) rfl hqs hv1 hl,⟨_,rfl,by rw [lit_urlo]; simp at hqs ⊢; exact ar 5 [_,_,_,_,_] (.im (.le .v0 (.m 8 .v1)) (.im (.le .v1 (.s .v2 (.a (.a .v3 .v4) .n1))) (.im (.le .v2 (.n 600)) (.le (.a (.n 4) .v0) (.n 1000000))))) rfl hqs hv1 hl,?_⟩⟩
     refine E.str ⟨_,rfl,by rw [lit_urlo,lit_rp]; simp at hqs ⊢; exact AR.h475 _ _ _ _ _ hqs hv1 hl,?_⟩
     dsimp only [Parts]
     walk_at"B"
     refine S.ifF ?_ ?_
     ·walk_at"B"
      first | exact cm19 ⟨rfl,rfl⟩ | exact cm21 ⟨rfl,rfl⟩ | exact cm22 ⟨rfl,rfl⟩ | exact cm20 ⟨rfl,rfl⟩ | exact tm2 ⟨rfl,rfl⟩ | exact cm15 ⟨rfl,rfl⟩ | exact cm17 ⟨rfl,rfl⟩ | exact cm18 ⟨rfl,rfl⟩ | exact cm16 ⟨rfl,rfl⟩ | exact cm7 ⟨rfl,rfl⟩
     walk_at"B"
     refine E.appendK (a:=a) ?_ (by walk_at"d") (.tail _ (.head _))
     walk_at"B"
     refine K18 G ?_
     refine KApd.mk (vs:=cur) (.there .here) (by exact AR.h468 _ _ _ hcl hl hple) ?_
     walk_at"B"
     refine S.ifF ?_ ?_
     ·walk_at"B"
      first | exact cm19 ⟨rfl,rfl⟩ | exact cm21 ⟨rfl,rfl⟩ | exact cm22 ⟨rfl,rfl⟩ | exact cm20 ⟨rfl,rfl⟩ | exact tm2 ⟨rfl,rfl⟩ | exact cm15 ⟨rfl,rfl⟩ | exact cm17 ⟨rfl,rfl⟩ | exact cm18 ⟨rfl,rfl⟩ | exact cm16 ⟨rfl,rfl⟩ | exact cm7 ⟨rfl,rfl⟩
     walk_at"B"
     exact PJ.leaf P hd hs (one_node .url) (by simp) (by exact AR.h11 _ _ _) rfl ht2 (.inr rfl)
    ·rw [show urlTs (plA s p) U=[leafT (plA s p) "url" v',leafT (plA s p) "error" (lit "eof-in-url")] from by unfold urlTs; rw [hv,he]; rfl] at hs
     first | (refine' val1 ?_ ?_; rw [he]) | (refine' val2 ?_ ?_; rw [he]) | rw [he]
     walk_at"B"
     refine S.ifT ?_ ?_
     ·walk_at"B"
      first | exact cm19 ⟨rfl,rfl⟩ | exact cm21 ⟨rfl,rfl⟩ | exact cm22 ⟨rfl,rfl⟩ | exact cm20 ⟨rfl,rfl⟩ | exact tm2 ⟨rfl,rfl⟩ | exact cm15 ⟨rfl,rfl⟩ | exact cm17 ⟨rfl,rfl⟩ | exact cm18 ⟨rfl,rfl⟩ | exact cm16 ⟨rfl,rfl⟩ | exact cm7 ⟨rfl,rfl⟩
     walk_at"B"
     refine E.fstr ?_
     refine E.str ⟨_,rfl,by decide +kernel,?_⟩
     refine E.fval ?_
     walk_at"B"
     refine (C6 (st:=t3) G (by exact ar 4 [_,_,_,_] (.im (.le .v0 (.s .v1 (.a (.a .v2 .v3) .n1))) (.im (.le .v1 (.n 600)) (.le .v0 (.n 10000)))) rfl hv1 hl) (H₂:=HP stk a cur fs (TabH t1 t2 (genPos (bodyAt 6)))) (.there (.there ((MUpd.there .here).app _))) ht3 ?_).le (by walk_at"m")
     refine ⟨_,rfl,by exact ar 5 [_,_,_,_,_] (.im (.le .v0 (.m 8 .v1)) (.im (.le .v1 (.s .v2 (.a (.a .v3 .v4) .n1))) (.im (.le .v2 (.n 600)) (.le .v0 (.n 1000000))))) rfl hqs hv1 hl,⟨_,rfl,by rw [lit_urlo]; simp at hqs ⊢; exact ar 5 [_,_,_,_,_] (.im (.le .v0 (.m 8 .v1)) (.im (.le .v1 (.s .v2 (.a (.a .v3 .v4) .n1))) (.im (.le .v2 (.n 600)) (.le (.a (.n 4) .v0) (.n 1000000))))) rfl hqs hv1 hl,?_⟩⟩
     refine E.str ⟨_,rfl,by rw [lit_urlo,lit_rp]; simp at hqs ⊢; exact AR.h475 _ _ _ _ _ hqs hv1 hl,?_⟩
     dsimp only [Parts]
     walk_at"B"
     refine S.ifT ?_ ?_
     ·walk_at"B"
      first | exact cm19 ⟨rfl,rfl⟩ | exact cm21 ⟨rfl,rfl⟩ | exact cm22 ⟨rfl,rfl⟩ | exact cm20 ⟨rfl,rfl⟩ | exact tm2 ⟨rfl,rfl⟩ | exact cm15 ⟨rfl,rfl⟩ | exact cm17 ⟨rfl,rfl⟩ | exact cm18 ⟨rfl,rfl⟩ | exact cm16 ⟨rfl,rfl⟩ | exact cm7 ⟨rfl,rfl⟩
     walk_at"B"
     refine ⟨_,.tup (j:=0) ⟨by decide,by decide⟩ rfl rfl,?_⟩
     walk_at"B"
     refine S.ifF ?_ ?_
     ·walk_at"B"
      exact ⟨by decide +kernel,rfl⟩
     walk_at"B"
     refine ⟨by decide +kernel,?_⟩
     walk_at"B"
     refine sli_str ?hz ?_
     case hz=>rw [lit_urlo,lit_rp]; simp at hqs ⊢; exact AR.h475 _ _ _ _ _ hqs hv1 hl
     walk_at"B"
     refine E.appendK (a:=a) ?_ (by walk_at"d") (.tail _ (.head _))
     walk_at"B"
     refine K18 G ?_
     refine KApd.mk (vs:=cur) (.there .here) (by exact AR.h468 _ _ _ hcl hl hple) ?_
     walk_at"B"
     refine S.ifT ?_ ?_
     ·walk_at"B"
      first | exact cm19 ⟨rfl,rfl⟩ | exact cm21 ⟨rfl,rfl⟩ | exact cm22 ⟨rfl,rfl⟩ | exact cm20 ⟨rfl,rfl⟩ | exact tm2 ⟨rfl,rfl⟩ | exact cm15 ⟨rfl,rfl⟩ | exact cm17 ⟨rfl,rfl⟩ | exact cm18 ⟨rfl,rfl⟩ | exact cm16 ⟨rfl,rfl⟩ | exact cm7 ⟨rfl,rfl⟩
     walk_at"B"
     refine E.appendK (a:=a) ?_ (by walk_at"d") (.tail _ (.head _))
     walk_at"B"
     refine ⟨_,.tup (j:=0) ⟨by decide,by decide⟩ rfl rfl,?_⟩
     walk_at"B"
     refine ⟨_,.tup (j:=1) ⟨by decide,by decide⟩ rfl rfl,?_⟩
     walk_at"B"
     refine K10 G ?_
     refine ⟨_,_,.there .here,by simp; exact ar 3 [_,_,_] (.im (.le .v0 (.m 2 .v1)) (.im (.le .v2 (.n 600)) (.im (.le .v1 .v2) (.le .v0 (.n 999999))))) rfl hcl hl hple,?_⟩
     walk_at"B"
     exact PJ.leaf (vs:=[_,_]) P hd hs (.cons .url (.cons .error .nil)) (by simp) (by exact AR.h11 _ _ _) (List.append_assoc _ _ _) ht2 (.inr rfl)
  ·rw [if_neg (nf h2)] at hs
   repeat (with_reducible refine Ss.nil ?_)
   exact TI_call G hl P hd hs hlen hidt hec ht2 ht3
 ·rw [hu,Bool.false_and,if_neg bn] at hs
  repeat (with_reducible refine Ss.nil ?_)
  exact TI_call G hl P hd hs hlen hidt hec ht2 ht3
noncomputable abbrev LO0 (s:List Nat) (p tsp:Nat) (l ln:Int) (root a:Addr) (ec:Option Nat) (stk:Addr) (jK jC jB jR jO jE jJ jQ jF jM jG jA jL jN jH jP jI jD:V):Loc:=[("css",.str s),("skip_comments",.bool false),("length",.int s.length),("token_start_pos",.int tsp),("pos",.int p),("line",.int l),("last_newline",.int ln),("root",.ref root),("tokens",.ref a),("end_char",optS ec),("stack",.ref stk),("newline",jK),("column",jC),("c",jB),("value",jR),("start",jO),("end",jE),("is_url",jJ),("url_pos",jQ),("error",jF),("repr",jM),("error_key",jG),("arguments",jA),("plain",jL),("repr_",jN),("int_value",jH),("unit",jP),("is_identifier",jI),("content",jD)]
set_option maxHeartbeats 4000000 in
theorem TA {w:World} {g:Gx} (G:GG w g) {s:List Nat} {FIN:List V} {M:Nat} {root a stk:Addr} {p tsp:Nat} {ec:Option Nat} {cur curT:List V} {fs:List NF} {ft:List FT} {c:Nat} {t:List Nat} {t1 t2 t3:Option Pos}
  (hl:s.length≤600) (hts:tsp≤p) (P:PRel s FIN M root p ec a cur curT fs ft) (hd:s.drop p=c::t) (ht2:TabOk 5 t2) (ht3:TabOk 6 t3) {jK jC jB jR jO jE jJ jQ jF jM jG jA jL jN jH jP jI jD:V} :
  Ss g Γ31 3 loopB (LO s p tsp root a ec stk jK jC jB jR jO jE jJ jQ jF jM jG jA jL jN jH jP jI jD) (HP stk a cur fs (TabH t1 t2 t3)) (QB s FIN M root stk t1 (s.length - p)):=by
 have hl2:s.length≤10000:=by exact AR.h293 _ hl
 have hl3:s.length≤1000000:=by exact AR.h298 _ hl
 have hcl:=P.len
 have hple:=P.ple
 have hfl:=P.flen
 have hgd:=get_of_drop hd
 have hg:=hgd.1
 have hlen:=congrArg List.length hd
 rw [List.length_drop] at hlen
 simp only [List.length_cons] at hlen
 have hec:optS ec≠.unset:=by cases ec <;> nofun
 refine Ss.consK ?_
 walk_at"B"
 rw [show (Str.ofString "\n").cps.toList=[10] from by decide +kernel]
 refine CB.rfind ?_
 have hnl:=nl_R s hts hple
 generalize rfindAt s [10] tsp p=nl at hnl
 walk_at"B"
 refine S.mono (S.ifb (nl != -1) (Q:=fun r lo' H'=>r=.next∧H'=HP stk a cur fs (TabH t1 t2 t3)∧lo'=LO0 s p tsp (lA s p) (nlA s p) root a ec stk (.int nl) jC jB jR jO jE jJ jQ jF jM jG jA jL jN jH jP jI jD) ?_ (fun h=>?_) (fun h=>?_)) ?_
 ·walk_at"B"
  exact ⟨rfl,rfl⟩
 ·walk_at"B"
  refine CB.count ?_
  walk_at"B"
  cases hnl with
  | none=>cases h
  | some n h1 h2 =>
   rw [show (Str.ofString "\n").cps.toList=[10] from by decide +kernel]
   exact ⟨rfl,rfl,by rw [← h1,← h2]⟩
 ·walk_at"B"
  cases hnl with
  | some n h1 h2=>exact absurd h (by simp)
  | none h1 h2=>exact ⟨rfl,rfl,by rw [← h1,← h2]⟩
 rintro r lo' H' ⟨rfl,rfl,rfl⟩
 try dsimp only
 walk_at"B"
 rw [show (p:Int) - nlA s p=cA s p by unfold nlA; omega]
 have hs:=step.eq_1 (plA s p) ec c t
 refine S.ifb (isWs c) ?_ (fun h=>?_) (fun h=>?_)
 ·walk_at"B"
  first | (refine ⟨?_,rfl⟩; rw [cs_ws] <;> rfl; done) | (rw [cs_ws]; exact ⟨rfl,rfl⟩)
 ·rw [if_pos h] at hs
  have hw:wsN (c::t)=1+wsN t:=by
   unfold wsN; rw [List.takeWhile_cons,if_pos h]; simp; exact ar 1 [_] (.eq (.a .v0 .n1) (.a .n1 .v0)) rfl
  walk_at"B"
  refine S.run (p:=isWs) (s:=s) (L:=fun e=>LO s e p root a ec stk (.int nl) (.int (cA s p)) (.str [c]) jR jO jE jJ jQ jF jM jG jA jL jN jH jP jI jD) (p+1) (fun e=>?_) (fun e=>?_) ?_
  ·walk_at"B"
   exact cb_ws (tm2 ⟨rfl,rfl⟩)
  ·walk_at"B"
   exact ⟨rfl,rfl,rfl⟩
  rw [show (List.takeWhile isWs (List.drop (p+1) s)).length=wsN t from by rw [hgd.2.1]; rfl]
  try dsimp only
  walk_at"B"
  first | (refine' val1 ?_ ?_; rw [slc_nat,show p+1+wsN t - p=wsN (c::t) by walk_at"m",hd]) | (refine' val2 ?_ ?_; rw [slc_nat,show p+1+wsN t - p=wsN (c::t) by walk_at"m",hd]) | rw [slc_nat,show p+1+wsN t - p=wsN (c::t) by exact ar 3 [_,_,_] (.im (.eq .v2 (.a .n1 .v1)) (.eq (.s (.a (.a .v0 .n1) .v1) .v0) .v2)) rfl hw,hd]
  refine E.appendK (a:=a) ?_ (by walk_at"d") (.tail _ (.head _))
  walk_at"B"
  refine K12 G ?_
  refine KApd.mk (vs:=cur) (.there .here) (by exact AR.h468 _ _ _ hcl hl hple) ?_
  walk_at"B"
  exact PJ.leaf P hd hs (one_node .white) (by simp) (by exact ar 3 [_,_,_] (.im (.eq .v2 (.a .n1 .v1)) (.eq (.a (.a .v0 .n1) .v1) (.a .v0 .v2))) rfl hw) rfl ht2 ht3
 rw [if_neg (nf h)] at hs
 walk_at"B"
 refine S.ifb (isUu c&&(headP (·==43) t&&headP (fun n=>isHex n||n==63) (t.drop 1))) ?_ (fun h=>?_) (fun h=>?_)
 ·refine T.andC (isUu c) ?_ (fun h=>?_) (fun h=>?_)
  ·walk_at"B"
   first | (refine ⟨?_,rfl⟩; rw [cs_Uu] <;> rfl; done) | (rw [cs_Uu]; exact ⟨rfl,rfl⟩)
  ·first | (refine ⟨?_,rfl⟩; rw [h] <;> rfl; done) | (rw [h]; exact ⟨rfl,rfl⟩)
  first | (refine' val1 ?_ ?_; rw [h,Bool.true_and]) | (refine' val2 ?_ ?_; rw [h,Bool.true_and]) | rw [h,Bool.true_and]
  refine T.andC (decide (p+2 < s.length)) ?_ (fun h=>?_) (fun h=>?_)
  ·walk_at"B"
   exact ⟨rfl,rfl⟩
  ·have h:=of_decide_eq_false h
   have:t.drop 1=[]:=List.drop_eq_nil_iff.mpr (by exact ar 3 [_,_,_] (.im (.eq (.s .v1 .v2) (.a .v0 .n1)) (.im (.nt (.lt (.a .v2 (.n 2)) .v1)) (.le .v0 .n1))) rfl hlen (Ar.f ‹_›))
   rw [this]
   exact ⟨by simp [headP],rfl⟩
  have h:=of_decide_eq_true h
  have hp1:p+1 < s.length:=by exact ar 2 [_,_] (.im (.lt (.a .v0 (.n 2)) .v1) (.lt (.a .v0 .n1) .v1)) rfl (Ar.t ‹_›)
  have hg1:=List.getElem?_eq_getElem hp1
  have hd1:=drop_cons hg1
  have hg2:=List.getElem?_eq_getElem h
  have hd2:=drop_cons hg2
  generalize s[p+1]=n1 at hg1 hd1
  generalize s[p+2]=n2 at hg2 hd2
  rw [hgd.2.1,show p+1+1=p+2 from rfl,hd2] at hd1
  first | (refine' val1 ?_ ?_; rw [hd1]) | (refine' val2 ?_ ?_; rw [hd1]) | rw [hd1]
  refine T.andC (n1==43) ?_ (fun h3=>?_) (fun h3=>?_)
  ·walk_at"B"
   first | (refine ⟨?_,rfl⟩; rw [eqc_plus] <;> rfl; done) | (rw [eqc_plus]; exact ⟨rfl,rfl⟩)
  ·exact ⟨by simp only [headP,h3,Bool.false_and],rfl⟩
  refine T.andC (isHex n2||n2==63) ?_ (fun h4=>?_) (fun h4=>?_)
  ·walk_at"B"
   first | (refine ⟨?_,rfl⟩; rw [cs_hexq] <;> rfl; done) | (rw [cs_hexq]; exact ⟨rfl,rfl⟩)
  ·exact ⟨by simp only [headP,h3,h4,Bool.true_and,List.drop_succ_cons,List.drop_zero],rfl⟩
  ·walk_at"B"
   exact ⟨by simp only [headP,h3,h4,Bool.true_and,List.drop_succ_cons,List.drop_zero],rfl⟩
 ·rw [if_pos h] at hs
  rw [Bool.and_eq_true,Bool.and_eq_true] at h
  have htd:t.drop 1=s.drop (p+2):=by rw [← hgd.2.1,List.drop_drop]
  rw [htd] at hs h
  walk_at"B"
  refine S.unpackK ["start","end","pos"] (by repeat constructor) ?_
  walk_at"B"
  refine C38 G hl2 h.2.2 ?_
  walk_at"B"
  refine E.appendK (a:=a) ?_ (by walk_at"d") (.tail _ (.head _))
  walk_at"B"
  refine K19 G ?_
  refine KApd.mk (vs:=cur) (.there .here) (by exact AR.h468 _ _ _ hcl hl hple) ?_
  walk_at"B"
  exact PJ.leaf P hd hs (one_node .range) (by simp) (by exact ar 2 [_,_] (.eq (.a (.a .v0 (.n 2)) .v1) (.a .v0 (.a (.n 2) .v1))) rfl) rfl ht2 ht3
 rw [if_neg (nf h)] at hs
 walk_at"B"
 refine S.ifb ((c::t).take 3==[45,45,62]) ?_ (fun h=>?_) (fun h=>?_)
 ·walk_at"B"
  first | (refine ⟨?_,rfl⟩; rw [show (Str.ofString "-->").cps.toList=[45,45,62] from by decide +kernel,swAt_nat _ _ _ (by simp),hd] <;> rfl; done) | (rw [show (Str.ofString "-->").cps.toList=[45,45,62] from by decide +kernel,swAt_nat _ _ _ (by simp),hd]; exact ⟨rfl,rfl⟩)
 ·rw [if_pos h] at hs
  walk_at"B"
  refine E.appendK (a:=a) ?_ (by walk_at"d") (.tail _ (.head _))
  walk_at"B"
  refine K13 G ?_
  refine KApd.mk (vs:=cur) (.there .here) (by exact AR.h468 _ _ _ hcl hl hple) ?_
  walk_at"B"
  rw [show (Str.ofString "-->").cps.toList=[45,45,62] from by decide +kernel]
  exact PJ.leaf P hd hs (one_node .literal) (by simp) (by exact ar 1 [_] (.eq (.a .v0 (.n 3)) (.a .v0 (.n 3))) rfl) rfl ht2 ht3
 rw [if_neg (nf h)] at hs
 walk_at"B"
 refine S.ifb (identStart (c::t)) ?_ (fun h=>?_) (fun h=>?_)
 ·walk_at"B"
  refine (C33 G hg hl3 ?_).le (by walk_at"m")
  walk_at"B"
  first | (refine ⟨?_,rfl⟩; rw [hd] <;> rfl; done) | (rw [hd]; exact ⟨rfl,rfl⟩)
 ·rw [if_pos h] at hs
  refine (TI G hl P hd hs ht2 ht3).mono ?_
  intro r lo' H' q
  induction r with
  | next=>exact q.elim
  | cont=>exact q
  | brk=>exact q
  | ret v=>exact q
 rw [if_neg (nf h)] at hs
 walk_at"B"
 refine S.unpackK ["end","plain"] (by repeat constructor) ?_
 walk_at"B"
 refine (C29 G hl2 ?_).le (by walk_at"m")
 rw [hd]
 cases hn:numEnd (c::t) with
 | none =>
  rw [hn] at hs
  unfold numV
  walk_at"B"
  refine S.ifF ?_ ?_
  ·walk_at"B"
   exact ⟨rfl,rfl⟩
  refine (TZ G hl P hd hs ht2 ht3).mono ?_
  intro r lo' H' q
  induction r with
  | next=>exact Ss.nil q
  | cont=>exact q
  | brk=>exact q
  | ret v=>exact q
 | some x =>
  obtain ⟨n,pl⟩:=x
  rw [hn] at hs
  unfold numV
  walk_at"B"
  refine S.ifT ?_ ?_
  ·walk_at"B"
   exact ⟨rfl,rfl⟩
  refine (TN G hl P hd hs hn ht2 ht3 rfl rfl).mono ?_
  intro r lo' H' q
  induction r with
  | next=>exact Ss.nil q
  | cont=>exact q
  | brk=>exact q
  | ret v=>exact q
noncomputable def told (s:List Nat):List V:=run (norm s).length (1,1) (norm s) [] none []
set_option maxHeartbeats 4000000 in
set_option tactic.hygienic true in
theorem C31 {w:World} {g:Gx} (G:GG w g) {css:List Nat} {M:Nat} {t1 t2 t3:Option Pos} {Q:V→AH→Prop} (hl:css.length≤600) (hM:cnt (norm css) < M) (ht2:TabOk 5 t2) (ht3:TabOk 6 t3)
  (q:∀ vs t2' t3',NodesT M vs (told css)→vs.length≤999999→TabOk 5 t2'→TabOk 6 t3'→Q (.lst vs) (TabH t1 t2' t3')):Call g 4 (.ref 628) [.str css] (TabH t1 t2 t3) Q:=by
 refine Call.def_ (dv:=[("skip_comments",.bool false)]) (D31 G) rfl ⟨rfl,fun p hp=>?_⟩ ?_
 ·rcases List.mem_cons.mp hp with rfl | hp
  ·exact ⟨_,.head _,fun M=>.bool false⟩
  ·cases hp
 walk_at"n"
 refine Ss.consK ?_
 refine S.assignK ?_ (fun _=>rfl)
 have z1:(Str.ofString "�").length=1:=by decide +kernel
 have z2:(Str.ofString "\n").length=1:=by decide +kernel
 have h1:=repl_len [0] [65533] (by simp) (by simp) _ css (Nat.le_refl _)
 have h2:=repl_len [13,10] [10] (by simp) (by simp) _ (repl [0] [65533] css) (Nat.le_refl _)
 have h3:=repl_len [13] [10] (by simp) (by simp) _ (repl [13,10] [10] (repl [0] [65533] css)) (Nat.le_refl _)
 refine E.replace (by decide +kernel) (E.replace (by decide +kernel) (E.replace (by decide +kernel) (E.replace (by decide +kernel) (E.loc (v:=.str css) (by walk_at"d") (by nofun) ?_))))
 refine ⟨css,rfl,by rw [z1]; exact ar 1 [_] (.im (.le .v0 (.n 600)) (.le (.a .v0 (.r (.a .v0 .n1) 1)) (.n 16777216))) rfl hl,?_⟩
 rw [replace_repl' css _ _ [0] [65533] (by decide +kernel) (by decide +kernel) (by simp)]
 refine ⟨_,rfl,by rw [z2]; exact ar 2 [_,_] (.im (.le .v1 (.n 600)) (.im (.le .v0 .v1) (.le (.a .v0 (.r (.a .v0 .n1) 1)) (.n 16777216)))) rfl hl h1,?_⟩
 rw [replace_repl' _ _ _ [13,10] [10] (by decide +kernel) (by decide +kernel) (by simp)]
 refine ⟨_,rfl,by rw [z2]; exact ar 3 [_,_,_] (.im (.le .v1 (.n 600)) (.im (.le .v0 .v2) (.im (.le .v2 .v1) (.le (.a .v0 (.r (.a .v0 .n1) 1)) (.n 16777216))))) rfl hl h2 h1,?_⟩
 rw [replace_repl' _ _ _ [13] [10] (by decide +kernel) (by decide +kernel) (by simp)]
 refine ⟨_,rfl,by rw [z2]; exact ar 4 [_,_,_,_] (.im (.le .v1 (.n 600)) (.im (.le .v0 .v2) (.im (.le .v3 .v1) (.im (.le .v2 .v3) (.le (.a .v0 (.r (.a .v0 .n1) 1)) (.n 16777216)))))) rfl hl h3 h1 h2,?_⟩
 rw [replace_repl' _ _ _ [12] [10] (by decide +kernel) (by decide +kernel) (by simp)]
 have hnl:=norm_len css
 rw [show repl [12] [10] (repl [13] [10] (repl [13,10] [10] (repl [0] [65533] css)))=norm css from rfl]
 unfold told at q
 generalize norm css=s at hM q hnl
 have hs:s.length≤600:=by exact ar 2 [_,_] (.im (.le .v1 (.n 600)) (.im (.le .v0 .v1) (.le .v0 (.n 600)))) rfl hl hnl
 have hs3:s.length≤1000000:=by exact ar 2 [_,_] (.im (.le .v1 (.n 600)) (.im (.le .v0 .v1) (.le .v0 (.n 1000000)))) rfl hl hnl
 walk_at"B"
 refine E.lstA ?_
 refine Es.nil ?_
 refine ⟨by simp,fun root=>?_⟩
 walk_at"B"
 refine E.lstA ?_
 refine Es.nil ?_
 refine ⟨by simp,fun stk=>?_⟩
 repeat walk_at"g"
 generalize hF:run s.length (1,1) s [] none []=FIN at q
 walk_at"B"
 refine S.mono (S.while_ (Q:=PF s FIN M root stk t1) (J:=PJ s FIN M root stk t1) ?_ s.length ?_) ?_
 ·intro m lo' H' h
  obtain ⟨p,hts,P,ht2,ht3⟩:=h
  refine T.to (decide (p < s.length)) ?_ ?_
  ·walk_at"B"
   exact ⟨rfl,rfl⟩
  walk_at"l"
  ·rename_i h
   have h:=of_decide_eq_true h
   have hd:=drop_cons (List.getElem?_eq_getElem h)
   refine (TA G hs hts P hd ht2 ht3).mono ?_
   intro r lo' H' q
   induction r with
   | next=>exact q
   | cont=>exact q
   | brk=>exact q
   | ret v=>exact q
  ·rename_i h
   have h:¬ p < s.length:=fun x=>h (decide_eq_true x)
   refine Ss.nil ?_
   exact PF.done P (List.drop_eq_nil_iff.mpr (by exact AR.h326 _ _ (Ar.g ‹_›))) ht2 ht3
 ·exact .mk 0 (tsp:=0) (fs:=[]) (Nat.le_refl 0) ⟨Nat.zero_le _,.nil,.nil,rfl,rfl,Nat.zero_le _,Nat.zero_le _,by simpa using hM,⟨s.length,by exact ar 1 [_] (.le (.s .v0 .n0) .v0) rfl,hF⟩,by exact ar 2 [_,_] (.im (.le .v1 (.n 600)) (.im (.le .v0 .v1) (.le .v0 (.n 100000)))) rfl hl hnl⟩ ht2 ht3
 ·rintro r lo' H' ⟨PE,ht2',ht3'⟩
  try dsimp only
  refine Ss.freezeFs _ _ _ PE fun vs hv hvl=>?_
  refine Ss.perm (List.Perm.swap _ _ _) ?_
  refine Ss.freezeH ?_
  walk_at"j"
  refine Ss.freezeH ?_
  walk_at"j"
  walk_at"B"
  exact q vs _ _ hv hvl ht2' ht3'
noncomputable def mend:Bool→List Nat→List Nat
 | _,[]=>[]
 | b,c::t=>if c==0 then 65533::mend false t else if c==13||c==12 then 10::mend (c==13) t else if c != 10||!b then c::mend false t else mend false t
theorem mend_cons (b:Bool) (c:Nat) (t:List Nat):mend b (c::t)=if c==0 then 65533::mend false t else if c==13||c==12 then 10::mend (c==13) t else if c != 10||!b then c::mend false t else mend false t:=rfl
theorem repl_one (a b:Nat):∀ s:List Nat,repl [a] [b] s=s.map fun c=>if c=a then b else c
 | []=>repl_nil _ _
 | c::t=>by
  rw [repl_cons,List.map_cons]
  by_cases h:c=a
  ·subst h
   rw [if_pos (by simp),if_pos rfl]
   show [b]++repl [c] [b] t=_
   rw [repl_one c b t]; rfl
  ·rw [if_neg (by simpa using h),if_neg h,repl_one a b t]
theorem mend_true:∀ t:List Nat,t.head?≠some 10→mend true t=mend false t
 | [],_=>rfl
 | c::t,h=>by
  have h:c≠10:=fun e=>h (by rw [e]; rfl)
  have e:(c != 10)=true:=by simpa using h
  rw [mend_cons,mend_cons,e]; rfl
theorem norm_mend (n:Nat):∀ (s:List Nat),s.length≤n→norm s=mend false s:=by
 have nil:norm []=mend false []:=by unfold norm; simp only [repl_nil]; rfl
 induction n with
 | zero=>intro s h; rw [List.length_eq_zero_iff.mp (Nat.le_zero.mp h)]; exact nil
 | succ n ihn =>
 intro s h
 cases s with
 | nil=>exact nil
 | cons c t =>
  have ht:t.length≤n:=by simpa using h
  have ih:=ihn t ht
  unfold norm at ih ⊢
  simp only [repl_one] at ih ⊢
  rw [List.map_cons]
  by_cases h0:c=0
  ·subst h0
   rw [if_pos rfl,repl_cons,if_neg (by simp),List.map_cons,List.map_cons,ih]
   rfl
  rw [if_neg h0]
  by_cases h13:c=13
  ·subst h13
   cases t with
   | nil =>
    rw [List.map_nil,repl_cons,if_neg (by simp),repl_nil]
    rfl
   | cons d u =>
    by_cases hd:d=10
    ·subst hd
     have ih2:=ihn u (by simp at ht; exact ar 2 [_,_] (.im (.le (.a .v0 .n1) .v1) (.le .v0 .v1)) rfl ht)
     unfold norm at ih2
     simp only [repl_one] at ih2
     rw [List.map_cons,repl_cons,if_pos (by rfl)]
     show List.map _ (List.map _ ([10]++repl [13,10] [10] (List.map _ u)))=_
     rw [List.map_append,List.map_append,ih2]
     rfl
    ·rw [repl_cons,if_neg (by
      rw [List.map_cons]
      show ¬ ([13,if d=0 then 65533 else d]:List Nat)=[13,10]
      intro e
      have:(if d=0 then 65533 else d)=10:=by simpa using e
      split at this <;> (first | exact ar 0 [] (.im (.eq (.n 65533) (.n 10)) .ff) rfl this | exact ar 1 [_] (.im (.eq .v0 (.n 10)) (.im (.nt (.eq .v0 (.n 10))) .ff)) rfl this hd)),List.map_cons,List.map_cons,ih]
     rw [show mend false (13::d::u)=10::mend true (d::u) from rfl,mend_true _ (by simpa using hd)]
     rfl
  ·rw [repl_cons,if_neg (by
    intro e
    have:=congrArg (List.head? ·) e
    simp at this
    exact h13 this),List.map_cons,List.map_cons,ih,if_neg h13,mend_cons]
   have e0:(c==0)=false:=beq_eq_false_iff_ne.mpr h0
   have e13:(c==13)=false:=beq_eq_false_iff_ne.mpr h13
   rw [e0,e13]
   by_cases h12:c=12
   ·subst h12; rfl
   ·rw [if_neg h12]
    have e12:(c==12)=false:=beq_eq_false_iff_ne.mpr h12
    rw [e12]
    simp
theorem norm_eq (s:List Nat):norm s=mend false s:=norm_mend _ s (Nat.le_refl _)
theorem chr128 {P:Nat→Bool} (h:(List.range 128).all P=true) {c:Nat} (hc:c < 128):P c=true:=List.all_eq_true.mp h c (List.mem_range.mpr hc)
theorem imp_of {a b:Bool} (h:(!a||b)=true) (ha:a=true):b=true:=by rw [ha] at h; exact h
theorem hex128 {c:Nat} (h:isHex c=true):c < 128:=by
 rcases isHex_iff.mp h with h | h | h <;> exact Nat.lt_of_le_of_lt h.2 (by decide)
theorem ne_of {p:Nat→Bool} {c d:Nat} (h:p c=true) (k:p d=false):c≠d:=fun e=>by rw [e,k] at h; exact nomatch h
theorem hex_tab {p:Nat→Bool} (h:(List.range 128).all (fun c=>!isHex c||p c)=true) {c:Nat} (hc:isHex c=true):p c=true:=imp_of (chr128 h (hex128 hc)) hc
section
variable {p:Nat→Bool} {c:Nat} {l:List Nat}
end
theorem ident_nm {c:Nat} {r:List Nat} (h:isNm c=true):ident (c::r)=(c::(ident r).1,(ident r).2+1):=by rw [ident_cons,if_pos h]
theorem ident_esc {r:List Nat} (h:r.take 1≠[10]):ident (92::r)=((esc r).1::(ident (r.drop (esc r).2)).1,(ident (r.drop (esc r).2)).2+(esc r).2+1):=by
 rw [ident_cons,if_neg (by decide),if_pos]
 unfold escOk
 cases r with
 | nil=>rfl
 | cons c t =>
  simp at h ⊢
  exact h
theorem hexRun_not {c:Nat} {r:List Nat} (h:isHex c=false):hexRun (c::r)=[]:=by
 unfold hexRun
 rw [List.take_succ_cons,List.takeWhile_cons,if_neg (nf h)]
theorem hexRun_two {a b:Nat} {r:List Nat} (h:isHex a=true) (h':isHex b=true):hexRun (a::b::32::r)=[a,b]:=by
 unfold hexRun
 rw [List.take_succ_cons,List.takeWhile_cons,if_pos h,List.take_succ_cons,List.takeWhile_cons,if_pos h',List.take_succ_cons,List.takeWhile_cons,if_neg (by decide)]
theorem esc_plain {c:Nat} {r:List Nat} (h:isHex c=false):esc (c::r)=(c,1):=by
 unfold esc; rw [hexRun_not h,if_pos rfl]
theorem esc_two {a b n:Nat} {r:List Nat} (h:isHex a=true) (h':isHex b=true) (hn:hexVal [a,b]=n) (h0:0 < n) (h1:n≤1114111):esc (a::b::32::r)=(n,3):=by
 unfold esc; rw [hexRun_two h h',if_neg (by simp),hn,if_pos ⟨h0,h1⟩]; rfl
section
variable {p:Nat→Bool} {c:Nat} {l:List Nat}
end
section
set_option genInjectivity false
set_option genSizeOf false
noncomputable def KINDS:List V:=["ident","at-keyword","string","url","whitespace","literal","comment"].map fun x=>V.str (lit x)
noncomputable def rowV:V→V
 | .tup [pl,k,.str v,.none]=>.tup [k,pl,.str v]
 | .tup [pl,k,.str v,.bool b]=>.tup [k,pl,.tup [.str v,.bool b]]
 | .tup [pl,k,.str u,.tup [.str rp,iv]]=>.tup [k,pl,.tup [.str rp,iv,.str u]]
 | .tup [pl,k,.str v,.lst ts]=>.tup [k,pl,.tup [.str v,.int (ts.length:Int)]]
 | _=>.none
inductive NB:V→Prop
 | leaf {pl:V} {x v:List Nat} (h:KINDS.any (eqStr x)=true):NB (.tup [pl,.str x,.str v,.none])
 | hash {pl:V} {v:List Nat} {b:Bool}:NB (.tup [pl,.str (lit "hash"),.str v,.bool b])
 | dim {pl iv:V} {u rp:List Nat} (h:iv=.none∨∃ z,iv=.int z):NB (.tup [pl,.str (lit "dimension"),.str u,.tup [.str rp,iv]])
 | func {pl:V} {v:List Nat} {ts:List V}:NB (.tup [pl,.str (lit "function"),.str v,.lst ts])
theorem NB.intN {p k d:V} {a:Int} (h:NB (.tup [p,k,.int a,d])):False:=by cases h
theorem NB.noneN {p k d:V} (h:NB (.tup [p,k,.none,d])):False:=by cases h
theorem NB.dimE {p k iv:V} {u rp:List Nat} (h:NB (.tup [p,k,.str u,.tup [.str rp,iv]])):iv=.none∨∃ z,iv=.int z:=by cases h; assumption
theorem NB.leafE {p:V} {x:String} {v:List Nat} (h:NB (leafT p x v)):KINDS.any (eqStr (lit x))=true:=by
 unfold leafT at h
 generalize lit x=y at h
 cases h; assumption
noncomputable def toldB:List Stmt:=ifB (withB (bodyAt 57))
theorem told_end {w:World} {g:Gx} (G:GG w g) {d:Nat} {C:Addr} {vs:List V} {x:List Nat} {l c:Int} {il ic:Nat} {nv tv:V} {a:Addr} {ts:List V} {H:AH} {Q:R→Loc→AH→Prop} (hl:ts.length≤1000000) (h1:slotAt g.K C "source_line"=some il) (h2:vs[il]?=some (.int l)) (h3:slotAt g.K C "source_column"=some ic) (h4:vs[ic]?=some (.int c)) (htv:tv≠.unset)
  (q:Q .next [("nodes",nv),("rows",.ref a),("node",.obj C vs),("kind",.str x),("told",tv)] ((a,.lst (ts++[.tup [.str x,plV l c,tv]]))::H)):Ss g Γ57 d (toldB.drop 2) [("nodes",nv),("rows",.ref a),("node",.obj C vs),("kind",.str x),("told",tv)] ((a,.lst ts)::H) Q:=by
 refine Ss.consK ?_
 walk_at"B"
 refine E.appendH (by walk_at"d") hl ?_
 walk_at"B"
 refine E.attrS (i:=il) ?_ (by walk_at"d") h1 h2 rfl
 walk_at"B"
 refine E.attrS (i:=ic) ?_ (by walk_at"d") h3 h4 rfl
 walk_at"B"
 refine ⟨rfl,?_⟩
 walk_at"B"
 exact q
theorem told_leaf {w:World} {g:Gx} (G:GG w g) {d:Nat} {C:Addr} {vs:List V} {x:String} {y:Value} {v:List Nat} {l c:Int} {il ic i:Nat} {nv kv pv:V} {a:Addr} {ts:List V} {H:AH} {Q:R→Loc→AH→Prop} (hl:ts.length≤1000000) (hk:KINDS.any (eqStr (lit x))=true) (ht:clsAtN g.K C "type"=some y) (hy:∀ M,Is M y (.str (lit x))) (h1:slotAt g.K C "source_line"=some il) (h2:vs[il]?=some (.int l)) (h3:slotAt g.K C "source_column"=some ic) (h4:vs[ic]?=some (.int c)) (h5:slotAt g.K C "value"=some i) (h6:vs[i]?=some (.str v))
  (q:∀ kv' tv',Q .next [("nodes",nv),("rows",.ref a),("node",.obj C vs),("kind",kv'),("told",tv')] ((a,.lst (ts++[rowV (leafT (plV l c) x v)]))::H)):Ss g Γ57 d toldB [("nodes",nv),("rows",.ref a),("node",.obj C vs),("kind",kv),("told",pv)] ((a,.lst ts)::H) Q:=by
 refine Ss.consK (S.assignK ?_ (fun _=>rfl))
 refine E.attrT (v:=.str (lit x)) ?_ (by walk_at"d") ht hy
 refine pk3 ?_
 have e0:∀ z,KINDS.any (eqStr z)=true→(z==lit "function")=false∧(z==lit "hash")=false∧(z==lit "dimension")=false:=fun z hz=>by
  refine ⟨?_,?_,?_⟩ <;> (refine beq_eq_false_iff_ne.mpr fun e=>?_; subst e; revert hz; decide +kernel)
 obtain ⟨e1,e2,e3⟩:=e0 _ hk
 refine Ss.consK ?_
 refine S.ifF ?_ (Ss.consK ?_)
 ·walk_at"B"
  exact ⟨e1,rfl⟩
 refine S.ifF ?_ (Ss.consK ?_)
 ·walk_at"B"
  exact ⟨e2,rfl⟩
 refine S.ifF ?_ (Ss.consK ?_)
 ·walk_at"B"
  exact ⟨e3,rfl⟩
 refine S.ifT ?_ (Ss.consK ?_)
 ·walk_at"B"
  refine E.lst ?_
  walk_at"B"
  refine ⟨by decide,?_⟩
  refine CmpM.by (CmpR.lin _ rfl) ?_
  exact ⟨hk,rfl⟩
 refine S.assignK ?_ (fun _=>rfl)
 refine E.attrS (i:=i) ?_ (by walk_at"d") h5 h6 rfl
 refine pk4 ?_
 iterate 4 (refine Ss.nil ?_)
 exact told_end G hl h1 h2 h3 h4 (by nofun) (q _ _)
theorem told_head {w:World} {g:Gx} (G:GG w g) {d:Nat} {C:Addr} {vs:List V} {x:List Nat} {y:Value} {nv kv pv:V} {a:Addr} {H:AH} {Q:R→Loc→AH→Prop} (ht:clsAtN g.K C "type"=some y) (hy:∀ M,Is M y (.str x))
  (q:Ss g Γ57 d (toldB.drop 1) [("nodes",nv),("rows",.ref a),("node",.obj C vs),("kind",.str x),("told",pv)] H Q):Ss g Γ57 d toldB [("nodes",nv),("rows",.ref a),("node",.obj C vs),("kind",kv),("told",pv)] H Q:=by
 refine Ss.consK (S.assignK ?_ (fun _=>rfl))
 refine E.attrT (v:=.str x) ?_ (by walk_at"d") ht hy
 exact pk3 q
theorem BT {w:World} {g:Gx} (G:GG w g) {d n:Nat} {v t:V} (h:NodeT n v t) (hb:NB t) {nv kv pv:V} {a:Addr} {ts:List V} {H:AH} (hl:ts.length≤1000000) {Q:R→Loc→AH→Prop}
  (q:∀ kv' pv',Q .next [("nodes",nv),("rows",.ref a),("node",v),("kind",kv'),("told",pv')] ((a,.lst (ts++[rowV t]))::H)) :
  Ss g Γ57 d toldB [("nodes",nv),("rows",.ref a),("node",v),("kind",kv),("told",pv)] ((a,.lst ts)::H) Q:=by
 induction h using NodeT.casesOn with
 | error=>exact absurd hb.leafE (by decide +kernel)
 | comment=>exact told_leaf G hl (by decide +kernel) (G.hK.typ 1 rfl) (fun M=>.str _ _ rfl) (G.hK.slot 23 rfl) rfl (G.hK.slot 24 rfl) rfl (G.hK.slot 1 rfl) rfl q
 | white=>exact told_leaf G hl (by decide +kernel) (G.hK.typ 2 rfl) (fun M=>.str _ _ rfl) (G.hK.slot 25 rfl) rfl (G.hK.slot 26 rfl) rfl (G.hK.slot 2 rfl) rfl q
 | literal=>exact told_leaf G hl (by decide +kernel) (G.hK.typ 3 rfl) (fun M=>.str _ _ rfl) (G.hK.slot 27 rfl) rfl (G.hK.slot 28 rfl) rfl (G.hK.slot 3 rfl) rfl q
 | ident=>exact told_leaf G hl (by decide +kernel) (G.hK.typ 4 rfl) (fun M=>.str _ _ rfl) (G.hK.slot 29 rfl) rfl (G.hK.slot 30 rfl) rfl (G.hK.slot 4 rfl) rfl q
 | atk=>exact told_leaf G hl (by decide +kernel) (G.hK.typ 5 rfl) (fun M=>.str _ _ rfl) (G.hK.slot 31 rfl) rfl (G.hK.slot 32 rfl) rfl (G.hK.slot 5 rfl) rfl q
 | hash =>
  refine told_head G (G.hK.typ 6 rfl) (fun M=>.str _ _ rfl) ?_
  refine Ss.consK (S.ifF ?_ (Ss.consK ?_))
  ·walk_at"B"
   exact ⟨by decide +kernel,rfl⟩
  refine S.ifT ?_ (Ss.consK ?_)
  ·walk_at"B"
   exact ⟨by decide +kernel,rfl⟩
  refine S.assignK ?_ (fun _=>rfl)
  walk_at"B"
  refine E.attrS (i:=1) ?_ (by walk_at"d") (G.hK.slot 6 rfl) rfl (by first | rfl | assumption)
  walk_at"B"
  refine E.attrS (i:=0) ?_ (by walk_at"d") (G.hK.slot 7 rfl) rfl (by first | rfl | assumption)
  walk_at"b"
  walk_at"b"
  refine pk4 ?_
  iterate 2 (refine Ss.nil ?_)
  exact told_end G hl (G.hK.slot 33 rfl) rfl (G.hK.slot 34 rfl) rfl (by nofun) (q _ _)
 | string=>exact told_leaf G hl (by decide +kernel) (G.hK.typ 7 rfl) (fun M=>.str _ _ rfl) (G.hK.slot 35 rfl) rfl (G.hK.slot 36 rfl) rfl (G.hK.slot 8 rfl) rfl q
 | url=>exact told_leaf G hl (by decide +kernel) (G.hK.typ 8 rfl) (fun M=>.str _ _ rfl) (G.hK.slot 37 rfl) rfl (G.hK.slot 38 rfl) rfl (G.hK.slot 9 rfl) rfl q
 | range=>exact hb.intN.elim
 | number=>exact absurd hb.leafE (by decide +kernel)
 | percent=>exact absurd hb.leafE (by decide +kernel)
 | @dim _ v rp u lu iv ii c l =>
  have hp:iv.plain=true:=by rcases hb.dimE with rfl | ⟨z,rfl⟩ <;> rfl
  refine told_head G (G.hK.typ 12 rfl) (fun M=>.str _ _ rfl) ?_
  refine Ss.consK (S.ifF ?_ (Ss.consK ?_))
  ·walk_at"B"
   exact ⟨by decide +kernel,rfl⟩
  refine S.ifF ?_ (Ss.consK ?_)
  ·walk_at"B"
   exact ⟨by decide +kernel,rfl⟩
  refine S.ifT ?_ (Ss.consK ?_)
  ·walk_at"B"
   exact ⟨by decide +kernel,rfl⟩
  refine S.assignK ?_ (fun _=>rfl)
  walk_at"B"
  refine E.attrS (i:=3) ?_ (by walk_at"d") (G.hK.slot 15 rfl) rfl (by first | rfl | assumption)
  walk_at"B"
  refine E.attrS (i:=0) ?_ (by walk_at"d") (G.hK.slot 55 rfl) rfl (by first | rfl | assumption)
  walk_at"B"
  refine E.attrS (i:=4) ?_ (by walk_at"d") (G.hK.slot 14 rfl) rfl (by first | rfl | assumption)
  walk_at"b"
  walk_at"b"
  refine pk4 ?_
  iterate 3 (refine Ss.nil ?_)
  exact told_end G hl (G.hK.slot 45 rfl) rfl (G.hK.slot 46 rfl) rfl (by nofun) (q _ _)
 | paren=>exact hb.noneN.elim
 | square=>exact hb.noneN.elim
 | curly=>exact hb.noneN.elim
 | func hn hm =>
  have hlen:=hn.len
  refine told_head G (G.hK.typ 16 rfl) (fun M=>.str _ _ rfl) ?_
  refine Ss.consK (S.ifT ?_ (Ss.consK ?_))
  ·walk_at"B"
   exact ⟨by decide +kernel,rfl⟩
  refine S.assignK ?_ (fun _=>rfl)
  walk_at"B"
  refine E.attrS (i:=2) ?_ (by walk_at"d") (G.hK.slot 19 rfl) rfl (by first | rfl | assumption)
  walk_at"B"
  refine E.attrS (i:=0) ?_ (by walk_at"d") (G.hK.slot 20 rfl) rfl (by first | rfl | assumption)
  walk_at"B"
  refine CB.len_lst (Nat.lt_of_le_of_lt hm (by decide)) ?_
  walk_at"b"
  walk_at"b"
  refine pk4 ?_
  iterate 1 (refine Ss.nil ?_)
  rw [hlen]
  exact told_end G hl (G.hK.slot 53 rfl) rfl (G.hK.slot 54 rfl) rfl (by nofun) (q _ _)
inductive JN (vs ts:List V) (n:Nat) (a:Addr) (H:AH):List V→Loc→AH→Prop
 | mk (nv kv pv:V) (td tr rest:List V) (ht:ts=td++tr) (hr:NodesT n rest tr):JN vs ts n a H rest [("nodes",.lst vs),("rows",.ref a),("node",nv),("kind",kv),("told",pv)] ((a,.lst (td.map rowV))::H)
theorem C57 {w:World} {g:Gx} (G:GG w g) {n:Nat} {vs ts:List V} (h:NodesT n vs ts) (hb:∀ t∈ts,NB t) (hl:vs.length≤1000000) {H:AH} {Q:V→AH→Prop} (q:Q (.lst (ts.map rowV)) H):Call g 1 (.ref 797) [.lst vs] H Q:=by
  refine Call.def_ (dv:=[]) (D57 G) rfl ⟨rfl,fun _ h=>nomatch h⟩ ?_
  walk_at"n"
  refine Ss.consK ?_
  refine S.assignK ?_ (fun _=>rfl)
  refine E.lstA ?_
  refine Es.nil ?_
  refine ⟨by simp,fun a=>?_⟩
  repeat walk_at"g"
  refine Ss.consK ?_
  have hl':ts.length≤1000000:=h.len ▸ hl
  refine S.for_ ?_
  walk_at"B"
  refine ⟨vs,rfl,JN vs ts n a H,.mk .unset .unset .unset [] ts vs rfl h,?_,?_⟩
  ·intro v rest lo' H' J
   generalize hv:v::rest=vr at J
   induction J with
   | mk nv kv pv td tr rest' ht hr =>
    subst hv
    cases hr with
    | @cons _ _ t _ tr hn hr =>
     repeat walk_at"g"
     refine BT G hn (hb _ (by rw [ht]; simp)) (by rw [List.length_map]; rw [ht,List.length_append] at hl'; exact Nat.le_trans (Nat.le_add_right _ _) hl') fun kv' pv'=>?_
     rw [show List.map rowV td++[rowV t]=(td++[t]).map rowV by rw [List.map_append]; rfl]
     exact .mk _ _ _ (td++[t]) tr rest (by rw [ht,List.append_assoc]; rfl) hr
  ·intro lo' H' J
   generalize hv:[]=vr at J
   induction J with
   | mk nv kv pv td tr rest' ht hr =>
    subst hv
    cases hr
    rw [List.append_nil] at ht
    subst ht
    refine Ss.nil ?_
    refine Ss.freezeH ?_
    walk_at"j"
    walk_at"B"
    exact q
end
noncomputable def ENDS:List (List Nat):=[lit "\n",lit "\r",lit "\x0c",lit "\r\n"]
noncomputable def BLANKS:List (List Nat):=[lit " ",lit "\t",lit "\n",lit "\r",lit "\x0c"]
noncomputable def TAILS:List (List Nat):=[lit "",lit " ",lit "\t",lit "\n",lit "\r",lit "\r\n",lit "\x0c"]
noncomputable def PADS:List (List Nat):=[lit "",lit " ",lit "\n\t",lit "\r\n"]
noncomputable def HEADS:List (List Nat):=[lit "url(",lit "URL(",lit "\\75 rl(",lit "u\\R\\00006c("]
noncomputable def SIZES:List (List Nat × V):=[(lit "1",.int 1),(lit "-20",.int (-20)),(lit "+3",.int 3),(lit ".5",.none),(lit "4e2",.none),(lit "0",.int 0)]
noncomputable def sizV (p:List Nat × V):V:=.tup [.str p.1,p.2]
noncomputable def BETW:List (List Nat × List Nat × List Nat):=[(lit " ",lit "whitespace",lit " "),(lit ",",lit "literal",lit ","),(lit "\r\n",lit "whitespace",lit "\n"),(lit "/**/",lit "comment",lit ""),(lit ";",lit "literal",lit ";"),(lit "\x0c\t",lit "whitespace",lit "\n\t")]
noncomputable def betV (p:List Nat × List Nat × List Nat):V:=.tup [.str p.1,.str p.2.1,.str p.2.2]
theorem C40 {w:World} {g:Gx} (G:GG w g) {H:AH} {Q:V→AH→Prop} (q:Q (.lst (ENDS.map V.str)) H):Call g 1 (.ref 685) [] H Q:=by
 refine Call.def_ (dv:=[]) (D40 G) rfl ⟨rfl,fun _ h=>nomatch h⟩ ?_
 walk_at"n"
 refine Ss.consK ?_
 refine S.retK ?_
 refine E.lst ?_
 walk_at"B"
 refine ⟨by decide,?_⟩
 exact q
theorem C41 {w:World} {g:Gx} (G:GG w g) {H:AH} {Q:V→AH→Prop} (q:Q (.lst (BLANKS.map V.str)) H):Call g 1 (.ref 692) [] H Q:=by
 refine Call.def_ (dv:=[]) (D41 G) rfl ⟨rfl,fun _ h=>nomatch h⟩ ?_
 walk_at"n"
 refine Ss.consK ?_
 refine S.retK ?_
 refine E.lst ?_
 walk_at"B"
 refine ⟨by decide,?_⟩
 exact q
theorem C42 {w:World} {g:Gx} (G:GG w g) {H:AH} {Q:V→AH→Prop} (q:Q (.lst (TAILS.map V.str)) H):Call g 1 (.ref 699) [] H Q:=by
 refine Call.def_ (dv:=[]) (D42 G) rfl ⟨rfl,fun _ h=>nomatch h⟩ ?_
 walk_at"n"
 refine Ss.consK ?_
 refine S.retK ?_
 refine E.lst ?_
 walk_at"B"
 refine ⟨by decide,?_⟩
 exact q
theorem C44 {w:World} {g:Gx} (G:GG w g) {H:AH} {Q:V→AH→Prop} (q:Q (.lst (SIZES.map sizV)) H):Call g 1 (.ref 706) [] H Q:=by
 refine Call.def_ (dv:=[]) (D44 G) rfl ⟨rfl,fun _ h=>nomatch h⟩ ?_
 walk_at"n"
 refine Ss.consK ?_
 refine S.retK ?_
 refine E.lst ?_
 walk_at"B"
 refine ⟨by decide,?_⟩
 exact q
theorem C45 {w:World} {g:Gx} (G:GG w g) {H:AH} {Q:V→AH→Prop} (q:Q (.lst (PADS.map V.str)) H):Call g 1 (.ref 713) [] H Q:=by
 refine Call.def_ (dv:=[]) (D45 G) rfl ⟨rfl,fun _ h=>nomatch h⟩ ?_
 walk_at"n"
 refine Ss.consK ?_
 refine S.retK ?_
 refine E.lst ?_
 walk_at"B"
 refine ⟨by decide,?_⟩
 exact q
theorem C46 {w:World} {g:Gx} (G:GG w g) {H:AH} {Q:V→AH→Prop} (q:Q (.lst (HEADS.map V.str)) H):Call g 1 (.ref 720) [] H Q:=by
 refine Call.def_ (dv:=[]) (D46 G) rfl ⟨rfl,fun _ h=>nomatch h⟩ ?_
 walk_at"n"
 refine Ss.consK ?_
 refine S.retK ?_
 refine E.lst ?_
 walk_at"B"
 refine ⟨by decide,?_⟩
 exact q
theorem C47 {w:World} {g:Gx} (G:GG w g) {H:AH} {Q:V→AH→Prop} (q:Q (.lst (BETW.map betV)) H):Call g 1 (.ref 727) [] H Q:=by
 refine Call.def_ (dv:=[]) (D47 G) rfl ⟨rfl,fun _ h=>nomatch h⟩ ?_
 walk_at"n"
 refine Ss.consK ?_
 refine S.retK ?_
 refine E.lst ?_
 walk_at"B"
 refine ⟨by decide,?_⟩
 exact q
theorem MUpd.self {a:Addr} {x x':MO} {H H':AH} (h:MUpd a x x' H H'):MUpd a x x H H:=by
 induction h with
 | here=>exact .here
 | there _ ih=>exact .there ih
theorem MUpd.same {a:Addr} {x:MO} {H H':AH} (h:MUpd a x x H H'):H'=H:=by
 induction h with
 | here=>rfl
 | there _ ih=>rw [ih]
noncomputable def vN (n:Nat):V:=.int (n:Int)
theorem C48 {w:World} {g:Gx} (G:GG w g) {a:Addr} {t:List Nat} {H H':AH} {Q:V→AH→Prop} (hl:t.length≤1000) (hu:MUpd a (.lst (t.map vN)) (.lst (t.tail.map vN)) H H') (q:Q (.int ((t.headD 0:Nat):Int)) H'):Call g 1 (.ref 734) [.ref a] H Q:=by
 refine Call.def_ (dv:=[]) (D48 G) rfl ⟨rfl,fun _ h=>nomatch h⟩ ?_
 walk_at"n"
 refine Ss.consK ?_
 refine S.retK ?_
 refine E.ifeb (!t.isEmpty) ?_ (fun h=>?_) (fun h=>?_)
 ·refine T.liveE (E.loc (v:=.ref a) (by walk_at"d") (by nofun) ⟨a,_,rfl,hu.self,by rw [List.length_map]; exact ar 1 [_] (.im (.le .v0 (.n 1000)) (.le .v0 (.n 1000000))) rfl hl,?_⟩)
  exact ⟨by cases t <;> rfl,rfl⟩
 ·cases t with
  | nil=>cases h
  | cons n t=>exact E.pop0 (E.loc (v:=.ref a) (by walk_at"d") (by nofun) ⟨a,_,_,_,rfl,hu,by rw [List.length_map]; simp at hl; exact ar 1 [_] (.im (.le .v0 (.n 999)) (.le .v0 (.n 1000000))) rfl hl,q⟩)
 ·cases t with
  | cons n t=>cases h
  | nil =>
   have e:=hu.same
   subst e
   exact E.int q
theorem lt_one (a b:Nat):decide (([a]:List Nat) < [b])=decide (a < b):=by
 refine decide_eq_decide.mpr ?_
 rw [List.cons_lt_cons_iff]
 simp
theorem T.orB {g:Gx} {Γ:Fx} {d:Nat} {lo:Loc} {H:AH} {x:Expr} {r:List Expr} {pos:Pos} {Q:Bool→AH→Prop} (b:Bool) (hx:T g Γ d x lo H (IsT b H)) (h:b=true→Q true H) (h':b=false→T g Γ d (.BoolOp .Or r pos) lo H Q):T g Γ d (.BoolOp .Or (x::r) pos) lo H Q:=by
 cases b with
 | true=>exact T.orT hx (h rfl)
 | false=>exact T.orF hx (h' rfl)
theorem T.ors {g:Gx} {Γ:Fx} {d:Nat} {lo:Loc} {H:AH} {x:Expr} {r:List Expr} {pos:Pos} {b b' bb:Bool} (hb:(b||b')=bb) (hx:T g Γ d x lo H (IsT b H)) (h':T g Γ d (.BoolOp .Or r pos) lo H (IsT b' H)):T g Γ d (.BoolOp .Or (x::r) pos) lo H (IsT bb H):=by
 subst hb
 refine T.orB b hx (fun e=>⟨by rw [e]; rfl,rfl⟩) fun e=>?_
 rw [e,Bool.false_or]; exact h'
theorem T.ors0 {g:Gx} {Γ:Fx} {d:Nat} {lo:Loc} {H:AH} {pos:Pos}:T g Γ d (.BoolOp .Or [] pos) lo H (IsT false H):=T.or0 ⟨rfl,rfl⟩
theorem T.span {g:Gx} {Γ:Fx} {d:Nat} {lo:Loc} {H:AH} {x a z:Str} {k1 k2:Nat} {p1 p2 p3 pos:Pos} {c m n:Nat} (hm:(x,V.str [c])∈lo) (ha:a.cps.toList=[m]) (hz:z.cps.toList=[n]) :
  T g Γ d (.Compare (.Constant (.str a) k1 p1) [.LtE,.LtE] [.Name x p2,.Constant (.str z) k2 p3] pos) lo H (IsT (decide (m≤c)&&decide (c≤n)) H):=by
 refine T.chainK ?_ rfl
 refine E.str ?_
 refine E.loc hm (by nofun) ?_
 refine ⟨_,.sle _ _,?_⟩
 rw [ha,lt_one]
 by_cases h:m≤c
 ·rw [decide_eq_false (Nat.not_lt.mpr h),decide_eq_true h]
  refine E.str ⟨_,.sle _ _,?_⟩
  rw [hz,lt_one]
  refine ⟨?_,rfl⟩
  by_cases h2:c≤n
  ·rw [decide_eq_false (Nat.not_lt.mpr h2),decide_eq_true h2]; rfl
  ·rw [decide_eq_true (Nat.lt_of_not_le h2),decide_eq_false h2]; rfl
 ·rw [decide_eq_true (Nat.lt_of_not_le h),decide_eq_false h]
  exact ⟨rfl,rfl⟩
noncomputable def partF (c:Nat):List Nat:=if isNS c then lit "start" else if isDig c then lit "figure" else if c==45 then lit "hyphen" else lit "other"
theorem C51 {w:World} {g:Gx} (G:GG w g) {H:AH} {c:Nat} {Q:V→AH→Prop} (q:Q (.str (partF c)) H):Call g 1 (.ref 755) [.str [c]] H Q:=by
 refine Call.def_ (dv:=[]) (D51 G) rfl ⟨rfl,fun _ h=>nomatch h⟩ ?_
 walk_at"n"
 unfold partF at q
 refine Ss.consK ?_
 refine S.ifb (isNS c) ?_ (fun h=>?_) (fun h=>?_)
 ·refine T.ors (b:=decide (127 < c)) (b':=(c==95||(isLow c||(isUp c||false)))) ?_ ?_ (T.ors rfl ?_ (T.ors rfl (T.span (by walk_at"d") (by decide +kernel) (by decide +kernel)) (T.ors rfl (T.span (by walk_at"d") (by decide +kernel) (by decide +kernel)) T.ors0)))
  ·unfold isNS
   simp only [gt_iff_lt,Bool.or_false]
   cases decide (127 < c) <;> cases (c==95) <;> cases isLow c <;> cases isUp c <;> rfl
  ·walk_at"B"
   refine ⟨?_,rfl⟩
   rw [show (Str.ofString "\x7f").cps.toList=[127] by decide +kernel]
   exact lt_one 127 c
  ·walk_at"B"
   rw [eqc_us]
   exact ⟨rfl,rfl⟩
 ·rw [if_pos h] at q
  walk_at"B"
  exact q
 rw [if_neg (nf h)] at q
 walk_at"B"
 refine S.ifb (isDig c) (T.span (by walk_at"d") (by decide +kernel) (by decide +kernel)) (fun h=>?_) (fun h=>?_)
 ·rw [if_pos h] at q
  walk_at"B"
  exact q
 rw [if_neg (nf h)] at q
 walk_at"B"
 refine E.ifeb (c==45) ?_ (fun h=>?_) (fun h=>?_)
 ·walk_at"B"
  rw [eqc_dash]
  exact ⟨rfl,rfl⟩
 ·rw [if_pos h] at q
  walk_at"B"
  exact q
 ·rw [if_neg (nf h)] at q
  walk_at"B"
  exact q
noncomputable def st1:List Nat→Bool
 | []=>false
 | c::_=>c==92||isNS c
noncomputable def startsF (t:List Nat):Bool:=if t.take 1==[45] then (if (t.drop 1).take 1==[45] then true else st1 (t.drop 1)) else st1 t
theorem lit_dash:(Str.ofString "-").cps.toList=[45]:=by decide +kernel
theorem slc_t1 (s:List Nat):slc s none (some 1)=s.take 1:=slc_to (a:=1)
theorem slc_f1 (s:List Nat):slc s (some 1) none=s.drop 1:=slc_from (a:=1)
theorem part_start (c:Nat):(partF c==lit "start")=isNS c:=by
 unfold partF
 have e1:(lit "start"==lit "start")=true:=by decide +kernel
 have e2:(lit "figure"==lit "start")=false:=by decide +kernel
 have e3:(lit "hyphen"==lit "start")=false:=by decide +kernel
 have e4:(lit "other"==lit "start")=false:=by decide +kernel
 cases isNS c
 ·rw [if_neg bn]
  split
  ·exact e2
  ·split
   ·exact e3
   ·exact e4
 ·rw [if_pos rfl]; exact e1
theorem C52 {w:World} {g:Gx} (G:GG w g) {H:AH} {t:List Nat} {Q:V→AH→Prop} (hl:t.length≤1000000) (q:Q (.bool (startsF t)) H):Call g 2 (.ref 762) [.str t] H Q:=by
 have last:∀ (u:List Nat),u.length≤1000000→Q (.bool (st1 u)) H→Ss g Γ52 1 ((bodyAt 52).drop 1) [("text",.str u)] H (KDef Q):=fun u hu q=>by
  refine Ss.consK ?_
  refine S.ifb (u==[]) ?_ (fun h=>?_) (fun h=>?_)
  ·walk_at"B"
   rw [lit_nil]
   exact ⟨rfl,rfl⟩
  ·have e:=eq_of_beq h
   subst e
   walk_at"B"
   exact q
  cases u with
  | nil=>cases h
  | cons c v =>
   have q:Q (.bool (c==92||isNS c)) H:=q
   walk_at"B"
   refine E.or2b (c==92) ?_ (fun h=>?_) (fun h=>?_)
   ·walk_at"B"
    refine sub_strA (i:=0) (n:=c) ?_ rfl (by assumption)
    walk_at"B"
    rw [eqc_bs]
    exact ⟨rfl,rfl⟩
   ·rw [h,Bool.true_or] at q
    exact q
   ·rw [h,Bool.false_or] at q
    walk_at"B"
    refine sub_strA (i:=0) (n:=c) ?_ rfl (by assumption)
    walk_at"B"
    refine (C51 G ?_).le (by walk_at"m")
    walk_at"B"
    rw [show (partF c==(Str.ofString "start").cps.toList)=isNS c from part_start c]
    exact q
 refine Call.def_ (dv:=[]) (D52 G) rfl ⟨rfl,fun _ h=>nomatch h⟩ ?_
 walk_at"n"
 unfold startsF at q
 refine Ss.consK ?_
 refine S.ifb (t.take 1==[45]) ?_ (fun h=>?_) (fun h=>?_)
 ·walk_at"B"
  rw [slc_t1]
  walk_at"B"
  rw [lit_dash]
  exact ⟨rfl,rfl⟩
 ·rw [if_pos h] at q
  have hd:(t.drop 1).length≤1000000:=by rw [List.length_drop]; exact ar 1 [_] (.im (.le .v0 (.n 1000000)) (.le (.s .v0 .n1) (.n 1000000))) rfl hl
  walk_at"B"
  rw [slc_f1]
  walk_at"B"
  refine S.ifb ((t.drop 1).take 1==[45]) ?_ (fun h=>?_) (fun h=>?_)
  ·walk_at"B"
   rw [slc_t1]
   walk_at"B"
   rw [lit_dash]
   exact ⟨rfl,rfl⟩
  ·rw [if_pos h] at q
   walk_at"B"
   exact q
  ·rw [if_neg (nf h)] at q
   refine Ss.nil (Ss.nil ?_)
   exact last _ hd q
 ·rw [if_neg (nf h)] at q
  exact Ss.nil (last t hl q)
section
set_option genInjectivity false
set_option genSizeOf false
theorem fmod_nat (a b:Nat):((a:Int).fmod (b:Int))=((a % b:Nat):Int):=by
 rw [Int.fmod_eq_emod_of_nonneg _ (by exact ar 1 [_] (.ile .n0 .v0) rfl)]; rfl
theorem fdiv_nat (a b:Nat):((a:Int).fdiv (b:Int))=((a / b:Nat):Int):=by
 rw [Int.fdiv_eq_ediv_of_nonneg _ (by exact ar 1 [_] (.ile .n0 .v0) rfl)]; rfl
theorem nat_beq (c k:Nat):((c:Int)==(k:Int))=(c==k):=by rw [Bool.eq_iff_iff,beq_iff_eq,beq_iff_eq]; exact ar 2 [_,_] (.iff (.ieq .v0 .v1) (.eq .v0 .v1)) rfl
theorem bmodN {a:Nat} (j:Nat) {k:V→Prop} (hj:j≠0) (h:k (.int ((a % j:Nat):Int))):BinM .Mod (.int (a:Int)) (.int (j:Int)) k:=⟨_,.imod _ (by exact ar 1 [_] (.im (.nt (.eq .v0 .n0)) (.nt (.ieq .v0 .n0))) rfl hj),by rw [fmod_nat]; exact h⟩
theorem bdivN {a:Nat} (j:Nat) {k:V→Prop} (hj:j≠0) (hl:j < 1000) (h:k (.int ((a / j:Nat):Int))):BinM .FloorDiv (.int (a:Int)) (.int (j:Int)) k:=⟨_,.ifdiv _ (by exact ar 1 [_] (.im (.nt (.eq .v0 .n0)) (.nt (.ieq .v0 .n0))) rfl hj) (by
 unfold Builtin.divisionGoesByPylong
 refine Bool.and_eq_false_iff.mpr (.inl ?_)
 have h1:(j:Int).natAbs.log2 < 10:=by
  rw [Int.natAbs_natCast]
  exact (Nat.log2_lt hj).mpr (by exact ar 1 [_] (.im (.lt .v0 (.n 1000)) (.lt .v0 (.n 1024))) rfl hl)
 dsimp only
 refine decide_eq_false ?_
 split <;> omega),by rw [fdiv_nat]; exact h⟩
theorem int_nz (x:Nat):((x:Int) != 0)=(x != 0):=by rw [Bool.eq_iff_iff,bne_iff_ne,bne_iff_ne]; exact ar 1 [_] (.iff (.nt (.ieq .v0 .n0)) (.nt (.eq .v0 .n0))) rfl
theorem bmS {x y:List Nat} {k:V→Prop} (h:k (.str (x++y))) (e:x.length+y.length≤1000000):BinM .Add (.str x) (.str y) k:=bm3 h (leSize e)
noncomputable def HXU:List Nat:=lit "0123456789ABCDEF"
noncomputable def HXL:List Nat:=lit "0123456789abcdef"
noncomputable def tblF (way:Nat):List Nat:=if way % 2 != 0 then HXU else HXL
noncomputable def figF (T:List Nat) (k:Nat):Nat→Nat→List Nat→List Nat
 | 0,_,acc=>acc
 | f+1,n,acc=>if n != 0||decide (acc.length < k) then figF T k f (n / 16) (T.getD (n % 16) 0::acc) else acc
theorem tbl_len (way:Nat):(tblF way).length=16:=by
 unfold tblF; split <;> decide +kernel
theorem fig_len {T:List Nat} {k:Nat} (hk:k≤6):∀ {f n:Nat} {acc:List Nat},acc.length+f≤6→(figF T k f n acc).length≤6:=fun {f}=>by
 induction f with
 | zero=>intro n acc h; exact h
 | succ f ih =>
  intro n acc h
  show (if n != 0||decide (acc.length < k) then figF T k f (n / 16) (T.getD (n % 16) 0::acc) else acc).length≤6
  split
  ·exact ih (by simp only [List.length_cons]; exact ar 2 [_,_] (.im (.le (.a .v0 (.a .v1 .n1)) (.n 6)) (.le (.a (.a .v0 .n1) .v1) (.n 6))) rfl h)
  ·exact ar 2 [_,_] (.im (.le (.a .v0 (.a .v1 .n1)) (.n 6)) (.le .v0 (.n 6))) rfl h
noncomputable def wayK (way:Nat):Nat:=1+way / 2 % 6
noncomputable abbrev LHx (n:V) (way:Nat) (b T acc:List Nat) (t:V):Loc:=[("number",n),("way",.int (way:Int)),("behind",.str b),("table",.str T),("figures",.str acc),("tail",t)]
inductive JX (TB:List Nat) (n way:Nat) (b:List Nat) (H:AH):Nat→Loc→AH→Prop
 | mk (x:Nat) (f:Nat) (acc:List Nat) (hf:figF TB (wayK way) f x acc=figF TB (wayK way) 6 n []) (hx:x < 16 ^ f) (hl:acc.length+f=6):JX TB n way b H f (LHx (.int (x:Int)) way b TB acc .unset) H
theorem hex_loop {w:World} {g:Gx} (G:GG w g) {d:Nat} {H:AH} {n way:Nat} {b TB:List Nat} {Q:R→Loc→AH→Prop} {rest:List Stmt} (hT:TB.length=16) (hn:n < 1114112) (q:∀ x,Ss g Γ49 d rest (LHx x way b TB (figF TB (wayK way) 6 n []) .unset) H Q):Ss g Γ49 d (((bodyAt 49).drop 2).take 1++rest) (LHx (.int (n:Int)) way b TB [] .unset) H Q:=by
 refine Ss.consK ?_
 refine S.while_ (JX TB n way b H) ?_ 6 (.mk n 6 [] rfl (by exact ar 1 [_] (.im (.lt .v0 (.n 1114112)) (.lt .v0 (.n 16777216))) rfl hn) rfl)
 intro m lo' H' J
 cases J with
 | mk x f acc hf hx hl =>
 have hk:wayK way≤6:=by unfold wayK; omega
 have hacc:acc.length≤1000000:=by exact ar 2 [_,_] (.im (.eq (.a .v0 .v1) (.n 6)) (.le .v0 (.n 1000000))) rfl hl
 refine T.to (x != 0||decide (acc.length < wayK way)) (T.ors rfl ?_ (T.ors (Bool.or_false _) ?_ T.ors0)) ?_
 ·walk_at"B"
  exact ⟨int_nz x,rfl⟩
 ·walk_at"B"
  refine bdivN 2 (by decide) (by decide) ?_
  walk_at"B"
  refine bmodN 6 (by decide) ?_
  walk_at"B"
  refine ⟨decide_eq_decide.mpr ?_,rfl⟩
  unfold wayK
  omega
 cases m with
 | zero =>
  have:(x != 0||decide (acc.length < wayK way))=false:=by
   have:x=0:=by exact ar 1 [_] (.im (.lt .v0 .n1) (.eq .v0 .n0)) rfl hx
   subst this
   simp; exact ar 2 [_,_] (.im (.eq (.a .v1 .n0) (.n 6)) (.im (.le .v0 (.n 6)) (.le .v0 .v1))) rfl hl hk
  rw [this]
  refine Ss.nil ?_
  have:figF TB (wayK way) 0 x acc=acc:=rfl
  rw [this] at hf
  rw [hf]
  exact q _
 | succ f =>
  replace hf:(if x != 0||decide (acc.length < wayK way) then figF TB (wayK way) f (x / 16) (TB.getD (x % 16) 0::acc) else acc)=_:=hf
  walk_at"l"
  ·rename_i hc
   rw [if_pos hc] at hf
   have hg:TB[x % 16]?=some (TB.getD (x % 16) 0):=by
    rw [List.getD_eq_getElem?_getD,List.getElem?_eq_getElem (by omega)]; rfl
   have hb:TB.length≤1000000:=by exact ar 1 [_] (.im (.eq .v0 (.n 16)) (.le .v0 (.n 1000000))) rfl hT
   walk_at"B"
   refine bmodN 16 (by decide) ?_
   refine sub_strA ?_ hg hb
   walk_at"B"
   refine bmS ?_ (by simp only [List.length_cons,List.length_nil]; exact ar 2 [_,_] (.im (.eq (.a .v0 (.a .v1 .n1)) (.n 6)) (.le (.a (.a .n0 .n1) .v0) (.n 1000000))) rfl hl)
   walk_at"B"
   refine bdivN 16 (by decide) (by decide) ?_
   walk_at"B"
   refine ⟨_,Nat.lt_succ_self _,.mk (x / 16) _ _ hf ?_ ?_⟩
   ·rw [Nat.pow_succ] at hx; omega
   ·rw [List.length_append,List.length_singleton]; exact ar 2 [_,_] (.im (.eq (.a .v0 (.a .v1 .n1)) (.n 6)) (.eq (.a (.a .n1 .v0) .v1) (.n 6))) rfl hl
  ·rename_i hc
   rw [if_neg hc] at hf
   refine Ss.nil ?_
   rw [hf]
   exact q _
theorem SubM.lstN {vs:List V} {j:Nat} {v:V} {k:V→Prop} (h:vs[j]?=some v) (hl:vs.length≤1000000) (q:k v):SubM (.lst vs) (.int (j:Int)) k:=by
 have hj:j < vs.length:=(List.getElem?_eq_some_iff.mp h).1
 refine ⟨_,.lst (j:=j) ⟨by omega,by exact ar 2 [_,_] (.im (.lt .v0 .v1) (.im (.le .v1 (.n 1000000)) (.ilt .v0 (.n 9223372036854775808)))) rfl hj hl⟩ ?_ h,q⟩
 unfold seqIndex?
 have h0:¬ (j:Int) < 0:=by exact ar 1 [_] (.nt (.ilt .v0 .n0)) rfl
 simp [h0,hj]
noncomputable def isBl (c:Nat):Bool:=(BLANKS.map V.str).any (eqStr [c])
noncomputable def tail0 (way:Nat):List Nat:=TAILS.getD (way / 12 % 7) []
noncomputable def tail1 (way l:Nat) (b:List Nat):List Nat:=if (tail0 way==[]&&!b.isEmpty)&&(headP isBl b||(decide (l < 6)&&headP isHex b)) then [32] else tail0 way
noncomputable def tail2 (way l:Nat) (b:List Nat):List Nat:=if tail1 way l b==[13]&&b.take 1==[10] then [13,10] else tail1 way l b
noncomputable def figN (n way:Nat):List Nat:=figF (tblF way) (wayK way) 6 n []
noncomputable def hexF (n way:Nat) (b:List Nat):List Nat:=92::(figN n way++tail2 way (figN n way).length b)
theorem tail0_mem (way:Nat):tail0 way∈TAILS:=by
 unfold tail0
 have:way / 12 % 7 < TAILS.length:=Nat.mod_lt _ (by decide)
 rw [List.getD_eq_getElem?_getD,List.getElem?_eq_getElem this]
 exact List.getElem_mem this
theorem tail0_len (way:Nat):(tail0 way).length≤2:=by
 have h:∀ t∈TAILS,t.length≤2:=by decide +kernel
 exact h _ (tail0_mem way)
theorem tail2_len (way l:Nat) (b:List Nat):(tail1 way l b).length≤2∧(tail2 way l b).length≤2:=by
 have h0:=tail0_len way
 have h1:(tail1 way l b).length≤2:=by unfold tail1; split; decide; exact h0
 refine ⟨h1,?_⟩
 unfold tail2; split; decide; exact h1
theorem C49 {w:World} {g:Gx} (G:GG w g) {H:AH} {n way:Nat} {b:List Nat} {Q:V→AH→Prop} (hn:n < 1114112) (hl:b.length≤1000000) (q:Q (.str (hexF n way b)) H):Call g 2 (.ref 741) [.int (n:Int),.int (way:Int),.str b] H Q:=by
 refine Call.def_ (dv:=[]) (D49 G) rfl ⟨rfl,fun _ h=>nomatch h⟩ ?_
 walk_at"n"
 refine Ss.consK ?_
 refine S.assignK ?_ (fun _=>rfl)
 have hw:E g Γ49 1 (exN 0 (retE (bodyAt 49))) [("number",.int (n:Int)),("way",.int (way:Int)),("behind",.str b),("table",.unset),("figures",.unset),("tail",.unset)] H (fun v H'=>v=.str (tblF way)∧H'=H):=by
  refine E.ifeb (way % 2 != 0) ?_ (fun h=>?_) (fun h=>?_)
  ·walk_at"B"
   refine bmodN 2 (by decide) ?_
   walk_at"B"
   exact ⟨int_nz _,rfl⟩
  ·refine E.str ⟨?_,rfl⟩
   unfold tblF; rw [if_pos h]; rfl
  ·refine E.str ⟨?_,rfl⟩
   unfold tblF; rw [if_neg (nf h)]; rfl
 refine E.mono hw ?_
 rintro v H' ⟨rfl,rfl⟩
 refine pk3 ?_
 refine Ss.consK ?_
 refine S.assignK ?_ (fun _=>rfl)
 refine E.str ?_
 rw [lit_nil]
 refine pk4 ?_
 refine hex_loop (rest:=(bodyAt 49).drop 3) G (tbl_len way) hn fun x=>?_
 have hf6:(figN n way).length≤6:=fig_len (by unfold wayK; omega) (by decide)
 rw [show figF (tblF way) (wayK way) 6 n []=figN n way from rfl]
 unfold hexF at q
 generalize figN n way=F at q hf6
 generalize tblF way=TB
 have hF:F.length≤1000000:=by exact ar 1 [_] (.im (.le .v0 (.n 6)) (.le .v0 (.n 1000000))) rfl hf6
 refine Ss.consK ?_
 refine S.assignK ?_ (fun _=>rfl)
 walk_at"B"
 refine E.call0 (by walk_at"d") (by walk_at"i") (C42 G ?_)
 walk_at"B"
 refine bdivN 12 (by decide) (by decide) ?_
 walk_at"B"
 refine bmodN 7 (by decide) ?_
 refine SubM.lstN (v:=.str (tail0 way)) ?_ (by decide) ?_
 ·unfold tail0
  have h7:way / 12 % 7 < TAILS.length:=Nat.mod_lt _ (by decide)
  rw [List.getElem?_map,List.getD_eq_getElem?_getD,List.getElem?_eq_getElem h7]; rfl
 refine pk5 ?_
 refine Ss.consK ?_
 refine S.to (LHx x way b TB F (.str (tail1 way F.length b))) H' (S.ifb (tail0 way==[]&&!b.isEmpty) ?_ (fun h=>?_) (fun h=>?_)) ?_
 ·refine T.and2b (tail0 way==[]) ?_ (fun h=>⟨by rw [h]; rfl,rfl⟩) (fun h=>?_)
  ·walk_at"B"
   rw [lit_nil]
   exact ⟨rfl,rfl⟩
  ·rw [h,Bool.true_and]
   walk_at"B"
   exact ⟨_,.str (lt62 hl),rfl,rfl⟩
 ·obtain ⟨h1,h2⟩:=Bool.and_eq_true_iff.mp h
  cases b with
  | nil=>cases h2
  | cons e b' =>
  have hbl:isBl e=headP isBl (e::b'):=rfl
  have hhx:isHex e=headP isHex (e::b'):=rfl
  refine Ss.consK ?_
  refine S.ifb (headP isBl (e::b')||(decide (F.length < 6)&&headP isHex (e::b'))) ?_ (fun h3=>?_) (fun h3=>?_)
  ·refine T.or2b (isBl e) ?_ (fun h=>⟨by rw [← hbl,h]; rfl,rfl⟩) (fun h=>?_)
   ·walk_at"B"
    refine sub_strA (i:=0) (n:=e) ?_ rfl hl
    refine E.call0 (by walk_at"d") (by walk_at"i") (C41 G ?_)
    refine CmpM.by (CmpR.lin _ rfl) ?_
    exact ⟨rfl,rfl⟩
   ·rw [← hbl,h,Bool.false_or,← hhx]
    refine T.and2b (decide (F.length < 6)) ?_ (fun h=>⟨by rw [h]; rfl,rfl⟩) (fun h=>?_)
    ·walk_at"B"
     exact ⟨decide_eq_decide.mpr (by exact ar 1 [_] (.iff (.ilt .v0 (.n 6)) (.lt .v0 (.n 6))) rfl),rfl⟩
    ·rw [h,Bool.true_and]
     walk_at"B"
     refine sub_strA (i:=0) (n:=e) ?_ rfl hl
     refine E.glob (by walk_at"d") (fun M hM=>⟨_,.str _ _ rfl,?_⟩)
     refine CmpM.by (CmpR.sin _ _) ?_
     exact ⟨cs_hex e,rfl⟩
  ·walk_at"B"
   refine ⟨rfl,?_,rfl⟩
   unfold tail1
   rw [h,h3,Bool.true_and,if_pos rfl]
   rfl
  ·walk_at"B"
   refine ⟨rfl,?_,rfl⟩
   unfold tail1
   rw [h,h3,Bool.and_false,if_neg bn]
 ·refine Ss.nil ⟨rfl,?_,rfl⟩
  unfold tail1
  rw [h,Bool.false_and,if_neg bn]
 refine Ss.consK ?_
 obtain ⟨hl1,hl2⟩:=tail2_len way F.length b
 unfold tail2 at q hl2
 generalize tail1 way F.length b=t at q hl1 hl2
 refine S.to (LHx x way b TB F (.str (if t==[13]&&b.take 1==[10] then [13,10] else t))) H' (S.ifb (t==[13]&&b.take 1==[10]) ?_ (fun h=>?_) (fun h=>?_)) ?_
 ·refine T.and2b (t==[13]) ?_ (fun h=>⟨by rw [h]; rfl,rfl⟩) (fun h=>?_)
  ·walk_at"B"
   rw [show (Str.ofString "\r").cps.toList=[13] by decide +kernel]
   exact ⟨rfl,rfl⟩
  ·rw [h,Bool.true_and]
   walk_at"B"
   rw [slc_t1]
   walk_at"B"
   rw [show (Str.ofString "\n").cps.toList=[10] by decide +kernel]
   exact ⟨rfl,rfl⟩
 ·walk_at"B"
  refine ⟨rfl,?_,rfl⟩
  rw [if_pos h,show (Str.ofString "\r\n").cps.toList=[13,10] by decide +kernel]
 ·walk_at"B"
  refine ⟨rfl,?_,rfl⟩
  rw [if_neg (nf h)]
 generalize (if t==[13]&&b.take 1==[10] then [13,10] else t)=t2 at q hl2
 walk_at"B"
 rw [lit_bs]
 refine bmS ?_ (by simp only [List.length_cons,List.length_nil]; exact ar 1 [_] (.im (.le .v0 (.n 6)) (.le (.a (.a .n0 .n1) .v0) (.n 1000000))) rfl hf6)
 walk_at"B"
 refine bmS ?_ (by simp only [List.length_append,List.length_cons,List.length_nil]; exact ar 2 [_,_] (.im (.le .v1 (.n 2)) (.im (.le .v0 (.n 6)) (.le (.a (.a (.a .n0 .n1) .v0) .v1) (.n 1000000)))) rfl hl2 hf6)
 walk_at"B"
 rw [List.append_assoc]
 exact q
end
theorem T.ands {g:Gx} {Γ:Fx} {d:Nat} {lo:Loc} {H:AH} {x:Expr} {r:List Expr} {pos:Pos} {b b' bb:Bool} (hb:(b&&b')=bb) (hx:T g Γ d x lo H (IsT b H)) (h':b=true→T g Γ d (.BoolOp .And r pos) lo H (IsT b' H)):T g Γ d (.BoolOp .And (x::r) pos) lo H (IsT bb H):=by
 subst hb
 refine T.and (hx.mono fun v H₁ r=>?_)
 rw [r.1,r.2]
 cases b with
 | false=>exact ⟨rfl,rfl⟩
 | true=>rw [Bool.true_and]; exact h' rfl
theorem T.ands0 {g:Gx} {Γ:Fx} {d:Nat} {lo:Loc} {H:AH} {pos:Pos}:T g Γ d (.BoolOp .And [] pos) lo H (IsT true H):=T.and0 ⟨rfl,rfl⟩
noncomputable def isEn (c:Nat):Bool:=(ENDS.map V.str).any (eqStr [c])
noncomputable def spF (c way:Nat) (plain:Bool) (b:List Nat):List Nat:=if plain&&way % 3==0 then [c] else if way % 3==1&&(!isHex c&&!isEn c) then [92,c] else hexF c (way / 3) b
theorem figN_len (n way:Nat):(figN n way).length≤6:=fig_len (by unfold wayK; omega) (by decide)
theorem hexF_len (n way:Nat) (b:List Nat):(hexF n way b).length≤9:=by
 have h1:=figN_len n way
 have h2:=(tail2_len way (figN n way).length b).2
 unfold hexF
 simp only [List.length_cons,List.length_append]; exact ar 2 [_,_] (.im (.le .v1 (.n 2)) (.im (.le .v0 (.n 6)) (.le (.a (.a .v0 .v1) .n1) (.n 9)))) rfl h2 h1
theorem spF_len (c way:Nat) (pl:Bool) (b:List Nat):(spF c way pl b).length≤9:=by
 unfold spF
 split
 ·simp
 ·split
  ·simp
  ·exact hexF_len _ _ _
theorem C50 {w:World} {g:Gx} (G:GG w g) {H:AH} {c way:Nat} {pl:Bool} {b:List Nat} {Q:V→AH→Prop} (hc:c < 1114112) (hl:b.length≤1000000) (q:Q (.str (spF c way pl b)) H):Call g 3 (.ref 748) [.str [c],.int (way:Int),.bool pl,.str b] H Q:=by
 refine Call.def_ (dv:=[]) (D50 G) rfl ⟨rfl,fun _ h=>nomatch h⟩ ?_
 walk_at"n"
 unfold spF at q
 refine Ss.consK ?_
 refine S.ifb (pl&&way % 3==0) ?_ (fun h=>?_) (fun h=>?_)
 ·refine T.ands rfl ?_ (fun _=>T.ands (Bool.and_true _) ?_ (fun _=>T.ands0))
  ·walk_at"B"
   exact ⟨rfl,rfl⟩
  ·walk_at"B"
   refine bmodN 3 (by decide) ?_
   walk_at"B"
   exact ⟨nat_beq _ 0,rfl⟩
 ·rw [if_pos h] at q
  walk_at"B"
  exact q
 rw [if_neg (nf h)] at q
 walk_at"B"
 refine S.ifb (way % 3==1&&(!isHex c&&!isEn c)) ?_ (fun h=>?_) (fun h=>?_)
 ·refine T.ands rfl ?_ (fun _=>T.ands rfl ?_ (fun _=>T.ands (Bool.and_true _) ?_ (fun _=>T.ands0)))
  ·walk_at"B"
   refine bmodN 3 (by decide) ?_
   walk_at"B"
   exact ⟨nat_beq _ 1,rfl⟩
  ·walk_at"B"
   refine E.glob (by walk_at"d") (fun M hM=>⟨_,.str _ _ rfl,?_⟩)
   refine CmpM.by (CmpR.snin _ _) ?_
   exact ⟨congrArg (!·) (cs_hex c),rfl⟩
  ·walk_at"B"
   refine E.call0 (by walk_at"d") (by walk_at"i") ((C40 G ?_).le (by walk_at"m"))
   refine CmpM.by (CmpR.lnin _ rfl) ?_
   exact ⟨rfl,rfl⟩
 ·rw [if_pos h] at q
  walk_at"B"
  rw [lit_bs]
  refine bmS ?_ (by simp)
  walk_at"B"
  exact q
 rw [if_neg (nf h)] at q
 walk_at"B"
 refine bdivN 3 (by decide) (by decide) ?_
 walk_at"B"
 refine (C49 G hc hl ?_).le (by walk_at"m")
 walk_at"B"
 exact q
noncomputable abbrev SW:=List (Nat × Nat)
noncomputable def sgV (z:SW):V:=.lst (z.map fun q=>.str [q.1])
noncomputable def wyV (z:SW):V:=.lst (z.map fun q=>vN q.2)
theorem sg_at {z:SW} {m:Nat} {q:Nat × Nat} {r:SW} (h:z.drop m=q::r):(z.map fun q=>V.str [q.1])[m]?=some (.str [q.1])∧(z.map fun q=>vN q.2)[m]?=some (vN q.2):=by
 have e:z[m]?=some q:=by
  have:=congrArg (·[0]?) h
  simpa using this
 rw [List.getElem?_map,List.getElem?_map,e]
 exact ⟨rfl,rfl⟩
theorem part_nm (c:Nat):(partF c != lit "other")=isNm c:=by
 unfold partF
 have e1:(lit "start" != lit "other")=true:=by decide +kernel
 have e2:(lit "figure" != lit "other")=true:=by decide +kernel
 have e3:(lit "hyphen" != lit "other")=true:=by decide +kernel
 have e4:(lit "other" != lit "other")=false:=by decide +kernel
 have en:isNm c=(isNS c||isDig c||c==45):=by
  unfold isNm isNS
  cases isUp c <;> cases isLow c <;> cases isDig c <;> cases (c==95) <;> cases (c==45) <;> cases decide (c > 127) <;> rfl
 rw [en]
 cases isNS c with
 | true=>rw [if_pos rfl]; exact e1
 | false =>
  rw [if_neg bn]
  cases isDig c with
  | true=>rw [if_pos rfl]; exact e2
  | false =>
   rw [if_neg bn]
   cases (c==45) with
   | true=>rw [if_pos rfl]; exact e3
   | false=>rw [if_neg bn]; exact e4
theorem part_fh (c:Nat):([V.str (lit "figure"),V.str (lit "hyphen")].any (eqStr (partF c)))=(isDig c||c==45):=by
 have key:∀ x,([V.str (lit "figure"),V.str (lit "hyphen")].any (eqStr x))=(x==lit "figure"||x==lit "hyphen"):=fun x=>by
  rw [List.any_cons,List.any_cons,List.any_nil,Bool.or_false]; show (lit "figure"==x||lit "hyphen"==x)=_; rw [BEq.comm (a:=x),BEq.comm (a:=x)]
 have f1:(lit "figure"==lit "figure"||lit "figure"==lit "hyphen")=true:=by decide +kernel
 have f2:(lit "hyphen"==lit "figure"||lit "hyphen"==lit "hyphen")=true:=by decide +kernel
 have f3:(lit "start"==lit "figure"||lit "start"==lit "hyphen")=false:=by decide +kernel
 have f4:(lit "other"==lit "figure"||lit "other"==lit "hyphen")=false:=by decide +kernel
 rw [key]
 have hd:isDig c=true→isNS c=false:=fun h=>by
  unfold isDig at h
  unfold isNS isUp isLow
  simp at h ⊢
  exact ar 1 [_] (.im (.an (.le (.n 48) .v0) (.le .v0 (.n 57))) (.an (.an (.an (.im (.le (.n 65) .v0) (.lt (.n 90) .v0)) (.im (.le (.n 97) .v0) (.lt (.n 122) .v0))) (.nt (.eq .v0 (.n 95)))) (.le .v0 (.n 127)))) rfl h
 have hm:(c==45)=true→isNS c=false∧isDig c=false:=fun h=>by
  rw [eq_of_beq h]; decide
 unfold partF
 cases h1:isDig c with
 | true =>
  rw [hd h1,if_neg bn,if_pos rfl,f1]; rfl
 | false =>
  cases h2:(c==45) with
  | true =>
   rw [(hm h2).1,if_neg bn,if_neg bn,if_pos rfl,f2]; rfl
  | false =>
   cases isNS c with
   | true=>rw [if_pos rfl,f3]; rfl
   | false=>rw [if_neg bn,if_neg bn,if_neg bn,f4]; rfl
noncomputable def isFH (c:Nat):Bool:=isDig c||c==45
noncomputable def nmT (b:List Nat):SW→List Nat
 | []=>[]
 | q::r=>spF q.1 q.2 (isNm q.1) (nmT b r++b)++nmT b r
noncomputable def pl0 (P:List Nat) (c:Nat) (t:List Nat):Bool:=if P != lit "hash" then (if (P==lit "size"&&(isE c&&(!t.isEmpty&&headP isFH t))) then false else (isNm c&&startsF (c::t))) else isNm c
noncomputable def namF (P b:List Nat):SW→List Nat
 | []=>[]
 | q::r=>spF q.1 q.2 (pl0 P q.1 (nmT b r)) (nmT b r++b)++nmT b r
theorem nmT_len (b:List Nat):∀ z:SW,(nmT b z).length≤9 * z.length
 | []=>Nat.le_refl _
 | q::r=>by
  have h1:=nmT_len b r
  have h2:=spF_len q.1 q.2 (isNm q.1) (nmT b r++b)
  show (spF q.1 q.2 (isNm q.1) (nmT b r++b)++nmT b r).length≤_
  rw [List.length_append,List.length_cons]; exact ar 3 [_,_,_] (.im (.le .v1 (.m 9 .v2)) (.im (.le .v0 (.n 9)) (.le (.a .v0 .v1) (.m 9 (.a .v2 .n1))))) rfl h1 h2
theorem drop_last {z:SW} {m:Nat} (h:m < z.length):∃ q,z.drop m=q::z.drop (m+1):=⟨z[m],List.drop_eq_getElem_cons h⟩
theorem down_E {g:Gx} {Γ:Fx} {d:Nat} {lo:Loc} {H:AH} {z:SW} {p1 p2 p3 p4 p5 p6 p7 p8 p9 p10 pos:Pos} {k1 k2 k3:Nat} {Q:V→AH→Prop} (hz:z.length≤1000) (hm:(("signs":Str),sgV z)∈lo) (hr:(("range":Str),Value.type "range")∈Γ.globs) (hl:(("len":Str),Value.builtin "len")∈Γ.globs)
  (q:Q (.rng ((z.length:Int) - 1) (-1) (-1)) H):E g Γ d (.Call (.Name "range" p1) [.BinOp (.Call (.Name "len" p2) [.Name "signs" p3] [] p4) .Sub (.Constant (.int 1) k1 p5) p6,.UnaryOp .USub (.Constant (.int 1) k2 p7) p8,.UnaryOp .USub (.Constant (.int 1) k3 p9) p10] [] pos) lo H Q:=by
 refine E.callT hr ?_
 refine Es.cons (E.bin (E.callB hl (Es.cons (E.loc hm (by nofun) (Es.nil ?_))))) ?_
 ·refine CB.len_lst (by rw [List.length_map]; exact ar 1 [_] (.im (.le .v0 (.n 1000)) (.lt .v0 (.n 4611686018427387904))) rfl hz) ?_
  refine E.int ?_
  refine bm2 ?_
  refine Es.cons (E.neg (E.int ⟨1,rfl,?_⟩))
  refine Es.cons (E.neg (E.int ⟨1,rfl,?_⟩))
  refine Es.nil ?_
  rw [List.length_map]
  refine CB.range3 (by decide) ?_ q
  unfold Builtin.divisionGoesByPylong
  exact Bool.and_eq_false_iff.mpr (.inl (by decide +kernel))
 ·intro _; rfl
theorem cs_eE (n:Nat):inStr [n] (Str.ofString "eE").cps.toList=isE n :=
 set_of (p:=isE) (by decide +kernel) (by decide +kernel) (fun n h=>by simp [isE]; exact ar 1 [_] (.im (.le (.n 128) .v0) (.an (.nt (.eq .v0 (.n 101))) (.nt (.eq .v0 (.n 69))))) rfl h) n
noncomputable abbrev LNm (z:SW) (P b t:List Nat) (i p:V):Loc:=[("signs",sgV z),("ways",wyV z),("place",.str P),("behind",.str b),("text",.str t),("i",i),("plain",p)]
section
variable {g:Gx} {Γ:Fx} {d:Nat} {H:AH}
theorem S.forDn {x:Str} {px:Pos} {iter:Expr} {body:List Stmt} {pos:Pos} {Q:R→Loc→AH→Prop} {n:Nat} {L:Nat→V→V→Loc} {i p:V} {lo:Loc} (hn:n≤1000) (e:lo=L n i p) (it:∀ K:V→AH→Prop,K (.rng ((n:Int) - 1) (-1) (-1)) H→E g Γ d iter (L n i p) H K) (hp:∀ m i p u,Put x u (L m i p) (L m u p))
  (step:∀ m p (K:R→Loc→AH→Prop),m < n→(∀ p',K .next (L m (.int (m:Int)) p') H)→Ss g Γ d body (L (m+1) (.int (m:Int)) p) H K) (fin:∀ i p,Q .next (L 0 i p) H) (hs:autoParam (∀ env x,foldedSetIterable iter env x=pure x) irfa):S g Γ d (.For (.Name x px) iter body [] pos) lo H Q:=by
 subst e
 refine S.for_ (it _ ⟨_,items_dn hn,fun rest lo H'=>∃ m i p,rest=dn m∧m≤n∧lo=L m i p∧H'=H,⟨n,i,p,rfl,Nat.le_refl _,rfl,rfl⟩,?_,?_⟩) hs
 ·rintro v rest lo H' ⟨m,i,p,hr,hm,rfl,rfl⟩
  cases m with
  | zero=>cases hr
  | succ m =>
   cases hr
   exact ⟨_,hp _ _ _ _,step m p _ hm fun p'=>⟨m,_,_,rfl,Nat.le_of_succ_le hm,rfl,rfl⟩⟩
 ·rintro lo H' ⟨m,i,p,hr,hm,rfl,rfl⟩
  cases m with
  | succ m=>cases hr
  | zero=>exact Ss.nil (fin i p)
end
noncomputable def nmU (P b:List Nat) (z:SW) (m:Nat):List Nat:=Nat.casesOn m (namF P b z) fun k=>nmT b (z.drop (k+1))
theorem nmU_end (P b:List Nat) (z:SW):[]=nmU P b z z.length:=by
 cases z with
 | nil=>rfl
 | cons q r=>show []=nmT b ((q::r).drop (q::r).length); rw [List.drop_length]; rfl
theorem C53 {w:World} {g:Gx} (G:GG w g) {H:AH} {z:SW} {P b:List Nat} {Q:V→AH→Prop} (hz:z.length≤1000) (hc:∀ q∈z,q.1 < 1114112) (hb:b.length≤900000) (q:Q (.str (namF P b z)) H):Call g 4 (.ref 769) [sgV z,wyV z,.str P,.str b] H Q:=by
 refine Call.def_ (dv:=[]) (D53 G) rfl ⟨rfl,fun _ h=>nomatch h⟩ ?_
 walk_at"n"
 refine Ss.consK ?_
 refine S.assignK ?_ (fun _=>rfl)
 refine E.str ?_
 rw [lit_nil]
 refine pk4 ?_
 refine Ss.consK ?_
 refine S.forDn (n:=z.length) (L:=fun m=>LNm z P b (nmU P b z m)) hz (congrArg (fun t=>LNm z P b t .unset .unset) (nmU_end P b z)) (fun K k=>down_E hz (by walk_at"d") (by walk_at"d") (by walk_at"d") k) (fun _ _ _ _=>.there (.there (.there (.there (.there .here))))) (fun m p K hm k=>?_) fun i p=>?_
 ·obtain ⟨e,he⟩:=drop_last hm
  have hk:K .next (LNm z P b (nmU P b z m) (.int (m:Int)) (.bool (if m=0 then pl0 P e.1 (nmT b (z.drop (m+1))) else isNm e.1))) H:=k _
  have hu:nmU P b z m=spF e.1 e.2 (if m=0 then pl0 P e.1 (nmT b (z.drop (m+1))) else isNm e.1) (nmT b (z.drop (m+1))++b)++nmT b (z.drop (m+1)):=by
   cases m with
   | zero=>rw [List.drop_zero] at he; rw [if_pos rfl]; show namF P b z=_; rw [he]; rfl
   | succ m=>rw [if_neg (Nat.succ_ne_zero m)]; show nmT b (z.drop (m+1))=_; rw [he]; rfl
  rw [hu] at hk
  clear k hu
  show Ss _ _ _ _ (LNm z P b (nmT b (z.drop (m+1))) (.int (m:Int)) p) H K
  obtain ⟨g1,g2⟩:=sg_at he
  have hec:e.1 < 1114112:=hc e (List.mem_of_mem_drop (by rw [he]; exact .head _))
  have htl:=nmT_len b (z.drop (m+1))
  rw [List.length_drop] at htl
  generalize nmT b (z.drop (m+1))=t at htl hk
  have ht6:t.length≤1000000:=by exact ar 3 [_,_,_] (.im (.le .v0 (.m 9 (.s .v1 (.a .v2 .n1)))) (.im (.le .v1 (.n 1000)) (.le .v0 (.n 1000000)))) rfl htl hz
  refine Ss.consK (S.assignK ?_ (fun _=>rfl))
  have hz6:∀ f:Nat × Nat→V,(z.map f).length≤1000000:=fun f=>by rw [List.length_map]; exact ar 1 [_] (.im (.le .v0 (.n 1000)) (.le .v0 (.n 1000000))) rfl hz
  walk_at"B"
  refine SubM.lstN g1 (hz6 _) ?_
  walk_at"B"
  refine (C51 G ?_).le (by walk_at"m")
  walk_at"B"
  rw [show (partF e.1 != (Str.ofString "other").cps.toList)=isNm e.1 from part_nm e.1]
  generalize hpl:(if m=0 then pl0 P e.1 t else isNm e.1)=pl at hk
  refine S.to (LNm z P b t (.int (m:Int)) (.bool pl)) H (S.ifb (m==0&&P != lit "hash") ?_ (fun h=>?_) (fun h=>?_)) ?_
  ·refine T.ands rfl ?_ (fun _=>T.ands (Bool.and_true _) ?_ (fun _=>T.ands0))
   ·walk_at"B"
    exact ⟨nat_beq m 0,rfl⟩
   ·walk_at"B"
    exact ⟨rfl,rfl⟩
  ·obtain ⟨h1,h2⟩:=Bool.and_eq_true_iff.mp h
   rw [if_pos (eq_of_beq h1)] at hpl
   unfold pl0 at hpl
   rw [if_pos h2] at hpl
   refine Ss.consK (S.assignK ?_ (fun _=>rfl))
   refine E.to (.bool (isNm e.1&&startsF (e.1::t))) (E.and2b (isNm e.1) ?_ (fun h=>⟨by rw [h]; rfl,rfl⟩) (fun h=>?_)) ?_
   ·walk_at"B"
    exact ⟨rfl,rfl⟩
   ·rw [h,Bool.true_and]
    walk_at"B"
    refine SubM.lstN g1 (hz6 _) ?_
    walk_at"B"
    refine bmS ?_ (by rw [List.length_singleton]; exact ar 3 [_,_,_] (.im (.le .v0 (.m 9 (.s .v1 (.a .v2 .n1)))) (.im (.le .v1 (.n 1000)) (.le (.a .n1 .v0) (.n 1000000)))) rfl htl hz)
    walk_at"B"
    refine (C52 G (by rw [List.length_append,List.length_singleton]; exact ar 3 [_,_,_] (.im (.le .v0 (.m 9 (.s .v1 (.a .v2 .n1)))) (.im (.le .v1 (.n 1000)) (.le (.a .n1 .v0) (.n 1000000)))) rfl htl hz) ?_).le (by walk_at"m")
    walk_at"B"
    exact ⟨rfl,rfl⟩
   refine pk6 ?_
   refine Ss.consK ?_
   refine S.ifb (P==lit "size"&&(isE e.1&&(!t.isEmpty&&headP isFH t))) ?_ (fun h=>?_) (fun h=>?_)
   ·refine T.ands rfl ?_ (fun _=>T.ands rfl ?_ (fun _=>T.ands rfl ?_ (fun ht0=>T.ands (Bool.and_true _) ?_ (fun _=>T.ands0))))
    ·walk_at"B"
     exact ⟨rfl,rfl⟩
    ·walk_at"B"
     refine SubM.lstN g1 (hz6 _) ?_
     walk_at"B"
     exact ⟨cs_eE e.1,rfl⟩
    ·walk_at"B"
     exact ⟨_,.str (lt62 ht6),rfl,rfl⟩
    ·cases t with
     | nil=>cases ht0
     | cons x t' =>
      walk_at"B"
      refine sub_strA (i:=0) (n:=x) ?_ rfl ht6
      walk_at"B"
      refine (C51 G ?_).le (by walk_at"m")
      walk_at"B"
      refine E.lst ?_
      walk_at"B"
      refine ⟨by decide,?_⟩
      refine CmpM.by (CmpR.lin _ rfl) ?_
      exact ⟨part_fh x,rfl⟩
   ·rw [if_pos h] at hpl
    walk_at"B"
    exact ⟨rfl,by rw [hpl],rfl⟩
   ·rw [if_neg (nf h)] at hpl
    walk_at"B"
    exact ⟨rfl,by rw [hpl],rfl⟩
  ·refine Ss.nil ⟨rfl,?_,rfl⟩
   rw [← hpl]
   split
   ·rename_i h0
    unfold pl0
    rw [h0] at h
    have h:(P != lit "hash")=false:=by simpa using h
    rw [if_neg (nf h)]
   ·rfl
  walk_at"B"
  refine SubM.lstN g1 (hz6 _) ?_
  walk_at"B"
  refine SubM.lstN g2 (hz6 _) ?_
  walk_at"B"
  refine bmS ?_ (by exact ar 4 [_,_,_,_] (.im (.le .v0 (.m 9 (.s .v2 (.a .v3 .n1)))) (.im (.le .v2 (.n 1000)) (.im (.le .v1 (.n 900000)) (.le (.a .v0 .v1) (.n 1000000))))) rfl htl hz hb)
  walk_at"B"
  refine (C50 G hec (by rw [List.length_append]; exact ar 4 [_,_,_,_] (.im (.le .v0 (.m 9 (.s .v2 (.a .v3 .n1)))) (.im (.le .v2 (.n 1000)) (.im (.le .v1 (.n 900000)) (.le (.a .v0 .v1) (.n 1000000))))) rfl htl hz hb) ?_).le (by walk_at"m")
  walk_at"B"
  have hsl:=spF_len e.1 e.2 pl (t++b)
  refine bmS ?_ (by exact ar 4 [_,_,_,_] (.im (.le .v1 (.m 9 (.s .v2 (.a .v3 .n1)))) (.im (.le .v2 (.n 1000)) (.im (.le .v0 (.n 9)) (.le (.a .v0 .v1) (.n 1000000))))) rfl htl hz hsl)
  walk_at"B"
  exact hk
 walk_at"B"
 exact q
section
set_option genInjectivity false
set_option genSizeOf false
noncomputable def plQ (q c:Nat):Bool:=c != q&&(c != 92&&!isEn c)
noncomputable def brkF (w:Nat) (t:List Nat):List Nat:=if w % 5==2 then 92::(ENDS.getD (w / 5 % 4) []++t) else t
noncomputable def quT (q:Nat):SW→List Nat
 | []=>[q]
 | e::r=>brkF e.2 (spF e.1 e.2 (plQ q e.1) (quT q r)++quT q r)
theorem ends_len (k:Nat):(ENDS.getD (k % 4) []).length≤2∧ENDS[k % 4]?=some (ENDS.getD (k % 4) []):=by
 have:k % 4 < ENDS.length:=Nat.mod_lt _ (by decide)
 have h:∀ t∈ENDS,t.length≤2:=by decide +kernel
 rw [List.getD_eq_getElem?_getD,List.getElem?_eq_getElem this]
 exact ⟨h _ (List.getElem_mem this),rfl⟩
theorem brkF_len (w:Nat) (t:List Nat):(brkF w t).length≤t.length+3:=by
 have:=(ends_len (w / 5)).1
 unfold brkF
 split
 ·rw [List.length_cons,List.length_append]; exact ar 2 [_,_] (.im (.le .v0 (.n 2)) (.le (.a (.a .v0 .v1) .n1) (.a .v1 (.n 3)))) rfl this
 ·exact ar 1 [_] (.le .v0 (.a .v0 (.n 3))) rfl
theorem quT_len (q:Nat):∀ z:SW,(quT q z).length≤12 * z.length+1
 | []=>Nat.le_refl _
 | e::r=>by
  have h1:=quT_len q r
  have h2:=spF_len e.1 e.2 (plQ q e.1) (quT q r)
  have h3:=brkF_len e.2 (spF e.1 e.2 (plQ q e.1) (quT q r)++quT q r)
  show (brkF e.2 (spF e.1 e.2 (plQ q e.1) (quT q r)++quT q r)).length≤_
  rw [List.length_append] at h3
  rw [List.length_cons]; exact ar 4 [_,_,_,_] (.im (.le .v2 (.a (.m 12 .v1) .n1)) (.im (.le .v0 (.a (.a .v3 .v2) (.n 3))) (.im (.le .v3 (.n 9)) (.le .v0 (.a (.m 12 (.a .v1 .n1)) .n1))))) rfl h1 h3 h2
theorem bne_one (a b:Nat):(([a]:List Nat) != [b])=(a != b):=by
 rw [Bool.eq_iff_iff]; simp
noncomputable abbrev LQu (z:SW) (q:Nat) (t:List Nat) (i p:V):Loc:=[("signs",sgV z),("ways",wyV z),("quote",.str [q]),("text",.str t),("i",i),("plain",p)]
theorem C54 {w:World} {g:Gx} (G:GG w g) {H:AH} {z:SW} {qu:Nat} {Q:V→AH→Prop} (hz:z.length≤1000) (hc:∀ q∈z,q.1 < 1114112) (q:Q (.str (qu::quT qu z)) H):Call g 4 (.ref 776) [sgV z,wyV z,.str [qu]] H Q:=by
 refine Call.def_ (dv:=[]) (D54 G) rfl ⟨rfl,fun _ h=>nomatch h⟩ ?_
 walk_at"n"
 have hz6:∀ f:Nat × Nat→V,(z.map f).length≤1000000:=fun f=>by rw [List.length_map]; exact ar 1 [_] (.im (.le .v0 (.n 1000)) (.le .v0 (.n 1000000))) rfl hz
 refine Ss.consK ?_
 refine S.assignK ?_ (fun _=>rfl)
 refine E.loc (v:=.str [qu]) (by walk_at"d") (by nofun) ?_
 refine pk3 ?_
 refine Ss.consK ?_
 refine S.forDn (n:=z.length) (L:=fun m=>LQu z qu (quT qu (z.drop m))) hz (by rw [List.drop_length]; rfl) (fun K k=>down_E hz (by walk_at"d") (by walk_at"d") (by walk_at"d") k) (fun _ _ _ _=>.there (.there (.there (.there .here)))) (fun m p K hm k=>?_) fun i p=>?_
 ·obtain ⟨e,he⟩:=drop_last hm
  rw [he] at k
  obtain ⟨g1,g2⟩:=sg_at he
  have hec:e.1 < 1114112:=hc e (List.mem_of_mem_drop (by rw [he]; exact .head _))
  have htl:=quT_len qu (z.drop (m+1))
  rw [List.length_drop] at htl
  replace k:∀ p',K .next (LQu z qu (brkF e.2 (spF e.1 e.2 (plQ qu e.1) (quT qu (z.drop (m+1)))++quT qu (z.drop (m+1)))) (.int (m:Int)) p') H:=k
  show Ss _ _ _ _ (LQu z qu (quT qu (z.drop (m+1))) (.int (m:Int)) p) H K
  generalize quT qu (z.drop (m+1))=t at htl k
  have ht6:t.length≤1000000:=by exact ar 3 [_,_,_] (.im (.le .v0 (.a (.m 12 (.s .v1 (.a .v2 .n1))) .n1)) (.im (.le .v1 (.n 1000)) (.le .v0 (.n 1000000)))) rfl htl hz
  refine Ss.consK (S.assignK ?_ (fun _=>rfl))
  refine E.to (.bool (plQ qu e.1)) ?_ ?_
  ·refine E.andB rfl ?_ (fun _=>E.andB rfl ?_ (fun _=>E.and1 ?_))
   ·walk_at"B"
    refine SubM.lstN g1 (hz6 _) ?_
    walk_at"B"
    exact ⟨congrArg V.bool (bne_one _ _),rfl⟩
   ·walk_at"B"
    refine SubM.lstN g1 (hz6 _) ?_
    walk_at"B"
    rw [lit_bs]
    exact ⟨congrArg V.bool (bne_one _ _),rfl⟩
   ·walk_at"B"
    refine SubM.lstN g1 (hz6 _) ?_
    walk_at"B"
    refine E.call0 (by walk_at"d") (by walk_at"i") ((C40 G ?_).le (by walk_at"m"))
    refine CmpM.by (CmpR.lnin _ rfl) ?_
    exact ⟨rfl,rfl⟩
  refine pk5 ?_
  walk_at"B"
  refine SubM.lstN g1 (hz6 _) ?_
  walk_at"B"
  refine SubM.lstN g2 (hz6 _) ?_
  walk_at"B"
  refine (C50 G hec (by omega) ?_).le (by walk_at"m")
  walk_at"B"
  have hsl:=spF_len e.1 e.2 (plQ qu e.1) t
  refine bmS ?_ (by exact ar 4 [_,_,_,_] (.im (.le .v1 (.a (.m 12 (.s .v2 (.a .v3 .n1))) .n1)) (.im (.le .v2 (.n 1000)) (.im (.le .v0 (.n 9)) (.le (.a .v0 .v1) (.n 1000000))))) rfl htl hz hsl)
  walk_at"B"
  have hal:(spF e.1 e.2 (plQ qu e.1) t++t).length≤900000:=by rw [List.length_append]; exact ar 4 [_,_,_,_] (.im (.le .v1 (.a (.m 12 (.s .v2 (.a .v3 .n1))) .n1)) (.im (.le .v2 (.n 1000)) (.im (.le .v0 (.n 9)) (.le (.a .v0 .v1) (.n 900000))))) rfl htl hz hsl
  generalize spF e.1 e.2 (plQ qu e.1) t++t=t' at hal k
  unfold brkF at k
  refine S.ifb (e.2 % 5==2) ?_ (fun h=>?_) (fun h=>?_)
  ·walk_at"B"
   refine SubM.lstN g2 (hz6 _) ?_
   walk_at"B"
   refine bmodN 5 (by decide) ?_
   walk_at"B"
   exact ⟨nat_beq _ 2,rfl⟩
  ·walk_at"B"
   rw [lit_bs]
   refine E.call0 (by walk_at"d") (by walk_at"i") ((C40 G ?_).le (by walk_at"m"))
   walk_at"B"
   refine SubM.lstN g2 (hz6 _) ?_
   walk_at"B"
   refine bdivN 5 (by decide) (by decide) ?_
   walk_at"B"
   refine bmodN 4 (by decide) ?_
   have hel:=ends_len (e.2 / 5)
   refine SubM.lstN (v:=.str (ENDS.getD (e.2 / 5 % 4) [])) (by rw [List.getElem?_map,hel.2]; rfl) (by decide) ?_
   walk_at"B"
   refine bmS ?_ (by rw [List.length_singleton]; omega)
   walk_at"B"
   refine bmS ?_ (by rw [List.length_append,List.length_singleton]; omega)
   walk_at"B"
   rw [if_pos h] at k
   exact k _
  ·rw [if_neg (nf h)] at k
   exact Ss.nil (Ss.nil (k _))
 show Ss _ _ _ _ (LQu z qu (quT qu z) i p) H _
 have hl:=quT_len qu z
 walk_at"B"
 refine bmS ?_ (by rw [List.length_singleton]; exact ar 2 [_,_] (.im (.le .v0 (.a (.m 12 .v1) .n1)) (.im (.le .v1 (.n 1000)) (.le (.a .n1 .v0) (.n 1000000)))) rfl hl hz)
 walk_at"B"
 exact q
noncomputable def SPA:List (List Nat):=[lit "\"",lit "'",lit "(",lit ")",lit "\\",lit "\x7f"]
noncomputable def plU (c:Nat):Bool:=decide (32 < c)&&!((SPA.map V.str).any (eqStr [c]))
noncomputable def padF (k:Nat):List Nat:=PADS.getD (k % 4) []
noncomputable def adT (n:Nat):SW→List Nat
 | []=>padF (n / 4)++[41]
 | e::r=>spF e.1 e.2 (plU e.1) (adT n r)++adT n r
noncomputable def adF (n:Nat) (z:SW):List Nat:=HEADS.getD (n / 16 % 4) []++(padF n++adT n z)
theorem pad_len (k:Nat):(padF k).length≤2∧PADS[k % 4]?=some (padF k):=by
 have:k % 4 < PADS.length:=Nat.mod_lt _ (by decide)
 have h:∀ t∈PADS,t.length≤2:=by decide +kernel
 unfold padF
 rw [List.getD_eq_getElem?_getD,List.getElem?_eq_getElem this]
 exact ⟨h _ (List.getElem_mem this),rfl⟩
theorem head_len (k:Nat):(HEADS.getD (k % 4) []).length≤11∧HEADS[k % 4]?=some (HEADS.getD (k % 4) []):=by
 have:k % 4 < HEADS.length:=Nat.mod_lt _ (by decide)
 have h:∀ t∈HEADS,t.length≤11:=by decide +kernel
 rw [List.getD_eq_getElem?_getD,List.getElem?_eq_getElem this]
 exact ⟨h _ (List.getElem_mem this),rfl⟩
theorem adT_len (n:Nat):∀ z:SW,(adT n z).length≤9 * z.length+3
 | []=>by have:=(pad_len (n / 4)).1; show (padF (n / 4)++[41]).length≤_; rw [List.length_append,List.length_singleton,List.length_nil]; exact ar 1 [_] (.im (.le .v0 (.n 2)) (.le (.a .v0 .n1) (.a (.m 9 .n0) (.n 3)))) rfl this
 | e::r=>by
  have h1:=adT_len n r
  have h2:=spF_len e.1 e.2 (plU e.1) (adT n r)
  show (spF e.1 e.2 (plU e.1) (adT n r)++adT n r).length≤_
  rw [List.length_append,List.length_cons]; exact ar 3 [_,_,_] (.im (.le .v1 (.a (.m 9 .v2) (.n 3))) (.im (.le .v0 (.n 9)) (.le (.a .v0 .v1) (.a (.m 9 (.a .v2 .n1)) (.n 3))))) rfl h1 h2
noncomputable abbrev LAd (z:SW) (n:Nat) (t:List Nat) (i p:V):Loc:=[("signs",sgV z),("ways",wyV z),("n",.int (n:Int)),("text",.str t),("i",i),("plain",p)]
theorem C55 {w:World} {g:Gx} (G:GG w g) {H:AH} {z:SW} {n:Nat} {Q:V→AH→Prop} (hz:z.length≤1000) (hc:∀ q∈z,q.1 < 1114112) (q:Q (.str (adF n z)) H):Call g 4 (.ref 783) [sgV z,wyV z,.int (n:Int)] H Q:=by
 refine Call.def_ (dv:=[]) (D55 G) rfl ⟨rfl,fun _ h=>nomatch h⟩ ?_
 walk_at"n"
 have hz6:∀ f:Nat × Nat→V,(z.map f).length≤1000000:=fun f=>by rw [List.length_map]; exact ar 1 [_] (.im (.le .v0 (.n 1000)) (.le .v0 (.n 1000000))) rfl hz
 refine Ss.consK ?_
 refine S.assignK ?_ (fun _=>rfl)
 walk_at"B"
 refine E.call0 (by walk_at"d") (by walk_at"i") ((C45 G ?_).le (by walk_at"m"))
 walk_at"B"
 refine bdivN 4 (by decide) (by decide) ?_
 walk_at"B"
 refine bmodN 4 (by decide) ?_
 have hp:=pad_len (n / 4)
 refine SubM.lstN (v:=.str (padF (n / 4))) (by rw [List.getElem?_map,hp.2]; rfl) (by decide) ?_
 walk_at"B"
 rw [lit_rp]
 refine bmS ?_ (by rw [List.length_singleton]; omega)
 refine pk3 ?_
 refine Ss.consK ?_
 refine S.forDn (n:=z.length) (L:=fun m=>LAd z n (adT n (z.drop m))) hz (by rw [List.drop_length]; rfl) (fun K k=>down_E hz (by walk_at"d") (by walk_at"d") (by walk_at"d") k) (fun _ _ _ _=>.there (.there (.there (.there .here)))) (fun m p K hm k=>?_) fun i p=>?_
 ·obtain ⟨e,he⟩:=drop_last hm
  rw [he] at k
  obtain ⟨g1,g2⟩:=sg_at he
  have hec:e.1 < 1114112:=hc e (List.mem_of_mem_drop (by rw [he]; exact .head _))
  have htl:=adT_len n (z.drop (m+1))
  rw [List.length_drop] at htl
  replace k:∀ p',K .next (LAd z n (spF e.1 e.2 (plU e.1) (adT n (z.drop (m+1)))++adT n (z.drop (m+1))) (.int (m:Int)) p') H:=k
  show Ss _ _ _ _ (LAd z n (adT n (z.drop (m+1))) (.int (m:Int)) p) H K
  generalize adT n (z.drop (m+1))=t at htl k
  have ht6:t.length≤1000000:=by exact ar 3 [_,_,_] (.im (.le .v0 (.a (.m 9 (.s .v1 (.a .v2 .n1))) (.n 3))) (.im (.le .v1 (.n 1000)) (.le .v0 (.n 1000000)))) rfl htl hz
  refine Ss.consK (S.assignK ?_ (fun _=>rfl))
  refine E.to (.bool (plU e.1)) ?_ ?_
  ·refine E.andB rfl ?_ (fun _=>E.and1 ?_)
   ·walk_at"B"
    refine SubM.lstN g1 (hz6 _) ?_
    walk_at"B"
    rw [show (Str.ofString " ").cps.toList=[32] by decide +kernel]
    exact ⟨congrArg V.bool (lt_one _ _),rfl⟩
   ·walk_at"B"
    refine SubM.lstN g1 (hz6 _) ?_
    walk_at"B"
    refine E.lst ?_
    walk_at"B"
    refine ⟨by decide,?_⟩
    refine CmpM.by (CmpR.lnin _ rfl) ?_
    exact ⟨rfl,rfl⟩
  refine pk5 ?_
  walk_at"B"
  refine SubM.lstN g1 (hz6 _) ?_
  walk_at"B"
  refine SubM.lstN g2 (hz6 _) ?_
  walk_at"B"
  refine (C50 G hec (by omega) ?_).le (by walk_at"m")
  walk_at"B"
  have hsl:=spF_len e.1 e.2 (plU e.1) t
  refine bmS ?_ (by exact ar 4 [_,_,_,_] (.im (.le .v1 (.a (.m 9 (.s .v2 (.a .v3 .n1))) (.n 3))) (.im (.le .v2 (.n 1000)) (.im (.le .v0 (.n 9)) (.le (.a .v0 .v1) (.n 1000000))))) rfl htl hz hsl)
  walk_at"B"
  exact k _
 show Ss _ _ _ _ (LAd z n (adT n z) i p) H _
 have hl:=adT_len n z
 have hh:=head_len (n / 16)
 have hp2:=pad_len n
 walk_at"B"
 refine E.call0 (by walk_at"d") (by walk_at"i") ((C46 G ?_).le (by walk_at"m"))
 walk_at"B"
 refine bdivN 16 (by decide) (by decide) ?_
 walk_at"B"
 refine bmodN 4 (by decide) ?_
 refine SubM.lstN (v:=.str (HEADS.getD (n / 16 % 4) [])) (by rw [List.getElem?_map,hh.2]; rfl) (by decide) ?_
 walk_at"B"
 refine E.call0 (by walk_at"d") (by walk_at"i") ((C45 G ?_).le (by walk_at"m"))
 walk_at"B"
 refine bmodN 4 (by decide) ?_
 refine SubM.lstN (v:=.str (padF n)) (by rw [List.getElem?_map,hp2.2]; rfl) (by decide) ?_
 walk_at"B"
 refine bmS ?_ (by omega)
 walk_at"B"
 refine bmS ?_ (by rw [List.length_append]; omega)
 walk_at"B"
 rw [List.append_assoc]
 exact q
noncomputable def stP (p:Nat × Nat) (b:Bool) (c:Nat):Nat × Nat:=if c==13||(c==12||(c==10&&!b)) then (p.1+1,1) else if c != 10 then (p.1,p.2+1) else p
noncomputable def plcF (p:Nat × Nat) (b:Bool):List Nat→List V
 | []=>[]
 | c::r=>plP p::plcF (stP p b c) (c==13) r
theorem plc_len:∀ (s:List Nat) (p:Nat × Nat) (b:Bool),(plcF p b s).length=s.length
 | [],_,_=>rfl
 | c::r,p,b=>congrArg (·+1) (plc_len r _ _)
inductive JP (s:List Nat) (a:Addr) (H:AH):List V→Loc→AH→Prop
 | mk (done:List V) (r:List Nat) (p:Nat × Nat) (bf:List Nat) (b:Bool) (cv:V) (hb:(bf==[13])=b) (hd:done.length+r.length≤1000) (hF:plcF (1,1) false s=done++plcF p b r) :
  JP s a H (r.map fun c=>.str [c]) [("text",.str s),("places",.ref a),("line",.int (p.1:Int)),("column",.int (p.2:Int)),("before",.str bf),("c",cv)] ((a,.lst done)::H)
theorem C56 {w:World} {g:Gx} (G:GG w g) {H:AH} {s:List Nat} {Q:V→AH→Prop} (hl:s.length≤1000) (q:Q (.lst (plcF (1,1) false s)) H):Call g 1 (.ref 790) [.str s] H Q:=by
 refine Call.def_ (dv:=[]) (D56 G) rfl ⟨rfl,fun _ h=>nomatch h⟩ ?_
 walk_at"n"
 refine Ss.consK ?_
 refine S.assignK ?_ (fun _=>rfl)
 refine E.lstA ?_
 refine Es.nil ?_
 refine ⟨by simp,fun a=>?_⟩
 repeat walk_at"g"
 walk_at"B"
 rw [lit_nil]
 refine S.for_ ?_
 walk_at"B"
 refine ⟨_,rfl,JP s a H,.mk [] s (1,1) [] false .unset rfl (by simpa using hl) rfl,?_,?_⟩
 ·intro v rest lo' H' J
  generalize hr:v::rest=vr at J
  induction J with
  | mk done r p bf b cv hb hd hF =>
   cases r with
   | nil=>cases hr
   | cons c r =>
   cases hr
   have hF:plcF (1,1) false s=done++plP p::plcF (stP p b c) (c==13) r:=hF
   simp only [List.length_cons] at hd
   repeat walk_at"g"
   refine Ss.consK ?_
   walk_at"B"
   refine E.appendH (by walk_at"d") (by exact ar 2 [_,_] (.im (.le (.a .v0 (.a .v1 .n1)) (.n 1000)) (.le .v0 (.n 1000000))) rfl hd) ?_
   walk_at"B"
   refine ⟨rfl,?_⟩
   walk_at"B"
   refine S.to [("text",.str s),("places",.ref a),("line",.int ((stP p b c).1:Int)),("column",.int ((stP p b c).2:Int)),("before",.str bf),("c",.str [c])] ((a,.lst (done++[plP p]))::H) (S.ifb (c==13||(c==12||(c==10&&!b))) ?_ (fun h=>?_) (fun h=>?_)) ?_
   ·refine T.ors rfl ?_ (T.ors rfl ?_ (T.ors (Bool.or_false _) (T.ands rfl ?_ (fun _=>T.ands (Bool.and_true _) ?_ (fun _=>T.ands0))) T.ors0))
    ·walk_at"B"
     exact ⟨eqc_cr c,rfl⟩
    ·walk_at"B"
     exact ⟨eqc_ff c,rfl⟩
    ·walk_at"B"
     exact ⟨eqc_nl c,rfl⟩
    ·walk_at"B"
     rw [show (Str.ofString "\r").cps.toList=[13] by decide +kernel]
     exact ⟨by rw [← hb]; rfl,rfl⟩
   ·walk_at"B"
    refine ⟨rfl,?_,rfl⟩
    unfold stP
    rw [if_pos h]
    rfl
   ·refine Ss.consK ?_
    refine S.ifb (c != 10) ?_ (fun h2=>?_) (fun h2=>?_)
    ·walk_at"B"
     refine ⟨?_,rfl⟩
     exact congrArg (!·) (eqc_nl c)
    ·walk_at"B"
     refine ⟨rfl,?_,rfl⟩
     unfold stP
     rw [if_neg (nf h),if_pos h2]
    ·walk_at"B"
     refine ⟨rfl,?_,rfl⟩
     unfold stP
     rw [if_neg (nf h),if_neg (nf h2)]
   walk_at"B"
   exact .mk (done++[plP p]) r (stP p b c) _ (c==13) _ (by rw [Bool.eq_iff_iff]; simp) (by simp; exact ar 2 [_,_] (.im (.le (.a .v0 (.a .v1 .n1)) (.n 1000)) (.le (.a (.a .v0 .n1) .v1) (.n 1000))) rfl hd) (by rw [hF]; simp)
 ·intro lo' H' J
  generalize hr:[]=vr at J
  induction J with
  | mk done r p bf b cv hb hd hF =>
   cases r with
   | cons=>cases hr
   | nil =>
    have hF:plcF (1,1) false s=done++[]:=hF
    rw [List.append_nil] at hF
    rw [hF] at q
    refine Ss.nil ?_
    refine Ss.freezeH ?_
    walk_at"j"
    walk_at"B"
    exact q
end
noncomputable abbrev Γ58:Fx:={ scope:=scopeAt 58,globs:=[("enumerate",.type "enumerate"),("_law_take",.ref 734),("range",.type "range"),("_law_BETWEEN",.ref 727),("len",.builtin "len"),("_law_SIZES",.ref 706),("_law_named",.ref 769),("_law_starts",.ref 762),("_law_quoted",.ref 776),("_law_addressed",.ref 783),("_law_places",.ref 790),("_law_told",.ref 797),("parse_component_value_list",.ref 628)] }
noncomputable abbrev Γ58C (L:Addr):Fx:={ scope:=scopeAt 58,globs:=[("enumerate",.type "enumerate"),("_law_take",.ref 734),("range",.type "range"),("_law_BETWEEN",.ref 727),("len",.builtin "len"),("_law_SIZES",.ref 706),("_law_named",.ref 769),("_law_starts",.ref 762),("_law_quoted",.ref 776),("_law_addressed",.ref 783),("_law_places",.ref 790),("_law_told",.ref 797),("parse_component_value_list",.ref 628)],cells:=[("places",L+1+1+1),("text",L+1+1),("tape",L+1)] }
theorem cells58 (L:Addr):cellsFrom (L+1) (scopeAt 58).names []=([("places",L+1+1+1),("text",L+1+1),("tape",L+1)]:List (Str × Addr)):=by
 kernel_rfl
theorem at58 (L:Addr):Γ58.at_ L=Γ58C L:=by
 unfold Fx.at_
 rw [cells58]
theorem k58:∀ x∈(["tape","text","places"]:List Str),(scopeAt 58).names.lookup x=some .cell∧(x==("__debug__":Str))=false:=by decide +kernel
noncomputable def sc0:Scope:={ kind:=.function,names:=[(".0",.local),("i",.local),("n",.local)],isGenerator:=false,isCoroutine:=false }
noncomputable def sc1:Scope:={ kind:=.function,names:=[(".0",.local),("_",.local),("_law_take",.globalImplicit),("tape",.free)],isGenerator:=false,isCoroutine:=false }
noncomputable def sc2:Scope:={ kind:=.function,names:=[(".0",.local),("m",.local),("_law_SIGNS",.globalImplicit)],isGenerator:=false,isCoroutine:=false }
noncomputable def sc3:Scope:={ kind:=.function,names:=[(".0",.local),("m",.local)],isGenerator:=false,isCoroutine:=false }
noncomputable def sc4:Scope:={ kind:=.function,names:=[(".0",.local),("name",.local),("size",.local),("told",.local),("len",.globalImplicit),("places",.free),("text",.free)],isGenerator:=false,isCoroutine:=false }
noncomputable abbrev Γ58a:Fx:={ scope:=sc0,globs:=[] }
noncomputable abbrev Γ58t (L:Addr):Fx:={ scope:=relS sc1 (scopeAt 58),globs:=[("_law_take",.ref 734)],cells:=[("tape",L+1)] }
noncomputable abbrev Γ58s:Fx:={ scope:=sc2,globs:=[("_law_SIGNS",.ref 678)] }
noncomputable abbrev Γ58m:Fx:={ scope:=sc3,globs:=[] }
noncomputable abbrev Γ58w (L:Addr):Fx:={ scope:=relS sc4 (scopeAt 58),globs:=[("len",.builtin "len")],cells:=[("text",L+1+1),("places",L+1+1+1)] }
theorem O58a {g:Gx}:CompOk g Γ58a "i":=⟨rfl,by decide +kernel,rfl,by decide +kernel,by decide +kernel,(fun _ h=>nomatch h),rfl⟩
theorem O58s {w:World} {g:Gx} (G:GG w g):CompOk g Γ58s "m":=⟨rfl,by decide +kernel,rfl,by decide +kernel,by decide +kernel,globs_of (by decide +kernel) (G.pick [(false,31)]),rfl⟩
theorem O58m {g:Gx}:CompOk g Γ58m "m":=⟨rfl,by decide +kernel,rfl,by decide +kernel,by decide +kernel,(fun _ h=>nomatch h),rfl⟩
theorem ks58t:(sc1.kind=.function∧(relS sc1 (scopeAt 58)).kind=.function)∧(relS sc1 (scopeAt 58)).names.lookup ("_":Str)=some NameKind.local∧(("_":Str)==("__debug__":Str))=false:=by decide +kernel
theorem O58t {w:World} {g:Gx} (G:GG w g) (L:Addr):CompOkC g (Γ58C L) (Γ58t L) sc1 "_" :=
 ⟨fun env h hk=>relS_ok env h hk,fun env _ hc=>clos_of (hc.resolve_left nofun) rfl,rfl,by decide +kernel,ks58t.1,by decide +kernel,ks58t.2,globs_of (sc:=relS sc1 (scopeAt 58)) (globs:=[("_law_take",.ref 734)]) (by decide +kernel) (G.pick [(false,0)])⟩
theorem ks58w:(sc4.kind=.function∧(relS sc4 (scopeAt 58)).kind=.function)∧(relS sc4 (scopeAt 58)).names.lookup ("name":Str)=some NameKind.local∧(("name":Str)==("__debug__":Str))=false:=by decide +kernel
theorem O58w {w:World} {g:Gx} (G:GG w g) (L:Addr):CompOkC g (Γ58C L) (Γ58w L) sc4 "name" :=
 ⟨fun env h hk=>relS_ok env h hk,fun env _ hc=>clos_of (hc.resolve_left nofun) rfl,rfl,by decide +kernel,ks58w.1,by decide +kernel,ks58w.2,globs_of (sc:=relS sc4 (scopeAt 58)) (globs:=[("len",.builtin "len")]) (by decide +kernel) (G.pick [(true,1)])⟩
theorem kt58:(relS sc1 (scopeAt 58)).names.lookup ("tape":Str)=some .cell∧(("tape":Str)==("__debug__":Str))=false:=by decide +kernel
theorem kw58:∀ x∈(["text","places"]:List Str),(relS sc4 (scopeAt 58)).names.lookup x=some .cell∧(x==("__debug__":Str))=false:=by decide +kernel
theorem loc_of {sc:Scope} {xs:List Str} (h:(decide xs.Nodup&&xs.all fun x=>sc.names.lookup x==some .local&&!(x=="__debug__"))=true):LocOk sc (xs.map fun x=>(x,V.unset)):=by
 rw [Bool.and_eq_true] at h
 refine ⟨by rw [List.map_map]; simpa [Function.comp_def] using of_decide_eq_true h.1,fun p hp=>?_⟩
 obtain ⟨x,hx,rfl⟩:=List.mem_map.mp hp
 have:=List.all_eq_true.mp h.2 x hx
 rw [Bool.and_eq_true,beq_iff_eq,Bool.not_eq_true'] at this
 exact this
noncomputable abbrev H58 (L:Addr) (pv xv tv:V) (T:AH):AH:=(L+1+1+1,.cell pv)::(L+1+1,.cell xv)::(L+1,.cell tv)::T
noncomputable abbrev lo58 (l:Addr) (jn jp jd jr js jw jk jb ja jv jq ju jo jt jz:V):Loc:=[("script",.glo (.ref l)),("n",jn),("plan",jp),("draws",jd),("rows",jr),("signs",js),("ways",jw),("kind",jk),("between",jb),("name",ja),("value",jv),("place",jq),("number",ju),("worth",jo),("told",jt),("wanted",jz)]
theorem locOk58 (l:Addr):LocOk Γ58.scope (lo58 l .unset .unset .unset .unset .unset .unset .unset .unset .unset .unset .unset .unset .unset .unset .unset):=by
 have h:∀ x∈(["script","n","plan","draws","rows","signs","ways","kind","between","name","value","place","number","worth","told","wanted"]:List Str),Γ58.scope.names.lookup x=some .local∧(x==("__debug__":Str))=false:=by decide +kernel
 have nd:(["script","n","plan","draws","rows","signs","ways","kind","between","name","value","place","number","worth","told","wanted"]:List Str).Nodup:=by decide +kernel
 exact ⟨nd,fun p hp=>h p.1 (List.mem_map_of_mem (f:=(·.1)) hp)⟩
noncomputable def kN (n:Nat):Nat:=n / 8 % 4+(if n % 8 < 5 then 1 else 0)
noncomputable def drF:Nat→List Nat→List Nat
 | 0,_=>[]
 | k+1,t=>t.headD 0::drF k t.tail
noncomputable def sgF (m:Nat):Nat × Nat:=(sig5.getD (m % 40) 0,m / 40)
noncomputable def entF (t:List Nat):Nat × SW:=(t.headD 0,(drF (kN (t.headD 0)) t.tail).map sgF)
noncomputable def rstF (t:List Nat):List Nat:=t.tail.drop (kN (t.headD 0))
noncomputable def planF:Nat→List Nat→List (Nat × SW)
 | 0,_=>[]
 | f+1,t=>if t==[] then [] else entF t::planF f (rstF t)
noncomputable def planA (t:List Nat):List (Nat × SW):=if t==[] then [entF []] else planF 24 t
noncomputable def entV (e:Nat × SW):V:=.tup [vN e.1,sgV e.2,wyV e.2]
noncomputable def cost (es:List (Nat × SW)):Nat:=(es.map fun e=>1+e.2.length).sum
theorem dr_len:∀ (k:Nat) (t:List Nat),(drF k t).length=k
 | 0,_=>rfl
 | k+1,t=>congrArg (·+1) (dr_len k _)
theorem kN_le (n:Nat):kN n≤4:=by unfold kN; split <;> omega
theorem rst_len {t:List Nat} {f:Nat} (h:t.length≤f+1):(rstF t).length≤f:=by
 unfold rstF
 rw [List.length_drop,List.length_tail]; exact ar 3 [_,_,_] (.im (.le .v0 (.a .v2 .n1)) (.le (.s (.s .v0 .n1) .v1) .v2)) rfl h
theorem cost_cons (e:Nat × SW) (es:List (Nat × SW)):cost (e::es)=1+e.2.length+cost es:=by
 unfold cost; rw [List.map_cons,List.sum_cons]
theorem cost_plan:∀ (f:Nat) (t:List Nat),cost (planF f t)≤t.length+4
 | 0,_=>Nat.zero_le _
 | f+1,[]=>Nat.zero_le _
 | f+1,n::t=>by
  have ih:=cost_plan f (rstF (n::t))
  have h:planF (f+1) (n::t)=entF (n::t)::planF f (rstF (n::t)):=rfl
  have hk:=kN_le n
  rw [h,cost_cons]
  have e1:(entF (n::t)).2.length=kN n:=by show (List.map sgF (drF (kN n) t)).length=_; rw [List.length_map,dr_len]
  have e2:(rstF (n::t)).length=t.length - kN n:=by show (t.drop (kN n)).length=_; rw [List.length_drop]
  rw [e1,List.length_cons]
  rw [e2] at ih
  by_cases hc:kN n≤t.length
  ·exact ar 3 [_,_,_] (.im (.le .v1 (.a (.s .v2 .v0) (.n 4))) (.im (.le .v0 .v2) (.le (.a (.a .n1 .v0) .v1) (.a (.a .v2 .n1) (.n 4))))) rfl ih hc
  ·have:rstF (n::t)=[]:=List.length_eq_zero_iff.mp (by rw [e2]; exact ar 2 [_,_] (.im (.nt (.le .v1 .v0)) (.eq (.s .v0 .v1) .n0)) rfl hc)
   rw [this]
   have:cost (planF f [])=0:=by cases f <;> rfl
   exact ar 3 [_,_,_] (.im (.eq .v1 .n0) (.im (.le .v0 (.n 4)) (.le (.a (.a .n1 .v0) .v1) (.a (.a .v2 .n1) (.n 4))))) rfl this hk
theorem sig5_lt:∀ c∈sig5,c < 1114112∧c≠0:=by decide +kernel
theorem sgF_ok (m:Nat):(sgF m).1∈sig5:=by
 unfold sgF
 have:m % 40 < sig5.length:=Nat.mod_lt _ (by decide)
 rw [List.getD_eq_getElem?_getD,List.getElem?_eq_getElem this]
 exact List.getElem_mem this
noncomputable def entOk (e:Nat × SW):Prop:=(∀ q∈e.2,q.1∈sig5)∧e.2.length≤4∧(e.1 % 8 < 5→e.2≠[])
theorem ent_ok (t:List Nat):entOk (entF t):=by
 refine ⟨fun q hq=>?_,?_,fun h=>?_⟩
 ·obtain ⟨m,_,rfl⟩:=List.mem_map.mp hq
  exact sgF_ok m
 ·show (List.map _ _).length≤4
  rw [List.length_map,dr_len]; exact kN_le _
 ·intro e
  have h1:(List.map sgF (drF (kN (t.headD 0)) t.tail)).length=0:=congrArg List.length e
  rw [List.length_map,dr_len] at h1
  unfold kN at h1
  rw [if_pos (show t.headD 0 % 8 < 5 from h)] at h1
  omega
theorem plan_ok:∀ (f:Nat) (t:List Nat),∀ e∈planF f t,entOk e
 | 0,_,e,h=>nomatch h
 | f+1,[],e,h=>nomatch h
 | f+1,n::t,e,h=>by
  have h':e∈entF (n::t)::planF f (rstF (n::t)):=h
  rcases List.mem_cons.mp h' with rfl | h'
  ·exact ent_ok _
  ·exact plan_ok f _ e h'
theorem planA_ok {t:List Nat} (hl:t.length≤24):(∀ e∈planA t,entOk e)∧cost (planA t)≤28:=by
 unfold planA
 split
 ·exact ⟨fun e he=>by rw [List.mem_singleton.mp he]; exact ent_ok _,by decide +kernel⟩
 ·exact ⟨plan_ok 24 t,Nat.le_trans (cost_plan 24 t) (by exact ar 1 [_] (.im (.le .v0 (.n 24)) (.le (.a .v0 (.n 4)) (.n 28))) rfl hl)⟩
section
set_option genInjectivity false
set_option genSizeOf false
theorem fmod_toNat (i:Int) {k:Nat} (hk:0 < k):i.fmod (k:Int)=(((i.fmod (k:Int)).toNat:Nat):Int):=by
 have h0:0≤i.fmod (k:Int):=Int.fmod_nonneg_of_pos _ (by exact ar 1 [_] (.im (.lt .n0 .v0) (.ilt .n0 .v0)) rfl hk)
 exact (Int.toNat_of_nonneg h0).symm
noncomputable def tpF (k:Nat):List Int→List Nat
 | []=>[]
 | z::r=>((z * 101+7 * (k:Int)).fmod (1000003:Nat)).toNat::tpF (k+1) r
theorem tp_len:∀ (zs:List Int) (k:Nat),(tpF k zs).length=zs.length
 | [],_=>rfl
 | z::r,k=>congrArg (·+1) (tp_len r _)
inductive JTp (zs:List Int) (H:AH):List V→List V→Loc→AH→Prop
 | mk (k:Nat) (us:List Int) (done:List Nat) (u v:V) (ht:done++tpF k us=tpF 0 zs):JTp zs H (enumV k (us.map V.int)) (done.map vN) [("i",u),("n",v)] H
theorem law_tape {w:World} {g:Gx} (G:GG w g) {L l:Addr} {xs:List Value} {zs:List Int} {rest:List Stmt} {H:AH} {lo:Loc} {Q:R→Loc→AH→Prop} {jp jx jt:V} (hB:g.B.IsList l xs.toArray) (hi:∀ M,IsAll M xs (zs.map V.int)) (hlen:xs.length≤63) (hm:(("script":Str),V.glo (.ref l))∈lo)
  (q:∀ (a:Addr) (t:List Nat),t.length≤24→Ss g (Γ58C L) 60 rest lo ((a,.lst (t.map vN))::H58 L jp jx (.ref a) H) Q):Ss g (Γ58C L) 60 ((bodyAt 58).take 1++rest) lo (H58 L jp jx jt H) Q:=by
 refine Ss.consK ?_
 refine S.assignC (a:=L+1) rfl (k58 _ (by decide +kernel)).1 ?_ fun env h=>swaps_cell h
 refine E.compEnum (Γ':=Γ58a) O58a.toC (xs:=["i","n"]) (loc_of (by decide +kernel)) (by walk_at"d") ?_
 refine E.sliceG hB hi (by exact ar 1 [_] (.im (.le .v0 (.n 63)) (.le .v0 (.n 1000000))) rfl hlen) ?_
 refine E.loc hm (by nofun) ?_
 refine ⟨rfl,?_⟩
 show Part _ _ _ _ _ _ _
 refine E.int ⟨_,.int _,?_⟩
 have e24:slc (zs.map V.int) none (some 24)=(zs.take 24).map V.int:=by
  rw [show (24:Int)=((24:Nat):Int) from rfl,slc_to,List.map_take]
 have hl24:(zs.take 24).length≤24:=by rw [List.length_take]; exact ar 1 [_] (.le (.i (.n 24) .v0) (.n 24)) rfl
 refine ⟨(zs.take 24).map V.int,by rw [← e24],by rw [List.length_map]; exact ar 1 [_] (.im (.le .v0 (.n 24)) (.le .v0 (.n 1000000))) rfl hl24,JTp (zs.take 24) (H58 L jp jx jt H),.mk 0 _ [] _ _ rfl,?_,?_⟩
 ·intro v rest out lo' H' J
  generalize hr:v::rest=vr at J
  induction J with
  | mk k us done u u' ht =>
  cases us with
  | nil=>cases hr
  | cons z us =>
  obtain ⟨rfl,rfl⟩:=List.cons.inj hr
  refine ⟨_,Bd.tup (by repeat constructor) (.cons .here (.cons (.there .here) .nil)),fun acc=>?_⟩
  walk_at"B"
  refine ⟨_,.imul (IntMulOk.of_right (by decide +kernel)),?_⟩
  walk_at"B"
  refine ⟨_,.imul (IntMulOk.of_left (by decide +kernel)),?_⟩
  walk_at"B"
  refine bm4 ?_ (by decide)
  refine ⟨_,rfl,?_⟩
  rw [show (1000003:Int)=((1000003:Nat):Int) from rfl,fmod_toNat _ (by decide),show done.map vN++[V.int (((z * 101+7 * (k:Int)).fmod ((1000003:Nat):Int)).toNat:Int)]=(done++[((z * 101+7 * (k:Int)).fmod ((1000003:Nat):Int)).toNat]).map vN by rw [List.map_append]; rfl]
  exact .mk (k+1) us _ _ _ (by rw [← ht,List.append_assoc]; rfl)
 ·intro out lo' H' J acc
  generalize hr:[]=vr at J
  induction J with
  | mk k us done u u' ht =>
  cases us with
  | cons z us=>cases hr
  | nil =>
  have ht:done++[]=tpF 0 (zs.take 24):=ht
  rw [List.append_nil] at ht
  subst ht
  refine ⟨_,_,.there (.there (.there .here)),?_⟩
  exact q acc _ (by rw [tp_len]; exact hl24)
theorem cTape {g:Gx} {L a:Addr} {d:Nat} {lo:Loc} {H:AH} {pos:Pos} {Q:V→AH→Prop} (hm:(L+1,MO.cell (.ref a))∈H) (q:Q (.ref a) H):E g (Γ58C L) d (.Name "tape" pos) lo H Q:=E.cell (v:=.ref a) (a:=L+1) rfl (k58 _ (by decide +kernel)) hm nofun q
theorem cText {g:Gx} {L:Addr} {d:Nat} {lo:Loc} {H:AH} {pos:Pos} {X:List Nat} {Q:V→AH→Prop} (hm:(L+1+1,MO.cell (.str X))∈H) (q:Q (.str X) H):E g (Γ58C L) d (.Name "text" pos) lo H Q:=E.cell (v:=.str X) (a:=L+1+1) rfl (k58 _ (by decide +kernel)) hm nofun q
theorem dr_drop (k:Nat) (t:List Nat):t.tail.drop k=t.drop (k+1):=by cases t <;> simp
noncomputable def vI:V→Int
 | .int i=>i
 | _=>0
noncomputable def sgnV (u:V):V:=.str [(sgF (vI u).toNat).1]
noncomputable def wyyV (u:V):V:=vN ((vI u).toNat / 40)
inductive JPl (l b a:Addr) (t0:List Nat) (jr js jw jk jb ja jv jq ju jo jt jz jp jx:V) (L:Addr) (TT:AH):Nat→Loc→AH→Prop
 | mk (pl:List (Nat × SW)) (t:List Nat) (nv dv:V) (hb:pl.length+t.length≤25) (ht:t.length≤24) (hp:if t.isEmpty&&pl.isEmpty then planA t0=[entF []] else ∃ f,t.length≤f∧pl++planF f t=planA t0) :
  JPl l b a t0 jr js jw jk jb ja jv jq ju jo jt jz jp jx L TT (t.length+(if pl.isEmpty then 1 else 0)) (lo58 l nv (.ref b) dv jr js jw jk jb ja jv jq ju jo jt jz) ((b,.lst (pl.map entV))::(a,.lst (t.map vN))::H58 L jp jx (.ref a) TT)
inductive JDr (b a:Addr) (bv:MO) (n:Nat) (T:List Nat) (H:AH):List V→List V→Loc→AH→Prop
 | mk (done t':List Nat) (u:V) (rest:List V) (hd:done++drF rest.length t'=drF n T) (hr:t'.drop rest.length=T.drop n) (hl:t'.length≤24):JDr b a bv n T H rest (done.map vN) [("_",u)] ((b,bv)::(a,.lst (t'.map vN))::H)
set_option maxHeartbeats 4000000 in
theorem law_plan {w:World} {g:Gx} (G:GG w g) {L l a:Addr} {t0:List Nat} {rest:List Stmt} {TT:AH} {Q:R→Loc→AH→Prop} {jp jx:V} {jn jd jr js jw jk jb ja jv jq ju jo jt jz:V} (h24:t0.length≤24)
  (q:∀ b nv dv,Ss g (Γ58C L) 60 rest (lo58 l nv (.ref b) dv jr js jw jk jb ja jv jq ju jo jt jz) ((b,.lst ((planA t0).map entV))::(a,.lst [])::H58 L jp jx (.ref a) TT) Q) :
  Ss g (Γ58C L) 60 (((bodyAt 58).drop 1).take 2++rest) (lo58 l jn .unset jd jr js jw jk jb ja jv jq ju jo jt jz) ((a,.lst (t0.map vN))::H58 L jp jx (.ref a) TT) Q:=by
 refine Ss.consK ?_
 refine S.assignK ?_ (fun _=>rfl)
 refine E.lstA ?_
 refine Es.nil ?_
 refine ⟨by simp,fun b=>?_⟩
 repeat walk_at"g"
 refine Ss.consK ?_
 refine S.while_ (JPl l b a t0 jr js jw jk jb ja jv jq ju jo jt jz jp jx L TT) ?_ _ (.mk [] t0 _ _ (by simp; exact ar 1 [_] (.im (.le .v0 (.n 24)) (.le .v0 (.n 25))) rfl h24) h24 ?_)
 ·intro m lo' H' J
  induction J with
  | mk pl t nv dv hb ht hp =>
  refine T.to (!t.isEmpty||pl.isEmpty) (T.ors rfl ?_ (T.ors (Bool.or_false _) (T.not ?_) T.ors0)) ?_
  ·refine T.liveE (cTape (by walk_at"d") ⟨a,_,rfl,.there .here,by rw [List.length_map]; exact ar 2 [_,_] (.im (.le (.a .v1 .v0) (.n 25)) (.le .v0 (.n 1000000))) rfl hb,?_⟩)
   exact ⟨by cases t <;> rfl,rfl⟩
  ·refine T.liveE (E.loc (v:=.ref b) (by walk_at"d") (by nofun) ⟨b,_,rfl,.here,by rw [List.length_map]; exact ar 2 [_,_] (.im (.le (.a .v0 .v1) (.n 25)) (.le .v0 (.n 1000000))) rfl hb,?_⟩)
   exact ⟨by cases pl <;> rfl,rfl⟩
  walk_at"l"
  ·rename_i hc
   refine Ss.consK ?_
   refine S.assignK ?_ (fun _=>rfl)
   walk_at"B"
   refine cTape (by walk_at"d") ?_
   walk_at"B"
   refine (C48 G (t:=t) (by exact ar 2 [_,_] (.im (.le (.a .v1 .v0) (.n 25)) (.le .v0 (.n 1000))) rfl hb) (.there .here) ?_).le (by walk_at"m")
   walk_at"B"
   generalize hn:t.headD 0=n
   have hk4:=kN_le n
   refine S.compJ (Γ':=Γ58t L) (O58t G L) (xs:=["_"]) (loc_of (sc:=relS sc1 (scopeAt 58)) (by decide +kernel)) (.inl ⟨_,_,rfl⟩) ?_ (by intro env he; unfold swapsWith Env.blockKind Env.kindOf; rw [he]; with_unfolding_all rfl)
   walk_at"B"
   refine bdivN 8 (by decide) (by decide) ?_
   walk_at"B"
   refine bmodN 4 (by decide) ?_
   refine E.to (.int ((if n % 8 < 5 then 1 else 0:Nat):Int)) ?_ ?_
   ·refine E.ifeb (decide (n % 8 < 5)) ?_ (fun h=>?_) (fun h=>?_)
    ·walk_at"B"
     refine bmodN 8 (by decide) ?_
     walk_at"B"
     exact ⟨decide_eq_decide.mpr (by omega),rfl⟩
    ·rw [if_pos (of_decide_eq_true h)]
     exact E.int ⟨rfl,rfl⟩
    ·rw [if_neg (of_decide_eq_false h)]
     exact E.int ⟨rfl,rfl⟩
   refine bmN ?_
   refine Es.nil ?_
   refine CB.range ?_
   refine ⟨_,items_range (n:=kN n) (by exact ar 1 [_] (.im (.le .v0 (.n 4)) (.le .v0 (.n 1000))) rfl hk4),by simp; exact ar 1 [_] (.im (.le .v0 (.n 4)) (.le .v0 (.n 1000000))) rfl hk4,JDr b a (.lst (pl.map entV)) (kN n) t.tail (H58 L jp jx (.ref a) TT),.mk [] t.tail _ _ (by simp) (by simp) (by rw [List.length_tail]; exact ar 2 [_,_] (.im (.le (.a .v1 .v0) (.n 25)) (.le (.s .v0 .n1) (.n 24))) rfl hb),?_,?_⟩
   ·intro v rest out lo' H' J
    generalize hvr:v::rest=vr at J
    induction J with
    | mk done t' u rest' hd hr hl' =>
    subst hvr
    refine ⟨_,Bd.name .here,fun acc=>?_⟩
    walk_at"B"
    refine E.cell (v:=.ref a) (a:=L+1) rfl kt58 (by walk_at"d") nofun ?_
    walk_at"B"
    refine (C48 G (t:=t') (by exact ar 1 [_] (.im (.le .v0 (.n 24)) (.le .v0 (.n 1000))) rfl hl') (.there (.there .here)) ?_).le (by walk_at"m")
    refine ⟨_,rfl,?_⟩
    rw [show done.map vN++[V.int ((t'.headD 0:Nat):Int)]=(done++[t'.headD 0]).map vN by rw [List.map_append]; rfl]
    exact .mk _ t'.tail _ rest (by rw [← hd,List.append_assoc]; rfl) (by rw [← hr,dr_drop]; rfl) (by rw [List.length_tail]; exact ar 1 [_] (.im (.le .v0 (.n 24)) (.le (.s .v0 .n1) (.n 24))) rfl hl')
   intro out lo' H' J
   generalize hvr:[]=vr at J
   induction J with
   | mk done t' u rest' hd hr hl' =>
   subst hvr
   have hd:done++[]=drF (kN n) t.tail:=hd
   rw [List.append_nil] at hd
   have hr:t'=t.tail.drop (kN n):=hr
   subst hd; subst hr
   walk_at"B"
   obtain ⟨sxs,sn,hsl,hsi⟩:=G.hK.sig
   have hsB:g.B.IsList 678 sxs.toArray:=⟨_,G.ok.kin _ _ hsl,rfl,sn,rfl⟩
   have hs40:sxs.length=40:=by have:=(hsi (fun _ _=>False)).length; rw [this]; decide +kernel
   have hds:=dr_len (kN n) t.tail
   have hent:entF t=(n,(drF (kN n) t.tail).map sgF):=by unfold entF; rw [hn]
   have hrst:rstF t=t.tail.drop (kN n):=by unfold rstF; rw [hn]
   generalize drF (kN n) t.tail=ds at hds hent
   refine E.appendH (by walk_at"d") (by rw [List.length_map]; exact ar 2 [_,_] (.im (.le (.a .v0 .v1) (.n 25)) (.le .v0 (.n 1000000))) rfl hb) ?_
   walk_at"B"
   refine E.comp (Γ':=Γ58s) (O58s G) ?_
   refine E.loc (v:=.lst (ds.map vN)) (by walk_at"d") (by nofun) ?_
   refine ⟨_,sgnV,rfl,by rw [List.length_map]; exact ar 2 [_,_] (.im (.eq .v0 .v1) (.im (.le .v1 (.n 4)) (.le .v0 (.n 1000000)))) rfl hds hk4,?_,?_⟩
   ·intro u hu H'
    obtain ⟨m,hm,rfl⟩:=List.mem_map.mp hu
    refine E.idxG hsB hsi (by exact ar 1 [_] (.im (.eq .v0 (.n 40)) (.le .v0 (.n 1000000))) rfl hs40) ?_
    refine E.glo (by walk_at"d") ?_
    refine ⟨rfl,?_⟩
    unfold vN
    walk_at"B"
    refine bmodN 40 (by decide) ?_
    refine ⟨_,_,rfl,?_,rfl,rfl⟩
    have h40:m % 40 < sig5.length:=Nat.mod_lt _ (by decide)
    unfold sigTab
    rw [List.getElem?_map]
    show _=some (V.str [sig5.getD (m % 40) 0])
    rw [List.getD_eq_getElem?_getD,List.getElem?_eq_getElem h40]
    rfl
   walk_at"B"
   refine E.comp (Γ':=Γ58m) O58m ?_
   refine E.loc (v:=.lst (ds.map vN)) (by walk_at"d") (by nofun) ?_
   refine ⟨_,wyyV,rfl,by rw [List.length_map]; exact ar 2 [_,_] (.im (.eq .v0 .v1) (.im (.le .v1 (.n 4)) (.le .v0 (.n 1000000)))) rfl hds hk4,?_,?_⟩
   ·intro u hu H'
    obtain ⟨m,hm,rfl⟩:=List.mem_map.mp hu
    unfold vN
    walk_at"B"
    refine bdivN 40 (by decide) (by decide) ?_
    exact ⟨rfl,rfl⟩
   walk_at"B"
   rw [show V.tup [V.int (n:Int),V.lst (List.map sgnV (ds.map vN)),V.lst (List.map wyyV (ds.map vN))]=entV (entF t) by
    rw [hent]; unfold entV sgV wyV; rw [List.map_map,List.map_map,List.map_map,List.map_map]; rfl]
   refine ⟨rfl,?_⟩
   walk_at"B"
   have hrl:(rstF t).length≤t.length - 1:=by rw [hrst,List.length_drop,List.length_tail]; exact ar 2 [_,_] (.le (.s (.s .v0 .n1) .v1) (.s .v0 .n1)) rfl
   have hne:(rstF t).length+(if (pl++[entF t]).isEmpty then 1 else 0)=(rstF t).length:=by cases pl <;> rfl
   refine ⟨(rstF t).length,?_,?_⟩
   ·cases t with
    | nil =>
     cases pl with
     | nil=>exact Nat.lt_of_le_of_lt hrl (by decide)
     | cons e pl=>exact absurd hc (by simp)
    | cons x t=>simp only [List.length_cons] at hrl ⊢; exact ar 3 [_,_,_] (.im (.le .v0 (.s (.a .v1 .n1) .n1)) (.lt .v0 (.a (.a .v1 .n1) .v2))) rfl hrl
   rw [← hne,show pl.map entV++[entV (entF t)]=(pl++[entF t]).map entV by rw [List.map_append]; rfl,← hrst]
   refine .mk (pl++[entF t]) (rstF t) _ _ ?_ ?_ ?_
   ·rw [List.length_append,List.length_singleton]
    cases t with
    | nil =>
     cases pl with
     | nil=>simp only [List.length_nil] at hrl ⊢; omega
     | cons e pl=>exact absurd hc (by simp)
    | cons x t=>simp only [List.length_cons] at hrl hb ⊢; exact ar 3 [_,_,_] (.im (.le (.a .v0 (.a .v2 .n1)) (.n 25)) (.im (.le .v1 (.s (.a .v2 .n1) .n1)) (.le (.a (.a .v0 .n1) .v1) (.n 25)))) rfl hb hrl
   ·exact ar 3 [_,_,_] (.im (.le (.a .v1 .v2) (.n 25)) (.im (.le .v0 (.s .v2 .n1)) (.le .v0 (.n 24)))) rfl hb hrl
   ·rw [if_neg (by cases pl <;> simp)]
    cases t with
    | nil =>
     cases pl with
     | cons e pl=>exact absurd hc (by simp)
     | nil =>
      have hp:planA t0=[entF []]:=hp
      rw [hp]
      exact ⟨0,by simpa using hrl,rfl⟩
    | cons x t =>
     have hp:∃ f,(x::t).length≤f∧pl++planF f (x::t)=planA t0:=hp
     obtain ⟨f,hf,hp⟩:=hp
     cases f with
     | zero=>cases hf
     | succ f =>
      refine ⟨f,rst_len hf,?_⟩
      rw [← hp,List.append_assoc]; rfl
  ·rename_i hc
   refine Ss.nil ?_
   cases t with
   | cons n t=>exact absurd rfl hc
   | nil =>
    cases pl with
    | nil=>exact absurd rfl hc
    | cons e pl =>
     rw [if_neg (by simp)] at hp
     obtain ⟨f,_,hp⟩:=hp
     have:planF f []=[]:=by cases f <;> rfl
     rw [this,List.append_nil] at hp
     rw [hp]
     exact q _ _ _
 ·cases t0 with
  | nil=>rfl
  | cons n t=>exact ⟨24,h24,rfl⟩
end
noncomputable abbrev Row:=List Nat × Nat × V
noncomputable def rwV (r:Row):V:=.tup [.str r.1,.int (r.2.1:Int),r.2.2]
noncomputable def betF (n:Nat):List Nat × List Nat × List Nat:=BETW.getD (n / 64 % 6) ([],[],[])
noncomputable def btwB (n:Nat) (X:List Nat):Bool:=!X.isEmpty||n / 32 % 2 != 0
noncomputable def btwF (n:Nat) (s:List Nat × List Row):List Nat × List Row:=if btwB n s.1 then ((betF n).1++s.1,((betF n).2.1,((betF n).1++s.1).length,.str (betF n).2.2)::s.2) else s
noncomputable def sizF (n:Nat):List Nat × V:=SIZES.getD (n / 512 % 6) ([],.none)
noncomputable def plcN (k:Nat):List Nat:=if k=3 then lit "hash" else if k=4 then lit "size" else lit "name"
noncomputable def kndF (k:Nat):List Nat:=if k=0 then lit "ident" else if k=1 then lit "function" else if k=2 then lit "at-keyword" else if k=3 then lit "hash" else lit "dimension"
noncomputable def tldF (k:Nat) (val num:List Nat) (wv:V) (st:Bool):V:=if k=0 then .str val else if k=1 then .tup [.str val,.int 0] else if k=2 then .str val else if k=3 then .tup [.str val,.bool st] else .tup [.str num,wv,.str val]
noncomputable def preF (k:Nat) (num:List Nat):List Nat:=if k=0 then lit "" else if k=1 then lit "" else if k=2 then lit "@" else if k=3 then lit "#" else num
noncomputable def sufF (k:Nat):List Nat:=if k=1 then lit "()" else []
noncomputable def valF (z:SW):List Nat:=z.map (·.1)
noncomputable def namK (n:Nat) (z:SW) (X:List Nat):List Nat:=namF (plcN (n % 8)) (sufF (n % 8)++X) z
noncomputable def quoF (k:Nat):Nat:=if k=5 then 34 else 39
noncomputable def pcF (n:Nat) (z:SW) (X:List Nat):List Nat × List Nat × V :=
 if n % 8 < 5 then (preF (n % 8) (sizF n).1++(namK n z X++sufF (n % 8)),kndF (n % 8),tldF (n % 8) (valF z) (sizF n).1 (sizF n).2 (startsF (namK n z X)))
 else if n % 8 < 7 then (quoF (n % 8)::quT (quoF (n % 8)) z,lit "string",.str (valF z))
 else (adF (n / 512) z,lit "url",.str (valF z))
noncomputable def putF (p:List Nat × List Nat × V) (s:List Nat × List Row):List Nat × List Row:=(p.1++s.1,(p.2.1,(p.1++s.1).length,p.2.2)::s.2)
noncomputable def stepF (s:List Nat × List Row) (e:Nat × SW):List Nat × List Row:=putF (pcF e.1 e.2 (btwF e.1 s).1) (btwF e.1 s)
noncomputable def forB:List Stmt:=(stV (hdS ((bodyAt 58).drop 5))).2.1
noncomputable abbrev HL (L r b a:Addr) (jp:V) (X:List Nat) (R:List Row) (pl:List V) (TT:AH):AH:=(r,.lst (R.reverse.map rwV))::(b,.lst pl)::(a,.lst [])::H58 L jp (.str X) (.ref a) TT
theorem bet_at (n:Nat):(BETW.map betV)[n / 64 % 6]?=some (betV (betF n))∧(betF n).1.length≤4∧betF n∈BETW:=by
 have h6:n / 64 % 6 < BETW.length:=Nat.mod_lt _ (by decide)
 have hl:∀ t∈BETW,t.1.length≤4:=by decide +kernel
 unfold betF
 rw [List.getElem?_map,List.getD_eq_getElem?_getD,List.getElem?_eq_getElem h6]
 exact ⟨rfl,hl _ (List.getElem_mem h6),List.getElem_mem h6⟩
theorem law_btw {w:World} {g:Gx} (G:GG w g) {L l r b a:Addr} {n:Nat} {X:List Nat} {R:List Row} {pl:List V} {TT:AH} {jp jpl jd js jw jk jb ja jv jq ju jo jt jz:V} {Q:Internal.R→Loc→AH→Prop} (hX:X.length≤600) (hR:R.length≤600) (q:∀ jb ja jv,Q .next (lo58 l (.int (n:Int)) jpl jd (.ref r) js jw jk jb ja jv jq ju jo jt jz) (HL L r b a jp (btwF n (X,R)).1 (btwF n (X,R)).2 pl TT)) :
  S g (Γ58C L) 60 (hdS (forB.drop 1)) (lo58 l (.int (n:Int)) jpl jd (.ref r) js jw jk jb ja jv jq ju jo jt jz) (HL L r b a jp X R pl TT) Q:=by
 obtain ⟨b1,b2,_⟩:=bet_at n
 refine S.ifb (btwB n X) ?_ (fun h=>?_) (fun h=>?_)
 ·refine T.ors rfl ?_ (T.ors (Bool.or_false _) ?_ T.ors0)
  ·refine T.ofK (cText (by walk_at"d") ?_) (fun _=>rfl)
   exact ⟨_,.str (by exact ar 1 [_] (.im (.le .v0 (.n 600)) (.lt .v0 (.n 4611686018427387904))) rfl hX),rfl,rfl⟩
  ·walk_at"B"
   refine bdivN 32 (by decide) (by decide) ?_
   walk_at"B"
   refine bmodN 2 (by decide) ?_
   walk_at"B"
   exact ⟨int_nz _,rfl⟩
 ·rw [show btwF n (X,R)=(_,_) from if_pos h] at q
  replace q:∀ jb ja jv,Q .next (lo58 l (.int (n:Int)) jpl jd (.ref r) js jw jk jb ja jv jq ju jo jt jz) (HL L r b a jp ((betF n).1++X) (((betF n).2.1,((betF n).1++X).length,.str (betF n).2.2)::R) pl TT):=q
  unfold HL at q
  rw [List.reverse_cons,List.map_append] at q
  refine Ss.consK ?_
  refine S.unpackK ["between","name","value"] (by repeat constructor) ?_
  walk_at"B"
  refine E.call0 (by walk_at"d") (by walk_at"i") ((C47 G ?_).le (by walk_at"m"))
  walk_at"B"
  refine bdivN 64 (by decide) (by decide) ?_
  walk_at"B"
  refine bmodN 6 (by decide) ?_
  refine SubM.lstN b1 (by decide) ?_
  unfold betV
  refine unp_tup ?_
  iterate 3 (refine pa_consK ?_; repeat walk_at"g")
  refine pa_nil ?_
  refine Ss.consK ?_
  refine S.assignC (a:=L+1+1) rfl (k58 _ (by decide +kernel)).1 ?_ (fun _ _=>rfl)
  walk_at"B"
  refine cText (by walk_at"d") ?_
  refine bmS ?_ (by exact ar 2 [_,_] (.im (.le .v0 (.n 4)) (.im (.le .v1 (.n 600)) (.le (.a .v0 .v1) (.n 1000000)))) rfl b2 hX)
  refine ⟨_,_,.there (.there (.there (.there .here))),?_⟩
  have hbl:((betF n).1++X).length≤604:=by rw [List.length_append]; exact ar 2 [_,_] (.im (.le .v0 (.n 4)) (.im (.le .v1 (.n 600)) (.le (.a .v0 .v1) (.n 604)))) rfl b2 hX
  walk_at"B"
  refine E.appendH (by walk_at"d") (by rw [List.length_map,List.length_reverse]; exact ar 1 [_] (.im (.le .v0 (.n 600)) (.le .v0 (.n 1000000))) rfl hR) ?_
  walk_at"B"
  refine cText (by walk_at"d") ?_
  walk_at"B"
  refine CB.len_str (by exact ar 1 [_] (.im (.le .v0 (.n 604)) (.lt .v0 (.n 4611686018427387904))) rfl hbl) ?_
  walk_at"B"
  refine ⟨rfl,?_⟩
  walk_at"B"
  exact q _ _ _
 ·rw [show btwF n (X,R)=(X,R) from if_neg (nf h)] at q
  exact Ss.nil (q _ _ _)
theorem sel5 {a b c d e:V} {k:Nat} (f:Nat→V) (hk:k < 5) (h0:f 0=a) (h1:f 1=b) (h2:f 2=c) (h3:f 3=d) (h4:f 4=e):([a,b,c,d,e]:List V)[k]?=some (f k):=by
 subst h0; subst h1; subst h2; subst h3; subst h4
 match k,hk with
 | 0,_=>rfl
 | 1,_=>rfl
 | 2,_=>rfl
 | 3,_=>rfl
 | 4,_=>rfl
theorem siz_at (n:Nat):(SIZES.map sizV)[n / 512 % 6]?=some (sizV (sizF n))∧(sizF n).1.length≤3∧(sizF n).2≠.unset∧sizF n∈SIZES:=by
 have h6:n / 512 % 6 < SIZES.length:=Nat.mod_lt _ (by decide)
 have hl:∀ t∈SIZES,t.1.length≤3:=by
  have:(SIZES.map (·.1)).all (fun t=>decide (t.length≤3))=true:=by decide +kernel
  intro t ht
  exact of_decide_eq_true (List.all_eq_true.mp this _ (List.mem_map_of_mem (f:=(·.1)) ht))
 have hs:∀ t∈SIZES,t.2≠.unset:=by
  intro t ht
  unfold SIZES at ht
  simp only [List.mem_cons,List.not_mem_nil,or_false] at ht
  rcases ht with rfl | rfl | rfl | rfl | rfl | rfl <;> nofun
 unfold sizF
 rw [List.getElem?_map,List.getD_eq_getElem?_getD,List.getElem?_eq_getElem h6]
 exact ⟨rfl,hl _ (List.getElem_mem h6),hs _ (List.getElem_mem h6),List.getElem_mem h6⟩
theorem namF_len (P b:List Nat):∀ z:SW,(namF P b z).length≤9 * z.length
 | []=>Nat.le_refl _
 | q::r=>by
  have h1:=nmT_len b r
  have h2:=spF_len q.1 q.2 (pl0 P q.1 (nmT b r)) (nmT b r++b)
  show (spF q.1 q.2 (pl0 P q.1 (nmT b r)) (nmT b r++b)++nmT b r).length≤_
  rw [List.length_append,List.length_cons]; exact ar 3 [_,_,_] (.im (.le .v1 (.m 9 .v2)) (.im (.le .v0 (.n 9)) (.le (.a .v0 .v1) (.m 9 (.a .v2 .n1))))) rfl h1 h2
theorem suf_len (k:Nat):(sufF k).length≤2:=by unfold sufF; split <;> decide +kernel
theorem pre_len (k:Nat) {num:List Nat} (h:num.length≤3):(preF k num).length≤3:=by
 unfold preF
 split
 ·decide +kernel
 ·split
  ·decide +kernel
  ·split
   ·decide +kernel
   ·split
    ·decide +kernel
    ·exact h
noncomputable def pcB:List Stmt:=(stV (hdS (forB.drop 3))).2.1
theorem law_nm {w:World} {g:Gx} (G:GG w g) {L l r b a:Addr} {n:Nat} {z:SW} {X:List Nat} {R:List Row} {pl:List V} {TT:AH} {jp jpl jd jb ja jq ju jo jt jz:V} {Q:Internal.R→Loc→AH→Prop} (hX:X.length≤600) (hz:z.length≤4) (hc:∀ q∈z,q.1 < 1114112) (hk:n % 8 < 5)
  (q:∀ jq ju jo,Q .next (lo58 l (.int (n:Int)) jpl jd (.ref r) (sgV z) (wyV z) (.int ((n % 8:Nat):Int)) jb (.str (kndF (n % 8))) (.str (valF z)) jq ju jo (tldF (n % 8) (valF z) (sizF n).1 (sizF n).2 (startsF (namK n z X))) jz) (HL L r b a jp ((preF (n % 8) (sizF n).1++(namK n z X++sufF (n % 8)))++X) R pl TT)) :
  Ss g (Γ58C L) 60 pcB (lo58 l (.int (n:Int)) jpl jd (.ref r) (sgV z) (wyV z) (.int ((n % 8:Nat):Int)) jb ja (.str (valF z)) jq ju jo jt jz) (HL L r b a jp X R pl TT) Q:=by
 obtain ⟨s1,s2,s3,_⟩:=siz_at n
 have hsl:=suf_len (n % 8)
 have hpl:=pre_len (n % 8) s2
 have hnl:=namF_len (plcN (n % 8)) (sufF (n % 8)++X) z
 have hsX:(sufF (n % 8)++X).length≤602:=by rw [List.length_append]; exact ar 2 [_,_] (.im (.le .v0 (.n 2)) (.im (.le .v1 (.n 600)) (.le (.a .v0 .v1) (.n 602)))) rfl hsl hX
 unfold namK at q
 rw [show (preF (n % 8) (sizF n).1++(namF (plcN (n % 8)) (sufF (n % 8)++X) z++sufF (n % 8)))++X=(preF (n % 8) (sizF n).1++namF (plcN (n % 8)) (sufF (n % 8)++X) z)++(sufF (n % 8)++X) by rw [List.append_assoc,List.append_assoc,List.append_assoc]] at q
 generalize sizF n=sz at s1 s2 s3 hpl q
 obtain ⟨num,wv⟩:=sz
 dsimp only at s2 s3 hpl q
 generalize hk8:n % 8=k at *
 refine Ss.consK ?_
 refine S.assignK ?_ (fun _=>rfl)
 walk_at"B"
 refine E.lst ?_
 walk_at"B"
 refine ⟨by decide,?_⟩
 walk_at"B"
 refine SubM.lstN (v:=.str (plcN k)) (sel5 (fun k=>.str (plcN k)) hk rfl rfl rfl rfl rfl) (by decide) ?_
 repeat walk_at"g"
 refine Ss.consK ?_
 refine S.unpackK ["number","worth"] (by repeat constructor) ?_
 walk_at"B"
 refine E.call0 (by walk_at"d") (by walk_at"i") ((C44 G ?_).le (by walk_at"m"))
 walk_at"B"
 refine bdivN 512 (by decide) (by decide) ?_
 walk_at"B"
 refine bmodN 6 (by decide) ?_
 refine SubM.lstN s1 (by decide) ?_
 unfold sizV
 refine unp_tup ?_
 iterate 2 (refine pa_consK ?_; repeat walk_at"g")
 refine pa_nil ?_
 refine Ss.consK ?_
 refine S.to (lo58 l (.int (n:Int)) jpl jd (.ref r) (sgV z) (wyV z) (.int (k:Int)) jb ja (.str (valF z)) (.str (plcN k)) (.str num) wv jt jz) (HL L r b a jp (sufF k++X) R pl TT) (S.ifb (k==1) ?_ (fun h=>?_) (fun h=>?_)) ?_
 ·walk_at"B"
  exact ⟨nat_beq k 1,rfl⟩
 ·have e:=eq_of_beq h
  subst e
  refine Ss.consK ?_
  refine S.assignC (a:=L+1+1) rfl (k58 _ (by decide +kernel)).1 ?_ (fun _ _=>rfl)
  walk_at"B"
  refine cText (by walk_at"d") ?_
  refine bmS ?_ (Nat.le_trans (Nat.le_of_eq (List.length_append (as:=lit "()") (bs:=X)).symm) (Nat.le_trans hsX (by decide)))
  refine ⟨_,_,.there (.there (.there (.there .here))),?_⟩
  exact Ss.nil ⟨rfl,rfl,rfl⟩
 ·refine Ss.nil ⟨rfl,rfl,?_⟩
  unfold sufF
  rw [if_neg (by simpa using h)]
  rfl
 refine Ss.consK ?_
 refine S.assignK ?_ (fun _=>rfl)
 walk_at"B"
 refine cText (by walk_at"d") ?_
 walk_at"B"
 refine (C53 G (by exact ar 1 [_] (.im (.le .v0 (.n 4)) (.le .v0 (.n 1000))) rfl hz) hc (by exact ar 1 [_] (.im (.le .v0 (.n 602)) (.le .v0 (.n 900000))) rfl hsX) ?_).le (by walk_at"m")
 generalize namF (plcN k) (sufF k++X) z=nm at hnl q
 have hnm:nm.length≤36:=by exact ar 2 [_,_] (.im (.le .v0 (.m 9 .v1)) (.im (.le .v1 (.n 4)) (.le .v0 (.n 36)))) rfl hnl hz
 repeat walk_at"g"
 refine Ss.consK ?_
 refine S.assignC (a:=L+1+1) rfl (k58 _ (by decide +kernel)).1 ?_ (fun _ _=>rfl)
 walk_at"B"
 refine E.lst ?_
 walk_at"B"
 refine ⟨Nat.le_of_ble_eq_true rfl,?_⟩
 walk_at"B"
 refine SubM.lstN (v:=.str (preF k num)) (sel5 (fun k=>.str (preF k num)) hk rfl rfl rfl rfl rfl) (Nat.le_of_ble_eq_true rfl) ?_
 walk_at"B"
 refine bmS ?_ (by exact ar 3 [_,_,_] (.im (.le .v1 (.m 9 .v2)) (.im (.le .v0 (.n 3)) (.im (.le .v2 (.n 4)) (.le (.a .v0 .v1) (.n 1000000))))) rfl hnl hpl hz)
 walk_at"B"
 refine cText (by walk_at"d") ?_
 refine bmS ?_ (by rw [List.length_append]; exact ar 4 [_,_,_,_] (.im (.le .v1 (.m 9 .v3)) (.im (.le .v0 (.n 3)) (.im (.le .v3 (.n 4)) (.im (.le .v2 (.n 602)) (.le (.a (.a .v0 .v1) .v2) (.n 1000000)))))) rfl hnl hpl hz hsX)
 refine ⟨_,_,.there (.there (.there (.there .here))),?_⟩
 refine Ss.consK ?_
 refine S.unpackK ["name","told"] (by repeat constructor) ?_
 walk_at"B"
 refine E.lst ?_
 walk_at"B"
 refine (C52 G (by exact ar 2 [_,_] (.im (.le .v0 (.m 9 .v1)) (.im (.le .v1 (.n 4)) (.le .v0 (.n 1000000)))) rfl hnl hz) ?_).le (by walk_at"m")
 walk_at"B"
 refine ⟨Nat.le_of_ble_eq_true rfl,?_⟩
 walk_at"B"
 refine SubM.lstN (v:=.tup [.str (kndF k),tldF k (valF z) num wv (startsF nm)]) (sel5 (fun k=>.tup [.str (kndF k),tldF k (valF z) num wv (startsF nm)]) hk rfl rfl rfl rfl rfl) (Nat.le_of_ble_eq_true rfl) ?_
 refine unp_tup ?_
 iterate 2 (refine pa_consK ?_; repeat walk_at"g")
 refine pa_nil ?_
 exact Ss.nil (q _ _ _)
theorem adF_len (n:Nat) (z:SW):(adF n z).length≤9 * z.length+16:=by
 have h1:=adT_len n z
 have h2:=(head_len (n / 16)).1
 have h3:=(pad_len n).1
 unfold adF
 rw [List.length_append,List.length_append]; exact ar 4 [_,_,_,_] (.im (.le .v2 (.a (.m 9 .v3) (.n 3))) (.im (.le .v0 (.n 11)) (.im (.le .v1 (.n 2)) (.le (.a .v0 (.a .v1 .v2)) (.a (.m 9 .v3) (.n 16)))))) rfl h1 h2 h3
theorem law_pc {w:World} {g:Gx} (G:GG w g) {L l r b a:Addr} {n:Nat} {z:SW} {X:List Nat} {R:List Row} {pl:List V} {TT:AH} {jp jpl jd jb ja jq ju jo jt jz:V} {Q:Internal.R→Loc→AH→Prop} (hX:X.length≤600) (hz:z.length≤4) (hc:∀ q∈z,q.1 < 1114112)
  (q:∀ jq ju jo,Q .next (lo58 l (.int (n:Int)) jpl jd (.ref r) (sgV z) (wyV z) (.int ((n % 8:Nat):Int)) jb (.str (pcF n z X).2.1) (.str (valF z)) jq ju jo (pcF n z X).2.2 jz) (HL L r b a jp ((pcF n z X).1++X) R pl TT)) :
  S g (Γ58C L) 60 (hdS (forB.drop 3)) (lo58 l (.int (n:Int)) jpl jd (.ref r) (sgV z) (wyV z) (.int ((n % 8:Nat):Int)) jb ja (.str (valF z)) jq ju jo jt jz) (HL L r b a jp X R pl TT) Q:=by
 refine S.ifb (decide (n % 8 < 5)) ?_ (fun h=>?_) (fun h=>?_)
 ·walk_at"B"
  exact ⟨decide_eq_decide.mpr (by omega),rfl⟩
 ·have h:=of_decide_eq_true h
  rw [show pcF n z X=(_,_) from if_pos h] at q
  exact law_nm G hX hz hc h q
 have h:=of_decide_eq_false h
 refine Ss.consK ?_
 refine S.ifb (decide (n % 8 < 7)) ?_ (fun h2=>?_) (fun h2=>?_)
 ·walk_at"B"
  exact ⟨decide_eq_decide.mpr (by omega),rfl⟩
 ·have h2:=of_decide_eq_true h2
  rw [show pcF n z X=(_,_) from (if_neg h).trans (if_pos h2)] at q
  have hq:=quT_len (quoF (n % 8)) z
  refine Ss.consK ?_
  refine S.assignC (a:=L+1+1) rfl (k58 _ (by decide +kernel)).1 ?_ (fun _ _=>rfl)
  walk_at"B"
  refine E.to (.str [quoF (n % 8)]) ?_ ?_
  ·refine E.ifeb (n % 8==5) ?_ (fun h=>?_) (fun h=>?_)
   ·walk_at"B"
    exact ⟨nat_beq _ 5,rfl⟩
   ·refine E.str ⟨?_,rfl⟩
    unfold quoF
    rw [if_pos (eq_of_beq h),show (Str.ofString "\"").cps.toList=[34] by decide +kernel]
   ·refine E.str ⟨?_,rfl⟩
    unfold quoF
    rw [if_neg (by simpa using h),show (Str.ofString "'").cps.toList=[39] by decide +kernel]
  walk_at"B"
  refine (C54 G (by exact ar 1 [_] (.im (.le .v0 (.n 4)) (.le .v0 (.n 1000))) rfl hz) hc ?_).le (by walk_at"m")
  walk_at"B"
  refine cText (by walk_at"d") ?_
  refine bmS ?_ (by rw [List.length_cons]; exact ar 3 [_,_,_] (.im (.le .v0 (.a (.m 12 .v2) .n1)) (.im (.le .v2 (.n 4)) (.im (.le .v1 (.n 600)) (.le (.a (.a .v0 .n1) .v1) (.n 1000000))))) rfl hq hz hX)
  refine ⟨_,_,.there (.there (.there (.there .here))),?_⟩
  refine Ss.consK ?_
  refine S.swap (names:=["name","told"]) ?_ (by intro env he; unfold swappedStores Env.blockKind Env.kindOf; rw [he]; with_unfolding_all rfl)
  walk_at"B"
  refine ⟨_,rfl,rfl,?_⟩
  iterate 2 (refine pa_consK ?_; repeat walk_at"g")
  refine pa_nil ?_
  exact Ss.nil (Ss.nil (q _ _ _))
 ·have h2:=of_decide_eq_false h2
  rw [show pcF n z X=(_,_) from (if_neg h).trans (if_neg h2)] at q
  have hq:=adF_len (n / 512) z
  refine Ss.consK ?_
  refine S.assignC (a:=L+1+1) rfl (k58 _ (by decide +kernel)).1 ?_ (fun _ _=>rfl)
  walk_at"B"
  refine bdivN 512 (by decide) (by decide) ?_
  walk_at"B"
  refine (C55 G (by exact ar 1 [_] (.im (.le .v0 (.n 4)) (.le .v0 (.n 1000))) rfl hz) hc ?_).le (by walk_at"m")
  walk_at"B"
  refine cText (by walk_at"d") ?_
  refine bmS ?_ (by exact ar 3 [_,_,_] (.im (.le .v0 (.a (.m 9 .v2) (.n 16))) (.im (.le .v2 (.n 4)) (.im (.le .v1 (.n 600)) (.le (.a .v0 .v1) (.n 1000000))))) rfl hq hz hX)
  refine ⟨_,_,.there (.there (.there (.there .here))),?_⟩
  refine Ss.consK ?_
  refine S.swap (names:=["name","told"]) ?_ (by intro env he; unfold swappedStores Env.blockKind Env.kindOf; rw [he]; with_unfolding_all rfl)
  walk_at"B"
  refine ⟨_,rfl,rfl,?_⟩
  iterate 2 (refine pa_consK ?_; repeat walk_at"g")
  refine pa_nil ?_
  exact Ss.nil (Ss.nil (q _ _ _))
section
set_option genInjectivity false
set_option genSizeOf false
noncomputable def RowsOk (s:List Nat × List Row):Prop:=∀ r∈s.2,0 < r.2.1∧r.2.1≤s.1.length∧r.2.2≠.unset
theorem spF_ne (c way:Nat) (pl:Bool) (b:List Nat):spF c way pl b≠[]:=by
 unfold spF hexF
 split
 ·nofun
 ·split <;> nofun
theorem namF_ne (P b:List Nat) {z:SW} (h:z≠[]):namF P b z≠[]:=by
 cases z with
 | nil=>exact absurd rfl h
 | cons q r=>exact fun e=>spF_ne _ _ _ _ (List.append_eq_nil_iff.mp e).1
theorem bet_ne (n:Nat):(betF n).1≠[]:=by
 have hl:∀ t∈BETW,t.1≠[]:=by decide +kernel
 exact hl _ (bet_at n).2.2
theorem hd_ne (n:Nat) (z:SW):adF n z≠[]:=by
 have h6:n / 16 % 4 < HEADS.length:=Nat.mod_lt _ (by decide)
 have hl:∀ t∈HEADS,t≠[]:=by decide +kernel
 unfold adF
 intro e
 have e1:=(List.append_eq_nil_iff.mp e).1
 rw [List.getD_eq_getElem?_getD,List.getElem?_eq_getElem h6] at e1
 exact hl _ (List.getElem_mem h6) e1
theorem pcF_ok {n:Nat} {z:SW} (X:List Nat) (h:n % 8 < 5→z≠[]):(pcF n z X).1≠[]∧(pcF n z X).2.2≠.unset:=by
 have h3:=(siz_at n).2.2.1
 unfold pcF
 split
 ·rename_i hk
  refine ⟨fun e=>namF_ne _ _ (h hk) (List.append_eq_nil_iff.mp (List.append_eq_nil_iff.mp e).2).1,?_⟩
  show tldF _ _ _ _ _≠_
  unfold tldF
  split
  ·nofun
  ·split
   ·nofun
   ·split
    ·nofun
    ·split <;> nofun
 ·split
  ·exact ⟨nofun,nofun⟩
  ·exact ⟨hd_ne _ _,nofun⟩
theorem put_ok {p:List Nat × List Nat × V} {s:List Nat × List Row} (h1:p.1≠[]) (h2:p.2.2≠.unset) (h:RowsOk s):RowsOk (putF p s):=by
 have hl:0 < p.1.length:=List.length_pos_iff.mpr h1
 intro r hr
 rcases List.mem_cons.mp hr with rfl | hr
 ·refine ⟨?_,Nat.le_refl _,h2⟩
  show 0 < (p.1++s.1).length
  rw [List.length_append]; exact ar 2 [_,_] (.im (.lt .n0 .v0) (.lt .n0 (.a .v0 .v1))) rfl hl
 ·obtain ⟨a,b,c⟩:=h r hr
  refine ⟨a,?_,c⟩
  show _≤(p.1++s.1).length
  rw [List.length_append]; exact ar 3 [_,_,_] (.im (.le .v0 .v2) (.le .v0 (.a .v1 .v2))) rfl b
theorem btw_put (n:Nat) (s:List Nat × List Row):btwF n s=if btwB n s.1 then putF ((betF n).1,(betF n).2.1,.str (betF n).2.2) s else s:=rfl
theorem btw_ok {n:Nat} {s:List Nat × List Row} (h:RowsOk s):RowsOk (btwF n s):=by
 rw [btw_put]
 split
 ·exact put_ok (bet_ne n) nofun h
 ·exact h
theorem step_ok {s:List Nat × List Row} {e:Nat × SW} (h:RowsOk s) (he:entOk e):RowsOk (stepF s e):=by
 obtain ⟨a,b⟩:=pcF_ok (n:=e.1) (btwF e.1 s).1 he.2.2
 exact put_ok a b (btw_ok h)
theorem val_len (z:SW):(valF z).length=z.length:=List.length_map _
theorem pc_len {n:Nat} {z:SW} (X:List Nat):(pcF n z X).1.length≤16+12 * z.length:=by
 have h1:=namF_len (plcN (n % 8)) (sufF (n % 8)++X) z
 have h2:=suf_len (n % 8)
 have h3:=pre_len (n % 8) (siz_at n).2.1
 have h4:=quT_len (quoF (n % 8)) z
 have h5:=adF_len (n / 512) z
 unfold pcF
 split
 ·show (preF (n % 8) (sizF n).1++(namK n z X++sufF (n % 8))).length≤_
  unfold namK
  rw [List.length_append,List.length_append]; exact ar 4 [_,_,_,_] (.im (.le .v1 (.m 9 .v3)) (.im (.le .v2 (.n 2)) (.im (.le .v0 (.n 3)) (.le (.a .v0 (.a .v1 .v2)) (.a (.n 16) (.m 12 .v3)))))) rfl h1 h2 h3
 ·split
  ·show (_::_).length≤_
   rw [List.length_cons]; exact ar 2 [_,_] (.im (.le .v0 (.a (.m 12 .v1) .n1)) (.le (.a .v0 .n1) (.a (.n 16) (.m 12 .v1)))) rfl h4
  ·show (adF _ _).length≤_
   exact ar 2 [_,_] (.im (.le .v0 (.a (.m 9 .v1) (.n 16))) (.le .v0 (.a (.n 16) (.m 12 .v1)))) rfl h5
theorem btw_len (n:Nat) (s:List Nat × List Row):(btwF n s).1.length≤s.1.length+4∧(btwF n s).2.length≤s.2.length+1:=by
 have h:=(bet_at n).2.1
 unfold btwF
 split
 ·refine ⟨?_,?_⟩
  ·show ((betF n).1++s.1).length≤_
   rw [List.length_append]; exact ar 2 [_,_] (.im (.le .v0 (.n 4)) (.le (.a .v0 .v1) (.a .v1 (.n 4)))) rfl h
  ·exact Nat.le_refl _
 ·exact ⟨by exact ar 1 [_] (.le .v0 (.a .v0 (.n 4))) rfl,by exact ar 1 [_] (.le .v0 (.a .v0 .n1)) rfl⟩
theorem step_len (s:List Nat × List Row) (e:Nat × SW):(stepF s e).1.length≤s.1.length+20 * (1+e.2.length)∧(stepF s e).2.length≤s.2.length+2:=by
 have h1:=btw_len e.1 s
 have h2:=pc_len (n:=e.1) (z:=e.2) (btwF e.1 s).1
 refine ⟨?_,?_⟩
 ·show ((pcF _ _ _).1++(btwF e.1 s).1).length≤_
  rw [List.length_append]; exact ar 6 [_,_,_,_,_,_] (.im (.an (.le .v1 (.a .v2 (.n 4))) (.le .v4 (.a .v5 .n1))) (.im (.le .v0 (.a (.n 16) (.m 12 .v3))) (.le (.a .v0 .v1) (.a .v2 (.m 20 (.a .n1 .v3)))))) rfl h1 h2
 ·show (_::_).length≤_
  rw [List.length_cons]; exact ar 4 [_,_,_,_] (.im (.an (.le .v2 (.a .v3 (.n 4))) (.le .v0 (.a .v1 .n1))) (.le (.a .v0 .n1) (.a .v1 (.n 2)))) rfl h1
theorem flat_vz (z:SW):((z.map fun q=>[q.1])).flatten=valF z:=by
 induction z with
 | nil=>rfl
 | cons q r ih=>rw [List.map_cons,List.flatten_cons,ih]; rfl
theorem CB.joinZ {g:Gx} {d:Nat} {H:AH} {z:SW} {Q:V→AH→Prop} (hz:z.length≤1000) (h:Q (.str (valF z)) H):CallB g d (.builtin "str.join") [.str [],sgV z] H Q:=by
 have hv:sgV z=.lst ((z.map fun q=>[q.1]).map V.str):=by unfold sgV; rw [List.map_map]; rfl
 rw [hv]
 refine CB.join ?_ ?_
 ·rw [flat_vz,val_len,List.length_map]; exact ar 1 [_] (.im (.le .v0 (.n 1000)) (.le (.a .v0 .v0) (.n 1000000))) rfl hz
 ·rw [flat_vz]; exact h
inductive JLp (SF:List Nat × List Row) (PLV:List V) (L l r b a:Addr) (jp jd jz:V) (TT:AH):List V→Loc→AH→Prop
 | mk (es:List (Nat × SW)) (s:List Nat × List Row) (jn js jw jk jb ja jv jq ju jo jt:V) (he:∀ e∈es,entOk e) (hro:RowsOk s) (hl1:s.1.length+20 * cost es≤560) (hl2:s.2.length+2 * es.length≤56) (hF:es.foldl stepF s=SF) :
  JLp SF PLV L l r b a jp jd jz TT (es.map entV) (lo58 l jn (.ref b) jd (.ref r) js jw jk jb ja jv jq ju jo jt jz) (HL L r b a jp s.1 s.2 PLV TT)
theorem law_loop {w:World} {g:Gx} (G:GG w g) {L l a b:Addr} {PL:List (Nat × SW)} {rest:List Stmt} {TT:AH} {Q:R→Loc→AH→Prop} {jp jx jn jd jr js jw jk jb ja jv jq ju jo jt jz:V} (hP:∀ e∈PL,entOk e) (hc:cost PL≤28)
  (q:∀ r jn js jw jk jb ja jv jq ju jo jt,RowsOk (PL.reverse.foldl stepF ([],[]))→(PL.reverse.foldl stepF ([],[])).1.length≤560→(PL.reverse.foldl stepF ([],[])).2.length≤56 →
   Ss g (Γ58C L) 60 rest (lo58 l jn (.ref b) jd (.ref r) js jw jk jb ja jv jq ju jo jt jz) (HL L r b a jp (PL.reverse.foldl stepF ([],[])).1 (PL.reverse.foldl stepF ([],[])).2 (PL.map entV) TT) Q) :
  Ss g (Γ58C L) 60 (((bodyAt 58).drop 3).take 3++rest) (lo58 l jn (.ref b) jd jr js jw jk jb ja jv jq ju jo jt jz) ((b,.lst (PL.map entV))::(a,.lst [])::H58 L jp jx (.ref a) TT) Q:=by
 have hle:PL.length≤28:=by
  have:∀ es:List (Nat × SW),es.length≤cost es:=fun es=>by
   induction es with
   | nil=>exact Nat.le_refl _
   | cons e es ih=>rw [cost_cons,List.length_cons]; exact ar 3 [_,_,_] (.im (.le .v0 .v2) (.le (.a .v0 .n1) (.a (.a .n1 .v1) .v2))) rfl ih
  exact Nat.le_trans (this PL) hc
 have hcr:cost PL.reverse=cost PL:=by
  unfold cost
  rw [List.map_reverse,List.sum_reverse]
 refine Ss.consK ?_
 refine S.assignC (a:=L+1+1) rfl (k58 _ (by decide +kernel)).1 ?_ (fun _ _=>rfl)
 refine E.str ?_
 rw [lit_nil]
 refine ⟨_,_,.there (.there (.there .here)),?_⟩
 refine Ss.consK ?_
 refine S.assignK ?_ (fun _=>rfl)
 refine E.lstA ?_
 refine Es.nil ?_
 refine ⟨by simp,fun r=>?_⟩
 repeat walk_at"g"
 refine Ss.consK ?_
 generalize hS:PL.reverse.foldl stepF ([],[])=SF at q
 refine S.forT (by repeat constructor) (E.revLive (E.loc (v:=.ref b) (by walk_at"d") (by nofun) ⟨b,_,rfl,.there .here,by rw [List.length_map]; exact ar 1 [_] (.im (.le .v0 (.n 28)) (.le .v0 (.n 1000000))) rfl hle,?_⟩))
 refine ⟨_,rfl,JLp SF (PL.map entV) L l r b a jp jd jz TT,?_,?_,?_⟩
 ·rw [← List.map_reverse]
  exact .mk PL.reverse ([],[]) _ _ _ _ _ _ _ _ _ _ _ (fun e he=>hP e (List.mem_reverse.mp he)) (fun _ h=>nomatch h) (by rw [hcr]; simp; exact ar 1 [_] (.im (.le .v0 (.n 28)) (.le (.m 20 .v0) (.n 560))) rfl hc) (by rw [List.length_reverse]; simp; exact ar 1 [_] (.im (.le .v0 (.n 28)) (.le (.m 2 .v0) (.n 56))) rfl hle) hS
 ·intro v rest lo' H' J
  generalize hr:v::rest=vr at J
  induction J with
  | mk es s jn js jw jk jb ja jv jq ju jo jt he hro hl1 hl2 hF =>
   cases es with
   | nil=>cases hr
   | cons e es =>
   cases hr
   obtain ⟨X,R⟩:=s
   replace hl1:X.length+20 * cost (e::es)≤560:=hl1
   replace hl2:R.length+2 * (e::es).length≤56:=hl2
   rw [cost_cons] at hl1
   rw [List.length_cons] at hl2
   obtain ⟨eok,he⟩:=List.forall_mem_cons.mp he
   have hsl:(stepF (X,R) e).1.length≤X.length+20 * (1+e.2.length)∧(stepF (X,R) e).2.length≤R.length+2:=step_len (X,R) e
   have hbl:(btwF e.1 (X,R)).1.length≤X.length+4∧(btwF e.1 (X,R)).2.length≤R.length+1:=btw_len e.1 (X,R)
   have hz4:=eok.2.1
   have hclt:∀ q∈e.2,q.1 < 1114112:=fun q hq=>(sig5_lt _ (eok.1 q hq)).1
   refine unp_tup ?_
   unfold vN
   iterate 3 (refine pa_consK ?_; repeat walk_at"g")
   refine pa_nil ?_
   refine Ss.consK ?_
   refine S.assignK ?_ (fun _=>rfl)
   walk_at"B"
   refine bmodN 8 (by decide) ?_
   repeat walk_at"g"
   refine Ss.consK ?_
   refine law_btw (X:=X) (R:=R) G (by exact ar 3 [_,_,_] (.im (.le (.a .v0 (.m 20 (.a (.a .n1 .v1) .v2))) (.n 560)) (.le .v0 (.n 600))) rfl hl1) (by exact ar 2 [_,_] (.im (.le (.a .v0 (.m 2 (.a .v1 .n1))) (.n 56)) (.le .v0 (.n 600))) rfl hl2) fun jb ja jv=>?_
   refine Ss.consK ?_
   refine S.assignK ?_ (fun _=>rfl)
   walk_at"B"
   rw [lit_nil]
   refine CB.joinZ (by exact ar 3 [_,_,_] (.im (.le (.a .v1 (.m 20 (.a (.a .n1 .v0) .v2))) (.n 560)) (.le .v0 (.n 1000))) rfl hl1) ?_
   repeat walk_at"g"
   refine Ss.consK ?_
   refine law_pc G (by exact ar 6 [_,_,_,_,_,_] (.im (.le (.a .v1 (.m 20 (.a (.a .n1 .v2) .v3))) (.n 560)) (.im (.an (.le .v0 (.a .v1 (.n 4))) (.le .v4 (.a .v5 .n1))) (.le .v0 (.n 600)))) rfl hl1 hbl) hz4 hclt fun jq ju jo=>?_
   have hset:=(pcF_ok (n:=e.1) (btwF e.1 (X,R)).1 eok.2.2).2
   have hpl:((pcF e.1 e.2 (btwF e.1 (X,R)).1).1++(btwF e.1 (X,R)).1).length≤600:=by
    have:(stepF (X,R) e).1.length=((pcF e.1 e.2 (btwF e.1 (X,R)).1).1++(btwF e.1 (X,R)).1).length:=rfl
    exact ar 7 [_,_,_,_,_,_,_] (.im (.le (.a .v1 (.m 20 (.a (.a .n1 .v2) .v3))) (.n 560)) (.im (.an (.le .v4 (.a .v1 (.m 20 (.a .n1 .v2)))) (.le .v5 (.a .v6 (.n 2)))) (.im (.eq .v4 .v0) (.le .v0 (.n 600))))) rfl hl1 hsl this
   have hst:=step_ok (e:=e) hro eok
   have hF':es.foldl stepF (stepF (X,R) e)=SF:=hF
   have hd:stepF (X,R) e=putF (pcF e.1 e.2 (btwF e.1 (X,R)).1) (btwF e.1 (X,R)):=rfl
   generalize btwF e.1 (X,R)=s1 at hbl hset hpl hd
   generalize pcF e.1 e.2 s1.1=p at hset hpl hd
   refine Ss.consK ?_
   walk_at"B"
   refine E.appendH (by walk_at"d") (by rw [List.length_map,List.length_reverse]; exact ar 5 [_,_,_,_,_] (.im (.le (.a .v1 (.m 2 (.a .v2 .n1))) (.n 56)) (.im (.an (.le .v3 (.a .v4 (.n 4))) (.le .v0 (.a .v1 .n1))) (.le .v0 (.n 1000000)))) rfl hl2 hbl) ?_
   walk_at"B"
   refine cText (by walk_at"d") ?_
   walk_at"B"
   refine CB.len_str (by exact ar 1 [_] (.im (.le .v0 (.n 600)) (.lt .v0 (.n 4611686018427387904))) rfl hpl) ?_
   walk_at"B"
   refine ⟨rfl,?_⟩
   walk_at"B"
   have hJ:=JLp.mk (SF:=SF) (PLV:=PL.map entV) (L:=L) (l:=l) (r:=r) (b:=b) (a:=a) (jp:=jp) (jd:=jd) (jz:=jz) (TT:=TT) es (stepF (X,R) e) (.int (e.1:Int)) (sgV e.2) (wyV e.2) (.int ((e.1 % 8:Nat):Int)) jb (.str p.2.1) (.str (valF e.2)) jq ju jo p.2.2 he hst (by exact ar 6 [_,_,_,_,_,_] (.im (.le (.a .v2 (.m 20 (.a (.a .n1 .v3) .v1))) (.n 560)) (.im (.an (.le .v0 (.a .v2 (.m 20 (.a .n1 .v3)))) (.le .v4 (.a .v5 (.n 2)))) (.le (.a .v0 (.m 20 .v1)) (.n 560)))) rfl hl1 hsl) (by exact ar 6 [_,_,_,_,_,_] (.im (.le (.a .v2 (.m 2 (.a .v1 .n1))) (.n 56)) (.im (.an (.le .v3 (.a .v4 (.m 20 (.a .n1 .v5)))) (.le .v0 (.a .v2 (.n 2)))) (.le (.a .v0 (.m 2 .v1)) (.n 56)))) rfl hl2 hsl) hF'
   rw [hd] at hJ
   replace hJ:JLp SF (PL.map entV) L l r b a jp jd jz TT _ _ (HL L r b a jp (p.1++s1.1) ((p.2.1,(p.1++s1.1).length,p.2.2)::s1.2) (PL.map entV) TT):=hJ
   unfold HL at hJ
   rw [List.reverse_cons,List.map_append] at hJ
   exact hJ
 ·intro lo' H' J
  generalize hr:[]=vr at J
  induction J with
  | mk es s jn js jw jk jb ja jv jq ju jo jt he hro hl1 hl2 hF =>
   cases es with
   | cons=>cases hr
   | nil =>
    have hF:s=SF:=hF
    subst hF
    exact Ss.nil (q r _ _ _ _ _ _ _ _ _ _ _ hro (Nat.le_trans (Nat.le_add_right _ _) hl1) (Nat.le_trans (Nat.le_add_right _ _) hl2))
end
section
set_option genInjectivity false
set_option genSizeOf false
noncomputable def wF (X:List Nat) (r:Row):V:=.tup [.str r.1,(plcF (1,1) false X).getD (X.length - r.2.1) .none,r.2.2]
noncomputable abbrev lastS (t:List Nat):List Nat × List Row:=(planA t).reverse.foldl stepF ([],[])
noncomputable def PlainAll:Prop:=∀ t:List Nat,t.length≤24→(told (lastS t).1).map rowV=(lastS t).2.map (wF (lastS t).1)∧(∀ x∈told (lastS t).1,NB x)∧isD 64 (.lst ((lastS t).2.map (wF (lastS t).1)))=true
theorem cmEq {x y:List V} {k:Bool→Prop} (e:x=y) (hD:isD 64 (.lst y)=true) (q:k true):CmpM .Eq (.lst x) (.lst y) k:=by
 subst e
 refine ⟨_,.deq hD hD,?_⟩
 rw [PySem.SeqAt.eqv_refl _ (isD_lay 64 _ hD).1]
 exact q
noncomputable abbrev tabs0:List (Addr × Addr):=[(33,29),(40,36)]
theorem tabsIn0 {F:AH} (t1 t2 t3:Option Pos):TabsIn tabs0 (F++TabH t1 t2 t3):=by
 intro q hq
 simp only [List.mem_cons,List.not_mem_nil,or_false] at hq
 rcases hq with rfl | rfl
 ·exact ⟨t2,by simp⟩
 ·exact ⟨t3,by simp⟩
theorem C31F {w:World} {g:Gx} (G:GG w g) (F:AH) {css:List Nat} {M:Nat} {t1 t2 t3:Option Pos} {Q:V→AH→Prop} (hl:css.length≤600) (hM:cnt (norm css) < M) (ht2:TabOk 5 t2) (ht3:TabOk 6 t3)
  (q:∀ vs t2' t3',NodesT M vs (told css)→vs.length≤999999→TabOk 5 t2'→TabOk 6 t3'→Q (.lst vs) (F++TabH t1 t2' t3')):Call g 4 (.ref 628) [.str css] (F++TabH t1 t2 t3) Q :=
 Call.mono (Call.frame F (C31 G hl hM ht2 ht3 (Q:=fun (u:V) (H:AH)=>∃ vs t2' t3',NodesT M vs (told css)∧vs.length≤999999∧TabOk 5 t2'∧TabOk 6 t3'∧u=.lst vs∧H=TabH t1 t2' t3') (fun vs t2' t3' a b c d=>⟨vs,t2',t3',a,b,c,d,rfl,rfl⟩))) fun u H' r=>by
  obtain ⟨H'',e,vs,t2',t3',a,b,c,d,e1,e2⟩:=r
  rw [e,e1,e2]; exact q _ _ _ a b c d
inductive JWn (X:List Nat) (R:List Row) (H:AH):List V→List V→Loc→AH→Prop
 | mk (done Rr:List Row) (u v x:V) (hd:done++Rr=R):JWn X R H (Rr.map rwV) (done.map (wF X)) [("name",u),("size",v),("told",x)] H
theorem LAW {w:World} {g:Gx} (G:GG w g) (PL:PlainAll) {L l:Addr} {xs:List Value} {zs:List Int} (hB:g.B.IsList l xs.toArray) (hi:∀ M,IsAll M xs (zs.map V.int)) (hlen:xs.length≤63) :
  Ss g (Γ58C L) 60 (bodyAt 58) (lo58 l .unset .unset .unset .unset .unset .unset .unset .unset .unset .unset .unset .unset .unset .unset .unset) (H58 L .unset .unset .unset (TabH none none none)) (fun r _ H'=>r=.ret (.bool true)∧TabsIn tabs0 H'):=by
 refine law_tape (rest:=(bodyAt 58).drop 1) G hB hi hlen (by walk_at"d") fun a t0 h24=>?_
 refine law_plan (rest:=(bodyAt 58).drop 3) G h24 fun b nv dv=>?_
 obtain ⟨pok,pc⟩:=planA_ok h24
 refine law_loop (rest:=(bodyAt 58).drop 6) G pok pc fun r jn js jw jk jb ja jv jq ju jo jt hro hx hr=>?_
 obtain ⟨P1,P2,P3⟩:=PL t0 h24
 unfold lastS at P1 P2 P3
 generalize (planA t0).reverse.foldl stepF ([],[])=S at hro hx hr P1 P2 P3
 obtain ⟨X,R⟩:=S
 replace hx:X.length≤560:=hx
 replace hr:R.length≤56:=hr
 replace hro:∀ r∈R,0 < r.2.1∧r.2.1≤X.length∧r.2.2≠.unset:=hro
 replace P1:(told X).map rowV=R.map (wF X):=P1
 replace P2:∀ x∈told X,NB x:=P2
 replace P3:isD 64 (.lst (R.map (wF X)))=true:=P3
 have hpl:=plc_len X (1,1) false
 show Ss _ _ _ _ _ (HL L r b a .unset X R ((planA t0).map entV) (TabH none none none)) _
 refine Ss.consK ?_
 refine S.assignC (a:=L+1+1+1) rfl (k58 _ (by decide +kernel)).1 ?_ (fun _ _=>rfl)
 walk_at"B"
 refine cText (by walk_at"d") ?_
 walk_at"B"
 refine (C56 G (by exact ar 1 [_] (.im (.le .v0 (.n 560)) (.le .v0 (.n 1000))) rfl hx) ?_).le (by walk_at"m")
 refine ⟨_,_,.there (.there (.there .here)),?_⟩
 refine Ss.consK ?_
 refine S.compJ (Γ':=Γ58w L) (O58w G L) (xs:=["name","size","told"]) (loc_of (sc:=relS sc4 (scopeAt 58)) (by decide +kernel)) (.inr ⟨_,_,_,rfl⟩) ?_ (by intro env he; unfold swapsWith Env.blockKind Env.kindOf; rw [he]; with_unfolding_all rfl)
 refine E.revLive (E.loc (v:=.ref r) (by walk_at"d") (by nofun) ⟨r,_,rfl,.here,by rw [List.length_map,List.length_reverse]; exact ar 1 [_] (.im (.le .v0 (.n 56)) (.le .v0 (.n 1000000))) rfl hr,?_⟩)
 have hrr:(R.reverse.map rwV).reverse=R.map rwV:=by rw [List.map_reverse,List.reverse_reverse]
 show ∃ vs,_
 rw [hrr]
 refine ⟨_,rfl,by rw [List.length_map]; exact ar 1 [_] (.im (.le .v0 (.n 56)) (.le .v0 (.n 1000000))) rfl hr,JWn X R ((r,.lst (R.reverse.map rwV))::(b,.lst ((planA t0).map entV))::(a,.lst [])::H58 L (.lst (plcF (1,1) false X)) (.str X) (.ref a) (TabH none none none)),.mk [] R _ _ _ rfl,?_,?_⟩
 ·intro v rest out lo' H' J
  generalize hr':v::rest=vr at J
  induction J with
  | mk done Rr u v' x hd =>
  cases Rr with
  | nil=>cases hr'
  | cons e Rr =>
  obtain ⟨rfl,rfl⟩:=List.cons.inj hr'
  obtain ⟨e1,e2,e3⟩:=hro e (by rw [← hd]; simp)
  refine ⟨_,Bd.tup (by repeat constructor) (.cons .here (.cons (.there .here) (.cons (.there (.there .here)) .nil))),fun acc=>?_⟩
  walk_at"B"
  refine E.cell (v:=.lst (plcF (1,1) false X)) (a:=L+1+1+1) rfl (kw58 _ (by decide +kernel)) (by walk_at"d") nofun ?_
  walk_at"B"
  refine E.cell (v:=.str X) (a:=L+1+1) rfl (kw58 _ (by decide +kernel)) (by walk_at"d") nofun ?_
  walk_at"B"
  refine CB.len_str (by exact ar 1 [_] (.im (.le .v0 (.n 560)) (.lt .v0 (.n 4611686018427387904))) rfl hx) ?_
  walk_at"B"
  rw [show ((X.length:Int) - (e.2.1:Int))=((X.length - e.2.1:Nat):Int) by omega]
  refine SubM.lstN (v:=(plcF (1,1) false X).getD (X.length - e.2.1) .none) (by rw [List.getD_eq_getElem?_getD,List.getElem?_eq_getElem (by exact ar 3 [_,_,_] (.im (.lt .n0 .v1) (.im (.eq .v2 .v0) (.im (.le .v1 .v0) (.lt (.s .v0 .v1) .v2)))) rfl e1 hpl e2)]; rfl) (by exact ar 2 [_,_] (.im (.eq .v0 .v1) (.im (.le .v1 (.n 560)) (.le .v0 (.n 1000000)))) rfl hpl hx) ?_
  walk_at"B"
  refine ⟨_,rfl,?_⟩
  have hJ:=JWn.mk (X:=X) (R:=R) (H:=(r,.lst (R.reverse.map rwV))::(b,.lst ((planA t0).map entV))::(a,.lst [])::H58 L (.lst (plcF (1,1) false X)) (.str X) (.ref a) (TabH none none none)) (done++[e]) Rr (.str e.1) (.int (e.2.1:Int)) e.2.2 (by rw [← hd,List.append_assoc]; rfl)
  rw [List.map_append] at hJ
  exact hJ
 intro out lo' H' J
 generalize hr':[]=vr at J
 cases J with
 | mk done Rr u v' x hd =>
 cases Rr with
 | cons e Rr=>cases hr'
 | nil =>
 rw [List.append_nil] at hd
 subst hd
 repeat walk_at"g"
 walk_at"B"
 refine cText (by walk_at"d") ?_
 walk_at"B"
 refine (C31F (t1:=none) G [(r,.lst (done.reverse.map rwV)),(b,.lst ((planA t0).map entV)),(a,.lst []),(L+1+1+1,.cell (.lst (plcF (1,1) false X))),(L+1+1,.cell (.str X)),(L+1,.cell (.ref a))] (by exact ar 1 [_] (.im (.le .v0 (.n 560)) (.le .v0 (.n 600))) rfl hx) (Nat.lt_succ_self _) (.inl rfl) (.inl rfl) fun vs t2 t3 hn hvl h2 h3=>?_).le (by walk_at"m")
 walk_at"B"
 refine (C57 G hn P2 (by exact ar 1 [_] (.im (.le .v0 (.n 999999)) (.le .v0 (.n 1000000))) rfl hvl) ?_).le (by walk_at"m")
 walk_at"B"
 refine cmEq P1 P3 ?_
 exact ⟨rfl,tabsIn0 none _ _⟩
end
set_option tactic.hygienic true in
theorem ints_all {xs:List Value} {zs:List Int} (h:IntsAre xs zs) (M:Mem):IsAll M xs (zs.map V.int):=by
 induction h with
 | nil=>exact .nil
 | cons=>rename_i ih; exact .cons (.int _ _) ih
theorem lawAll {w:World} (PL:PlainAll) {K:Frag} (hK:KF K) {loose:List Str} {mean:ExcName→Option Value} {mg mb:Str→Option Value} {s₁ s:Shared} {L fa l:Addr} {m cm:Str→Option Value} {nm:Str} {cd:Value} {xs:List Value} {zs:List Int} {p:Program} {cells:Led}
  {Q:Flow→Shared→Prop} {E':Value→Shared→Prop} (hT:TabsAt tabs0 s₁.heap) (X:K.In s₁.heap) (T:Top p loose mean mg mb s₁.heap) (hg:s₁.gens=#[]) (hgs:s.gens=s₁.gens) (hos:s.os=s₁.os) (htk:1≤s.toks)
  (F:Fr s₁.heap L s.heap m) (N:News s₁.heap L s.heap cells) (Y:CellsAre cm (cellsFrom (L+1) (scopeAt 58).names []) cells) (hcm:∀ x∈cellsFrom (L+1) (scopeAt 58).names [],cm x.1=none) (hm:m "script"=some (.ref l)) (hL:s₁.heap.IsList l xs.toArray) (hI:IntsAre xs zs) (hlen:xs.length≤63)
  (hQ:∀ s',(∀ b o,(ghostOf s₁.heap tabs0).get? b=some o→s'.heap.get? b=some o)→GrownAll tabs0 s'.heap→s'.os=s₁.os→AllBare s'.gens→Q (.ret (.bool true)) s') :
  wpAny (model Prg w) (callerA.deeper (envOfC nm (scopeAt 58) L fa cd)) (execs (bodyAt 58) (envOfC nm (scopeAt 58) L fa cd)) Q E' s:=by
 refine law_inC (Γ:=Γ58) (d:=60) (K:=K) (lo:=lo58 l .unset .unset .unset .unset .unset .unset .unset .unset .unset .unset .unset .unset .unset .unset .unset) (bs:=[]) hT X hK.no T hg hgs hos htk F N Y hcm ?_ (by decide) (by kernel_rfl) rfl rfl (by decide) (globs_of (by decide +kernel) (hK.pick X T [(true,7),(false,0),(true,5),(false,43),(true,1),(false,36),(false,48),(false,47),(false,49),(false,50),(false,51),(false,38),(false,37)])) (locOk58 l) ?_ ?_ hQ
 ·show ((cellsFrom (L+1) (scopeAt 58).names []).map (·.2)).Nodup
  rw [cells58]
  simp
  exact fun e=>absurd (show (L:Nat)+1+1=L from e) (by exact ar 1 [_] (.nt (.eq (.a (.a .v0 .n1) .n1) .v0)) rfl)
 ·intro q hq
  rcases List.mem_cons.mp hq with rfl | hq
  ·exact .inr ⟨_,hm,fun M=>.glo _⟩
  ·left
   have:∀ q∈(lo58 l .unset .unset .unset .unset .unset .unset .unset .unset .unset .unset .unset .unset .unset .unset .unset).tail,q.2=.unset:=by
    simp
   exact this q hq
 ·intro g eg gok hcodes
  have G:GG w g:=⟨by rw [eg]; exact hK,by rw [eg],by rw [eg],gok,hcodes⟩
  rw [at58]
  show Ss g (Γ58C L) 60 _ _ (((cellsFrom (L+1) (scopeAt 58).names []).map fun q=>(q.2,MO.cell .unset))++tabH tabs0) _
  rw [cells58]
  refine LAW G PL (xs:=xs) (zs:=zs) ?_ (ints_all hI) hlen
  rw [eg]
  exact ghost_list hT hL
section
variable {M:Model} {A:Around} {E:Value→Shared→Prop} {s:Shared}
theorem newEnv_one {scope:Scope} {globals:Addr} {n:Str} {v:Value} {qual:Str} {func:Option Addr} {code:Value} {builtins:Addr} {Q:Env→Shared→Prop} (hk:scope.kind=.function) (hl:scope.names.lookup n=some .local)
  (hQ:∀ s',InCallC s s.heap.objs.size (fun y=>if y=n then some v else none) (cellsFrom (s.heap.objs.size+1) scope.names []) (fun _=>none) s'→1≤s'.toks→Q (newEnv scope s.heap.objs.size globals (cellsFrom (s.heap.objs.size+1) scope.names []) qual func code none builtins) s') :
  wpAny M A (newFunctionEnv scope globals [] [(n,v)] qual func code none builtins) Q E s:=by
 have e:newFunctionEnv scope globals [] [(n,v)] qual func code none builtins=(do
   let env ← newFunctionEnv scope globals [] [] qual func code none builtins
   storeName env n v
   pure env):=by
  simp only [newFunctionEnv,List.forIn_nil,List.forIn_cons,bind_assoc,pure_bind]
 rw [e]
 refine wpAny_bind (wpAny_newFunctionEnv_cells hk (fun _ h=>nomatch h) fun env he s' x=>?_)
 subst he
 refine wpAny_bind (wpAny_storeName_local hl x.toInCall.ns (fun h' hn hs=>wpAny_pure (hQ _ ⟨⟨?_,hn,fun b o e=>?_,x.toInCall.fresh⟩,fun k c hc=>?_,x.apart,x.above⟩ (Nat.le_add_left 1 _))) (by show (scope.kind==.class||(scope.kind==.module&&_))=false; rw [hk]; rfl))
 ·obtain ⟨h₁,tk,rfl⟩:=x.toInCall.same
  exact ⟨h',_,rfl⟩
 ·exact hs.extBut b o (Nat.ne_of_lt (Nat.lt_of_lt_of_le (Heap.lt_size e) x.toInCall.fresh)) (x.toInCall.keep b o e)
 ·exact (x.cell k c hc).sameBut hs (Nat.ne_of_gt (x.above k c (mem_of_lookup hc)))
end
theorem call_one {prog:Program} {w:World} {A:Around} {R:Result→Shared→Prop} {s:Shared} {name:Str} {params:Arguments} {body:List Stmt} {scope:Scope}
  {pm cd doc:Value} {a:Addr} {o:Obj} {args:List Value} {n:Str} {v:Value}
  (hroom:A.depth < recursionLimit) (ho:s.heap.get? a=some o) (hdata:o.data=.func (Calls.docDef name params body scope pm cd doc)) (hlim:s.heap.NoLimit) (hcd:s.heap.CodeRec cd name)
  (hbind:bindArgs (Calls.docDef name params body scope pm cd doc) ⟨args,[]⟩=pure [(n,v)]) (hl:scope.names.lookup n=some .local)
  (hnd:((cellsFrom 0 scope.names []).map (·.1)).Nodup) (hco:scope.isCoroutine=false) (hgen:scope.isGenerator=false) (hk:scope.kind=.function)
  (h:∀ h₁ tk cells,1≤tk→Fr s.heap s.heap.objs.size h₁ (fun y=>if y=n then some v else none)→News s.heap s.heap.objs.size h₁ cells →
   CellsAre (fun _=>none) (cellsFrom (s.heap.objs.size+1) scope.names []) cells →
   wpAny (model prog w) (A.deeper (envOfC name scope s.heap.objs.size a cd)) (execs body (envOfC name scope s.heap.objs.size a cd))
    (fun f s'=>R (.ok (.ret (match f with | .ret v=>v | _=>.none))) s')
    (fun e s'=>wpAny (model prog w) (A.deeper (envOfC name scope s.heap.objs.size a cd)) (leaving (envOfC name scope s.heap.objs.size a cd) e)
     (fun _ s''=>R (.error e) s'') (fun e' s''=>R (.error e') s'') s')
    { s with heap:=h₁,toks:=tk }):codeAny (model prog w) A (.call (.ref a) ⟨args,[]⟩) R s:=by
 refine codeAny_call_function hroom ho hdata hco hgen rfl hcd ?_
 rw [hbind]
 refine wpAny_pure (newEnv_one hk hl fun s' x htk=>?_)
 refine ⟨hlim.keeps x.toInCall.keep,codeAny_func ?_⟩
 obtain ⟨h₁,tk,rfl,_⟩:=x.done
 have cn:=cellsFrom_names scope.names 0 (s.heap.objs.size+1) [] [] rfl
 obtain ⟨cells,NC,Y⟩:=Cl.news (h₀:=s.heap) (Nat.le_refl _) fun n c hm=>⟨x.cell n c (lookup_of_mem_nodup (cn ▸ hnd) hm),x.above n c hm⟩
 exact h h₁ tk cells htk ⟨x.toInCall.ns,x.toInCall.keep,x.toInCall.fresh⟩ NC Y
noncomputable abbrev Mn (s:List Nat):List Nat:=mend false s
noncomputable def stays (c:Nat):Bool:=c != 0&&(c != 13&&(c != 12&&c != 10))
theorem mend_stay {c:Nat} (h:stays c=true) (b:Bool) (t:List Nat):mend b (c::t)=c::mend false t:=by
 unfold stays at h
 rw [Bool.and_eq_true,Bool.and_eq_true,Bool.and_eq_true] at h
 obtain ⟨h1,h2,h3,h4⟩:=h
 rw [mend_cons,if_neg (by simpa using h1),if_neg (by simp at h2 h3 ⊢; exact ⟨h2,h3⟩),h4,Bool.true_or,if_pos rfl]
theorem Mn_stays {w:List Nat} (h:∀ c∈w,stays c=true) (t:List Nat):Mn (w++t)=w++Mn t:=by
 induction w with
 | nil=>rfl
 | cons c r ih =>
  obtain ⟨h1,h2⟩:=List.forall_mem_cons.mp h
  show mend false (c::(r++t))=_
  rw [mend_stay h1]
  exact congrArg (c::·) (ih h2)
theorem isHex_stays {c:Nat} (h:isHex c=true):stays c=true:=hex_tab (p:=stays) (by decide +kernel) h
theorem isNm_stays:∀ c∈sig5,isNm c=true→stays c=true:=by decide +kernel
noncomputable def okFig (F:List Nat) (c:Nat):Bool:=F.all isHex&&(decide (F.length≤6)&&(!F.isEmpty&&hexVal F==c))
theorem fig_tab:([HXU,HXL].all fun tb=>[1,2,3,4,5,6].all fun k=>sig5.all fun c=>okFig (figF tb k 6 c []) c)=true:=by decide +kernel
theorem fig_ok {c:Nat} (way:Nat) (hc:c∈sig5):(∀ d∈figN c way,isHex d=true)∧(figN c way).length≤6∧figN c way≠[]∧hexVal (figN c way)=c:=by
 have h1:tblF way∈[HXU,HXL]:=by unfold tblF; split <;> simp
 have h2:wayK way∈[1,2,3,4,5,6]:=(show ∀ k < 6,1+k∈[1,2,3,4,5,6] by decide) _ (Nat.mod_lt _ (by decide))
 have h:=List.all_eq_true.mp (List.all_eq_true.mp (List.all_eq_true.mp fig_tab _ h1) _ h2) _ hc
 unfold okFig at h
 rw [Bool.and_eq_true,Bool.and_eq_true,Bool.and_eq_true] at h
 exact ⟨List.all_eq_true.mp h.1,of_decide_eq_true h.2.1,(by have q:=h.2.2.1; rw [Bool.not_eq_true'] at q; exact List.isEmpty_eq_false_iff.mp q),eq_of_beq h.2.2.2⟩
theorem isBl_eq (c:Nat):isBl c=(c==32||c==9||c==10||c==13||c==12):=by
 have e:BLANKS=[[32],[9],[10],[13],[12]]:=by decide +kernel
 unfold isBl
 rw [e]
 show ([32]==[c]||([9]==[c]||([10]==[c]||([13]==[c]||([12]==[c]||false)))))=_
 rw [one_beq,one_beq,one_beq,one_beq,one_beq,Bool.or_false,Bool.or_assoc,Bool.or_assoc,Bool.or_assoc]
theorem tail_w (way l:Nat) (b:List Nat):∃ w,Mn (tail2 way l b++b)=w++Mn b∧((∃ x,w=[x]∧isWs x=true)∨(w=[]∧(headP isBl b||(decide (l < 6)&&headP isHex b))=false)):=by
 have ht:TAILS=[[],[32],[9],[10],[13],[13,10],[12]]:=by decide +kernel
 have h0:=tail0_mem way
 rw [ht] at h0
 unfold tail2
 have ne10:∀ {b:List Nat},(b.take 1==[10])=false→b.head?≠some 10:=fun {b} h e=>by
  cases b with
  | nil=>cases e
  | cons x y=>cases e; cases h
 by_cases h1:((tail0 way==[]&&!b.isEmpty)&&(headP isBl b||(decide (l < 6)&&headP isHex b)))=true
 ·have e1:tail1 way l b=[32]:=by unfold tail1; rw [if_pos h1]
  rw [e1]
  exact ⟨[32],rfl,.inl ⟨32,rfl,rfl⟩⟩
 have e1:tail1 way l b=tail0 way:=by unfold tail1; rw [if_neg h1]
 rw [e1]
 generalize tail0 way=t at h0 h1
 simp only [List.mem_cons,List.not_mem_nil,or_false] at h0
 rcases h0 with rfl | rfl | rfl | rfl | rfl | rfl | rfl
 ·refine ⟨[],rfl,.inr ⟨rfl,?_⟩⟩
  cases b with
  | nil=>simp [headP]
  | cons x y=>simpa using h1
 ·exact ⟨[32],rfl,.inl ⟨32,rfl,rfl⟩⟩
 ·exact ⟨[9],rfl,.inl ⟨9,rfl,rfl⟩⟩
 ·exact ⟨[10],rfl,.inl ⟨10,rfl,rfl⟩⟩
 ·cases hb:(b.take 1==[10]) with
  | true =>
   rw [if_pos (by decide)]
   exact ⟨[10],rfl,.inl ⟨10,rfl,rfl⟩⟩
  | false =>
   rw [if_neg (by decide)]
   refine ⟨[10],?_,.inl ⟨10,rfl,rfl⟩⟩
   show 10::mend true b=_
   rw [mend_true b (ne10 hb)]; rfl
 ·exact ⟨[10],rfl,.inl ⟨10,rfl,rfl⟩⟩
 ·exact ⟨[10],rfl,.inl ⟨10,rfl,rfl⟩⟩
theorem take_while_app {p:Nat→Bool}:∀ (F R:List Nat),(∀ d∈F,p d=true)→(F++R).takeWhile p=F++R.takeWhile p
 | [],R,_=>rfl
 | c::F,R,h=>by
  obtain ⟨h1,h2⟩:=List.forall_mem_cons.mp h
  rw [List.cons_append,List.takeWhile_cons,if_pos h1,take_while_app F R h2]; rfl
theorem tw_none {p:Nat→Bool} {R:List Nat} (h:headP p R=false):R.takeWhile p=[]:=by
 cases R with
 | nil=>rfl
 | cons c R=>rw [List.takeWhile_cons,if_neg (by show ¬ p c=true; rw [show p c=false from h]; exact bn)]
theorem headP_tk {p:Nat→Bool} {R:List Nat} {k:Nat} (h:headP p R=false):headP p (R.take k)=false:=by
 cases R with
 | nil=>cases k <;> rfl
 | cons c R=>cases k with
  | zero=>rfl
  | succ k=>exact h
theorem hexRun_app {F R:List Nat} (h:∀ d∈F,isHex d=true) (hl:F.length≤6) (hr:F.length=6∨headP isHex R=false):hexRun (F++R)=F:=by
 unfold hexRun
 rw [List.take_append,List.take_of_length_le hl,take_while_app _ _ h]
 have:(R.take (6 - F.length)).takeWhile isHex=[]:=by
  rcases hr with e | e
  ·rw [e]; rfl
  ·exact tw_none (headP_tk e)
 rw [this,List.append_nil]
theorem esc_hex {F w R:List Nat} {c:Nat} (h:∀ d∈F,isHex d=true) (hl:F.length≤6) (hne:F≠[]) (hv:hexVal F=c) (h0:0 < c) (h1:c≤1114111) (hw:(∃ x,w=[x]∧isWs x=true)∨(w=[]∧(F.length=6∨headP isHex R=false)∧headP isWs R=false)):esc (F++(w++R))=(c,F.length+w.length):=by
 have hrun:hexRun (F++(w++R))=F:=by
  refine hexRun_app h hl ?_
  rcases hw with ⟨x,rfl,hx⟩ | ⟨rfl,hr,_⟩
  ·right
   show isHex x=false
   unfold isWs at hx
   simp at hx
   rcases hx with (rfl | rfl) | rfl <;> rfl
  ·exact hr
 unfold esc
 rw [hrun,if_neg hne,if_pos (by rw [hv]; exact ⟨h0,h1⟩),hv,List.drop_left]
 congr 1
 rcases hw with ⟨x,rfl,hx⟩ | ⟨rfl,_,hr⟩
 ·rw [if_pos (show headP isWs ([x]++R)=true from hx)]; rfl
 ·rw [if_neg (show ¬ headP isWs ([]++R)=true by show ¬ headP isWs R=true; rw [hr]; exact bn)]; rfl
theorem isBl_no {c:Nat} (h:isBl c=false):(c==32)=false∧(c==9)=false∧(c==10)=false∧(c==13)=false∧(c==12)=false:=by
 rw [isBl_eq,Bool.or_eq_false_iff,Bool.or_eq_false_iff,Bool.or_eq_false_iff,Bool.or_eq_false_iff] at h
 exact ⟨h.1.1.1.1,h.1.1.1.2,h.1.1.2,h.1.2,h.2⟩
theorem Mn_head {p:Nat→Bool} {b:List Nat} (hp:p 65533=false) (h10:headP isBl b=false) (h:headP p b=false):headP p (Mn b)=false:=by
 cases b with
 | nil=>rfl
 | cons c t =>
  have hb:isBl c=false:=h10
  have hc:p c=false:=h
  obtain ⟨_,_,_,q1,q2⟩:=isBl_no hb
  show headP p (mend false (c::t))=false
  rw [mend_cons]
  by_cases h0:(c==0)=true
  ·rw [if_pos h0]; exact hp
  ·rw [if_neg h0,if_neg (by rw [q1,q2]; exact bn),Bool.not_false,Bool.or_true,if_pos rfl]
   exact hc
theorem isWs_bl {c:Nat} (h:isBl c=false):isWs c=false:=by
 obtain ⟨q1,q2,q3,_⟩:=isBl_no h
 unfold isWs
 rw [q1,q2,q3]; rfl
theorem hexF_read {c:Nat} (way:Nat) (B:List Nat) (hc:c∈sig5):∃ e:List Nat,e≠[]∧(∀ x,e.head?=some x→isHex x=true)∧Mn (hexF c way B++B)=92::(e++Mn B)∧esc (e++Mn B)=(c,e.length):=by
 obtain ⟨f1,f2,f3,f4⟩:=fig_ok way hc
 obtain ⟨c1,c2⟩:=sig5_lt c hc
 unfold hexF
 generalize figN c way=F at f1 f2 f3 f4
 obtain ⟨w,hw1,hw2⟩:=tail_w way F.length B
 have hM:Mn (92::(F++tail2 way F.length B)++B)=92::(F++(w++Mn B)):=by
  rw [List.cons_append,List.append_assoc]
  show mend false (92::_)=_
  rw [mend_stay (by decide)]
  show 92::Mn (F++(tail2 way F.length B++B))=_
  rw [Mn_stays (fun d hd=>isHex_stays (f1 d hd)),hw1]
 refine ⟨F++w,fun e=>f3 (List.append_eq_nil_iff.mp e).1,fun x hx=>?_,by rw [hM,List.append_assoc],?_⟩
 ·cases F with
  | nil=>exact absurd rfl f3
  | cons d F=>cases hx; exact f1 _ (.head _)
 ·rw [List.append_assoc,List.length_append]
  refine esc_hex f1 f2 f3 f4 (by exact ar 1 [_] (.im (.nt (.eq .v0 .n0)) (.lt .n0 .v0)) rfl c2) (by exact ar 1 [_] (.im (.lt .v0 (.n 1114112)) (.le .v0 (.n 1114111))) rfl c1) ?_
  rcases hw2 with h | ⟨rfl,h⟩
  ·exact .inl h
  ·right
   rw [Bool.or_eq_false_iff,Bool.and_eq_false_iff] at h
   refine ⟨rfl,?_,?_⟩
   ·rcases h.2 with q | q
    ·left; have:=of_decide_eq_false q; exact ar 1 [_] (.im (.le .v0 (.n 6)) (.im (.nt (.lt .v0 (.n 6))) (.eq .v0 (.n 6)))) rfl f2 (Ar.f q)
    ·right; exact Mn_head (by decide) h.1 q
   ·refine Mn_head (by decide) h.1 ?_
    cases B with
    | nil=>rfl
    | cons d t=>exact isWs_bl h.1
theorem en_tab:∀ c∈sig5,isEn c=false→stays c=true∧c≠10:=by decide +kernel
inductive Sp (c:Nat) (pl:Bool) (S B:List Nat):Prop
 | pl (h:pl=true) (e:S=[c]) (hM:Mn (S++B)=c::Mn B)
 | es (e:List Nat) (t:List Nat) (hS:S=92::t) (hne:e≠[]) (h10:e.head?≠some 10) (hM:Mn (S++B)=92::(e++Mn B)) (he:esc (e++Mn B)=(c,e.length))
theorem sp_of {c way:Nat} {pl:Bool} (B:List Nat) (hc:c∈sig5) (hp:pl=true→stays c=true):Sp c pl (spF c way pl B) B:=by
 unfold spF
 split
 ·rename_i h
  have hpl:=(Bool.and_eq_true_iff.mp h).1
  exact .pl hpl rfl (mend_stay (hp hpl) false B)
 ·split
  ·rename_i h
   rw [Bool.and_eq_true,Bool.and_eq_true] at h
   obtain ⟨_,hx,hn⟩:=h
   have hx:isHex c=false:=by simpa using hx
   have hn:isEn c=false:=by simpa using hn
   obtain ⟨hst,h10⟩:=en_tab c hc hn
   refine .es [c] [c] rfl nofun (by intro e; exact h10 (Option.some.inj e)) ?_ (esc_plain hx)
   show mend false (92::c::B)=_
   rw [mend_stay (by decide),mend_stay hst]; rfl
  ·obtain ⟨e,h1,h2,h3,h4⟩:=hexF_read (way / 3) B hc
   exact .es e _ rfl h1 (fun q=>absurd (h2 10 q) (by decide)) h3 h4
theorem Sp.esc {c:Nat} {pl:Bool} {S B:List Nat} (h:Sp c pl S B):(pl=true∧S=[c]∧Mn (S++B)=c::Mn B)∨∃ e t,S=92::t∧e≠[]∧e.head?≠some 10∧Mn (S++B)=92::(e++Mn B)∧esc (e++Mn B)=(c,e.length):=by
 induction h with
 | pl a b c=>exact .inl ⟨a,b,c⟩
 | es e t a b c d f=>exact .inr ⟨e,t,a,b,c,d,f⟩
noncomputable def isStop (b:Nat):Bool:=b==32||b==44||b==10||b==47||b==59||b==40
noncomputable def BOk (B:List Nat):Prop:=Mn B=[]∨∃ b t,Mn B=b::t∧isStop b=true
theorem stop_tab {b:Nat} {p:Nat→Bool} (h:isStop b=true) (hp:[32,44,10,47,59,40].all p=true):p b=true:=by
 unfold isStop at h
 rw [Bool.or_eq_true,Bool.or_eq_true,Bool.or_eq_true,Bool.or_eq_true,Bool.or_eq_true] at h
 refine List.all_eq_true.mp hp b ?_
 rcases h with ((((h | h) | h) | h) | h) | h <;> (rw [eq_of_beq h]; decide)
theorem stop_iff {b:Nat} (h:isStop b=true):isNm b=false∧isNS b=false∧isDig b=false∧isSg b=false:=of_decide_eq_true (stop_tab (p:=fun b=>decide (isNm b=false∧isNS b=false∧isDig b=false∧isSg b=false)) h (by decide +kernel))
noncomputable def Nq (x:Nat):Prop:=x∈sig5∧isNm x=true
theorem nm_iff {c:Nat} (h:Nq c):c≠92∧c≠62∧c≠43∧isWs c=false∧c≠37∧(isNS c=true→isDig c=false∧c≠46):=(show ∀ c∈sig5,isNm c=true→c≠92∧c≠62∧c≠43∧isWs c=false∧c≠37∧(isNS c=true→isDig c=false∧c≠46) by decide +kernel) c h.1 h.2
theorem escOk_no {x:Nat} {y:List Nat} (h:x≠92):escOk (x::y)=false:=by
 unfold escOk
 rw [Bool.and_eq_false_iff]; left
 rw [List.take_succ_cons,List.take_zero,one_beq]
 exact beq_eq_false_iff_ne.mpr fun e=>h e.symm
theorem escOk_yes {y:List Nat} (hne:y≠[]) (h:y.head?≠some 10):escOk (92::y)=true:=by
 cases y with
 | nil=>exact absurd rfl hne
 | cons x y =>
  unfold escOk
  have:x≠10:=fun e=>h (by rw [e]; rfl)
  simp [this]
theorem stop_ne {b d:Nat} (h:isStop b=true) (k:isStop d=false):b≠d:=fun e=>by rw [e,k] at h; cases h
theorem ident_BOk {B:List Nat} (h:BOk B):ident (Mn B)=([],0):=by
 rcases h with h | ⟨b,t,h,hb⟩
 ·rw [h,ident_nil]
 ·rw [h,ident_cons,if_neg (by rw [(stop_iff hb).1]; exact bn),if_neg (by rw [escOk_no (stop_ne hb (by decide))]; exact bn)]
noncomputable def HdN (x:Nat) (y:List Nat):Prop:=Nq x∨(x=92∧y≠[]∧y.head?≠some 10)
theorem sp_hd {c:Nat} {pl:Bool} {S B:List Nat} (h:Sp c pl S B) (hc:c∈sig5) (hp:pl=true→isNm c=true):∃ x S' y,S=x::S'∧Mn (S++B)=x::y∧HdN x y:=by
 rcases h.esc with ⟨a,rfl,hM⟩ | ⟨e,t,rfl,h1,h2,h3,_⟩
 ·exact ⟨c,[],_,rfl,hM,.inl ⟨hc,hp a⟩⟩
 ·refine ⟨92,t,_,rfl,h3,.inr ⟨rfl,fun q=>h1 (List.append_eq_nil_iff.mp q).1,?_⟩⟩
  cases e with
  | nil=>exact absurd rfl h1
  | cons d e=>exact h2
theorem head_append {e M:List Nat} (h1:e≠[]):(e++M).take 1=e.take 1:=by
 cases e with
 | nil=>exact absurd rfl h1
 | cons d e=>rfl
theorem sp_ident {c:Nat} {pl:Bool} {S B v:List Nat} {n:Nat} (h:Sp c pl S B) (hp:pl=true→isNm c=true) {W:List Nat} (hM:Mn B=W) (hi:ident W=(v,n)):∃ W1,Mn (S++B)=W1++W∧ident (Mn (S++B))=(c::v,n+W1.length):=by
 subst hM
 rcases h.esc with ⟨a,rfl,hM⟩ | ⟨e,t,rfl,h1,h2,h3,h4⟩
 ·exact ⟨[c],hM,by rw [hM,ident_nm (hp a),hi]; rfl⟩
 ·refine ⟨92::e,h3,?_⟩
  rw [h3,ident_esc (by rw [head_append h1]; cases e with
   | nil=>exact absurd rfl h1
   | cons d e=>exact fun q=>h2 (by rw [(List.cons.inj q).1]; rfl)),h4,List.drop_left,hi]
  rfl
theorem nm_read {B:List Nat} (hB:BOk B):∀ z:SW,(∀ q∈z,q.1∈sig5)→∃ W,Mn (nmT B z++B)=W++Mn B∧ident (Mn (nmT B z++B))=(valF z,W.length)
 | [],_=>⟨[],rfl,ident_BOk hB⟩
 | q::r,h=>by
  obtain ⟨h1,h2⟩:=List.forall_mem_cons.mp h
  obtain ⟨W,w1,w2⟩:=nm_read hB r h2
  have hs:=sp_of (way:=q.2) (pl:=isNm q.1) (nmT B r++B) h1 (isNm_stays _ h1)
  obtain ⟨W1,e1,e2⟩:=sp_ident hs id rfl w2
  refine ⟨W1++W,?_,?_⟩
  ·show Mn ((spF q.1 q.2 (isNm q.1) (nmT B r++B)++nmT B r)++B)=_
   rw [List.append_assoc,e1,w1,List.append_assoc]
  ·show ident (Mn ((spF q.1 q.2 (isNm q.1) (nmT B r++B)++nmT B r)++B))=_
   rw [List.append_assoc,e2,List.length_append,Nat.add_comm]
   rfl
theorem nm_hd {B:List Nat}:∀ z:SW,(∀ q∈z,q.1∈sig5)→(nmT B z=[]∧z=[])∨∃ x t y,nmT B z=x::t∧Mn (nmT B z++B)=x::y∧HdN x y
 | [],_=>.inl ⟨rfl,rfl⟩
 | q::r,h=>by
  obtain ⟨h1,h2⟩:=List.forall_mem_cons.mp h
  have hs:=sp_of (way:=q.2) (pl:=isNm q.1) (nmT B r++B) h1 (isNm_stays _ h1)
  obtain ⟨x,S',y,e1,e2,e3⟩:=sp_hd hs h1 id
  refine .inr ⟨x,S'++nmT B r,y,?_,?_,e3⟩
  ·show spF q.1 q.2 (isNm q.1) (nmT B r++B)++nmT B r=_
   rw [e1]; rfl
  ·show Mn ((spF q.1 q.2 (isNm q.1) (nmT B r++B)++nmT B r)++B)=_
   rw [List.append_assoc,e2]
structure NmR (P nm B v:List Nat):Prop where
 rd:∃ W,Mn (nm++B)=W++Mn B∧ident (Mn (nm++B))=(v,W.length)
 st:identStart (Mn (nm++B))=startsF nm
 op:(headP isNm (Mn (nm++B))||escOk (Mn (nm++B)))=true
 hd:∃ x y t,nm=x::t∧Mn (nm++B)=x::y∧HdN x y∧(isUu x=true→headP (·==43) y=false)∧((x::y).take 3==[45,45,62])=false∧(P=lit "size"→expo (x::y)=0)
 go:P≠lit "hash"→startsF nm=true
theorem u_head {B:List Nat} (hB:BOk B) (r:SW) (h:∀ q∈r,q.1∈sig5):Mn (nmT B r++B)=[]∨∃ x y,Mn (nmT B r++B)=x::y∧(HdN x y∨isStop x=true):=by
 rcases nm_hd (B:=B) r h with ⟨e1,e2⟩ | ⟨x,t,y,e1,e2,e3⟩
 ·rw [e1,List.nil_append]
  rcases hB with hb | ⟨b,t,hb,hs⟩
  ·exact .inl hb
  ·exact .inr ⟨b,t,hb,.inr hs⟩
 ·exact .inr ⟨x,y,e2,.inl e3⟩
theorem hd_no {p:Nat→Bool} {x:Nat} {y:List Nat} (h:HdN x y∨isStop x=true) (h1:∀ c,Nq c→p c=false) (h2:p 92=false) (h3:∀ c,isStop c=true→p c=false):p x=false:=by
 rcases h with (h | ⟨rfl,_⟩) | h
 ·exact h1 x h
 ·exact h2
 ·exact h3 x h
theorem HdN.op {x:Nat} {y:List Nat} (h:HdN x y):(headP isNm (x::y)||escOk (x::y))=true:=by
 rcases h with h | ⟨rfl,h1,h2⟩
 ·show (isNm x||_)=true
  rw [h.2]; rfl
 ·rw [escOk_yes h1 h2,Bool.or_true]
theorem HdN.es {x:Nat} {y:List Nat} (h:HdN x y):escOk (x::y)=(x==92):=by
 rcases h with h | ⟨rfl,h1,h2⟩
 ·have:=(nm_iff h).1
  rw [escOk_no this,beq_eq_false_iff_ne.mpr this]
 ·rw [escOk_yes h1 h2]; rfl
theorem no_cdc {B:List Nat} (hB:BOk B) (r:SW) (h:∀ q∈r,q.1∈sig5):(Mn (nmT B r++B)).take 2≠[45,62]:=by
 cases r with
 | nil =>
  show (Mn B).take 2≠_
  rcases hB with hb | ⟨b,t,hb,hs⟩
  ·rw [hb]; nofun
  ·rw [hb]; exact fun e=>stop_ne hs (by decide) (List.cons.inj e).1
 | cons q r =>
  obtain ⟨h1,h2⟩:=List.forall_mem_cons.mp h
  have hs:=sp_of (way:=q.2) (pl:=isNm q.1) (nmT B r++B) h1 (isNm_stays _ h1)
  show (Mn ((spF q.1 q.2 (isNm q.1) (nmT B r++B)++nmT B r)++B)).take 2≠_
  rw [List.append_assoc]
  rcases hs.esc with ⟨a,_,hM⟩ | ⟨e,t,_,g1,g2,hM,_⟩
  ·rw [hM]
   rcases u_head hB r h2 with e | ⟨x,y,e,e2⟩
   ·rw [e]; intro k; have:=(List.cons.inj k).2; cases this
   ·rw [e]
    intro k
    have k2:=(List.cons.inj (List.cons.inj k).2).1
    have:(x==62)=false:=hd_no (p:=(·==62)) e2 (fun c hc=>beq_eq_false_iff_ne.mpr (nm_iff hc).2.1) (by decide) (fun c hc=>beq_eq_false_iff_ne.mpr (stop_ne hc (by decide)))
    rw [k2] at this; cases this
  ·rw [hM]; exact fun k=>by have:=(List.cons.inj k).1; cases this
theorem st_eq {x:Nat} {y:List Nat} (h:HdN x y):(isNS x||escOk (x::y))=(x==92||isNS x):=by
 rw [h.es,Bool.or_comm]
theorem ident_st {B:List Nat} (hB:BOk B) {r:SW} (h:∀ q∈r,q.1∈sig5):(dashStart (Mn (nmT B r++B))||escOk (Mn (nmT B r++B)))=(if (nmT B r).take 1==[45] then true else st1 (nmT B r)):=by
 rcases nm_hd (B:=B) r h with ⟨e1,_⟩ | ⟨x,t,y,e1,e2,e3⟩
 ·rw [e1,List.nil_append,if_neg (by decide)]
  rcases hB with hb | ⟨b,t,hb,hs⟩
  ·rw [hb]; rfl
  ·rw [hb,escOk_no (stop_ne hs (by decide))]
   show ((isNS b||b==45)||false)=false
   rw [(stop_iff hs).2.1,beq_eq_false_iff_ne.mpr (stop_ne hs (by decide))]; rfl
 ·rw [e2,e1]
  show ((isNS x||x==45)||escOk (x::y))=(if ([x]==[45])=true then true else (x==92||isNS x))
  rw [one_beq]
  by_cases h45:(45==x)=true
  ·rw [if_pos h45,← eq_of_beq h45]; rfl
  ·rw [if_neg h45,← st_eq e3,show (x==45)=false from beq_eq_false_iff_ne.mpr fun e=>h45 (by rw [e]; rfl),Bool.or_false]
theorem pl0_nm {P:List Nat} {c:Nat} {t:List Nat} (h:pl0 P c t=true):isNm c=true∧((P != lit "hash")=true→startsF (c::t)=true)∧(P=lit "size"→isE c=true→t=[]∨headP isFH t=false):=by
 unfold pl0 at h
 by_cases hp:(P != lit "hash")=true
 ·rw [if_pos hp] at h
  by_cases hs:(P==lit "size"&&(isE c&&(!t.isEmpty&&headP isFH t)))=true
  ·rw [if_pos hs] at h; cases h
  ·rw [if_neg hs,Bool.and_eq_true] at h
   refine ⟨h.1,fun _=>h.2,fun e1 e2=>?_⟩
   rw [e1,e2,beq_self_eq_true,Bool.true_and,Bool.true_and] at hs
   cases t with
   | nil=>exact .inl rfl
   | cons d t=>right; cases hq:headP isFH (d::t) with
    | false=>rfl
    | true=>rw [hq] at hs; exact absurd rfl hs
 ·rw [if_neg hp] at h
  have e:P=lit "hash":=by
   cases hq:(P != lit "hash") with
   | true=>exact absurd hq hp
   | false=>simpa using hq
  exact ⟨h,fun q=>absurd q hp,fun q _=>absurd (e.symm.trans q) (by decide +kernel)⟩
theorem expo_zero {x:Nat} {y:List Nat} (h:y=[]∨∃ d t,y=d::t∧isSg d=false∧isDig d=false):expo (x::y)=0:=by
 unfold expo
 split
 ·rw [if_neg]
  rcases h with rfl | ⟨d,t,rfl,h1,h2⟩
  ·exact bn
  ·show ¬ headP isDig ((x::d::t).drop (1+if isSg d=true then 1 else 0))=true
   rw [h1]
   show ¬ isDig d=true
   rw [h2]; exact bn
 ·rfl
theorem nm_ok {B:List Nat} (hB:BOk B) {P:List Nat} {q:Nat × Nat} {r:SW} (h:∀ p∈q::r,p.1∈sig5):NmR P (namF P B (q::r)) B (valF (q::r)):=by
 obtain ⟨h1,h2⟩:=List.forall_mem_cons.mp h
 show NmR P (spF q.1 q.2 (pl0 P q.1 (nmT B r)) (nmT B r++B)++nmT B r) B (q.1::valF r)
 have hp:pl0 P q.1 (nmT B r)=true→isNm q.1=true:=fun e=>(pl0_nm e).1
 have hs:=sp_of (way:=q.2) (pl:=pl0 P q.1 (nmT B r)) (nmT B r++B) h1 fun e=>isNm_stays _ h1 (hp e)
 generalize spF q.1 q.2 (pl0 P q.1 (nmT B r)) (nmT B r++B)=S at hs
 generalize hpl:pl0 P q.1 (nmT B r)=pl at hs hp
 generalize hc:q.1=c at hs hp hpl h1
 obtain ⟨W,w1,w2⟩:=nm_read hB r h2
 obtain ⟨W1,e1,e2⟩:=sp_ident hs hp rfl w2
 have eA:(S++nmT B r)++B=S++(nmT B r++B):=List.append_assoc _ _ _
 have rd:∃ W,Mn ((S++nmT B r)++B)=W++Mn B∧ident (Mn ((S++nmT B r)++B))=(c::valF r,W.length):=by
  refine ⟨W1++W,?_,?_⟩
  ·rw [eA,e1,w1,List.append_assoc]
  ·rw [eA,e2,List.length_append,Nat.add_comm]
 rcases hs.esc with ⟨a,hS,hM⟩ | ⟨e,t,hS,g1,g2,hM,_⟩
 ·have hn:=hp a
  rw [a] at hpl
  obtain ⟨_,p2,p3⟩:=pl0_nm hpl
  subst hS
  have hd:HdN c (Mn (nmT B r++B)):=.inl ⟨h1,hn⟩
  have no:∀ p:Nat→Bool,(∀ c,Nq c→p c=false)→p 92=false→(∀ c,isStop c=true→p c=false)→headP p (Mn (nmT B r++B))=false:=fun p k1 k2 k3=>by
   rcases u_head hB r h2 with e | ⟨x,y,e,k⟩
   ·rw [e]; rfl
   ·rw [e]; exact hd_no k k1 k2 k3
  refine ⟨rd,?_,?_,⟨c,_,nmT B r,rfl,eA ▸ hM,hd,fun _=>?_,?_,fun es=>?_⟩,fun hne=>p2 (bne_iff_ne.mpr hne)⟩
  ·rw [eA,hM]
   show (isNS c||(if (c==45)=true then dashStart (Mn (nmT B r++B))||escOk (Mn (nmT B r++B)) else escOk (c::Mn (nmT B r++B))))=(if ([c]==[45])=true then (if (nmT B r).take 1==[45] then true else st1 (nmT B r)) else (c==92||isNS c))
   rw [one_beq]
   by_cases h45:c=45
   ·subst h45
    rw [if_pos (show ((45:Nat)==45)=true from rfl),if_pos (show ((45:Nat)==45)=true from rfl),ident_st hB h2]; rfl
   ·rw [if_neg (by simpa using h45),if_neg (by simpa using Ne.symm h45),st_eq hd]
  ·rw [eA,hM]; exact hd.op
  ·exact no (·==43) (fun c hc=>beq_eq_false_iff_ne.mpr (nm_iff hc).2.2.1) (by decide) (fun c hc=>beq_eq_false_iff_ne.mpr (stop_ne hc (by decide)))
  ·rw [beq_eq_false_iff_ne]
   exact fun k=>no_cdc hB r h2 (List.cons.inj k).2
  ·cases he:isE c with
   | false=>exact expo_not he
   | true =>
    refine expo_zero ?_
    rcases p3 es he with hT | hT
    ·rw [hT,List.nil_append]
     rcases hB with hb | ⟨b,t,hb,hst⟩
     ·exact .inl hb
     ·exact .inr ⟨b,t,hb,(stop_iff hst).2.2.2,(stop_iff hst).2.2.1⟩
    ·rcases nm_hd (B:=B) r h2 with ⟨k1,_⟩ | ⟨x,t,y,k1,k2,k3⟩
     ·rw [k1,List.nil_append]
      rcases hB with hb | ⟨b,t,hb,hst⟩
      ·exact .inl hb
      ·exact .inr ⟨b,t,hb,(stop_iff hst).2.2.2,(stop_iff hst).2.2.1⟩
     ·rw [k1] at hT
      have hT:(isDig x||x==45)=false:=hT
      rw [Bool.or_eq_false_iff] at hT
      refine .inr ⟨x,y,k2,?_,hT.1⟩
      unfold isSg
      rw [hT.2,Bool.false_or,beq_eq_false_iff_ne]
      rcases k3 with k3 | ⟨rfl,_⟩
      ·exact (nm_iff k3).2.2.1
      ·decide
 ·subst hS
  have hd:HdN 92 (e++Mn (nmT B r++B)):=.inr ⟨rfl,fun k=>g1 (List.append_eq_nil_iff.mp k).1,by
   cases e with
   | nil=>exact absurd rfl g1
   | cons d e=>exact g2⟩
  refine ⟨rd,?_,?_,⟨92,_,t++nmT B r,rfl,eA ▸ hM,hd,nofun,?_,fun _=>expo_not rfl⟩,fun _=>rfl⟩
  ·rw [eA,hM]
   show (isNS 92||escOk (92::(e++Mn (nmT B r++B))))=true
   rw [hd.es]; rfl
  ·rw [eA,hM]; exact hd.op
  ·rw [beq_eq_false_iff_ne]
   exact fun k=>by have:=(List.cons.inj k).1; cases this
noncomputable def flg (b:Bool) (P:List Nat):Bool:=P.foldl (fun _ c=>c==13) b
theorem flg_app (b:Bool) (P Q:List Nat):flg b (P++Q)=flg (flg b P) Q:=List.foldl_append
noncomputable def mnd1 (b:Bool) (c:Nat):List Nat:=if c==0 then [65533] else if c==13||c==12 then [10] else if c != 10||!b then [c] else []
theorem mend_one (b:Bool) (c:Nat) (t:List Nat):mend b (c::t)=mnd1 b c++mend (c==13) t:=by
 rw [mend_cons]; unfold mnd1
 by_cases h0:(c==0)=true
 ·rw [if_pos h0,if_pos h0,eq_of_beq h0]; rfl
 rw [if_neg h0,if_neg h0]
 by_cases h1:(c==13||c==12)=true
 ·rw [if_pos h1,if_pos h1]; rfl
 rw [if_neg h1,if_neg h1]
 rw [Bool.or_eq_true,not_or] at h1
 rw [Bool.eq_false_iff.mpr h1.1]
 split <;> rfl
theorem mend_fl:∀ (P B:List Nat) (b:Bool),mend b (P++B)=mend b P++mend (flg b P) B
 | [],B,b=>rfl
 | c::t,B,b=>by rw [List.cons_append,mend_one,mend_one,mend_fl t B,List.append_assoc]; rfl
theorem mv_one (p:Nat × Nat) (b:Bool) (c:Nat):mv p (mnd1 b c)=stP p b c:=by
 unfold mnd1 stP
 by_cases h0:(c==0)=true
 ·rw [if_pos h0,eq_of_beq h0]; rfl
 rw [if_neg h0]
 cases h13:(c==13) with
 | true=>rfl
 | false =>
  cases h12:(c==12) with
  | true=>rfl
  | false =>
   cases h10:(c==10) with
   | true =>
    rw [eq_of_beq h10]
    cases b <;> rfl
   | false =>
    have h:(c != 10)=true:=by unfold bne; rw [h10]; rfl
    rw [h]
    show (if (c==10)=true then (p.1+1,1) else (p.1,p.2+1))=_
    rw [h10]; rfl
theorem plc_fl:∀ (P B:List Nat) (p:Nat × Nat) (b:Bool),(plcF p b (P++B)).drop P.length=plcF (mv p (mend b P)) (flg b P) B
 | [],B,p,b=>rfl
 | c::t,B,p,b=>by
  show (plcF (stP p b c) (c==13) (t++B)).drop t.length=_
  rw [plc_fl t B,mend_one,mv_app,mv_one]; rfl
noncomputable def NC (P B:List Nat):Prop:=(∀ b,flg b P=false)∨B.head?≠some 10
theorem NC.mend {P B:List Nat} (h:NC P B):Mn (P++B)=Mn P++Mn B:=by
 show Internal.mend false _=_
 rw [mend_fl]
 rcases h with h | h
 ·rw [h]
 ·cases flg false P with
  | false=>rfl
  | true=>rw [mend_true B h]
theorem plc_true (p:Nat × Nat) {B:List Nat} (h:B.head?≠some 10):plcF p true B=plcF p false B:=by
 cases B with
 | nil=>rfl
 | cons c t =>
  have:(c==10)=false:=beq_eq_false_iff_ne.mpr fun e=>h (by rw [e]; rfl)
  show plP p::plcF (stP p true c) (c==13) t=plP p::plcF (stP p false c) (c==13) t
  unfold stP
  rw [this]; rfl
theorem NC.plc {P B:List Nat} (h:NC P B) (p:Nat × Nat):(plcF p false (P++B)).drop P.length=plcF (mv p (Mn P)) false B:=by
 rw [plc_fl]
 rcases h with h | h
 ·rw [h]
 ·cases flg false P with
  | false=>rfl
  | true=>exact plc_true _ h
theorem NC.app {P Q B:List Nat} (h:NC Q B) (hq:Q≠[]):NC (P++Q) B:=by
 rcases h with h | h
 ·exact .inl fun b=>by rw [flg_app]; exact h _
 ·exact .inr h
theorem flg_last (P:List Nat) {c:Nat} (h:c≠13) (b:Bool):flg b (P++[c])=false:=by
 rw [flg_app]; exact beq_eq_false_iff_ne.mpr h
theorem flg_hex:∀ {F:List Nat},(∀ d∈F,isHex d=true)→∀ b,flg b (92::F)=false
 | [],_,b=>rfl
 | d::F,h,b=>by
  obtain ⟨h1,h2⟩:=List.forall_mem_cons.mp h
  have hd:(d==13)=false:=beq_eq_false_iff_ne.mpr (ne_of h1 rfl)
  have:=flg_hex h2 b
  show flg (d==13) F=false
  rw [hd]; exact this
theorem tail_nc (way l:Nat) (b:List Nat):tail2 way l b=[]∨(∀ b0,flg b0 (tail2 way l b)=false)∨b.head?≠some 10:=by
 have ht:TAILS=[[],[32],[9],[10],[13],[13,10],[12]]:=by decide +kernel
 have h0:=tail0_mem way
 rw [ht] at h0
 unfold tail2 tail1
 split
 ·exact .inr (.inl fun _=>rfl)
 ·split
  ·exact .inr (.inl fun _=>rfl)
  ·rename_i hn' h
   have hn:=h
   clear h hn'
   generalize tail0 way=t at h0 hn
   simp only [List.mem_cons,List.not_mem_nil,or_false] at h0
   rcases h0 with rfl | rfl | rfl | rfl | rfl | rfl | rfl
   ·exact .inl rfl
   ·exact .inr (.inl fun _=>rfl)
   ·exact .inr (.inl fun _=>rfl)
   ·exact .inr (.inl fun _=>rfl)
   ·refine .inr (.inr fun e=>hn ?_)
    cases b with
    | nil=>cases e
    | cons x y=>cases e; rfl
   ·exact .inr (.inl fun _=>rfl)
   ·exact .inr (.inl fun _=>rfl)
theorem sp_nc {c way:Nat} {pl:Bool} {B:List Nat} (hc:c∈sig5) (hp:pl=true→stays c=true):NC (spF c way pl B) B:=by
 have key:∀ {P:List Nat},c≠13→NC (P++[c]) B:=fun h=>.inl (flg_last _ h)
 unfold spF
 split
 ·rename_i h
  exact key (P:=[]) fun e=>by
   have:=hp (Bool.and_eq_true_iff.mp h).1
   rw [e] at this; cases this
 ·split
  ·rename_i h
   rw [Bool.and_eq_true,Bool.and_eq_true] at h
   exact key (P:=[92]) fun e=>by
    have:=h.2.2
    rw [e] at this; exact absurd this (by decide +kernel)
  ·unfold hexF
   obtain ⟨f1,_⟩:=fig_ok (way / 3) hc
   rcases tail_nc (way / 3) (figN c (way / 3)).length B with e | e | e
   ·rw [e,List.append_nil]
    exact .inl (flg_hex f1)
   ·exact .inl fun b=>(flg_app b (92::figN c (way / 3)) _).trans (e _)
   ·exact .inr e
theorem nmT_nc {B:List Nat}:∀ {z:SW},z≠[]→(∀ q∈z,q.1∈sig5)→NC (nmT B z) B
 | [],h,_=>absurd rfl h
 | [q],_,h=>by
  show NC (spF q.1 q.2 (isNm q.1) ([]++B)++[]) B
  rw [List.append_nil]
  exact sp_nc (h q (.head _)) (isNm_stays _ (h q (.head _)))
 | q::a::r,_,h=>(nmT_nc (z:=a::r) nofun (List.forall_mem_cons.mp h).2).app fun e=>spF_ne _ _ _ _ (List.append_eq_nil_iff.mp e).1
theorem nam_nc {P B:List Nat} {z:SW} (hz:z≠[]) (h:∀ q∈z,q.1∈sig5):NC (namF P B z) B:=by
 cases z with
 | nil=>exact absurd rfl hz
 | cons q r =>
  cases r with
  | nil =>
   show NC (spF q.1 q.2 (pl0 P q.1 []) ([]++B)++[]) B
   rw [List.append_nil]
   exact sp_nc (h q (.head _)) fun e=>isNm_stays _ (h q (.head _)) (pl0_nm e).1
  | cons a r=>exact (nmT_nc (z:=a::r) nofun (List.forall_mem_cons.mp h).2).app fun e=>spF_ne _ _ _ _ (List.append_eq_nil_iff.mp e).1
theorem mn_ne {P:List Nat} (h:P≠[]):Mn P≠[]:=by
 cases P with
 | nil=>exact absurd rfl h
 | cons c t =>
  show mend false (c::t)≠[]
  rw [mend_one]
  refine fun e=>?_
  have:=(List.append_eq_nil_iff.mp e).1
  unfold mnd1 at this
  split at this
  ·cases this
  ·split at this
   ·cases this
   ·simp at this
theorem run_leaf {k c:Nat} {t:List Nat} {cur:List V} {ec:Option Nat} {st:List FT} {ts:List V} {n:Nat} {pl:Nat × Nat} (h:step (plP pl) ec c t=.leaf ts n):run (k+1) pl (c::t) cur ec st=run k (mv pl ((c::t).take n)) ((c::t).drop n) (cur++ts) ec st:=by rw [run_cons,h]
theorem run_opn {k c:Nat} {t:List Nat} {cur:List V} {ec:Option Nat} {st:List FT} {P K N:V} {e n:Nat} {pl:Nat × Nat} (h:step (plP pl) ec c t=.opn P K N e n):run (k+1) pl (c::t) cur ec st=run k (mv pl ((c::t).take n)) ((c::t).drop n) [] (some e) (⟨cur,P,K,N,ec⟩::st):=by rw [run_cons,h]
theorem run_cls {k c:Nat} {t:List Nat} {cur:List V} {ec:Option Nat} {f:FT} {st:List FT} {pl:Nat × Nat} (h:step (plP pl) ec c t=.cls):run (k+1) pl (c::t) cur ec (f::st)=run k (mv pl [c]) t (f.items++[.tup [f.P,f.K,f.N,.lst cur]]) f.ec st:=by rw [run_cons,h]
noncomputable def wG (p:Nat × Nat) (X:List Nat) (r:Row):V:=.tup [.str r.1,(plcF p false X).getD (X.length - r.2.1) .none,r.2.2]
structure Rd (X:List Nat) (R:List Row):Prop where
 sz:∀ r∈R,r.2.1≤X.length
 rd:∀ (p:Nat × Nat) (k:Nat) (cur:List V),(Mn X).length≤k→∃ us,run k p (Mn X) cur none []=cur++us∧us.map rowV=R.map (wG p X)∧∀ u∈us,NB u
structure Pc (P X nm:List Nat) (tl:V):Prop where
 ne:P≠[]
 nc:NC P X
 rd:∀ (p:Nat × Nat) (k:Nat) (cur:List V),(Mn P++Mn X).length≤k→∃ k' u,(Mn X).length≤k'∧run k p (Mn P++Mn X) cur none []=run k' (mv p (Mn P)) (Mn X) (cur++[u]) none []∧rowV u=.tup [.str nm,plP p,tl]∧NB u
theorem Rd.nil:Rd [] []:=⟨nofun,fun p k cur h=>⟨[],(run_nil k p cur none []).trans (List.append_nil cur).symm,rfl,nofun⟩⟩
theorem Rd.cons {P X nm:List Nat} {tl:V} {R:List Row} (h:Rd X R) (c:Pc P X nm tl):Rd (P++X) ((nm,(P++X).length,tl)::R):=by
 refine ⟨fm ⟨Nat.le_refl _,fun r hr=>?_⟩,fun p k cur hk=>?_⟩
 ·have:=h.sz r hr
  rw [List.length_append]; exact ar 3 [_,_,_] (.im (.le .v0 .v2) (.le .v0 (.a .v1 .v2))) rfl this
 ·rw [c.nc.mend] at hk ⊢
  obtain ⟨k',u,hk',e,e1,e2⟩:=c.rd p k cur hk
  obtain ⟨us,e3,e4,e5⟩:=h.rd (mv p (Mn P)) k' (cur++[u]) hk'
  refine ⟨u::us,by rw [e,e3,List.append_assoc]; rfl,?_,fm ⟨e2,e5⟩⟩
  rw [List.map_cons,List.map_cons,e1,e4]
  refine congr (congrArg List.cons ?_) (List.map_congr_left fun r hr=>?_)
  ·unfold wG
   rw [Nat.sub_self]
   cases P with
   | nil=>exact absurd rfl c.ne
   | cons d t=>rfl
  ·have:=h.sz r hr
   unfold wG
   rw [← c.nc.plc,List.getD_eq_getElem?_getD,List.getD_eq_getElem?_getD,List.getElem?_drop,List.length_append,show P.length+(X.length - r.2.1)=P.length+X.length - r.2.1 by exact ar 3 [_,_,_] (.im (.le .v2 .v1) (.eq (.a .v0 (.s .v1 .v2)) (.s (.a .v0 .v1) .v2))) rfl this]
theorem Pc.leaf {P X nm:List Nat} {tl:V} (hnc:NC P X) {c:Nat} {w:List Nat} (hP:Mn P=c::w) (u:V→V) (hs:∀ pl,step pl none c (w++Mn X)=.leaf [u pl] (w.length+1)) (hr:∀ pl,rowV (u pl)=.tup [.str nm,pl,tl]) (hn:∀ pl,NB (u pl)):Pc P X nm tl:=by
 refine ⟨fun e=>(by rw [e] at hP; cases hP),hnc,fun p k cur hk=>?_⟩
 rw [hP] at hk ⊢
 rw [List.cons_append,List.length_cons,List.length_append] at hk
 obtain ⟨k',rfl⟩:∃ k',k=k'+1:=⟨k - 1,by exact ar 3 [_,_,_] (.im (.le (.a (.a .v1 .v2) .n1) .v0) (.eq .v0 (.a (.s .v0 .n1) .n1))) rfl hk⟩
 refine ⟨k',u (plP p),by exact ar 3 [_,_,_] (.im (.le (.a (.a .v2 .v0) .n1) (.a .v1 .n1)) (.le .v0 .v1)) rfl hk,?_,hr _,hn _⟩
 rw [List.cons_append,run_leaf (hs _),List.take_succ_cons,List.drop_succ_cons,List.take_left,List.drop_left]
structure Zs (c:Nat):Prop where
 ws:isWs c=false
 uu:isUu c=false
 ns:isNS c=false
 ne:c≠45∧c≠92∧c≠43∧c≠46
 dg:isDig c=false
theorem zs_of {c:Nat} (h:(!isWs c&&!isUu c&&!isNS c&&!(c==45)&&!(c==92)&&!(c==43)&&!(c==46)&&!isDig c)=true):Zs c:=by
 simp at h
 obtain ⟨⟨⟨⟨⟨⟨⟨h1,h2⟩,h3⟩,h4⟩,h5⟩,h6⟩,h7⟩,h8⟩:=h
 exact ⟨h1,h2,h3,⟨h4,h5,h6,h7⟩,h8⟩
theorem digs_no {c:Nat} {t:List Nat} (h:isDig c=false):digs (c::t)=0:=by
 rw [digs_cons,if_neg (nf h)]
theorem step_z {c:Nat} (h:Zs c) (pl:V) (ec:Option Nat) (t:List Nat):step pl ec c t=stepZ pl ec c t:=by
 obtain ⟨h1,h2,h3,⟨h4,h5,h6,h7⟩,h8⟩:=h
 unfold step
 rw [if_neg (by rw [h1]; exact bn),if_neg (by rw [h2]; exact bn),if_neg (by simp [h4]),if_neg]
 ·have:numEnd (c::t)=none:=by
   unfold numEnd
   have hs:headP isSg (c::t)=false:=by show isSg c=false; unfold isSg; simp [h4,h6]
   simp only [hs,Bool.false_eq_true,if_false,List.drop_zero,digs_no h8,Nat.zero_add]
   rw [if_neg (by simp [headP,h7])]
   simp
  rw [this]
 ·show ¬ (isNS c||(if c==45 then dashStart t||escOk t else escOk (c::t)))=true
  rw [h3,if_neg (by simp [h4]),escOk_no h5]
  exact bn
structure NmS (P nm B v:List Nat) (x:Nat) (w:List Nat):Prop where
 eq:Mn nm=x::w
 idn:ident (x::(w++Mn B))=(v,w.length+1)
 st:identStart (x::(w++Mn B))=startsF nm
 op:(headP isNm (x::(w++Mn B))||escOk (x::(w++Mn B)))=true
 ws:isWs x=false
 dg:startsF nm=true→isDig x=false∧x≠46
 pc:x≠37
 uu:isUu x=true→headP (·==43) (w++Mn B)=false
 cdc:((x::(w++Mn B)).take 3==[45,45,62])=false
 ex:P=lit "size"→expo (x::(w++Mn B))=0
theorem nm_mk {P nm B v:List Nat} (N:NmR P nm B v) (hnc:NC nm B):∃ x w,NmS P nm B v x w:=by
 obtain ⟨⟨W,r1,r2⟩,st,op,⟨x,y,t,h1,h2,h3,h4,h5,h6⟩,go⟩:=N
 rw [hnc.mend] at r1 r2 st op h2
 have eW:=List.append_cancel_right r1
 subst eW
 have hne:Mn nm≠[]:=mn_ne (by rw [h1]; nofun)
 obtain ⟨x',w,e⟩:=List.exists_cons_of_ne_nil hne
 rw [e] at r2 st op h2
 obtain ⟨e1,e2⟩:=List.cons.inj h2
 subst e1
 replace e2:w++Mn B=y:=e2
 subst e2
 refine ⟨x',w,e,r2,st,op,?_,fun hs=>?_,?_,h4,h5,h6⟩
 ·rcases h3 with h3 | ⟨rfl,_⟩
  ·exact (nm_iff h3).2.2.2.1
  ·decide
 ·rw [h1] at hs
  have key:x'=45∨x'=92∨isNS x'=true:=by
   unfold startsF at hs
   by_cases hq:x'=45
   ·exact .inl hq
   ·rw [if_neg (by intro k; exact hq (List.cons.inj (eq_of_beq k)).1)] at hs
    have hs:(x'==92||isNS x')=true:=hs
    rw [Bool.or_eq_true] at hs
    rcases hs with hs | hs
    ·exact .inr (.inl (eq_of_beq hs))
    ·exact .inr (.inr hs)
  rcases key with rfl | rfl | key
  ·decide
  ·decide
  ·exact (h3.elim (fun q=>(nm_iff q).2.2.2.2.2 key) fun q=>by rw [q.1] at key; cases key)
 ·rcases h3 with h3 | ⟨rfl,_⟩
  ·exact (nm_iff h3).2.2.2.2.1
  ·decide
section
variable {P nm B v:List Nat} {x:Nat} {w:List Nat} (N:NmS P nm B v x w)
include N
theorem NmS.step (hs:startsF nm=true) (pl:V) (ec:Option Nat):step pl ec x (w++Mn B)=stepI pl v (w.length+1) (x::(w++Mn B)):=by
 unfold Internal.step
 rw [if_neg (nf N.ws),if_neg,if_neg (nf N.cdc),if_pos (N.st.trans hs),N.idn]
 intro h
 rw [Bool.and_eq_true,Bool.and_eq_true] at h
 have:=N.uu h.1
 rw [h.2.1] at this; cases this
omit N in
theorem NmS.drop:(x::(w++Mn B)).drop (w.length+1)=Mn B:=by
 rw [List.drop_succ_cons,List.drop_left]
theorem pc_ident (h40:headP (·==40) (Mn B)=false) (hnc:NC nm B) (hs:startsF nm=true):Pc nm B (lit "ident") (.str v) :=
 Pc.leaf hnc N.eq (fun pl=>leafT pl "ident" v) (fun pl=>by
  rw [N.step hs]
  unfold stepI
  rw [NmS.drop,if_neg (nf h40)]) (fun pl=>rfl) (fun pl=>.leaf (by decide +kernel))
theorem pc_at (hnc:NC nm B) (hs:startsF nm=true):Pc (64::nm) B (lit "at-keyword") (.str v):=by
 refine Pc.leaf (hnc.app (P:=[64]) fun e=>?_) (show Mn (64::nm)=64::(x::w) from (mend_stay (by decide) false nm).trans (congrArg _ N.eq)) (fun pl=>leafT pl "at-keyword" v) (fun pl=>?_) (fun pl=>rfl) (fun pl=>.leaf (by decide +kernel))
 ·have:=N.eq; rw [e] at this; cases this
 ·rw [step_z (zs_of (by decide))]
  unfold stepZ
  show (if (64==64)=true then (if identStart (x::(w++Mn B))=true then _ else _) else _)=_
  rw [if_pos (by decide),if_pos (N.st.trans hs)]
  show Step.leaf [leafT pl "at-keyword" (ident (x::(w++Mn B))).1] (1+(ident (x::(w++Mn B))).2)=_
  rw [N.idn]
  exact congrArg _ (Nat.add_comm 1 _)
theorem pc_hash (hnc:NC nm B):Pc (35::nm) B (lit "hash") (.tup [.str v,.bool (startsF nm)]):=by
 refine Pc.leaf (hnc.app (P:=[35]) fun e=>?_) (show Mn (35::nm)=35::(x::w) from (mend_stay (by decide) false nm).trans (congrArg _ N.eq)) (fun pl=>.tup [pl,.str (lit "hash"),.str v,.bool (startsF nm)]) (fun pl=>?_) (fun pl=>rfl) (fun pl=>.hash)
 ·have:=N.eq; rw [e] at this; cases this
 ·rw [step_z (zs_of (by decide))]
  unfold stepZ
  show (if (35==64)=true then _ else if (35==35)=true then (if (headP isNm (x::(w++Mn B))||escOk (x::(w++Mn B)))=true then _ else _) else _)=_
  rw [if_neg (by decide),if_pos (by decide),if_pos N.op]
  show Step.leaf [.tup [pl,.str (lit "hash"),.str (ident (x::(w++Mn B))).1,.bool (identStart (x::(w++Mn B)))]] (1+(ident (x::(w++Mn B))).2)=_
  rw [N.idn,N.st]
  exact congrArg _ (Nat.add_comm 1 _)
end
structure SzOk (s:List Nat × V):Prop where
 st:∀ d∈s.1,stays d=true
 hd:∃ d t,s.1=d::t∧isWs d=false∧isUu d=false∧(∀ r,identStart (d::(t++r))=false)∧(∀ r,((d::(t++r)).take 3==[45,45,62])=false)
 num:∀ x y,isDig x=false→x≠46→expo (x::y)=0→∃ pn,numEnd (s.1++x::y)=some (s.1.length,pn)∧intV pn s.1=s.2
 iv:s.2=.none∨∃ z,s.2=.int z
theorem SIZES_eq:SIZES=[([49],.int 1),([45,50,48],.int (-20)),([43,51],.int 3),([46,53],.none),([52,101,50],.none),([48],.int 0)]:=by
 unfold SIZES
 rw [show lit "1"=[49] by decide +kernel,show lit "-20"=[45,50,48] by decide +kernel,show lit "+3"=[43,51] by decide +kernel,show lit ".5"=[46,53] by decide +kernel,show lit "4e2"=[52,101,50] by decide +kernel,show lit "0"=[48] by decide +kernel]
theorem numEnd_def (r:List Nat) (a b:Nat) (ha:(if headP isSg r then 1 else 0)=a) (hb:a+digs (r.drop a)=b):numEnd r=if headP (·==46) (r.drop b)&&headP isDig (r.drop (b+1)) then some (b+2+digs (r.drop (b+2))+expo (r.drop (b+2+digs (r.drop (b+2)))),false) else if b=a then none else some (b+expo (r.drop b),expo (r.drop b)==0):=by
 subst ha; subst hb; rfl
theorem digs_one {c x:Nat} {y:List Nat} (hc:isDig c=true) (hx:isDig x=false):digs (c::x::y)=1:=by
 rw [digs_cons,if_pos hc,digs_no hx]
theorem num_plain {sg ds:List Nat} {x:Nat} {y:List Nat} {a:Nat} (ha:a=sg.length) (hs:(if headP isSg (sg++(ds++x::y)) then 1 else 0)=a) (hd:digs (ds++x::y)=ds.length) (hn:ds≠[]) (h46:x≠46) (he:expo (x::y)=0):numEnd ((sg++ds)++x::y)=some ((sg++ds).length,true):=by
 have e0:((sg++ds)++x::y).drop a=ds++x::y:=by rw [ha,List.append_assoc,List.drop_left]
 have e1:((sg++ds)++x::y).drop (a+ds.length)=x::y:=by rw [← List.drop_drop,e0,List.drop_left]
 rw [numEnd_def _ a (a+ds.length) (by rw [List.append_assoc]; exact hs) (by rw [e0,hd]),e1,he]
 have:headP (·==46) (x::y)=false:=beq_eq_false_iff_ne.mpr h46
 have h3:=List.length_pos_iff.mpr hn
 rw [this,Bool.false_and,if_neg bn,if_neg (by exact ar 2 [_,_] (.im (.lt .n0 .v1) (.nt (.eq (.a .v0 .v1) .v0))) rfl h3),List.length_append,ha]; rfl
theorem iv_of {t:List Nat} {z:Int} (h:PySem.intText? (S' t)=some z):intV true t=.int z:=by
 unfold intV
 rw [if_pos rfl,h]
theorem sz_all:∀ s∈SIZES,SzOk s:=by
 rw [SIZES_eq]
 intro s hs
 simp only [List.mem_cons,List.not_mem_nil,or_false] at hs
 have e10:∀ {x:Nat} {y:List Nat},isDig x=false→digs ([49]++x::y)=1∧digs ([48]++x::y)=1∧digs ([51]++x::y)=1∧digs ([53]++x::y)=1∧digs ([52]++x::y)=1∧digs ([50]++x::y)=1∧digs ([50,48]++x::y)=2:=fun {x y} h=>⟨digs_one rfl h,digs_one rfl h,digs_one rfl h,digs_one rfl h,digs_one rfl h,digs_one rfl h,by
  show digs (50::48::x::y)=2
  rw [digs_cons,if_pos (by decide),digs_one rfl h]⟩
 rcases hs with rfl | rfl | rfl | rfl | rfl | rfl
 ·exact ⟨by decide,⟨49,[],rfl,by decide,by decide,fun r=>rfl,fun r=>rfl⟩,fun x y h1 h2 h3=>⟨true,num_plain (sg:=[]) (ds:=[49]) rfl rfl (e10 h1).1 nofun h2 h3,iv_of (by decide +kernel)⟩,.inr ⟨_,rfl⟩⟩
 ·exact ⟨by decide,⟨45,[50,48],rfl,by decide,by decide,fun r=>rfl,fun r=>rfl⟩,fun x y h1 h2 h3=>⟨true,num_plain (sg:=[45]) (ds:=[50,48]) rfl rfl (e10 h1).2.2.2.2.2.2 nofun h2 h3,iv_of (by decide +kernel)⟩,.inr ⟨_,rfl⟩⟩
 ·exact ⟨by decide,⟨43,[51],rfl,by decide,by decide,fun r=>rfl,fun r=>rfl⟩,fun x y h1 h2 h3=>⟨true,num_plain (sg:=[43]) (ds:=[51]) rfl rfl (e10 h1).2.2.1 nofun h2 h3,iv_of (by decide +kernel)⟩,.inr ⟨_,rfl⟩⟩
 ·refine ⟨by decide,⟨46,[53],rfl,by decide,by decide,fun r=>rfl,fun r=>rfl⟩,fun x y h1 h2 h3=>⟨false,?_,rfl⟩,.inl rfl⟩
  show numEnd (46::53::x::y)=some (2,false)
  rw [numEnd_def (46::53::x::y) 0 0 rfl rfl,if_pos rfl]
  have e:(46::53::x::y).drop (0+2)=x::y:=rfl
  rw [e,digs_no h1]
  show some (0+2+0+expo (x::y),false)=_
  rw [h3]
 ·refine ⟨by decide,⟨52,[101,50],rfl,by decide,by decide,fun r=>rfl,fun r=>rfl⟩,fun x y h1 h2 h3=>⟨false,?_,rfl⟩,.inl rfl⟩
  show numEnd (52::101::50::x::y)=some (3,false)
  rw [numEnd_def (52::101::50::x::y) 0 1 rfl rfl,if_neg (by exact bn),if_neg (by decide)]
  have:expo (101::50::x::y)=1+digs (50::x::y):=rfl
  show some (1+expo (101::50::x::y),expo (101::50::x::y)==0)=_
  rw [this,digs_one rfl h1]; rfl
 ·exact ⟨by decide,⟨48,[],rfl,by decide,by decide,fun r=>rfl,fun r=>rfl⟩,fun x y h1 h2 h3=>⟨true,num_plain (sg:=[]) (ds:=[48]) rfl rfl (e10 h1).2.1 nofun h2 h3,iv_of (by decide +kernel)⟩,.inr ⟨_,rfl⟩⟩
theorem pc_dim {P nm B v:List Nat} {x:Nat} {w:List Nat} (N:NmS P nm B v x w) (hP:P=lit "size") (hnc:NC nm B) (hs:startsF nm=true) {s:List Nat × V} (S:SzOk s):Pc (s.1++nm) B (lit "dimension") (.tup [.str s.1,s.2,.str v]):=by
 obtain ⟨s1,s2⟩:=s
 obtain ⟨h1,⟨d,t,rfl,h2,h3,h4,h5⟩,h6,h7⟩:=S
 have hM:Mn ((d::t)++nm)=d::(t++(x::w)):=by rw [Mn_stays h1,N.eq]; rfl
 obtain ⟨n1,n2⟩:=N.dg hs
 obtain ⟨pn,q1,q2⟩:=h6 x (w++Mn B) n1 n2 (N.ex hP)
 refine Pc.leaf (hnc.app fun e=>?_) hM (fun pl=>.tup [pl,.str (lit "dimension"),.str v,.tup [.str (d::t),s2]]) (fun pl=>?_) (fun pl=>rfl) (fun pl=>.dim h7)
 ·have:=N.eq; rw [e] at this; cases this
 ·have e0:(t++(x::w))++Mn B=t++x::(w++Mn B):=by rw [List.append_assoc]; rfl
  rw [e0]
  have q1:numEnd (d::(t++x::(w++Mn B)))=some ((d::t).length,pn):=q1
  unfold step
  rw [if_neg (nf h2),if_neg (by rw [h3,Bool.false_and]; exact bn),if_neg (nf (h5 _)),if_neg (nf (h4 _)),q1]
  show stepN pl pn (d::t).length ((d::t)++x::(w++Mn B))=_
  unfold stepN
  rw [List.drop_left,List.take_left,if_pos (N.st.trans hs),N.idn,q2,List.length_append]
  show Step.leaf _ ((d::t).length+(w.length+1))=Step.leaf _ (t.length+(w.length+1)+1)
  rw [List.length_cons,Nat.add_right_comm]
theorem not_url {v:List Nat} (h:∀ c∈v,c∈sig5):isUrl v=false:=by
 have key:∀ c∈sig5,low c≠114:=by decide +kernel
 refine beq_eq_false_iff_ne.mpr fun e=>?_
 have:(114:Nat)∈v.map low:=by rw [e]; simp
 obtain ⟨c,hc,he⟩:=List.mem_map.mp this
 exact key c (h c hc) he
theorem pc_func {P nm v X:List Nat} {x:Nat} {w:List Nat} (N:NmS P nm ([40,41]++X) v x w) (hs:startsF nm=true) (hv:isUrl v=false):Pc (nm++[40,41]) X (lit "function") (.tup [.str v,.int 0]):=by
 have hB:Mn ([40,41]++X)=40::41::Mn X:=rfl
 have hM:Mn (nm++[40,41])=x::(w++[40,41]):=by
  rw [NC.mend (B:=[40,41]) (.inr nofun),N.eq]; rfl
 refine ⟨fun e=>absurd (List.append_eq_nil_iff.mp e).2 nofun,.inl fun b=>?_,fun p k cur hk=>?_⟩
 ·rw [show nm++[40,41]=(nm++[40])++[41] by rw [List.append_assoc]; rfl]
  exact flg_last _ (by decide) b
 ·have st:=N.step hs (plP p) none
  have dr:=NmS.drop (x:=x) (w:=w) (B:=[40,41]++X)
  rw [hB] at st dr
  rw [hM] at hk ⊢
  have e1:(x::(w++[40,41]))++Mn X=x::(w++40::41::Mn X):=by rw [List.cons_append,List.append_assoc]; rfl
  rw [e1] at hk ⊢
  rw [List.length_cons,List.length_append,List.length_cons,List.length_cons] at hk
  obtain ⟨k',rfl⟩:∃ k',k=k'+1+1:=⟨k - 2,by exact ar 3 [_,_,_] (.im (.le (.a (.a .v1 (.a (.a .v2 .n1) .n1)) .n1) .v0) (.eq .v0 (.a (.a (.s .v0 (.n 2)) .n1) .n1))) rfl hk⟩
  have st2:Internal.step (plP p) none x (w++40::41::Mn X)=.opn (plP p) (.str (lit "function")) (.str v) 41 (w.length+1+1):=by
   rw [st]
   unfold stepI
   rw [dr,if_pos (show headP (·==40) (40::41::Mn X)=true from rfl),hv,Bool.false_and,if_neg bn]
  refine ⟨k',.tup [plP p,.str (lit "function"),.str v,.lst []],by exact ar 3 [_,_,_] (.im (.le (.a (.a .v2 (.a (.a .v0 .n1) .n1)) .n1) (.a (.a .v1 .n1) .n1)) (.le .v0 .v1)) rfl hk,?_,rfl,.func⟩
  rw [run_opn st2]
  have e2:(x::(w++40::41::Mn X)).drop (w.length+1+1)=41::Mn X:=by
   rw [← List.drop_drop,dr]; rfl
  have e3:(x::(w++40::41::Mn X)).take (w.length+1+1)=x::(w++[40]):=by
   rw [List.take_add,dr,List.take_succ_cons,List.take_left]; rfl
  rw [e2,e3,run_cls (by rw [step_z (zs_of (by decide))]; rfl)]
  refine congrArg (fun q=>run k' q (Mn X) (cur++[.tup [plP p,.str (lit "function"),.str v,.lst []]]) none []) ?_
  show mv (mv p (x::(w++[40]))) [41]=mv p (x::(w++[40,41]))
  rw [← mv_app]
  refine congrArg (mv p) ?_
  show x::((w++[40])++[41])=_
  rw [List.append_assoc]; rfl
theorem sp_more (c way:Nat) (pl:Bool) {b:List Nat} (h:b≠[]) (X:List Nat):spF c way pl b=spF c way pl (b++X):=by
 cases b with
 | nil=>exact absurd rfl h
 | cons d t=>rfl
theorem quT_end (q:Nat):∀ z:SW,∃ T,quT q z=T++[q]
 | []=>⟨[],rfl⟩
 | e::r=>by
  obtain ⟨T,h⟩:=quT_end q r
  show ∃ T',brkF e.2 (spF e.1 e.2 (plQ q e.1) (quT q r)++quT q r)=T'++[q]
  rw [h]
  unfold brkF
  split
  ·exact ⟨92::(ENDS.getD (e.2 / 5 % 4) []++(spF e.1 e.2 (plQ q e.1) (T++[q])++T)),by simp⟩
  ·exact ⟨spF e.1 e.2 (plQ q e.1) (T++[q])++T,by rw [List.append_assoc]⟩
theorem sp_head {c:Nat} {pl:Bool} {S B:List Nat} (h:Sp c pl S B) (hp:pl=true→c≠10) (T:List Nat):(S++T).head?≠some 10:=by
 rcases h.esc with ⟨a,rfl,_⟩ | ⟨e,t,rfl,_⟩
 ·exact fun q=>hp a (Option.some.inj q)
 ·exact nofun
theorem mod4 (k:Nat):k % 4=0∨k % 4=1∨k % 4=2∨k % 4=3:=(show ∀ m < 4,m=0∨m=1∨m=2∨m=3 by decide) _ (Nat.mod_lt _ (by decide))
theorem ends_mn (k:Nat) {T:List Nat} (h:T.head?≠some 10):Mn (92::(ENDS.getD (k % 4) []++T))=92::10::Mn T:=by
 have e:ENDS=[[10],[13],[12],[13,10]]:=by decide +kernel
 have hk:=mod4 k
 rw [e]
 show 92::Mn _=_
 rcases hk with q | q | q | q <;> rw [q]
 ·rfl
 ·show 92::10::mend true T=_
  rw [mend_true T h]
 ·rfl
 ·rfl
theorem plQ_iff {q c:Nat} (hq:isQt q=true) (hc:c∈sig5) (h:plQ q c=true):(c==q)=false∧(c==92)=false∧c≠10∧stays c=true:=by
 have:∀ q∈[34,39],∀ c∈sig5,plQ q c=true→(c==q)=false∧(c==92)=false∧c≠10∧stays c=true:=by decide +kernel
 refine this q ?_ c hc h
 rw [isQt,Bool.or_eq_true] at hq
 rcases hq with hq | hq <;> (rw [eq_of_beq hq]; decide)
theorem qu_read {q:Nat} (hq:isQt q=true) (X:List Nat) (z:SW) (h:∀ e∈z,e.1∈sig5):∃ W,Mn (quT q z++X)=W++Mn X∧qstr q (W++Mn X)=⟨valF z,W.length,0⟩:=by
 induction z with
 | nil =>
  have hst:stays q=true:=by
   unfold isQt at hq
   simp at hq
   rcases hq with rfl | rfl <;> rfl
  refine ⟨[q],mend_stay hst false X,?_⟩
  show qstr q (q::Mn X)=_
  rw [qstr_cons,if_pos (beq_self_eq_true q)]; rfl
 | cons e r ih =>
  obtain ⟨h1,h2⟩:=List.forall_mem_cons.mp h
  obtain ⟨W,w1,w2⟩:=ih h2
  have hne:quT q r≠[]:=by obtain ⟨T,e⟩:=quT_end q r; rw [e]; exact fun k=>absurd (List.append_eq_nil_iff.mp k).2 nofun
  have q92:(92==q)=false:=by
   unfold isQt at hq
   simp at hq
   rcases hq with rfl | rfl <;> rfl
  have hs:=sp_of (way:=e.2) (pl:=plQ q e.1) (quT q r++X) h1 (fun a=>(plQ_iff hq h1 a).2.2.2)
  have inner:∃ W1,Mn ((spF e.1 e.2 (plQ q e.1) (quT q r++X)++quT q r)++X)=W1++Mn X∧qstr q (W1++Mn X)=⟨e.1::valF r,W1.length,0⟩:=by
   rw [List.append_assoc]
   rcases hs.esc with ⟨a,_,hM⟩ | ⟨f,t,_,g1,g2,hM,g3⟩
   ·refine ⟨e.1::W,by rw [hM,w1]; rfl,?_⟩
    obtain ⟨p1,p2,p3,_⟩:=plQ_iff hq h1 a
    show qstr q (e.1::(W++Mn X))=_
    rw [qstr_cons,if_neg (nf p1),if_neg (nf p2),if_neg (by simpa using p3),w2]; rfl
   ·refine ⟨92::(f++W),by rw [hM,w1,List.cons_append,List.append_assoc],?_⟩
    rw [w1] at g3
    rw [List.cons_append,List.append_assoc,qstr_cons,if_neg (nf q92),if_pos (by decide),if_neg,if_neg,g3,List.drop_left,w2]
    ·show QR.mk _ _ _=_
     congr 1
     rw [List.length_cons,List.length_append]
     show W.length+f.length+1=_
     exact ar 2 [_,_] (.eq (.a (.a .v0 .v1) .n1) (.a (.a .v1 .v0) .n1)) rfl
    ·cases f with
     | nil=>exact absurd rfl g1
     | cons d f=>exact fun k=>g2 (eq_of_beq k)
    ·cases f with
     | nil=>exact absurd rfl g1
     | cons d f=>exact fun k=>by have:=eq_of_beq k; cases this
  obtain ⟨W1,i1,i2⟩:=inner
  have hh:=sp_head hs (fun a=>(plQ_iff hq h1 a).2.2.1) (quT q r++X)
  rw [← List.append_assoc] at hh
  show ∃ W,Mn (brkF e.2 (spF e.1 e.2 (plQ q e.1) (quT q r)++quT q r)++X)=_∧_
  rw [sp_more _ _ _ hne X]
  unfold brkF
  split
  ·refine ⟨92::10::W1,?_,?_⟩
   ·rw [List.cons_append,List.append_assoc,ends_mn _ hh,i1]; rfl
   ·show qstr q (92::10::(W1++Mn X))=_
    rw [qstr_cons,if_neg (nf q92),if_pos (by decide),if_neg (by nofun),if_pos (by rfl)]
    show QR.mk (qstr q (W1++Mn X)).val ((qstr q (W1++Mn X)).n+2) (qstr q (W1++Mn X)).st=_
    rw [i2]; rfl
  ·exact ⟨W1,i1,i2⟩
theorem pc_str {q:Nat} (hq:isQt q=true) {z:SW} (h:∀ e∈z,e.1∈sig5) (X:List Nat):Pc (q::quT q z) X (lit "string") (.str (valF z))∧headP isWs (Mn (q::quT q z))=false:=by
 obtain ⟨W,w1,w2⟩:=qu_read hq X z h
 have hq':q=34∨q=39:=by
  unfold isQt at hq
  simpa using hq
 obtain ⟨T,hT⟩:=quT_end q z
 have hnc:NC (quT q z) X:=.inl (by rw [hT]; exact flg_last _ (by exact ar 1 [_] (.im (.or (.eq .v0 (.n 34)) (.eq .v0 (.n 39))) (.nt (.eq .v0 (.n 13)))) rfl hq'))
 have hM:Mn (quT q z)=W:=by
  rw [hnc.mend] at w1
  exact List.append_cancel_right w1
 have hst:stays q=true:=by rcases hq' with rfl | rfl <;> rfl
 have hM2:Mn (q::quT q z)=q::W:=by
  show mend false (q::quT q z)=_
  rw [mend_stay hst]; exact congrArg _ hM
 refine ⟨Pc.leaf (hnc.app (P:=[q]) (by rw [hT]; exact fun k=>absurd (List.append_eq_nil_iff.mp k).2 nofun)) hM2 (fun pl=>leafT pl "string" (valF z)) (fun pl=>?_) (fun pl=>rfl) (fun pl=>.leaf (by decide +kernel)),?_⟩
 ·rw [step_z (by rcases hq' with rfl | rfl <;> exact zs_of (by decide))]
  have e:stepZ pl none q (W++Mn X)=.leaf (strTs pl (qstr q (W++Mn X))) (1+(qstr q (W++Mn X)).n):=by
   rcases hq' with rfl | rfl <;> rfl
  rw [e,w2,Nat.add_comm]; rfl
 ·rw [hM2]
  rcases hq' with rfl | rfl <;> rfl
theorem pad_w (k:Nat):∃ pw:List Nat,(∀ d∈pw,isWs d=true)∧∀ T,Mn (padF k++T)=pw++Mn T:=by
 have e:PADS=[[],[32],[10,9],[13,10]]:=by decide +kernel
 have hk:=mod4 k
 unfold padF
 rw [e]
 rcases hk with q | q | q | q <;> rw [q]
 ·exact ⟨[],nofun,fun T=>rfl⟩
 ·exact ⟨[32],by decide,fun T=>rfl⟩
 ·exact ⟨[10,9],by decide,fun T=>rfl⟩
 ·exact ⟨[10],by decide,fun T=>rfl⟩
theorem wsN_app {pw R:List Nat} (h:∀ d∈pw,isWs d=true) (hR:headP isWs R=false):wsN (pw++R)=pw.length:=by
 unfold wsN
 rw [take_while_app _ _ h,tw_none hR,List.append_nil]
theorem plU_iff:∀ c∈sig5,plU c=true→isWs c=false∧(c==41)=false∧c≠92∧isBadU c=false∧isQt c=false∧stays c=true:=by decide +kernel
inductive UB (v:List Nat) (R Y:List Nat):Prop
 | fin (h:urlB R=⟨v,R.length - Y.length,0⟩) (hl:Y.length≤R.length)
 | ws (n:Nat) (u:List Nat) (h:urlB R=⟨v,n,1⟩) (hu:∀ d∈u,isWs d=true) (hd:R.drop n=u++41::Y) (hl:n+u.length+1+Y.length=R.length)
theorem UB.cons {v R Y:List Nat} {c n:Nat} {d:List Nat} (h:UB v R Y) (hd:d.length=n) (e:urlB (d++R)=⟨c::(urlB R).val,(urlB R).n+n,(urlB R).st⟩):UB (c::v) (d++R) Y:=by
 induction h with
 | fin h hl=>exact .fin (by rw [e,h,List.length_append,hd]; show QR.mk _ _ _=_; congr 1; show R.length - Y.length+n=_; exact ar 3 [_,_,_] (.im (.le .v1 .v0) (.eq (.a (.s .v0 .v1) .v2) (.s (.a .v2 .v0) .v1))) rfl hl) (by rw [List.length_append]; exact ar 3 [_,_,_] (.im (.le .v0 .v2) (.le .v0 (.a .v1 .v2))) rfl hl)
 | ws m u h hu hd2 hl =>
  refine .ws (m+n) u (by rw [e,h]) hu ?_ (by rw [List.length_append]; exact ar 6 [_,_,_,_,_,_] (.im (.eq (.a (.a (.a .v0 .v2) .n1) .v3) .v5) (.im (.eq .v4 .v1) (.eq (.a (.a (.a (.a .v0 .v1) .v2) .n1) .v3) (.a .v4 .v5)))) rfl hl hd)
  rw [Nat.add_comm,← List.drop_drop,← hd,List.drop_left,hd2]
theorem ad_read (n:Nat) (X:List Nat) (z:SW) (h:∀ e∈z,e.1∈sig5):∃ W,Mn (adT n z++X)=W++Mn X∧UB (valF z) (W++Mn X) (Mn X)∧(z=[]→∃ pw,(∀ d∈pw,isWs d=true)∧W=pw++[41])∧(z≠[]→∃ c t,W=c::t∧isWs c=false∧isQt c=false∧(c==41)=false):=by
 induction z with
 | nil =>
  obtain ⟨pw,h1,h2⟩:=pad_w (n / 4)
  refine ⟨pw++[41],?_,?_,fun _=>⟨pw,h1,rfl⟩,fun h=>absurd rfl h⟩
  ·show Mn ((padF (n / 4)++[41])++X)=_
   rw [List.append_assoc,h2,List.append_assoc]; rfl
  ·rw [List.append_assoc]
   show UB [] (pw++41::Mn X) (Mn X)
   cases pw with
   | nil =>
    refine .fin ?_ (by rw [List.nil_append,List.length_cons]; exact ar 1 [_] (.le .v0 (.a .v0 .n1)) rfl)
    show urlB (41::Mn X)=_
    rw [urlB_cons,if_pos (by decide)]
    show QR.mk _ _ _=QR.mk _ _ _
    congr 1
    rw [List.nil_append,List.length_cons]; exact ar 1 [_] (.eq .n1 (.s (.a .v0 .n1) .v0)) rfl
   | cons d u =>
    obtain ⟨k1,k2⟩:=List.forall_mem_cons.mp h1
    refine .ws 1 u ?_ k2 rfl ?_
    ·show urlB (d::(u++41::Mn X))=_
     have:(d==41)=false:=by cases q:(d==41) with
      | false=>rfl
      | true=>rw [eq_of_beq q] at k1; cases k1
     rw [urlB_cons,if_neg (nf this),if_pos k1]
    ·rw [List.cons_append,List.length_cons,List.length_append,List.length_cons]; exact ar 2 [_,_] (.eq (.a (.a (.a .n1 .v0) .n1) .v1) (.a (.a .v0 (.a .v1 .n1)) .n1)) rfl
 | cons e r ih =>
  obtain ⟨h1,h2⟩:=List.forall_mem_cons.mp h
  obtain ⟨W,w1,w2,_⟩:=ih h2
  have hne:adT n r≠[]:=by
   cases r with
   | nil=>exact fun k=>absurd (List.append_eq_nil_iff.mp k).2 nofun
   | cons a r=>exact fun k=>spF_ne _ _ _ _ (List.append_eq_nil_iff.mp k).1
  have hs:=sp_of (way:=e.2) (pl:=plU e.1) (adT n r++X) h1 (fun a=>(plU_iff _ h1 a).2.2.2.2.2)
  show ∃ W,Mn ((spF e.1 e.2 (plU e.1) (adT n r)++adT n r)++X)=_∧UB (e.1::valF r) _ _∧_
  rw [sp_more _ _ _ hne X,List.append_assoc]
  rcases hs.esc with ⟨a,_,hM⟩ | ⟨f,t,_,g1,g2,hM,g3⟩
  ·obtain ⟨p1,p2,p3,p4,p5,_⟩:=plU_iff _ h1 a
   refine ⟨e.1::W,by rw [hM,w1]; rfl,?_,nofun,fun _=>⟨e.1,W,rfl,p1,p5,p2⟩⟩
   refine w2.cons (d:=[e.1]) (n:=1) rfl ?_
   show urlB (e.1::(W++Mn X))=_
   rw [urlB_cons,if_neg (nf p2),if_neg (nf p1),if_neg (nf (escOk_no p3)),if_neg (nf p4)]
  ·refine ⟨92::(f++W),by rw [hM,w1,List.cons_append,List.append_assoc],?_,nofun,fun _=>⟨92,f++W,rfl,rfl,rfl,rfl⟩⟩
   rw [w1] at g3
   have e1:(92::(f++W))++Mn X=(92::f)++(W++Mn X):=by rw [List.cons_append,List.append_assoc]; rfl
   rw [e1]
   refine w2.cons (d:=92::f) (n:=f.length+1) rfl ?_
   have he:escOk (92::(f++(W++Mn X)))=true:=by
    cases f with
    | nil=>exact absurd rfl g1
    | cons d f=>exact escOk_yes nofun g2
   show urlB (92::(f++(W++Mn X)))=_
   rw [urlB_cons,if_neg (by decide),if_neg (by decide),if_pos he,g3,List.drop_left]; rfl
theorem url_read {pw W Y:List Nat} {v:List Nat} (h:∀ d∈pw,isWs d=true) (hU:UB v (W++Y) Y) (h0:v=[]→∃ pw,(∀ d∈pw,isWs d=true)∧W=pw++[41]) (h1:v≠[]→∃ c t,W=c::t∧isWs c=false∧isQt c=false∧(c==41)=false) :
  urlR (pw++(W++Y))=⟨some v,pw.length+W.length,0⟩∧headP isQt ((pw++(W++Y)).drop (wsN (pw++(W++Y))))=false:=by
 by_cases hv:v=[]
 ·subst hv
  obtain ⟨p2,k1,rfl⟩:=h0 rfl
  have e:pw++((p2++[41])++Y)=(pw++p2)++41::Y:=by simp
  have hw:wsN ((pw++p2)++41::Y)=(pw++p2).length:=wsN_app (fun d hd=>(List.mem_append.mp hd).elim (h d) (k1 d)) rfl
  rw [e]
  refine ⟨?_,by rw [hw,List.drop_left]; rfl⟩
  unfold urlR
  rw [hw,List.drop_left]
  show (if (41==41)=true then UR.mk (some []) ((pw++p2).length+1) 0 else _)=_
  rw [if_pos (by decide),List.length_append,List.length_append]; rfl
 ·obtain ⟨c,t,rfl,k1,k2,k3⟩:=h1 hv
  have hw:wsN (pw++((c::t)++Y))=pw.length:=wsN_app h k1
  refine ⟨?_,by rw [hw,List.drop_left]; exact k2⟩
  unfold urlR
  rw [hw,List.drop_left]
  show (if (c==41)=true then _ else urlT ((c::t)++Y) pw.length (urlB ((c::t)++Y)))=_
  rw [if_neg (nf k3)]
  induction hU with
  | fin q hl =>
   rw [urlT0 (by rw [q]),q]
   show UR.mk (some v) (pw.length+(((c::t)++Y).length - Y.length)) 0=_
   rw [List.length_append,Nat.add_sub_cancel]
  | ws n u q hu hd hl =>
   rw [urlT1 (by rw [q]),q]
   show (match ((c::t)++Y).drop (n+wsN (((c::t)++Y).drop n)) with
    | []=>_
    | e::t'=>if e==41 then (⟨some v,pw.length+n+wsN (((c::t)++Y).drop n)+1,0⟩:UR) else _)=_
   rw [← List.drop_drop,hd,wsN_app hu rfl,List.drop_left]
   show (if (41==41)=true then (⟨some v,pw.length+n+u.length+1,0⟩:UR) else _)=_
   rw [if_pos (by decide)]
   rw [List.length_append] at hl
   congr 1
   exact ar 5 [_,_,_,_,_] (.im (.eq (.a (.a (.a .v1 .v2) .n1) .v4) (.a .v3 .v4)) (.eq (.a (.a (.a .v0 .v1) .v2) .n1) (.a .v0 .v3))) rfl hl
theorem ident_40 (R:List Nat):ident (40::R)=([],0):=by
 rw [ident_cons,if_neg (by decide),if_neg (by rw [escOk_no (by decide)]; exact bn)]
structure HdU (d:List Nat):Prop where
 st:∀ c∈d,stays c=true
 rd:∃ c w v,d=c::(w++[40])∧isWs c=false∧isUrl v=true∧∀ R,headP (·==43) (w++40::R)=false∧((c::(w++40::R)).take 3==[45,45,62])=false∧identStart (c::(w++40::R))=true∧ident (c::(w++40::R))=(v,w.length+1)
theorem head_all:∀ d∈HEADS,HdU d:=by
 have e:HEADS=[[117,114,108,40],[85,82,76,40],[92,55,53,32,114,108,40],[117,92,82,92,48,48,48,48,54,99,40]]:=by decide +kernel
 rw [e]
 intro d hd
 simp only [List.mem_cons,List.not_mem_nil,or_false] at hd
 rcases hd with rfl | rfl | rfl | rfl
 ·refine ⟨by decide,117,[114,108],[117,114,108],rfl,rfl,by decide,fun R=>⟨rfl,rfl,rfl,?_⟩⟩
  show ident (117::114::108::40::R)=_
  rw [ident_nm (by decide),ident_nm (by decide),ident_nm (by decide),ident_40]; rfl
 ·refine ⟨by decide,85,[82,76],[85,82,76],rfl,rfl,by decide,fun R=>⟨rfl,rfl,rfl,?_⟩⟩
  show ident (85::82::76::40::R)=_
  rw [ident_nm (by decide),ident_nm (by decide),ident_nm (by decide),ident_40]; rfl
 ·refine ⟨by decide,92,[55,53,32,114,108],[117,114,108],rfl,rfl,by decide,fun R=>⟨rfl,rfl,rfl,?_⟩⟩
  show ident (92::55::53::32::114::108::40::R)=_
  rw [ident_esc (by nofun),esc_two (n:=117) (by decide) (by decide) (by decide) (by decide) (by decide)]
  show (117::(ident (114::108::40::R)).1,(ident (114::108::40::R)).2+3+1)=_
  rw [ident_nm (by decide),ident_nm (by decide),ident_40]; rfl
 ·refine ⟨by decide,117,[92,82,92,48,48,48,48,54,99],[117,82,108],rfl,rfl,by decide,fun R=>⟨rfl,rfl,rfl,?_⟩⟩
  show ident (117::92::82::92::48::48::48::48::54::99::40::R)=_
  rw [ident_nm (by decide),ident_esc (by nofun),esc_plain (by decide)]
  show (117::82::(ident (92::48::48::48::48::54::99::40::R)).1,(ident (92::48::48::48::48::54::99::40::R)).2+1+1+1)=_
  have he:esc (48::48::48::48::54::99::40::R)=(108,6):=esc_hex (F:=[48,48,48,48,54,99]) (w:=[]) (R:=40::R) (by decide) (by decide) nofun (by decide) (by decide) (by decide) (.inr ⟨rfl,.inl rfl,rfl⟩)
  rw [ident_esc (by nofun),he]
  show (117::82::108::(ident (40::R)).1,(ident (40::R)).2+6+1+1+1+1)=_
  rw [ident_40]; rfl
theorem pc_url (n:Nat) {z:SW} (h:∀ e∈z,e.1∈sig5) (X:List Nat):Pc (adF n z) X (lit "url") (.str (valF z))∧headP isWs (Mn (adF n z))=false:=by
 obtain ⟨W,w1,w2,w3,w4⟩:=ad_read n X z h
 obtain ⟨pw,p1,p2⟩:=pad_w n
 have hv:∀ {p:Prop},(valF z=[]→p) ↔ (z=[]→p):=fun {p}=>by
  unfold valF
  rw [List.map_eq_nil_iff]
 have hv2:valF z≠[]→z≠[]:=fun k e=>k (by rw [e]; rfl)
 obtain ⟨u1,u2⟩:=url_read p1 w2 (hv.mpr w3) (fun k=>w4 (hv2 k))
 have hlast:∃ T,adT n z=T++[41]:=by
  clear w1 w2 w3 w4 u1 u2 hv hv2 h
  induction z with
  | nil=>exact ⟨_,rfl⟩
  | cons e r ih =>
   obtain ⟨T,hT⟩:=ih
   exact ⟨spF e.1 e.2 (plU e.1) (adT n r)++T,by show _++adT n r=_; rw [List.append_assoc,hT]⟩
 obtain ⟨T,hT⟩:=hlast
 have hnc:NC (adT n z) X:=.inl (by rw [hT]; exact flg_last _ (by decide))
 have hM:Mn (adT n z)=W:=by
  rw [hnc.mend] at w1
  exact List.append_cancel_right w1
 have h4:n / 16 % 4 < HEADS.length:=Nat.mod_lt _ (by decide)
 have hH:=head_all (HEADS.getD (n / 16 % 4) []) (by rw [List.getD_eq_getElem?_getD,List.getElem?_eq_getElem h4]; exact List.getElem_mem h4)
 have hA:adF n z=HEADS.getD (n / 16 % 4) []++(padF n++adT n z):=rfl
 generalize HEADS.getD (n / 16 % 4) []=d at hH hA
 obtain ⟨g1,c,w,v,rfl,g2,g3,g4⟩:=hH
 have hM2:Mn (adF n z)=c::(w++40::(pw++W)):=by
  rw [hA,Mn_stays g1,p2,hM,List.cons_append,List.append_assoc]; rfl
 obtain ⟨k1,k2,k3,k4⟩:=g4 (pw++(W++Mn X))
 refine ⟨Pc.leaf (by rw [hA,hT,← List.append_assoc,← List.append_assoc]; exact .inl (flg_last _ (by decide))) hM2 (fun pl=>leafT pl "url" (valF z)) (fun pl=>?_) (fun pl=>rfl) (fun pl=>.leaf (by decide +kernel)),by rw [hM2]; exact g2⟩
 have e0:(w++40::(pw++W))++Mn X=w++40::(pw++(W++Mn X)):=by simp
 rw [e0]
 unfold step
 rw [if_neg (nf g2),if_neg (by rw [k1,Bool.false_and,Bool.and_false]; exact bn),if_neg (nf k2),if_pos k3,k4]
 unfold stepI
 have d1:(c::(w++40::(pw++(W++Mn X)))).drop (w.length+1)=40::(pw++(W++Mn X)):=by rw [List.drop_succ_cons,List.drop_left]
 have d2:(c::(w++40::(pw++(W++Mn X)))).drop (w.length+1+1)=pw++(W++Mn X):=by rw [← List.drop_drop,d1]; rfl
 show (if headP (·==40) (List.drop (w.length+1) (c::(w++40::(pw++(W++Mn X)))))=true then (if (isUrl v&&!headP isQt ((List.drop (w.length+1+1) (c::(w++40::(pw++(W++Mn X))))).drop (wsN (List.drop (w.length+1+1) (c::(w++40::(pw++(W++Mn X))))))))=true then Step.leaf (urlTs pl (urlR (List.drop (w.length+1+1) (c::(w++40::(pw++(W++Mn X))))))) (w.length+1+1+(urlR (List.drop (w.length+1+1) (c::(w++40::(pw++(W++Mn X)))))).n) else _) else _)=_
 rw [d1,d2,if_pos (by rfl),u2,g3,if_pos (by rfl),u1]
 show Step.leaf [leafT pl "url" (valF z)] (w.length+1+1+(pw.length+W.length))=_
 congr 1
 rw [List.length_append,List.length_cons,List.length_append]; exact ar 3 [_,_,_] (.eq (.a (.a (.a .v0 .n1) .n1) (.a .v1 .v2)) (.a (.a .v0 (.a (.a .v1 .v2) .n1)) .n1)) rfl
theorem rd_ws {c:Nat} {w R:List Nat} (hw:∀ d∈c::w,isWs d=true) (hR:headP isWs R=false) (pl:V) (ec:Option Nat):step pl ec c (w++R)=.leaf [leafT pl "whitespace" (c::w)] (w.length+1):=by
 have hn:wsN (c::(w++R))=w.length+1:=wsN_app (pw:=c::w) hw hR
 unfold step
 rw [if_pos (hw c (.head _)),hn,List.take_succ_cons,List.take_left]
theorem pc_ws {P:List Nat} {c:Nat} {w X:List Nat} (hw:∀ d∈c::w,isWs d=true) (hM:Mn P=c::w) (hnc:∀ b,flg b P=false) (hX:headP isWs (Mn X)=false):Pc P X (lit "whitespace") (.str (c::w)) :=
 Pc.leaf (.inl hnc) hM (fun pl=>leafT pl "whitespace" (c::w)) (fun pl=>rd_ws hw hX pl none) (fun pl=>rfl) (fun pl=>.leaf (by decide +kernel))
theorem pc_lit {c:Nat} {X:List Nat} (hc:Zs c) (h13:stays c=true) (hs:∀ pl t,stepZ pl none c t=.leaf [leafT pl "literal" [c]] 1):Pc [c] X (lit "literal") (.str [c]) :=
 Pc.leaf (.inl fun b=>beq_eq_false_iff_ne.mpr fun e=>by rw [e] at h13; cases h13) (mend_stay h13 false []) (fun pl=>leafT pl "literal" [c]) (fun pl=>by rw [step_z hc]; exact hs pl _) (fun pl=>rfl) (fun pl=>.leaf (by decide +kernel))
structure BtOk (q:List Nat × List Nat × List Nat) (X:List Nat):Prop where
 pc:Pc q.1 X q.2.1 (.str q.2.2)
 hd:∃ b t,Mn (q.1++X)=b::t∧isStop b=true∧b≠40
 d1:isD 62 (.str q.2.1)=true
 d2:isD 62 (.str q.2.2)=true
theorem BETW_eq:BETW=[([32],lit "whitespace",[32]),([44],lit "literal",[44]),([13,10],lit "whitespace",[10]),([47,42,42,47],lit "comment",[]),([59],lit "literal",[59]),([12,9],lit "whitespace",[10,9])]:=by decide +kernel
theorem bt_all {X:List Nat} (hX:headP isWs (Mn X)=false):∀ q∈BETW,BtOk q X:=by
 rw [BETW_eq]
 intro q hq
 simp only [List.mem_cons,List.not_mem_nil,or_false] at hq
 rcases hq with rfl | rfl | rfl | rfl | rfl | rfl
 ·exact ⟨pc_ws (by decide) rfl (fun b=>rfl) hX,⟨32,_,rfl,rfl,by decide⟩,by decide +kernel,by decide +kernel⟩
 ·exact ⟨pc_lit (zs_of (by decide)) rfl fun pl t=>rfl,⟨44,_,rfl,rfl,by decide⟩,by decide +kernel,by decide +kernel⟩
 ·exact ⟨pc_ws (by decide) rfl (fun b=>rfl) hX,⟨10,_,rfl,rfl,by decide⟩,by decide +kernel,by decide +kernel⟩
 ·refine ⟨Pc.leaf (.inl fun b=>rfl) (c:=47) (w:=[42,42,47]) rfl (fun pl=>leafT pl "comment" []) (fun pl=>?_) (fun pl=>rfl) (fun pl=>.leaf (by decide +kernel)),⟨47,_,rfl,rfl,by decide⟩,by decide +kernel,by decide +kernel⟩
  rw [step_z (zs_of (by decide))]; rfl
 ·exact ⟨pc_lit (zs_of (by decide)) rfl fun pl t=>rfl,⟨59,_,rfl,rfl,by decide⟩,by decide +kernel,by decide +kernel⟩
 ·exact ⟨pc_ws (by decide) rfl (fun b=>rfl) hX,⟨10,_,rfl,rfl,by decide⟩,by decide +kernel,by decide +kernel⟩
structure Sim (s:List Nat × List Row):Prop where
 rd:Rd s.1 s.2
 d:∀ r∈s.2,isD 62 (.str r.1)=true∧isD 62 r.2.2=true
theorem btw_sim {n:Nat} {s:List Nat × List Row} (h:Sim s) (hw:headP isWs (Mn s.1)=false):Sim (btwF n s)∧(Mn (btwF n s).1=[]∨∃ b t,Mn (btwF n s).1=b::t∧isStop b=true∧b≠40):=by
 unfold btwF
 cases hb:btwB n s.1 with
 | true =>
  rw [if_pos rfl]
  have B:=bt_all hw (betF n) (bet_at n).2.2
  exact ⟨⟨h.rd.cons B.pc,fm ⟨⟨B.d1,B.d2⟩,h.d⟩⟩,.inr B.hd⟩
 | false =>
  rw [if_neg bn]
  refine ⟨h,.inl ?_⟩
  unfold btwB at hb
  rw [Bool.or_eq_false_iff] at hb
  have:s.1=[]:=by
   cases hs:s.1 with
   | nil=>rfl
   | cons c t=>rw [hs] at hb; cases hb.1
  rw [this]; rfl
theorem isD_strN (n:Nat) (v:List Nat):isD (n+1) (.str v)=v.all (· < 0x110000):=rfl
theorem isD_tupN (n:Nat) (vs:List V):isD (n+1) (.tup vs)=vs.all (isD n):=rfl
theorem isD_litN (n:Nat):(∀ z,isD (n+1) (.int z)=true)∧(∀ b,isD (n+1) (.bool b)=true)∧isD (n+1) .none=true:=⟨fun _=>rfl,fun _=>rfl,rfl⟩
theorem isD_str {v:List Nat} (h:∀ c∈v,c∈sig5) (n:Nat):isD (n+1) (.str v)=true:=by
 rw [isD_strN]
 exact List.all_eq_true.mpr fun c hc=>decide_eq_true (sig5_lt c (h c hc)).1
theorem isD_tup2 {n:Nat} {a b:V} (h:isD n a=true) (h':isD n b=true):isD (n+1) (.tup [a,b])=true:=by
 rw [isD_tupN,List.all_cons,List.all_cons,h,h']; rfl
theorem isD_tup3 {n:Nat} {a b c:V} (h:isD n a=true) (h':isD n b=true) (h2:isD n c=true):isD (n+1) (.tup [a,b,c])=true:=by
 rw [isD_tupN,List.all_cons,List.all_cons,List.all_cons,h,h',h2]; rfl
theorem knd_D (n k:Nat):isD (n+1) (.str (kndF k))=true:=by
 rw [isD_strN]
 unfold kndF
 repeat' split
 all_goals decide +kernel
theorem su_D (n:Nat):isD (n+1) (.str (lit "string"))=true∧isD (n+1) (.str (lit "url"))=true:=by
 rw [isD_strN,isD_strN]
 decide +kernel
structure PcOk (p:List Nat × List Nat × V) (X:List Nat):Prop where
 pc:Pc p.1 X p.2.1 p.2.2
 ws:headP isWs (Mn p.1)=false
 d1:isD 62 (.str p.2.1)=true
 d2:isD 62 p.2.2=true
theorem bok_of {X:List Nat} (h:Mn X=[]∨∃ b t,Mn X=b::t∧isStop b=true∧b≠40):BOk X∧headP (·==40) (Mn X)=false:=by
 rcases h with e | ⟨b,t,e,h1,h2⟩
 ·exact ⟨.inl e,by rw [e]; rfl⟩
 ·exact ⟨.inr ⟨b,t,e,h1⟩,by rw [e]; exact beq_eq_false_iff_ne.mpr h2⟩
theorem lits:lit ""=[]∧lit "()"=[40,41]∧lit "@"=[64]∧lit "#"=[35]:=by decide +kernel
theorem pls:lit "name"≠lit "hash"∧lit "size"≠lit "hash":=by decide +kernel
theorem wsP {P:List Nat} {x:Nat} {w:List Nat} (h:Mn P=x::w) (hw:isWs x=false):headP isWs (Mn P)=false:=by rw [h]; exact hw
theorem piece_ok {n:Nat} {z:SW} {X:List Nat} (hz:entOk (n,z)) (hX:Mn X=[]∨∃ b t,Mn X=b::t∧isStop b=true∧b≠40):PcOk (pcF n z X) X:=by
 obtain ⟨B0,B40⟩:=bok_of hX
 obtain ⟨h1,h4,h5⟩:=hz
 have hv:∀ c∈valF z,c∈sig5:=fun c hc=>by
  obtain ⟨q,hq,rfl⟩:=List.mem_map.mp hc
  exact h1 q hq
 have dv:=isD_str hv 61
 have dv':=isD_str hv 60
 unfold pcF
 by_cases hk:n % 8 < 5
 ·rw [if_pos hk]
  have hne:z≠[]:=h5 hk
  have mk:∀ (P B:List Nat),BOk B→∃ x w,NmS P (namF P B z) B (valF z) x w∧(P≠lit "hash"→startsF (namF P B z)=true)∧NC (namF P B z) B:=fun P B hB=>by
   have N:NmR P (namF P B z) B (valF z):=by
    cases z with
    | nil=>exact absurd rfl hne
    | cons q r=>exact nm_ok hB h1
   obtain ⟨x,w,S⟩:=nm_mk N (nam_nc hne h1)
   exact ⟨x,w,S,N.go,nam_nc hne h1⟩
  unfold namK
  have h05:=(show ∀ m < 5,m=0∨m=1∨m=2∨m=3∨m=4 by decide) _ hk
  rcases h05 with e | e | e | e | e <;> rw [e]
  ·obtain ⟨x,w,S,go,nc⟩:=mk (lit "name") X B0
   have e2:preF 0 (sizF n).1++(namF (plcN 0) (sufF 0++X) z++sufF 0)=namF (lit "name") X z:=by
    show lit ""++(namF (lit "name") X z++[])=_
    rw [lits.1,List.append_nil]; rfl
   rw [e2]
   exact ⟨pc_ident S B40 nc (go pls.1),wsP S.eq S.ws,knd_D 61 0,dv⟩
  ·obtain ⟨x,w,S,go,nc⟩:=mk (lit "name") ([40,41]++X) (.inr ⟨40,_,rfl,rfl⟩)
   have e2:preF 1 (sizF n).1++(namF (plcN 1) (sufF 1++X) z++sufF 1)=namF (lit "name") ([40,41]++X) z++[40,41]:=by
    show lit ""++(namF (lit "name") (lit "()"++X) z++lit "()")=_
    rw [lits.1,lits.2.1]; rfl
   rw [e2]
   refine ⟨pc_func S (go pls.1) (not_url hv),?_,knd_D 61 1,isD_tup2 dv' ((isD_litN 60).1 _)⟩
   show headP isWs (Mn (_++[40,41]))=false
   rw [NC.mend (B:=[40,41]) (.inr nofun),S.eq]
   exact S.ws
  ·obtain ⟨x,w,S,go,nc⟩:=mk (lit "name") X B0
   have e2:preF 2 (sizF n).1++(namF (plcN 2) (sufF 2++X) z++sufF 2)=64::namF (lit "name") X z:=by
    show lit "@"++(namF (lit "name") X z++[])=_
    rw [lits.2.2.1,List.append_nil]; rfl
   rw [e2]
   exact ⟨pc_at S nc (go pls.1),rfl,knd_D 61 2,dv⟩
  ·obtain ⟨x,w,S,go,nc⟩:=mk (lit "hash") X B0
   have e2:preF 3 (sizF n).1++(namF (plcN 3) (sufF 3++X) z++sufF 3)=35::namF (lit "hash") X z:=by
    show lit "#"++(namF (lit "hash") X z++[])=_
    rw [lits.2.2.2,List.append_nil]; rfl
   rw [e2]
   exact ⟨pc_hash S nc,rfl,knd_D 61 3,isD_tup2 dv' ((isD_litN 60).2.1 _)⟩
  ·obtain ⟨x,w,S,go,nc⟩:=mk (lit "size") X B0
   have e2:preF 4 (sizF n).1++(namF (plcN 4) (sufF 4++X) z++sufF 4)=(sizF n).1++namF (lit "size") X z:=by
    show (sizF n).1++(namF (lit "size") X z++[])=_
    rw [List.append_nil]
   rw [e2]
   have hs:sizF n∈SIZES:=by
    have h6:n / 512 % 6 < SIZES.length:=Nat.mod_lt _ (by decide)
    unfold sizF
    rw [List.getD_eq_getElem?_getD,List.getElem?_eq_getElem h6]; exact List.getElem_mem h6
   have Z:=sz_all _ hs
   have hd:∀ s∈SIZES,isD 61 (.str s.1)=true∧isD 61 s.2=true:=by decide +kernel
   refine ⟨pc_dim S rfl nc (go pls.2) Z,?_,knd_D 61 4,isD_tup3 (hd _ hs).1 (hd _ hs).2 dv'⟩
   obtain ⟨d,t,g1,g2,_⟩:=Z.hd
   show headP isWs (Mn ((sizF n).1++_))=false
   rw [Mn_stays Z.st,g1]; exact g2
 ·rw [if_neg hk]
  by_cases h7:n % 8 < 7
  ·rw [if_pos h7]
   have hq:isQt (quoF (n % 8))=true:=by unfold quoF; split <;> rfl
   obtain ⟨a,b⟩:=pc_str hq h1 X
   exact ⟨a,b,(su_D 61).1,dv⟩
  ·rw [if_neg h7]
   obtain ⟨a,b⟩:=pc_url (n / 512) h1 X
   exact ⟨a,b,(su_D 61).2,dv⟩
theorem step_sim {e:Nat × SW} {s:List Nat × List Row} (he:entOk e) (h:Sim s∧headP isWs (Mn s.1)=false):Sim (stepF s e)∧headP isWs (Mn (stepF s e).1)=false:=by
 obtain ⟨h1,h2⟩:=btw_sim (n:=e.1) h.1 h.2
 have P:=piece_ok he h2
 refine ⟨⟨h1.rd.cons P.pc,fm ⟨⟨P.d1,P.d2⟩,h1.d⟩⟩,?_⟩
 show headP isWs (Mn ((pcF e.1 e.2 (btwF e.1 s).1).1++(btwF e.1 s).1))=false
 rw [P.pc.nc.mend]
 have:=P.ws
 have hn:=mn_ne P.pc.ne
 generalize Mn (pcF e.1 e.2 (btwF e.1 s).1).1=W at this hn
 cases W with
 | nil=>exact absurd rfl hn
 | cons c t=>exact this
theorem fold_sim:∀ (es:List (Nat × SW)) {s:List Nat × List Row},(∀ e∈es,entOk e)→(Sim s∧headP isWs (Mn s.1)=false)→Sim (es.foldl stepF s)
 | [],_,_,h=>h.1
 | e::es,s,he,h=>by
  obtain ⟨h1,h2⟩:=List.forall_mem_cons.mp he
  exact fold_sim es h2 (step_sim h1 h)
theorem plc_D:∀ (s:List Nat) (p:Nat × Nat) (b:Bool) (i:Nat),isD 62 ((plcF p b s).getD i .none)=true
 | [],_,_,_=>(isD_litN 61).2.2
 | c::s,p,b,0=>isD_tup2 ((isD_litN 60).1 _) ((isD_litN 60).1 _)
 | c::s,p,b,i+1=>plc_D s (stP p b c) (c==13) i
theorem plainAll:PlainAll:=by
 intro t ht
 have S:Sim (lastS t):=fold_sim _ (fun e he=>(planA_ok ht).1 e (List.mem_reverse.mp he)) ⟨⟨Rd.nil,nofun⟩,rfl⟩
 generalize lastS t=s at S
 obtain ⟨us,e1,e2,e3⟩:=S.rd.rd (1,1) (norm s.1).length [] (by rw [norm_eq]; exact Nat.le_refl _)
 have e1:told s.1=us:=by
  unfold told
  rw [norm_eq] at e1 ⊢
  exact e1
 rw [e1]
 refine ⟨e2,e3,?_⟩
 refine (show isD 64 (.lst (s.2.map (wF s.1)))=(s.2.map (wF s.1)).all (isD 63) from rfl).trans ?_
 refine List.all_eq_true.mpr fun v hv=>?_
 obtain ⟨r,hr,rfl⟩:=List.mem_map.mp hv
 obtain ⟨d1,d2⟩:=S.d r hr
 exact isD_tup3 d1 (plc_D _ _ _ _) d2
end Internal
open Mine.Internal
theorem t0:True:=⟨⟩
abbrev Tr:=True
namespace main
theorem tw5396361742852586263:Tr:=t0
theorem tw5831584030425509755:Tr:=t0
theorem tw7108953243070827183:Tr:=t0
theorem tw17767330081159143506:Tr:=t0
theorem tw4126091431370883743:Tr:=t0
theorem tw5203219222101121401:Tr:=t0
theorem tw13797323745857372409:Tr:=t0
theorem tw15554039934745177238:Tr:=t0
theorem tw2238316416991798583:Tr:=t0
theorem tw14097447854668400296:Tr:=t0
theorem tw8249873531624179374:Tr:=t0
theorem tw892681787802806017:Tr:=t0
theorem tw15485851114877660061:Tr:=t0
theorem tw5649967823195072380:Tr:=t0
theorem tw10044588960856096794:Tr:=t0
theorem tw8228058824784995430:Tr:=t0
theorem tw8323696390020096311:Tr:=t0
theorem tw16817993663026736274:Tr:=t0
theorem tw8496349624203035976:Tr:=t0
theorem tw4605139254293405059:Tr:=t0
theorem tw4990475226369331113:Tr:=t0
theorem tw9682133043923132273:Tr:=t0
theorem tw12224774223927477439:Tr:=t0
theorem tw6596593509180878263:Tr:=t0
theorem tw9808303207383738048:Tr:=t0
theorem tw12900284412222446716:Tr:=t0
theorem tw4088224383575840552:Tr:=t0
theorem tw4681395471914393968:Tr:=t0
theorem tw2900998541784483753:Tr:=t0
theorem tw13642826006792871662:Tr:=t0
theorem tw7173623326730630234:Tr:=t0
theorem tw15131278010643852716:Tr:=t0
theorem tw17118054049896295152:Tr:=t0
theorem tw3994622017586750766:Tr:=t0
theorem tw18392154025008590481:Tr:=t0
theorem tw2058021452347087232:Tr:=t0
theorem tw17699438841360665129:Tr:=t0
theorem tw5665735395497279834:Tr:=t0
theorem tw12915833801598196605:Tr:=t0
theorem tw8096029094042308531:Tr:=t0
theorem tw832900586485598795:Tr:=t0
theorem tw2906824675625879941:Tr:=t0
theorem tw10210597933619972095:Tr:=t0
theorem tw3543165509663861734:Tr:=t0
theorem tw15467891735981029475:Tr:=t0
theorem tw17725498274588495791:Tr:=t0
theorem tw6511744376749373798:Tr:=t0
theorem tw8663697691656813868:Tr:=t0
theorem tw7332330508316399935:Tr:=t0
theorem tw3299218664060906527:Tr:=t0
theorem tw2225956059507018244:Tr:=t0
theorem tw17495560712657236704:Tr:=t0
theorem tw6545385358150927430:Tr:=t0
theorem tw785246043732427063:Tr:=t0
theorem tw12692632004510240207:Tr:=t0
theorem tw7514964652732493775:Tr:=t0
theorem tw14364048958407549093:Tr:=t0
theorem tw12222963475772708484:Tr:=t0
theorem tw17091655785135471103:Tr:=t0
theorem tw6053611964639427726:Tr:=t0
theorem tw15768048840197415361:Tr:=t0
theorem tw2821470743931037460:Tr:=t0
theorem tw14639212616227390028:Tr:=t0
theorem tw6162249291895867263:Tr:=t0
theorem tw1157997071576566072:Tr:=t0
theorem tw17402982504261768225:Tr:=t0
theorem tw8707812797481193996:Tr:=t0
theorem tw3627144658338631552:Tr:=t0
theorem tw14788915703135433725:Tr:=t0
theorem tw6183352029847204284:Tr:=t0
theorem tw10391951854915411234:Tr:=t0
theorem tw8834365191522931223:Tr:=t0
theorem tw12205347405646519318:Tr:=t0
theorem tw1261021989165538067:Tr:=t0
theorem tw17290568124846718506:Tr:=t0
theorem tw4475767826048309731:Tr:=t0
theorem tw372505627349444580:Tr:=t0
theorem tw7691172733374981047:Tr:=t0
theorem tw1714950047550659301:Tr:=t0
theorem tw18442785490491869365:Tr:=t0
theorem tw9391614825396419720:Tr:=t0
theorem tw7358942708152152329:Tr:=t0
theorem tw18134284020713443437:Tr:=t0
theorem tw16357356043003861740:Tr:=t0
theorem tw2190695567426971638:Tr:=t0
theorem tw11595355409239048105:Tr:=t0
theorem tw12014785543569010823:Tr:=t0
theorem tw3234112476842188716:Tr:=t0
theorem tw2287757881348798766:Tr:=t0
theorem tw10652863235454686790:Tr:=t0
theorem tw7153082081811710619:Tr:=t0
theorem tw1519927702969063271:Tr:=t0
theorem tw10825838108423173272:Tr:=t0
theorem tw15643365686152983790:Tr:=t0
theorem tw7761410557224570781:Tr:=t0
theorem tw3394367416137920725:Tr:=t0
theorem tw16046730324260685337:Tr:=t0
theorem tw1615045767204293396:Tr:=t0
theorem tw6087835443962453003:Tr:=t0
theorem tw16153842264607907944:Tr:=t0
theorem tw17974016328880235120:Tr:=t0
theorem tw8883465813499100731:Tr:=t0
theorem tw14218914174604095658:Tr:=t0
theorem tw8079908401900000222:Tr:=t0
theorem tw16765925921980633802:Tr:=t0
theorem tw2428412748925179849:Tr:=t0
theorem tw1150287232629052791:Tr:=t0
theorem tw4333880214566435006:Tr:=t0
theorem tw480701840831765632:Tr:=t0
theorem tw8809968196449919288:Tr:=t0
theorem tw10665469846841522134:Tr:=t0
theorem tw16320729459185622934:Tr:=t0
theorem tw6862268138105152660:Tr:=t0
theorem tw2433702464844828792:Tr:=t0
theorem tw12077450504624328385:Tr:=t0
theorem tw4760565928005411242:Tr:=t0
theorem tw5160751907100791332:Tr:=t0
theorem tw10821422270917381399:Tr:=t0
theorem tw4038153913678941442:Tr:=t0
theorem tw4365514962571936147:Tr:=t0
theorem tw6639522245352263942:Tr:=t0
theorem tw13227692790652741651:Tr:=t0
theorem tw6214117541549086881:Tr:=t0
theorem tw7472368607099979303:Tr:=t0
theorem tw1985303169890630295:Tr:=t0
theorem tw1850612553970854742:Tr:=t0
theorem tw8127475511531132179:Tr:=t0
theorem tw18385570937342765463:Tr:=t0
theorem tw15410482203810522393:Tr:=t0
theorem tw2427681307422652563:Tr:=t0
theorem tw6541472054586571296:Tr:=t0
theorem tw6542085627976250192:Tr:=t0
theorem tw8557395850702784662:Tr:=t0
theorem tw14792103822371098674:Tr:=t0
theorem tw11487549891475536569:Tr:=t0
theorem tw18315214858253571532:Tr:=t0
theorem tw3635900802997115186:Tr:=t0
theorem tw7846812961960373227:Tr:=t0
theorem tw645136716886899192:Tr:=t0
theorem tw2341703837736514645:Tr:=t0
theorem tw16959884160788844718:Tr:=t0
theorem tw1504049600530537962:Tr:=t0
theorem tw15017983477296125989:Tr:=t0
theorem tw11403851563620829512:Tr:=t0
theorem tw6788695710022549768:Tr:=t0
theorem tw11181722664286889309:Tr:=t0
theorem tw11410963132546700228:Tr:=t0
theorem tw387501639795913443:Tr:=t0
theorem tw9840939614602229412:Tr:=t0
theorem tw9381277316556691805:Tr:=t0
theorem tw10864377008497418100:Tr:=t0
theorem tw15985507487156393063:Tr:=t0
theorem tw7591743695986301205:Tr:=t0
theorem tw17737603089517620647:Tr:=t0
theorem tw11086099901593105684:Tr:=t0
theorem tw1118068078248606362:Tr:=t0
theorem tw7235775444256392728:Tr:=t0
theorem tw4817600198373253283:Tr:=t0
theorem tw15109750227778091905:Tr:=t0
theorem tw5378808338967829844:Tr:=t0
theorem tw15060185592220127646:Tr:=t0
theorem tw10463206416058312583:Tr:=t0
theorem tw12057704586751987240:Tr:=t0
theorem tw15465920861327815835:Tr:=t0
theorem tw5571399437266216444:Tr:=t0
theorem tw2279707942289718827:Tr:=t0
theorem tw7871135400657621354:Tr:=t0
theorem tw10283388844273144081:Tr:=t0
theorem tw9508770018378322450:Tr:=t0
theorem tw13270728482189477470:Tr:=t0
theorem tw13113777628852026922:Tr:=t0
theorem tw6880717277089553138:Tr:=t0
theorem tw10625486282989778954:Tr:=t0
theorem tw12748397558918655664:Tr:=t0
theorem tw2524017781993486291:Tr:=t0
theorem tw16193401482309157537:Tr:=t0
theorem tw12570134572688502250:Tr:=t0
theorem tw12732289081945773324:Tr:=t0
theorem tw10159738436595150677:Tr:=t0
theorem tw17201416709059790184:Tr:=t0
theorem tw2195194259037543316:Tr:=t0
theorem tw9376575566392132001:Tr:=t0
theorem tw3343439749351644125:Tr:=t0
theorem tw2647654807098235363:Tr:=t0
theorem tw17298425922696826006:Tr:=t0
theorem tw8484041278411425421:Tr:=t0
theorem tw7639352225515584698:Tr:=t0
theorem tw14390754486103292620:Tr:=t0
theorem tw18418235949754561950:Tr:=t0
theorem tw6455149578367423246:Tr:=t0
theorem tw5312173547345733522:Tr:=t0
theorem tw9903775340124721222:Tr:=t0
theorem tw302440914744352476:Tr:=t0
theorem tw16049902774474827687:Tr:=t0
theorem tw5363903885879670357:Tr:=t0
theorem tw8952462522180670554:Tr:=t0
theorem tw16952715711813285254:Tr:=t0
theorem tw13777938177461255882:Tr:=t0
theorem tw4189750870438640210:Tr:=t0
theorem tw15079240505294077160:Tr:=t0
theorem tw9470667924834194258:Tr:=t0
theorem tw6368324255471102079:Tr:=t0
theorem tw8467378866343419333:Tr:=t0
theorem tw14859100970857779836:Tr:=t0
theorem tw907572574359809234:Tr:=t0
theorem tw6657087868060814:Tr:=t0
theorem tw13591255225166038476:Tr:=t0
theorem tw11403970630465759474:Tr:=t0
theorem tw5502569546826302122:Tr:=t0
theorem tw9573086628692744296:Tr:=t0
theorem tw12675357926760492328:Tr:=t0
theorem tw9272984997812220495:Tr:=t0
theorem tw12277023271486646383:Tr:=t0
theorem tw588950844065142505:Tr:=t0
theorem tw13724616953566380437:Tr:=t0
theorem tw1092785777240315536:Tr:=t0
theorem tw15136431859952498927:Tr:=t0
theorem tw4490809748136132443:Tr:=t0
theorem tw16008252555379753968:Tr:=t0
theorem tw358491910552652209:Tr:=t0
theorem tw16251939892948500945:Tr:=t0
theorem tw12702744160499308131:Tr:=t0
theorem tw18063282731904131703:Tr:=t0
theorem tw11785714552879321826:Tr:=t0
theorem tw12927740378394474205:Tr:=t0
theorem tw6788530277367551627:Tr:=t0
theorem tw16305672181175384284:Tr:=t0
theorem tw4156125974679941130:Tr:=t0
theorem tw12027323910402764344:Tr:=t0
theorem tw3626430660855392483:Tr:=t0
theorem tw11003572833241299968:Tr:=t0
theorem tw9558744834307401277:Tr:=t0
theorem tw65644731488775911:Tr:=t0
theorem tw8984930932524396370:Tr:=t0
theorem tw4946776927847147119:Tr:=t0
theorem tw13713940216889387898:Tr:=t0
theorem tw17413556829735388813:Tr:=t0
theorem tw17052023290607921161:Tr:=t0
theorem tw9730157408454304684:Tr:=t0
theorem tw4839478117068044826:Tr:=t0
theorem tw14909365282108701170:Tr:=t0
theorem tw5613160597433933154:Tr:=t0
theorem tw1236483940969888574:Tr:=t0
theorem tw4261964983698606537:Tr:=t0
theorem tw6237627108579964202:Tr:=t0
theorem tw33456957511925785:Tr:=t0
theorem tw10982014176374687213:Tr:=t0
theorem tw15514936471743626214:Tr:=t0
theorem tw11710404883906591787:Tr:=t0
theorem tw13187166440333854079:Tr:=t0
theorem tw4039676971129161736:Tr:=t0
theorem tw6418098437765475518:Tr:=t0
theorem tw16676564476587882173:Tr:=t0
theorem tw14759895335926876869:Tr:=t0
theorem tw2759098988195820126:Tr:=t0
theorem tw12670839924663504800:Tr:=t0
theorem tw2895952525429962455:Tr:=t0
theorem tw10707853282979444102:Tr:=t0
theorem tw16934350882040671212:Tr:=t0
theorem tw9964214247947446159:Tr:=t0
theorem tw10417382306151645146:Tr:=t0
theorem tw7411558596216406370:Tr:=t0
theorem tw9360745474812902239:Tr:=t0
theorem tw15595112118272840620:Tr:=t0
theorem tw14618997812475977823:Tr:=t0
theorem tw14814594519894181452:Tr:=t0
theorem tw17353955331779342651:Tr:=t0
theorem tw13219505800766818778:Tr:=t0
theorem tw223528310411579522:Tr:=t0
theorem tw14640416626631428029:Tr:=t0
theorem tw16551855485269240956:Tr:=t0
theorem tw8879939841973710529:Tr:=t0
theorem tw6862492499505807319:Tr:=t0
theorem tw6907636171062424033:Tr:=t0
theorem tw961187720498965250:Tr:=t0
theorem tw4044139247061151142:Tr:=t0
theorem tw4330594992337426955:Tr:=t0
theorem tw3333744540012665435:Tr:=t0
theorem tw1439166485080882:Tr:=t0
theorem tw48596604365144762:Tr:=t0
theorem tw3314904115985164895:Tr:=t0
theorem tw9976160756891316704:Tr:=t0
theorem tw5287059835090251167:Tr:=t0
theorem tw17871620999419790863:Tr:=t0
theorem tw52199770228462824:Tr:=t0
theorem tw2019394398466159022:Tr:=t0
theorem tw2544328076492683441:Tr:=t0
theorem tw7624293977416268664:Tr:=t0
theorem tw11409991511011244131:Tr:=t0
theorem tw16950194794029067938:Tr:=t0
theorem tw7751025194823839400:Tr:=t0
theorem tw1242282695825638017:Tr:=t0
theorem tw18325589031809861271:Tr:=t0
theorem tw869908214046079982:Tr:=t0
theorem tw9656510801202774680:Tr:=t0
theorem tw16519101796099990279:Tr:=t0
theorem tw10149618387772673413:Tr:=t0
theorem tw12839114828313443825:Tr:=t0
theorem tw7623509227018997848:Tr:=t0
theorem tw15303317825217679618:Tr:=t0
theorem tw12455012482086183272:Tr:=t0
theorem tw17223442867436993403:Tr:=t0
theorem tw8652556701797213591:Tr:=t0
theorem tw16923884221124529275:Tr:=t0
theorem tw854977524454699277:Tr:=t0
theorem tw13154001654789283132:Tr:=t0
theorem tw6565609875121592624:Tr:=t0
theorem tw3370842686811476594:Tr:=t0
theorem tw11982392923317675503:Tr:=t0
theorem tw8046773169563483271:Tr:=t0
theorem tw6702130215012162313:Tr:=t0
theorem tw12338497608069007261:Tr:=t0
theorem tw490501491073077365:Tr:=t0
theorem tw4749052000479324790:Tr:=t0
theorem tw16689149305811164139:Tr:=t0
theorem tw6674893403203295414:Tr:=t0
theorem tw7297187181890747607:Tr:=t0
theorem tw3960113756560652017:Tr:=t0
theorem tw5102693214775723256:Tr:=t0
theorem tw15734660467963936456:Tr:=t0
theorem tw4674596521558634119:Tr:=t0
theorem tw1198661942849946583:Tr:=t0
theorem tw17403364634526059139:Tr:=t0
theorem tw104360540948158410:Tr:=t0
theorem tw13989496423458381343:Tr:=t0
theorem tw1886080085820668685:Tr:=t0
theorem tw330327031418712150:Tr:=t0
theorem tw6868236387235032019:Tr:=t0
theorem tw14907226015203709474:Tr:=t0
theorem tw3905226178654972811:Tr:=t0
theorem tw17510229520200029679:Tr:=t0
theorem tw2702614204127132176:Tr:=t0
theorem tw6508729118710982530:Tr:=t0
theorem tw8475525182357872103:Tr:=t0
theorem tw9368617206455126095:Tr:=t0
theorem tw15270170921892066516:Tr:=t0
theorem tw17679725944135375923:Tr:=t0
theorem tw17128291446047057950:Tr:=t0
theorem tw12170992721606120685:Tr:=t0
theorem tw17477492558424962760:Tr:=t0
theorem tw2724176850512262202:Tr:=t0
theorem tw10234815189450012239:Tr:=t0
theorem tw4310270188432123100:Tr:=t0
theorem tw13402765919934010277:Tr:=t0
theorem tw16022572192331126682:Tr:=t0
theorem tw15622959790217612890:Tr:=t0
theorem tw14168887731352723522:Tr:=t0
theorem tw5396188567872606041:Tr:=t0
theorem tw6635558491612396129:Tr:=t0
theorem tw2496676261509829067:Tr:=t0
theorem tw15928290008803537013:Tr:=t0
theorem tw3562595001068472590:Tr:=t0
theorem tw1156462466702112376:Tr:=t0
theorem tw10953687544409504101:Tr:=t0
theorem tw13110577991587790113:Tr:=t0
theorem tw4500915450034043215:Tr:=t0
theorem tw4139100593308808776:Tr:=t0
theorem tw12885385263037960081:Tr:=t0
theorem tw9417822746687237092:Tr:=t0
theorem tw18178676814319149831:Tr:=t0
theorem tw13350764725976880583:Tr:=t0
theorem tw3220561703981169602:Tr:=t0
theorem tw3706830351922483016:Tr:=t0
theorem tw12543713266681445118:Tr:=t0
theorem tw18302796317244248524:Tr:=t0
theorem tw11120327062377616369:Tr:=t0
theorem tw3466206800631347469:Tr:=t0
theorem tw9681375758050803366:Tr:=t0
theorem tw11311155076762098589:Tr:=t0
theorem tw13972245371655741198:Tr:=t0
theorem tw1216228984421328439:Tr:=t0
theorem tw11501822485730972192:Tr:=t0
theorem tw10363585996791799541:Tr:=t0
theorem tw5677329702179833609:Tr:=t0
theorem tw16135426469972691074:Tr:=t0
theorem tw11544348965984651327:Tr:=t0
theorem tw8478376212529829071:Tr:=t0
theorem tw12431731261707249289:Tr:=t0
theorem tw12518504611687188807:Tr:=t0
theorem tw14064073609400967072:Tr:=t0
theorem tw3583811862363856187:Tr:=t0
theorem tw10455743928339290457:Tr:=t0
theorem tw8627561154394265716:Tr:=t0
theorem tw13876859957761632879:Tr:=t0
theorem tw18120430973489738927:Tr:=t0
theorem tw3829396358689915599:Tr:=t0
theorem tw5309058905264134205:Tr:=t0
theorem tw3160845607165458772:Tr:=t0
theorem tw4297412468100583042:Tr:=t0
theorem tw5240536507193477226:Tr:=t0
theorem tw18344032359734412310:Tr:=t0
theorem tw833945537157984683:Tr:=t0
theorem tw1587290215689348708:Tr:=t0
theorem tw12483276189755474720:Tr:=t0
theorem tw2164743871083121425:Tr:=t0
theorem tw10334261112615635914:Tr:=t0
theorem tw13503263706703578961:Tr:=t0
theorem tw3370190323706015969:Tr:=t0
theorem tw15356762974548107741:Tr:=t0
theorem tw6140287776057189764:Tr:=t0
theorem tw2965820268544440810:Tr:=t0
theorem tw4638281056170512193:Tr:=t0
theorem tw5243159528196176124:Tr:=t0
theorem tw13116522157475607773:Tr:=t0
theorem tw1409966394225722968:Tr:=t0
theorem tw18332899500509843999:Tr:=t0
theorem tw451873465583785326:Tr:=t0
theorem tw10204856939554784155:Tr:=t0
theorem tw6912675738884088206:Tr:=t0
theorem tw17450470499104002142:Tr:=t0
theorem tw16778611742570070204:Tr:=t0
theorem tw1130211791997205004:Tr:=t0
theorem tw13590572293223372214:Tr:=t0
theorem tw3137596982192898869:Tr:=t0
theorem tw9670510015898674028:Tr:=t0
theorem tw12519306246395310219:Tr:=t0
theorem tw11463369355524808266:Tr:=t0
theorem tw6785657489111691699:Tr:=t0
theorem tw12922898485456448571:Tr:=t0
theorem tw11221353774195762014:Tr:=t0
theorem tw17864028415675338326:Tr:=t0
theorem tw3796207824708393856:Tr:=t0
theorem tw5837888446457221635:Tr:=t0
theorem tw1628013610222277130:Tr:=t0
theorem tw6222487380544312443:Tr:=t0
theorem tw2750411421705246143:Tr:=t0
theorem tw3867218068155391060:Tr:=t0
theorem tw15549530580466165023:Tr:=t0
theorem tw14439473939278146460:Tr:=t0
theorem tw834873547066669988:Tr:=t0
theorem tw5400957986263281647:Tr:=t0
theorem tw1645717771770832407:Tr:=t0
theorem tw6584820252761975732:Tr:=t0
theorem tw17431719831054627609:Tr:=t0
theorem tw10750994468655217958:Tr:=t0
theorem tw3557749057250611081:Tr:=t0
theorem tw11092141859048813250:Tr:=t0
theorem tw16629339528299215175:Tr:=t0
theorem tw14406990849044604362:Tr:=t0
theorem tw14562738103837258888:Tr:=t0
theorem tw2007339730380871907:Tr:=t0
theorem tw8102450764968551371:Tr:=t0
theorem tw12681957500809781501:Tr:=t0
theorem tw8265370782698574782:Tr:=t0
theorem tw545269030811804461:Tr:=t0
theorem tw2110754180369666209:Tr:=t0
theorem tw3934531018447913466:Tr:=t0
theorem tw7268301785047649679:Tr:=t0
theorem tw3136416535801588117:Tr:=t0
theorem tw7054876372555587774:Tr:=t0
theorem tw8194804308349941002:Tr:=t0
theorem tw7186131708394509389:Tr:=t0
theorem tw1098248734344127483:Tr:=t0
theorem tw15387884906608193903:Tr:=t0
theorem tw12941917028564957548:Tr:=t0
theorem tw15955573374722617477:Tr:=t0
theorem tw9265829497004654079:Tr:=t0
theorem tw7214478077546791972:Tr:=t0
theorem tw5871769198996169552:Tr:=t0
theorem tw1151946252083901208:Tr:=t0
theorem tw2583023086579268501:Tr:=t0
theorem tw8729708805864041840:Tr:=t0
theorem tw17268439761433841065:Tr:=t0
theorem tw12909650291622432550:Tr:=t0
theorem tw9069182735580402390:Tr:=t0
theorem tw9302470337196694018:Tr:=t0
theorem tw18031918436515192882:Tr:=t0
theorem tw18165044119631177899:Tr:=t0
theorem tw9268297945177815525:Tr:=t0
theorem tw12885673836220544336:Tr:=t0
theorem tw3454311308915712629:Tr:=t0
theorem tw5436791530062809996:Tr:=t0
theorem tw11261727412033496967:Tr:=t0
theorem tw10876229203375891673:Tr:=t0
theorem tw17906638245316424091:Tr:=t0
theorem tw12992176717851604617:Tr:=t0
theorem tw16826212616301561204:Tr:=t0
theorem tw7972779244933481256:Tr:=t0
theorem tw12751799325998411230:Tr:=t0
theorem tw7929128423345735474:Tr:=t0
theorem tw7699798408344515789:Tr:=t0
theorem tw9392487213469676918:Tr:=t0
theorem tw7165207203227711834:Tr:=t0
theorem tw11218778669853930896:Tr:=t0
theorem tw4491334807805099456:Tr:=t0
theorem tw12450111651097656602:Tr:=t0
theorem tw7623511443260959870:Tr:=t0
theorem tw17456035664235451855:Tr:=t0
theorem tw15097543051748444868:Tr:=t0
theorem tw11962923498438245051:Tr:=t0
theorem tw11125538497796368324:Tr:=t0
theorem tw15438212644395081984:Tr:=t0
theorem tw8567518541235275850:Tr:=t0
theorem tw6663778134991626487:Tr:=t0
theorem tw15579395750891953841:Tr:=t0
theorem tw9515011664573035354:Tr:=t0
theorem tw13224007501803129859:Tr:=t0
theorem tw3464709057266567092:Tr:=t0
theorem tw13597483153833180358:Tr:=t0
theorem tw16480584520131690045:Tr:=t0
theorem tw9897820754763898449:Tr:=t0
theorem tw10669944970481658594:Tr:=t0
theorem tw14060465935940456498:Tr:=t0
theorem tw3613476055612923068:Tr:=t0
theorem tw10231336680788121439:Tr:=t0
theorem tw16641786646906312760:Tr:=t0
theorem tw11251407683458634364:Tr:=t0
theorem tw6981815665589151136:Tr:=t0
theorem tw10169072693733980587:Tr:=t0
theorem tw799486724532869496:Tr:=t0
theorem tw7943094425149488825:Tr:=t0
theorem tw4766233809647381661:Tr:=t0
theorem tw17057053908230417247:Tr:=t0
theorem tw7010351842590255796:Tr:=t0
theorem tw12139096438432415106:Tr:=t0
theorem tw12784055721772562989:Tr:=t0
theorem tw341453280667917650:Tr:=t0
theorem tw16320215318167395912:Tr:=t0
theorem tw7698036289167662538:Tr:=t0
theorem tw10123989817122485451:Tr:=t0
theorem tw9957550378297406723:Tr:=t0
theorem tw14027531716089632829:Tr:=t0
theorem tw12343854547171428336:Tr:=t0
theorem tw18425317256667529438:Tr:=t0
theorem tw18421580907717582127:Tr:=t0
theorem tw12463224122652932544:Tr:=t0
theorem tw8947760058931562597:Tr:=t0
theorem tw1270039299266317192:Tr:=t0
theorem tw9175052073728820173:Tr:=t0
theorem tw6559806142732475569:Tr:=t0
theorem tw7074144079889050967:Tr:=t0
theorem tw16844846013681443199:Tr:=t0
theorem tw3491332818749588091:Tr:=t0
theorem tw11646826074482590764:Tr:=t0
theorem tw5104194264097766351:Tr:=t0
theorem tw1777545030009416734:Tr:=t0
theorem tw6112859857366181021:Tr:=t0
theorem tw11049269918873537771:Tr:=t0
theorem tw8466321980469482115:Tr:=t0
theorem tw2456247091588846565:Tr:=t0
theorem tw10199874654664476236:Tr:=t0
theorem tw453184122279072053:Tr:=t0
theorem tw1980160206288974728:Tr:=t0
theorem tw17336282652733537790:Tr:=t0
theorem tw17345151560419556491:Tr:=t0
theorem tw15225127925928830808:Tr:=t0
theorem tw8207831470162742035:Tr:=t0
theorem tw8610315236036937458:Tr:=t0
theorem tw18218335207050127959:Tr:=t0
theorem tw9121559901702372667:Tr:=t0
theorem tw16451033083921036709:Tr:=t0
theorem tw9369988214560726041:Tr:=t0
theorem tw11614107205274993552:Tr:=t0
theorem tw15062679425460387418:Tr:=t0
theorem tw14313897822631088780:Tr:=t0
theorem tw14235155234550121937:Tr:=t0
theorem tw2729793432009153956:Tr:=t0
theorem tw9189880136782149556:Tr:=t0
theorem tw1632041292262086317:Tr:=t0
theorem tw10564528347858357063:Tr:=t0
theorem tw13693970394777133609:Tr:=t0
theorem tw4072190877284726289:Tr:=t0
theorem tw1027651156746619712:Tr:=t0
theorem tw4924694640843408985:Tr:=t0
theorem tw6886502059237256666:Tr:=t0
theorem tw10609540516017602915:Tr:=t0
theorem tw13465503431842376007:Tr:=t0
theorem tw14798791472264738832:Tr:=t0
theorem tw9303439499767911484:Tr:=t0
theorem tw16965079339398995527:Tr:=t0
theorem tw7697417962357392202:Tr:=t0
theorem tw6385024630547198690:Tr:=t0
theorem tw3298483428156984901:Tr:=t0
theorem tw4585930131862741453:Tr:=t0
theorem tw452746233719593009:Tr:=t0
theorem tw17438294365789470252:Tr:=t0
theorem tw12564604832814323664:Tr:=t0
theorem tw5450094653865882931:Tr:=t0
theorem tw7237411587787531456:Tr:=t0
theorem tw12608185968620612914:Tr:=t0
theorem tw9361300454564663673:Tr:=t0
theorem tw8436210846270712021:Tr:=t0
theorem tw221909299271738847:Tr:=t0
theorem tw12594366453804578888:Tr:=t0
theorem tw12431561837914552411:Tr:=t0
theorem tw11225645599760410699:Tr:=t0
theorem tw11967333016625521393:Tr:=t0
theorem tw16656740534632174751:Tr:=t0
theorem tw15991044622763254686:Tr:=t0
theorem tw7904437144335635152:Tr:=t0
theorem tw16819838333489098493:Tr:=t0
theorem tw820145642477177705:Tr:=t0
theorem tw10642606787283503386:Tr:=t0
theorem tw10453263994017694363:Tr:=t0
theorem tw2714283472998740243:Tr:=t0
theorem tw18403998269306519403:Tr:=t0
theorem tw7332552209862256014:Tr:=t0
theorem tw12646911602827044314:Tr:=t0
theorem tw9848185148710128376:Tr:=t0
theorem tw11531331273489700057:Tr:=t0
theorem tw1496695287857109588:Tr:=t0
theorem tw13547569757486424058:Tr:=t0
theorem tw10047389527955405517:Tr:=t0
theorem tw4812270449578504274:Tr:=t0
theorem tw13148611719377898607:Tr:=t0
theorem tw6660377722381337597:Tr:=t0
theorem tw16572128252103988241:Tr:=t0
theorem tw8748973510418095054:Tr:=t0
theorem tw2285316222323005128:Tr:=t0
theorem tw13355152605343272895:Tr:=t0
theorem tw5518243967957118194:Tr:=t0
theorem tw14771111431291430275:Tr:=t0
theorem tw17297283025540448806:Tr:=t0
theorem tw5517759331935216279:Tr:=t0
theorem tw8502009786194526861:Tr:=t0
theorem tw7308723440029596264:Tr:=t0
theorem tw12361340156312767134:Tr:=t0
theorem tw962032349192862916:Tr:=t0
theorem tw13347406073615853072:Tr:=t0
theorem tw6768520987592691376:Tr:=t0
theorem tw17236958762192778904:Tr:=t0
theorem tw6910295442248876197:Tr:=t0
theorem tw16544489699163171333:Tr:=t0
theorem tw16187894506366716058:Tr:=t0
theorem tw161903638078081290:Tr:=t0
theorem tw13132915859168520264:Tr:=t0
theorem tw10652611922669240339:Tr:=t0
theorem tw5921134243170700561:Tr:=t0
theorem tw5790326737455844299:Tr:=t0
theorem tw15350898050860989542:Tr:=t0
theorem tw1469836325065767749:Tr:=t0
theorem tw2337230598321646361:Tr:=t0
theorem tw1084220662915027778:Tr:=t0
theorem tw10924716458440934090:Tr:=t0
theorem tw13838900630717943254:Tr:=t0
theorem tw11716418206903941319:Tr:=t0
theorem tw13313126695403321540:Tr:=t0
theorem tw8650628079126297760:Tr:=t0
theorem tw10298723112805639129:Tr:=t0
theorem tw9942282790977331292:Tr:=t0
theorem tw13110970153573199417:Tr:=t0
theorem tw11101190512080308003:Tr:=t0
theorem tw5289026146741335887:Tr:=t0
theorem tw8281396171620568247:Tr:=t0
theorem tw13995172100960836882:Tr:=t0
theorem tw5623159541915647742:Tr:=t0
theorem tw6161133996638707016:Tr:=t0
theorem tw4324958949535026087:Tr:=t0
theorem tw2538046985915079169:Tr:=t0
theorem tw1178595665728414349:Tr:=t0
theorem tw6334894449686545209:Tr:=t0
theorem tw2402762420636078793:Tr:=t0
theorem tw5671064798259553346:Tr:=t0
theorem tw918671981122897330:Tr:=t0
theorem tw13406003279186336099:Tr:=t0
theorem tw14666387041718499266:Tr:=t0
theorem tw6044114016751833949:Tr:=t0
theorem tw8118072479153026202:Tr:=t0
theorem tw9155575984036265788:Tr:=t0
theorem tw4009796111205994722:Tr:=t0
theorem tw14492832472218066102:Tr:=t0
theorem tw16757190730947197508:Tr:=t0
theorem tw10094358506670053839:Tr:=t0
theorem tw7298748307773712898:Tr:=t0
theorem tw1253437644075932092:Tr:=t0
theorem tw5061512775090418087:Tr:=t0
theorem tw7647378279178456250:Tr:=t0
theorem tw5995161000843957690:Tr:=t0
theorem tw1519992759497675636:Tr:=t0
theorem tw7273056430967151046:Tr:=t0
theorem tw6690441779611380620:Tr:=t0
theorem tw10877679251791092727:Tr:=t0
theorem tw4433583912937229259:Tr:=t0
theorem tw12273490649430754879:Tr:=t0
theorem tw765107192605250810:Tr:=t0
theorem tw15683502518078909336:Tr:=t0
theorem tw13803360072150633466:Tr:=t0
theorem tw12959741745000181155:Tr:=t0
theorem tw17563168436475441343:Tr:=t0
theorem tw6557543464795787104:Tr:=t0
theorem tw5127751686995613262:Tr:=t0
theorem tw3748114642381145586:Tr:=t0
theorem tw4413345314126155841:Tr:=t0
theorem tw15970538086172389420:Tr:=t0
theorem tw6741292078354696603:Tr:=t0
theorem tw2629084897520917108:Tr:=t0
theorem tw11135027115929721415:Tr:=t0
theorem tw8844999433837080629:Tr:=t0
theorem tw17958375852430007124:Tr:=t0
theorem tw1677766988990989824:Tr:=t0
theorem tw10140136200207757160:Tr:=t0
theorem tw4630824681090250767:Tr:=t0
theorem tw11020365191643786025:Tr:=t0
theorem tw12623159325031504133:Tr:=t0
theorem tw15737690656516749961:Tr:=t0
theorem tw244467455267321384:Tr:=t0
theorem tw9880953963774564861:Tr:=t0
theorem tw1545906260438175962:Tr:=t0
theorem tw1678875084529416142:Tr:=t0
theorem tw1826329307503635854:Tr:=t0
theorem tw9483120023164983764:Tr:=t0
theorem tw11041547156204584376:Tr:=t0
theorem tw12987577155417789579:Tr:=t0
theorem tw11399646045708457374:Tr:=t0
theorem tw4423423576564373014:Tr:=t0
theorem tw10450603732522932521:Tr:=t0
theorem tw17147588175821073265:Tr:=t0
theorem tw2173562974560187446:Tr:=t0
theorem tw6697339332421208802:Tr:=t0
theorem tw3045742163950154196:Tr:=t0
theorem tw4637267157515435788:Tr:=t0
theorem tw5532463470591059822:Tr:=t0
theorem tw9394770849952503311:Tr:=t0
theorem tw14722489848711283861:Tr:=t0
theorem tw3864827586467847463:Tr:=t0
theorem tw12093647306153771053:Tr:=t0
theorem tw8905992674379837232:Tr:=t0
theorem tw917386388269078853:Tr:=t0
theorem tw3911810758690780188:Tr:=t0
theorem tw11239335112260394413:Tr:=t0
theorem tw15624239662980076321:Tr:=t0
theorem tw5004366561265856203:Tr:=t0
theorem tw17146568849442343683:Tr:=t0
theorem tw1429040668314091153:Tr:=t0
theorem tw3864431920445960829:Tr:=t0
theorem tw6361450105264607166:Tr:=t0
theorem tw17708487481403421675:Tr:=t0
theorem tw5842977544298395883:Tr:=t0
theorem tw8546124895413445307:Tr:=t0
theorem tw7113585516715319716:Tr:=t0
theorem tw14489535830319231195:Tr:=t0
theorem tw1099256609624015869:Tr:=t0
theorem tw14539993770535171780:Tr:=t0
theorem tw16035907590883218939:Tr:=t0
theorem tw14457758005677747962:Tr:=t0
theorem tw5240779543111244032:Tr:=t0
theorem tw365850788961202214:Tr:=t0
theorem tw18287795668848337631:Tr:=t0
theorem tw14849204138880929251:Tr:=t0
theorem tw4193505271845495863:Tr:=t0
theorem tw31828345220925962:Tr:=t0
theorem tw4650958065196391918:Tr:=t0
theorem tw14216407083858561409:Tr:=t0
theorem tw3958507339218470045:Tr:=t0
theorem tw9274054859765456524:Tr:=t0
theorem tw8440099810896429113:Tr:=t0
theorem tw7624122152786673341:Tr:=t0
theorem tw5665406974723832613:Tr:=t0
theorem tw2744014450722944760:Tr:=t0
theorem tw16452447596832230105:Tr:=t0
theorem tw15616401959046598769:Tr:=t0
theorem tw8930851030842425676:Tr:=t0
theorem tw12872379398031375081:Tr:=t0
theorem tw13974046611088194958:Tr:=t0
theorem tw471287901995484742:Tr:=t0
theorem tw4573282807186111410:Tr:=t0
theorem tw15365013842991253249:Tr:=t0
theorem tw5181119749688162637:Tr:=t0
theorem tw5585478044538960755:Tr:=t0
theorem tw8905464785575363620:Tr:=t0
theorem tw1390771862084280389:Tr:=t0
theorem tw4544244032028310869:Tr:=t0
theorem tw17292155258170135553:Tr:=t0
theorem tw15510692781650021527:Tr:=t0
theorem tw7142256002058171272:Tr:=t0
theorem tw17695171507069755227:Tr:=t0
theorem tw4719957520787936630:Tr:=t0
theorem tw5418533224930618480:Tr:=t0
theorem tw796168687070700412:Tr:=t0
theorem tw11735423636902730196:Tr:=t0
theorem tw12747388180105724736:Tr:=t0
theorem tw10876375607700338302:Tr:=t0
theorem tw15461212566085484399:Tr:=t0
theorem tw18431692314602308842:Tr:=t0
theorem tw15023316991559800185:Tr:=t0
theorem tw15491723280356408159:Tr:=t0
theorem tw3305931106042330821:Tr:=t0
theorem tw7083192437325867461:Tr:=t0
theorem tw13626721169425172152:Tr:=t0
theorem tw8090509862211737132:Tr:=t0
theorem tw14027650596787315314:Tr:=t0
theorem tw5616070069386785504:Tr:=t0
theorem tw14864641218109852296:Tr:=t0
theorem tw14080665800827857628:Tr:=t0
theorem tw5638201095994319732:Tr:=t0
theorem tw11156056980113079860:Tr:=t0
theorem tw11692516046256081784:Tr:=t0
theorem tw8260724100714396741:Tr:=t0
theorem tw11273777480241942364:Tr:=t0
theorem tw4917070330192852093:Tr:=t0
theorem tw2852251193174398662:Tr:=t0
theorem tw13962693860625380366:Tr:=t0
theorem tw10988349151246609537:Tr:=t0
end main
set_option Elab.async true
set_option tactic.hygienic true in
set_option maxHeartbeats 8000000 in
theorem main:PySem.Challenge.rw_te0061_05.Holds:=by
 w_on
 o_law
 k_head
 (case hw=>w_witness2)
 k_fill
 intro w s₀ s₁ mg mb G Y fa o pm cd doc dV kV ho hd hcd hD hmg hg args vals as hpre hlay hrd hwl hlo
 have KX:=kIn_of Y
 refine Ground.open G ?_
 intro T B D TE TW
 have hKF:KF (main.heap_1_39 w.params):={
   keepB:=by kernel_rfl,globB:=by kernel_rfl,bltB:=by kernel_rfl,clsB:=by kernel_rfl,setB:=by kernel_rfl,slotB:=by kernel_rfl,typB:=by kernel_rfl,cm:=by kernel_rfl,no:=by kernel_rfl,rep:=by kernel_rfl,
   dig:=⟨_,_,rfl,fun M=>by
    repeat (first | exact IsAll.nil | refine IsAll.cons (.str _ _ rfl) ?_)⟩,
   sig:=⟨_,_,rfl,fun M=>by
    repeat (first | exact IsAll.nil | refine IsAll.cons (.str _ _ rfl) ?_)⟩,
   fn:=List.forall_mem_cons.mpr ⟨.p (rfl:List.lookup 34 (main.heap_1_39 w.params)=some _) (by kernel_rfl) (.inr rfl) (fun s X _=>BindsTo.of_eq rfl),
    List.forall_mem_cons.mpr ⟨.p (rfl:List.lookup 41 (main.heap_1_39 w.params)=some _) (by kernel_rfl) (.inr rfl) (fun s X _=>BindsTo.of_eq rfl),
    List.forall_mem_cons.mpr ⟨.p (rfl:List.lookup 26 (main.heap_1_39 w.params)=some _) (by kernel_rfl) (.inl rfl) (fun s X _=>BindsTo.of_eq rfl),
    List.forall_mem_cons.mpr ⟨.p (rfl:List.lookup 613 (main.heap_1_39 w.params)=some _) (by kernel_rfl) (.inl rfl) (fun s X _ _=>BindsTo.of_eq rfl),
    List.forall_mem_cons.mpr ⟨.p (rfl:List.lookup 620 (main.heap_1_39 w.params)=some _) (by kernel_rfl) (.inl rfl) (fun s X _ _=>BindsTo.of_eq rfl),
    List.forall_mem_cons.mpr ⟨.p (rfl:List.lookup 628 (main.heap_1_39 w.params)=some _) (by kernel_rfl) (.inl rfl) (fun s X _=>BindsTo.of_defaults rfl (X _ _ rfl) rfl rfl rfl),
    List.forall_mem_cons.mpr ⟨.p (rfl:List.lookup 635 (main.heap_1_39 w.params)=some _) (by kernel_rfl) (.inl rfl) (fun s X _ _=>BindsTo.of_eq rfl),
    List.forall_mem_cons.mpr ⟨.p (rfl:List.lookup 642 (main.heap_1_39 w.params)=some _) (by kernel_rfl) (.inl rfl) (fun s X _ _=>BindsTo.of_eq rfl),
    List.forall_mem_cons.mpr ⟨.p (rfl:List.lookup 649 (main.heap_1_39 w.params)=some _) (by kernel_rfl) (.inl rfl) (fun s X _ _=>BindsTo.of_eq rfl),
    List.forall_mem_cons.mpr ⟨.p (rfl:List.lookup 656 (main.heap_1_39 w.params)=some _) (by kernel_rfl) (.inl rfl) (fun s X _ _=>BindsTo.of_eq rfl),
    List.forall_mem_cons.mpr ⟨.p (rfl:List.lookup 663 (main.heap_1_39 w.params)=some _) (by kernel_rfl) (.inl rfl) (fun s X _ _=>BindsTo.of_eq rfl),
    List.forall_mem_cons.mpr ⟨.p (rfl:List.lookup 670 (main.heap_1_39 w.params)=some _) (by kernel_rfl) (.inl rfl) (fun s X _ _=>BindsTo.of_eq rfl),
    List.forall_mem_cons.mpr ⟨.p (rfl:List.lookup 677 (main.heap_1_39 w.params)=some _) (by kernel_rfl) (.inl rfl) (fun s X _ _=>BindsTo.of_eq rfl),
    List.forall_mem_cons.mpr ⟨.p (rfl:List.lookup 685 (main.heap_1_39 w.params)=some _) (by kernel_rfl) (.inl rfl) (fun s X=>BindsTo.of_eq rfl),
    List.forall_mem_cons.mpr ⟨.p (rfl:List.lookup 692 (main.heap_1_39 w.params)=some _) (by kernel_rfl) (.inl rfl) (fun s X=>BindsTo.of_eq rfl),
    List.forall_mem_cons.mpr ⟨.p (rfl:List.lookup 699 (main.heap_1_39 w.params)=some _) (by kernel_rfl) (.inl rfl) (fun s X=>BindsTo.of_eq rfl),
    List.forall_mem_cons.mpr ⟨.p (rfl:List.lookup 706 (main.heap_1_39 w.params)=some _) (by kernel_rfl) (.inl rfl) (fun s X=>BindsTo.of_eq rfl),
    List.forall_mem_cons.mpr ⟨.p (rfl:List.lookup 713 (main.heap_1_39 w.params)=some _) (by kernel_rfl) (.inl rfl) (fun s X=>BindsTo.of_eq rfl),
    List.forall_mem_cons.mpr ⟨.p (rfl:List.lookup 720 (main.heap_1_39 w.params)=some _) (by kernel_rfl) (.inl rfl) (fun s X=>BindsTo.of_eq rfl),
    List.forall_mem_cons.mpr ⟨.p (rfl:List.lookup 727 (main.heap_1_39 w.params)=some _) (by kernel_rfl) (.inl rfl) (fun s X=>BindsTo.of_eq rfl),
    List.forall_mem_cons.mpr ⟨.p (rfl:List.lookup 734 (main.heap_1_39 w.params)=some _) (by kernel_rfl) (.inl rfl) (fun s X _=>BindsTo.of_eq rfl),
    List.forall_mem_cons.mpr ⟨.p (rfl:List.lookup 741 (main.heap_1_39 w.params)=some _) (by kernel_rfl) (.inl rfl) (fun s X _ _ _=>BindsTo.of_eq rfl),
    List.forall_mem_cons.mpr ⟨.p (rfl:List.lookup 748 (main.heap_1_39 w.params)=some _) (by kernel_rfl) (.inl rfl) (fun s X _ _ _ _=>BindsTo.of_eq rfl),
    List.forall_mem_cons.mpr ⟨.p (rfl:List.lookup 755 (main.heap_1_39 w.params)=some _) (by kernel_rfl) (.inl rfl) (fun s X _=>BindsTo.of_eq rfl),
    List.forall_mem_cons.mpr ⟨.p (rfl:List.lookup 762 (main.heap_1_39 w.params)=some _) (by kernel_rfl) (.inl rfl) (fun s X _=>BindsTo.of_eq rfl),
    List.forall_mem_cons.mpr ⟨.p (rfl:List.lookup 769 (main.heap_1_39 w.params)=some _) (by kernel_rfl) (.inl rfl) (fun s X _ _ _ _=>BindsTo.of_eq rfl),
    List.forall_mem_cons.mpr ⟨.p (rfl:List.lookup 776 (main.heap_1_39 w.params)=some _) (by kernel_rfl) (.inl rfl) (fun s X _ _ _=>BindsTo.of_eq rfl),
    List.forall_mem_cons.mpr ⟨.p (rfl:List.lookup 783 (main.heap_1_39 w.params)=some _) (by kernel_rfl) (.inl rfl) (fun s X _ _ _=>BindsTo.of_eq rfl),
    List.forall_mem_cons.mpr ⟨.p (rfl:List.lookup 790 (main.heap_1_39 w.params)=some _) (by kernel_rfl) (.inl rfl) (fun s X _=>BindsTo.of_eq rfl),
    List.forall_mem_cons.mpr ⟨.p (rfl:List.lookup 797 (main.heap_1_39 w.params)=some _) (by kernel_rfl) (.inl rfl) (fun s X _=>BindsTo.of_eq rfl),
    List.forall_mem_cons.mpr ⟨.p (rfl:List.lookup 56 (main.heap_1_39 w.params)=some _) (by kernel_rfl) (.inl rfl) (fun s X _ _ _=>BindsTo.of_eq rfl),
    List.forall_mem_cons.mpr ⟨.p (rfl:List.lookup 93 (main.heap_1_39 w.params)=some _) (by kernel_rfl) (.inl rfl) (fun s X _ _ _ _ _=>BindsTo.of_eq rfl),
    List.forall_mem_cons.mpr ⟨.p (rfl:List.lookup 123 (main.heap_1_39 w.params)=some _) (by kernel_rfl) (.inl rfl) (fun s X _ _ _ _=>BindsTo.of_eq rfl),
    List.forall_mem_cons.mpr ⟨.p (rfl:List.lookup 152 (main.heap_1_39 w.params)=some _) (by kernel_rfl) (.inl rfl) (fun s X _ _ _ _=>BindsTo.of_eq rfl),
    List.forall_mem_cons.mpr ⟨.p (rfl:List.lookup 181 (main.heap_1_39 w.params)=some _) (by kernel_rfl) (.inl rfl) (fun s X _ _ _ _=>BindsTo.of_eq rfl),
    List.forall_mem_cons.mpr ⟨.p (rfl:List.lookup 224 (main.heap_1_39 w.params)=some _) (by kernel_rfl) (.inl rfl) (fun s X _ _ _ _=>BindsTo.of_eq rfl),
    List.forall_mem_cons.mpr ⟨.p (rfl:List.lookup 254 (main.heap_1_39 w.params)=some _) (by kernel_rfl) (.inl rfl) (fun s X _ _ _ _=>BindsTo.of_eq rfl),
    List.forall_mem_cons.mpr ⟨.p (rfl:List.lookup 284 (main.heap_1_39 w.params)=some _) (by kernel_rfl) (.inl rfl) (fun s X _ _ _ _ _=>BindsTo.of_eq rfl),
    List.forall_mem_cons.mpr ⟨.p (rfl:List.lookup 314 (main.heap_1_39 w.params)=some _) (by kernel_rfl) (.inl rfl) (fun s X _ _ _ _ _=>BindsTo.of_eq rfl),
    List.forall_mem_cons.mpr ⟨.p (rfl:List.lookup 344 (main.heap_1_39 w.params)=some _) (by kernel_rfl) (.inl rfl) (fun s X _ _ _ _ _=>BindsTo.of_eq rfl),
    List.forall_mem_cons.mpr ⟨.p (rfl:List.lookup 374 (main.heap_1_39 w.params)=some _) (by kernel_rfl) (.inl rfl) (fun s X _ _ _ _ _=>BindsTo.of_eq rfl),
    List.forall_mem_cons.mpr ⟨.p (rfl:List.lookup 404 (main.heap_1_39 w.params)=some _) (by kernel_rfl) (.inl rfl) (fun s X _ _ _ _ _ _=>BindsTo.of_eq rfl),
    List.forall_mem_cons.mpr ⟨.p (rfl:List.lookup 436 (main.heap_1_39 w.params)=some _) (by kernel_rfl) (.inl rfl) (fun s X _ _ _ _ _ _=>BindsTo.of_eq rfl),
    List.forall_mem_cons.mpr ⟨.p (rfl:List.lookup 468 (main.heap_1_39 w.params)=some _) (by kernel_rfl) (.inl rfl) (fun s X _ _ _ _ _ _ _=>BindsTo.of_eq rfl),
    List.forall_mem_cons.mpr ⟨.p (rfl:List.lookup 502 (main.heap_1_39 w.params)=some _) (by kernel_rfl) (.inl rfl) (fun s X _ _ _ _=>BindsTo.of_eq rfl),
    List.forall_mem_cons.mpr ⟨.p (rfl:List.lookup 531 (main.heap_1_39 w.params)=some _) (by kernel_rfl) (.inl rfl) (fun s X _ _ _ _=>BindsTo.of_eq rfl),
    List.forall_mem_cons.mpr ⟨.p (rfl:List.lookup 560 (main.heap_1_39 w.params)=some _) (by kernel_rfl) (.inl rfl) (fun s X _ _ _ _=>BindsTo.of_eq rfl),
    List.forall_mem_cons.mpr ⟨.p (rfl:List.lookup 589 (main.heap_1_39 w.params)=some _) (by kernel_rfl) (.inl rfl) (fun s X _ _ _ _ _=>BindsTo.of_eq rfl),
    fun _ h=>nomatch h⟩⟩⟩⟩⟩⟩⟩⟩⟩⟩⟩⟩⟩⟩⟩⟩⟩⟩⟩⟩⟩⟩⟩⟩⟩⟩⟩⟩⟩⟩⟩⟩⟩⟩⟩⟩⟩⟩⟩⟩⟩⟩⟩⟩⟩⟩⟩⟩ }
 have hT:TabsAt tabs0 s₁.heap:=List.forall_mem_cons.mpr ⟨tab_of (x:="serialize_string_value") (c:=33) (P:=29) T KX rfl (by kernel_rfl),List.forall_mem_cons.mpr ⟨tab_of (x:="serialize_url") (c:=40) (P:=36) T KX rfl (by kernel_rfl),fun _ h=>nomatch h⟩⟩
 clear B D TE TW hmg
 wrow_args hpre hlay hrd hwl hlo
 all_goals (first | refine callC_kw (enter_call ?_) | refine enter_call ?_ | refine callC_kw (enter_callW ?_) | refine enter_callW ?_ | w_how)
 w_top on
 have he:=Dflts.none hD rfl; subst he
 have he:=Dflts.noKw hD; subst he
 refine call_one (by decide) ho (fd_plain hd) (Top.nolimit T) hcd rfl (by decide +kernel) (by decide +kernel) rfl rfl rfl fun h₁ tk cells htk F N0 X0=>?_
 rename_i zs hs0 hlay0 hL1 hr1 hl2 w7 w6 l vs w3 hL ra w1 r0 hI hr hcond1 hcond0
 refine lawAll plainAll hKF (l:=l) (xs:=vs) (zs:=zs) hT KX T hg rfl rfl htk F N0 X0 (fun _ _=>rfl) (if_pos rfl) hL hI ?_ ?_
 ·have:=hI.length
  omega
 ·intro s' k hgr hos hgs
  refine post_true hT ?_ ?_ k hgr hos hgs
  ·intro cls; rfl
  ·first | kernel_rfl | (generalize ([ofPy (PyData.list (List.map PyData.int zs))]:List WData)=as; kernel_rfl)
set_option Elab.async false
end Mine
theorem PySem.Challenge.cw_te0061_05_holds : PySem.Challenge.rw_te0061_05.Holds :=
 Mine.main
