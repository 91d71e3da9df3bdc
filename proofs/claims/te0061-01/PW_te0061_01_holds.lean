import PyProof.Rows.All
import Wide.All
import OpenK.AllK
import Wide.FinOn
import KE.KNest
import KE.KxPercent
import KE.KTab
import KE.KTops
import KE.LcSums
import PyProof.RangeFor
import PyProof.CompFree
import PyProof.CompMap
import PyProof.StrLawsLast
import PyProof.DictDisplay
import PyProof.DictRoads
import PyProof.DictKinds
import PyProof.Rows.TupMore
import PyProof.P3In
import PySem.Challenge.RW_te0061_01
open PySem PySem.W PySem.Calls PyProof.Rows
set_option Elab.async false
set_option tactic.hygienic false
set_option linter.unusedVariables false
set_option compiler.extract_closed false
set_option maxRecDepth 100000
set_option maxHeartbeats 2000000
namespace Mine
namespace Internal
theorem Qa{α:Type _}{i:Nat}{l:List α}:(l.drop i).length=l.length-i:=List.length_drop
theorem Qb{α:Type _}{a:α}{as:List α}:(a::as).length=as.length+1:=List.length_cons
theorem Qc(a b:Bool):((a&&b)=true)=(a=true∧b=true):=Bool.and_eq_true _ _
theorem Qd(n:Nat):n≤n:=Nat.le_refl _
theorem Qe{α:Type _}{i j:Nat}{l:List α}:(l.drop j).drop i=l.drop (j+i):=List.drop_drop
theorem Qf{α:Type _}(as bs cs:List α):as++bs++cs=as++(bs++cs):=List.append_assoc _ _ _
theorem Qg{α:Type _}{as bs:List α}:(as++bs).length=as.length+bs.length:=List.length_append
theorem Qh{p:Prop}[Decidable p]:decide p=true→p:=of_decide_eq_true
theorem Qi{α:Type _}{b:α}{l:List α}{a:α}:a∈b::l→a=b∨a∈l:=List.mem_cons.mp
theorem Qj{α:Type _}{a:α}{as bs:List α}:a::as++bs=a::(as++bs):=List.cons_append
theorem Qk{α:Type _}[BEq α][LawfulBEq α]{a b:α}:a≠b→(a==b)=false:=beq_eq_false_iff_ne.mpr
theorem Ql{α:Type _}{l:List α}:l.length=0→l=[]:=List.length_eq_zero_iff.mp
theorem Qm{α:Type _}{i:Nat}{l:List α}:(l.take i).length=min i l.length:=List.length_take
theorem Qn{α:Type _}{l:List α}:l≠[]→0<l.length:=List.length_pos_iff.mpr
theorem Qo(b:Bool):(true&&b)=b:=Bool.true_and _
theorem Qp{α:Type _}{l:List α}{i:Nat}:l.length≤i→l.drop i=[]:=List.drop_eq_nil_iff.mpr
theorem Qq{α:Type _}{p:α→Bool}{a:α}{l:List α}:(a::l).takeWhile p=if p a=true then a::l.takeWhile p else []:=List.takeWhile_cons
theorem Qr{α:Type _}{p:α→Bool}{l:List α}:l.all p=true→∀x∈l,p x=true:=List.all_eq_true.mp
theorem Qs{p:Prop}[Decidable p]:p→decide p=true:=decide_eq_true
theorem Qt{α:Type _}(a:α)(l:List α):a::l≠[]:=List.cons_ne_nil _ _
theorem Qu(a b:Bool):((a||b)=true)=(a=true∨b=true):=Bool.or_eq_true _ _
theorem Qv{α:Type _}{p q:List α}:p++q=[]→p=[]∧q=[]:=List.append_eq_nil_iff.mp
theorem Qw{α:Type _}{b:α}(as:List α){bs:List α}:b∈bs→b∈as++bs:=List.mem_append_right _
open Lean in
def zdg (f:Name→Name):List String→List Syntax→List Syntax
|o::w::r,s=>
 let k:=w.toName
 let m:=o.toNat?.getD 0
 let b:=(s.take (m%100)).reverse.toArray
 let d:=s.drop (m%100)
 zdg f r (if o=="a" then mkAtom w::s else if o=="i" then mkCIdent (`Mine.Internal++k)::s else if o=="h" then mkIdent (f k)::s else if o=="j" then mkIdent k::s else if o=="s" then Syntax.mkStrLit w::s else (if 300≤m then .node .none `Lean.Parser.Tactic.tacticSeq #[.node .none `Lean.Parser.Tactic.tacticSeq1Indented #[.node .none `null b]] else .node .none ((if m<100 then `Lean.Parser.Tactic else if m<200 then `Lean.Parser.Term else .anonymous)++k) b)::d)
|_,s=>s
open Lean in
def zdc (f:Name→Name) (s:String):Syntax:=(zdg f (s.splitOn " ") []).headD .missing
def zcz (q:String):List Char→List String→String
|c::cs,n::ns=>" a ; a case "++q++n++" 201 Lean.binderIdent 200 null 2 caseArg 201 null a => a walk_at s _"++c.toString++" 202 PyProof.Rows.tacticWalk_at_ 301 . 4 case"++zcz q cs ns
|_,_=>""
def zhz:List Char→List String→String
|_::cs,n::ns=>" a ? h "++n++" 102 syntheticHole"++zhz cs ns
|_,_=>""
def zae (e:String):String:=
let p:=e.splitOn "/"
let F:=" i "++p.getD 0 ""
let n:=p.getD 1 ""
let cs:=(p.getD 2 "").toList
let ns:=if p.length==4 then (p.getD 3 "").splitOn "," else ["h0","h1","h2"]
"a | "++(if p.length==4 then "a apply"++F++" 2 apply" else if p.length==2 then "a exact"++F++" 2 exact" else "a refine"++F++(if n=="" then "" else " a ( j "++n++" a := a ? h vv 102 syntheticHole a ) 105 namedArgument")++" a ? a _ 102 syntheticHole"++zhz cs ns++" "++toString ((if n=="" then 201 else 202)+cs.length)++" null 102 app 2 refine")++zcz (if p.length==4 then "j " else "h ") cs ns++" "++toString (301+2*cs.length)++" . 202 group "
def zas:List String→String
|e::r=>zae e++zas r
|[]=>""
def zaz (s:String):String:="a with_reducible a first "++zas (s.splitOn " ")++toString (200+(s.splitOn " ").length)++" null 2 first 301 . 2 withReducible"
def zrp (x:String):String:="a repeat a walk_at s "++x++" 202 PyProof.Rows.tacticWalk_at_ 301 . 2 tacticRepeat_"
def zds (n x:String):String:="a dsimp 200 null 1 optConfig 200 null a only 201 null a [ 200 null 200 null "++x.replace "+" " 3 simpLemma a , 200 null 200 null "++" 3 simpLemma "++n++" null a ] 203 null 200 null 6 dsimp"
def ztx (s:String):String:=
if s=="a" then zaz "Ss.consK// Ss.nil// S.assignK//r S.augK/v/ms S.retK// S.retn// S.brk// S.cont// S.pass// S.assertK// S.exprK//r S.tryK// S.twoK//r E.locK/v/ms E.int// E.str// E.bool// E.none// E.tupKK// tk//b E.cmpK//r T.cmpK//r T.notK// T.andK// T.orK// T.and0// T.or0// T.chainK//r E.notK// E.negK// kneg// E.binK// E.sliceK// E.subK//r E.callBK/id/mr E.callTK/T/mr E.callK/f/mkr Es.consK//r Es.nil// E.methK//cpr/hm,cf,hs km_str// pk0// pk1// pk2// pk3// pk4// pk5// pk6// pk7// pk8// unp_tup// pa_consK// pa_nil// sub_strA/n/aa exS// part_someK// part_none// pk_int// pk_none// sli_strA//a sli_lstA//a CB.ord// len_strA//a CB.sw// T.ofK//r CmpM.by//q/h BinM.by//c/h TrueM.by//c/h" else if s=="b" then "a first a | a with_reducible a refine i E.loc a ( j v a := a ? h vv 102 syntheticHole a ) 105 namedArgument a ? h hm 102 syntheticHole a ? h hv 102 syntheticHole a ? a _ 102 syntheticHole 204 null 102 app 2 refine 301 . 2 withReducible a ; a case h hm 201 Lean.binderIdent 200 null 2 caseArg 201 null a => a walk_at s d 202 PyProof.Rows.tacticWalk_at_ 301 . 4 case a ; a case h hv 201 Lean.binderIdent 200 null 2 caseArg 201 null a => a first a | a assumption 1 assumption 301 . 202 group a | a exact i vne j rfl 201 null 102 app 2 exact 301 . 202 group 202 null 2 first 301 . 4 case 305 . 202 group a | a walk_at s a 202 PyProof.Rows.tacticWalk_at_ 301 . 202 group 202 null 2 first" else if s=="A" then zrp "a" else if s=="B" then zrp "b" else if s=="d"||s=="_m" then "a with_reducible "++zrp "v"++" 301 . 2 withReducible" else if s=="v" then zaz "me0/ me1/ me2/ me3/ me4/ me5/ me6/ me7/ me8//" else if s=="_r" then "a with_unfolding_all a intros 200 null 2 intros a ; a rfl 1 tacticRfl 303 . 2 withUnfoldingAll" else if s=="f"||s=="_s" then "a first a | a with_unfolding_all a rfl 1 tacticRfl 301 . 2 withUnfoldingAll 301 . 202 group a | a exact i V.ne_set a by a assumption 1 assumption 301 . 102 byTactic 201 null 102 app 2 exact 301 . 202 group 202 null 2 first" else if s=="i"||s=="_k" then "a exact i KF.keepE i GG.hK a by a assumption 1 assumption 301 . 102 byTactic 201 null 102 app a by a kernel_rfl 201 tacticKernel_rfl 301 . 102 byTactic 202 null 102 app 2 exact" else if s=="_a" then "a assumption 1 assumption" else if s=="_c" then "a constructor 1 constructor" else if s=="_q" then "a constructor 1 constructor a <;> a first a | a constructor 1 constructor 301 . 202 group a | a with_unfolding_all a rfl 1 tacticRfl 301 . 2 withUnfoldingAll 301 . 202 group 202 null 2 first 3 «tactic_<;>_»" else if s=="_p" then "a with_unfolding_all a exact a fun a _ 101 hole 201 null 200 null a => a ⟨ a _ 101 hole a , j rfl 203 null a ⟩ 103 anonymousCtor 104 basicFun 102 fun 2 exact 301 . 2 withUnfoldingAll" else if s.startsWith "_" then "a with_unfolding_all a exact j Nat.le_of_ble_eq_true j rfl 201 null 102 app 2 exact 301 . 2 withUnfoldingAll" else if s=="l" then "a first a | a refine i kt a fun h h_ 201 null 200 null a => a ? a _ 102 syntheticHole 104 basicFun 102 fun a fun h h_ 201 null 200 null a => a ? a _ 102 syntheticHole 104 basicFun 102 fun 202 null 102 app 2 refine 301 . 202 group a | a split 200 null 200 null 3 split 301 . 202 group 202 null 2 first" else if s=="m" then "a first a | a decide 200 null 1 optConfig 2 decide 301 . 202 group a | a assumption 1 assumption 301 . 202 group a | a omega 200 null 1 optConfig 2 omega 301 . 202 group 203 null 2 first" else if s=="g" then zaz "pk0// pk1// pk2// pk3// pk4// pk5// pk6// pk7// pk8//" else if s=="j" then zrp "u" else if s=="u" then zaz "rk_nil// rk_here// rk_skip//" else if s=="k" then zds "239" "i IsB+i IsT+i IsV+i KV+i KT+i KB+i KPut+i KAsg+i KRet+i KTof+i KTc2+i KCmp2+i KIf+i KIfe+i KSs+i KDef+i KO+i KPart+i KSl3+i KNot" else if s=="n" then zds "213" "i startLoc+j List.zip+j List.zipWith+j List.map+j List.append_nil+j List.nil_append+j List.cons_append" else ""
open Lean in
local macro_rules | `(tactic| walk_at $s:str) => do
 let r ← read
 let t:=ztx s.getString
 if t=="" then Macro.throwUnsupported
 return zdc (fun n=>addMacroScope r.quotContext n r.currMacroScope) t
open Lean in
def irfa:Syntax:=zdc id "a intros 200 null 2 intros a ; a rfl 1 tacticRfl 303 ."
open Lean in
def irfc:Syntax:=zdc id "a intro a _ 101 hole 201 null 2 intro a ; a exact a ⟨ a _ 101 hole a , j rfl 203 null a ⟩ 103 anonymousCtor 2 exact 303 ."
open Lean in
def irfd:Syntax:=zdc id "a with_unfolding_all a rfl 1 tacticRfl 301 . 2 withUnfoldingAll 301 ."
theorem nf{b:Bool}(h:b=false):¬b=true:=h▸Bool.false_ne_true
theorem bn:¬false=true:=Bool.false_ne_true
theorem fm{α:Type}{p:α→Prop}{a:α}{l:List α}(h:p a∧∀x∈l,p x):∀x∈a::l,p x:=List.forall_mem_cons.mpr h
section
set_option genSizeOf false
set_option genInjectivity false
set_option genCtorIdx false
namespace Ar
noncomputable def dot:List Nat→List Nat→Nat
 | a::p,x::c=>a * x+dot p c
 | _,_=>0
noncomputable def add:List Nat→List Nat→List Nat
 | a::p,b::q=>(a+b)::add p q
 | [],q=>q
 | p,[]=>p
noncomputable def mul (k:Nat):List Nat→List Nat
 | a::p=>(k * a)::mul k p
 | []=>[]
noncomputable def sb:List Nat→List Nat→List Nat
 | a::p,b::q=>(a - b)::sb p q
 | [],_=>[]
 | p,[]=>p
noncomputable def get:List Nat→Nat→Nat
 | x::_,0=>x
 | _::c,n+1=>get c n
 | [],_=>0
noncomputable def unit:Nat→List Nat
 | 0=>[1]
 | n+1=>0::unit n
theorem dot_add:(p q c:List Nat)→dot (add p q) c=dot p c+dot q c
 | a::p,b::q,x::c=>by
  show (a+b) * x+dot (add p q) c=(a * x+dot p c)+(b * x+dot q c)
  rw [dot_add p q c,Nat.add_mul,Nat.add_add_add_comm]
 | a::p,b::q,[]=>rfl
 | [],q,c=>(Nat.zero_add _).symm
 | a::p,[],c=>rfl
theorem dot_mul (k:Nat):(p c:List Nat)→dot (mul k p) c=k * dot p c
 | a::p,x::c=>by
  show (k * a) * x+dot (mul k p) c=k * (a * x+dot p c)
  rw [dot_mul k p c,Nat.mul_add,Nat.mul_assoc]
 | a::p,[]=>rfl
 | [],c=>rfl
theorem sub_both (a b:Nat):a+(b - a)=b+(a - b):=(Nat.le_total a b).elim (fun h=>by rw [Nat.add_sub_cancel' h,Nat.sub_eq_zero_of_le h,Nat.add_zero]) (fun h=>by rw [Nat.add_sub_cancel' h,Nat.sub_eq_zero_of_le h,Nat.add_zero])
theorem dot_sb:(p q c:List Nat)→dot p c+dot (sb q p) c=dot q c+dot (sb p q) c
 | a::p,b::q,x::c=>by
  show (a * x+dot p c)+((b - a) * x+dot (sb q p) c)=(b * x+dot q c)+((a - b) * x+dot (sb p q) c)
  rw [Nat.add_add_add_comm,Nat.add_add_add_comm (b * x),dot_sb p q c,← Nat.add_mul,← Nat.add_mul,sub_both]
 | a::p,b::q,[]=>rfl
 | [],[],c=>rfl
 | [],b::q,c=>Nat.zero_add _
 | a::p,[],c=>(Nat.zero_add _).symm
theorem dot_unit:(i:Nat)→(c:List Nat)→dot (unit i) c=get c i
 | 0,x::c=>by show 1 * x+0=x; rw [Nat.one_mul]; rfl
 | n+1,x::c=>by show 0 * x+dot (unit n) c=get c n; rw [Nat.zero_mul,Nat.zero_add,dot_unit n c]
 | 0,[]=>rfl
 | n+1,[]=>rfl
noncomputable abbrev C:=List Nat × List Nat
noncomputable def ok (c:List Nat) (x:C):Prop:=dot x.1 c≤dot x.2 c
noncomputable def nrm (x:C):C:=(sb x.1 x.2,sb x.2 x.1)
theorem ok_nrm {c:List Nat} {x:C} (h:ok c x):ok c (nrm x):=by
 have e:=dot_sb x.1 x.2 c
 have h:dot x.1 c≤dot x.2 c:=h
 show dot (sb x.1 x.2) c≤dot (sb x.2 x.1) c
 exact Nat.le_of_add_le_add_left (a:=dot x.2 c) (Nat.le_trans (Nat.le_of_eq e.symm) (Nat.add_le_add_right h _))
noncomputable def comb (j:Nat) (l u:C):C:=nrm (add (mul (get u.1 j) l.1) (mul (get l.2 j) u.1),add (mul (get u.1 j) l.2) (mul (get l.2 j) u.2))
theorem ok_comb {c:List Nat} (j:Nat) {l u:C} (h:ok c l) (k:ok c u):ok c (comb j l u):=by
 refine ok_nrm ?_
 show dot (add _ _) c≤dot (add _ _) c
 rw [dot_add,dot_add,dot_mul,dot_mul,dot_mul,dot_mul]
 exact Nat.add_le_add (Nat.mul_le_mul_left _ h) (Nat.mul_le_mul_left _ k)
noncomputable def elim (j:Nat) (cs:List C):List C :=
 cs.filter (fun x=>(get x.1 j).beq 0&&(get x.2 j).beq 0)++(cs.filter (fun x=>Nat.blt 0 (get x.2 j))).flatMap fun l=>(cs.filter (fun x=>Nat.blt 0 (get x.1 j))).map (comb j l)
noncomputable def OK (c:List Nat) (cs:List C):Prop:=∀ x∈cs,ok c x
theorem ok_elim {c:List Nat} (j:Nat) {cs:List C} (h:OK c cs):OK c (elim j cs):=by
 intro x hx
 rcases List.mem_append.mp hx with hx | hx
 ·exact h x (List.mem_filter.mp hx).1
 ·obtain ⟨l,hl,hx⟩:=List.mem_flatMap.mp hx
  obtain ⟨u,hu,rfl⟩:=List.mem_map.mp hx
  exact ok_comb j (h l (List.mem_filter.mp hl).1) (h u (List.mem_filter.mp hu).1)
noncomputable def zeros:List Nat→Bool
 | a::p=>a.beq 0&&zeros p
 | []=>true
theorem dot_zeros:{p:List Nat}→(c:List Nat)→zeros p=true→dot p c=0
 | a::p,x::c,h=>by
  have h:=Bool.and_eq_true_iff.mp h
  show a * x+dot p c=0
  rw [Nat.eq_of_beq_eq_true h.1,Nat.zero_mul,dot_zeros c h.2]
 | [],c,_=>rfl
 | a::p,[],_=>rfl
noncomputable def bad (x:C):Bool:=Nat.blt 0 (get x.1 0)&&zeros x.2
theorem not_bad {vs:List Nat} {x:C} (h:ok (1::vs) x):bad x=true→False:=by
 intro hb
 have hb:=Bool.and_eq_true_iff.mp hb
 have h:dot x.1 (1::vs)≤dot x.2 (1::vs):=h
 rw [dot_zeros _ hb.2] at h
 obtain ⟨p,q⟩:=x
 cases p with
 | nil=>exact nomatch hb.1
 | cons a p=>exact Nat.not_lt_zero 0 (Nat.lt_of_lt_of_le (Nat.lt_of_lt_of_le (Nat.le_of_ble_eq_true hb.1) (Nat.le_trans (Nat.le_of_eq (Nat.mul_one a).symm) (Nat.le_add_right _ _))) h)
noncomputable def fm:Nat→List C→Bool
 | 0,cs=>cs.any bad
 | n+1,cs=>cs.any bad||fm n (elim (n+1) cs)
theorem fm_ok {vs:List Nat}:(n:Nat)→{cs:List C}→OK (1::vs) cs→fm n cs=true→False
 | 0,cs,h,e=>by
  obtain ⟨x,hx,hb⟩:=List.any_eq_true.mp e
  exact not_bad (h x hx) hb
 | n+1,cs,h,e=>by
  rcases Bool.or_eq_true_iff.mp e with e | e
  ·obtain ⟨x,hx,hb⟩:=List.any_eq_true.mp e
   exact not_bad (h x hx) hb
  ·exact fm_ok n (ok_elim _ h) e
inductive A where
 | v (i:Nat) | n (k:Nat) | a (x y:A) | s (x y:A) | m (k:Nat) (x:A) | r (x:A) (k:Nat) | i (x y:A)
noncomputable abbrev A.v0:A:=.v 0
noncomputable abbrev A.v1:A:=.v 1
noncomputable abbrev A.v2:A:=.v 2
noncomputable abbrev A.v3:A:=.v 3
noncomputable abbrev A.v4:A:=.v 4
noncomputable abbrev A.v5:A:=.v 5
noncomputable abbrev A.v6:A:=.v 6
noncomputable abbrev A.v7:A:=.v 7
noncomputable abbrev A.v8:A:=.v 8
noncomputable abbrev A.v9:A:=.v 9
noncomputable abbrev A.n0:A:=.n 0
noncomputable abbrev A.n1:A:=.n 1
noncomputable def A.d (vs:List Nat):A→Nat
 | .v j=>get vs j
 | .n k=>k
 | .a x y=>x.d vs+y.d vs
 | .s x y=>x.d vs - y.d vs
 | .m k x=>k * x.d vs
 | .r x k=>x.d vs * k
 | .i x y=>min (x.d vs) (y.d vs)
noncomputable abbrev T:=List C × List Nat × List Nat
noncomputable def le (s t:T):C:=nrm (add s.2.1 t.2.2,add t.2.1 s.2.2)
noncomputable def lt (s t:T):C:=nrm (add [1] (add s.2.1 t.2.2),add t.2.1 s.2.2)
noncomputable def two {α:Type} (xs ys:List T) (g:T→T→List α):List α:=xs.flatMap fun s=>ys.flatMap fun t=>g s t
noncomputable def lin:A→List T
 | .v j=>[([],unit (j+1),[])]
 | .n k=>[([],[k],[])]
 | .a x y=>two (lin x) (lin y) fun s t=>[(s.1++t.1,add s.2.1 t.2.1,add s.2.2 t.2.2)]
 | .s x y=>two (lin x) (lin y) fun s t=>[(le t s::(s.1++t.1),add s.2.1 t.2.2,add s.2.2 t.2.1),(lt s t::(s.1++t.1),[],[])]
 | .m k x=>(lin x).map fun s=>(s.1,mul k s.2.1,mul k s.2.2)
 | .r x k=>(lin x).map fun s=>(s.1,mul k s.2.1,mul k s.2.2)
 | .i x y=>two (lin x) (lin y) fun s t=>[(le s t::(s.1++t.1),s.2.1,s.2.2),(lt t s::(s.1++t.1),t.2.1,t.2.2)]
noncomputable def Is (vs:List Nat) (k:Nat) (t:T):Prop:=OK (1::vs) t.1∧k+dot t.2.2 (1::vs)=dot t.2.1 (1::vs)
noncomputable def Li (vs:List Nat) (k:Nat) (ts:List T):Prop:=∃ t∈ts,Is vs k t
theorem ok_app {c:List Nat} {x y:List C} (h:OK c x) (k:OK c y):OK c (x++y):=fun z hz=>(List.mem_append.mp hz).elim (h z) (k z)
theorem ok_cons {c:List Nat} {x:C} {y:List C} (h:ok c x) (k:OK c y):OK c (x::y):=List.forall_mem_cons.mpr ⟨h,k⟩
theorem ok_nil {c:List Nat}:OK c []:=fun _ h=>nomatch h
theorem is_le {vs:List Nat} {a b:Nat} {s t:T} (h:Is vs a s) (k:Is vs b t) (e:a≤b):ok (1::vs) (le s t):=by
 refine ok_nrm ?_
 have h:=h.2
 have k:=k.2
 show dot (add _ _) _≤dot (add _ _) _
 rw [dot_add,dot_add,← h,← k,Nat.add_right_comm]
 exact Nat.add_le_add_right (Nat.add_le_add_right e _) _
theorem is_lt {vs:List Nat} {a b:Nat} {s t:T} (h:Is vs a s) (k:Is vs b t) (e:a < b):ok (1::vs) (lt s t):=by
 refine ok_nrm ?_
 have h:=h.2
 have k:=k.2
 show dot (add _ _) _≤dot (add _ _) _
 rw [dot_add,dot_add,dot_add,← h,← k,Nat.add_right_comm]
 exact Nat.one_add_le_iff.mpr (Nat.add_lt_add_right (Nat.add_lt_add_right e _) _)
theorem two_ok {α:Type} {P:α→Prop} {vs:List Nat} {a b:Nat} {xs ys:List T} {g:T→T→List α} (h:Li vs a xs) (k:Li vs b ys) (e:∀ s t,Is vs a s→Is vs b t→∃ r∈g s t,P r):∃ r∈two xs ys g,P r:=by
 obtain ⟨s,hs,is⟩:=h
 obtain ⟨t,ht,it⟩:=k
 obtain ⟨r,hr,p⟩:=e s t is it
 exact ⟨r,List.mem_flatMap.mpr ⟨s,hs,List.mem_flatMap.mpr ⟨t,ht,hr⟩⟩,p⟩
theorem lin_ok (vs:List Nat):(x:A)→Li vs (x.d vs) (lin x)
 | .v j=>⟨_,List.mem_singleton.mpr rfl,ok_nil,(dot_unit (j+1) (1::vs)).symm⟩
 | .n k=>⟨_,List.mem_singleton.mpr rfl,ok_nil,(Nat.mul_one k).symm⟩
 | .a x y=>two_ok (lin_ok vs x) (lin_ok vs y) fun s t h k=>⟨_,List.mem_singleton.mpr rfl,ok_app h.1 k.1,by
   have h:=h.2
   have k:=k.2
   show x.d vs+y.d vs+dot (add _ _) _=dot (add _ _) _
   rw [dot_add,dot_add,← h,← k,Nat.add_add_add_comm]⟩
 | .s x y=>two_ok (lin_ok vs x) (lin_ok vs y) fun s t h k=>by
   by_cases e:y.d vs≤x.d vs
   ·refine ⟨_,List.mem_cons_self,ok_cons (is_le k h e) (ok_app h.1 k.1),?_⟩
    have h:=h.2
    have k:=k.2
    show x.d vs - y.d vs+dot (add _ _) _=dot (add _ _) _
    rw [dot_add,dot_add,← h,← k,Nat.add_left_comm (dot s.2.2 _),← Nat.add_assoc,Nat.sub_add_cancel e,Nat.add_assoc]
   ·have e:=Nat.lt_of_not_le e
    exact ⟨_,List.mem_cons_of_mem _ List.mem_cons_self,ok_cons (is_lt h k e) (ok_app h.1 k.1),Nat.sub_eq_zero_of_le (Nat.le_of_lt e)⟩
 | .m k x=>by
   obtain ⟨s,hs,h⟩:=lin_ok vs x
   refine ⟨_,List.mem_map.mpr ⟨s,hs,rfl⟩,h.1,?_⟩
   show k * x.d vs+dot (mul _ _) _=dot (mul _ _) _
   rw [dot_mul,dot_mul,← h.2,Nat.mul_add]
 | .r x k=>by
   obtain ⟨s,hs,h⟩:=lin_ok vs x
   refine ⟨_,List.mem_map.mpr ⟨s,hs,rfl⟩,h.1,?_⟩
   show x.d vs * k+dot (mul _ _) _=dot (mul _ _) _
   rw [dot_mul,dot_mul,← h.2,Nat.mul_add,Nat.mul_comm]
 | .i x y=>two_ok (lin_ok vs x) (lin_ok vs y) fun s t h k=>by
   by_cases e:x.d vs≤y.d vs
   ·exact ⟨_,List.mem_cons_self,ok_cons (is_le h k e) (ok_app h.1 k.1),(congrArg (·+_) (Nat.min_eq_left e)).trans h.2⟩
   ·have e:=Nat.lt_of_not_le e
    exact ⟨_,List.mem_cons_of_mem _ List.mem_cons_self,ok_cons (is_lt k h e) (ok_app h.1 k.1),(congrArg (·+_) (Nat.min_eq_right (Nat.le_of_lt e))).trans k.2⟩
inductive F where
 | le (x y:A) | lt (x y:A) | eq (x y:A) | ile (x y:A) | ilt (x y:A) | ieq (x y:A) | ff | nt (f:F) | an (f g:F) | or (f g:F) | im (f g:F) | iff (f g:F)
noncomputable def F.d (vs:List Nat):F→Prop
 | .le x y=>x.d vs≤y.d vs
 | .lt x y=>x.d vs < y.d vs
 | .eq x y=>x.d vs=y.d vs
 | .ile x y=>(x.d vs:Int)≤(y.d vs:Int)
 | .ilt x y=>(x.d vs:Int) < (y.d vs:Int)
 | .ieq x y=>(x.d vs:Int)=(y.d vs:Int)
 | .ff=>False
 | .nt f=>¬ f.d vs
 | .an f g=>f.d vs∧g.d vs
 | .or f g=>f.d vs∨g.d vs
 | .im f g=>f.d vs→g.d vs
 | .iff f g=>f.d vs ↔ g.d vs
noncomputable def prod (x y:List (List C)):List (List C):=x.flatMap fun a=>y.map fun b=>a++b
noncomputable def cmp (x y:A) (g:T→T→List (List C)):List (List C):=two (lin x) (lin y) fun s t=>(g s t).map fun l=>l++(s.1++t.1)
noncomputable def dnf:F→Bool→List (List C)
 | .le x y,true=>cmp x y fun s t=>[[Ar.le s t]]
 | .le x y,false=>cmp x y fun s t=>[[Ar.lt t s]]
 | .lt x y,true=>cmp x y fun s t=>[[Ar.lt s t]]
 | .lt x y,false=>cmp x y fun s t=>[[Ar.le t s]]
 | .eq x y,true=>cmp x y fun s t=>[[Ar.le s t,Ar.le t s]]
 | .eq x y,false=>cmp x y fun s t=>[[Ar.lt s t],[Ar.lt t s]]
 | .ile x y,true=>cmp x y fun s t=>[[Ar.le s t]]
 | .ile x y,false=>cmp x y fun s t=>[[Ar.lt t s]]
 | .ilt x y,true=>cmp x y fun s t=>[[Ar.lt s t]]
 | .ilt x y,false=>cmp x y fun s t=>[[Ar.le t s]]
 | .ieq x y,true=>cmp x y fun s t=>[[Ar.le s t,Ar.le t s]]
 | .ieq x y,false=>cmp x y fun s t=>[[Ar.lt s t],[Ar.lt t s]]
 | .ff,true=>[]
 | .ff,false=>[[]]
 | .nt f,b=>dnf f (!b)
 | .an f g,true=>prod (dnf f true) (dnf g true)
 | .an f g,false=>dnf f false++dnf g false
 | .or f g,true=>dnf f true++dnf g true
 | .or f g,false=>prod (dnf f false) (dnf g false)
 | .im f g,true=>dnf f false++dnf g true
 | .im f g,false=>prod (dnf f true) (dnf g false)
 | .iff f g,b=>prod (dnf f true) (dnf g b)++prod (dnf f false) (dnf g (!b))
noncomputable def Ex (vs:List Nat) (ls:List (List C)):Prop:=∃ l∈ls,OK (1::vs) l
theorem ex_l {vs:List Nat} {x y:List (List C)} (h:Ex vs x):Ex vs (x++y):=h.elim fun l h=>⟨l,List.mem_append_left _ h.1,h.2⟩
theorem ex_r {vs:List Nat} {x y:List (List C)} (h:Ex vs y):Ex vs (x++y):=h.elim fun l h=>⟨l,Qw _ h.1,h.2⟩
theorem ex_p {vs:List Nat} {x y:List (List C)} (h:Ex vs x) (k:Ex vs y):Ex vs (prod x y):=h.elim fun l h=>k.elim fun m k=>⟨l++m,List.mem_flatMap.mpr ⟨l,h.1,List.mem_map.mpr ⟨m,k.1,rfl⟩⟩,ok_app h.2 k.2⟩
theorem cmp_ok {vs:List Nat} {x y:A} {g:T→T→List (List C)} (e:∀ s t,Is vs (x.d vs) s→Is vs (y.d vs) t→Ex vs (g s t)):Ex vs (cmp x y g) :=
 two_ok (lin_ok vs x) (lin_ok vs y) fun s t h k=>(e s t h k).elim fun l hl=>⟨_,List.mem_map.mpr ⟨l,hl.1,rfl⟩,ok_app hl.2 (ok_app h.1 k.1)⟩
theorem ex_1 {vs:List Nat} {x:C} {ls:List (List C)} (h:ok (1::vs) x):Ex vs ([x]::ls):=⟨_,List.mem_cons_self,ok_cons h ok_nil⟩
theorem ex_2 {vs:List Nat} {l:List C} {ls:List (List C)} (h:Ex vs ls):Ex vs (l::ls):=h.elim fun m h=>⟨m,List.mem_cons_of_mem _ h.1,h.2⟩
theorem dnf_ok (vs:List Nat):(f:F)→(f.d vs→Ex vs (dnf f true))∧(¬ f.d vs→Ex vs (dnf f false))
 | .le x y=>⟨fun e=>cmp_ok fun s t h k=>ex_1 (is_le h k e),fun e=>cmp_ok fun s t h k=>ex_1 (is_lt k h (Nat.lt_of_not_le e))⟩
 | .lt x y=>⟨fun e=>cmp_ok fun s t h k=>ex_1 (is_lt h k e),fun e=>cmp_ok fun s t h k=>ex_1 (is_le k h (Nat.le_of_not_lt e))⟩
 | .eq x y=>⟨fun e=>cmp_ok fun s t h k=>⟨_,List.mem_cons_self,ok_cons (is_le h k (Nat.le_of_eq e)) (ok_cons (is_le k h (Nat.le_of_eq e.symm)) ok_nil)⟩,
   fun e=>cmp_ok fun s t h k=>(Nat.lt_or_gt_of_ne e).elim (fun e=>ex_1 (is_lt h k e)) (fun e=>ex_2 (ex_1 (is_lt k h e)))⟩
 | .ile x y=>⟨fun e=>cmp_ok fun s t h k=>ex_1 (is_le h k (Int.ofNat_le.mp e)),fun e=>cmp_ok fun s t h k=>ex_1 (is_lt k h (Nat.lt_of_not_le fun x=>e (Int.ofNat_le.mpr x)))⟩
 | .ilt x y=>⟨fun e=>cmp_ok fun s t h k=>ex_1 (is_lt h k (Int.ofNat_lt.mp e)),fun e=>cmp_ok fun s t h k=>ex_1 (is_le k h (Nat.le_of_not_lt fun x=>e (Int.ofNat_lt.mpr x)))⟩
 | .ieq x y=>⟨fun e=>cmp_ok fun s t h k=>⟨_,List.mem_cons_self,ok_cons (is_le h k (Nat.le_of_eq (Int.ofNat_inj.mp e))) (ok_cons (is_le k h (Nat.le_of_eq (Int.ofNat_inj.mp e.symm))) ok_nil)⟩,
   fun e=>cmp_ok fun s t h k=>(Nat.lt_or_gt_of_ne fun x=>e (congrArg _ x)).elim (fun e=>ex_1 (is_lt h k e)) (fun e=>ex_2 (ex_1 (is_lt k h e)))⟩
 | .ff=>⟨fun e=>e.elim,fun _=>⟨[],List.mem_cons_self,ok_nil⟩⟩
 | .nt f=>⟨(dnf_ok vs f).2,fun e=>(dnf_ok vs f).1 (Classical.not_not.mp e)⟩
 | .an f g=>⟨fun e=>ex_p ((dnf_ok vs f).1 e.1) ((dnf_ok vs g).1 e.2),fun e=>(Classical.not_and_iff_not_or_not.mp e).elim (fun e=>ex_l ((dnf_ok vs f).2 e)) (fun e=>ex_r ((dnf_ok vs g).2 e))⟩
 | .or f g=>⟨fun e=>e.elim (fun e=>ex_l ((dnf_ok vs f).1 e)) (fun e=>ex_r ((dnf_ok vs g).1 e)),fun e=>ex_p ((dnf_ok vs f).2 fun x=>e (.inl x)) ((dnf_ok vs g).2 fun x=>e (.inr x))⟩
 | .im f g=>⟨fun e=>(Classical.em (f.d vs)).elim (fun x=>ex_r ((dnf_ok vs g).1 (e x))) (fun x=>ex_l ((dnf_ok vs f).2 x)),fun e=>ex_p ((dnf_ok vs f).1 (Classical.byContradiction fun x=>e fun y=>(x y).elim)) ((dnf_ok vs g).2 fun x=>e fun _=>x)⟩
 | .iff f g=>⟨fun e=>(Classical.em (f.d vs)).elim (fun x=>ex_l (ex_p ((dnf_ok vs f).1 x) ((dnf_ok vs g).1 (e.mp x)))) (fun x=>ex_r (ex_p ((dnf_ok vs f).2 x) ((dnf_ok vs g).2 fun y=>x (e.mpr y)))),
   fun e=>(Classical.em (f.d vs)).elim (fun x=>ex_l (ex_p ((dnf_ok vs f).1 x) ((dnf_ok vs g).2 fun y=>e ⟨fun _=>y,fun _=>x⟩))) (fun x=>ex_r (ex_p ((dnf_ok vs f).2 x) ((dnf_ok vs g).1 (Classical.byContradiction fun y=>e ⟨fun z=>(x z).elim,fun z=>(y z).elim⟩))))⟩
noncomputable def nn:Nat→List C
 | 0=>[]
 | n+1=>([],unit (n+1))::nn n
theorem nn_ok {c:List Nat}:(n:Nat)→OK c (nn n)
 | 0=>ok_nil
 | n+1=>ok_cons (Nat.zero_le _) (nn_ok n)
noncomputable def chk (n:Nat) (f:F):Bool:=(dnf f false).all fun l=>fm n (nn n++l)
end Ar
theorem ar (n:Nat) (vs:List Nat) (f:Ar.F) (h:Ar.chk n f=true):f.d vs :=
 Classical.byContradiction fun e=>((Ar.dnf_ok vs f).2 e).elim fun l hl=>Ar.fm_ok n (Ar.ok_app (Ar.nn_ok n) hl.2) (Qr h l hl.1)
theorem ar1{i:Nat}(x:Ar.F)(y:Ar.chk 1 x=true):x.d [i]:=ar 1 _ x y
theorem ar2{i j:Nat}(x:Ar.F)(y:Ar.chk 2 x=true):x.d [i,j]:=ar 2 _ x y
theorem ar3{i j k:Nat}(x:Ar.F)(y:Ar.chk 3 x=true):x.d [i,j,k]:=ar 3 _ x y
theorem ar4{i j k l:Nat}(x:Ar.F)(y:Ar.chk 4 x=true):x.d [i,j,k,l]:=ar 4 _ x y
theorem ar5{i j k l m:Nat}(x:Ar.F)(y:Ar.chk 5 x=true):x.d [i,j,k,l,m]:=ar 5 _ x y
theorem ar6{i j k l m n:Nat}(x:Ar.F)(y:Ar.chk 6 x=true):x.d [i,j,k,l,m,n]:=ar 6 _ x y
theorem ar7{i j k l m n o:Nat}(x:Ar.F)(y:Ar.chk 7 x=true):x.d [i,j,k,l,m,n,o]:=ar 7 _ x y
theorem ar8{i j k l m n o p:Nat}(x:Ar.F)(y:Ar.chk 8 x=true):x.d [i,j,k,l,m,n,o,p]:=ar 8 _ x y
theorem R0{a b:Nat}:Ar.F.d [a,b] (.eq (.a (.a .v0 .n1) .v1) (.a .v0 (.a .v1 .n1))):=ar 2 _ _ rfl
theorem R1{a:Nat}:Ar.F.d [a] (.im (.le .v0 (.n 1000)) (.le .v0 (.n 1000000))):=ar 1 _ _ rfl
theorem R2{a b c:Nat}:Ar.F.d [a,b,c] (.im (.eq (.s (.a .v0 .n1) .v1) (.a .v2 .n1)) (.eq (.s (.a .v0 .n1) (.a .v1 .n1)) .v2)):=ar 3 _ _ rfl
theorem R3{a b:Nat}:Ar.F.d [a,b] (.im (.le (.a .v0 .n1) .v1) (.le .v0 .v1)):=ar 2 _ _ rfl
theorem R4{a b c:Nat}:Ar.F.d [a,b,c] (.im (.le (.a .v0 .v2) .v1) (.le .v0 .v1)):=ar 3 _ _ rfl
theorem R5{a b c:Nat}:Ar.F.d [a,b,c] (.im (.le .v0 .v2) (.le (.s .v0 .v1) .v2)):=ar 3 _ _ rfl
theorem R6{a:Nat}:Ar.F.d [a] (.im (.le (.n 6) .v0) (.lt .n1 (.a .v0 .n1))):=ar 1 _ _ rfl
theorem R7{a b:Nat}:Ar.F.d [a,b] (.im (.le (.a .v0 .n1) (.a .v1 .n1)) (.le .v0 (.a .v1 .n1))):=ar 2 _ _ rfl
theorem R8{a b:Nat}:Ar.F.d [a,b] (.im (.le (.a .v0 .n1) (.a .v1 .n1)) (.le .v0 .v1)):=ar 2 _ _ rfl
theorem R9{a:Nat}:Ar.F.d [a] (.im (.le .v0 (.n 999999)) (.le .v0 (.n 1000000))):=ar 1 _ _ rfl
theorem R10{a b:Nat}:Ar.F.d [a,b] (.le .v0 (.a .v0 .v1)):=ar 2 _ _ rfl
theorem R11{a:Nat}:Ar.F.d [a] (.le .v0 (.a .v0 .n1)):=ar 1 _ _ rfl
theorem R12{a b:Nat}:Ar.F.d [a,b] (.im (.le (.a .v1 .n1) .v0) (.eq .v0 (.a (.s .v0 .n1) .n1))):=ar 2 _ _ rfl
theorem R13{a:Nat}:Ar.F.d [a] (.im (.lt .n0 .v0) (.ilt .n0 .v0)):=ar 1 _ _ rfl
theorem R14{a:Nat}:Ar.F.d [a] (.im (.le .v0 (.n 114)) (.le .v0 (.n 1000000))):=ar 1 _ _ rfl
theorem R15{a b:Nat}:Ar.F.d [a,b] (.im (.lt .v0 .v1) (.im (.le .v1 .v0) .ff)):=ar 2 _ _ rfl
theorem R16{a b c:Nat}:Ar.F.d [a,b,c] (.im (.le (.a (.a .v2 .v0) .n1) (.a .v1 .n1)) (.le .v0 .v1)):=ar 3 _ _ rfl
theorem R17{a b c:Nat}:Ar.F.d [a,b,c] (.im (.le (.a .v0 .v2) .v1) (.im (.le .n1 .v2) (.lt .v0 .v1))):=ar 3 _ _ rfl
theorem R18{a b c:Nat}:Ar.F.d [a,b,c] (.im (.le (.a (.a .v0 .n1) .v2) .v1) (.le (.a .v0 .n1) .v1)):=ar 3 _ _ rfl
theorem R19{a b:Nat}:Ar.F.d [a,b] (.im (.le (.a .n1 .v0) (.a .v1 .n1)) (.le .v0 .v1)):=ar 2 _ _ rfl
theorem R20{a:Nat}:Ar.F.d [a] (.im (.or (.an (.le (.n 48) .v0) (.le .v0 (.n 57))) (.or (.an (.le (.n 97) .v0) (.le .v0 (.n 102))) (.an (.le (.n 65) .v0) (.le .v0 (.n 70))))) (.le (.n 33) .v0)):=ar 1 _ _ rfl
theorem R21{a:Nat}:Ar.F.d [a] (.im (.le .v0 (.n 1000000)) (.le .v0 (.n 16777216))):=ar 1 _ _ rfl
theorem R22{a b:Nat}:Ar.F.d [a,b] (.im (.lt .v0 .v1) (.im (.le .v1 (.n 1000000)) (.ilt .v0 (.n 9223372036854775808)))):=ar 2 _ _ rfl
theorem R23{a:Nat}:Ar.F.d [a] (.im (.le (.n 128) .v0) (.an (.an (.an (.an (.im (.le (.n 65) .v0) (.lt (.n 90) .v0)) (.im (.le (.n 97) .v0) (.lt (.n 122) .v0))) (.im (.le (.n 48) .v0) (.lt (.n 57) .v0))) (.nt (.eq .v0 (.n 95)))) (.nt (.eq .v0 (.n 45))))):=ar 1 _ _ rfl
theorem R24{a b c:Nat}:Ar.F.d [a,b,c] (.im (.eq (.i .v1 (.s .v2 .v0)) .v1) (.im (.lt .n0 .v1) (.le (.a .v0 .v1) .v2))):=ar 3 _ _ rfl
theorem R25{a b:Nat}:Ar.F.d [a,b] (.im (.le .v0 (.i (.n 6) .v1)) (.le .v0 (.n 6))):=ar 2 _ _ rfl
theorem R26{a b:Nat}:Ar.F.d [a,b] (.im (.eq (.i .v0 .v1) .v0) (.le .v0 .v1)):=ar 2 _ _ rfl
theorem R27{a b c:Nat}:Ar.F.d [a,b,c] (.eq (.a .v0 (.a (.a .v1 .v2) .n1)) (.a (.a (.a .v0 .n1) .v2) .v1)):=ar 3 _ _ rfl
theorem R28{a b c:Nat}:Ar.F.d [a,b,c] (.im (.lt .v1 .v0) (.lt (.s .v0 (.a (.a .v1 .n1) .v2)) (.s .v0 .v1))):=ar 3 _ _ rfl
theorem R29{a b:Nat}:Ar.F.d [a,b] (.im (.le .v0 .v1) (.le (.s .v0 .n1) .v1)):=ar 2 _ _ rfl
theorem R30{a b:Nat}:Ar.F.d [a,b] (.im (.lt .v1 .v0) (.lt (.s .v0 (.a .v1 (.n 2))) (.s .v0 .v1))):=ar 2 _ _ rfl
theorem R31{a b:Nat}:Ar.F.d [a,b] (.im (.eq (.a .v0 .v1) .n0) (.im (.lt .n0 .v1) .ff)):=ar 2 _ _ rfl
theorem R32{a b c:Nat}:Ar.F.d [a,b,c] (.im (.lt .v0 (.i (.a .v2 (.n 6)) .v1)) (.lt .v0 .v1)):=ar 3 _ _ rfl
theorem R33{a b:Nat}:Ar.F.d [a,b] (.im (.le (.a .v1 .v0) (.n 6)) (.ilt .v0 (.n 1000))):=ar 2 _ _ rfl
theorem R34{a b c:Nat}:Ar.F.d [a,b,c] (.eq (.a (.a .v0 .v1) .v2) (.a .v0 (.a .v1 .v2))):=ar 3 _ _ rfl
theorem R35{a b c d:Nat}:Ar.F.d [a,b,c,d] (.im (.eq (.s .v2 .v0) .v3) (.im (.le .v1 .v3) (.im (.le .v0 .v2) (.le (.a .v0 .v1) .v2)))):=ar 4 _ _ rfl
theorem R36{a b c d e:Nat}:Ar.F.d [a,b,c,d,e] (.im (.eq (.s .v3 .v0) .v4) (.im (.le .v2 (.s .v4 .v1)) (.im (.le .v0 .v3) (.im (.le .v1 .v4) (.le (.a (.a .v0 .v1) .v2) .v3))))):=ar 5 _ _ rfl
theorem R37{a:Nat}:Ar.F.d [a] (.im (.le (.a .n0 .n1) .v0) (.an (.le .n1 (.n 2)) (.le (.n 2) (.a .v0 .n1)))):=ar 1 _ _ rfl
theorem R38{a b c d:Nat}:Ar.F.d [a,b,c,d] (.im (.an (.le .n1 .v1) (.le .v1 (.a .v3 .n1))) (.im (.eq (.s .v2 .v0) (.a .v3 .n1)) (.le (.a .v0 .v1) .v2))):=ar 4 _ _ rfl
theorem R39{a b:Nat}:Ar.F.d [a,b] (.le (.m 2 .v0) (.m 2 (.a .v0 .v1))):=ar 2 _ _ rfl
theorem R40{a b c:Nat}:Ar.F.d [a,b,c] (.im (.lt (.a .v0 .v2) .v1) (.lt .v0 .v1)):=ar 3 _ _ rfl
theorem R41{a b:Nat}:Ar.F.d [a,b] (.im (.le .v1 (.n 100000)) (.im (.le .v0 .v1) (.le (.m 2 .v0) (.n 999998)))):=ar 2 _ _ rfl
theorem R42{a b c:Nat}:Ar.F.d [a,b,c] (.im (.le (.a .v1 .v2) .v0) (.im (.lt .v1 (.a .v1 .v2)) (.lt (.s .v0 (.a .v1 .v2)) (.s .v0 .v1)))):=ar 3 _ _ rfl
theorem R43{a:Nat}:Ar.F.d [a] (.im (.le .v0 (.n 4000)) (.le .v0 (.n 4299))):=ar 1 _ _ rfl
theorem R44{a b:Nat}:Ar.F.d [a,b] (.lt (.s .v0 (.s .v1 .n1)) (.a .v0 .n1)):=ar 2 _ _ rfl
theorem R45{a b:Nat}:Ar.F.d [a,b] (.im (.eq (.s (.a .v0 .n1) .v1) .n0) (.eq (.s .v0 .v1) .n0)):=ar 2 _ _ rfl
theorem R46{a b:Nat}:Ar.F.d [a,b] (.im (.eq (.s (.a .v1 .n1) .v1) (.a .v0 .n1)) (.eq .v0 .n0)):=ar 2 _ _ rfl
theorem R47{a b c d:Nat}:Ar.F.d [a,b,c,d] (.im (.eq (.s (.a .v2 .n1) .v0) (.a .v3 .n1)) (.im (.le .v2 .v1) (.im (.nt (.eq .v0 .v2)) (.lt .v0 .v1)))):=ar 4 _ _ rfl
theorem R48{a b c:Nat}:Ar.F.d [a,b,c] (.im (.eq (.s (.a .v0 .n1) .v1) (.a .v2 .n1)) (.im (.nt (.eq .v1 .v0)) (.eq (.s .v0 .v1) (.a (.s .v0 (.a .v1 .n1)) .n1)))):=ar 3 _ _ rfl
theorem R49{a b c:Nat}:Ar.F.d [a,b,c] (.im (.eq (.s (.a .v1 .n1) .v0) (.a .v2 .n1)) (.im (.nt (.eq .v0 .v1)) (.le (.a .v0 .n1) .v1))):=ar 3 _ _ rfl
theorem R50{a b:Nat}:Ar.F.d [a,b] (.eq (.s (.a .v0 .v1) .v0) .v1):=ar 2 _ _ rfl
theorem R51{a b:Nat}:Ar.F.d [a,b] (.eq (.a (.a .v0 .v1) .n1) (.a .v0 (.a .v1 .n1))):=ar 2 _ _ rfl
theorem R52{a b:Nat}:Ar.F.d [a,b] (.eq (.a .v0 .v1) (.a .v0 .v1)):=ar 2 _ _ rfl
theorem R53{a b c:Nat}:Ar.F.d [a,b,c] (.im (.eq (.s .v1 .v2) (.a .v0 .n1)) (.im (.nt (.lt (.a .v2 .n1) .v1)) (.eq .v0 .n0))):=ar 3 _ _ rfl
theorem R54{a b c d e f:Nat}:Ar.F.d [a,b,c,d,e,f] (.im (.eq (.s .v1 .v2) (.a .v3 .n1)) (.im (.an (.le .v4 .v5) (.le .v5 .v3)) (.im (.le .v0 (.m 8 .v4)) (.im (.le .v1 (.n 600)) (.le .v0 (.n 1000000)))))):=ar 6 _ _ rfl
theorem R55{a b c d e f:Nat}:Ar.F.d [a,b,c,d,e,f] (.im (.eq (.s .v1 .v2) (.a .v3 .n1)) (.im (.an (.le .v4 .v5) (.le .v5 .v3)) (.im (.le .v0 (.m 8 .v4)) (.im (.le .v1 (.n 600)) (.le (.a .n1 .v0) (.n 1000000)))))):=ar 6 _ _ rfl
theorem R56{a b c:Nat}:Ar.F.d [a,b,c] (.im (.le .v0 (.m 2 .v1)) (.im (.le .v2 (.n 600)) (.im (.le .v1 .v2) (.le .v0 (.n 999999))))):=ar 3 _ _ rfl
theorem R57{a b c d:Nat}:Ar.F.d [a,b,c,d] (.im (.le .v0 (.s .v1 (.a (.a .v2 .v3) .n1))) (.im (.le .v1 (.n 600)) (.le .v0 (.n 10000)))):=ar 4 _ _ rfl
theorem R58{a b c d e:Nat}:Ar.F.d [a,b,c,d,e] (.im (.le .v0 (.m 8 .v1)) (.im (.le .v1 (.s .v2 (.a (.a .v3 .v4) .n1))) (.im (.le .v2 (.n 600)) (.le .v0 (.n 1000000))))):=ar 5 _ _ rfl
theorem R59{a b c d e:Nat}:Ar.F.d [a,b,c,d,e] (.im (.le .v0 (.m 8 .v1)) (.im (.le .v1 (.s .v2 (.a (.a .v3 .v4) .n1))) (.im (.le .v2 (.n 600)) (.le (.a (.n 4) .v0) (.n 1000000))))):=ar 5 _ _ rfl
theorem R60{a:Nat}:Ar.F.d [a] (.im (.le .v0 (.n 1000000)) (.lt .v0 (.n 4611686018427387904))):=ar 1 _ _ rfl
theorem R61{a b c:Nat}:Ar.F.d [a,b,c] (.im (.lt .v0 .v2) (.im (.eq .v2 .v1) (.lt .v0 .v1))):=ar 3 _ _ rfl
theorem R62{a:Nat}:Ar.F.d [a] (.im (.le .v0 (.n 900)) (.le (.a .n1 .v0) (.n 1000000))):=ar 1 _ _ rfl
theorem R63{a b c:Nat}:Ar.F.d [a,b,c] (.im (.eq .v0 .v1) (.im (.le .v2 (.n 1000)) (.im (.le .v1 .v2) (.le .v0 (.n 1000))))):=ar 3 _ _ rfl
theorem R64{a:Nat}:Ar.F.d [a] (.im (.le .v0 (.n 63)) (.le .v0 (.n 1000000))):=ar 1 _ _ rfl
theorem R65{a b:Nat}:Ar.F.d [a,b] (.im (.le .v0 (.m 9 (.i (.n 12) .v1))) (.le (.a .v0 (.n 6)) (.n 114))):=ar 2 _ _ rfl
theorem R66{a:Nat}:Ar.F.d [a] (.le (.n 8) (.a .v0 (.n 8))):=ar 1 _ _ rfl
theorem R67{a b:Nat}:Ar.F.d [a,b] (.im (.eq .v0 .v1) (.im (.le .v1 (.n 114)) (.le .v0 (.n 1000)))):=ar 2 _ _ rfl
theorem R68{a:Nat}:Ar.F.d [a] (.im (.le .v0 (.n 114)) (.le .v0 (.n 600))):=ar 1 _ _ rfl
theorem R69{a b:Nat}:Ar.F.d [a,b] (.im (.le (.a (.a .v0 .v1) .n1) (.a .n0 .n1)) (.im (.le .n1 .v1) .ff)):=ar 2 _ _ rfl
theorem R70{a b c:Nat}:Ar.F.d [a,b,c] (.im (.le (.a (.a .v0 .v2) .n1) (.a .v1 .n1)) (.le .v0 (.s .v1 .v2))):=ar 3 _ _ rfl
theorem R71{a:Nat}:Ar.F.d [a] (.im (.le (.a .v0 .n1) (.a .n0 .n1)) (.im (.le .n1 .v0) .ff)):=ar 1 _ _ rfl
theorem R72{a b c d:Nat}:Ar.F.d [a,b,c,d] (.im (.le (.a (.a .v0 .v2) .v3) .v1) (.im (.le .n1 .v2) (.lt .v0 .v1))):=ar 4 _ _ rfl
theorem R73{a b c d e:Nat}:Ar.F.d [a,b,c,d,e] (.im (.le (.a (.a .v2 .v0) .v3) .v4) (.im (.eq .v4 (.a .v2 (.a .v1 .n1))) (.le .v0 (.a .v1 .n1)))):=ar 5 _ _ rfl
theorem R74{a b c d:Nat}:Ar.F.d [a,b,c,d] (.im (.eq (.a .v0 .v2) .v3) (.im (.le .v3 .v1) (.le .v0 .v1))):=ar 4 _ _ rfl
theorem R75{a b c d:Nat}:Ar.F.d [a,b,c,d] (.im (.eq (.a .v2 .v0) .v3) (.im (.le .v3 .v1) (.le .v0 (.s .v1 .v2)))):=ar 4 _ _ rfl
theorem R76{a:Nat}:Ar.F.d [a] (.im (.le (.n 6) .v0) (.le (.n 5) .v0)):=ar 1 _ _ rfl
theorem R77{a b c d:Nat}:Ar.F.d [a,b,c,d] (.im (.le (.a .v2 (.n 6)) (.s .v1 .v3)) (.im (.eq (.a .v3 .v2) .v0) (.le (.a .v0 (.n 6)) .v1))):=ar 4 _ _ rfl
theorem R78{a b:Nat}:Ar.F.d [a,b] (.im (.lt .v0 .v1) (.lt (.a .v0 .n1) (.a .v1 .n1))):=ar 2 _ _ rfl
theorem R79{a b:Nat}:Ar.F.d [a,b] (.im (.le (.a .v0 (.n 5)) .v1) (.lt (.a .n1 .v0) (.a .v1 .n1))):=ar 2 _ _ rfl
theorem R80{a b:Nat}:Ar.F.d [a,b] (.im (.an (.le .n1 .v0) (.le .v0 (.a .v1 .n1))) (.im (.eq .v0 .n0) .ff)):=ar 2 _ _ rfl
theorem R81{a b c:Nat}:Ar.F.d [a,b,c] (.im (.eq (.a .v0 .n1) (.a .v1 .v2)) (.eq (.a (.a .v0 .n1) .n1) (.a (.a .v1 .n1) .v2))):=ar 3 _ _ rfl
theorem R82{a b:Nat}:Ar.F.d [a,b] (.im (.le .v1 (.n 12)) (.im (.le .v0 .v1) (.lt .v0 (.n 13)))):=ar 2 _ _ rfl
theorem Ar.t {p:Prop} {i:Decidable p} (h:decide p=true):p:=Qh h
theorem Ar.f {p:Prop} {i:Decidable p} (h:decide p=false):¬ p:=of_decide_eq_false h
theorem Ar.g {p:Prop} {i:Decidable p} (h:¬ decide p=true):¬ p:=fun x=>h (Qs x)
theorem ob_AAE {α2:Sort _} {p0:Prop} {p1:Prop} {q:α2→Prop} {b:Prop} (h:p0∧p1∧∃ x2,q x2) (k:p0→p1→(x2:α2)→q x2→b):b:=h.2.2.elim fun x2 h2=>k h.1 h.2.1 x2 h2
theorem ob_AEA {α1:Sort _} {p0:Prop} {p2:α1→Prop} {q:α1→Prop} {b:Prop} (h:p0∧∃ x1,p2 x1∧q x1) (k:p0→(x1:α1)→p2 x1→q x1→b):b:=h.2.elim fun x1 h1=>k h.1 x1 h1.1 h1.2
theorem ob_AEAEA {α1:Sort _} {α3:Sort _} {p0:Prop} {p2:α1→Prop} {p4:α1→α3→Prop} {q:α1→α3→Prop} {b:Prop} (h:p0∧∃ x1,p2 x1∧∃ x3,p4 x1 x3∧q x1 x3) (k:p0→(x1:α1)→p2 x1→(x3:α3)→p4 x1 x3→q x1 x3→b):b:=h.2.elim fun x1 h1=>h1.2.elim fun x3 h3=>k h.1 x1 h1.1 x3 h3.1 h3.2
theorem ob_EAA {α0:Sort _} {p1:α0→Prop} {p2:α0→Prop} {q:α0→Prop} {b:Prop} (h:∃ x0,p1 x0∧p2 x0∧q x0) (k:(x0:α0)→p1 x0→p2 x0→q x0→b):b:=h.elim fun x0 h0=>k x0 h0.1 h0.2.1 h0.2.2
theorem ob_EAAAEEAA {α0:Sort _} {α4:Sort _} {α5:Sort _} {p1:α0→Prop} {p2:α0→Prop} {p3:α0→Prop} {p6:α0→α4→α5→Prop} {p7:α0→α4→α5→Prop} {q:α0→α4→α5→Prop} {b:Prop} (h:∃ x0,p1 x0∧p2 x0∧p3 x0∧∃ x4,∃ x5,p6 x0 x4 x5∧p7 x0 x4 x5∧q x0 x4 x5) (k:(x0:α0)→p1 x0→p2 x0→p3 x0→(x4:α4)→(x5:α5)→p6 x0 x4 x5→p7 x0 x4 x5→q x0 x4 x5→b):b:=h.elim fun x0 h0=>h0.2.2.2.elim fun x4 h4=>h4.elim fun x5 h5=>k x0 h0.1 h0.2.1 h0.2.2.1 x4 x5 h5.1 h5.2.1 h5.2.2
theorem ob_EAEA {α0:Sort _} {α2:Sort _} {p1:α0→Prop} {p3:α0→α2→Prop} {q:α0→α2→Prop} {b:Prop} (h:∃ x0,p1 x0∧∃ x2,p3 x0 x2∧q x0 x2) (k:(x0:α0)→p1 x0→(x2:α2)→p3 x0 x2→q x0 x2→b):b:=h.elim fun x0 h0=>h0.2.elim fun x2 h2=>k x0 h0.1 x2 h2.1 h2.2
theorem ob_EAEAA {α0:Sort _} {α2:Sort _} {p1:α0→Prop} {p3:α0→α2→Prop} {p4:α0→α2→Prop} {q:α0→α2→Prop} {b:Prop} (h:∃ x0,p1 x0∧∃ x2,p3 x0 x2∧p4 x0 x2∧q x0 x2) (k:(x0:α0)→p1 x0→(x2:α2)→p3 x0 x2→p4 x0 x2→q x0 x2→b):b:=h.elim fun x0 h0=>h0.2.elim fun x2 h2=>k x0 h0.1 x2 h2.1 h2.2.1 h2.2.2
theorem ob_EEA {α0:Sort _} {α1:Sort _} {p2:α0→α1→Prop} {q:α0→α1→Prop} {b:Prop} (h:∃ x0,∃ x1,p2 x0 x1∧q x0 x1) (k:(x0:α0)→(x1:α1)→p2 x0 x1→q x0 x1→b):b:=h.elim fun x0 h0=>h0.elim fun x1 h1=>k x0 x1 h1.1 h1.2
theorem ob_EEAA {α0:Sort _} {α1:Sort _} {p2:α0→α1→Prop} {p3:α0→α1→Prop} {q:α0→α1→Prop} {b:Prop} (h:∃ x0,∃ x1,p2 x0 x1∧p3 x0 x1∧q x0 x1) (k:(x0:α0)→(x1:α1)→p2 x0 x1→p3 x0 x1→q x0 x1→b):b:=h.elim fun x0 h0=>h0.elim fun x1 h1=>k x0 x1 h1.1 h1.2.1 h1.2.2
theorem ob_EEAAA {α0:Sort _} {α1:Sort _} {p2:α0→α1→Prop} {p3:α0→α1→Prop} {p4:α0→α1→Prop} {q:α0→α1→Prop} {b:Prop} (h:∃ x0,∃ x1,p2 x0 x1∧p3 x0 x1∧p4 x0 x1∧q x0 x1) (k:(x0:α0)→(x1:α1)→p2 x0 x1→p3 x0 x1→p4 x0 x1→q x0 x1→b):b:=h.elim fun x0 h0=>h0.elim fun x1 h1=>k x0 x1 h1.1 h1.2.1 h1.2.2.1 h1.2.2.2
theorem ob_EEEA {α0:Sort _} {α1:Sort _} {α2:Sort _} {p3:α0→α1→α2→Prop} {q:α0→α1→α2→Prop} {b:Prop} (h:∃ x0,∃ x1,∃ x2,p3 x0 x1 x2∧q x0 x1 x2) (k:(x0:α0)→(x1:α1)→(x2:α2)→p3 x0 x1 x2→q x0 x1 x2→b):b:=h.elim fun x0 h0=>h0.elim fun x1 h1=>h1.elim fun x2 h2=>k x0 x1 x2 h2.1 h2.2
theorem ob_EEEAA {α0:Sort _} {α1:Sort _} {α2:Sort _} {p3:α0→α1→α2→Prop} {p4:α0→α1→α2→Prop} {q:α0→α1→α2→Prop} {b:Prop} (h:∃ x0,∃ x1,∃ x2,p3 x0 x1 x2∧p4 x0 x1 x2∧q x0 x1 x2) (k:(x0:α0)→(x1:α1)→(x2:α2)→p3 x0 x1 x2→p4 x0 x1 x2→q x0 x1 x2→b):b:=h.elim fun x0 h0=>h0.elim fun x1 h1=>h1.elim fun x2 h2=>k x0 x1 x2 h2.1 h2.2.1 h2.2.2
theorem ob_EEEAAA {α0:Sort _} {α1:Sort _} {α2:Sort _} {p3:α0→α1→α2→Prop} {p4:α0→α1→α2→Prop} {p5:α0→α1→α2→Prop} {q:α0→α1→α2→Prop} {b:Prop} (h:∃ x0,∃ x1,∃ x2,p3 x0 x1 x2∧p4 x0 x1 x2∧p5 x0 x1 x2∧q x0 x1 x2) (k:(x0:α0)→(x1:α1)→(x2:α2)→p3 x0 x1 x2→p4 x0 x1 x2→p5 x0 x1 x2→q x0 x1 x2→b):b:=h.elim fun x0 h0=>h0.elim fun x1 h1=>h1.elim fun x2 h2=>k x0 x1 x2 h2.1 h2.2.1 h2.2.2.1 h2.2.2.2
theorem ob_EEEEAAA {α0:Sort _} {α1:Sort _} {α2:Sort _} {α3:Sort _} {p4:α0→α1→α2→α3→Prop} {p5:α0→α1→α2→α3→Prop} {p6:α0→α1→α2→α3→Prop} {q:α0→α1→α2→α3→Prop} {b:Prop} (h:∃ x0,∃ x1,∃ x2,∃ x3,p4 x0 x1 x2 x3∧p5 x0 x1 x2 x3∧p6 x0 x1 x2 x3∧q x0 x1 x2 x3) (k:(x0:α0)→(x1:α1)→(x2:α2)→(x3:α3)→p4 x0 x1 x2 x3→p5 x0 x1 x2 x3→p6 x0 x1 x2 x3→q x0 x1 x2 x3→b):b:=h.elim fun x0 h0=>h0.elim fun x1 h1=>h1.elim fun x2 h2=>h2.elim fun x3 h3=>k x0 x1 x2 x3 h3.1 h3.2.1 h3.2.2.1 h3.2.2.2
theorem ob_EEEEAAAA {α0:Sort _} {α1:Sort _} {α2:Sort _} {α3:Sort _} {p4:α0→α1→α2→α3→Prop} {p5:α0→α1→α2→α3→Prop} {p6:α0→α1→α2→α3→Prop} {p7:α0→α1→α2→α3→Prop} {q:α0→α1→α2→α3→Prop} {b:Prop} (h:∃ x0,∃ x1,∃ x2,∃ x3,p4 x0 x1 x2 x3∧p5 x0 x1 x2 x3∧p6 x0 x1 x2 x3∧p7 x0 x1 x2 x3∧q x0 x1 x2 x3) (k:(x0:α0)→(x1:α1)→(x2:α2)→(x3:α3)→p4 x0 x1 x2 x3→p5 x0 x1 x2 x3→p6 x0 x1 x2 x3→p7 x0 x1 x2 x3→q x0 x1 x2 x3→b):b:=h.elim fun x0 h0=>h0.elim fun x1 h1=>h1.elim fun x2 h2=>h2.elim fun x3 h3=>k x0 x1 x2 x3 h3.1 h3.2.1 h3.2.2.1 h3.2.2.2.1 h3.2.2.2.2
theorem ob_EEEEEAA {α0:Sort _} {α1:Sort _} {α2:Sort _} {α3:Sort _} {α4:Sort _} {p5:α0→α1→α2→α3→α4→Prop} {p6:α0→α1→α2→α3→α4→Prop} {q:α0→α1→α2→α3→α4→Prop} {b:Prop} (h:∃ x0,∃ x1,∃ x2,∃ x3,∃ x4,p5 x0 x1 x2 x3 x4∧p6 x0 x1 x2 x3 x4∧q x0 x1 x2 x3 x4) (k:(x0:α0)→(x1:α1)→(x2:α2)→(x3:α3)→(x4:α4)→p5 x0 x1 x2 x3 x4→p6 x0 x1 x2 x3 x4→q x0 x1 x2 x3 x4→b):b:=h.elim fun x0 h0=>h0.elim fun x1 h1=>h1.elim fun x2 h2=>h2.elim fun x3 h3=>h3.elim fun x4 h4=>k x0 x1 x2 x3 x4 h4.1 h4.2.1 h4.2.2
theorem ob_EEEEEAAAA {α0:Sort _} {α1:Sort _} {α2:Sort _} {α3:Sort _} {α4:Sort _} {p5:α0→α1→α2→α3→α4→Prop} {p6:α0→α1→α2→α3→α4→Prop} {p7:α0→α1→α2→α3→α4→Prop} {p8:α0→α1→α2→α3→α4→Prop} {q:α0→α1→α2→α3→α4→Prop} {b:Prop} (h:∃ x0,∃ x1,∃ x2,∃ x3,∃ x4,p5 x0 x1 x2 x3 x4∧p6 x0 x1 x2 x3 x4∧p7 x0 x1 x2 x3 x4∧p8 x0 x1 x2 x3 x4∧q x0 x1 x2 x3 x4) (k:(x0:α0)→(x1:α1)→(x2:α2)→(x3:α3)→(x4:α4)→p5 x0 x1 x2 x3 x4→p6 x0 x1 x2 x3 x4→p7 x0 x1 x2 x3 x4→p8 x0 x1 x2 x3 x4→q x0 x1 x2 x3 x4→b):b:=h.elim fun x0 h0=>h0.elim fun x1 h1=>h1.elim fun x2 h2=>h2.elim fun x3 h3=>h3.elim fun x4 h4=>k x0 x1 x2 x3 x4 h4.1 h4.2.1 h4.2.2.1 h4.2.2.2.1 h4.2.2.2.2
theorem ob_EEEEEEAA {α0:Sort _} {α1:Sort _} {α2:Sort _} {α3:Sort _} {α4:Sort _} {α5:Sort _} {p6:α0→α1→α2→α3→α4→α5→Prop} {p7:α0→α1→α2→α3→α4→α5→Prop} {q:α0→α1→α2→α3→α4→α5→Prop} {b:Prop} (h:∃ x0,∃ x1,∃ x2,∃ x3,∃ x4,∃ x5,p6 x0 x1 x2 x3 x4 x5∧p7 x0 x1 x2 x3 x4 x5∧q x0 x1 x2 x3 x4 x5) (k:(x0:α0)→(x1:α1)→(x2:α2)→(x3:α3)→(x4:α4)→(x5:α5)→p6 x0 x1 x2 x3 x4 x5→p7 x0 x1 x2 x3 x4 x5→q x0 x1 x2 x3 x4 x5→b):b:=h.elim fun x0 h0=>h0.elim fun x1 h1=>h1.elim fun x2 h2=>h2.elim fun x3 h3=>h3.elim fun x4 h4=>h4.elim fun x5 h5=>k x0 x1 x2 x3 x4 x5 h5.1 h5.2.1 h5.2.2
end
theorem AR.h11 (a b c:Nat):Ar.F.d [a,b,c] (.eq (.a (.a (.a .v0 .v1) .n1) .v2) (.a .v0 (.a (.a .v1 .n1) .v2))):=ar 3 _ _ rfl
theorem AR.h18 (a:Nat):Ar.F.d [a] (.iff (.ilt (.n 127) .v0) (.lt (.n 127) .v0)):=ar 1 _ _ rfl
theorem AR.h30 (a b:Nat):Ar.F.d [a,b] (.eq (.a (.a .v0 .n1) .v1) (.a .v0 (.a .n1 .v1))):=ar 2 _ _ rfl
theorem AR.h39 (a b:Nat):Ar.F.d [a,b] (.eq (.s (.a .v0 .v1) .v0) .v1):=ar 2 _ _ rfl
theorem AR.h45 (a:Nat):Ar.F.d [a] (.ile .n0 .v0):=ar 1 _ _ rfl
theorem AR.h47 (a:Nat):Ar.F.d [a] (.an (.le .n1 .n1) (.le .n1 (.a .v0 .n1))):=ar 1 _ _ rfl
theorem AR.h61 (a b:Nat):Ar.F.d [a,b] (.eq (.a .v0 (.a .v1 .n1)) (.a (.a .v0 .n1) .v1)):=ar 2 _ _ rfl
theorem AR.h63 (a:Nat):Ar.F.d [a] (.eq (.a .v0 .n1) (.a .v0 .n1)):=ar 1 _ _ rfl
theorem AR.h72 (a b:Nat):Ar.F.d [a,b] (.lt (.s .v0 .v1) (.a .v0 .n1)):=ar 2 _ _ rfl
theorem AR.h81 (a:Nat):Ar.F.d [a] (.le .n0 .v0):=ar 1 _ _ rfl
theorem AR.h84 (a:Nat):Ar.F.d [a] (.le .n1 (.a .v0 .n1)):=ar 1 _ _ rfl
theorem AR.h122 (a b:Nat):Ar.F.d [a,b] (.im (.le .v1 .v0) (.eq (.s (.a .v0 .n1) .v1) (.a (.s .v0 .v1) .n1))):=ar 2 _ _ rfl
theorem AR.h123 (a b c:Nat):Ar.F.d [a,b,c] (.im (.an (.le .v0 .v1) (.le .v1 .v2)) (.an (.le (.a .v0 .n1) (.a .v1 .n1)) (.le (.a .v1 .n1) (.a .v2 .n1)))):=ar 3 _ _ rfl
theorem AR.h144 (a b:Nat):Ar.F.d [a,b] (.im (.le .v0 .v1) (.an (.le .n1 (.a .n1 .v0)) (.le (.a .n1 .v0) (.a .v1 .n1)))):=ar 2 _ _ rfl
theorem AR.h165 (a b:Nat):Ar.F.d [a,b] (.im (.le .v0 .v1) (.eq (.a .v0 (.s .v1 .v0)) .v1)):=ar 2 _ _ rfl
theorem AR.h173 (a b:Nat):Ar.F.d [a,b] (.im (.le .v0 .v1) (.le (.a .v0 .n1) (.a .v1 .n1))):=ar 2 _ _ rfl
theorem AR.h176 (a b c:Nat):Ar.F.d [a,b,c] (.im (.eq (.s .v1 .v0) (.a .v2 .n1)) (.le (.a .v0 .n1) .v1)):=ar 3 _ _ rfl
theorem AR.h195 (a b:Nat):Ar.F.d [a,b] (.im (.lt .v1 .v0) (.lt (.s .v0 (.a .v1 .n1)) (.s .v0 .v1))):=ar 2 _ _ rfl
theorem AR.h210 (a b c:Nat):Ar.F.d [a,b,c] (.im (.le .v0 .v2) (.le (.s .v0 .v1) .v2)):=ar 3 _ _ rfl
theorem AR.h279 (a b:Nat):Ar.F.d [a,b] (.im (.le .v0 (.m 2 .v1)) (.le .v0 (.m 2 (.a .v1 .n1)))):=ar 2 _ _ rfl
theorem AR.h282 (a b:Nat):Ar.F.d [a,b] (.im (.le .v0 .v1) (.le .v0 (.a .v1 .n1))):=ar 2 _ _ rfl
theorem AR.h293 (a:Nat):Ar.F.d [a] (.im (.le .v0 (.n 600)) (.le .v0 (.n 10000))):=ar 1 _ _ rfl
theorem AR.h295 (a:Nat):Ar.F.d [a] (.im (.le .v0 (.n 10000)) (.le .v0 (.n 100000))):=ar 1 _ _ rfl
theorem AR.h296 (a:Nat):Ar.F.d [a] (.im (.le .v0 (.n 10000)) (.le .v0 (.n 1000000))):=ar 1 _ _ rfl
theorem AR.h298 (a:Nat):Ar.F.d [a] (.im (.le .v0 (.n 600)) (.le .v0 (.n 1000000))):=ar 1 _ _ rfl
theorem AR.h299 (a:Nat):Ar.F.d [a] (.im (.le .v0 (.n 999999)) (.le .v0 (.n 1000000))):=ar 1 _ _ rfl
theorem AR.h326 (a b:Nat):Ar.F.d [a,b] (.im (.nt (.lt .v1 .v0)) (.le .v0 .v1)):=ar 2 _ _ rfl
theorem AR.h354 (a b c d:Nat):Ar.F.d [a,b,c,d] (.im (.an (.le .v0 .v1) (.le .v1 (.s .v3 .v2))) (.im (.le .v2 .v3) (.an (.le (.a .v0 .n1) (.a (.a .v1 .v2) .n1)) (.le (.a (.a .v1 .v2) .n1) (.a .v3 .n1))))):=ar 4 _ _ rfl
theorem AR.h380 (a b c:Nat):Ar.F.d [a,b,c] (.im (.le .v1 (.m 8 .v2)) (.im (.le .v0 (.n 8)) (.le (.a .v0 .v1) (.m 8 (.a .v2 .n1))))):=ar 3 _ _ rfl
theorem AR.h439 (a b c d e:Nat):Ar.F.d [a,b,c,d,e] (.im (.eq (.s .v1 .v2) .v3) (.im (.an (.le .v0 .v4) (.le .v4 .v3)) (.le .v0 .v1))):=ar 5 _ _ rfl
theorem AR.h442 (a b c:Nat):Ar.F.d [a,b,c] (.im (.le .v0 .v2) (.im (.le .v2 .v1) (.le .v0 .v1))):=ar 3 _ _ rfl
theorem AR.h464 (a b c d e:Nat):Ar.F.d [a,b,c,d,e] (.im (.eq (.s .v1 .v2) (.a .v3 .n1)) (.im (.an (.le .v0 .v4) (.le .v4 .v3)) (.im (.le .v1 (.n 600)) (.le .v0 (.n 10000))))):=ar 5 _ _ rfl
theorem AR.h465 (a b c d e:Nat):Ar.F.d [a,b,c,d,e] (.im (.eq (.s .v1 .v2) (.a .v3 .n1)) (.im (.an (.le .v0 .v4) (.le .v4 (.a .v3 .n1))) (.im (.le .v1 (.n 600)) (.le .v0 (.n 10000))))):=ar 5 _ _ rfl
theorem AR.h468 (a b c:Nat):Ar.F.d [a,b,c] (.im (.le .v0 (.m 2 .v1)) (.im (.le .v2 (.n 600)) (.im (.le .v1 .v2) (.le .v0 (.n 1000000))))):=ar 3 _ _ rfl
theorem AR.h469 (a b c:Nat):Ar.F.d [a,b,c] (.im (.le .v1 (.n 600)) (.im (.le .v0 .v2) (.im (.le .v2 .v1) (.le .v0 (.n 1000000))))):=ar 3 _ _ rfl
theorem AR.h473 (a b c:Nat):Ar.F.d [a,b,c] (.im (.le .v0 (.m 2 .v1)) (.im (.le .v2 (.n 10000)) (.im (.le .v1 .v2) (.le .v0 (.n 1000000))))):=ar 3 _ _ rfl
theorem AR.h475 (a b c d e:Nat):Ar.F.d [a,b,c,d,e] (.im (.le .v0 (.m 8 .v1)) (.im (.le .v1 (.s .v2 (.a (.a .v3 .v4) .n1))) (.im (.le .v2 (.n 600)) (.le .v0 (.n 999995))))):=ar 5 _ _ rfl
theorem AR.h477 (a b c:Nat):Ar.F.d [a,b,c] (.im (.le .v0 (.m 2 .v1)) (.im (.le .v2 (.n 10000)) (.im (.le .v1 .v2) (.le .v0 (.n 999999))))):=ar 3 _ _ rfl
theorem AR.h488 (a b c d e f:Nat):Ar.F.d [a,b,c,d,e,f] (.im (.eq (.s .v1 .v2) (.a .v3 .n1)) (.im (.an (.le .v4 .v5) (.le .v5 .v3)) (.im (.le .v0 (.m 8 .v4)) (.im (.le .v1 (.n 600)) (.le .v0 (.n 999998)))))):=ar 6 _ _ rfl
theorem AR.h0 {a0 a1 a2:Nat}:(((((a0+a1)+a2):Nat):Int) - (((a0+a1):Nat):Int))=((a2:Nat):Int):=by lia
theorem AR.h51 {a0:Nat}:(Int.toNat ((a0:Nat):Int))=a0:=by lia
theorem AR.h139 {a0:Nat} {z1:Int} (x':((0:Int)≤(z1+((a0:Nat):Int)))∧((z1+((a0:Nat):Int)) < ((a0:Nat):Int))):(-((a0:Nat):Int))≤z1:=by lia
theorem AR.h141 {z0:Int} (x':¬ (z0 < (0:Int))):(0:Int)≤z0:=by lia
theorem AR.h240 {a0 a1:Nat} (x':((((a0+2)+a1):Nat):Int)=(-(1:Int))):False:=by lia
theorem AR.h333 {a0 a1:Nat} {z2:Int} (x':((a0:Nat):Int)=(max (0:Int) (min z2 ((a1:Nat):Int)))):a0≤a1:=by lia
theorem x02 {p q:Prop} {P:Prop} (h:p∧q) (f:p→q→P):P:=f h.1 h.2
theorem x03 {p q r:Prop} {P:Prop} (h:p∧q∧r) (f:p→q→r→P):P:=f h.1 h.2.1 h.2.2
theorem x11 {α:Sort _} {p:α→Prop} {P:Prop} (h:∃ a,p a) (f:∀ a,p a→P):P:=Exists.elim h fun a h=>f a h
theorem x12 {α:Sort _} {p q:α→Prop} {P:Prop} (h:∃ a,p a∧q a) (f:∀ a,p a→q a→P):P:=Exists.elim h fun a h=>f a h.1 h.2
theorem x13 {α:Sort _} {p q r:α→Prop} {P:Prop} (h:∃ a,p a∧q a∧r a) (f:∀ a,p a→q a→r a→P):P:=Exists.elim h fun a h=>f a h.1 h.2.1 h.2.2
theorem x14 {α:Sort _} {p q r s:α→Prop} {P:Prop} (h:∃ a,p a∧q a∧r a∧s a) (f:∀ a,p a→q a→r a→s a→P):P:=Exists.elim h fun a h=>f a h.1 h.2.1 h.2.2.1 h.2.2.2
theorem x15 {α:Sort _} {p q r s t:α→Prop} {P:Prop} (h:∃ a,p a∧q a∧r a∧s a∧t a) (f:∀ a,p a→q a→r a→s a→t a→P):P:=Exists.elim h fun a h=>f a h.1 h.2.1 h.2.2.1 h.2.2.2.1 h.2.2.2.2
theorem x21 {α:Sort _} {β:Sort _} {p:α→β→Prop} {P:Prop} (h:∃ a,∃ b,p a b) (f:∀ a b,p a b→P):P:=Exists.elim h fun a h=>Exists.elim h fun b h=>f a b h
theorem x22 {α:Sort _} {β:Sort _} {p q:α→β→Prop} {P:Prop} (h:∃ a,∃ b,p a b∧q a b) (f:∀ a b,p a b→q a b→P):P:=Exists.elim h fun a h=>Exists.elim h fun b h=>f a b h.1 h.2
theorem x23 {α:Sort _} {β:Sort _} {p q r:α→β→Prop} {P:Prop} (h:∃ a,∃ b,p a b∧q a b∧r a b) (f:∀ a b,p a b→q a b→r a b→P):P:=Exists.elim h fun a h=>Exists.elim h fun b h=>f a b h.1 h.2.1 h.2.2
theorem x24 {α:Sort _} {β:Sort _} {p q r s:α→β→Prop} {P:Prop} (h:∃ a,∃ b,p a b∧q a b∧r a b∧s a b) (f:∀ a b,p a b→q a b→r a b→s a b→P):P:=Exists.elim h fun a h=>Exists.elim h fun b h=>f a b h.1 h.2.1 h.2.2.1 h.2.2.2
theorem x33 {α:Sort _} {β:Sort _} {γ:Sort _} {p q r:α→β→γ→Prop} {P:Prop} (h:∃ a,∃ b,∃ c,p a b c∧q a b c∧r a b c) (f:∀ a b c,p a b c→q a b c→r a b c→P):P:=Exists.elim h fun a h=>Exists.elim h fun b h=>Exists.elim h fun c h=>f a b c h.1 h.2.1 h.2.2
theorem x43 {α:Sort _} {β:Sort _} {γ:Sort _} {δ:Sort _} {p q r:α→β→γ→δ→Prop} {P:Prop} (h:∃ a,∃ b,∃ c,∃ d,p a b c d∧q a b c d∧r a b c d) (f:∀ a b c d,p a b c d→q a b c d→r a b c d→P):P:=Exists.elim h fun a h=>Exists.elim h fun b h=>Exists.elim h fun c h=>Exists.elim h fun d h=>f a b c d h.1 h.2.1 h.2.2
section
set_option genSizeOf false
set_option genCtorIdx false in
inductive V where
 | unset | none | bool (b:Bool) | int (i:Int) | str (s:List Nat)
 | tup (vs:List V) | lst (vs:List V) | obj (c:Addr) (vs:List V)
 | ref (a:Addr) | glo (v:Value) | rng (a b c:Int) | cst (P:Addr→Obj→Prop)
noncomputable def V.ctorIdx (v:V):Nat:=V.casesOn (motive_1:=fun _=>Nat) v 0 1 (fun _=>2) (fun _=>3) (fun _=>4) (fun _=>5) (fun _=>6) (fun _ _=>7) (fun _=>8) (fun _=>9) (fun _ _ _=>10) (fun _=>11)
theorem vne {v:V} (h:Nat.beq v.ctorIdx 0=false):v≠.unset:=fun e=>by subst e; exact absurd h (show ¬ (true=false) from Bool.noConfusion)
theorem nff {P:Prop} (h:false=true):P:=absurd h bn
theorem ntf {P:Prop} (h:true=false):P:=nff h.symm
theorem nmm {α:Type _} {P:α→Prop}:∀ x∈([]:List α),P x:=List.forall_mem_nil P
noncomputable abbrev Mem:=Addr→Obj→Prop
noncomputable abbrev tupOf (its:Array Value) (n:Nat):Obj:={ cls:=.type "tuple",data:=.seq its n }
noncomputable abbrev rngOf (a b c:Int) (t u v:Tok):Obj:={ cls:=.type "range",dict:=none,data:=.fields #[.int a t,.int b u,.int c v],slots:=#[] }
noncomputable abbrev insOf (C dx:Addr) (os:Array (Option Value)):Obj:={ cls:=.ref C,dict:=some dx,data:=.plain,slots:=os }
mutual
inductive Is (M:Mem):Value→V→Prop
 | none:Is M .none .none
 | bool (b:Bool):Is M (.bool b) (.bool b)
 | int (i:Int) (t:Tok):Is M (.int i t) (.int i)
 | str (x:Str) (t:Tok) {s:List Nat} (h:x.cps.toList=s):Is M (.str x t) (.str s)
 | tup {a:Addr} {vs:List Value} {n:Nat} {ds:List V}:M a (tupOf vs.toArray n)→IsAll M vs ds→Is M (.ref a) (.tup ds)
 | lst {a:Addr} {vs:List Value} {n:Nat} {ds:List V}:M a (listOf vs.toArray n)→IsAll M vs ds→Is M (.ref a) (.lst ds)
 | obj {a C dx:Addr} {os:List (Option Value)} {ds:List V}:M a (insOf C dx os.toArray)→M dx (dictOf [] 0)→IsSl M os ds→Is M (.ref a) (.obj C ds)
 | ref (a:Addr):Is M (.ref a) (.ref a)
 | glo (v:Value):Is M v (.glo v)
 | rng {r:Addr} {a b c:Int} {t u v:Tok}:M r (rngOf a b c t u v)→Is M (.ref r) (.rng a b c)
 | cst {a:Addr} {o:Obj} {P:Addr→Obj→Prop} (h:M a o) (q:P a o):Is M (.ref a) (.cst P)
inductive IsAll (M:Mem):List Value→List V→Prop
 | nil:IsAll M [] []
 | cons {v:Value} {vs:List Value} {d:V} {ds:List V}:Is M v d→IsAll M vs ds→IsAll M (v::vs) (d::ds)
inductive IsSl (M:Mem):List (Option Value)→List V→Prop
 | nil:IsSl M [] []
 | unset {os:List (Option Value)} {ds:List V}:IsSl M os ds→IsSl M (Option.none::os) (.unset::ds)
 | set {v:Value} {d:V} {os:List (Option Value)} {ds:List V}:Is M v d→IsSl M os ds→IsSl M (some v::os) (d::ds)
end
theorem Is.monos {M M':Mem} (hs:∀ a o,M a o→M' a o):(∀ {v:Value} {d:V},Is M v d→Is M' v d)∧(∀ {vs:List Value} {ds:List V},IsAll M vs ds→IsAll M' vs ds)∧(∀ {vs:List (Option Value)} {ds:List V},IsSl M vs ds→IsSl M' vs ds) :=
 ⟨fun h=>Is.rec (motive_1:=fun v d _=>Is M' v d) (motive_2:=fun v d _=>IsAll M' v d) (motive_3:=fun v d _=>IsSl M' v d)
  .none .bool .int (@fun x t _ h=>.str x t h) (@fun _ _ _ _ h _ r=>.tup (hs _ _ h) r) (@fun _ _ _ _ h _ r=>.lst (hs _ _ h) r) (@fun _ _ _ _ _ h h2 _ r=>.obj (hs _ _ h) (hs _ _ h2) r) .ref .glo (@fun _ _ _ _ _ _ _ h=>.rng (hs _ _ h)) (@fun _ _ _ h q=>.cst (hs _ _ h) q)
  .nil (@fun _ _ _ _ _ _ a b=>.cons a b) .nil (@fun _ _ _ a=>.unset a) (@fun _ _ _ _ _ _ a b=>.set a b) h,
 fun h=>IsAll.rec (motive_1:=fun v d _=>Is M' v d) (motive_2:=fun v d _=>IsAll M' v d) (motive_3:=fun v d _=>IsSl M' v d)
  .none .bool .int (@fun x t _ h=>.str x t h) (@fun _ _ _ _ h _ r=>.tup (hs _ _ h) r) (@fun _ _ _ _ h _ r=>.lst (hs _ _ h) r) (@fun _ _ _ _ _ h h2 _ r=>.obj (hs _ _ h) (hs _ _ h2) r) .ref .glo (@fun _ _ _ _ _ _ _ h=>.rng (hs _ _ h)) (@fun _ _ _ h q=>.cst (hs _ _ h) q)
  .nil (@fun _ _ _ _ _ _ a b=>.cons a b) .nil (@fun _ _ _ a=>.unset a) (@fun _ _ _ _ _ _ a b=>.set a b) h,
 fun h=>IsSl.rec (motive_1:=fun v d _=>Is M' v d) (motive_2:=fun v d _=>IsAll M' v d) (motive_3:=fun v d _=>IsSl M' v d)
  .none .bool .int (@fun x t _ h=>.str x t h) (@fun _ _ _ _ h _ r=>.tup (hs _ _ h) r) (@fun _ _ _ _ h _ r=>.lst (hs _ _ h) r) (@fun _ _ _ _ _ h h2 _ r=>.obj (hs _ _ h) (hs _ _ h2) r) .ref .glo (@fun _ _ _ _ _ _ _ h=>.rng (hs _ _ h)) (@fun _ _ _ h q=>.cst (hs _ _ h) q)
  .nil (@fun _ _ _ _ _ _ a b=>.cons a b) .nil (@fun _ _ _ a=>.unset a) (@fun _ _ _ _ _ _ a b=>.set a b) h⟩
theorem Is.mono {M M':Mem} (hs:∀ a o,M a o→M' a o) {v:Value} {d:V} (h:Is M v d):Is M' v d:=(Is.monos hs).1 h
theorem IsAll.mono {M M':Mem} (hs:∀ a o,M a o→M' a o) {vs:List Value} {ds:List V} (h:IsAll M vs ds):IsAll M' vs ds:=(Is.monos hs).2.1 h
theorem IsSl.mono {M M':Mem} (hs:∀ a o,M a o→M' a o) {vs:List (Option Value)} {ds:List V} (h:IsSl M vs ds):IsSl M' vs ds:=(Is.monos hs).2.2 h
section
variable {M:Mem} {x:Value}
noncomputable def IsI (M:Mem) (x:Value) (v:V):Prop:=V.casesOn (motive_1:=fun _=>Prop) v True (x=.none) (fun b=>x=.bool b) (fun i=>∃ t,x=.int i t) (fun s=>∃ y t,x=.str y t∧y.cps.toList=s) (fun ds=>∃ a vs n,x=.ref a∧M a (tupOf vs.toArray n)∧IsAll M vs ds) (fun ds=>∃ a vs n,x=.ref a∧M a (listOf vs.toArray n)∧IsAll M vs ds) (fun C ds=>∃ a dx os,x=.ref a∧M a (insOf C dx os.toArray)∧M dx (dictOf [] 0)∧IsSl M os ds) (fun a=>x=.ref a) (fun v=>x=v) (fun a b c=>∃ r t u v,x=.ref r∧M r (rngOf a b c t u v)) (fun P=>∃ a o,x=.ref a∧M a o∧P a o)
theorem Is.inv {v:V} (h:Is M x v):IsI M x v :=
 Is.casesOn (motive_1:=fun x v _=>IsI M x v) h rfl (fun _=>rfl) (fun _ t=>⟨t,rfl⟩) (@fun y t _ e=>⟨y,t,rfl,e⟩) (@fun _ _ _ _ a b=>⟨_,_,_,rfl,a,b⟩) (@fun _ _ _ _ a b=>⟨_,_,_,rfl,a,b⟩) (@fun _ _ _ _ _ a b c=>⟨_,_,_,rfl,a,b,c⟩) (fun _=>rfl) (fun _=>rfl) (@fun r _ _ _ t u v h=>⟨r,t,u,v,rfl,h⟩) (@fun a o _ h q=>⟨a,o,rfl,h,q⟩)
theorem Is.noneE (h:Is M x .none):x=.none:=h.inv
theorem Is.boolE {b:Bool} (h:Is M x (.bool b)):x=.bool b:=h.inv
theorem Is.intE {i:Int} (h:Is M x (.int i)):∃ t,x=.int i t:=h.inv
theorem Is.strE {s:List Nat} (h:Is M x (.str s)):∃ y t,x=.str y t∧y.cps.toList=s:=h.inv
theorem Is.tupE {ds:List V} (h:Is M x (.tup ds)):∃ a vs n,x=.ref a∧M a (tupOf vs.toArray n)∧IsAll M vs ds:=h.inv
theorem Is.lstE {ds:List V} (h:Is M x (.lst ds)):∃ a vs n,x=.ref a∧M a (listOf vs.toArray n)∧IsAll M vs ds:=h.inv
theorem Is.cstE {P:Addr→Obj→Prop} (h:Is M x (.cst P)):∃ a o,x=.ref a∧M a o∧P a o:=h.inv
theorem Is.noneK {C:Value→Prop} (h:Is M x .none) (k:C .none):C x:=h.noneE.symm ▸ k
theorem Is.intK {C:Value→Prop} {i:Int} (h:Is M x (.int i)) (k:∀ t,C (.int i t)):C x:=h.intE.elim fun t e=>e.symm ▸ k t
theorem Is.strK {C:Value→List Nat→Prop} {s:List Nat} (h:Is M x (.str s)) (k:∀ y t,C (.str y t) y.cps.toList):C x s:=h.strE.elim fun y h=>h.elim fun t h=>h.1.symm ▸ h.2 ▸ k y t
theorem Is.tupK {C:Value→Prop} {ds:List V} (h:Is M x (.tup ds)) (k:∀ a vs n,M a (tupOf vs.toArray n)→IsAll M vs ds→C (.ref a)):C x:=h.tupE.elim fun a h=>h.elim fun vs h=>h.elim fun n h=>h.1.symm ▸ k a vs n h.2.1 h.2.2
theorem Is.ints {y:Value} {C:Value→Value→Prop} {i j:Int} (h:Is M x (.int i)) (h':Is M y (.int j)) (k:∀ t t',C (.int i t) (.int j t')):C x y:=h.intK (C:=fun x=>C x y) fun t=>h'.intK (C:=fun y=>C (.int i t) y) (k t)
theorem Is.strs {y:Value} {C:Value→Value→List Nat→List Nat→Prop} {r s:List Nat} (h:Is M x (.str r)) (h':Is M y (.str s)) (k:∀ a t b u,C (.str a t) (.str b u) a.cps.toList b.cps.toList):C x y r s:=h.strK (C:=fun x r=>C x y r s) fun a t=>h'.strK (C:=fun y s=>C (.str a t) y a.cps.toList s) fun b u=>k a t b u
theorem Is.objE {cl:Addr} {ds:List V} (h:Is M x (.obj cl ds)):∃ a dx os,x=.ref a∧M a (insOf cl dx os.toArray)∧M dx (dictOf [] 0)∧IsSl M os ds:=h.inv
theorem Is.refE {a:Addr} (h:Is M x (.ref a)):x=.ref a:=h.inv
theorem Is.gloE {v:Value} (h:Is M x (.glo v)):x=v:=h.inv
noncomputable def IsAllI (M:Mem) (vs:List Value) (ds:List V):Prop:=List.casesOn (motive:=fun _=>Prop) ds (vs=[]) (fun d ds=>∃ v r,vs=v::r∧Is M v d∧IsAll M r ds)
theorem IsAll.inv {vs:List Value} {ds:List V} (h:IsAll M vs ds):IsAllI M vs ds:=IsAll.casesOn (motive_2:=fun vs ds _=>IsAllI M vs ds) h rfl (@fun _ _ _ _ a b=>⟨_,_,rfl,a,b⟩)
theorem IsAll.nilE {vs:List Value} (h:IsAll M vs []):vs=[]:=h.inv
theorem IsAll.consE {vs:List Value} {d:V} {ds:List V} (h:IsAll M vs (d::ds)):∃ v r,vs=v::r∧Is M v d∧IsAll M r ds:=h.inv
end
set_option genCtorIdx false in
inductive MO where
 | lst (vs:List V)
 | ins (C:Addr) (vs:List V)
 | tab (p:Option Pos)
 | cell (v:V)
noncomputable def MO.ctorIdx (x:MO):Nat:=x.casesOn (fun _=>0) (fun _ _=>1) (fun _=>2) (fun _=>3)
noncomputable abbrev tabOf (p:Pos) (c:Addr):Obj:={ cls:=.none,data:=.fields #[rawInt p.line,rawInt p.col,.ref c] }
noncomputable abbrev tabNone:Obj:={ cls:=.none,data:=.fields #[] }
set_option genInjectivity false in
inductive OIs (M:Mem):Obj→MO→Prop
 | lst {vs:List Value} {n:Nat} {ds:List V}:IsAll M vs ds→OIs M (listOf vs.toArray n) (.lst ds)
 | ins {C dx:Addr} {os:List (Option Value)} {ds:List V}:M dx (dictOf [] 0)→IsSl M os ds→OIs M (insOf C dx os.toArray) (.ins C ds)
 | tab0:OIs M tabNone (.tab .none)
 | tab1 (p:Pos) (c:Addr):OIs M (tabOf p c) (.tab (some p))
 | cell0 {o:Obj}:o.data=.cell Option.none→OIs M o (.cell .unset)
 | cell {o:Obj} {x:Value} {v:V}:o.data=.cell (some x)→Is M x v→OIs M o (.cell v)
noncomputable def OIsI (M:Mem) (o:Obj) (x:MO):Prop:=MO.casesOn (motive:=fun _=>Prop) x (fun ds=>∃ vs n,o=listOf vs.toArray n∧IsAll M vs ds) (fun C ds=>∃ dx os,o=insOf C dx os.toArray∧M dx (dictOf [] 0)∧IsSl M os ds) (fun _=>True) (fun v=>(v=.unset∧o.data=.cell Option.none)∨∃ y,o.data=.cell (some y)∧Is M y v)
theorem OIs.inv {M:Mem} {o:Obj} {x:MO} (h:OIs M o x):OIsI M o x:=OIs.casesOn (motive:=fun o x _=>OIsI M o x) h (fun a=>⟨_,_,rfl,a⟩) (fun a b=>⟨_,_,rfl,a,b⟩) trivial (fun _ _=>trivial) (fun e=>.inl ⟨rfl,e⟩) (fun e i=>.inr ⟨_,e,i⟩)
theorem OIs.lstE {M:Mem} {o:Obj} {ds:List V} (h:OIs M o (.lst ds)):∃ vs n,o=listOf vs.toArray n∧IsAll M vs ds:=h.inv
theorem OIs.insE {M:Mem} {o:Obj} {C:Addr} {ds:List V} (h:OIs M o (.ins C ds)):∃ dx os,o=insOf C dx os.toArray∧M dx (dictOf [] 0)∧IsSl M os ds:=h.inv
theorem OIs.mono {M M':Mem} (hs:∀ a o,M a o→M' a o) {o:Obj} {x:MO} (h:OIs M o x):OIs M' o x:=by
 induction h with
 | lst h=>exact .lst (h.mono hs)
 | ins h h'=>exact .ins (hs _ _ h) (h'.mono hs)
 | tab0=>exact .tab0
 | tab1 p c=>exact .tab1 p c
 | cell0 e=>exact .cell0 e
 | cell e h=>exact .cell e (h.mono hs)
noncomputable abbrev Led:=List (Addr × Obj)
noncomputable abbrev Loc:=List (Str × V)
noncomputable abbrev AH:=List (Addr × MO)
set_option genInjectivity false in
inductive HR (M:Mem):Led→AH→Prop
 | nil:HR M [] []
 | cons {a:Addr} {o:Obj} {x:MO} {led:Led} {H:AH}:OIs M o x→HR M led H→HR M ((a,o)::led) ((a,x)::H)
theorem HR.mono {M M':Mem} (hs:∀ a o,M a o→M' a o) {led:Led} {H:AH} (h:HR M led H):HR M' led H:=by
 induction h with
 | nil=>exact .nil
 | cons h _ ih=>exact .cons (h.mono hs) ih
set_option genInjectivity false in
structure Gx where
 prog:Program
 w:World
 K:Frag
 p:Program
 loose:List Str
 mean:ExcName→Option Value
 mg:Str→Option Value
 mb:Str→Option Value
 B:Heap
set_option genInjectivity false in
structure Gx.Ok (g:Gx):Prop where
 kin:g.K.In g.B
 top:Top g.p g.loose g.mean g.mg g.mb g.B
set_option genInjectivity false in
structure Fx where
 scope:Scope
 globs:List (Str × Value)
 code:Value:=.none
 cells:List (Str × Addr):=[]
set_option genInjectivity false in
structure Cx where
 A:Around
 A₀:Around
 base:Heap
 h₀:Heap
 outer:List Env
 fenv:Env
 env:Env
 L:Addr
 pins:Led
 os:OsState
 keep:Option (Str→Option Value):=Option.none
noncomputable def Cx.mem (g:Gx) (fz:Led):Mem:=fun a o=>(a,o)∈fz∨g.B.get? a=some o
theorem mem_mono {g:Gx} {fz fz':Led} (h:∀ p∈fz,p∈fz'):∀ a o,Cx.mem g fz a o→Cx.mem g fz' a o:=fun _ _ x=>x.elim (fun q=>.inl (h _ q)) .inr
set_option genInjectivity false in
structure Cx.Ok (g:Gx) (Γ:Fx) (d:Nat) (c:Cx):Prop where
 gok:g.Ok
 below:Below c.A₀ c.base c.outer c.h₀
 frames:c.A.frames=some (c.fenv::c.outer)
 handled:c.A.handled=none
 fframe:c.fenv.frame=some c.L
 fkind:c.fenv.scope.kind=.function
 bot:∀ b o,g.B.get? b=some o→c.base.get? b=some o
 scope:c.env.scope=Γ.scope
 kind:c.env.scope.kind=.function
 globals:c.env.globals=mainGlobals
 builtins:c.env.builtins=builtinsNs
 room:c.A.depth+d+8≤recursionLimit
 units:c.A.units+10 * d+200≤cLine
 globs:∀ p∈Γ.globs,Γ.scope.names.lookup p.1=some .globalImplicit∧(p.1==("__debug__":Str))=false ∧
  (g.mg p.1=some p.2∨(g.mg p.1=none∧g.mb p.1=some p.2))
 code:Γ.code=.none∨c.env.code=Γ.code
 cells:Γ.cells=[]∨c.env.cells=Γ.cells
theorem Cx.Ok.stays {g:Gx} {Γ:Fx} {d:Nat} {c:Cx} (ok:c.Ok g Γ d):∀ b o,g.B.get? b=some o→c.h₀.get? b=some o:=fun b o e=>ok.below.stays _ _ (ok.bot _ _ e)
noncomputable def LocOk (sc:Scope) (lo:Loc):Prop:=(lo.map (·.1)).Nodup∧∀ p∈lo,sc.names.lookup p.1=some .local∧(p.1==("__debug__":Str))=false
noncomputable def LocR (M:Mem) (m:Str→Option Value) (lo:Loc):Prop:=∀ p∈lo,p.2=.unset∨∃ v,m p.1=some v∧Is M v p.2
theorem LocR.mono {M M':Mem} (hs:∀ a o,M a o→M' a o) {m:Str→Option Value} {lo:Loc} (h:LocR M m lo):LocR M' m lo :=
 fun p hp=>(h p hp).imp id fun ⟨v,a,b⟩=>⟨v,a,b.mono hs⟩
noncomputable def NsObj (o:Obj) (m:Str→Option Value):Prop:=∃ es ep,o.data=.dict es ep∧StrKeys es∧∀ name,nsFind es name=m name
set_option genInjectivity false in
inductive ClR (c:Cx) (mf:Str→Option Value):(Str→Option Value)→Led→Prop
 | own:c.env.locals=c.L→ClR c mf mf []
 | apart {m:Str→Option Value} {o:Obj}:c.keep=some mf→NsObj o m→ClR c mf m [(c.env.locals,o)]
set_option genInjectivity false in
structure HI (g:Gx) (c:Cx) (lo:Loc) (H:AH) (mf m:Str→Option Value) (cl fz led:Led) (h:Heap):Prop where
 fr:Fr c.h₀ c.L h mf
 clr:ClR c mf m cl
 news:News c.h₀ c.L h (cl++(led++(c.pins++fz)))
 nd:((cl++(led++(c.pins++fz))).map (·.1)).Nodup
 lok:LocOk c.env.scope lo
 loc:LocR (Cx.mem g fz) m lo
 hr:HR (Cx.mem g fz) led H
set_option genInjectivity false in
structure Inv0 (g:Gx) (c:Cx) (lo:Loc) (H:AH) (mf m:Str→Option Value) (cl fz led:Led) (s:Shared):Prop where
 hi:HI g c lo H mf m cl fz led s.heap
 gens:AllBare s.gens
 os:s.os=c.os
set_option genInjectivity false in
structure Inv (g:Gx) (c:Cx) (lo:Loc) (H:AH) (mf m:Str→Option Value) (cl fz led:Led) (s:Shared):Prop where
 hi:HI g c lo H mf m cl fz led s.heap
 gens:AllBare s.gens
 os:s.os=c.os
 tk:1≤s.toks
section
variable {g:Gx} {c:Cx} {lo:Loc} {H:AH} {mf m:Str→Option Value} {cl fz led:Led} {h h':Heap} {s:Shared}
theorem HI.ns (I:HI g c lo H mf m cl fz led h):h.Ns c.env.locals m:=by
 have N:=I.news
 have C:=I.clr
 induction C with
 | own e=>rw [e]; exact I.fr.ns
 | apart _ o=>obtain ⟨es,ep,a,b,q⟩:=o; exact ⟨_,es,ep,(N _ (.head _)).1,a,b,q⟩
theorem HI.of (I:HI g c lo H mf m cl fz led h) (F:Fr c.h₀ c.L h' mf) (N:News c.h₀ c.L h' (cl++(led++(c.pins++fz)))):HI g c lo H mf m cl fz led h' :=
 ⟨F,I.clr,N,I.nd,I.lok,I.loc,I.hr⟩
theorem HI.fresh_lt (I:HI g c lo H mf m cl fz led h):∀ p∈cl++(led++(c.pins++fz)),p.1 < h.objs.size:=fun p hp=>Heap.lt_size (I.news p hp).1
theorem mem_mid {α:Type} {x y:α} {a b:List α} (h:x∈a++(y::b)):x=y∨x∈a++b:=by
 simp only [List.mem_append,List.mem_cons] at h ⊢
 rcases h with h | h | h
 ·exact .inr (.inl h)
 ·exact .inl h
 ·exact .inr (.inr h)
theorem nodup_mid {a b:Led} {l:Addr} {o:Obj} (nd:((a++b).map (·.1)).Nodup) (h:∀ p∈a++b,p.1≠l):((a++((l,o)::b)).map (·.1)).Nodup:=by
 have e:(a++((l,o)::b)).map (·.1)=a.map (·.1)++l::b.map (·.1):=by simp
 rw [e]
 refine (List.perm_middle.nodup_iff).mpr (List.nodup_cons.mpr ⟨fun q=>?_,by simpa using nd⟩)
 rw [← List.map_append] at q
 refine x12 (List.mem_map.mp q) fun p hp e=>?_
 exact h p hp e
theorem HI.addLed (I:HI g c lo H mf m cl fz led h) {l:Addr} {o:Obj} {x:MO} (hx:OIs (Cx.mem g fz) o x) (F:Fr c.h₀ c.L h' mf) (N:News c.h₀ c.L h' ((l,o)::(cl++(led++(c.pins++fz))))) (hl:∀ p∈cl++(led++(c.pins++fz)),p.1≠l) :
  HI g c lo ((l,x)::H) mf m cl fz ((l,o)::led) h':=by
 refine ⟨F,I.clr,?_,?_,I.lok,I.loc,.cons hx I.hr⟩
 ·intro p hp
  rcases mem_mid hp with rfl | hp
  ·exact N _ (.head _)
  ·exact N _ (.tail _ hp)
 ·exact nodup_mid I.nd hl
theorem HI.addFz (I:HI g c lo H mf m cl fz led h) {l:Addr} {o:Obj} (F:Fr c.h₀ c.L h' mf) (N:News c.h₀ c.L h' ((l,o)::(cl++(led++(c.pins++fz))))) (hl:∀ p∈cl++(led++(c.pins++fz)),p.1≠l) :
  HI g c lo H mf m cl ((l,o)::fz) led h':=by
 have e (b:Led):cl++(led++(c.pins++b))=(cl++(led++c.pins))++b:=by simp
 refine ⟨F,I.clr,?_,?_,I.lok,I.loc.mono (mem_mono fun _ hp=>.tail _ hp),I.hr.mono (mem_mono fun _ hp=>.tail _ hp)⟩
 ·intro p hp
  rw [e] at hp
  rcases mem_mid hp with rfl | hp
  ·exact N _ (.head _)
  ·exact N _ (.tail _ (by rw [e]; exact hp))
 ·rw [e]
  exact nodup_mid (by rw [← e]; exact I.nd) (by rw [← e]; exact hl)
theorem HI.newN (I:HI g c lo H mf m cl fz led h) (o:Obj) (hf:autoParam (o.isFreed=false) irfa):News c.h₀ c.L (h.push o) ((h.objs.size,o)::(cl++(led++(c.pins++fz)))):=I.news.push I.fr o hf
theorem HI.newLed (I:HI g c lo H mf m cl fz led h) {o:Obj} {x:MO} (hx:OIs (Cx.mem g fz) o x) (hf:autoParam (o.isFreed=false) irfa):HI g c lo ((h.objs.size,x)::H) mf m cl fz ((h.objs.size,o)::led) (h.push o) :=
 I.addLed hx (I.fr.push o) (I.newN o hf) fun p hp=>Nat.ne_of_lt (I.fresh_lt p hp)
theorem HI.newFz (I:HI g c lo H mf m cl fz led h) (o:Obj) (hf:autoParam (o.isFreed=false) irfa):HI g c lo H mf m cl ((h.objs.size,o)::fz) led (h.push o) :=
 I.addFz (I.fr.push o) (I.newN o hf) fun p hp=>Nat.ne_of_lt (I.fresh_lt p hp)
theorem HI.there (I:HI g c lo H mf m cl fz led h) (k:∀ b o,g.B.get? b=some o→c.h₀.get? b=some o) {a:Addr} {o:Obj} (q:Cx.mem g fz a o):h.get? a=some o:=by
 rcases q with q | q
 ·exact (I.news (a,o) (by simp [q])).1
 ·exact I.fr.keep _ _ (k _ _ q)
theorem HI.thereLed (I:HI g c lo H mf m cl fz led h) {a:Addr} {o:Obj} (q:(a,o)∈led):h.get? a=some o:=(I.news (a,o) (by simp [q])).1
theorem Inv.z (I:Inv g c lo H mf m cl fz led s):Inv0 g c lo H mf m cl fz led s:=⟨I.hi,I.gens,I.os⟩
theorem Inv0.up (I:Inv0 g c lo H mf m cl fz led s) (h:1≤s.toks):Inv g c lo H mf m cl fz led s:=⟨I.hi,I.gens,I.os,h⟩
theorem Inv.toks (I:Inv g c lo H mf m cl fz led s) (k:Nat):Inv0 g c lo H mf m cl fz led { s with toks:=k }:=⟨I.hi,I.gens,I.os⟩
theorem Inv.to (I:Inv g c lo H mf m cl fz led s) {lo':Loc} {H':AH} {mf' m':Str→Option Value} {cl' fz' led':Led} {h':Heap} (k:Nat) (hk:s.toks≤k) (J:HI g c lo' H' mf' m' cl' fz' led' h'):Inv g c lo' H' mf' m' cl' fz' led' { s with heap:=h',toks:=k }:=⟨J,I.gens,I.os,Nat.le_trans I.tk hk⟩
end
set_option genInjectivity false in
inductive WP (g:Gx) {α:Type} (c:Cx) (fz₁:Led) (Q:Led→α→Loc→AH→Prop) (x:α) (s':Shared):Prop
 | mk (lo':Loc) (H':AH) (mf' m':Str→Option Value) (cl' fz' led':Led) (I:Inv g c lo' H' mf' m' cl' fz' led' s') (hs:∀ p∈fz₁,p∈fz') (q:Q fz' x lo' H')
noncomputable def W (g:Gx) {α:Type} (c:Cx) (fz:Led) (t:Sem α) (lo:Loc) (H:AH) (Q:Led→α→Loc→AH→Prop):Prop :=
 ∀ mf m cl fz₁ led s,(∀ p∈fz,p∈fz₁)→Inv g c lo H mf m cl fz₁ led s →
  wpAny (model g.prog g.w) c.A t (WP g c fz₁ Q) (fun _ _=>False) s
section
variable {g:Gx} {c:Cx} {fz:Led} {lo:Loc} {H:AH} {α β:Type}
theorem WP.elim {fz₁:Led} {Q:Led→α→Loc→AH→Prop} {x:α} {s':Shared} (h:WP g c fz₁ Q x s') {P:Prop}
  (k:∀ {lo' H' mf' m' cl' fz' led'},Inv g c lo' H' mf' m' cl' fz' led' s'→(∀ p∈fz₁,p∈fz')→Q fz' x lo' H'→P):P :=
 WP.casesOn (motive:=fun _=>P) h fun _ _ _ _ _ _ _ I hs q=>k I hs q
theorem WP.map {fz₁ fz₀:Led} {Q Q':Led→α→Loc→AH→Prop} {x:α} {s':Shared} (h:WP g c fz₁ Q x s') (h0:∀ p∈fz₀,p∈fz₁) (k:∀ fz' lo' H',(∀ p∈fz₁,p∈fz')→Q fz' x lo' H'→Q' fz' x lo' H'):WP g c fz₀ Q' x s' :=
 h.elim fun I hs q=>.mk _ _ _ _ _ _ _ I (fun p hp=>hs p (h0 p hp)) (k _ _ _ hs q)
theorem W.mono {t:Sem α} {Q Q':Led→α→Loc→AH→Prop} (h:W g c fz t lo H Q) (k:∀ fz' x lo' H',(∀ p∈fz,p∈fz')→Q fz' x lo' H'→Q' fz' x lo' H'):W g c fz t lo H Q' :=
 fun mf m cl fz₁ led s hs I=>wpAny_mono (h mf m cl fz₁ led s hs I) (fun x s' r=>r.map (fun _ x=>x) fun fz' lo' H' hs' q=>k _ _ _ _ (fun p hp=>hs' p (hs p hp)) q) fun _ _ x=>x
theorem W.pure {a:α} {Q:Led→α→Loc→AH→Prop} (h:∀ fz',(∀ p∈fz,p∈fz')→Q fz' a lo H):W g c fz (pure a) lo H Q :=
 fun mf m cl fz₁ led s hs I=>wpAny_pure (.mk lo H mf m cl fz₁ led I (fun _ x=>x) (h _ hs))
theorem W.rest {t:Sem α} {Q:Led→α→Loc→AH→Prop} (h:W g c fz t lo H Q) {mf m:Str→Option Value} {cl fz₁ led:Led} {s:Shared} (hs:∀ p∈fz,p∈fz₁) (I:Inv g c lo H mf m cl fz₁ led s) {fz₀:Led} (h0:∀ p∈fz₀,p∈fz₁) :
  wpAny (model g.prog g.w) c.A t (WP g c fz₀ Q) (fun _ _=>False) s :=
 wpAny_mono (h mf m cl fz₁ led s hs I) (fun _ _ r=>r.map h0 fun _ _ _ _ q=>q) fun _ _ x=>x
theorem W.bind {t:Sem α} {f:α→Sem β} {Q:Led→β→Loc→AH→Prop} (h:W g c fz t lo H (fun fz' x lo' H'=>W g c fz' (f x) lo' H' Q)):W g c fz (t >>= f) lo H Q :=
 fun mf m cl fz₁ led s hs I=>wpAny_bind (wpAny_mono (h mf m cl fz₁ led s hs I) (fun _ _ r=>r.elim fun I' hs' q=>q.rest (fun _ x=>x) I' hs') fun _ _ x=>x)
end
end
section
variable {g:Gx} {c:Cx} {fz:Led} {lo:Loc} {H:AH} {α β:Type}
theorem W.lift {t t':Sem α} {Q:Led→α→Loc→AH→Prop} (h:W g c fz t lo H Q) (k:∀ (Q:α→Shared→Prop) (E:Value→Shared→Prop) (s:Shared),wpAny (model g.prog g.w) c.A t Q E s→wpAny (model g.prog g.w) c.A t' Q E s):W g c fz t' lo H Q :=
 fun mf m cl fz₁ led s hs I=>k _ _ _ (h mf m cl fz₁ led s hs I)
theorem W.holding {t:Sem α} {vs:List Value} {Q:Led→α→Loc→AH→Prop} (h:W g c fz t lo H Q):W g c fz (holding vs t) lo H Q:=h.lift fun _ _ _ x=>wpAny_holding x
theorem W.operate {t:Sem Value} {vs:List Value} {Q:Led→Value→Loc→AH→Prop} (h:W g c fz t lo H Q):W g c fz (operate vs t) lo H Q:=h.lift fun _ _ _ x=>wpAny_operate' x
theorem W.at_ {p:Pos} {t:Sem α} {Q:Led→α→Loc→AH→Prop} (h:W g c fz t lo H Q):W g c fz (standAt p >>= fun _=>t) lo H Q:=h.lift fun _ _ _ x=>wpAny_bind (wpAny_standAt x)
theorem W.now {t:Sem α} {Q:Led→α→Loc→AH→Prop}
  (h:∀ mf m cl fz₁ led s,(∀ p∈fz,p∈fz₁)→Inv g c lo H mf m cl fz₁ led s→∀ (P:α→Shared→Prop) (E:Value→Shared→Prop),(∀ x s',Inv0 g c lo H mf m cl fz₁ led s'→Q fz₁ x lo H→P x s')→wpAny (model g.prog g.w) c.A t P E s):W g c fz t lo H Q :=
 fun mf m cl fz₁ led s hs I=>wpAny_with_toks I.tk (h mf m cl fz₁ led s hs I _ _ fun x s' I' q tk=>.mk lo H mf m cl fz₁ led (I'.up tk) (fun _ x=>x) q)
end
noncomputable abbrev VP (g:Gx) (lo:Loc) (Q:V→AH→Prop):Led→Value→Loc→AH→Prop:=fun fz' x lo' H'=>lo'=lo∧∃ y,Is (Cx.mem g fz') x y∧Q y H'
noncomputable abbrev VPs (g:Gx) (lo:Loc) (Q:List V→AH→Prop):Led→List Value→Loc→AH→Prop:=fun fz' x lo' H'=>lo'=lo∧∃ y,IsAll (Cx.mem g fz') x y∧Q y H'
noncomputable abbrev BP (lo:Loc) (Q:Bool→AH→Prop):Led→Bool→Loc→AH→Prop:=fun fz' x lo' H'=>lo'=lo∧Q x H'
section
variable {g:Gx} {c:Cx} {fz:Led} {lo:Loc} {H:AH} {α β:Type}
theorem W.monoV {t:Sem Value} {Q Q':V→AH→Prop} (h:W g c fz t lo H (VP g lo Q)) (k:∀ v H',Q v H'→Q' v H'):W g c fz t lo H (VP g lo Q') :=
 h.mono fun _ _ _ _ _ q=>⟨q.1,q.2.elim fun y r=>⟨y,r.1,k _ _ r.2⟩⟩
theorem W.elimVs {t:Sem (List Value)} {Q:List V→AH→Prop} {Q':Led→List Value→Loc→AH→Prop} (h:W g c fz t lo H (VPs g lo Q))
  (k:∀ fz₁ x a H₁,(∀ p∈fz,p∈fz₁)→IsAll (Cx.mem g fz₁) x a→Q a H₁→Q' fz₁ x lo H₁):W g c fz t lo H Q' :=
 h.mono fun fz₁ x lo₁ H₁ hs q=>by obtain ⟨e,a,i,q⟩:=q; subst e; exact k _ _ _ _ hs i q
theorem W.bindV {t:Sem Value} {f:Value→Sem β} {Q:V→AH→Prop} {Q':Led→β→Loc→AH→Prop} (h:W g c fz t lo H (VP g lo Q))
  (k:∀ fz₁ x a H₁,(∀ p∈fz,p∈fz₁)→Is (Cx.mem g fz₁) x a→Q a H₁→W g c fz₁ (f x) lo H₁ Q'):W g c fz (t >>= f) lo H Q' :=
 W.bind (h.mono fun fz₁ x lo₁ H₁ hs q=>by obtain ⟨e,a,i,q⟩:=q; subst e; exact k _ _ _ _ hs i q)
theorem W.bindVs {t:Sem (List Value)} {f:List Value→Sem β} {Q:List V→AH→Prop} {Q':Led→β→Loc→AH→Prop} (h:W g c fz t lo H (VPs g lo Q))
  (k:∀ fz₁ x a H₁,(∀ p∈fz,p∈fz₁)→IsAll (Cx.mem g fz₁) x a→Q a H₁→W g c fz₁ (f x) lo H₁ Q'):W g c fz (t >>= f) lo H Q' :=
 W.bind (h.mono fun fz₁ x lo₁ H₁ hs q=>by obtain ⟨e,a,i,q⟩:=q; subst e; exact k _ _ _ _ hs i q)
theorem W.bindB {t:Sem Bool} {f:Bool→Sem β} {Q:Bool→AH→Prop} {Q':Led→β→Loc→AH→Prop} (h:W g c fz t lo H (BP lo Q))
  (k:∀ fz₁ b H₁,(∀ p∈fz,p∈fz₁)→Q b H₁→W g c fz₁ (f b) lo H₁ Q'):W g c fz (t >>= f) lo H Q' :=
 W.bind (h.mono fun fz₁ x lo₁ H₁ hs q=>by obtain ⟨e,q⟩:=q; subst e; exact k _ _ _ hs q)
theorem W.use {t:Sem α} {Q:Led→α→Loc→AH→Prop} {mf m:Str→Option Value} {cl fz₁ led:Led} {s:Shared} (h:W g c fz t lo H Q) (hs:∀ p∈fz,p∈fz₁) (I:Inv g c lo H mf m cl fz₁ led s) {P:α→Shared→Prop} {X:Value→Shared→Prop}
  (k:∀ {x s' lo' H' mf' m' cl' fz' led'},Inv g c lo' H' mf' m' cl' fz' led' s'→(∀ p∈fz₁,p∈fz')→Q fz' x lo' H'→P x s'):wpAny (model g.prog g.w) c.A t P X s :=
 wpAny_mono (h mf m cl fz₁ led s hs I) (fun _ _ r=>r.elim k) fun _ _ x=>x.elim
theorem W.useV {t:Sem Value} {Q:V→AH→Prop} {mf m:Str→Option Value} {cl fz₁ led:Led} {s:Shared} (h:W g c fz t lo H (VP g lo Q)) (hs:∀ p∈fz,p∈fz₁) (I:Inv g c lo H mf m cl fz₁ led s) {P:Value→Shared→Prop} {X:Value→Shared→Prop}
  (k:∀ {x s' H' mf' m' cl' fz' led' a},Inv g c lo H' mf' m' cl' fz' led' s'→(∀ p∈fz₁,p∈fz')→Is (Cx.mem g fz') x a→Q a H'→P x s'):wpAny (model g.prog g.w) c.A t P X s :=
 h.use hs I fun {x s' lo' H' mf' m' cl' fz' led'} I' hs' q=>by obtain ⟨e,a,i,q⟩:=q; subst e; exact k I' hs' i q
end
noncomputable def E (g:Gx) (Γ:Fx) (d:Nat) (e:Expr) (lo:Loc) (H:AH) (Q:V→AH→Prop):Prop :=
 ∀ c,c.Ok g Γ d→∀ fz,W g c fz (eval e c.env) lo H (VP g lo Q)
noncomputable def T (g:Gx) (Γ:Fx) (d:Nat) (e:Expr) (lo:Loc) (H:AH) (Q:Bool→AH→Prop):Prop :=
 ∀ c,c.Ok g Γ d→∀ fz,W g c fz (isTrue e c.env (eval e c.env)) lo H (BP lo Q)
noncomputable def Es (g:Gx) (Γ:Fx) (d:Nat) (es:List Expr) (lo:Loc) (H:AH) (Q:List V→AH→Prop):Prop :=
 ∀ c,c.Ok g Γ d→∀ fz pos,W g c fz (spliced (backTo pos (starEach es c.env))) lo H (VPs g lo Q)
set_option genCtorIdx false in
inductive R where
 | next | brk | cont
 | ret (v:V)
noncomputable def R.ctorIdx (x:R):Nat:=x.casesOn 0 1 2 (fun _=>3)
inductive RIs (M:Mem):Flow→R→Prop
 | next:RIs M .next .next
 | brk:RIs M .brk .brk
 | cont:RIs M .cont .cont
 | ret {v:Value} {d:V}:Is M v d→RIs M (.ret v) (.ret d)
noncomputable abbrev RP (g:Gx) (Q:R→Loc→AH→Prop):Led→Flow→Loc→AH→Prop:=fun fz' x lo' H'=>∃ r,RIs (Cx.mem g fz') x r∧Q r lo' H'
noncomputable def S (g:Gx) (Γ:Fx) (d:Nat) (st:Stmt) (lo:Loc) (H:AH) (Q:R→Loc→AH→Prop):Prop :=
 ∀ c,c.Ok g Γ d→∀ fz,W g c fz (exec st c.env) lo H (RP g Q)
noncomputable def Ss (g:Gx) (Γ:Fx) (d:Nat) (st:List Stmt) (lo:Loc) (H:AH) (Q:R→Loc→AH→Prop):Prop :=
 ∀ c,c.Ok g Γ d→∀ fz,W g c fz (execs st c.env) lo H (RP g Q)
section
variable {g:Gx} {Γ:Fx} {d:Nat} {lo:Loc} {H:AH}
theorem E.mono {e:Expr} {Q Q':V→AH→Prop} (h:E g Γ d e lo H Q) (k:∀ v H',Q v H'→Q' v H'):E g Γ d e lo H Q' :=
 fun c ok fz=>(h c ok fz).monoV k
theorem T.mono {e:Expr} {Q Q':Bool→AH→Prop} (h:T g Γ d e lo H Q) (k:∀ v H',Q v H'→Q' v H'):T g Γ d e lo H Q' :=
 fun c ok fz=>(h c ok fz).mono fun _ _ _ _ _ q=>⟨q.1,k _ _ q.2⟩
theorem RP.map {Q Q':R→Loc→AH→Prop} (k:∀ r lo' H',Q r lo' H'→Q' r lo' H') {fz:Led} {x:Flow} {lo:Loc} {H:AH} (h:RP g Q fz x lo H):RP g Q' fz x lo H:=h.elim fun r p=>⟨r,p.1,k _ _ _ p.2⟩
theorem S.mono {e:Stmt} {Q Q':R→Loc→AH→Prop} (h:S g Γ d e lo H Q) (k:∀ r lo' H',Q r lo' H'→Q' r lo' H'):S g Γ d e lo H Q' :=
 fun c ok fz=>(h c ok fz).mono fun _ _ _ _ _ q=>q.map k
theorem Ss.mono {e:List Stmt} {Q Q':R→Loc→AH→Prop} (h:Ss g Γ d e lo H Q) (k:∀ r lo' H',Q r lo' H'→Q' r lo' H'):Ss g Γ d e lo H Q' :=
 fun c ok fz=>(h c ok fz).mono fun _ _ _ _ _ q=>q.map k
theorem E.int {i:Int} {k:Nat} {pos:Pos} {Q:V→AH→Prop} (h:Q (.int i) H):E g Γ d (.Constant (.int i) k pos) lo H Q :=
 fun c ok fz=>W.now fun mf m cl fz₁ led s hs I P _ k=>wpAny_Constant_int (k _ _ (I.toks _) ⟨rfl,_,.int _ _,h⟩)
theorem E.str {x:Str} {k:Nat} {pos:Pos} {Q:V→AH→Prop} (h:Q (.str x.cps.toList) H):E g Γ d (.Constant (.str x) k pos) lo H Q :=
 fun c ok fz=>W.now fun mf m cl fz₁ led s hs I P _ k=>Constant_str (k _ _ (I.toks _) ⟨rfl,_,.str _ _ rfl,h⟩)
theorem E.bool {b:Bool} {k:Nat} {pos:Pos} {Q:V→AH→Prop} (h:Q (.bool b) H):E g Γ d (.Constant (.bool b) k pos) lo H Q :=
 fun c ok fz=>W.now fun mf m cl fz₁ led s hs I P _ k=>Constant_bool (k _ _ I.z ⟨rfl,_,.bool _,h⟩)
theorem E.none {k:Nat} {pos:Pos} {Q:V→AH→Prop} (h:Q .none H):E g Γ d (.Constant .none k pos) lo H Q :=
 fun c ok fz=>W.now fun mf m cl fz₁ led s hs I P _ k=>Constant_none (k _ _ I.z ⟨rfl,_,.none,h⟩)
theorem loadName_W {c:Cx} {fz:Led} (ok:c.Ok g Γ d) {x:Str} {v:V} {Q:V→AH→Prop} (hm:(x,v)∈lo) (hv:v≠.unset) (h:Q v H):W g c fz (loadName c.env x) lo H (VP g lo Q) :=
 W.now fun mf m cl fz₁ led s hs I P _ k=>by
  rcases I.hi.loc _ hm with e | ⟨cv,e,i⟩
  ·exact absurd e hv
  ·exact wpAny_loadName_local ok.kind (I.hi.lok.2 _ hm).1 I.hi.ns e (k _ _ I.z ⟨rfl,_,i,h⟩)
theorem E.loc {x:Str} {pos:Pos} {v:V} {Q:V→AH→Prop} (hm:(x,v)∈lo) (hv:v≠.unset) (h:Q v H):E g Γ d (.Name x pos) lo H Q :=
 fun c ok fz mf m cl fz₁ led s hs I=>wpAny_Name (loadName_W ok hm hv h mf m cl fz₁ led s hs I) (I.hi.lok.2 _ hm).2
theorem E.glob {x:Str} {pos:Pos} {v:Value} {Q:V→AH→Prop} (hm:(x,v)∈Γ.globs) (h:∀ M,(∀ a o,g.B.get? a=some o→M a o)→∃ y,Is M v y∧Q y H):E g Γ d (.Name x pos) lo H Q :=
 fun c ok fz=>W.now fun mf m cl fz₁ led s hs I P _ k=>by
  refine x03 (ok.globs _ hm) fun h1 h2 h3=>?_
  have T:=ok.gok.top.keeps (fun b o e=>I.hi.fr.keep b o (ok.stays b o e))
  refine Name_function_global ok.kind (by unfold Env.kindOf; rw [ok.scope]; exact h1) ?_ h2
  rcases h3 with h3 | ⟨h3,h4⟩
  ·exact loadGlobal_global (by rw [ok.globals]; exact T.g) h3 (k _ _ I.z ⟨rfl,h _ fun _ _ e=>.inr e⟩)
  ·exact loadGlobal_builtin (by rw [ok.globals]; exact T.g) h3 (by rw [ok.builtins]; exact T.b) h4 (k _ _ I.z ⟨rfl,h _ fun _ _ e=>.inr e⟩)
theorem E.glo {x:Str} {pos:Pos} {v:Value} {Q:V→AH→Prop} (hm:(x,v)∈Γ.globs) (h:Q (.glo v) H):E g Γ d (.Name x pos) lo H Q :=
 E.glob hm fun _ _=>⟨_,.glo v,h⟩
set_option genInjectivity false in
inductive TrueR:V→Bool→Prop
 | none:TrueR .none false
 | bool (b:Bool):TrueR (.bool b) b
 | int (i:Int):TrueR (.int i) (i != 0)
 | str {s:List Nat} (h:s.length < 2 ^ 62):TrueR (.str s) (!s.isEmpty)
 | lst {vs:List V} (h:vs.length < 2 ^ 62):TrueR (.lst vs) (!vs.isEmpty)
 | tup {vs:List V} (h:vs.length < 2 ^ 62):TrueR (.tup vs) (!vs.isEmpty)
noncomputable def TrueM (v:V) (k:Bool→Prop):Prop:=∃ b,TrueR v b∧k b
theorem TrueM.by {v:V} {b:Bool} {k:Bool→Prop} (h:TrueR v b) (q:k b):TrueM v k:=⟨b,h,q⟩
theorem IsAll.length {M:Mem} {vs:List Value} {ds:List V} (h:IsAll M vs ds):vs.length=ds.length:=by
 induction ds generalizing vs with
 | nil=>rw [h.nilE]; rfl
 | cons d ds ih=>obtain ⟨v,r,e,_,h⟩:=h.consE; rw [e,Qb,Qb,ih h]
theorem empty_len {α β:Type} {vs:List α} {ds:List β} (e:vs.length=ds.length):(!vs.toArray.isEmpty)=!ds.isEmpty:=by
 cases vs <;> cases ds <;> first | rfl | exact nomatch e
theorem lt63 {n:Nat} (h:n < 2 ^ 62):(n:Int) < 2 ^ 63:=by exact ar1 (.im (.lt .v0 (.n 4611686018427387904)) (.ilt .v0 (.n 9223372036854775808))) rfl h
theorem len_nz (x:Str):((x.length:Int) != 0)=!x.cps.toList.isEmpty:=by
 have e:x.length=x.cps.toList.length:=by simp [Str.length]
 rw [e]; cases x.cps.toList with
 | nil=>rfl
 | cons a b=>exact bne_iff_ne.mpr (by simp only [List.length_cons]; exact ar1 (.nt (.ieq (.a .v0 .n1) .n0)) rfl)
theorem truthy_W {c:Cx} {fz:Led} (ok:c.Ok g Γ d) {x:Value} {v:V} {Q:Bool→AH→Prop} (i:Is (Cx.mem g fz) x v) (h:TrueM v fun b=>Q b H):W g c fz (truthy x) lo H (BP lo Q) :=
 W.now fun mf m cl fz₁ led s hs I P _ k=>by
  obtain ⟨b,r,q⟩:=h
  have i:=i.mono (mem_mono hs)
  cases r with
  | none=>rw [i.noneE]; exact truthy_none (k _ _ I.z ⟨rfl,q⟩)
  | bool b=>rw [i.boolE]; exact wpAny_truthy_bool (k _ _ I.z ⟨rfl,q⟩)
  | int j=>obtain ⟨t,e⟩:=i.intE; rw [e]; exact PySem.P.truthy_int (k _ _ I.z ⟨rfl,q⟩)
  | str h =>
   refine ob_EEA i.strE fun x t e e2=>?_
   subst e; subst e2
   exact PySem.P.truthy_str (Int.not_le.mpr (by rw [show x.length=x.cps.toList.length by simp [Str.length]]; exact lt63 h)) (k _ _ (I.toks _) ⟨rfl,by rw [len_nz]; exact q⟩)
  | lst h =>
   refine ob_EEEAA i.lstE fun a vs n e hm ha=>?_
   subst e
   have e:=ha.length
   exact wpAny_truthy_list (items:=_) ⟨_,I.hi.there ok.stays hm,rfl,_,rfl⟩ (by rw [List.size_toArray,e]; exact lt63 h) (k _ _ (I.toks _) ⟨rfl,by rw [empty_len e]; exact q⟩)
  | tup h =>
   refine ob_EEEAA i.tupE fun a vs n e hm ha=>?_
   subst e
   have e:=ha.length
   exact truthy_tuple (items:=_) ⟨_,I.hi.there ok.stays hm,rfl,_,rfl⟩ (by rw [List.size_toArray,e]; exact lt63 h) (k _ _ (I.toks _) ⟨rfl,by rw [empty_len e]; exact q⟩)
end
section
set_option genSizeOf false
set_option genInjectivity false
noncomputable def pd (v:V):PyData:=V.rec (motive_1:=fun _=>PyData) (motive_2:=fun _=>List PyData) .none .none .bool .int (fun s=>.str ⟨s.toArray⟩) (fun _=>.tuple) (fun _=>.list) (fun _ _ _=>.none) (fun _=>.none) (fun _=>.none) (fun _ _ _=>.none) (fun _=>.none) [] (fun _ _=>.cons) v
noncomputable def pds (v:List V):List PyData:=V.rec_1 (motive_1:=fun _=>PyData) (motive_2:=fun _=>List PyData) .none .none .bool .int (fun s=>.str ⟨s.toArray⟩) (fun _=>.tuple) (fun _=>.list) (fun _ _ _=>.none) (fun _=>.none) (fun _=>.none) (fun _ _ _=>.none) (fun _=>.none) [] (fun _ _=>.cons) v
noncomputable def isDs (f:List V→Bool) (v:V):Bool:=V.casesOn v false true (fun _=>true) (fun _=>true) (·.all (· < 0x110000)) f f (fun _ _=>false) (fun _=>false) (fun _=>false) (fun _ _ _=>false) (fun _=>false)
noncomputable def isD (n:Nat):V→Bool:=Nat.rec (isDs fun _=>false) (fun _ ih=>isDs (·.all ih)) n
theorem isD_tup {n:Nat} {ds:List V} (h:isD n (.tup ds)=true):∃ m,n=m+1∧∀ v∈ds,isD m v=true:=by
 cases n with
 | zero=>exact absurd h bn
 | succ m=>exact ⟨m,rfl,Qr h⟩
theorem isD_lst {n:Nat} {ds:List V} (h:isD n (.lst ds)=true):∃ m,n=m+1∧∀ v∈ds,isD m v=true:=by
 cases n with
 | zero=>exact absurd h bn
 | succ m=>exact ⟨m,rfl,Qr h⟩
theorem isD_not {n:Nat} {v:V} (h:isD n v=true):(∀ C vs,v≠.obj C vs)∧(∀ a,v≠.ref a)∧(∀ x,v≠.glo x)∧(∀ a b c,v≠.rng a b c)∧(∀ P,v≠.cst P):=by
 refine ⟨fun C vs e=>?_,fun a e=>?_,fun x e=>?_,fun a b c e=>?_,fun P e=>?_⟩ <;> (subst e; cases n <;> exact absurd h bn)
section
variable {M:Mem} {h:Heap}
theorem Is.reads (k:∀ a o,M a o→h.get? a=some o) {x:Value} {v:V} (n:Nat) (i:Is M x v) (e:isD n v=true):∃ as,Reads h x (pd v) as :=
 Is.rec (M:=M) (motive_1:=fun x v _=>∀ n,isD n v=true→∃ as,Reads h x (pd v) as) (motive_2:=fun xs vs _=>∀ n,(∀ v∈vs,isD n v=true)→∃ as,ReadsAll h xs (pds vs) as) (motive_3:=fun _ _ _=>True)
  (fun _ _=>⟨_,.none⟩) (fun b _ _=>⟨_,.bool b⟩) (fun i t _ _=>⟨_,.int i t⟩) (@fun x t _ e _ _=>by subst e; exact ⟨_,.str x t⟩)
  (@fun _ _ _ _ hm _ r n e=>by obtain ⟨m,_,e⟩:=isD_tup e; obtain ⟨as,q⟩:=r m e; exact ⟨_,reads_tuple_at (k _ _ hm) rfl rfl q⟩)
  (@fun _ _ _ _ hm _ r n e=>by obtain ⟨m,_,e⟩:=isD_lst e; obtain ⟨as,q⟩:=r m e; exact ⟨_,reads_list_at (k _ _ hm) rfl rfl q⟩)
  (fun _ _ _ _ n e=>absurd rfl ((isD_not e).1 _ _)) (fun a n e=>absurd rfl ((isD_not e).2.1 _)) (fun a n e=>absurd rfl ((isD_not e).2.2.1 _)) (@fun _ _ _ _ _ _ _ _ n e=>absurd rfl ((isD_not e).2.2.2.1 _ _ _)) (@fun _ _ _ _ _ n e=>absurd rfl ((isD_not e).2.2.2.2 _))
  (fun _ _=>⟨_,.nil⟩) (@fun _ _ _ _ _ _ a b n e=>by obtain ⟨as,q⟩:=a n (e _ (.head _)); obtain ⟨bs,p⟩:=b n fun v hv=>e v (.tail _ hv); exact ⟨_,.cons q p⟩)
  trivial (fun _ _=>trivial) (fun _ _ _ _=>trivial) i n e
end
theorem isD_lays {n:Nat} (ih:∀ v,isD n v=true→(pd v).canLay0=true∧(pd v).depth≤n):∀ vs:List V,vs.all (isD n)=true→PyData.canLayAll0 (pds vs)=true∧PyData.depthAll (pds vs)≤n
 | [],_=>⟨rfl,Nat.zero_le _⟩
 | v::vs,h =>
  have h:=Bool.and_eq_true_iff.mp h
  have a:=ih v h.1
  have b:=isD_lays ih vs h.2
  ⟨Bool.and_eq_true_iff.mpr ⟨a.1,b.1⟩,Nat.max_le.mpr ⟨a.2,b.2⟩⟩
theorem isDs_lay {n:Nat} {f:List V→Bool} (h:∀ vs,f vs=true→PyData.canLayAll0 (pds vs)=true∧PyData.depthAll (pds vs)+1≤n) (v:V):isDs f v=true→(pd v).canLay0=true∧(pd v).depth≤n :=
 V.casesOn (motive_1:=fun v=>isDs f v=true→(pd v).canLay0=true∧(pd v).depth≤n) v (fun h=>absurd h bn) (fun _=>⟨rfl,Nat.zero_le _⟩) (fun _ _=>⟨rfl,Nat.zero_le _⟩) (fun _ _=>⟨rfl,Nat.zero_le _⟩) (fun _ e=>⟨List.all_toArray.trans e,Nat.zero_le _⟩) h h (fun _ _ h=>absurd h bn) (fun _ h=>absurd h bn) (fun _ h=>absurd h bn) (fun _ _ _ h=>absurd h bn) (fun _ h=>absurd h bn)
theorem isD_lay (n:Nat):∀ v:V,isD n v=true→(pd v).canLay0=true∧(pd v).depth≤n:=by
 induction n with
 | zero=>exact isDs_lay fun _ h=>absurd h bn
 | succ n ih=>exact isDs_lay fun vs h=>⟨(isD_lays ih vs h).1,Nat.succ_le_succ (isD_lays ih vs h).2⟩
theorem isD_shaped {v:V} (h:isD 64 v=true):PySem.SeqAt.shaped (pd v)=true:=by
 have q:=isD_lay 64 v h
 unfold PySem.SeqAt.shaped
 rw [q.1,Qo]; exact Qs q.2
noncomputable def inStr (x y:List Nat):Bool:=!(Builtin.Str.occurrences ⟨y.toArray⟩ ⟨x.toArray⟩ 0 y.length 1).isEmpty
theorem inStr_one (c:Nat) (y:List Nat):inStr [c] y=y.contains c:=by
 have:=StrLaws.found_one ⟨y.toArray⟩ c
 unfold inStr
 have e:(⟨y.toArray⟩:Str).length=y.length:=by simp [Str.length]
 rw [e] at this
 rw [this]
 simp
noncomputable def eqStr (x:List Nat):V→Bool
 | .str y=>y==x
 | _=>false
noncomputable def allStr:List V→Bool
 | []=>true
 | .str _::r=>allStr r
 | _=>false
theorem strsAre_of {M:Mem} {xs:List Value} {vs:List V} (i:IsAll M xs vs) (h:allStr vs=true):∃ ys,StrsAre xs ys∧∀ x:Str,ys.any (·==x)=vs.any (eqStr x.cps.toList):=by
 induction vs generalizing xs with
 | nil=>rw [i.nilE]; exact ⟨[],.nil,fun _=>rfl⟩
 | cons v vs ih =>
  refine ob_EEAA i.consE fun x r e i' j=>?_
  subst e
  cases v with
  | str s =>
   refine ob_EEA i'.strE fun y t e e2=>?_
   subst e; subst e2
   refine x12 (ih j h) fun ys a b=>?_
   refine ⟨y::ys,.cons y t a,fun x=>?_⟩
   rw [List.any_cons,List.any_cons,b x]
   exact congrArg (·||_) (eq_meets y x).symm
  | _=>exact absurd h bn
inductive isNo:V→Prop
 | int (i:Int):isNo (.int i)
 | str (s:List Nat):isNo (.str s)
 | tup (s:List V):isNo (.tup s)
inductive CmpR:CmpOp→V→V→Bool→Prop
 | nz (b:Nat):CmpR .Lt (.int 0) (.int (b:Int)) (decide (0 < b))
 | nlt (a b:Nat):CmpR .Lt (.int (a:Int)) (.int (b:Int)) (decide (a < b))
 | nle (a b:Nat):CmpR .LtE (.int (a:Int)) (.int (b:Int)) (decide (a≤b))
 | ngt (a b:Nat):CmpR .Gt (.int (a:Int)) (.int (b:Int)) (decide (a > b))
 | nge (a b:Nat):CmpR .GtE (.int (a:Int)) (.int (b:Int)) (decide (a ≥ b))
 | ieq (i j:Int):CmpR .Eq (.int i) (.int j) (i==j)
 | ine (i j:Int):CmpR .NotEq (.int i) (.int j) (i != j)
 | ilt (i j:Int):CmpR .Lt (.int i) (.int j) (decide (i < j))
 | ile (i j:Int):CmpR .LtE (.int i) (.int j) (decide (i≤j))
 | igt (i j:Int):CmpR .Gt (.int i) (.int j) (decide (i > j))
 | ige (i j:Int):CmpR .GtE (.int i) (.int j) (decide (i ≥ j))
 | seq (x y:List Nat):CmpR .Eq (.str x) (.str y) (x==y)
 | sne (x y:List Nat):CmpR .NotEq (.str x) (.str y) (x != y)
 | sle (x y:List Nat):CmpR .LtE (.str x) (.str y) (!decide (y < x))
 | sno (x:List Nat):CmpR .Eq (.str x) .none false
 | sin (x y:List Nat):CmpR .In (.str x) (.str y) (inStr x y)
 | snin (x y:List Nat):CmpR .NotIn (.str x) (.str y) (!inStr x y)
 | tin (x:List Nat) {vs:List V} (h:allStr vs=true):CmpR .In (.str x) (.tup vs) (vs.any (eqStr x))
 | tnin (x:List Nat) {vs:List V} (h:allStr vs=true):CmpR .NotIn (.str x) (.tup vs) (!vs.any (eqStr x))
 | isn:CmpR .Is .none .none true
 | isnn:CmpR .IsNot .none .none false
 | ano {a:V} (h:isNo a):CmpR .Is a .none false
 | anno {a:V} (h:isNo a):CmpR .IsNot a .none true
 | deq {x y:V} (h:isD 64 x=true) (h':isD 64 y=true):CmpR .Eq x y (PyData.eqv (pd x) (pd y))
 | dne {x y:V} (h:isD 64 x=true) (h':isD 64 y=true):CmpR .NotEq x y (!PyData.eqv (pd x) (pd y))
 | sgt (x y:List Nat):CmpR .Gt (.str x) (.str y) (decide (y < x))
 | lin (x:List Nat) {vs:List V} (h:allStr vs=true):CmpR .In (.str x) (.lst vs) (vs.any (eqStr x))
 | lnin (x:List Nat) {vs:List V} (h:allStr vs=true):CmpR .NotIn (.str x) (.lst vs) (!vs.any (eqStr x))
noncomputable def CmpM (op:CmpOp) (a b:V) (k:Bool→Prop):Prop:=∃ r,CmpR op a b r∧k r
theorem CmpM.by {op:CmpOp} {a b:V} {r:Bool} {k:Bool→Prop} (h:CmpR op a b r) (q:k r):CmpM op a b k:=⟨r,h,q⟩
theorem CmpM.mono {op:CmpOp} {a b:V} {k k':Bool→Prop} (h:CmpM op a b k) (q:∀ r,k r→k' r):CmpM op a b k':=h.elim fun r h=>⟨r,h.1,q _ h.2⟩
section
variable {g:Gx} {Γ:Fx} {d:Nat} {lo:Loc} {H:AH} {c:Cx} {fz:Led}
theorem str_sub (x y:Str):(!(Builtin.Str.occurrences y x 0 y.length 1).isEmpty)=inStr x.cps.toList y.cps.toList:=by
 unfold inStr
 have e:y.length=y.cps.toList.length:=by simp [Str.length]
 rw [e]
theorem isNo_is {M:Mem} {x:Value} {a:V} (i:Is M x a) (h:isNo a):plainIs x .none=true∧(x==Value.none)=false:=by
 induction h with
 | int j=>exact i.intK (C:=fun x=>plainIs x .none=true∧(x==Value.none)=false) fun t=>⟨rfl,rfl⟩
 | str s=>exact i.strK (C:=fun x _=>plainIs x .none=true∧(x==Value.none)=false) fun y t=>⟨rfl,rfl⟩
 | tup s=>exact i.tupK (C:=fun x=>plainIs x .none=true∧(x==Value.none)=false) fun _ _ _ _ _=>⟨rfl,rfl⟩
theorem dcI {C:Bool→Prop} {p q:Prop} [Decidable p] [Decidable q] (h:p ↔ q) (k:C (decide q)):C (decide p):=(decide_eq_decide.mpr h).symm ▸ k
theorem dcE {C:Bool→Prop} {a b:Bool} (h:a=b) (k:C b):C a:=h.symm ▸ k
theorem cmp_core {prog:Program} {w:World} {A:Around} {X:Value→Shared→Prop} {s:Shared} {P:Value→Shared→Prop} {M:Mem} (th:∀ a o,M a o→s.heap.get? a=some o) (u:A.units+64 < cLine) {op:CmpOp} {x y:Value} {a b:V} {r:Bool} (i:Is M x a) (j:Is M y b) (h:CmpR op a b r) (q:P (.bool r) s):wpAny (model prog w) A (compareOp op x y) P X s :=
 CmpR.casesOn (motive:=fun op a b r _=>Is M x a→Is M y b→P (.bool r) s→wpAny (model prog w) A (compareOp op x y) P X s) h
  (fun b i j q=>i.ints j (C:=fun x y=>wpAny (model prog w) A (compareOp .Lt x y) P X s) fun _ _=>PySem.P.lt_int (dcI (C:=fun r=>P (.bool r) s) Int.natCast_pos q))
  (fun a b i j q=>i.ints j (C:=fun x y=>wpAny (model prog w) A (compareOp .Lt x y) P X s) fun _ _=>PySem.P.lt_int (dcI (C:=fun r=>P (.bool r) s) Int.ofNat_lt q))
  (fun a b i j q=>i.ints j (C:=fun x y=>wpAny (model prog w) A (compareOp .LtE x y) P X s) fun _ _=>PySem.P.le_int (dcI (C:=fun r=>P (.bool r) s) Int.ofNat_le q))
  (fun a b i j q=>i.ints j (C:=fun x y=>wpAny (model prog w) A (compareOp .Gt x y) P X s) fun _ _=>PySem.P.gt_int (dcI (C:=fun r=>P (.bool r) s) Int.ofNat_lt q))
  (fun a b i j q=>i.ints j (C:=fun x y=>wpAny (model prog w) A (compareOp .GtE x y) P X s) fun _ _=>PySem.P.ge_int (dcI (C:=fun r=>P (.bool r) s) Int.ofNat_le q))
  (fun _ _ i j q=>i.ints j (C:=fun x y=>wpAny (model prog w) A (compareOp .Eq x y) P X s) fun _ _=>PySem.P.eq_int q) (fun _ _ i j q=>i.ints j (C:=fun x y=>wpAny (model prog w) A (compareOp .NotEq x y) P X s) fun _ _=>PySem.P.ne_int q)
  (fun _ _ i j q=>i.ints j (C:=fun x y=>wpAny (model prog w) A (compareOp .Lt x y) P X s) fun _ _=>PySem.P.lt_int q) (fun _ _ i j q=>i.ints j (C:=fun x y=>wpAny (model prog w) A (compareOp .LtE x y) P X s) fun _ _=>PySem.P.le_int q)
  (fun _ _ i j q=>i.ints j (C:=fun x y=>wpAny (model prog w) A (compareOp .Gt x y) P X s) fun _ _=>PySem.P.gt_int q) (fun _ _ i j q=>i.ints j (C:=fun x y=>wpAny (model prog w) A (compareOp .GtE x y) P X s) fun _ _=>PySem.P.ge_int q)
  (fun _ _ i j=>i.strs j (C:=fun x y s' t=>P (.bool (s'==t)) s→wpAny (model prog w) A (compareOp .Eq x y) P X s) fun _ _ _ _=>PySem.P.eq_str)
  (fun _ _ i j=>i.strs j (C:=fun x y s' t=>P (.bool (s' != t)) s→wpAny (model prog w) A (compareOp .NotEq x y) P X s) fun _ _ _ _=>PySem.P.ne_str)
  (fun _ _ i j=>i.strs j (C:=fun x y s' t=>P (.bool (!decide (t < s'))) s→wpAny (model prog w) A (compareOp .LtE x y) P X s) fun _ _ _ _=>PySem.P.le_str)
  (fun _ i j=>i.strK (C:=fun x _=>P (.bool false) s→wpAny (model prog w) A (compareOp .Eq x y) P X s) fun z t q=>j.noneK (C:=fun y=>wpAny (model prog w) A (compareOp .Eq (.str z t) y) P X s) (EqNone.eq_str_none q))
  (fun _ _ i j=>i.strs j (C:=fun x y s' t=>P (.bool (inStr s' t)) s→wpAny (model prog w) A (compareOp .In x y) P X s) fun _ _ _ _ q=>PySem.P.in_str (dcE (C:=fun r=>P (.bool r) s) (str_sub _ _) q))
  (fun _ _ i j=>i.strs j (C:=fun x y s' t=>P (.bool (!inStr s' t)) s→wpAny (model prog w) A (compareOp .NotIn x y) P X s) fun _ _ _ _ q=>PySem.P.notIn_str (dcE (C:=fun r=>P (.bool (!r)) s) (str_sub _ _) q))
  (fun _ {vs} h i j=>i.strK (C:=fun x s'=>P (.bool (vs.any (eqStr s'))) s→wpAny (model prog w) A (compareOp .In x y) P X s) fun x t q=>j.tupK (C:=fun y=>wpAny (model prog w) A (compareOp .In (.str x t) y) P X s) fun _ _ _ hm ha=>(strsAre_of ha h).elim fun _ p=>in_tuple_strs ⟨_,th _ _ hm,rfl,_,rfl⟩ p.1 (dcE (C:=fun r=>P (.bool r) s) (p.2 _) q))
  (fun _ {vs} h i j=>i.strK (C:=fun x s'=>P (.bool (!vs.any (eqStr s'))) s→wpAny (model prog w) A (compareOp .NotIn x y) P X s) fun x t q=>j.tupK (C:=fun y=>wpAny (model prog w) A (compareOp .NotIn (.str x t) y) P X s) fun _ _ _ hm ha=>(strsAre_of ha h).elim fun _ p=>notin_tuple_strs ⟨_,th _ _ hm,rfl,_,rfl⟩ p.1 (dcE (C:=fun r=>P (.bool (!r)) s) (p.2 _) q))
  (fun i j q=>i.noneK (C:=fun x=>wpAny (model prog w) A (compareOp .Is x y) P X s) (j.noneK (C:=fun y=>wpAny (model prog w) A (compareOp .Is .none y) P X s) (wpAny_is_plain rfl q))) (fun i j q=>i.noneK (C:=fun x=>wpAny (model prog w) A (compareOp .IsNot x y) P X s) (j.noneK (C:=fun y=>wpAny (model prog w) A (compareOp .IsNot .none y) P X s) (wpAny_isNot_plain rfl q)))
  (fun h i j q=>j.noneK (C:=fun y=>wpAny (model prog w) A (compareOp .Is x y) P X s) (wpAny_is_plain (isNo_is i h).1 (dcE (C:=fun r=>P (.bool r) s) (isNo_is i h).2 q)))
  (fun h i j q=>j.noneK (C:=fun y=>wpAny (model prog w) A (compareOp .IsNot x y) P X s) (wpAny_isNot_plain (isNo_is i h).1 (dcE (C:=fun r=>P (.bool (!r)) s) (isNo_is i h).2 q)))
  (fun h h' i j q=>(i.reads th 64 h).elim fun _ ra=>(j.reads th 64 h').elim fun _ rb=>eq_dataH ra rb (isD_shaped h) (isD_shaped h') u q)
  (fun h h' i j q=>(i.reads th 64 h).elim fun _ ra=>(j.reads th 64 h').elim fun _ rb=>ne_dataH ra rb (isD_shaped h) (isD_shaped h') u q)
  (fun _ _ i j=>i.strs j (C:=fun x y s' t=>P (.bool (decide (t < s'))) s→wpAny (model prog w) A (compareOp .Gt x y) P X s) fun _ _ _ _=>PySem.P.gt_str)
  (fun _ {vs} h i j=>i.strK (C:=fun x s'=>P (.bool (vs.any (eqStr s'))) s→wpAny (model prog w) A (compareOp .In x y) P X s) fun x t q=>j.lstE.elim fun _ r=>r.elim fun _ r=>r.elim fun _ r=>by
   rw [r.1]; exact (strsAre_of r.2.2 h).elim fun _ p=>in_list_strs ⟨_,th _ _ r.2.1,rfl,_,rfl⟩ p.1 (dcE (C:=fun r=>P (.bool r) s) (p.2 _) q))
  (fun _ {vs} h i j=>i.strK (C:=fun x s'=>P (.bool (!vs.any (eqStr s'))) s→wpAny (model prog w) A (compareOp .NotIn x y) P X s) fun x t q=>j.lstE.elim fun _ r=>r.elim fun _ r=>r.elim fun _ r=>by
   rw [r.1]; exact (strsAre_of r.2.2 h).elim fun _ p=>notin_list_strs ⟨_,th _ _ r.2.1,rfl,_,rfl⟩ p.1 (dcE (C:=fun r=>P (.bool (!r)) s) (p.2 _) q)) i j q
theorem units64 {a d:Nat} (h:a+10 * d+200≤cLine):a+64 < cLine:=by exact ar3 (.im (.le (.a (.a .v0 (.m 10 .v2)) (.n 200)) .v1) (.lt (.a .v0 (.n 64)) .v1)) rfl h
theorem cmp_W (ok:c.Ok g Γ d) {op:CmpOp} {x y:Value} {a b:V} {Q:V→AH→Prop} (i:Is (Cx.mem g fz) x a) (j:Is (Cx.mem g fz) y b) (h:CmpM op a b fun r=>Q (.bool r) H):W g c fz (compareOp op x y) lo H (VP g lo Q) :=
 W.now fun mf m cl fz₁ led s hs I P _ k=>h.elim fun r h =>
  cmp_core (fun a o=>I.hi.there ok.stays) (units64 ok.units) (i.mono (mem_mono hs)) (j.mono (mem_mono hs)) h.1 (k _ _ I.z ⟨rfl,_,.bool r,h.2⟩)
end
end
section
variable {g:Gx} {c:Cx} {fz:Led} {lo:Loc} {H:AH} {α:Type}
theorem W.grown {t:Sem α} {Q:Led→α→Loc→AH→Prop}
  (h:∀ mf m cl fz₁ led s,(∀ p∈fz,p∈fz₁)→Inv g c lo H mf m cl fz₁ led s→∀ (P:α→Shared→Prop) (E:Value→Shared→Prop),(∀ x h' k,HI g c lo H mf m cl fz₁ led h'→Q fz₁ x lo H→P x { s with heap:=h',toks:=k })→wpAny (model g.prog g.w) c.A t P E s):W g c fz t lo H Q :=
 fun mf m cl fz₁ led s hs I=>wpAny_with_toks I.tk (h mf m cl fz₁ led s hs I _ _ fun x h' k J q tk=>.mk lo H mf m cl fz₁ led ⟨J,I.gens,I.os,tk⟩ (fun _ x=>x) q)
theorem W.frozen {t:Sem Value} {Q:Led→Value→Loc→AH→Prop}
  (h:∀ mf m cl fz₁ led s,(∀ p∈fz,p∈fz₁)→Inv g c lo H mf m cl fz₁ led s→∀ (P:Value→Shared→Prop) (E:Value→Shared→Prop),(∀ o,o.isFreed=false→Q ((s.heap.objs.size,o)::fz₁) (.ref s.heap.objs.size) lo H→P (.ref s.heap.objs.size) { s with heap:=s.heap.push o })→wpAny (model g.prog g.w) c.A t P E s):W g c fz t lo H Q :=
 fun mf m cl fz₁ led s hs I=>h mf m cl fz₁ led s hs I _ _ fun o hf q=>.mk lo H mf m cl _ led (I.to s.toks (Qd _) (I.hi.newFz o hf)) (fun _ x=>.tail _ x) q
theorem W.alive {t:Sem Value} {Q:Led→Value→Loc→AH→Prop}
  (h:∀ mf m cl fz₁ led s,(∀ p∈fz,p∈fz₁)→Inv g c lo H mf m cl fz₁ led s→∀ (P:Value→Shared→Prop) (E:Value→Shared→Prop),(∀ o x,OIs (Cx.mem g fz₁) o x→o.isFreed=false→Q fz₁ (.ref s.heap.objs.size) lo ((s.heap.objs.size,x)::H)→P (.ref s.heap.objs.size) { s with heap:=s.heap.push o })→wpAny (model g.prog g.w) c.A t P E s):W g c fz t lo H Q :=
 fun mf m cl fz₁ led s hs I=>h mf m cl fz₁ led s hs I _ _ fun o x hx hf q=>.mk lo _ mf m cl fz₁ _ (I.to s.toks (Qd _) (I.hi.newLed hx hf)) (fun _ x=>x) q
end
noncomputable def slc {α:Type} (s:List α) (l u:Option Int):List α:=(s.drop (l.elim 0 (clipAt s.length))).take (u.elim s.length (clipAt s.length) - l.elim 0 (clipAt s.length))
theorem clipAt_le (n:Nat) (i:Int):clipAt n i≤n:=by have:=clipAt_cast n i; exact AR.h333 this
theorem strIdx (l u:Option Int) (n:Nat):Builtin.Str.strSliceIndices l u 1 n=sliceRange ((l.elim 0 (clipAt n):Nat)) ((u.elim n (clipAt n):Nat)) 1:=by
 cases l <;> cases u <;> simp [Builtin.Str.strSliceIndices,clipAt_cast]
set_option tactic.hygienic true in
theorem txt_slice (x:Str) (l u:Option Int):(Txt.slice x l u).cps.toList=slc x.cps.toList l u:=by
 unfold Txt.slice
 have e:(Builtin.Str.strSliceIndices l u 1 x.length).filterMap (x.cps[·]?)=slc x.cps.toList l u:=by
  rw [strIdx,sliceRange_one,pick_run]
  unfold slc Str.length
  simp
 split
 ·rename_i h
  have h:(Builtin.Str.strSliceIndices l u 1 x.length).length=x.length:=by simpa using h
  rw [← e]
  rw [strIdx,sliceRange_one,List.length_map,List.length_range] at h
  rw [strIdx,sliceRange_one,pick_run]
  have a1:l.elim 0 (clipAt x.length)≤x.length:=by cases l with | none=>exact Nat.zero_le _ | some i=>exact clipAt_le _ _
  have a2:u.elim x.length (clipAt x.length)≤x.length:=by cases u with | none=>exact Qd _ | some i=>exact clipAt_le _ _
  have a3:l.elim 0 (clipAt x.length)=0:=by exact ar3 (.im (.eq (.s .v1 .v0) .v2) (.im (.le .v1 .v2) (.im (.le .v0 .v2) (.eq .v0 .n0)))) rfl h a2 a1
  rw [h,a3,List.drop_zero,List.take_of_length_le (by simp [Str.length])]
 ·simpa using e
set_option genInjectivity false in
inductive BinR:Operator→V→V→V→Prop
 | n1 (a:Nat):BinR .Add (.int (a:Int)) (.int 1) (.int ((a+1:Nat):Int))
 | n2 (a:Nat):BinR .Add (.int (a:Int)) (.int 2) (.int ((a+2:Nat):Int))
 | n3 (a:Nat):BinR .Add (.int (a:Int)) (.int 3) (.int ((a+3:Nat):Int))
 | n4 (a:Nat):BinR .Add (.int (a:Int)) (.int 4) (.int ((a+4:Nat):Int))
 | n6 (a:Nat):BinR .Add (.int (a:Int)) (.int 6) (.int ((a+6:Nat):Int))
 | nn (a b:Nat):BinR .Add (.int (a:Int)) (.int (b:Int)) (.int ((a+b:Nat):Int))
 | iadd (i j:Int):BinR .Add (.int i) (.int j) (.int (i+j))
 | isub (i j:Int):BinR .Sub (.int i) (.int j) (.int (i - j))
 | imod (i:Int) {j:Int} (h:j≠0):BinR .Mod (.int i) (.int j) (.int (i.fmod j))
 | ifdiv (i:Int) {j:Int} (h:j≠0) (h':Builtin.divisionGoesByPylong i j=false):BinR .FloorDiv (.int i) (.int j) (.int (i.fdiv j))
 | imul {i j:Int} (h:IntMulOk i j):BinR .Mult (.int i) (.int j) (.int (i * j))
 | smul {x:List Nat} {n:Int} (h0:0≤n) (h1:n < 1000) (h2:x.length≤1000):BinR .Mult (.str x) (.int n) (.str (List.replicate n.toNat x).flatten)
 | sadd {x y:List Nat} (h:x.length+y.length≤sizeLine):BinR .Add (.str x) (.str y) (.str (x++y))
theorem BinR.addC {C:V→V→V→Prop} {a b r:V} (h:BinR .Add a b r) (k1:∀ i j,C (.int i) (.int j) (.int (i+j))) (k2:∀ x y,x.length+y.length≤sizeLine→C (.str x) (.str y) (.str (x++y))):C a b r :=
 BinR.casesOn (motive:=fun op a b r _=>op=.Add→C a b r) h (fun _ _=>k1 _ _) (fun _ _=>k1 _ _) (fun _ _=>k1 _ _) (fun _ _=>k1 _ _) (fun _ _=>k1 _ _) (fun _ _ _=>k1 _ _) (fun _ _ _=>k1 _ _) (fun _ _ e=>Operator.noConfusion e) (fun _ _ _ e=>Operator.noConfusion e) (fun _ _ _ _ e=>Operator.noConfusion e) (fun _ e=>Operator.noConfusion e) (fun _ _ _ e=>Operator.noConfusion e) (fun h _=>k2 _ _ h) rfl
noncomputable def BinM (op:Operator) (a b:V) (k:V→Prop):Prop:=∃ r,BinR op a b r∧k r
theorem BinM.by {op:Operator} {a b r:V} {k:V→Prop} (h:BinR op a b r) (q:k r):BinM op a b k:=⟨r,h,q⟩
theorem foldl_app (x:Array Nat) (n:Nat) (a:Array Nat):((List.replicate n x).foldl (·++·) a).toList=a.toList++(List.replicate n x.toList).flatten:=by
 induction n generalizing a with
 | zero=>simp
 | succ n ih=>rw [List.replicate_succ,List.foldl_cons,ih]; simp [List.replicate_succ]
theorem mulOk_small {x:Str} {n:Int} (h0:0≤n) (h1:n < 1000) (h2:x.length≤1000):MulOk x n:=by
 have e:(2:Int) ^ 63=9223372036854775808:=by decide
 refine ⟨?_,fun hn _=>?_,fun hn _=>?_⟩
 ·rw [decide_eq_false (by lia),decide_eq_false (by lia)]; rfl
 ·have:(9223372036854775808 - 1:Int) / n ≥ 1000:=Int.le_ediv_of_mul_le (by lia) (by lia)
  rw [e]; lia
 ·refine short24 ?_
  have h3:x.length * n.toNat≤1000 * 1000:=Nat.mul_le_mul h2 (by lia)
  exact ar1 (.im (.le .v0 (.m 1000 (.n 1000))) (.le .v0 (.n 16777216))) rfl h3
set_option tactic.hygienic true in
theorem mul_list {x:Str} {n:Int} (h0:0≤n):(Txt.mul x n).cps.toList=(List.replicate n.toNat x.cps.toList).flatten:=by
 unfold Txt.mul
 split
 ·have:n.toNat=0:=by lia
  rw [this]; rfl
 ·split
  ·rename_i hq
   rcases Bool.or_eq_true_iff.mp hq with q | q
   ·have:n=1:=by simpa using q
    subst this; simp
   ·have:x.cps.toList=[]:=by simpa [Str.length] using q
    rw [this]; simp
  ·rw [foldl_app]; simp
theorem str_len (x:Str):x.length=x.cps.toList.length:=by simp [Str.length]
theorem int_add {prog:Program} {w:World} {A:Around} {E:Value→Shared→Prop} {s:Shared} {P:Value→Shared→Prop} {x y:Value} {a b:Int} {M:Mem} (i:Is M x (.int a)) (j:Is M y (.int b)) (q:∀ z t,Is M z (.int (a+b))→P z { s with toks:=t }):wpAny (model prog w) A (binaryOp .Add x y) P E s :=
 i.ints j (C:=fun x y=>wpAny (model prog w) A (binaryOp .Add x y) P E s) fun _ _=>PySem.P.add_int (q _ _ (.int _ _))
theorem bin_op {prog:Program} {w:World} {A:Around} {E:Value→Shared→Prop} {s:Shared} {P:Value→Shared→Prop} {op:Operator} {x y:Value} {a b r:V} {M:Mem} (i:Is M x a) (j:Is M y b) (h:BinR op a b r) (q:∀ z t,Is M z r→P z { s with toks:=t }):wpAny (model prog w) A (binaryOp op x y) P E s :=
 BinR.casesOn (motive:=fun op a b r _=>Is M x a→Is M y b→(∀ z t,Is M z r→P z { s with toks:=t })→wpAny (model prog w) A (binaryOp op x y) P E s) h
  (fun _ i j q=>int_add i j q) (fun _ i j q=>int_add i j q) (fun _ i j q=>int_add i j q) (fun _ i j q=>int_add i j q) (fun _ i j q=>int_add i j q) (fun _ _ i j q=>int_add i j q) (fun _ _ i j q=>int_add i j q)
  (fun _ _ i j q=>i.ints j (C:=fun x y=>wpAny (model prog w) A (binaryOp .Sub x y) P E s) fun _ _=>PySem.P.sub_int (q _ _ (.int _ _)))
  (fun _ _ h i j q=>i.ints j (C:=fun x y=>wpAny (model prog w) A (binaryOp .Mod x y) P E s) fun _ _=>mod_int' h (q _ _ (.int _ _)))
  (fun _ _ h h' i j q=>i.ints j (C:=fun x y=>wpAny (model prog w) A (binaryOp .FloorDiv x y) P E s) fun _ _=>floordiv_int h (q _ _ (.int _ _)) (.inl h'))
  (fun h i j q=>i.ints j (C:=fun x y=>wpAny (model prog w) A (binaryOp .Mult x y) P E s) fun _ _=>PySem.P.mul_int (q _ _ (.int _ _)) h)
  (fun {x n} h0 h1 h2 i j=>i.strK (C:=fun z x=>x.length≤1000→(∀ z t,Is M z (.str (List.replicate n.toNat x).flatten)→P z { s with toks:=t })→wpAny (model prog w) A (binaryOp .Mult z y) P E s) (fun z t h2 q=>j.intK (C:=fun y=>wpAny (model prog w) A (binaryOp .Mult (.str z t) y) P E s) fun _ =>
   PySem.SB.mul (mulOk_small h0 h1 (Nat.le_trans (Nat.le_of_eq (str_len z)) h2)) fun t' k=>q _ _ (.str _ _ (mul_list h0))) h2)
  (fun h i j=>i.strs j (C:=fun x y a b=>a.length+b.length≤sizeLine→(∀ z t,Is M z (.str (a++b))→P z { s with toks:=t })→wpAny (model prog w) A (binaryOp .Add x y) P E s) (fun _ _ _ _ h q =>
   PyProof.Rows.add_str (fun t' tk=>q _ _ (.str _ _ Array.toList_append)) h) h)
  i j q
section
variable {g:Gx} {Γ:Fx} {d:Nat} {lo:Loc} {H:AH} {c:Cx} {fz:Led}
theorem bin_W {op:Operator} {x y:Value} {a b:V} {Q:V→AH→Prop} (i:Is (Cx.mem g fz) x a) (j:Is (Cx.mem g fz) y b) (h:BinM op a b fun r=>Q r H):W g c fz (binaryOp op x y) lo H (VP g lo Q) :=
 W.now fun mf m cl fz₁ led s hs I P _ k=>h.elim fun r h =>
  bin_op (i.mono (mem_mono hs)) (j.mono (mem_mono hs)) h.1 fun z t iz=>k _ _ (I.toks t) ⟨rfl,_,iz,h.2⟩
theorem E.bin {l r:Expr} {op:Operator} {pos:Pos} {Q:V→AH→Prop} (h:E g Γ d l lo H fun a H₁=>E g Γ d r lo H₁ fun b H₂=>BinM op a b fun v=>Q v H₂):E g Γ d (.BinOp l op r pos) lo H Q:=by
 intro c ok fz
 rw [eval_BinOp]
 refine W.bindV ((h c ok fz)) fun fz₁ x a H₁ s₁ ia ha=>?_
 refine W.bindV (W.holding ((ha c ok fz₁))) fun fz₂ y b H₂ s₂ ib hb=>?_
 exact W.at_ (W.operate (bin_W (ia.mono (mem_mono s₂)) ib hb))
theorem E.cmp {l r:Expr} {op:CmpOp} {pos:Pos} {Q:V→AH→Prop} (h:E g Γ d l lo H fun a H₁=>E g Γ d r lo H₁ fun b H₂=>CmpM op a b fun v=>Q (.bool v) H₂)
  (hm:autoParam (behindInMarks op r=false) irfd):E g Γ d (.Compare l [op] [r] pos) lo H Q:=by
 intro c ok fz
 rw [eval_Compare1,markedBehindIn_of_false hm]
 refine W.bindV ((h c ok fz)) fun fz₁ x a H₁ s₁ ia ha=>?_
 refine W.bindV (W.holding ((ha c ok fz₁))) fun fz₂ y b H₂ s₂ ib hb=>?_
 exact W.at_ (W.operate (cmp_W ok (ia.mono (mem_mono s₂)) ib hb))
theorem T.cmp {l r:Expr} {op:CmpOp} {pos:Pos} {Q:Bool→AH→Prop} (h:E g Γ d l lo H fun a H₁=>E g Γ d r lo H₁ fun b H₂=>CmpM op a b fun v=>Q v H₂)
  (hm:autoParam (behindInMarks op r=false) irfd):T g Γ d (.Compare l [op] [r] pos) lo H Q:=by
 intro c ok fz
 rw [isTrue_Compare1,markedBehindIn_of_false hm]
 refine W.bindV ((h c ok fz)) fun fz₁ x a H₁ s₁ ia ha=>?_
 refine W.bindV (W.holding ((ha c ok fz₁))) fun fz₂ y b H₂ s₂ ib hb=>?_
 exact W.at_ (W.bindV (W.operate (cmp_W (Q:=fun v H'=>∃ b,v=.bool b∧Q b H') ok (ia.mono (mem_mono s₂)) ib (CmpM.mono hb fun r q=>⟨_,rfl,q⟩))) fun fz₃ z v H₃ s₃ iv q =>
  W.holding (truthy_W ok iv (q.elim fun b q=>by rw [q.1]; exact ⟨_,.bool b,q.2⟩)))
theorem T.of {e:Expr} {Q:Bool→AH→Prop} (h:E g Γ d e lo H fun v H₁=>TrueM v fun b=>Q b H₁)
  (he:autoParam (∀ env,isTrue e env (eval e env)=(do let v ← eval e env; standAt e.pos; holding [v] (truthy v))) irfa):T g Γ d e lo H Q:=by
 intro c ok fz
 rw [he]
 refine W.bindV ((h c ok fz)) fun fz₁ x a H₁ s₁ ia ha=>?_
 exact W.at_ (W.holding (truthy_W ok ia ha))
theorem W.cast {t t':Sem α} {Q:Led→α→Loc→AH→Prop} (h:W g c fz t lo H Q) (e:t'=t):W g c fz t' lo H Q:=e ▸ h
theorem T.not {x:Expr} {pos:Pos} {Q:Bool→AH→Prop} (h:T g Γ d x lo H fun b H₁=>Q (!b) H₁):T g Γ d (.UnaryOp .Not x pos) lo H Q:=by
 intro c ok fz
 show W g c fz (do return !(← isTrue x c.env (eval x c.env))) lo H _
 exact W.bindB (h c ok fz) fun fz₁ x H₁ s₁ q=>W.pure fun _ _=>⟨rfl,q⟩
theorem T.and0 {pos:Pos} {Q:Bool→AH→Prop} (h:Q true H):T g Γ d (.BoolOp .And [] pos) lo H Q:=fun c ok fz=>W.pure (a:=true) fun _ _=>⟨rfl,h⟩
theorem T.or0 {pos:Pos} {Q:Bool→AH→Prop} (h:Q false H):T g Γ d (.BoolOp .Or [] pos) lo H Q:=fun c ok fz=>W.pure (a:=false) fun _ _=>⟨rfl,h⟩
theorem T.and {x:Expr} {rest:List Expr} {pos:Pos} {Q:Bool→AH→Prop} (h:T g Γ d x lo H fun b H₁=>if b then T g Γ d (.BoolOp .And rest pos) lo H₁ Q else Q false H₁):T g Γ d (.BoolOp .And (x::rest) pos) lo H Q:=by
 intro c ok fz
 show W g c fz (do
  match BoolOp.And,← isTrue x c.env (eval x c.env) with
  | .And,false=>pure false
  | .Or,true=>pure true
  | _,_=>allTrue .And rest c.env) lo H _
 refine W.bindB ((h c ok fz)) fun fz₁ b H₁ s₁ q=>?_
 cases b with
 | false=>exact W.pure fun _ _=>⟨rfl,q⟩
 | true=>exact q c ok fz₁
theorem T.or {x:Expr} {rest:List Expr} {pos:Pos} {Q:Bool→AH→Prop} (h:T g Γ d x lo H fun b H₁=>if b then Q true H₁ else T g Γ d (.BoolOp .Or rest pos) lo H₁ Q):T g Γ d (.BoolOp .Or (x::rest) pos) lo H Q:=by
 intro c ok fz
 show W g c fz (do
  match BoolOp.Or,← isTrue x c.env (eval x c.env) with
  | .And,false=>pure false
  | .Or,true=>pure true
  | _,_=>allTrue .Or rest c.env) lo H _
 refine W.bindB ((h c ok fz)) fun fz₁ b H₁ s₁ q=>?_
 cases b with
 | true=>exact W.pure fun _ _=>⟨rfl,q⟩
 | false=>exact q c ok fz₁
theorem T.chain2 {l r₁ r₂:Expr} {op₁ op₂:CmpOp} {pos:Pos} {Q:Bool→AH→Prop}
  (h:E g Γ d l lo H fun a H₁=>E g Γ d r₁ lo H₁ fun b H₂=>CmpM op₁ a b fun t=>if t then E g Γ d r₂ lo H₂ (fun e H₃=>CmpM op₂ b e fun t'=>Q t' H₃) else Q false H₂)
  (hm:autoParam (lastMarks [op₁,op₂] [r₁,r₂]=false) irfd):T g Γ d (.Compare l [op₁,op₂] [r₁,r₂] pos) lo H Q:=by
 intro c ok fz
 refine W.cast (t:=do testChain pos (← eval l c.env) [op₁,op₂] [eval r₁ c.env,eval r₂ c.env]) ?_ (by
  show (do testChain pos (← eval l c.env) [op₁,op₂] (markedEach [op₁,op₂] [r₁,r₂] (evalEach [r₁,r₂] c.env)))=_
  rw [markedEach_of_false _ _ _ hm]; rfl)
 refine W.bindV ((h c ok fz)) fun fz₁ x a H₁ s₁ ia ha=>?_
 refine W.cast (t:=do
  let rv ← holding [x] (eval r₁ c.env)
  standAt pos
  let q ← holding [x,rv] (compareOp op₁ x rv)
  release [x,rv] [q]
  if ← holding [q,rv] (truthy q) then testChain pos rv [op₂] [eval r₂ c.env] else pure false) ?_ rfl
 refine W.bindV (W.holding ((ha c ok fz₁))) fun fz₂ y b H₂ s₂ ib hb=>?_
 refine W.at_ (W.bindV (W.holding (cmp_W (Q:=fun v H'=>∃ t,v=.bool t∧H'=H₂∧(if t then E g Γ d r₂ lo H₂ (fun e H₃=>CmpM op₂ b e fun t'=>Q t' H₃) else Q false H₂)) ok (ia.mono (mem_mono s₂)) ib (CmpM.mono hb fun r q=>⟨_,rfl,rfl,q⟩))) fun fz₃ z v H₃ s₃ iv r_=>?_)
 refine ob_EAA r_ fun t hv hH q=>?_
 try clear r_
 subst hv; subst hH
 refine W.lift (t:=do if ← holding [z,y] (truthy z) then testChain pos y [op₂] [eval r₂ c.env] else pure false) ?_ fun _ _ _ x=>wpAny_bind (wpAny_release' x)
 refine W.bindB (W.holding (truthy_W (Q:=fun b H'=>b=t∧H'=H₃) ok iv ⟨_,.bool t,rfl,rfl⟩)) fun fz₄ bb H₄ s₄ r_=>?_
 obtain ⟨eb,eH⟩:=r_
 subst eb; subst eH
 cases bb with
 | false=>exact W.pure fun _ _=>⟨rfl,q⟩
 | true =>
  refine W.bindV (W.holding (q c ok fz₄)) fun fz₅ u w H₅ s₅ iw hw=>?_
  exact W.at_ (W.bindV (W.operate (cmp_W (Q:=fun v H'=>∃ b,v=.bool b∧Q b H') ok (ib.mono (mem_mono fun p hp=>s₅ p (s₄ p (s₃ p hp)))) iw (CmpM.mono hw fun r q=>⟨_,rfl,q⟩))) fun fz₃ z v H₃ s₃ iv q =>
   W.holding (truthy_W ok iv (q.elim fun b q=>by rw [q.1]; exact ⟨_,.bool b,q.2⟩)))
theorem E.ife {test body orelse:Expr} {pos:Pos} {Q:V→AH→Prop} (h:T g Γ d test lo H fun b H₁=>if b then E g Γ d body lo H₁ Q else E g Γ d orelse lo H₁ Q):E g Γ d (.IfExp test body orelse pos) lo H Q:=by
 intro c ok fz
 rw [eval_IfExp]
 refine W.bindB ((h c ok fz)) fun fz₁ b H₁ s₁ q=>?_
 cases b with
 | true=>exact q c ok fz₁
 | false=>exact q c ok fz₁
theorem E.not {x:Expr} {pos:Pos} {Q:V→AH→Prop} (h:E g Γ d x lo H fun v H₁=>TrueM v fun b=>Q (.bool !b) H₁):E g Γ d (.UnaryOp .Not x pos) lo H Q:=by
 intro c ok fz
 rw [eval_UnaryOp]
 refine W.bindV ((h c ok fz)) fun fz₁ x a H₁ s₁ ia ha=>?_
 refine W.at_ (W.holding ?_)
 refine W.lift (t:=truthy x >>= fun b=>pure (.bool !b)) (W.bindB (truthy_W ok ia ha) fun fz₂ b H₂ s₂ q=>W.pure fun _ _=>⟨rfl,_,.bool _,q⟩) ?_
 intro Q E s h
 unfold unaryOp
 exact wpAny_holding h
theorem E.neg {x:Expr} {pos:Pos} {Q:V→AH→Prop} (h:E g Γ d x lo H fun v H₁=>∃ i,v=.int i∧Q (.int (-i)) H₁):E g Γ d (.UnaryOp .USub x pos) lo H Q:=by
 intro c ok fz
 rw [eval_UnaryOp]
 refine W.bindV ((h c ok fz)) fun fz₁ x a H₁ s₁ ia ha=>?_
 refine W.at_ (W.holding (W.now fun mf m cl fz₁ led s hs I P _ k=>?_))
 obtain ⟨i,e,q⟩:=ha
 subst e
 obtain ⟨t,e⟩:=ia.intE
 subst e
 exact PySem.P.neg_int (k _ _ (I.toks _) ⟨rfl,_,.int _ _,q⟩)
end
section
variable {g:Gx} {Γ:Fx} {d:Nat} {lo:Loc} {H:AH} {c:Cx} {fz:Led}
theorem Es.nil {Q:List V→AH→Prop} (h:Q [] H):Es g Γ d [] lo H Q:=fun c ok fz pos=>W.pure (a:=[]) fun _ _=>⟨rfl,[],.nil,h⟩
theorem Es.cons {e:Expr} {rest:List Expr} {Q:List V→AH→Prop} (h:E g Γ d e lo H fun v H₁=>Es g Γ d rest lo H₁ fun vs H₂=>Q (v::vs) H₂)
  (he:autoParam (∀ env,starEach (e::rest) env=(false,eval e env)::starEach rest env) irfa):Es g Γ d (e::rest) lo H Q:=by
 intro c ok fz pos
 refine W.cast (t:=(do let v ← eval e c.env; return v::(← holding [v] (spliced (backTo pos (starEach rest c.env)))))) ?_ (by rw [he]; rfl)
 refine W.bindV ((h c ok fz)) fun fz₁ x a H₁ s₁ ia ha=>?_
 refine W.bindVs (W.holding ((ha c ok fz₁ pos))) fun fz₂ xs vs H₂ s₂ is q=>?_
 exact W.pure fun fz₃ s₃=>⟨rfl,_,.cons ((ia.mono (mem_mono s₂)).mono (mem_mono s₃)) (is.mono (mem_mono s₃)),q⟩
theorem newTuple_W {xs:List Value} {vs:List V} {Q:V→AH→Prop} (i:IsAll (Cx.mem g fz) xs vs) (hsz:xs.length≤sizeLine) (h:Q (.tup vs) H):W g c fz (newTuple xs) lo H (VP g lo Q) :=
 W.frozen fun mf m cl fz₁ led s hs I P _ k=>wpAny_newTuple (k (tupOf xs.toArray 0) rfl ⟨rfl,_,.tup (.inl (.head _)) (i.mono (mem_mono fun p hp=>.tail _ (hs p hp))),h⟩) hsz
theorem newList_W {xs:List Value} {vs:List V} {Q:V→AH→Prop} (i:IsAll (Cx.mem g fz) xs vs) (hsz:xs.length≤sizeLine) (h:Q (.lst vs) H):W g c fz (newList xs) lo H (VP g lo Q) :=
 W.frozen fun mf m cl fz₁ led s hs I P _ k=>wpAny_newList (k (listOf xs.toArray 0) rfl ⟨rfl,_,.lst (.inl (.head _)) (i.mono (mem_mono fun p hp=>.tail _ (hs p hp))),h⟩) hsz
theorem newListA_W {xs:List Value} {vs:List V} {Q:V→AH→Prop} (i:IsAll (Cx.mem g fz) xs vs) (hsz:xs.length≤sizeLine) (h:∀ a,Q (.ref a) ((a,.lst vs)::H)):W g c fz (newList xs) lo H (VP g lo Q) :=
 W.alive fun mf m cl fz₁ led s hs I P _ k=>wpAny_newList (k (listOf xs.toArray 0) (.lst vs) (.lst (i.mono (mem_mono hs))) rfl ⟨rfl,_,.ref _,h _⟩) hsz
theorem small_size {n:Nat} (h:n≤1000):n≤sizeLine:=by rw [sizeLine_eq]; exact ar1 (.im (.le .v0 (.n 1000)) (.le .v0 (.n 16777216))) rfl h
theorem E.tup {elts:List Expr} {k:Nat} {pos:Pos} {Q:V→AH→Prop} (h:Es g Γ d elts lo H fun vs H₁=>vs.length≤1000∧Q (.tup vs) H₁):E g Γ d (.Tuple elts k pos) lo H Q:=by
 intro c ok fz
 show W g c fz (do standAt pos; newTuple (← spliced (backTo pos (starEach elts c.env)))) lo H _
 refine W.at_ (W.bindVs ((h c ok fz pos)) fun fz₁ xs vs H₁ s₁ is r_=>?_)
 refine x02 (r_) fun hl q=>?_
 exact newTuple_W is (small_size (by rw [is.length]; exact hl)) q
theorem E.lst {elts:List Expr} {pos:Pos} {Q:V→AH→Prop} (h:Es g Γ d elts lo H fun vs H₁=>vs.length≤1000∧Q (.lst vs) H₁):E g Γ d (.List elts pos) lo H Q:=by
 intro c ok fz
 show W g c fz (do standAt pos; newList (← spliced (backTo pos (starEach elts c.env)))) lo H _
 refine W.at_ (W.bindVs ((h c ok fz pos)) fun fz₁ xs vs H₁ s₁ is r_=>?_)
 refine x02 (r_) fun hl q=>?_
 exact newList_W is (small_size (by rw [is.length]; exact hl)) q
theorem E.lstA {elts:List Expr} {pos:Pos} {Q:V→AH→Prop} (h:Es g Γ d elts lo H fun vs H₁=>vs.length≤1000∧∀ a,Q (.ref a) ((a,.lst vs)::H₁)):E g Γ d (.List elts pos) lo H Q:=by
 intro c ok fz
 show W g c fz (do standAt pos; newList (← spliced (backTo pos (starEach elts c.env)))) lo H _
 refine W.at_ (W.bindVs ((h c ok fz pos)) fun fz₁ xs vs H₁ s₁ is r_=>?_)
 refine x02 (r_) fun hl q=>?_
 exact newListA_W is (small_size (by rw [is.length]; exact hl)) q
theorem E.and2 {x y:Expr} {pos:Pos} {Q:V→AH→Prop} (h:E g Γ d x lo H fun v H₁=>TrueM v fun b=>if b then E g Γ d y lo H₁ Q else Q v H₁):E g Γ d (.BoolOp .And [x,y] pos) lo H Q:=by
 intro c ok fz
 refine W.cast (t:=do
  let v ← eval x c.env
  standAt pos
  let t ← holding [v] (truthy v)
  match BoolOp.And,t with
  | .And,false | .Or,true=>pure v
  | _,_=>eval y c.env) ?_ rfl
 refine W.bindV ((h c ok fz)) fun fz₁ x a H₁ s₁ ia ha=>?_
 refine W.at_ (W.bindB (W.holding (truthy_W ok ia (Q:=fun b H'=>H'=H₁∧(if b then E g Γ d y lo H₁ Q else Q a H₁)) (ha.elim fun b r=>⟨b,r.1,rfl,r.2⟩))) fun fz₂ b H₂ s₂ r_=>?_)
 rw [r_.1]
 cases b with
 | false=>exact W.pure fun _ s₃=>⟨rfl,_,(ia.mono (mem_mono s₂)).mono (mem_mono s₃),r_.2⟩
 | true=>exact r_.2 c ok fz₂
theorem E.or2 {x y:Expr} {pos:Pos} {Q:V→AH→Prop} (h:E g Γ d x lo H fun v H₁=>TrueM v fun b=>if b then Q v H₁ else E g Γ d y lo H₁ Q):E g Γ d (.BoolOp .Or [x,y] pos) lo H Q:=by
 intro c ok fz
 refine W.cast (t:=do
  let v ← eval x c.env
  standAt pos
  let t ← holding [v] (truthy v)
  match BoolOp.Or,t with
  | .And,false | .Or,true=>pure v
  | _,_=>eval y c.env) ?_ rfl
 refine W.bindV ((h c ok fz)) fun fz₁ x a H₁ s₁ ia ha=>?_
 refine W.at_ (W.bindB (W.holding (truthy_W ok ia (Q:=fun b H'=>H'=H₁∧(if b then Q a H₁ else E g Γ d y lo H₁ Q)) (ha.elim fun b r=>⟨b,r.1,rfl,r.2⟩))) fun fz₂ b H₂ s₂ r_=>?_)
 rw [r_.1]
 cases b with
 | true=>exact W.pure fun _ s₃=>⟨rfl,_,(ia.mono (mem_mono s₂)).mono (mem_mono s₃),r_.2⟩
 | false=>exact r_.2 c ok fz₂
set_option genInjectivity false in
inductive SubR:V→V→V→Prop
 | str {s:List Nat} {i:Int} {n:Nat} (b:-(2 ^ 63)≤i∧i < 2 ^ 63) (h:(seqIndex? i s.length).bind (s[·]?)=some n):SubR (.str s) (.int i) (.str [n])
 | tup {vs:List V} {i:Int} {j:Nat} {v:V} (b:-(2 ^ 63)≤i∧i < 2 ^ 63) (h:seqIndex? i vs.length=some j) (h':vs[j]?=some v):SubR (.tup vs) (.int i) v
 | lst {vs:List V} {i:Int} {j:Nat} {v:V} (b:-(2 ^ 63)≤i∧i < 2 ^ 63) (h:seqIndex? i vs.length=some j) (h':vs[j]?=some v):SubR (.lst vs) (.int i) v
noncomputable def SubM (a b:V) (k:V→Prop):Prop:=∃ r,SubR a b r∧k r
theorem IsAll.get {M:Mem} {xs:List Value} {vs:List V} (i:IsAll M xs vs) {j:Nat} {v:V} (e:vs[j]?=some v):∃ x,xs[j]?=some x∧Is M x v:=by
 induction vs generalizing xs j with
 | nil=>exact nomatch e
 | cons d ds ih =>
  refine ob_EEAA i.consE fun x r e' h t=>?_
  subst e'
  cases j with
  | zero=>exact ⟨x,rfl,Option.some.inj e ▸ h⟩
  | succ j=>exact ih t e
set_option tactic.hygienic true in
theorem sub_list {prog:Program} {w:World} {A:Around} {X:Value→Shared→Prop} {s:Shared} {P:Value→Shared→Prop} {a:Addr} {vs:Array Value} {i:Int} {t:Tok} {p:Nat} {x:Value} (hl:s.heap.IsList a vs) (b:-(2 ^ 63)≤i∧i < 2 ^ 63) (h3:seqIndex? i vs.size=some p) (hx:vs[p]?=some x) (q:P x s):wpAny (model prog w) A (getItem (.ref a) (.int i t)) P X s:=by
 unfold seqIndex? at h3
 by_cases hn:i < 0
 ·simp only [hn,if_true] at h3
  split at h3
  ·rename_i q'
   simp only [Bool.and_eq_true,decide_eq_true_eq] at q'
   have e:=Option.some.inj h3
   exact wpAny_getItem_list_neg (x:=x) hl hn (by exact AR.h139 q') b.1 (by rw [e]; exact hx) q
  ·cases h3
 ·simp only [hn,if_false] at h3
  split at h3
  ·have e:=Option.some.inj h3
   exact wpAny_getItem_list (x:=x) hl (by exact AR.h141 hn) b.2 (by rw [e]; exact hx) q
  ·cases h3
theorem sub_W (ok:c.Ok g Γ d) {value slice:Expr} {x y:Value} {a b:V} {Q:V→AH→Prop} (i:Is (Cx.mem g fz) x a) (j:Is (Cx.mem g fz) y b) (h:SubM a b fun v=>Q v H)
  (hs:∀ o i,subscripted slice false o i=operate [o,i] (getItem o i)):W g c fz (subscriptTail value slice x y) lo H (VP g lo Q) :=
 W.now fun mf m cl fz₁ led s hs' I P _ k=>by
  have th:∀ a o,Cx.mem g fz₁ a o→s.heap.get? a=some o:=fun a o=>I.hi.there ok.stays
  have i:=i.mono (mem_mono hs')
  obtain ⟨r,h,q⟩:=h
  induction h with
  | str b h =>
   obtain ⟨z,t,e,e2⟩:=i.strE; obtain ⟨t',e'⟩:=j.intE; subst e; subst e2; subst e'
   exact tail_any (typeIs_str _ _ _) PySem.F.slot_str_getitem.lookup (PySem.P.getItem_str (by
    rw [decide_eq_false (Int.not_lt.mpr b.1),decide_eq_false (Int.not_le.mpr b.2)]; rfl) (by
    rw [← h,str_len]; congr 1; funext q; exact (Array.getElem?_toList).symm) (k _ _ (I.toks _) ⟨rfl,_,.str _ _ rfl,q⟩)) (hs _ _)
  | tup b h h' =>
   obtain ⟨z,vs,n,e,hm,ha⟩:=i.tupE; obtain ⟨t',e'⟩:=j.intE; subst e; subst e'
   refine x12 (ha.get h') fun x hx ix=>?_
   have ht:IsTup s.heap _ _:=⟨_,th _ _ hm,rfl,_,rfl⟩
   exact tail_any ht.typeIs PySem.F.slot_tuple_getitem.lookup (getItem_tuple (x:=x) ht b.1 b.2 (by rw [List.size_toArray,ha.length]; exact h) (by rw [List.getElem?_toArray]; exact hx) (k _ _ I.z ⟨rfl,_,ix,q⟩)) (hs _ _)
  | lst b h h' =>
   obtain ⟨z,vs,n,e,hm,ha⟩:=i.lstE; obtain ⟨t',e'⟩:=j.intE; subst e; subst e'
   refine x12 (ha.get h') fun x hx ix=>?_
   have hl:s.heap.IsList _ _:=⟨_,th _ _ hm,rfl,_,rfl⟩
   exact tail_any hl.typeIs PySem.F.slot_list_getitem.lookup (sub_list hl b (by rw [List.size_toArray,ha.length]; exact h) (by rw [List.getElem?_toArray]; exact hx) (k _ _ I.z ⟨rfl,_,ix,q⟩)) (hs _ _)
theorem E.sub {value slice:Expr} {pos:Pos} {Q:V→AH→Prop} (h:E g Γ d value lo H fun a H₁=>E g Γ d slice lo H₁ fun b H₂=>SubM a b fun v=>Q v H₂)
  (hs:autoParam (∀ o i,subscripted slice false o i=operate [o,i] (getItem o i)) irfa):E g Γ d (.Subscript value slice pos) lo H Q:=by
 intro c ok fz
 refine W.cast (t:=do let o ← eval value c.env; let i ← holding [o] (eval slice c.env); standAt pos; subscriptTail value slice o i) ?_ rfl
 refine W.bindV ((h c ok fz)) fun fz₁ x a H₁ s₁ ia ha=>?_
 refine W.bindV (W.holding ((ha c ok fz₁))) fun fz₂ y b H₂ s₂ ib hb=>?_
 exact W.at_ (sub_W ok (ia.mono (mem_mono s₂)) ib hb hs)
inductive PartR:V→Option Int→Prop
 | int (i:Int):PartR (.int i) (some i)
 | none:PartR .none none
noncomputable def PartK (v:V) (k:Option Int→Prop):Prop:=∃ o,PartR v o∧k o
noncomputable def Part (g:Gx) (Γ:Fx) (d:Nat) (e:Option Expr) (lo:Loc) (H:AH) (k:Option Int→AH→Prop):Prop:=match e with
 | none=>k none H
 | some e=>E g Γ d e lo H fun v H'=>PartK v fun o=>k o H'
inductive PIs:Value→Option (Int × Tok)→Prop
 | none:PIs .none none
 | int (i:Int) (t:Tok):PIs (.int i t) (some (i,t))
theorem part_W (ok:c.Ok g Γ d) {e:Option Expr} {k:Option Int→AH→Prop} (h:Part g Γ d e lo H k):W g c fz (valueOrNone (evalOpt e c.env)) lo H (fun fz' x lo' H'=>lo'=lo∧∃ p,PIs x p∧k (p.map (·.1)) H'):=by
 cases e with
 | none=>exact W.pure (a:=Value.none) fun _ _=>⟨rfl,none,.none,h⟩
 | some e =>
  refine (h c ok fz).mono fun fz₁ x lo₁ H₁ s₁ q=>⟨q.1,?_⟩
  refine ob_AEAEA q ?_
  clear q
  intro _ a ia o r q
  cases r with
  | none=>exact ⟨none,ia.noneE ▸ .none,q⟩
  | int i=>obtain ⟨t,e⟩:=ia.intE; exact ⟨some (i,t),e ▸ .int i t,q⟩
set_option genInjectivity false in
inductive SliR (l u:Option Int):V→V→Prop
 | str {s:List Nat} (h:s.length≤sizeLine):SliR l u (.str s) (.str (slc s l u))
 | lst {s:List V} (h:s.length≤sizeLine):SliR l u (.lst s) (.lst (slc s l u))
noncomputable def SliM (a:V) (l u:Option Int) (k:V→Prop):Prop:=∃ r,SliR l u a r∧k r
theorem IsAll.take {M:Mem} {xs:List Value} {vs:List V} (i:IsAll M xs vs) (n:Nat):IsAll M (xs.take n) (vs.take n):=by
 induction n generalizing xs vs with
 | zero=>exact .nil
 | succ n ih=>cases i with
  | nil=>exact .nil
  | cons h r=>exact .cons h (ih r)
theorem IsAll.drop {M:Mem} {xs:List Value} {vs:List V} (i:IsAll M xs vs) (n:Nat):IsAll M (xs.drop n) (vs.drop n):=by
 induction n generalizing xs vs with
 | zero=>exact i
 | succ n ih=>cases i with
  | nil=>exact .nil
  | cons h r=>exact ih r
theorem IsAll.slc {M:Mem} {xs:List Value} {vs:List V} (h:IsAll M xs vs) (l u:Option Int):IsAll M (slc xs l u) (slc vs l u):=by
 unfold Internal.slc; rw [h.length]; exact (h.drop _).take _
theorem PIs.part {x:Value} {p:Option (Int × Tok)} (h:PIs x p):x=partValue p∧IsPart x (p.map (·.1)):=by
 cases h with
 | none=>exact ⟨rfl,.none⟩
 | int i t=>exact ⟨rfl,.int i t⟩
theorem slice_W (ok:c.Ok g Γ d) {value:Expr} {lower upper:Option Expr} {pp:Pos} {x vl vu:Value} {pl pu:Option (Int × Tok)} {sl:Addr} {a:V} {Q:V→AH→Prop} (i:Is (Cx.mem g fz) x a)
  (hsl:(sl,({ cls:=.type "slice",data:=.fields #[vl,vu,.none] }:Obj))∈fz) (hl:PIs vl pl) (hu:PIs vu pu) (h:SliM a (pl.map (·.1)) (pu.map (·.1)) fun v=>Q v H) :
  W g c fz (subscriptTail value (.Slice lower upper none pp) x (.ref sl)) lo H (VP g lo Q):=by
 have hs:∀ o i,subscripted (.Slice lower upper none pp) false o i=operate [i,o] (getItem o i):=fun _ _=>rfl
 obtain ⟨r,h,q⟩:=h
 induction h with
 | str h1 =>
  refine ob_EEA i.strE fun x t e e2=>?_
  subst e; subst e2
  refine W.now fun mf m cl fz₁ led s hs' I P _ k=>?_
  have ho:=I.hi.there ok.stays (.inl (hs' _ hsl))
  have q:∀ t' tk,P (.str (Txt.slice x (pl.map (·.1)) (pu.map (·.1))) t') { s with toks:=tk }:=fun t' tk=>k _ _ (I.toks tk) ⟨rfl,_,.str _ _ (txt_slice _ _ _),q⟩
  exact tail_any (typeIs_str _ _ _) PySem.F.slot_str_getitem.lookup (wpAny_getItem_str_slice (l:=pl) (u:=pu) (st:=none) ⟨_,ho,rfl,by rw [← hl.part.1,← hu.part.1]; rfl⟩ rfl (post_val_or_str ⟨Nat.le_trans (Txt.slice_le x _ _) (by rw [str_len]; exact h1),q⟩)) (hs _ _)
 | lst h1 =>
  refine ob_EEEAA i.lstE fun z vs n e hm ha=>?_
  subst e
  refine W.frozen fun mf m cl fz₁ led s hs' I P _ k=>?_
  have ho:=I.hi.there ok.stays (.inl (hs' _ hsl))
  have hL:s.heap.IsList _ _:=⟨_,I.hi.there ok.stays (mem_mono hs' _ _ hm),rfl,_,rfl⟩
  refine tail_any hL.typeIs PySem.F.slot_list_getitem.lookup (wpAny_getItem_list_slice (lo:=pl.map (·.1)) (hi:=pu.map (·.1)) (st:=none) hL ⟨_,ho,rfl,rfl⟩ hl.part.2 hu.part.2 .none nofun ?_ (by rw [List.size_toArray,ha.length]; exact h1)) (hs _ _)
  have e:(slicePick vs.toArray (pl.map (·.1)) (pu.map (·.1)) none)=(slc vs (pl.map (·.1)) (pu.map (·.1))).toArray:=by
   rw [slicePick_plain]; unfold slc; simp
  rw [e]
  exact k (listOf _ 0) rfl ⟨rfl,_,.lst (.inl (.head _)) ((ha.slc _ _).mono (mem_mono fun p hp=>.tail _ (hs' p hp))),q⟩
theorem E.slice {value:Expr} {lower upper:Option Expr} {pp pos:Pos} {Q:V→AH→Prop}
  (h:E g Γ d value lo H fun a H₁=>Part g Γ d lower lo H₁ fun l H₂=>Part g Γ d upper lo H₂ fun u H₃=>SliM a l u fun v=>Q v H₃):E g Γ d (.Subscript value (.Slice lower upper Option.none pp) pos) lo H Q:=by
 intro c ok fz
 refine W.cast (t:=do let o ← eval value c.env; let i ← holding [o] (eval (.Slice lower upper Option.none pp) c.env); standAt pos; subscriptTail value (.Slice lower upper Option.none pp) o i) ?_ rfl
 refine W.bindV ((h c ok fz)) fun fz₁ x a H₁ s₁ ia ha=>?_
 rw [arm_eval_Slice]
 refine W.bind (W.holding (W.bind ((part_W ok ha).mono fun fz₂ vl lo₂ H₂ s₂ r_=>?_)))
 refine ob_AEA r_ fun e₂ pl hl hb=>?_
 try clear r_
 subst e₂
 refine W.bind (W.holding ((part_W ok hb).mono fun fz₃ vu lo₃ H₃ s₃ r_=>?_))
 refine ob_AEA r_ fun e₃ pu hu hc=>?_
 try clear r_
 subst e₃
 refine W.bind (W.holding (W.pure (a:=Value.none) fun fz₄ s₄=>?_))
 refine W.frozen fun mf m cl fz₅ led s hs I P _ k=>wpAny_newObj_type (k { cls:=.type "slice",data:=.fields #[vl,vu,.none] } rfl ?_)
 exact W.at_ (slice_W ok (ia.mono (mem_mono fun p hp=>.tail _ (hs p (s₄ p (s₃ p (s₂ p hp)))))) (.head _) hl hu hc)
end
theorem HI.grow {g:Gx} {c:Cx} {lo:Loc} {H:AH} {mf m:Str→Option Value} {cl fz led:Led} {h h':Heap} (I:HI g c lo H mf m cl fz led h) (k:∀ b o,h.get? b=some o→h'.get? b=some o):HI g c lo H mf m cl fz led h' :=
 I.of (I.fr.keeps k) (I.news.grown k)
inductive Put (x:Str) (v:V):Loc→Loc→Prop
 | here {u:V} {r:Loc}:Put x v ((x,u)::r) ((x,v)::r)
 | there {p:Str × V} {r r':Loc}:Put x v r r'→Put x v (p::r) (p::r')
theorem Put.keys {x:Str} {v:V} {lo lo':Loc} (h:Put x v lo lo'):lo'.map (·.1)=lo.map (·.1):=by
 induction h with
 | here=>rfl
 | there _ ih=>simp [ih]
theorem Put.mem {x:Str} {v:V} {lo lo':Loc} (h:Put x v lo lo'):(x,v)∈lo'∧x∈lo.map (·.1):=by
 induction h with
 | here=>exact ⟨.head _,by simp⟩
 | there _ ih=>exact ⟨.tail _ ih.1,by simp [ih.2]⟩
theorem Put.other {x:Str} {v:V} {lo lo':Loc} (h:Put x v lo lo') (nd:(lo.map (·.1)).Nodup):∀ p∈lo',p=(x,v)∨(p∈lo∧p.1≠x):=by
 induction h with
 | @here u r =>
  intro p hp
  rcases Qi hp with rfl | hp
  ·exact .inl rfl
  ·refine .inr ⟨.tail _ hp,fun e=>?_⟩
   have:=(List.nodup_cons.mp nd).1
   exact this (List.mem_map.mpr ⟨p,hp,e⟩)
 | @there q r r' hr ih =>
  intro p hp
  have nd':=List.nodup_cons.mp nd
  rcases Qi hp with rfl | hp
  ·refine .inr ⟨.head _,fun e=>?_⟩
   exact nd'.1 (by show p.1∈_; rw [e]; exact hr.mem.2)
  ·exact (ih nd'.2 p hp).imp id fun ⟨a,b⟩=>⟨.tail _ a,b⟩
theorem LocOk.of_keys {sc:Scope} {lo lo':Loc} (h:LocOk sc lo) (e:lo'.map (·.1)=lo.map (·.1)):LocOk sc lo':=by
 refine ⟨by rw [e]; exact h.1,fun p hp=>?_⟩
 have:p.1∈lo.map (·.1):=by rw [← e]; exact List.mem_map_of_mem hp
 obtain ⟨q,hq,e'⟩:=List.mem_map.mp this
 rw [← e']; exact h.2 q hq
section
variable {g:Gx} {Γ:Fx} {d:Nat} {lo:Loc} {H:AH} {c:Cx} {fz:Led}
theorem store_W (ok:c.Ok g Γ d) {x:Str} {cv:Value} {v:V} {lo':Loc} {Q:Led→Unit→Loc→AH→Prop} (hp:Put x v lo lo') (i:Is (Cx.mem g fz) cv v) (h:∀ fz',(∀ p∈fz,p∈fz')→Q fz' () lo' H):W g c fz (storeName c.env x cv) lo H Q:=by
 intro mf m cl fz₁ led s hs I
 have hk:c.env.kindOf x=some .local:=by
  obtain ⟨q,hq,e⟩:=List.mem_map.mp hp.mem.2
  rw [← e]; exact (I.hi.lok.2 q hq).1
 have loc':LocR (Cx.mem g fz₁) (fun y=>if y=x then some cv else m y) lo':=by
  intro p hpp
  rcases hp.other I.hi.lok.1 p hpp with rfl | ⟨a,b⟩
  ·exact .inr ⟨cv,if_pos rfl,i.mono (mem_mono hs)⟩
  ·refine (I.hi.loc p a).imp id fun ⟨w,e,iw⟩=>⟨w,?_,iw⟩
   simp only [b,if_false]; exact e
 refine wpAny_storeName_local hk I.hi.ns (fun h' hn hb=>?_) (by rw [ok.kind]; rfl)
 have hcl:=I.hi.clr
 have N:=I.hi.news
 induction hcl with
 | own e =>
  rw [e] at hn hb
  exact .mk lo' H _ _ [] fz₁ led (I.to (s.toks+1) (Nat.le_succ _) ⟨I.hi.fr.set hn hb,.own e,N.set hb,I.hi.nd,I.hi.lok.of_keys hp.keys,loc',I.hi.hr⟩) (fun _ x=>x) (h _ hs)
 | apart kp no =>
  obtain ⟨n1,n2,n3⟩:=N _ (.head _)
  refine ob_EEEAAA hn fun o' es ep ho' hd hk' hf=>?_
  try clear hn
  have nd:=I.hi.nd
  have nd':=(List.nodup_cons.mp (show (c.env.locals::(led++(c.pins++fz₁)).map (·.1)).Nodup from nd)).1
  refine .mk lo' H mf _ [(c.env.locals,o')] fz₁ led (I.to (s.toks+1) (Nat.le_succ _) ⟨I.hi.fr.change hb n2 n3,.apart kp ⟨es,ep,hd,hk',hf⟩,?_,nd,I.hi.lok.of_keys hp.keys,loc',I.hi.hr⟩) (fun _ x=>x) (h _ hs)
  refine news_set (pre:=[]) N (fun _ h=>nomatch h) (fun p hp e=>?_) hb ho'
  exact nd' (by rw [← e]; exact List.mem_map_of_mem (f:=(·.1)) hp)
theorem bind_W (ok:c.Ok g Γ d) {x:Str} {cv:Value} {v:V} {lo':Loc} {Q:Led→Unit→Loc→AH→Prop} (hp:Put x v lo lo') (i:Is (Cx.mem g fz) cv v) (h:∀ fz',(∀ p∈fz,p∈fz')→Q fz' () lo' H):W g c fz (bindName c.env x cv) lo H Q :=
 (store_W ok hp i h).lift fun _ _ _ x=>wpAny_bindName x
noncomputable def PutK (x:Str) (v:V) (lo:Loc) (k:Loc→Prop):Prop:=∃ lo',Put x v lo lo'∧k lo'
theorem Ss.nil {Q:R→Loc→AH→Prop} (h:Q .next lo H):Ss g Γ d [] lo H Q:=fun c ok fz=>W.pure (a:=Flow.next) fun _ _=>⟨_,.next,h⟩
theorem Ss.cons {st:Stmt} {rest:List Stmt} {Q:R→Loc→AH→Prop} (h:S g Γ d st lo H fun r lo' H'=>match r with | .next=>Ss g Γ d rest lo' H' Q | r=>Q r lo' H'):Ss g Γ d (st::rest) lo H Q:=by
 intro c ok fz
 rw [execs_cons]
 refine W.bind ((h c ok fz).mono fun fz₁ f lo₁ H₁ s₁ r_=>?_)
 obtain ⟨r,hr,q⟩:=r_
 induction hr with
 | next=>exact q c ok fz₁
 | brk=>exact W.pure fun _ _=>⟨_,.brk,q⟩
 | cont=>exact W.pure fun _ _=>⟨_,.cont,q⟩
 | ret i=>exact W.pure fun _ s=>⟨_,.ret (i.mono (mem_mono s)),q⟩
theorem S.assign {x:Str} {pos' pos:Pos} {value:Expr} {Q:R→Loc→AH→Prop} (h:E g Γ d value lo H fun v H₁=>PutK x v lo fun lo'=>Q .next lo' H₁)
  (hs:autoParam (∀ env,swapsWith value (some (.Name x pos')) pos.line env=pure false) irfa):S g Γ d (.Assign [.Name x pos'] value pos) lo H Q:=by
 intro c ok fz
 rw [exec_Assign_Name _ _ _ _ _ (hs _)]
 refine W.at_ (W.bindV ((h c ok fz)) fun fz₁ x v H₁ s₁ i r_=>?_)
 obtain ⟨lo',hp,q⟩:=r_
 exact W.at_ (W.bind (bind_W ok hp i fun fz₂ s₂=>W.pure fun _ _=>⟨_,.next,q⟩))
theorem iadd_W {x y:Value} {a b r:V} {Q:V→AH→Prop} (i:Is (Cx.mem g fz) x a) (j:Is (Cx.mem g fz) y b) (h:BinR .Add a b r) (q:Q r H):W g c fz (inplaceOp .Add x y) lo H (VP g lo Q) :=
 h.addC (C:=fun a b r=>Is (Cx.mem g fz) x a→Is (Cx.mem g fz) y b→Q r H→W g c fz (inplaceOp .Add x y) lo H (VP g lo Q))
  (fun _ _ i j q=>i.ints j (C:=fun x y=>W g c fz (inplaceOp .Add x y) lo H (VP g lo Q)) fun _ _=>W.now fun mf m cl fz₁ led s hs I P _ k=>PySem.P.iadd_int (k _ _ (I.toks _) ⟨rfl,_,.int _ _,q⟩))
  (fun _ _ h i j=>i.strs j (C:=fun x y a b=>a.length+b.length≤sizeLine→Q (.str (a++b)) H→W g c fz (inplaceOp .Add x y) lo H (VP g lo Q)) (fun _ _ _ _ h q =>
   W.now fun mf m cl fz₁ led s hs I P _ k=>PyProof.Rows.iadd_str (fun t' tk=>k _ _ (I.toks _) ⟨rfl,_,.str _ _ Array.toList_append,q⟩) h) h) i j q
theorem S.aug {x:Str} {pos' pos:Pos} {op:Operator} {value:Expr} {v:V} {Q:R→Loc→AH→Prop} (hm:(x,v)∈lo) (hv:v≠.unset)
  (h:E g Γ d value lo H fun w H₁=>op=.Add∧BinM .Add v w fun r=>PutK x r lo fun lo'=>Q .next lo' H₁):S g Γ d (.AugAssign (.Name x pos') op value pos) lo H Q:=by
 intro c ok fz
 rw [exec_AugAssign_Name]
 refine W.at_ (W.bindV ((loadName_W ok hm hv (Q:=fun y H'=>y=v∧H'=H) ⟨rfl,rfl⟩)) fun fz₁ old v' H₁ s₁ i r_=>?_)
 obtain ⟨ev,eH⟩:=r_
 subst ev; subst eH
 refine W.bindV (W.holding (h c ok fz₁)) fun fz₂ y w H₂ s₂ j r_=>?_
 refine ob_AEAEA r_ fun eo r hr lo' hp q=>?_
 try clear r_
 subst eo
 exact W.at_ (W.bindV (W.operate (iadd_W (Q:=fun r' H'=>r'=r∧H'=H₂) (i.mono (mem_mono s₂)) j hr ⟨rfl,rfl⟩)) fun fz₃ z r' H₃ s₃ ir e=>by
  rw [e.1] at ir; rw [e.2]
  exact W.at_ (W.bind (bind_W ok hp ir fun fz₂ s₂=>W.pure fun _ _=>⟨_,.next,q⟩)))
theorem S.if_ {test:Expr} {body orelse:List Stmt} {pos:Pos} {Q:R→Loc→AH→Prop} (h:T g Γ d test lo H fun b H₁=>if b then Ss g Γ d body lo H₁ Q else Ss g Γ d orelse lo H₁ Q):S g Γ d (.If test body orelse pos) lo H Q:=by
 intro c ok fz
 rw [exec_If]
 refine W.at_ (W.bindB ((h c ok fz)) fun fz₁ b H₁ s₁ q=>?_)
 cases b with
 | true=>exact q c ok fz₁
 | false=>exact q c ok fz₁
theorem S.ret {e:Expr} {pos:Pos} {Q:R→Loc→AH→Prop} (h:E g Γ d e lo H fun v H₁=>Q (.ret v) lo H₁):S g Γ d (.Return (some e) pos) lo H Q:=by
 intro c ok fz
 rw [exec_Return_some]
 refine W.at_ (W.bindV ((h c ok fz)) fun fz₁ x v H₁ s₁ i q=>?_)
 exact W.pure fun _ s=>⟨_,.ret (i.mono (mem_mono s)),q⟩
theorem S.retn {pos:Pos} {Q:R→Loc→AH→Prop} (h:Q (.ret .none) lo H):S g Γ d (.Return none pos) lo H Q:=by
 intro c ok fz
 rw [exec_Return_none]
 exact W.at_ (W.pure fun _ s=>⟨_,.ret .none,h⟩)
theorem S.brk {pos:Pos} {Q:R→Loc→AH→Prop} (h:Q .brk lo H):S g Γ d (.Break pos) lo H Q:=fun c ok fz=>W.now fun mf m cl fz₁ led s hs I P _ k=>wpAny_Break (k _ _ I.z ⟨_,.brk,h⟩)
theorem S.cont {pos:Pos} {Q:R→Loc→AH→Prop} (h:Q .cont lo H):S g Γ d (.Continue pos) lo H Q:=fun c ok fz=>W.now fun mf m cl fz₁ led s hs I P _ k=>wpAny_Continue (k _ _ I.z ⟨_,.cont,h⟩)
theorem S.pass {pos:Pos} {Q:R→Loc→AH→Prop} (h:Q .next lo H):S g Γ d (.Pass pos) lo H Q:=fun c ok fz=>W.now fun mf m cl fz₁ led s hs I P _ k=>wpAny_Pass (k _ _ I.z ⟨_,.next,h⟩)
theorem S.assert {test:Expr} {msg:Option Expr} {pos:Pos} {Q:R→Loc→AH→Prop} (h:T g Γ d test lo H fun b H₁=>b=true∧Q .next lo H₁):S g Γ d (.Assert test msg pos) lo H Q:=by
 intro c ok fz mf m cl fz₁ led s hs I
 exact wpAny_Assert_holds ((h c ok fz).use hs I fun I' hs' r_=>⟨r_.2.1,.mk _ _ _ _ _ _ _ I' hs' ⟨_,.next,r_.1 ▸ r_.2.2⟩⟩)
theorem S.expr {e:Expr} {pos:Pos} {Q:R→Loc→AH→Prop} (h:E g Γ d e lo H fun v H₁=>Q .next lo H₁)
  (hs:autoParam (∀ env,swapsWith e none pos.line env=pure false) irfa):S g Γ d (.Expr e pos) lo H Q:=by
 intro c ok fz
 have hi:interactive c.env=false:=by unfold interactive; rw [ok.kind]; rfl
 rw [exec_Expr _ _ _ hi (hs _)]
 refine W.at_ (W.bindV ((h c ok fz)) fun fz₁ x v H₁ s₁ i q=>?_)
 exact W.now fun mf m cl fz₁ led s hs I P _ k=>wpAny_dropValue (k _ _ I.z ⟨_,.next,q⟩)
theorem S.try_ {body orelse:List Stmt} {h₀:ExceptHandler} {hs:List ExceptHandler} {pos:Pos} {Q:R→Loc→AH→Prop}
  (h:Ss g Γ d body lo H fun r lo' H'=>match r with | .next=>Ss g Γ d orelse lo' H' Q | r=>Q r lo' H'):S g Γ d (.Try body (h₀::hs) orelse [] pos) lo H Q:=by
 intro c ok fz mf m cl fz₁ led s hs' I
 refine wpAny_Try_except ((h c ok fz).use hs' I fun I' hs'' r_=>?_)
 obtain ⟨r,hr,q⟩:=r_
 induction hr with
 | next=>exact (q c ok _).rest (fun _ x=>x) I' hs''
 | brk=>exact .mk _ _ _ _ _ _ _ I' hs'' ⟨_,.brk,q⟩
 | cont=>exact .mk _ _ _ _ _ _ _ I' hs'' ⟨_,.cont,q⟩
 | ret i=>exact .mk _ _ _ _ _ _ _ I' hs'' ⟨_,.ret i,q⟩
noncomputable abbrev KWh (J:Nat→Loc→AH→Prop) (n:Nat) (Q:R→Loc→AH→Prop):R→Loc→AH→Prop:=fun r lo' H'=>match r with
 | .next | .cont=>∃ m,m < n∧J m lo' H'
 | .brk=>Q .next lo' H'
 | .ret v=>Q (.ret v) lo' H'
set_option genInjectivity false in
inductive WI (g:Gx) (c:Cx) (fz₁:Led) (J:Nat→Loc→AH→Prop) (n:Nat) (s:Shared):Prop
 | mk {lo:Loc} {H:AH} {mf m:Str→Option Value} {cl fz' led:Led} (j:J n lo H) (I:Inv g c lo H mf m cl fz' led s) (hs:∀ p∈fz₁,p∈fz')
theorem S.while_ {test:Expr} {body orelse:List Stmt} {pos:Pos} {Q:R→Loc→AH→Prop} (J:Nat→Loc→AH→Prop)
  (turn:∀ n lo H,J n lo H→T g Γ d test lo H fun b H₁=>if b then Ss g Γ d body lo H₁ (KWh J n Q) else Ss g Γ d orelse lo H₁ Q)
  (n:Nat) (h:J n lo H):S g Γ d (.While test body orelse pos) lo H Q:=by
 intro c ok fz mf m cl fz₁ led s hs I
 refine wpAny_While (codeAny_whileLoop (WI g c fz₁ J) ?_ n (.mk h I fun _ x=>x))
 intro n s w
 cases w with | @mk lo H mf m cl fz' led hJ I hz =>
 refine (turn n lo H hJ c ok fz').use (fun _ x=>x) I fun {b s₂ lo₂ H₂ mf₂ m₂ cl₂ fz₂ led₂} I₂ hs₂ r_=>?_
 obtain ⟨e₂,q⟩:=r_
 subst e₂
 have hz₂:∀ p∈fz₁,p∈fz₂:=fun p hp=>hs₂ p (hz p hp)
 cases b with
 | true =>
  refine (q c ok fz₂).use (fun _ x=>x) I₂ fun I₃ hs₃ r_=>?_
  obtain ⟨r,hr,q⟩:=r_
  induction hr with
  | next=>obtain ⟨m,hm,q⟩:=q; exact ⟨m,hm,.mk q I₃ fun p hp=>hs₃ p (hz₂ p hp)⟩
  | cont=>obtain ⟨m,hm,q⟩:=q; exact ⟨m,hm,.mk q I₃ fun p hp=>hs₃ p (hz₂ p hp)⟩
  | brk=>exact .mk _ _ _ _ _ _ _ I₃ (fun p hp=>hs₃ p (hz₂ p hp)) ⟨_,.next,q⟩
  | ret i=>exact .mk _ _ _ _ _ _ _ I₃ (fun p hp=>hs₃ p (hz₂ p hp)) ⟨_,.ret i,q⟩
 | false=>exact (q c ok fz₂).use (fun _ x=>x) I₂ fun I₃ hs₃ q=>.mk _ _ _ _ _ _ _ I₃ (fun p hp=>hs₃ p (hz₂ p hp)) q
set_option genInjectivity false in
inductive PutL:List Str→List V→Loc→Loc→Prop
 | nil {lo:Loc}:PutL [] [] lo lo
 | cons {x:Str} {v:V} {xs:List Str} {vs:List V} {lo lo' lo'':Loc} (h:Put x v lo lo') (r:PutL xs vs lo' lo''):PutL (x::xs) (v::vs) lo lo''
noncomputable def PutAll (xs:List Str) (vs:List V) (lo:Loc) (k:Loc→Prop):Prop:=∃ lo',PutL xs vs lo lo'∧k lo'
inductive NmEs:List Expr→List Str→Prop
 | nil:NmEs [] []
 | cons {x:Str} {p:Pos} {es:List Expr} {xs:List Str} (h:NmEs es xs):NmEs (.Name x p::es) (x::xs)
theorem inOrder_W (ok:c.Ok g Γ d) {elts:List Expr} {xs:List Str} {cvs:List Value} {vs:List V} {lo lo':Loc} {fz:Led} {Q:Led→Unit→Loc→AH→Prop} (e:NmEs elts xs) (i:IsAll (Cx.mem g fz) cvs vs)
  (h:PutL xs vs lo lo') (q:∀ fz',(∀ p∈fz,p∈fz')→Q fz' () lo' H):W g c fz (assignInOrder ((assignEach elts c.env).map (·.2)) cvs) lo H Q:=by
 induction h generalizing elts cvs fz with
 | nil=>cases e; rw [i.nilE]; exact W.pure q
 | cons hp _ ih =>
  refine ob_EEAA i.consE fun v r ev iv ir=>?_
  subst ev
  cases e with | @cons _ pos ts _ e =>
  refine W.cast (t:=do holding _ (do standAt pos; bindName c.env _ _); assignInOrder ((assignEach ts c.env).map (·.2)) _) ?_ rfl
  exact W.bind (W.holding (W.at_ (bind_W ok hp iv fun fz' s=>ih e (ir.mono (mem_mono s)) fun fz'' s'=>q fz'' fun p hp=>s' p (s p hp))))
theorem PutL.len {xs:List Str} {vs:List V} {lo lo':Loc} (h:PutL xs vs lo lo'):xs.length=vs.length:=by
 induction h with
 | nil=>rfl
 | cons _ _ ih=>rw [Qb,Qb,ih]
theorem NmEs.len {elts:List Expr} {xs:List Str} (e:NmEs elts xs) (env:Env):(assignEach elts env).length=xs.length∧(assignEach elts env).findIdx? (·.1)=none:=by
 induction e with
 | nil=>exact ⟨rfl,rfl⟩
 | @cons x p es xs _ ih =>
  refine ⟨congrArg (·+1) ih.1,?_⟩
  show ((false,assign (.Name _ p) env)::assignEach es env).findIdx? (·.1)=none
  rw [List.findIdx?_cons,ih.2]; rfl
noncomputable def UnpK (v:V) (xs:List Str) (lo:Loc) (k:Loc→Prop):Prop:=∃ vs,v=.tup vs∧PutAll xs vs lo k
theorem S.unpack {elts:List Expr} {xs:List Str} {x1:Nat} {pos' pos:Pos} {value:Expr} {Q:R→Loc→AH→Prop} (hn:NmEs elts xs)
  (h:E g Γ d value lo H fun v H₁=>UnpK v xs lo fun lo'=>Q .next lo' H₁)
  (hs:autoParam (∀ env,swapsWithSole [Expr.Tuple elts x1 pos'] value pos.line env=pure false) irfa) (hw:autoParam (∀ env,swappedStores [Expr.Tuple elts x1 pos'] value env=pure none) irfa):S g Γ d (.Assign [Expr.Tuple elts x1 pos'] value pos) lo H Q:=by
 intro c ok fz mf m cl fz₁ led s hs' I
 refine wpAny_Assign_stores ((h c ok fz).useV hs' I fun {x s' H' mf' m' cl' fz' led' a} I' hs'' i r_=>?_) (hs _) (hw _)
 refine ob_EAEA r_ fun vs e lo' hp q=>?_
 try clear r_
 subst e
 refine ob_EEEAA i.tupE fun a vs n e hm ha=>?_
 subst e
 show wpAny _ _ (PySem.assign (Expr.Tuple elts x1 pos') c.env _) _ _ _
 rw [arm_assign_Tuple]
 have L:=hn.len c.env
 refine wpAny_bind (wpAny_standAt (wpAny_unpack_tuple (items:=vs.toArray) ok.handled ⟨_,I'.hi.there ok.stays hm,rfl,_,rfl⟩ (by rw [L.1,hp.len,List.size_toArray,ha.length]) L.2 fun h' hx=>?_))
 have I₂:Inv g c lo H' mf' m' cl' fz' led' { s' with heap:=h' }:=I'.to s'.toks (Qd _) (I'.hi.grow fun b o e=>hx b o (Nat.ne_of_lt (Heap.lt_size e)) e)
 exact (inOrder_W (Q:=fun _ _ lo'' H''=>Q .next lo'' H'') ok hn ha hp fun _ _=>q).use (fun _ x=>x) I₂ fun I₃ hs₃ q=>.mk _ _ _ _ _ _ _ I₃ (fun p hp=>hs₃ p (hs'' p hp)) ⟨_,.next,q⟩
theorem S.two {x y:Str} {px py pos:Pos} {value:Expr} {Q:R→Loc→AH→Prop} (h:E g Γ d value lo H fun v H₁=>PutK x v lo fun lo'=>PutK y v lo' fun lo''=>Q .next lo'' H₁)
  (hw:autoParam (∀ env,swappedStores [Expr.Name x px,Expr.Name y py] value env=pure none) irfa):S g Γ d (.Assign [.Name x px,.Name y py] value pos) lo H Q:=by
 intro c ok fz mf m cl fz₁ led s hs' I
 refine wpAny_Assign_two ((h c ok fz).useV hs' I fun {cv s' H' mf' m' cl' fz' led' v} I' hs'' i r_=>?_) rfl (hw _)
 refine ob_EAEA r_ fun lo₁ p1 lo₂ p2 q=>?_
 try clear r_
 refine wpAny_bind (wpAny_standAt ((bind_W (Q:=fun fz'' _ lo'' H''=>lo''=lo₁∧H''=H'∧∀ p∈fz',p∈fz'') ok p1 i (fun _ s=>⟨rfl,rfl,s⟩)).use (fun _ x=>x) I' fun I₃ hs₃ r_=>?_))
 obtain ⟨e1,e2,e3⟩:=r_
 subst e1; subst e2
 exact wpAny_bind (wpAny_standAt ((bind_W (Q:=fun _ _ lo' H'=>Q .next lo' H') ok p2 (i.mono (mem_mono e3)) fun _ _=>q).use (fun _ x=>x) I₃ fun I₄ hs₄ q=>.mk _ _ _ _ _ _ _ I₄ (fun p hp=>hs₄ p (hs₃ p (hs'' p hp))) ⟨_,.next,q⟩))
end
inductive MUpd (a:Addr) (x x':MO):AH→AH→Prop
 | here {r:AH}:MUpd a x x' ((a,x)::r) ((a,x')::r)
 | there {p:Addr × MO} {r r':AH}:MUpd a x x' r r'→MUpd a x x' (p::r) (p::r')
noncomputable def HRI (M:Mem) (led:Led) (H:AH):Prop:=List.casesOn (motive:=fun _=>Prop) H (led=[]) (fun p H=>∃ o r,led=(p.1,o)::r∧OIs M o p.2∧HR M r H)
theorem HR.inv {M:Mem} {led:Led} {H:AH} (h:HR M led H):HRI M led H:=HR.casesOn (motive:=fun led H _=>HRI M led H) h rfl (fun a b=>⟨_,_,rfl,a,b⟩)
theorem HR.consE {M:Mem} {led:Led} {p:Addr × MO} {H:AH} (h:HR M led (p::H)):∃ o r,led=(p.1,o)::r∧OIs M o p.2∧HR M r H:=h.inv
theorem HR.split {M:Mem} {a:Addr} {x x':MO} {led:Led} {H H':AH} (h:HR M led H) (u:MUpd a x x' H H') :
  ∃ pre o post,led=pre++(a,o)::post∧OIs M o x∧∀ o',OIs M o' x'→HR M (pre++(a,o')::post) H':=by
 induction u generalizing led with
 | here=>obtain ⟨o,r,e,h,t⟩:=h.consE; exact ⟨[],o,r,e,h,fun o' h'=>.cons h' t⟩
 | there _ ih =>
  refine ob_EEAA h.consE fun o r e h t=>?_
  refine ob_EEEAA (ih t) fun pre o' post e' h1 h2=>?_
  exact ⟨_::pre,o',post,by rw [e,e']; rfl,h1,fun o' h'=>.cons h (h2 o' h')⟩
theorem HR.at_ {M:Mem} {a:Addr} {x:MO} {led:Led} {H:AH} (h:HR M led H) (m:(a,x)∈H):∃ o,(a,o)∈led∧OIs M o x:=by
 induction h with
 | nil=>cases m
 | cons h _ ih=>cases m with
  | head=>exact ⟨_,.head _,h⟩
  | tail _ m=>exact (ih m).elim fun o q=>⟨o,.tail _ q.1,q.2⟩
section
variable {g:Gx} {Γ:Fx} {d:Nat} {lo:Loc} {H:AH} {c:Cx} {fz:Led}
theorem HI.update {mf m:Str→Option Value} {cl fz pre post:Led} {a:Addr} {o o':Obj} {H':AH} {h h':Heap} (I:HI g c lo H mf m cl fz (pre++(a,o)::post) h) (F:Fr c.h₀ c.L h' mf)
  (hr:HR (Cx.mem g fz) (pre++(a,o')::post) H') (N:∀ p q:Led,cl++(pre++(a,o)::post)++(c.pins++fz)=p++(a,o)::q→(∀ z∈p,z.1≠a)→(∀ z∈q,z.1≠a)→News c.h₀ c.L h' (p++(a,o')::q)):HI g c lo H' mf m cl fz (pre++(a,o')::post) h':=by
 have e (x:Obj):cl++((pre++(a,x)::post)++(c.pins++fz))=(cl++pre)++(a,x)::(post++(c.pins++fz)):=by simp
 have nd:=I.nd
 rw [e] at nd
 have nd2:((cl++pre).map (·.1)++a::(post++(c.pins++fz)).map (·.1)).Nodup:=by simpa using nd
 have hh:=(List.perm_middle.nodup_iff).mp nd2
 have hn:=(List.nodup_cons.mp hh).1
 have off1:∀ z∈cl++pre,z.1≠a:=fun z hz q=>hn (by rw [← q]; exact List.mem_append_left _ (List.mem_map_of_mem (f:=(·.1)) hz))
 have off2:∀ z∈post++(c.pins++fz),z.1≠a:=fun z hz q=>hn (by rw [← q]; exact Qw _ (List.mem_map_of_mem (f:=(·.1)) hz))
 refine ⟨F,I.clr,?_,?_,I.lok,I.loc,hr⟩
 ·rw [e]; exact N _ _ (by simp) off1 off2
 ·rw [e]; simpa using nd
set_option genInjectivity false in
inductive CP (g:Gx) (c:Cx) (lo:Loc) (mf m:Str→Option Value) (fz:Led) (Q:V→AH→Prop) (x:Value) (s':Shared):Prop
 | mk {H':AH} {cl' fz' led':Led} {y:V} (I:Inv g c lo H' mf m cl' fz' led' s') (hs:∀ p∈fz,p∈fz') (i:Is (Cx.mem g fz') x y) (q:Q y H')
noncomputable def CPr (g:Gx) (c:Cx) (lo:Loc) (mf m:Str→Option Value) (fz:Led) (Q:V→AH→Prop) (r:Except Value Flow) (s':Shared):Prop:=match r with
 | .ok (.ret x)=>CP g c lo mf m fz Q x s'
 | _=>False
noncomputable def Call (g:Gx) (d:Nat) (f:Value) (args:List V) (H:AH) (Q:V→AH→Prop):Prop :=
 ∀ (Γ:Fx) (c:Cx),c.Ok g Γ d→∀ (lo:Loc) (xs:List Value) (mf m:Str→Option Value) (cl fz led:Led) (s:Shared),IsAll (Cx.mem g fz) xs args→Inv g c lo H mf m cl fz led s →
  codeAny (model g.prog g.w) c.A (.call f ⟨xs,[]⟩) (CPr g c lo mf m fz Q) s
noncomputable def CallB (g:Gx) (d:Nat) (f:Value) (args:List V) (H:AH) (Q:V→AH→Prop):Prop :=
 ∀ (Γ:Fx) (c:Cx),c.Ok g Γ d→∀ (fz:Led) (lo:Loc) (xs:List Value),IsAll (Cx.mem g fz) xs args→W g c fz (call f xs) lo H (VP g lo Q)
theorem Cx.Ok.le {d d':Nat} (ok:c.Ok g Γ d) (h:d'≤d):c.Ok g Γ d':={ ok with room:=by have:=ok.room; exact ar4 (.im (.le (.a (.a .v0 .v3) (.n 8)) .v2) (.im (.le .v1 .v3) (.le (.a (.a .v0 .v1) (.n 8)) .v2))) rfl this h,units:=by have:=ok.units; exact ar4 (.im (.le (.a (.a .v0 (.m 10 .v3)) (.n 200)) .v2) (.im (.le .v1 .v3) (.le (.a (.a .v0 (.m 10 .v1)) (.n 200)) .v2))) rfl this h }
theorem Call.le {d d':Nat} {f:Value} {args:List V} {Q:V→AH→Prop} (h:Call g d' f args H Q) (k:d'≤d):Call g d f args H Q :=
 fun Γ c ok=>h Γ c (ok.le k)
theorem Call.W {f:Value} {args:List V} {xs:List Value} {Q:V→AH→Prop} (h:Call g d f args H Q) (ok:c.Ok g Γ d) (i:IsAll (Cx.mem g fz) xs args):W g c fz (call f xs) lo H (VP g lo Q) :=
 fun mf m cl fz₁ led s hs I=>wpAny_call (codeAny_mono (h Γ c ok lo xs mf m cl fz₁ led s (i.mono (mem_mono hs)) I) fun r s' q=>by
  rcases r with e | (x | _ | _ | _) <;> first | exact False.elim q | skip
  cases q with | mk I hs i q=>exact .mk _ _ _ _ _ _ _ I hs ⟨rfl,_,i,q⟩)
theorem kinAt {mf m:Str→Option Value} {cl led:Led} {s:Shared} (ok:c.Ok g Γ d) (I:Inv g c lo H mf m cl fz led s):g.K.In s.heap :=
 ok.gok.kin.keeps fun b o e=>I.hi.fr.keep _ _ (ok.stays _ _ e)
theorem callWith_W (ok:c.Ok g Γ d) {f:Value} {first:List Value} {e:Expr} {rest:List Expr} {pos:Pos} {Q:Led→Value→Loc→AH→Prop} (hk:keepIn g.K f=true)
  (h:W g c fz (spliced (backTo pos (starEach (e::rest) c.env))) lo H (fun fz' vs lo' H'=>W g c fz' (call f (first++vs)) lo' H' Q))
  (he:starEach (e::rest) c.env=(false,eval e c.env)::starEach rest c.env) (hplain:(backTo pos (starEach rest c.env)).any (·.1)=false) :
  W g c fz (callWith pos f first (backTo pos (starEach (e::rest) c.env)) []) lo H Q:=by
 intro mf m cl fz₁ led s hs I
 refine callWith_K (h₀:=s.heap) (kinAt ok I) hk (h.use hs I fun I' hs' q=>⟨kinAt ok I',q.rest (fun _ x=>x) I' hs'⟩) he hplain
theorem callWith0_W (ok:c.Ok g Γ d) {f:Value} {first:List Value} {pos:Pos} {Q:Led→Value→Loc→AH→Prop} (hk:keepIn g.K f=true)
  (h:W g c fz (call f (first++[])) lo H Q):W g c fz (callWith pos f first (backTo pos (starEach [] c.env)) []) lo H Q :=
 fun mf m cl fz₁ led s hs I=>callWith_K0 (kinAt ok I) hk (h mf m cl fz₁ led s hs I)
theorem callWithB_W {id:String} {first:List Value} {e:Expr} {rest:List Expr} {pos:Pos} {Q:Led→Value→Loc→AH→Prop}
  (h:W g c fz (spliced (backTo pos (starEach (e::rest) c.env))) lo H (fun fz' vs lo' H'=>W g c fz' (call (.builtin id) (first++vs)) lo' H' Q))
  (he:starEach (e::rest) c.env=(false,eval e c.env)::starEach rest c.env) (hplain:(backTo pos (starEach rest c.env)).any (·.1)=false) :
  W g c fz (callWith pos (.builtin id) first (backTo pos (starEach (e::rest) c.env)) []) lo H Q:=by
 intro mf m cl fz₁ led s hs I
 exact callWith_method1 (h.use hs I fun I' hs' q=>q.rest (fun _ x=>x) I' hs') he hplain
theorem E.call {x:Str} {p pos:Pos} {f:Value} {e:Expr} {rest:List Expr} {Q:V→AH→Prop} (hf:(x,f)∈Γ.globs) (hk:keepIn g.K f=true)
  (h:Es g Γ d (e::rest) lo H fun vs H₁=>Call g d f vs H₁ Q)
  (he:autoParam (∀ env,starEach (e::rest) env=(false,eval e env)::starEach rest env) irfa) (hplain:autoParam (∀ env,(backTo pos (starEach rest env)).any (·.1)=false) irfa):E g Γ d (.Call (.Name x p) (e::rest) [] pos) lo H Q:=by
 intro c ok fz
 refine W.cast (t:=do callWith pos (← eval (.Name x p) c.env) [] (backTo pos (starEach (e::rest) c.env)) []) ?_ rfl
 refine W.bindV ((E.glo hf (Q:=fun v H'=>v=.glo f∧H'=H) ⟨rfl,rfl⟩ c ok fz)) fun fz₁ x v H₁ s₁ i r_=>?_
 obtain ⟨ev,eH⟩:=r_
 subst ev; subst eH
 have ez:=i.gloE
 subst ez
 exact callWith_W ok hk ((h c ok fz₁ pos).elimVs fun fz₂ xs vs H₂ s₂ is q=>q.W ok is) (he _) (hplain _)
theorem E.call0 {x:Str} {p pos:Pos} {f:Value} {Q:V→AH→Prop} (hf:(x,f)∈Γ.globs) (hk:keepIn g.K f=true) (h:Call g d f [] H Q):E g Γ d (.Call (.Name x p) [] [] pos) lo H Q:=by
 intro c ok fz
 refine W.cast (t:=do callWith pos (← eval (.Name x p) c.env) [] (backTo pos (starEach [] c.env)) []) ?_ rfl
 refine W.bindV ((E.glo hf (Q:=fun v H'=>v=.glo f∧H'=H) ⟨rfl,rfl⟩ c ok fz)) fun fz₁ x v H₁ s₁ i r_=>?_
 obtain ⟨ev,eH⟩:=r_
 subst ev; subst eH
 have ez:=i.gloE
 subst ez
 exact callWith0_W ok hk (h.W ok .nil)
theorem E.callB {x:Str} {p pos:Pos} {id:String} {e:Expr} {rest:List Expr} {Q:V→AH→Prop} (hf:(x,.builtin id)∈Γ.globs)
  (h:Es g Γ d (e::rest) lo H fun vs H₁=>CallB g d (.builtin id) vs H₁ Q)
  (he:autoParam (∀ env,starEach (e::rest) env=(false,eval e env)::starEach rest env) irfa) (hplain:autoParam (∀ env,(backTo pos (starEach rest env)).any (·.1)=false) irfa):E g Γ d (.Call (.Name x p) (e::rest) [] pos) lo H Q:=by
 intro c ok fz
 refine W.cast (t:=do callWith pos (← eval (.Name x p) c.env) [] (backTo pos (starEach (e::rest) c.env)) []) ?_ rfl
 refine W.bindV ((E.glo hf (Q:=fun v H'=>v=.glo _∧H'=H) ⟨rfl,rfl⟩ c ok fz)) fun fz₁ x v H₁ s₁ i r_=>?_
 obtain ⟨ev,eH⟩:=r_
 subst ev; subst eH
 have ez:=i.gloE
 subst ez
 exact callWithB_W ((h c ok fz₁ pos).elimVs fun fz₂ xs vs H₂ s₂ is q=>q Γ c ok fz₂ _ xs is) (he _) (hplain _)
noncomputable def enter (c:Cx) (cl:Led) (g₀:Heap) (L':Addr) (env':Env):Cx :=
 { A:=c.A.deeper env',A₀:=c.A,base:=c.base,h₀:=g₀,outer:=c.fenv::c.outer,fenv:=env',env:=env',L:=L',pins:=cl++c.pins,os:=c.os }
theorem perm4 (cl led pins fz:Led):(cl++(led++(pins++fz))).Perm ([]++(led++((cl++pins)++fz))):=by
 simp only [List.nil_append]
 have h1:(cl++(led++(pins++fz))).Perm (led++(cl++(pins++fz))):=by
  rw [← Qf,← Qf (as:=led)]
  exact (List.perm_append_comm).append_right _
 simpa [List.append_assoc] using h1
set_option genInjectivity false in
inductive FnIn (K:Frag) (sc:Scope) (code:Value) (f:Addr) (names:List Str) (dflt:List (Str × Value)) (body:List Stmt):Prop
 | mk {name qual:Str} {params:_} {oc:_} {od:_} {osl:_} {dV kV doc pm:Value} {an:Option Addr} {cdv ct:Value} (h:K.lookup f=some ⟨oc,od,.func (fnOf name qual params body sc dV kV doc pm an cdv ct),osl⟩) (hc:codeIn K cdv qual=true) (hv:code=.none∨cdv=code)
  (hb:∀ s:Shared,K.In s.heap→∀ xs:List Value,xs.length=names.length→BindsTo s (fnOf name qual params body sc dV kV doc pm an cdv ct) ⟨xs,[]⟩ (names.zip xs++dflt))
set_option genInjectivity false in
structure DefOk (g:Gx) (Γ:Fx) (f:Addr) (names:List Str) (dflt:List (Str × Value)) (keys:List Str) (body:List Stmt):Prop where
 ok:FnIn g.K Γ.scope Γ.code f names dflt body
 scope:Γ.scope.isCoroutine=false∧Γ.scope.isGenerator=false∧Γ.scope.kind=.function∧∀ x∈Γ.scope.names,x.2≠.cell
 keys:(names++dflt.map (·.1)++keys).Nodup∧∀ x∈names++dflt.map (·.1)++keys,Γ.scope.names.lookup x=some .local∧(x==("__debug__":Str))=false
 globs:∀ p∈Γ.globs,Γ.scope.names.lookup p.1=some .globalImplicit∧(p.1==("__debug__":Str))=false ∧
  (g.mg p.1=some p.2∨(g.mg p.1=none∧g.mb p.1=some p.2))
 cells:Γ.cells=[]
noncomputable def startLoc (names:List Str) (args:List V) (dflt:List (Str × V)) (keys:List Str):Loc:=names.zip args++dflt++keys.map fun k=>(k,V.unset)
theorem lookup_zip_rev {names:List Str} {xs:List Value} {dflt:List (Str × Value)} {p:Str × Value} (h:p∈names.zip xs++dflt) (nd:((names.zip xs++dflt).map (·.1)).Nodup):(names.zip xs++dflt).reverse.lookup p.1=some p.2:=by
 have nd':(((names.zip xs++dflt).reverse).map (·.1)).Nodup:=by rw [List.map_reverse]; exact (List.reverse_perm _).nodup_iff.mpr nd
 have hm:p∈(names.zip xs++dflt).reverse:=List.mem_reverse.mpr h
 generalize (names.zip xs++dflt).reverse=l at nd' hm
 induction l with
 | nil=>cases hm
 | cons q r ih =>
  rw [List.lookup_cons]
  rcases Qi hm with rfl | hm
  ·simp
  ·have hne:(p.1==q.1)=false:=by
    refine Qk fun e=>?_
    have:=(List.nodup_cons.mp nd').1
    exact this (by show q.1∈_; rw [← e]; exact List.mem_map_of_mem (f:=(·.1)) hm)
   rw [hne]
   exact ih (List.nodup_cons.mp nd').2 hm
theorem map_zip_fst {α:Type} {names:List Str} {xs:List α} (h:xs.length=names.length):(names.zip xs).map (·.1)=names:=List.map_fst_zip (Nat.le_of_eq h.symm)
theorem IsAll.zip {M:Mem} {names:List Str} {xs:List Value} {vs:List V} (i:IsAll M xs vs):∀ p∈names.zip vs,∃ x,(p.1,x)∈names.zip xs∧Is M x p.2:=by
 induction vs generalizing names xs with
 | nil=>intro p hp; rw [List.zip_nil_right] at hp; cases hp
 | cons d ds ih =>
  refine ob_EEAA i.consE fun x r e i' t=>?_
  subst e
  cases names with
  | nil=>intro p hp; cases hp
  | cons n ns =>
   intro p hp
   cases hp with
   | head=>exact ⟨x,.head _,i'⟩
   | tail _ hp=>exact (ih t p hp).elim fun x q=>⟨x,.tail _ q.1,q.2⟩
noncomputable abbrev KDef (Q:V→AH→Prop):R→Loc→AH→Prop:=fun r _ H'=>match r with | .ret v=>Q v H' | .next=>Q .none H' | _=>False
theorem room_lt {a d:Nat} (h:a+(d+1)+8≤recursionLimit):a < recursionLimit:=by exact ar3 (.im (.le (.a (.a .v0 (.a .v2 .n1)) (.n 8)) .v1) (.lt .v0 .v1)) rfl h
theorem room_in {a d:Nat} (h:a+(d+1)+8≤recursionLimit):a+1+d+8≤recursionLimit:=by exact ar3 (.im (.le (.a (.a .v0 (.a .v1 .n1)) (.n 8)) .v2) (.le (.a (.a (.a .v0 .n1) .v1) (.n 8)) .v2)) rfl h
theorem units_in {a d:Nat} (h:a+10 * (d+1)+200≤cLine):a+3+10 * d+200≤cLine:=by exact ar3 (.im (.le (.a (.a .v0 (.m 10 (.a .v1 .n1))) (.n 200)) .v2) (.le (.a (.a (.a .v0 (.n 3)) (.m 10 .v1)) (.n 200)) .v2)) rfl h
set_option tactic.hygienic true in
theorem Call.def_ {f:Addr} {names keys:List Str} {dflt:List (Str × Value)} {dv:List (Str × V)} {body:List Stmt} {args:List V} {Q:V→AH→Prop} (D:DefOk g Γ f names dflt keys body) (ha:args.length=names.length)
  (hd:dv.map (·.1)=dflt.map (·.1)∧∀ p∈dv,∃ x,(p.1,x)∈dflt∧∀ M,Is M x p.2)
  (h:Ss g Γ d body (startLoc names args dv keys) H (KDef Q)):Call g (d+1) (.ref f) args H Q:=by
 intro Γ₀ c ok lo xs mf m cl fz₁ led s is I
 obtain ⟨ho,hcd,hcv,hb⟩:=D.ok
 rename_i name qual params oc od osl dV kV doc pm an cdv ct
 have hxl:xs.length=names.length:=is.length.trans ha
 have keq:(names.zip xs++dflt).map (·.1)=names++dflt.map (·.1):=by rw [List.map_append,map_zip_fst hxl]
 have kst:(startLoc names args dv keys).map (·.1)=names++dflt.map (·.1)++keys:=by
  unfold startLoc; rw [List.map_append,List.map_append,map_zip_fst ha,hd.1]; simp [Function.comp_def]
 have knd:((names.zip xs++dflt).map (·.1)).Nodup:=by rw [keq]; exact (List.nodup_append.mp D.keys.1).1
 have T₀:=ok.gok.top.keeps (fun b o e=>ok.stays b o e)
 refine code_def ok.below I.hi.fr (ok.gok.kin.keeps fun b o e=>ok.stays b o e) I.hi.news T₀ ok.frames ok.fframe ok.fkind ho hcd (room_lt ok.room) (hb s (kinAt ok I) xs hxl) (fun y hy=>?_) (fun gg L' h₁ FG F' N' B' KG TG=>?_) D.scope.1 D.scope.2.1 D.scope.2.2.1 D.scope.2.2.2
 ·have:y.1∈names++dflt.map (·.1):=by rw [← keq]; exact List.mem_map_of_mem (f:=(·.1)) hy
  exact (D.keys.2 y.1 (List.mem_append_left _ this)).1
 ·have ok':(enter c cl gg L' (envOf qual Γ.scope L' f cdv)).Ok g Γ d:=by
   refine ⟨ok.gok,B',?_,ok.handled,rfl,D.scope.2.2.1,fun b o e=>?_,rfl,D.scope.2.2.1,rfl,rfl,?_,?_,D.globs,?_,.inl D.cells⟩
   ·show (c.A.deeper _).frames=_
    unfold Around.deeper; rw [ok.frames]; rfl
   ·exact ok.bot b o e
   ·exact room_in ok.room
   ·exact units_in ok.units
   ·exact hcv
  have pm:=perm4 cl led c.pins fz₁
  have I':Inv g (enter c cl gg L' (envOf qual Γ.scope L' f cdv)) (startLoc names args dv keys) H (fun y=>(names.zip xs++dflt).reverse.lookup y) (fun y=>(names.zip xs++dflt).reverse.lookup y) [] fz₁ led { s with heap:=h₁,toks:=s.toks+(names.zip xs++dflt).length }:=by
   refine ⟨⟨F',.own rfl,fun p hp=>N' p (pm.mem_iff.mpr hp),(pm.map _).nodup_iff.mp I.hi.nd,⟨by rw [kst]; exact D.keys.1,fun p hp=>D.keys.2 p.1 (by rw [← kst]; exact List.mem_map_of_mem (f:=(·.1)) hp)⟩,?_,I.hi.hr⟩,I.gens,I.os,Nat.le_trans I.tk (Nat.le_add_right _ _)⟩
   intro p hp
   unfold startLoc at hp
   rcases List.mem_append.mp hp with hp | hp
   ·right
    rcases List.mem_append.mp hp with hp | hp
    ·obtain ⟨x,a,b⟩:=is.zip p hp
     exact ⟨x,lookup_zip_rev (p:=(p.1,x)) (List.mem_append_left _ a) knd,b⟩
    ·obtain ⟨x,a,b⟩:=hd.2 p hp
     exact ⟨x,lookup_zip_rev (p:=(p.1,x)) (Qw _ a) knd,b _⟩
   ·left
    obtain ⟨k,_,rfl⟩:=List.mem_map.mp hp
    rfl
  refine (h _ ok' fz₁).use (fun _ x=>x) I' fun {fl s' lo' H' mf' m' cl' fz' led'} I₂ hs₂ r_=>?_
  obtain ⟨r,hr,q⟩:=r_
  have hcl:cl'=[]:=by
   have C:=I₂.hi.clr
   have N:=I₂.hi.news
   induction C with
   | own _=>rfl
   | apart _ _=>exact absurd rfl (N _ (.head _)).2.1
  subst hcl
  have pm':=perm4 cl led' c.pins fz'
  refine ⟨L',mf',_,I₂.hi.fr,I₂.hi.news,fun F'' N''=>?_⟩
  have J:Inv g c lo H' mf m cl fz' led' s':=⟨⟨F'',I.hi.clr,fun p hp=>N'' p (pm'.mem_iff.mp hp),(pm'.map _).nodup_iff.mpr I₂.hi.nd,I.hi.lok,I.hi.loc.mono (mem_mono hs₂),I₂.hi.hr⟩,I₂.gens,I₂.os,I₂.tk⟩
  induction hr with
  | next=>exact .mk J hs₂ .none q
  | ret i=>exact .mk J hs₂ i q
  | _=>exact q.elim
end
section
variable {g:Gx} {Γ:Fx} {d:Nat} {lo:Loc} {H:AH} {c:Cx} {fz:Led}
theorem HI.freeze {mf m:Str→Option Value} {cl fz led:Led} {x:Addr} {o:Obj} {mo:MO} {h:Heap} (I:HI g c lo ((x,mo)::H) mf m cl fz ((x,o)::led) h):HI g c lo H mf m cl ((x,o)::fz) led h:=by
 have pm:(cl++((x,o)::led++(c.pins++fz))).Perm (cl++(led++(c.pins++((x,o)::fz)))):=by
  refine List.Perm.append_left cl ?_
  have:((x,o)::led++(c.pins++fz)).Perm ((x,o)::(led++(c.pins++fz))):=List.Perm.refl _
  refine this.trans ?_
  have h2:(led++c.pins++(x,o)::fz).Perm ((x,o)::(led++c.pins++fz)):=List.perm_middle
  simpa [List.append_assoc] using h2.symm
 have hr:=I.hr
 refine ⟨I.fr,I.clr,fun p hp=>I.news p (pm.mem_iff.mpr hp),(pm.map _).nodup_iff.mp I.nd,I.lok,I.loc.mono (mem_mono fun _ hp=>.tail _ hp),?_⟩
 cases hr with
 | cons _ r=>exact r.mono (mem_mono fun _ hp=>.tail _ hp)
theorem ClR.to {c':Cx} {mf m:Str→Option Value} {cl:Led} (h:ClR c mf m cl) (e1:c'.env=c.env) (e2:c'.L=c.L) (e3:c'.keep=c.keep):ClR c' mf m cl:=by
 induction h with
 | own e=>exact .own (by rw [e1,e2,e])
 | apart k n=>rw [← e1]; exact .apart (e3.trans k) n
theorem units_un {a d:Nat} (h:a+10 * (d+1)+200≤cLine):a+1+10 * d+200≤cLine:=by exact ar3 (.im (.le (.a (.a .v0 (.m 10 (.a .v1 .n1))) (.n 200)) .v2) (.le (.a (.a (.a .v0 .n1) (.m 10 .v1)) (.n 200)) .v2)) rfl h
theorem under_ok {C:Addr} {vals:List Value} (ok:c.Ok g Γ (d+1)):({ c with A:=c.A.under (.builtin "type.__call__" ⟨.ref C::vals,[]⟩) }:Cx).Ok g Γ d :=
 { gok:=ok.gok,below:=ok.below,frames:=ok.frames,handled:=ok.handled,fframe:=ok.fframe,fkind:=ok.fkind,bot:=ok.bot,scope:=ok.scope,kind:=ok.kind,globals:=ok.globals,builtins:=ok.builtins,room:=room_in ok.room,units:=units_un ok.units,globs:=ok.globs,code:=ok.code,cells:=ok.cells }
theorem Call.cls {C fI:Addr} {args:List V} {Q:V→AH→Prop} (hm:makesIn g.K C=true) (hi:findIn g.K (.ref C) "__init__"=some (some (.ref fI))) (hf:isFn g.K (.ref fI)=true)
  (h:∀ x,Call g d (.ref fI) (.ref x::args) ((x,.ins C [])::H) (fun v H'=>v=.none∧∃ vs,H'=(x,.ins C vs)::H∧Q (.obj C vs) H)):Call g (d+1) (.ref C) args H Q:=by
 intro Γ c ok lo xs mf m cl fz led s is I
 have X₀:g.K.In c.h₀:=ok.gok.kin.keeps fun b o e=>ok.stays b o e
 refine make_K I.hi.fr I.hi.news (X₀.keeps I.hi.fr.keep) hm hi (beq_iff_eq.mp hf) (fun x dx h' F' N' lt lt2=>?_)
 have I1:=I.hi.addFz (l:=dx) (o:=emptyDict) F' (fun p hp=>N' p (.tail _ hp)) fun p hp=>Nat.ne_of_lt (lt p hp)
 have I2:=I1.addLed (l:=x) (o:=instObj C dx) (x:=.ins C []) (OIs.ins (os:=[]) (.inl (.head _)) .nil) F' (fun p hp=>by
   rcases Qi hp with rfl | hp
   ·exact N' _ (.head _)
   ·have e (b:Led):cl++(led++(c.pins++b))=(cl++(led++c.pins))++b:=by simp
    rw [e] at hp
    rcases mem_mid hp with rfl | hp
    ·exact N' _ (.tail _ (.head _))
    ·exact N' _ (.tail _ (.tail _ (by rw [e]; exact hp)))) (fun p hp=>by
   have e (b:Led):cl++(led++(c.pins++b))=(cl++(led++c.pins))++b:=by simp
   rw [e] at hp
   rcases mem_mid hp with rfl | hp
   ·exact Nat.ne_of_lt lt2
   ·exact Nat.ne_of_lt (Nat.lt_trans (lt p (by rw [e]; exact hp)) lt2))
 let c':Cx:={ c with A:=c.A.under (.builtin "type.__call__" ⟨.ref C::xs,[]⟩) }
 have ok':c'.Ok g Γ d:=under_ok ok
 have I3:Inv g c' lo ((x,.ins C [])::H) mf m cl ((dx,emptyDict)::fz) ((x,instObj C dx)::led) { s with heap:=h' }:=⟨⟨I2.fr,I2.clr.to rfl rfl rfl,I2.news,I2.nd,I2.lok,I2.loc,I2.hr⟩,I.gens,I.os,I.tk⟩
 refine codeAny_mono (h x Γ c' ok' lo (.ref x::xs) mf m cl _ _ _ (.cons (.ref x) (is.mono (mem_mono fun _ hp=>.tail _ hp))) I3) fun r s' q=>?_
 rcases r with e | (v | _ | _ | _) <;> first | exact False.elim q | skip
 cases q with | @mk H' cl' fz' led' y I' hs iy q =>
 refine ob_AEA q ?_
 clear q
 intro ey vs eH q
 subst ey; subst eH
 have ez:=iy.noneE
 subst ez
 refine ob_EEAA I'.hi.hr.consE fun o led₀ e ho hr=>?_
 subst e
 have J:=I'.hi.freeze
 refine ob_EEAA ho.insE fun dx' os eo hdx hsl=>?_
 subst eo
 exact ⟨rfl,.mk (fz':=(x,insOf C dx' os.toArray)::fz') ⟨⟨J.fr,J.clr.to rfl rfl rfl,J.news,J.nd,J.lok,J.loc,J.hr⟩,I'.gens,I'.os,I'.tk⟩ (fun p hp=>.tail _ (hs p (.tail _ hp))) (.obj (.inl (.head _)) (mem_mono (fun _ hp=>.tail _ hp) _ _ hdx) (hsl.mono (mem_mono fun _ hp=>.tail _ hp))) q⟩
noncomputable def refA:Value→Option Addr
 | .ref p=>some p
 | _=>none
theorem refA_some {a:Value} {p:Addr} (h:refA a=some p):a=.ref p:=by cases a <;> first | (cases h; rfl) | cases h
theorem ite_some {α:Type} {b:Bool} {x:Option α} {y:α} (h:(if b then x else none)=some y):b=true∧x=some y:=by
 cases b with
 | false=>cases h
 | true=>exact ⟨rfl,h⟩
noncomputable def refIn (o:Option (Option Value)):Option Addr:=o.bind fun r=>r.bind refA
theorem refIn_some {o:Option (Option Value)} {p:Addr} (h:refIn o=some p):o=some (some (.ref p)):=by
 refine x12 (Option.bind_eq_some_iff.mp h) fun r e1 h1=>?_
 refine x12 (Option.bind_eq_some_iff.mp h1) fun a e2 h2=>?_
 rw [e1,e2,refA_some h2]
noncomputable def slotAt (K:Frag) (C:Addr) (name:Str):Option Nat :=
 if plainGet K C name&&isClsIn K C then
  (refIn (findIn K (.ref C) name)).bind fun p=>if specialIn K (.ref p) "__get__"==some (some (.builtin "member_descriptor.__get__"))&&takesIn K (.ref p)==some true then slotIn K p C else none
 else none
noncomputable def setAt (K:Frag) (C:Addr) (name:Str):Option Nat :=
 if findIn K (.ref C) "__setattr__"==some (some (.builtin "object.__setattr__"))&&plainOver K C then
  (refIn (takerIn K C name)).bind fun p=>if typeIn K (.ref p)==some (.type "member_descriptor") then slotIn K p C else none
 else none
theorem IsSl.get {M:Mem} {os:List (Option Value)} {vs:List V} (h:IsSl M os vs) {i:Nat} {v:V} (e:vs[i]?=some v) (n:v≠.unset):∃ x,os[i]?=some (some x)∧Is M x v:=by
 induction vs generalizing os i with
 | nil=>exact nomatch e
 | cons d ds ih=>cases i with
  | zero=>cases h with
   | unset _=>exact absurd (Option.some.inj e).symm n
   | set h _=>exact ⟨_,rfl,Option.some.inj e ▸ h⟩
  | succ i=>cases h with
   | unset r=>exact ih r e
   | set _ r=>exact ih r e
noncomputable def V.plain:V→Bool
 | .glo _=>false
 | .unset=>false
 | _=>true
theorem handed_of {M:Mem} {x:Value} {v:V} (i:Is M x v) (h:v.plain=true):handedIn x=true:=by cases i <;> first | rfl | cases h
theorem instAt {M:Mem} {h:Heap} {a C dx:Addr} {os:List (Option Value)} (h1:h.get? a=some (insOf C dx os.toArray)) (h2:h.get? dx=some (dictOf [] 0)):InstAt h a (insOf C dx os.toArray) C (some (dictOf [] 0)) :=
 ⟨h1,rfl,rfl,h2⟩
set_option tactic.hygienic true in
theorem attr_W (ok:c.Ok g Γ d) {x:Value} {C:Addr} {vs:List V} {name:Str} {expr:Bool} {i:Nat} {v:V} {Q:V→AH→Prop} (ix:Is (Cx.mem g fz) x (.obj C vs)) (hs:slotAt g.K C name=some i) (hv:vs[i]?=some v) (hp:v.plain=true) (h:Q v H) :
  W g c fz (getAttr x name expr) lo H (VP g lo Q):=by
 refine W.now fun mf m cl fz₁ led s hs' I P _ k=>?_
 have ix:=ix.mono (mem_mono hs')
 refine ob_EEEAAA ix.objE fun _ _ _ ez hm hd hsl=>?_
 subst ez
 obtain ⟨y,hy,iy⟩:=hsl.get hv (by rintro rfl; cases hp)
 refine x02 (ite_some hs) fun q1 hs=>?_
 refine x12 (Option.bind_eq_some_iff.mp hs) fun p q2 hs=>?_
 refine x02 (ite_some hs) fun q3 hs=>?_
 have q2:=refIn_some q2
 simp only [Bool.and_eq_true,beq_iff_eq] at q1 q3
 have X₀:g.K.In c.h₀:=ok.gok.kin.keeps fun b o e=>ok.stays b o e
 exact get_slot I.hi.fr X₀ (instAt (M:=Cx.mem g fz₁) (I.hi.there ok.stays hm) (I.hi.there ok.stays hd)) q1.1 q1.2 q2 q3.1 q3.2 hs (by simp [hy]) (handed_of iy hp) (k _ _ (I.toks _) ⟨rfl,_,iy,h⟩)
noncomputable def AttrM (g:Gx) (a:V) (name:Str) (k:V→Prop):Prop:=∃ C vs i v,a=.obj C vs∧slotAt g.K C name=some i∧vs[i]?=some v∧v.plain=true∧k v
theorem W.letGo {value:Expr} {o r:Value} {v:V} {Q:V→AH→Prop} (ok:c.Ok g Γ d) (i:Is (Cx.mem g fz) r v) (q:Q v H):W g c fz (letTemporaryGo value o r >>= fun _=>Pure.pure r) lo H (VP g lo Q) :=
 W.now fun mf m cl fz₁ led s hs I P _ k=>wpAny_bind (wpAny_letTemporaryGo (wpAny_pure (k _ _ I.z ⟨rfl,v,i.mono (mem_mono hs),q⟩)))
theorem E.attr {value:Expr} {name:Str} {pos:Pos} {Q:V→AH→Prop} (h:E g Γ d value lo H fun a H₁=>AttrM g a name fun v=>Q v H₁)
  (he:autoParam (∀ env,eval (.Attribute value name pos) env=(do
   let o ← eval value env
   standAt pos.atName
   let r ← holding [o] (getAttr o name true)
   letTemporaryGo value o r
   Pure.pure r)) irfa):E g Γ d (.Attribute value name pos) lo H Q:=by
 intro c ok fz
 rw [he]
 refine W.bindV ((h c ok fz)) fun fz₁ x a H₁ s₁ ia ha=>?_
 refine ob_EEEEAAAA ha fun C vs i v e q1 q2 q3 q4=>?_
 try clear ha
 subst e
 exact W.at_ (W.bindV (W.holding (attr_W ok ia q1 q2 q3 q4)) fun fz₂ r v H₂ s₂ iv q=>W.letGo ok iv q)
noncomputable def setSl (i:Nat) (v:V) (vs:List V):List V:=(vs++List.replicate (i+1 - vs.length) V.unset).set i v
theorem IsSl.length {M:Mem} {os:List (Option Value)} {vs:List V} (h:IsSl M os vs):os.length=vs.length:=by
 induction vs generalizing os with
 | nil=>cases h; rfl
 | cons d ds ih=>cases h with
  | unset r=>exact congrArg (·+1) (ih r)
  | set _ r=>exact congrArg (·+1) (ih r)
theorem IsSl.append {M:Mem} {os ps:List (Option Value)} {vs ws:List V} (h:IsSl M os vs) (h':IsSl M ps ws):IsSl M (os++ps) (vs++ws):=by
 induction vs generalizing os with
 | nil=>cases h; exact h'
 | cons d ds ih=>cases h with
  | unset r=>exact .unset (ih r)
  | set i r=>exact .set i (ih r)
theorem IsSl.rep {M:Mem} (n:Nat):IsSl M (List.replicate n Option.none) (List.replicate n V.unset):=by
 induction n with
 | zero=>exact .nil
 | succ n ih=>exact .unset ih
theorem IsSl.put {M:Mem} {x:Value} {v:V} (i:Is M x v) {os:List (Option Value)} {vs:List V} (h:IsSl M os vs) (n:Nat):IsSl M (os.set n (some x)) (vs.set n v):=by
 induction vs generalizing os n with
 | nil=>cases h; exact .nil
 | cons d ds ih=>cases n with
  | zero=>cases h with
   | unset r=>exact .set i r
   | set _ r=>exact .set i r
  | succ n=>cases h with
   | unset r=>exact .unset (ih r n)
   | set j r=>exact .set j (ih r n)
theorem upd_of {a:Addr} {o o':Obj} {pre post:Led} (h1:∀ p∈pre,p.1≠a) (h2:∀ p∈post,p.1≠a):Upd a o o' (pre++(a,o)::post) (pre++(a,o')::post):=by
 induction pre with
 | nil=>exact .head h2
 | cons p pre ih=>exact .tail (h1 p (.head _)) (ih fun q hq=>h1 q (.tail _ hq))
theorem HI.by_upd {mf m:Str→Option Value} {cl fz pre post:Led} {a:Addr} {o o':Obj} {H':AH} {h:Heap} (I:HI g c lo H mf m cl fz (pre++(a,o)::post) h) (hr:HR (Cx.mem g fz) (pre++(a,o')::post) H') :
  ∃ news',Upd a o o' (cl++((pre++(a,o)::post)++(c.pins++fz))) news'∧∀ h',Fr c.h₀ c.L h' mf→News c.h₀ c.L h' news'→HI g c lo H' mf m cl fz (pre++(a,o')::post) h':=by
 have e (x:Obj):cl++((pre++(a,x)::post)++(c.pins++fz))=(cl++pre)++(a,x)::(post++(c.pins++fz)):=by simp
 have nd:=I.nd
 rw [e] at nd
 have nd2:((cl++pre).map (·.1)++a::(post++(c.pins++fz)).map (·.1)).Nodup:=by simpa using nd
 have hh:=(List.perm_middle.nodup_iff).mp nd2
 have hn:=(List.nodup_cons.mp hh).1
 have off1:∀ z∈cl++pre,z.1≠a:=fun z hz q=>hn (by rw [← q]; exact List.mem_append_left _ (List.mem_map_of_mem (f:=(·.1)) hz))
 have off2:∀ z∈post++(c.pins++fz),z.1≠a:=fun z hz q=>hn (by rw [← q]; exact Qw _ (List.mem_map_of_mem (f:=(·.1)) hz))
 refine ⟨(cl++pre)++(a,o')::(post++(c.pins++fz)),by rw [e]; exact upd_of off1 off2,fun h' F' N'=>⟨F',I.clr,by rw [e]; exact N',by rw [e]; simpa using nd,I.lok,I.loc,hr⟩⟩
set_option tactic.hygienic true in
theorem setAttr_W (ok:c.Ok g Γ d) {x:Addr} {C:Addr} {vs:List V} {name:Str} {i:Nat} {y:Value} {v:V} {H':AH} {Q:Led→Unit→Loc→AH→Prop} (iy:Is (Cx.mem g fz) y v) (hs:setAt g.K C name=some i) (hi:i < 1000)
  (hu:MUpd x (.ins C vs) (.ins C (setSl i v vs)) H H') (h:∀ fz',(∀ p∈fz,p∈fz')→Q fz' () lo H'):W g c fz (setAttr (.ref x) name y) lo H Q:=by
 intro mf m cl fz₁ led s hs' I
 refine ob_EEEAA (I.hi.hr.split hu) fun pre o post ez3 ho hr=>?_
 subst ez3
 have iy:=iy.mono (mem_mono hs')
 refine ob_EEAA ho.insE fun dx os eo hdx hsl=>?_
 subst eo
 have X₀:g.K.In c.h₀:=ok.gok.kin.keeps fun b o e=>ok.stays b o e
 refine x02 (ite_some hs) fun q1 hs=>?_
 refine x12 (Option.bind_eq_some_iff.mp hs) fun p q2 hs=>?_
 refine x02 (ite_some hs) fun q3 hs=>?_
 have q2:=refIn_some q2
 simp only [Bool.and_eq_true,beq_iff_eq] at q1 q3
 have hsl':IsSl (Cx.mem g fz₁) ((os++List.replicate (i+1 - os.length) Option.none).set i (some y)) (setSl i v vs):=by
  unfold setSl; rw [hsl.length]; exact (hsl.append (IsSl.rep _)).put iy i
 have ho':OIs (Cx.mem g fz₁) (insOf C dx ((os++List.replicate (i+1 - os.length) Option.none).set i (some y)).toArray) (.ins C (setSl i v vs)):=.ins hdx hsl'
 refine x12 (I.hi.by_upd (hr _ ho')) fun news' U back=>?_
 refine set_slot I.hi.fr X₀ I.hi.news (instAt (M:=Cx.mem g fz₁) (I.hi.thereLed (by simp)) (I.hi.there ok.stays hdx)) q1.1 q1.2 q2 q3 hs hi ?_ rfl U fun h' F' N'=>.mk lo H' mf m cl fz₁ _ (I.to (s.toks+1) (Nat.le_succ _) (back h' F' N')) (fun _ x=>x) (h _ hs')
 show insOf C dx _=insOf C dx _
 congr 1
 apply Array.toList_inj.mp
 simp
theorem S.setattr {o:Expr} {name:Str} {pos' pos:Pos} {value:Expr} {Q:R→Loc→AH→Prop}
  (h:E g Γ d value lo H fun v H₁=>E g Γ d o lo H₁ fun ov H₂=>∃ x C vs i H₃,ov=.ref x∧setAt g.K C name=some i∧i < 1000∧MUpd x (.ins C vs) (.ins C (setSl i v vs)) H₂ H₃∧Q .next lo H₃)
  (hs:autoParam (∀ env,swapsWith value (some (.Attribute o name pos')) pos.line env=pure false) irfa):S g Γ d (.Assign [.Attribute o name pos'] value pos) lo H Q:=by
 intro c ok fz mf m cl fz₁ led s hs' I
 refine plainObj_wpAny_Assign_Attribute ((h c ok fz).useV hs' I fun {cv s₁ H₁ mf₁ m₁ cl₁ fz₂ led₁ v} I₁ hs₁ iv q=>?_) (hs _)
 refine (q c ok fz₂).useV (fun _ x=>x) I₁ fun {cov s₂ H₂ mf₂ m₂ cl₂ fz₃ led₂ ov} I₂ hs₂ io r_=>?_
 refine ob_EEEEEAAAA r_ fun x C vs i H₃ eo q1 q2 q3 q4=>?_
 try clear r_
 subst eo
 rw [io.refE]
 exact (setAttr_W (Q:=fun _ _ lo' H'=>Q .next lo' H') ok (iv.mono (mem_mono hs₂)) q1 q2 q3 fun _ _=>q4).use (fun _ x=>x) I₂ fun I₃ hs₃ q=>.mk _ _ _ _ _ _ _ I₃ (fun p hp=>hs₃ p (hs₂ p (hs₁ p hp))) ⟨_,.next,q⟩
end
section
open PySem PySem.W PySem.Calls PyProof.Rows PySem.NumText
noncomputable def isHex (c:Nat):Bool:=(48≤c&&c≤57)||(97≤c&&c≤102)||(65≤c&&c≤70)
noncomputable def hexDig (c:Nat):Nat:=if c≤57 then c - 48 else if 97≤c then c - 87 else c - 55
noncomputable def hexVal (cs:List Nat):Nat:=cs.foldl (fun a c=>a * 16+hexDig c) 0
theorem isHex_iff {c:Nat}:isHex c=true ↔ (48≤c∧c≤57)∨(97≤c∧c≤102)∨(65≤c∧c≤70):=by
 unfold isHex; simp only [Bool.or_eq_true,Bool.and_eq_true,decide_eq_true_eq,or_assoc]
theorem digit_hex {c:Nat} (h:isHex c=true):digit? c=some (hexDig c)∧hexDig c < 16:=by
 rw [isHex_iff] at h
 unfold digit? hexDig
 rcases h with h | h | h
 ·have a:(decide (48≤c)&&decide (c≤57))=true:=by simp [h]
  rw [if_pos a,if_pos h.2]; exact ⟨rfl,by exact ar1 (.im (.an (.le (.n 48) .v0) (.le .v0 (.n 57))) (.lt (.s .v0 (.n 48)) (.n 16))) rfl h⟩
 ·have a:(decide (48≤c)&&decide (c≤57))=false:=by simp; exact ar1 (.im (.an (.le (.n 97) .v0) (.le .v0 (.n 102))) (.im (.le (.n 48) .v0) (.lt (.n 57) .v0))) rfl h
  have b:(decide (97≤c)&&decide (c≤122))=true:=by simp; exact ar1 (.im (.an (.le (.n 97) .v0) (.le .v0 (.n 102))) (.an (.le (.n 97) .v0) (.le .v0 (.n 122)))) rfl h
  rw [if_neg (by simp [a]),if_pos b,if_neg (by exact ar1 (.im (.an (.le (.n 97) .v0) (.le .v0 (.n 102))) (.nt (.le .v0 (.n 57)))) rfl h),if_pos h.1]; exact ⟨rfl,by exact ar1 (.im (.an (.le (.n 97) .v0) (.le .v0 (.n 102))) (.lt (.s .v0 (.n 87)) (.n 16))) rfl h⟩
 ·have a:(decide (48≤c)&&decide (c≤57))=false:=by simp; exact ar1 (.im (.an (.le (.n 65) .v0) (.le .v0 (.n 70))) (.im (.le (.n 48) .v0) (.lt (.n 57) .v0))) rfl h
  have b:(decide (97≤c)&&decide (c≤122))=false:=by simp; exact ar1 (.im (.an (.le (.n 65) .v0) (.le .v0 (.n 70))) (.im (.le (.n 97) .v0) (.lt (.n 122) .v0))) rfl h
  have e:(decide (65≤c)&&decide (c≤90))=true:=by simp; exact ar1 (.im (.an (.le (.n 65) .v0) (.le .v0 (.n 70))) (.an (.le (.n 65) .v0) (.le .v0 (.n 90)))) rfl h
  rw [if_neg (by simp [a]),if_neg (by simp [b]),if_pos e,if_neg (by exact ar1 (.im (.an (.le (.n 65) .v0) (.le .v0 (.n 70))) (.nt (.le .v0 (.n 57)))) rfl h),if_neg (by exact ar1 (.im (.an (.le (.n 65) .v0) (.le .v0 (.n 70))) (.nt (.le (.n 97) .v0))) rfl h)]; exact ⟨rfl,by exact ar1 (.im (.an (.le (.n 65) .v0) (.le .v0 (.n 70))) (.lt (.s .v0 (.n 55)) (.n 16))) rfl h⟩
theorem step_hex {ds:Array Nat} {b:Bool} {c:Nat} (h:isHex c=true):NumText.step 16 (ds,b) c=some (ds.push (hexDig c),true):=by
 have d:=digit_hex h
 have n:(c==95)=false:=by rw [isHex_iff] at h; simp; exact ar1 (.im (.or (.an (.le (.n 48) .v0) (.le .v0 (.n 57))) (.or (.an (.le (.n 97) .v0) (.le .v0 (.n 102))) (.an (.le (.n 65) .v0) (.le .v0 (.n 70))))) (.nt (.eq .v0 (.n 95)))) rfl h
 unfold NumText.step
 rw [n,d.1]
 simp [d.2]
theorem foldM_hex:∀ (cs:List Nat) (ds:Array Nat) (b:Bool),(∀ c∈cs,isHex c=true)→cs.foldlM (NumText.step 16) (ds,b)=some (cs.foldl (fun acc c=>acc.push (hexDig c)) ds,if cs=[] then b else true)
 | [],ds,b,_=>by simp
 | c::cs,ds,b,h=>by
  rw [List.foldlM_cons,step_hex (h c (.head _))]
  show cs.foldlM (NumText.step 16) (ds.push (hexDig c),true)=_
  rw [foldM_hex cs _ _ fun d hd=>h d (.tail _ hd)]
  simp
theorem push_hex:∀ (cs:List Nat) (ds:Array Nat),(cs.foldl (fun acc c=>acc.push (hexDig c)) ds).foldl (fun acc d=>acc * 16+d) 0=cs.foldl (fun a c=>a * 16+hexDig c) (ds.foldl (fun acc d=>acc * 16+d) 0)
 | [],ds=>rfl
 | c::cs,ds=>by
  rw [List.foldl_cons,push_hex cs,List.foldl_cons]
  congr 1
  simp
set_option tactic.hygienic true in
theorem read_hex {cs:List Nat} (h:∀ c∈cs,isHex c=true) (ne:cs≠[]):(int_private% "readNumeral") 0 16 cs=(int_private% "Numeral.value") ((hexVal cs:Nat):Int):=by
 refine (readNumeral_eq 0 16 cs).trans ?_
 refine x21 (List.exists_cons_of_ne_nil ne) fun c r zz2=>?_
 subst zz2
 have hc:=h c (.head _)
 have hc2:=isHex_iff.mp hc
 have e1:(c::r).dropWhile blank=c::r:=dropWhile_of (by exact R20 hc2)
 have e2:sign (c::r)=(false,c::r):=sign_of (by exact ar1 (.im (.or (.an (.le (.n 48) .v0) (.le .v0 (.n 57))) (.or (.an (.le (.n 97) .v0) (.le .v0 (.n 102))) (.an (.le (.n 65) .v0) (.le .v0 (.n 70))))) (.nt (.eq .v0 (.n 45)))) rfl hc2) (by exact ar1 (.im (.or (.an (.le (.n 48) .v0) (.le .v0 (.n 57))) (.or (.an (.le (.n 97) .v0) (.le .v0 (.n 102))) (.an (.le (.n 65) .v0) (.le .v0 (.n 70))))) (.nt (.eq .v0 (.n 43)))) rfl hc2)
 have e3:based 16 (c::r)=(16,false,c::r):=by
  unfold based
  split
  ·rename_i p hp
   have:p=16→False:=by
    intro e; subst e
    unfold prefix? at hp
    split at hp
    ·rename_i c' _ heq
     split at hp
     ·rename_i q
      have:=isHex_iff.mp (h c' (by rw [heq]; simp))
      simp only [Bool.or_eq_true,beq_iff_eq] at q
      exact ar1 (.im (.or (.an (.le (.n 48) .v0) (.le .v0 (.n 57))) (.or (.an (.le (.n 97) .v0) (.le .v0 (.n 102))) (.an (.le (.n 65) .v0) (.le .v0 (.n 70))))) (.im (.or (.eq .v0 (.n 120)) (.eq .v0 (.n 88))) .ff)) rfl this q
     ·split at hp
      ·cases hp
      ·split at hp <;> cases hp
    ·cases hp
   have hne:((16:Nat)==0||(16:Nat)==p)=false:=Bool.or_eq_false_iff.mpr ⟨rfl,Qk fun e=>this e.symm⟩
   rw [hne]; rfl
  ·rfl
 rw [e1,e2,e3]
 have e4:((c::r).reverse.dropWhile blank).reverse=c::r:=by
  have:(c::r).reverse.dropWhile blank=(c::r).reverse:=by
   have hl:∀ d∈(c::r).reverse,isHex d=true:=fun d hd=>h d (List.mem_reverse.mp hd)
   generalize (c::r).reverse=l at hl
   cases l with
   | nil=>rfl
   | cons d l=>have:=isHex_iff.mp (hl d (.head _)); exact dropWhile_of (by exact R20 this)
  rw [this,List.reverse_reverse]
 show judge 0 false 16 false (digits? 16 ((c::r).reverse.dropWhile blank).reverse)=_
 rw [e4]
 have e5:digits? 16 (c::r)=some ((c::r).foldl (fun acc c=>acc.push (hexDig c)) #[]):=by
  unfold digits?
  rw [foldM_hex _ _ _ h]; rfl
 rw [e5]
 unfold judge
 have e6:=push_hex (c::r) #[]
 simp only [List.contains_cons,beq_self_eq_true,Bool.or_true,Bool.true_or,Bool.not_true,Bool.false_and,Bool.false_eq_true,if_false]
 rw [e6]
 simp [hexVal]
theorem wp_hex {M:Model} {A:Around} {E:Value→Shared→Prop} {s:Shared} {Q:Value→Shared→Prop} {v:Value} {text:List Nat} {n:Int}
  (hs:(text.takeWhile (· != 0)).length≤640) (hr:(int_private% "readNumeral") 0 16 (text.takeWhile (· != 0))=(int_private% "Numeral.value") n)
  (ha:((text.takeWhile (· != 0)).length==text.length)=true) (h:Q (.int n s.toks) { s with toks:=s.toks+1 }) :
  wpAny M A ((int_private% "intFromText") v text 16) Q E s:=by
 obtain ⟨hp,g,d,tk,os⟩:=s
 repeat (any_goals (first
  | assumption
  | (with_reducible refine wpAny_ite_true (Qs hs) ?_)
  | (with_reducible refine wpAny_ite_true (Qs ha) ?_)
  | wp_step))
 all_goals (try rw [hr])
 all_goals (try dsimp only)
 repeat (any_goals (first
  | assumption
  | (with_reducible refine wpAny_ite_true (Qs hs) ?_)
  | (with_reducible refine wpAny_ite_true (Qs ha) ?_)
  | wp_step))
structure Hid (p:Prop):Prop where
 out:p
theorem take_all {α:Type} (p:α→Bool):∀ l:List α,(∀ x∈l,p x=true)→l.takeWhile p=l
 | [],_=>rfl
 | x::r,h=>by rw [Qq,h x (.head _),if_pos rfl,take_all p r fun y hy=>h y (.tail _ hy)]
set_option maxHeartbeats 4000000 in
theorem gives_hex {x:PySem.Str} {u v:Tok} (h:∀ c∈x.cps.toList,isHex c=true) (ne:x.cps.toList≠[]) (hl:x.cps.toList.length≤6):Gives (Builtin.«int.__new__» ⟨[.type "int",.str x u,.int 16 v],[]⟩) (.int ((hexVal x.cps.toList:Nat):Int)) :=
 .of_wp fun M A E s Q hq=>by
  obtain ⟨hp,g,d,tk,os⟩:=s
  have f1:=F.conv_sub_int
  have f2:=F.madeHere_int
  have ht:x.cps.toList.takeWhile (· != 0)=x.cps.toList:=take_all _ _ fun c hc=>by have:=isHex_iff.mp (h c hc); simp; exact ar1 (.im (.or (.an (.le (.n 48) .v0) (.le .v0 (.n 57))) (.or (.an (.le (.n 97) .v0) (.le .v0 (.n 102))) (.an (.le (.n 65) .v0) (.le .v0 (.n 70))))) (.nt (.eq .v0 .n0))) rfl this
  have h128:x.cps.all (· < 128)=true:=by
   rw [Array.all_eq_true']
   intro c hc
   have:=isHex_iff.mp (h c (by simpa using hc)); simp; exact ar1 (.im (.or (.an (.le (.n 48) .v0) (.le .v0 (.n 57))) (.or (.an (.le (.n 97) .v0) (.le .v0 (.n 102))) (.an (.le (.n 65) .v0) (.le .v0 (.n 70))))) (.lt .v0 (.n 128))) rfl this
  have hk:=Hid.mk (And.intro (read_hex h ne) (And.intro ht hl))
  have hall:=Hid.mk h128
  clear h ne hl ht h128
  repeat (any_goals (first
   | assumption
   | ((with_reducible show wpAny _ _ ((int_private% "intFromText") _ _ _) _ _ _); (try rw [hall.out]); (try simp only [if_true]); refine wp_hex (n:=((hexVal x.cps.toList:Nat):Int)) (by rw [hk.out.2.1]; have:=hk.out.2.2; exact ar1 (.im (.le .v0 (.n 6)) (.le .v0 (.n 640))) rfl this) (by rw [hk.out.2.1]; exact hk.out.1) (by rw [hk.out.2.1]; simp) ?_)
   | wp_step))
  all_goals first | exact ⟨_,rfl,hq⟩ | skip
end
section
open PySem.Builtin PySem.Builtin.Str
section
variable {prog:Program} {w:World} {A:Around} {E:Value→Shared→Prop} {s:Shared} {Q:Value→Shared→Prop}
theorem typeCall_int_2 (a b:Value):checkTypeCall "int" ⟨[a,b],[]⟩=pure ():=by kernel_rfl
theorem newCall_int_2 (a b:Value):checkBuiltinCall "int.__new__" ⟨[.type "int",a,b],[]⟩=pure ():=by kernel_rfl
theorem args_oi_3 (a b c:Value):argsOk "object.__init__" ⟨[a,b,c],[]⟩:=by unfold argsOk; kernel_rfl
theorem call_hex {x:Str} {u v:Tok} (h:∀ c∈x.cps.toList,isHex c=true) (ne:x.cps.toList≠[]) (hl:x.cps.toList.length≤6) (hq:Q (.int ((hexVal x.cps.toList:Nat):Int) s.toks) { s with toks:=s.toks+1 }) :
  wpAny (model prog w) A (call (.type "int") [.str x u,.int 16 v]) Q E s :=
 callType_new F.called_int F.newNe_int (typeCall_int_2 _ _) (newCall_int_2 _ _) (fun obj=>args_oi_3 obj _ _) F.entry_int_new (gives_hex h ne hl).meets (show (Made.int _).post _ s from ⟨rfl,hq⟩)
noncomputable def swAt (s y:List Nat) (i:Int):Bool:=decide (fromIndex s.length i+y.length≤s.length)&&((s.drop (fromIndex s.length i)).take y.length==y)
theorem subAt_list (x y:Str) (i:Nat):subAt x y i=((x.cps.toList.drop i).take y.cps.toList.length==y.cps.toList):=by
 unfold subAt
 rw [Bool.eq_iff_iff,beq_iff_eq,beq_iff_eq,← Array.toList_inj]
 simp [Str.length]
theorem sw_list (x y:Str) (i:Int):Txt.startswith3 x y i=swAt x.cps.toList y.cps.toList i:=by
 unfold Txt.startswith3 swAt
 rw [subAt_list,str_len x,str_len y]
theorem gives_rfind2 (x y:Str) (i j:Int) (t u v q:Tok):Gives («str.rfind» ⟨[.str x t,.str y u,.int i v,.int j q],[]⟩) (.int (match lastOccurrence x y (fromIndex x.length i) (min (fromIndex x.length j) x.length) with | some k=>(k:Int) | none=>-1)):=by
 show Gives (match lastOccurrence x y (fromIndex x.length i) (min (fromIndex x.length j) x.length) with | some k=>retInt k | none=>(do rule "str.rfind.not-found"; retInt (-1))) _
 cases lastOccurrence x y (fromIndex x.length i) (min (fromIndex x.length j) x.length) with
 | none=>exact .rule (.of_eq rfl)
 | some k=>exact .of_eq rfl
theorem gives_count2 (x y:Str) (i j:Int) (t u v q:Tok):Gives («str.count» ⟨[.str x t,.str y u,.int i v,.int j q],[]⟩) (.int (occurrences x y (fromIndex x.length i) (min (fromIndex x.length j) x.length) (x.length+1)).length):=by
 show Gives (retInt (occurrences x y (fromIndex x.length i) (min (fromIndex x.length j) x.length) (x.length+1)).length) _
 exact .of_eq rfl
noncomputable def S' (s:List Nat):Str:=⟨s.toArray⟩
theorem S'_of (x:Str):S' x.cps.toList=x:=by unfold S'; simp
theorem S'_len (s:List Nat):(S' s).length=s.length:=by simp [S',Str.length]
theorem S'_list (s:List Nat):(S' s).cps.toList=s:=by simp [S']
noncomputable def rfindAt (s y:List Nat) (i j:Int):Int:=match lastOccurrence (S' s) (S' y) (fromIndex s.length i) (min (fromIndex s.length j) s.length) with | some k=>(k:Int) | none=>-1
noncomputable def countAt (s y:List Nat) (i j:Int):Int:=(occurrences (S' s) (S' y) (fromIndex s.length i) (min (fromIndex s.length j) s.length) (s.length+1)).length
noncomputable def findAt (s y:List Nat) (i:Int):Int:=Txt.find3 (S' s) (S' y) i
theorem call_rfind {x y:Str} {i j:Int} {t u v q:Tok} (hq:Q (.int (rfindAt x.cps.toList y.cps.toList i j) s.toks) { s with toks:=s.toks+1 }):wpAny (model prog w) A (call (.builtin "str.rfind") [.str x t,.str y u,.int i v,.int j q]) Q E s:=by
 unfold rfindAt at hq
 rw [S'_of,S'_of,← str_len] at hq
 exact call_gives F.slot_str_rfind (typeIs_str _ _ _) F.entry_str_rfind (F.args_str_rfind_4 _ _ _ _) (gives_rfind2 x y i j t u v q) hq
theorem call_count {x y:Str} {i j:Int} {t u v q:Tok} (hq:Q (.int (countAt x.cps.toList y.cps.toList i j) s.toks) { s with toks:=s.toks+1 }):wpAny (model prog w) A (call (.builtin "str.count") [.str x t,.str y u,.int i v,.int j q]) Q E s:=by
 unfold countAt at hq
 rw [S'_of,S'_of,← str_len] at hq
 exact call_gives F.slot_str_count (typeIs_str _ _ _) F.entry_str_count (F.args_str_count_4 _ _ _ _) (gives_count2 x y i j t u v q) hq
set_option tactic.hygienic true in
theorem call_swT {x:Str} {i:Int} {t v:Tok} {a:Addr} {xs:List Value} {n:Nat} {ys:List Str} (hm:s.heap.get? a=some (tupOf xs.toArray n)) (hi:StrsAre xs ys)
  (hq:Q (.bool (ys.any fun y=>swAt x.cps.toList y.cps.toList i)) s):wpAny (model prog w) A (call (.builtin "str.startswith") [.str x t,.ref a,.int i v]) Q E s:=by
 refine wpAny_call (codeAny_call_builtin F.slot_str_startswith.plain F.entry_str_startswith (F.slot_str_startswith.check _ _ _ _ _ _ _ _ (typeIs_str _ _ _) (F.args_str_startswith_3 _ _ _) ?_))
 have h1:strSomeArgs "startswith" 1 3 ⟨[.str x t,.ref a,.int i v],[]⟩=pure (.str x t,x,[.ref a,.int i v]):=rfl
 have h2:searchRange x.length [.int i v]=pure (fromIndex x.length i,min x.length x.length):=rfl
 unfold «str.startswith» affixEntry
 rw [h1]
 refine wpAny_bind (wpAny_pure ?_)
 show wpAny _ _ (searchRange x.length [.int i v] >>= _) _ _ _
 rw [h2]
 refine wpAny_bind (wpAny_pure ?_)
 dsimp only [List.headD]
 have hT:IsTup s.heap a xs.toArray:=⟨_,hm,rfl,n,rfl⟩
 refine wpAny_bind ?_
 delta asStr?
 dsimp only
 refine wpAny_bind (wpAny_load hm ?_)
 refine wpAny_pure ?_
 dsimp only
 refine wpAny_bind (wpAny_isInstance (b:=true) hT.typeIs (by kernel_rfl) ?_)
 rw [if_pos rfl]
 refine wpAny_bind (wpAny_rule ?_)
 refine wpAny_bind (wpAny_seqItems hm rfl ?_)
 dsimp only
 refine wpAny_bind (forIn_array_ _ (fun rest b s'=>b.1=none∧s'=s∧∃ ms,StrsAre rest ms∧Q (.bool (ms.any fun y=>swAt x.cps.toList y.cps.toList i)) s) _ ?_ ?_ xs.toArray _ ⟨rfl,rfl,ys,hi,hq⟩)
 ·rintro y rest b s' ⟨hb,rfl,ms,hms,hP⟩
  cases hms with
  | cons p tk hms' =>
   refine wpAny_bind (wpAny_pure ?_)
   dsimp only
   rw [List.any_cons] at hP
   have e:(decide (fromIndex x.length i+p.length≤Min.min x.length x.length)&&subAt x p (fromIndex x.length i))=swAt x.cps.toList p.cps.toList i:=by
    rw [Nat.min_self,subAt_list,str_len x,str_len p]
    rfl
   split
   ·rename_i hc
    have hnx:swAt x.cps.toList p.cps.toList i=true:=e.symm.trans hc
    rw [hnx] at hP
    refine wpAny_bind (wpAny_pure ?_)
    exact wpAny_pure (wpAny_pure (by simpa using hP))
   ·rename_i hc
    have hnx:swAt x.cps.toList p.cps.toList i=false:=by
     rw [← e]
     exact eq_false_of_ne_true hc
    rw [hnx] at hP
    exact wpAny_pure ⟨rfl,rfl,_,hms',by simpa using hP⟩
 ·rintro ⟨b1,b2⟩ s' ⟨hb,rfl,ms,hms,hP⟩
  cases hms
  simp only at hb
  subst hb
  exact wpAny_pure (by simpa using hP)
end
noncomputable def StrMeth (name:Str) (id:String):Prop:=∀ (M:Model) (A:Around) (E:Value→Shared→Prop) (s:Shared) (x:Str) (t:Tok) (pl:Sem Bool) (Q:Value × List Value→Shared→Prop),Q (.builtin id,[.str x t]) s→wpAny M A (getMethod (.str x t) name pl) Q E s
theorem sm_startswith:StrMeth "startswith" "str.startswith":=by
 unfold StrMeth
 intro M A E s x t pl Q h
 with_reducible exact GM.startswith h
theorem sm_find:StrMeth "find" "str.find":=by
 unfold StrMeth
 intro M A E s x t pl Q h
 with_reducible exact GM.find h
theorem sm_rfind:StrMeth "rfind" "str.rfind":=by
 unfold StrMeth
 intro M A E s x t pl Q h
 with_reducible exact GM.rfind h
theorem sm_count:StrMeth "count" "str.count":=by
 unfold StrMeth
 intro M A E s x t pl Q h
 with_reducible exact GM.count h
theorem sm_join:StrMeth "join" "str.join":=by
 unfold StrMeth
 intro M A E s x t pl Q h
 with_reducible exact GM.join h
noncomputable def CallForm (o:Expr) (name:Str) (apos pos:Pos) (args:List Expr):Prop:=∀ env,∃ pl:Sem Bool,eval (.Call (.Attribute o name apos) args [] pos) env=(do
   let ov ← eval o env
   standAt apos.atName
   let (f,first) ← holding [ov] (getMethod ov name pl)
   callWith pos f first (backTo pos (starEach args env)) [])
section
variable {g:Gx} {Γ:Fx} {d:Nat} {lo:Loc} {H:AH}
theorem E.meth {o:Expr} {name:Str} {id:String} {apos pos:Pos} {e:Expr} {rest:List Expr} {Q:V→AH→Prop} (hm:StrMeth name id)
  (h:E g Γ d o lo H fun ov H₁=>∃ x,ov=.str x∧Es g Γ d (e::rest) lo H₁ fun vs H₂=>CallB g d (.builtin id) (.str x::vs) H₂ Q)
  (he:autoParam (∀ env,starEach (e::rest) env=(false,eval e env)::starEach rest env) irfa) (hplain:autoParam (∀ env,(backTo pos (starEach rest env)).any (·.1)=false) irfa)
  (cf:autoParam (CallForm o name apos pos (e::rest)) irfc) :
  E g Γ d (.Call (.Attribute o name apos) (e::rest) [] pos) lo H Q:=by
 intro c ok fz mf m cl fz₁ led s hs I
 refine x11 (cf c.env) fun pl cf=>?_
 refine MethodCall_ ((h c ok fz).useV hs I fun {ov s₁ H₁ mf₁ m₁ cl₁ fz₂ led₁ v} I₁ hs₁ iv r_=>?_) cf
 refine x12 (r_) fun x ev q=>?_
 subst ev
 refine ob_EEA iv.strE fun y t ez ey=>?_
 subst ez
 unfold StrMeth at hm
 with_reducible refine hm _ _ _ _ _ _ _ _ ?_
 exact W.rest (callWithB_W (first:=[.str y t]) ((q c ok fz₂ pos).elimVs fun fz₃ xs vs H₂ s₂ is q=>q Γ c ok fz₃ _ (.str y t::xs) (.cons (.str y t ey) is)) (he _) (hplain _)) (fun _ x=>x) I₁ hs₁
theorem IsAll.append {M:Mem} {xs ys:List Value} {vs ws:List V} (i:IsAll M xs vs) (j:IsAll M ys ws):IsAll M (xs++ys) (vs++ws):=by
 induction vs generalizing xs with
 | nil=>rw [i.nilE]; exact j
 | cons v vs ih=>obtain ⟨x,r,e,i,t⟩:=i.consE; rw [e]; exact .cons i (ih t)
theorem IsAll.unsnoc {M:Mem} {xs:List Value} {vs:List V} {v:V} (i:IsAll M xs (vs++[v])):∃ ys y,xs=ys++[y]∧Is M y v∧IsAll M ys vs:=by
 induction vs generalizing xs with
 | nil=>obtain ⟨x,r,e,i,t⟩:=i.consE; rw [t.nilE] at e; exact ⟨[],x,e,i,.nil⟩
 | cons u us ih =>
  refine ob_EEAA i.consE fun x r e i t=>?_
  refine ob_EEAA (ih t) fun ys y e' a b=>?_
  exact ⟨x::ys,y,by rw [e,e']; rfl,a,.cons i b⟩
theorem kl_last_of (ys:List Value) (y:Value):kl_last (ys++[y]).toArray.toList=some (ys,y):=by
 show kl_last (ys++[y])=_
 induction ys with
 | nil=>rfl
 | cons x ys ih=>rw [Qj,kl_last,ih]
theorem E.append {o:Expr} {apos pos:Pos} {e:Expr} {Q:V→AH→Prop}
  (h:E g Γ d o lo H fun ov H₁=>∃ a vs₀,ov=.ref a∧(a,.lst vs₀)∈H₁∧E g Γ d e lo H₁ fun v H₂=>∃ vs H₃,MUpd a (.lst vs) (.lst (vs++[v])) H₂ H₃∧vs.length≤1000000∧Q .none H₃)
  (he:autoParam (∀ env,starEach [e] env=(false,eval e env)::starEach [] env) irfa) (cf:autoParam (CallForm o "append" apos pos [e]) irfc):E g Γ d (.Call (.Attribute o "append" apos) [e] [] pos) lo H Q:=by
 intro c ok fz mf m cl fz₁ led s hs I
 refine x11 (cf c.env) fun pl cf=>?_
 refine MethodCall_ ((h c ok fz).useV hs I fun {ov s₁ H₁ mf₁ m₁ cl₁ fz₂ led₁ v} I₁ hs₁ iv r_=>?_) cf
 refine ob_EEAA r_ fun a vs₀ ev hin q=>?_
 try clear r_
 subst ev
 have ez:=iv.refE
 subst ez
 refine x12 (I₁.hi.hr.at_ hin) fun o ho io=>?_
 refine ob_EEA io.lstE fun xs n eo ha=>?_
 subst eo
 refine listMethod_K I₁.hi.news (List.mem_append.mpr (.inr (List.mem_append.mpr (.inl ho)))) PySem.F.slot_list_append PySem.F.type_list_append ?_
 refine PyProof.Rows.callWith_method1 ?_ (he _) rfl
 rw [he]
 refine spliced_cons ((q c ok fz₂).useV (fun _ x=>x) I₁ fun {y s₂ H₂ mf₂ m₂ cl₂ fz₃ led₂ v} I₂ hs₂ iv r_=>?_)
 refine ob_EEAA r_ fun vs H₃ hu hz qq=>?_
 try clear r_
 refine spliced_nil ?_
 refine ob_EEEAA (I₂.hi.hr.split hu) fun pre o post ez3 ho hr=>?_
 subst ez3
 refine ob_EEA ho.lstE fun xs n eo ha=>?_
 subst eo
 obtain ⟨news',U,back⟩:=I₂.hi.by_upd (o':=listOf (xs.toArray.push y) (n+1)) (hr _ (by
  have:IsAll (Cx.mem g fz₃) (xs++[y]) (vs++[v]):=ha.append (.cons iv .nil)
  have:=OIs.lst (n:=n+1) this
  simpa using this))
 exact append_K I₂.hi.fr I₂.hi.news U (fun h' F' N'=>⟨lo,H₃,mf₂,m₂,cl₂,fz₃,_,I₂.to s₂.toks (Qd _) (back h' F' N'),fun p hp=>hs₂ p (hs₁ p hp),rfl,_,.none,qq⟩) (by rw [sizeLine_eq]; have:=ha.length; simp; exact ar2 (.im (.eq .v0 .v1) (.im (.le .v1 (.n 1000000)) (.le .v0 (.n 16777216)))) rfl this hz)
theorem E.pop {o:Expr} {apos pos:Pos} {Q:V→AH→Prop}
  (h:E g Γ d o lo H fun ov H₁=>∃ a vs v H₂,ov=.ref a∧MUpd a (.lst (vs++[v])) (.lst vs) H₁ H₂∧vs.length≤1000000∧Q v H₂)
  (cf:autoParam (CallForm o "pop" apos pos []) irfc):E g Γ d (.Call (.Attribute o "pop" apos) [] [] pos) lo H Q:=by
 intro c ok fz mf m cl fz₁ led s hs I
 refine x11 (cf c.env) fun pl cf=>?_
 refine MethodCall_ ((h c ok fz).useV hs I fun {ov s₁ H₁ mf₁ m₁ cl₁ fz₂ led₁ v'} I₁ hs₁ iv r_=>?_) cf
 refine ob_EEEEAAA r_ fun a vs v H₂ ev hu hz q=>?_
 try clear r_
 subst ev
 have ez:=iv.refE
 subst ez
 refine ob_EEEAA (I₁.hi.hr.split hu) fun pre o post ez3 ho hr=>?_
 subst ez3
 refine ob_EEA ho.lstE fun xs n eo ha=>?_
 subst eo
 refine ob_EEAA ha.unsnoc fun ys y ez2 iy ia=>?_
 subst ez2
 have ho':OIs (Cx.mem g fz₂) (listOf ys.toArray (n+1)) (.lst vs):=.lst ia
 refine x12 (I₁.hi.by_upd (hr _ ho')) fun news' U back=>?_
 refine listMethod_K I₁.hi.news (List.mem_append.mpr (.inr (List.mem_append.mpr (.inl (by simp)))):(a,listOf (ys++[y]).toArray n)∈_) PySem.F.slot_list_pop PySem.F.type_list_pop ?_
 refine PyProof.Rows.callWith_method0 ?_
 exact kl_pop I₁.hi.fr I₁.hi.news (kl_last_of ys y) U (by rw [sizeLine_eq]; have:=ia.length; simp; exact ar2 (.im (.eq .v0 .v1) (.im (.le .v1 (.n 1000000)) (.le .v0 (.n 16777215)))) rfl this hz) (fun h' F' N'=>⟨lo,H₂,mf₁,m₁,cl₁,fz₂,_,I₁.to s₁.toks (Qd _) (back h' F' N'),hs₁,rfl,_,iy,q⟩)
end
theorem joinS (ss:List (List Nat)):Txt.join (Str.ofString "") (ss.map S')=S' ss.flatten:=by
 unfold Txt.join
 rw [StrLaws.glued_eq_join]
 induction ss with
 | nil=>rfl
 | cons x r ih =>
  cases r with
  | nil=>simp [Str.join]
  | cons y r =>
   have e:Str.join (Str.ofString "") ((x::y::r).map S')=S' x++Str.ofString ""++Str.join (Str.ofString "") ((y::r).map S'):=rfl
   rw [e,ih]
   show Str.append (Str.append (S' x) (Str.ofString "")) (S' _)=_
   unfold S' Str.append
   congr 1
   apply Array.toList_inj.mp
   have:(Str.ofString "").cps.toList=[]:=by decide
   simp [this]
theorem strs_of {M:Mem} {xs:List Value} {ss:List (List Nat)} (i:IsAll M xs (ss.map V.str)):∃ l:List (Str × Tok),xs=strValues l∧l.map (·.1)=ss.map S':=by
 induction ss generalizing xs with
 | nil=>exact ⟨[],i.nilE,rfl⟩
 | cons s ss ih =>
  refine ob_EEAA (IsAll.consE i) fun v r e i t=>?_
  refine ob_EEA i.strE fun x tk e' ex=>?_
  refine x12 (ih t) fun l e2 q=>?_
  exact ⟨(x,tk)::l,by rw [e,e',e2]; rfl,by rw [List.map_cons,List.map_cons,q,← ex,S'_of]⟩
theorem IsAll.one {M:Mem} {xs:List Value} {d:V} (i:IsAll M xs [d]):∃ x,xs=[x]∧Is M x d:=by
 refine ob_EEAA i.consE fun x r e i t=>?_
 exact ⟨x,by rw [e,t.nilE],i⟩
theorem IsAll.two {M:Mem} {xs:List Value} {d d':V} (i:IsAll M xs [d,d']):∃ x y,xs=[x,y]∧Is M x d∧Is M y d':=by
 refine ob_EEAA i.consE fun x r e i t=>?_
 refine x12 (t.one) fun y e' j=>?_
 exact ⟨x,y,by rw [e,e'],i,j⟩
theorem IsAll.ssi {M:Mem} {xs:List Value} {s y:List Nat} {i:Int} (h:IsAll M xs [.str s,.str y,.int i]):∃ x t z u v,xs=[.str x t,.str z u,.int i v]∧x.cps.toList=s∧z.cps.toList=y:=by
 refine ob_EEAA h.consE fun _ r e i1 t=>?_
 refine ob_EEAA t.two fun _ _ e' i2 i3=>?_
 refine ob_EEA i1.strE fun x t e1 h1=>?_
 refine ob_EEA i2.strE fun z u e2 h2=>?_
 refine x11 (i3.intE) fun v e3=>?_
 exact ⟨x,t,z,u,v,by rw [e,e',e1,e2,e3],h1,h2⟩
theorem IsAll.ssii {M:Mem} {xs:List Value} {s y:List Nat} {i j:Int} (h:IsAll M xs [.str s,.str y,.int i,.int j]):∃ x t z u v w,xs=[.str x t,.str z u,.int i v,.int j w]∧x.cps.toList=s∧z.cps.toList=y:=by
 refine ob_EEAA h.consE fun _ r e i1 t=>?_
 refine ob_EEAA t.consE fun _ r' e' i2 t=>?_
 refine ob_EEAA t.two fun _ _ e'' i3 i4=>?_
 refine ob_EEA i1.strE fun x t e1 h1=>?_
 refine ob_EEA i2.strE fun z u e2 h2=>?_
 refine x11 (i3.intE) fun v e3=>?_
 refine x11 (i4.intE) fun w e4=>?_
 exact ⟨x,t,z,u,v,w,by rw [e,e',e'',e1,e2,e3,e4],h1,h2⟩
theorem str_nil {x:Str} (e:x.cps.toList=[]):x=Str.ofString "":=by
 have:S' x.cps.toList=S' []:=by rw [e]
 rw [S'_of] at this; rw [this]; rfl
theorem strs_are (l:List (Str × Tok)):StrsAre (strValues l) (l.map (·.1)):=by
 induction l with
 | nil=>exact .nil
 | cons p r ih=>exact .cons _ _ ih
theorem joinOkS (ss:List (List Nat)) (h:ss.flatten.length+ss.length≤1000000):JoinOk (Str.ofString "") (ss.map S')=true:=by
 unfold JoinOk
 rw [Bool.not_eq_true']
 have e:((ss.map S').map (·.length))=ss.map (·.length):=by simp [Function.comp_def,S'_len]
 refine joinFits_of_weight ?_ (by decide)
 have q:=List.length_flatten (L:=ss)
 rw [e,List.length_map]
 show (ss.map List.length).sum+ss.length≤_
 exact ar3 (.im (.le (.a .v2 .v1) (.n 1000000)) (.im (.eq .v2 .v0) (.le (.a .v0 .v1) (.n 1048576)))) rfl h q
section
variable {g:Gx} {Γ:Fx} {d:Nat} {lo:Loc} {H:AH} {Q:V→AH→Prop}
theorem CB.len_str {s:List Nat} (hl:s.length < 2 ^ 62) (h:Q (.int s.length) H):CallB g d (.builtin "len") [.str s] H Q:=by
 intro Γ c ok fz lo xs is
 refine x12 (is.one) fun _ e i=>?_
 refine ob_EEA i.strE fun x t e' ex=>?_
 subst e; subst e'; subst ex
 exact W.now fun mf m cl fz₁ led s hs I P _ k=>PySem.P.len_str (by rw [str_len]; exact Int.not_le.mpr (lt63 hl)) (k _ _ (I.toks _) ⟨rfl,_,.int _ _,by rw [str_len]; exact h⟩)
theorem CB.len_lst {vs:List V} (hl:vs.length < 2 ^ 62) (h:Q (.int vs.length) H):CallB g d (.builtin "len") [.lst vs] H Q:=by
 intro Γ c ok fz lo xs is
 refine x12 (is.one) fun _ e i=>?_
 refine ob_EEEAA i.lstE fun _ _ _ e' hm ha=>?_
 subst e; subst e'
 exact W.now fun mf m cl fz₁ led s hs I P _ k=>call_len_list ⟨_,I.hi.there ok.stays (mem_mono hs _ _ hm),rfl,_,rfl⟩ (by rw [List.size_toArray,ha.length]; exact lt63 hl) (k _ _ (I.toks _) ⟨rfl,_,.int _ _,by rw [List.size_toArray,ha.length]; exact h⟩)
theorem CB.ord {n:Nat} (h:Q (.int n) H):CallB g d (.builtin "ord") [.str [n]] H Q:=by
 intro Γ c ok fz lo xs is
 refine x12 (is.one) fun _ e i=>?_
 refine ob_EEA i.strE fun x t e' ex=>?_
 subst e; subst e'
 have e1:x.length=1:=by rw [str_len,ex]; rfl
 have e2:x.cps.getD 0 0=n:=by rw [← Array.toArray_toList (xs:=x.cps),ex]; rfl
 exact W.now fun mf m cl fz₁ led s hs I P _ k=>ord_of_one e1 (k _ _ (I.toks _) ⟨rfl,_,.int _ _,by rw [e2]; exact h⟩)
theorem CB.chr {i:Int} (h0:0≤i) (h1:i≤1114111) (h:Q (.str [i.toNat]) H):CallB g d (.builtin "chr") [.int i] H Q:=by
 intro Γ c ok fz lo xs is
 refine x12 (is.one) fun _ e i=>?_
 refine x11 (i.intE) fun t e'=>?_
 subst e; subst e'
 exact W.now fun mf m cl fz₁ led s hs I P _ k=>chr_of_range h0 h1 (k _ _ (I.toks _) ⟨rfl,_,.str _ _ rfl,h⟩)
theorem CB.min {a b:Int} (h:Q (.int (if b < a then b else a)) H):CallB g d (.builtin "min") [.int a,.int b] H Q:=by
 intro Γ c ok fz lo xs is
 refine ob_EEAA is.two fun _ _ e i j=>?_
 refine x11 (i.intE) fun t e'=>?_
 refine x11 (j.intE) fun u e''=>?_
 subst e; subst e'; subst e''
 refine W.grown fun mf m cl fz₁ led s hs I P _ k=>min_two_ints ok.handled fun h' tk hk=>?_
 by_cases q:b < a
 ·rw [if_pos q] at h ⊢
  exact k _ _ _ (I.hi.grow hk) ⟨rfl,_,.int _ _,h⟩
 ·rw [if_neg q] at h ⊢
  exact k _ _ _ (I.hi.grow hk) ⟨rfl,_,.int _ _,h⟩
theorem CB.int {s:List Nat} {n:Int} (hn:PySem.intText? (S' s)=some n) (hl:s.length≤640) (h:Q (.int n) H):CallB g d (.type "int") [.str s] H Q:=by
 intro Γ c ok fz lo xs is
 refine x12 (is.one) fun _ e i=>?_
 refine ob_EEA i.strE fun x t e' ex=>?_
 subst e; subst e'; subst ex
 rw [S'_of] at hn
 exact W.now fun mf m cl fz₁ led s hs I P _ k=>KIN.call_text hn (by rw [str_len]; exact hl) (k _ _ (I.toks _) ⟨rfl,_,.int _ _,h⟩)
theorem CB.hex {s:List Nat} (hx:∀ c∈s,isHex c=true) (ne:s≠[]) (hl:s.length≤6) (h:Q (.int (hexVal s:Nat)) H):CallB g d (.type "int") [.str s,.int 16] H Q:=by
 intro Γ c ok fz lo xs is
 refine ob_EEAA is.two fun _ _ e i j=>?_
 refine ob_EEA i.strE fun x t e' ex=>?_
 refine x11 (j.intE) fun u e''=>?_
 subst e; subst e'; subst e''; subst ex
 exact W.now fun mf m cl fz₁ led s hs I P _ k=>call_hex hx ne hl (k _ _ (I.toks _) ⟨rfl,_,.int _ _,h⟩)
theorem CB.sw {s y:List Nat} {i:Int} (h:Q (.bool (swAt s y i)) H):CallB g d (.builtin "str.startswith") [.str s,.str y,.int i] H Q:=by
 intro Γ c ok fz lo xs is
 refine ob_EEEEEAA is.ssi fun x t z u v e ex ez=>?_
 subst e; subst ex; subst ez
 exact W.now fun mf m cl fz₁ led s hs I P _ k=>SC.startswith3 (k _ _ I.z ⟨rfl,_,.bool _,by rw [sw_list]; exact h⟩)
theorem CB.swT {s:List Nat} {ys:List (List Nat)} {i:Int} (h:Q (.bool (ys.any fun y=>swAt s y i)) H):CallB g d (.builtin "str.startswith") [.str s,.tup (ys.map V.str),.int i] H Q:=by
 intro Γ c ok fz lo xs is
 refine ob_EEAA is.consE fun _ _ e i t=>?_
 refine ob_EEAA t.two fun _ _ e' j k=>?_
 refine ob_EEA i.strE fun x t e1 ex=>?_
 refine ob_EEEAA j.tupE fun a vs n e2 hm ha=>?_
 refine x11 (k.intE) fun u e3=>?_
 refine x12 (strs_of ha) fun l e4 q=>?_
 subst e; subst e'; subst e1; subst e2; subst e3; subst ex; subst e4
 refine W.now fun mf m cl fz₁ led s hs I P _ k=>call_swT (I.hi.there ok.stays (mem_mono hs _ _ hm)) (strs_are l) (k _ _ I.z ⟨rfl,_,.bool _,?_⟩)
 rw [q,List.any_map]
 simpa only [Function.comp_def,S'_list] using h
theorem CB.find {s y:List Nat} {i:Int} (h:Q (.int (findAt s y i)) H):CallB g d (.builtin "str.find") [.str s,.str y,.int i] H Q:=by
 intro Γ c ok fz lo xs is
 refine ob_EEEEEAA is.ssi fun x t z u v e ex ez=>?_
 subst e; subst ex; subst ez
 unfold findAt at h
 rw [S'_of,S'_of] at h
 exact W.now fun mf m cl fz₁ led s hs I P _ k=>SC.find3 (k _ _ (I.toks _) ⟨rfl,_,.int _ _,h⟩)
theorem CB.rfind {s y:List Nat} {i j:Int} (h:Q (.int (rfindAt s y i j)) H):CallB g d (.builtin "str.rfind") [.str s,.str y,.int i,.int j] H Q:=by
 intro Γ c ok fz lo xs is
 refine ob_EEEEEEAA is.ssii fun x t z u v w e ex ez=>?_
 subst e; subst ex; subst ez
 exact W.now fun mf m cl fz₁ led s hs I P _ k=>call_rfind (k _ _ (I.toks _) ⟨rfl,_,.int _ _,h⟩)
theorem CB.count {s y:List Nat} {i j:Int} (h:Q (.int (countAt s y i j)) H):CallB g d (.builtin "str.count") [.str s,.str y,.int i,.int j] H Q:=by
 intro Γ c ok fz lo xs is
 refine ob_EEEEEEAA is.ssii fun x t z u v w e ex ez=>?_
 subst e; subst ex; subst ez
 exact W.now fun mf m cl fz₁ led s hs I P _ k=>call_count (k _ _ (I.toks _) ⟨rfl,_,.int _ _,h⟩)
theorem join_list {c:Cx} {fz:Led} {ss:List (List Nat)} (hl:ss.flatten.length+ss.length≤1000000) (h:Q (.str ss.flatten) H) {x:Str} {t:Tok} (ex:x.cps.toList=[]) {a:Addr} (hh:∀ mf m cl fz₁ led s,(∀ p∈fz,p∈fz₁)→Inv g c lo H mf m cl fz₁ led s→∃ vs n M,IsAll M vs (ss.map V.str)∧s.heap.get? a=some (listOf vs.toArray n)) :
  W g c fz (call (.builtin "str.join") [.str x t,.ref a]) lo H (VP g lo Q) :=
 W.now fun mf m cl fz₁ led s hs I P _ k=>by
  refine ob_EEEA (hh mf m cl fz₁ led s hs I) fun vs n M ha hg=>?_
  refine x12 (strs_of ha) fun l e q=>?_
  subst e
  rw [str_nil ex]
  exact SC.join ⟨_,hg,rfl,_,rfl⟩ q (joinOkS ss hl) fun t' kk=>k _ _ (I.toks _) ⟨rfl,_,.str _ _ rfl,by rw [joinS,S'_list]; exact h⟩
theorem CB.join {ss:List (List Nat)} (hl:ss.flatten.length+ss.length≤1000000) (h:Q (.str ss.flatten) H):CallB g d (.builtin "str.join") [.str [],.lst (ss.map V.str)] H Q:=by
 intro Γ c ok fz lo xs is
 refine ob_EEAA is.two fun _ _ e i j=>?_
 refine ob_EEA i.strE fun x t e1 ex=>?_
 refine ob_EEEAA j.lstE fun a vs n e2 hm ha=>?_
 subst e; subst e1; subst e2
 exact join_list hl h ex fun mf m cl fz₁ led s hs I=>⟨vs,n,_,ha,I.hi.there ok.stays (mem_mono hs _ _ hm)⟩
end
section
variable {g:Gx} {Γ:Fx} {d:Nat} {lo:Loc} {H:AH} {c:Cx} {fz:Led}
theorem callWithT_W {T:String} {e:Expr} {rest:List Expr} {pos:Pos} {Q:Led→Value→Loc→AH→Prop}
  (h:W g c fz (spliced (backTo pos (starEach (e::rest) c.env))) lo H (fun fz' vs lo' H'=>W g c fz' (call (.type T) vs) lo' H' Q))
  (he:starEach (e::rest) c.env=(false,eval e c.env)::starEach rest c.env) (hplain:(backTo pos (starEach rest c.env)).any (·.1)=false) :
  W g c fz (callWith pos (.type T) [] (backTo pos (starEach (e::rest) c.env)) []) lo H Q:=by
 intro mf m cl fz₁ led s hs I
 exact callWith_type1 (wpAny_mono (h mf m cl fz₁ led s hs I) (fun vs s' ⟨lo',H',mf',m',cl',fz',led',I',hs',q⟩=>q.rest (fun _ x=>x) I' hs') fun _ _ x=>x) he hplain
theorem E.callT {x:Str} {p pos:Pos} {T:String} {e:Expr} {rest:List Expr} {Q:V→AH→Prop} (hf:(x,.type T)∈Γ.globs)
  (h:Es g Γ d (e::rest) lo H fun vs H₁=>CallB g d (.type T) vs H₁ Q)
  (he:autoParam (∀ env,starEach (e::rest) env=(false,eval e env)::starEach rest env) irfa) (hplain:autoParam (∀ env,(backTo pos (starEach rest env)).any (·.1)=false) irfa):E g Γ d (.Call (.Name x p) (e::rest) [] pos) lo H Q:=by
 intro c ok fz
 refine W.cast (t:=do callWith pos (← eval (.Name x p) c.env) [] (backTo pos (starEach (e::rest) c.env)) []) ?_ rfl
 refine W.bindV ((E.glo hf (Q:=fun v H'=>v=.glo _∧H'=H) ⟨rfl,rfl⟩ c ok fz)) fun fz₁ x v H₁ s₁ i r_=>?_
 obtain ⟨ev,eH⟩:=r_
 subst ev; subst eH
 have ez:=i.gloE
 subst ez
 exact callWithT_W ((h c ok fz₁ pos).elimVs fun fz₂ xs vs H₂ s₂ is q=>q Γ c ok fz₂ _ xs is) (he _) (hplain _)
theorem E.replace {o:Expr} {apos pos p1 p2:Pos} {y z:Str} {k1 k2:Nat} {Q:V→AH→Prop} (hyz:(y==z)=false)
  (h:E g Γ d o lo H fun ov H₁=>∃ x,ov=.str x∧x.length+(x.length+1) * z.length≤16777216∧Q (.str (Txt.replace (S' x) y z).cps.toList) H₁)
  (cf:autoParam (CallForm o "replace" apos pos [.Constant (.str y) k1 p1,.Constant (.str z) k2 p2]) irfc) :
  E g Γ d (.Call (.Attribute o "replace" apos) [.Constant (.str y) k1 p1,.Constant (.str z) k2 p2] [] pos) lo H Q:=by
 intro c ok fz mf m cl fz₁ led s hs I
 obtain ⟨pl,cf⟩:=cf c.env
 refine MethodCall_ ((h c ok fz).useV hs I fun {ov s₁ H₁ mf₁ m₁ cl₁ fz₂ led₁ v} I₁ hs₁ iv r_=>?_) cf
 refine ob_EAA r_ fun x ev hz q=>?_
 try clear r_
 subst ev
 refine ob_EEA iv.strE fun x t ez e=>?_
 subst ez
 subst e
 with_reducible refine GM.replace ?_
 refine PyProof.Rows.callWith_method1 ?_
 refine spliced_cons (Constant_str (k:=k1) (pos:=p1) (spliced_cons (Constant_str (k:=k2) (pos:=p2) (spliced_nil ?_))))
 have tk:=I₁.tk
 rw [S'_of] at q
 refine wpAny_with_toks (n:=1) (Nat.le_trans tk (Nat.le_trans (Nat.le_succ _) (Nat.le_succ _))) ?_
 exact SC.replace (Nat.pos_iff_ne_zero.mp tk) (Nat.succ_ne_zero _) (Nat.ne_of_lt (Nat.lt_succ_self _)) hyz (by rw [str_len x]; exact hz) fun t' k hk=>⟨lo,H₁,mf₁,m₁,cl₁,fz₂,led₁,(I₁.toks k).up hk,hs₁,rfl,_,.str _ _ rfl,q⟩
end
noncomputable def valA:CFound→Option Addr
 | .val (.ref f)=>some f
 | _=>none
theorem valA_some {x:CFound} {p:Addr} (h:valA x=some p):x=.val (.ref p):=by
 induction x with
 | val a=>cases a <;> first | (cases h; rfl) | cases h
 | _=>cases h
noncomputable def clsFn (K:Frag) (C:Addr) (name:Str):Option Addr :=
 if specialIn K (.ref C) "__getattribute__"==some (some (.builtin "type.__getattribute__")) then
  (typeIn K (.ref C)).bind fun mc=>if readsIn K C mc then (findCls K (.ref C) mc name).bind valA else none
 else none
section
variable {g:Gx} {Γ:Fx} {d:Nat} {lo:Loc} {H:AH} {c:Cx} {fz:Led}
set_option tactic.hygienic true in
theorem E.cmeth {x name:Str} {C f:Addr} {p apos pos:Pos} {e:Expr} {rest:List Expr} {Q:V→AH→Prop} (hC:(x,.ref C)∈Γ.globs) (hf:clsFn g.K C name=some f) (hk:keepIn g.K (.ref f)=true)
  (h:Es g Γ d (e::rest) lo H fun vs H₁=>Call g d (.ref f) vs H₁ Q)
  (he:autoParam (∀ env,starEach (e::rest) env=(false,eval e env)::starEach rest env) irfa) (hplain:autoParam (∀ env,(backTo pos (starEach rest env)).any (·.1)=false) irfa)
  (cf:autoParam (CallForm (.Name x p) name apos pos (e::rest)) irfc):E g Γ d (.Call (.Attribute (.Name x p) name apos) (e::rest) [] pos) lo H Q:=by
 intro c ok fz mf m cl fz₁ led s hs I
 refine x11 (cf c.env) fun pl cf=>?_
 refine MethodCall_ (((E.glo hC (Q:=fun v H'=>v=.glo (.ref C)∧H'=H) ⟨rfl,rfl⟩) c ok fz).useV hs I fun {ov s₁ H₁ mf₁ m₁ cl₁ fz₂ led₁ v} I₁ hs₁ iv r_=>?_) cf
 refine x02 (r_) fun ev eH=>?_
 subst ev; subst eH
 have ez:=iv.gloE
 subst ez
 refine x02 (ite_some hf) fun q1 hf=>?_
 refine x12 (Option.bind_eq_some_iff.mp hf) fun mc q2 hf=>?_
 refine x02 (ite_some hf) fun q3 hf=>?_
 refine x12 (Option.bind_eq_some_iff.mp hf) fun r q4 hf=>?_
 rw [valA_some hf] at q4
 have X₀:g.K.In c.h₀:=ok.gok.kin.keeps fun b o e=>ok.stays b o e
 refine method_of_cls I₁.hi.fr X₀ (beq_iff_eq.mp q1) (cls_val I₁.hi.fr X₀ q2 q3 q4 rfl ?_)
 exact W.rest (callWith_W (first:=[]) ok hk ((h c ok fz₂ pos).elimVs fun fz₃ xs vs H₂ s₂ is q=>q.W ok is) (he _) (hplain _)) (fun _ x=>x) (I₁.to (s₁.toks+1) (Nat.le_succ _) I₁.hi) hs₁
theorem app_list (x y:Str):(x++y).cps.toList=x.cps.toList++y.cps.toList:=by
 show (Str.append x y).cps.toList=_
 unfold Str.append
 simp
noncomputable def Parts (g:Gx) (Γ:Fx) (d:Nat):List Expr→List Nat→Loc→AH→(V→AH→Prop)→Prop
 | [],acc,_,H,Q=>Q (.str acc) H
 | e::r,acc,lo,H,Q=>E g Γ d e lo H fun v H₁=>∃ y,v=.str y∧acc.length+y.length≤1000000∧Parts g Γ d r (acc++y) lo H₁ Q
theorem small_line {n:Nat} (h:n≤1000000):n≤sizeLine:=by rw [sizeLine_eq]; exact R21 h
theorem Parts.joins {es:List Expr} {acc:Str} {lo:Loc} {H:AH} {Q:V→AH→Prop} (hz:acc.length≤1000000) (h:Parts g Γ d es acc.cps.toList lo H Q) (ok:c.Ok g Γ d) {fz₀:Led} {mf m:Str→Option Value} {cl fz led:Led} {s:Shared} (h0:∀ p∈fz₀,p∈fz) (I:Inv g c lo H mf m cl fz led s) :
  Joins (model g.prog g.w) c.A (fun _ _=>False) (evalEach es c.env) acc (fun out s₁=>out.length≤sizeLine∧WP g c fz₀ (VP g lo Q) (.str out s₁.toks) { s₁ with toks:=s₁.toks+1 }) s:=by
 induction es generalizing acc H mf m cl fz led s with
 | nil=>exact ⟨small_line hz,.mk _ _ _ _ _ _ _ (I.to (s.toks+1) (Nat.le_succ _) I.hi) h0 ⟨rfl,_,.str _ _ rfl,h⟩⟩
 | cons e r ih =>
  refine (h c ok fz).useV (fun _ x=>x) I fun {x s₁ H₁ mf₁ m₁ cl₁ fz₁ led₁ v} I₁ hs₁ iv r_=>?_
  refine ob_EAA r_ fun y ev hl q=>?_
  try clear r_
  subst ev
  refine ob_EEA iv.strE fun x t e ex=>?_
  subst e; subst ex
  have hz':(acc++x).length≤1000000:=by rw [str_len,app_list,Qg]; exact hl
  exact ⟨x,t,rfl,small_line hz',ih hz' (by rw [app_list]; exact q) (fun p hp=>hs₁ p (h0 p hp)) I₁⟩
theorem E.fstr {e₁ e₂:Expr} {r:List Expr} {pos:Pos} {Q:V→AH→Prop} (h:Parts g Γ d (e₁::e₂::r) [] lo H Q):E g Γ d (.JoinedStr (e₁::e₂::r) pos) lo H Q:=by
 intro c ok fz mf m cl fz₁ led s hs I
 exact wpAny_JoinedStr (Parts.joins (acc:=Str.empty) (Nat.zero_le _) h ok (fun _ x=>x) I)
theorem E.fval {e:Expr} {pos:Pos} {Q:V→AH→Prop} (h:E g Γ d e lo H fun v H₁=>∃ s,v=.str s∧s.length≤1000000∧Q v H₁):E g Γ d (.FormattedValue e (-1) Option.none pos) lo H Q:=by
 intro c ok fz mf m cl fz₁ led s hs I
 refine wpAny_FormattedValue_plain ((h c ok fz).useV hs I fun {x s₁ H₁ mf₁ m₁ cl₁ fz₂ led₁ v} I₁ hs₁ iv r_=>?_)
 refine ob_EAA r_ fun y ev hl q=>?_
 try clear r_
 subst ev
 refine ob_EEA iv.strE fun x t e ex=>?_
 subst e
 exact wpAny_formatField_str (.mk _ _ _ _ _ _ _ I₁ hs₁ ⟨rfl,_,.str _ _ ex,q⟩) (.mk _ _ _ _ _ _ _ (I₁.to (s₁.toks+1) (Nat.le_succ _) I₁.hi) hs₁ ⟨rfl,_,.str _ _ ex,q⟩) (by subst ex; rw [str_len]; exact small_line hl)
end
noncomputable def Cx.pin (c:Cx) (p:Addr × Obj):Cx:={ c with pins:=p::c.pins }
section
variable {g:Gx} {Γ:Fx} {d:Nat} {lo:Loc} {H:AH} {c:Cx} {mf m:Str→Option Value} {cl fz led:Led} {h h':Heap} {a:Addr} {o o':Obj}
theorem Cx.Ok.pin (ok:c.Ok g Γ d) (p:Addr × Obj):(c.pin p).Ok g Γ d :=
 { gok:=ok.gok,below:=ok.below,frames:=ok.frames,handled:=ok.handled,fframe:=ok.fframe,fkind:=ok.fkind,bot:=ok.bot,scope:=ok.scope,kind:=ok.kind,globals:=ok.globals,builtins:=ok.builtins,room:=ok.room,units:=ok.units,globs:=ok.globs,code:=ok.code,cells:=ok.cells }
theorem pin_led (p:Addr × Obj):cl++(led++((c.pin p).pins++fz))=(cl++led)++p::(c.pins++fz):=by
 show cl++(led++((p::c.pins)++fz))=_
 simp
theorem flat_led:cl++(led++(c.pins++fz))=(cl++led)++(c.pins++fz):=by simp
theorem HI.pinNew (I:HI g c lo H mf m cl fz led h) (o:Obj) (hf:autoParam (o.isFreed=false) irfa):HI g (c.pin (h.objs.size,o)) lo H mf m cl fz led (h.push o):=by
 have N:=I.newN o hf
 rw [flat_led] at N
 refine ⟨I.fr.push o,I.clr.to rfl rfl rfl,?_,?_,I.lok,I.loc,I.hr⟩
 ·rw [pin_led]
  intro p hp
  rcases mem_mid hp with rfl | hp
  ·exact N _ (.head _)
  ·exact N _ (.tail _ hp)
 ·rw [pin_led]
  refine nodup_mid (by rw [← flat_led]; exact I.nd) fun p hp=>?_
  rw [← flat_led] at hp
  exact Nat.ne_of_lt (I.fresh_lt p hp)
theorem HI.unpin {p:Addr × Obj} (I:HI g (c.pin p) lo H mf m cl fz led h):HI g c lo H mf m cl fz led h:=by
 have N:=I.news
 have D:=I.nd
 rw [pin_led] at N D
 refine ⟨I.fr,I.clr.to rfl rfl rfl,?_,?_,I.lok,I.loc,I.hr⟩
 ·rw [flat_led]
  intro p hp
  exact N p ((List.mem_append.mp hp).elim (fun q=>List.mem_append.mpr (.inl q)) fun q=>List.mem_append.mpr (.inr (.tail _ q)))
 ·rw [flat_led]
  refine D.sublist ?_
  simp only [List.map_append,List.map_cons]
  exact (List.Sublist.refl _).append ((List.Sublist.refl _).cons _)
theorem HI.pin_off (I:HI g (c.pin (a,o)) lo H mf m cl fz led h):(∀ p∈cl++led,p.1≠a)∧∀ p∈c.pins++fz,p.1≠a:=by
 have D:=I.nd
 rw [pin_led] at D
 simp only [List.map_append,List.map_cons] at D
 have hh:=(List.perm_middle.nodup_iff).mp D
 have hn:=(List.nodup_cons.mp hh).1
 refine ⟨fun p hp e=>hn ?_,fun p hp e=>hn ?_⟩
 ·rw [← e]
  refine List.mem_append_left _ ?_
  rw [← List.map_append]
  exact List.mem_map_of_mem (f:=(·.1)) hp
 ·rw [← e]
  refine Qw _ ?_
  rw [← List.map_append]
  exact List.mem_map_of_mem (f:=(·.1)) hp
theorem HI.pin_at (I:HI g (c.pin (a,o)) lo H mf m cl fz led h):h.get? a=some o∧a≠c.L∧c.h₀.get? a=none:=by
 have N:=I.news
 rw [pin_led] at N
 exact N (a,o) (by simp)
theorem HI.repin (I:HI g (c.pin (a,o)) lo H mf m cl fz led h) (hs:Heap.SameBut a h h') (ho:h'.get? a=some o'):HI g (c.pin (a,o')) lo H mf m cl fz led h':=by
 have N:=I.news
 have off:=I.pin_off
 have D:=I.nd
 rw [pin_led] at N D
 refine ⟨I.fr.change hs I.pin_at.2.1 I.pin_at.2.2,I.clr.to rfl rfl rfl,?_,?_,I.lok,I.loc,I.hr⟩
 ·rw [pin_led]; exact news_set N off.1 off.2 hs ho
 ·rw [pin_led]; simpa using D
theorem HI.endpin (I:HI g (c.pin (a,o)) lo H mf m cl fz led h) (hs:Heap.ExtBut a h h'):HI g c lo H mf m cl fz led h':=by
 have N:=I.news
 have off:=I.pin_off
 have J:=I.unpin
 rw [pin_led] at N
 have q:=I.pin_at
 refine ⟨⟨I.fr.ns.extBut hs q.2.1.symm,fun b x e=>hs b x (fun hb=>?_) (I.fr.keep b x e),I.fr.above⟩,I.clr.to rfl rfl rfl,?_,J.nd,I.lok,I.loc,I.hr⟩
 ·subst hb
  have e':c.h₀.get? b=some x:=e
  rw [q.2.2] at e'; cases e'
 ·rw [flat_led]
  intro p hp
  have z:=N p ((List.mem_append.mp hp).elim (fun q=>List.mem_append.mpr (.inl q)) fun q=>List.mem_append.mpr (.inr (.tail _ q)))
  exact ⟨hs _ _ ((List.mem_append.mp hp).elim (off.1 p) (off.2 p)) z.1,z.2⟩
noncomputable def rngV (x step:Int):Nat→List V
 | 0=>[]
 | n+1=>.int x::rngV (x+step) step n
inductive ItR (M:Mem) (h:Heap) (it:Addr):List V→Prop
 | lst {l:Addr} {xs:List Value} {n i:Nat} {vs:List V}:M l (listOf xs.toArray n)→h.IsListIter it l i→IsAll M (xs.drop i) vs→ItR M h it vs
 | asc {x:Str} {t:Tok} {i:Nat} {vs:List V}:h.IsStrIter it "str_ascii_iterator" x t i→vs=(x.cps.toList.drop i).map (fun c=>V.str [c])→ItR M h it vs
 | wide {x:Str} {t:Tok} {i:Nat} {vs:List V}:h.IsStrIter it "str_iterator" x t i→vs=(x.cps.toList.drop i).map (fun c=>V.str [c])→ItR M h it vs
 | rng {x left step:Int} {vs:List V}:IsRangeIter h it x left step→vs=rngV x step left.toNat→ItR M h it vs
theorem ItR.mono {M M':Mem} {it:Addr} {vs:List V} (r:ItR M h it vs) (hs:∀ a o,M a o→M' a o):ItR M' h it vs:=by
 induction r with
 | lst a b c=>exact .lst (hs _ _ a) b (c.mono hs)
 | asc a e=>exact .asc a e
 | wide a e=>exact .wide a e
 | rng a e=>exact .rng a e
theorem ItR.keeps {M:Mem} {it:Addr} {vs:List V} (r:ItR M h it vs) (hk:∀ o,h.get? it=some o→h'.get? it=some o):ItR M h' it vs:=by
 induction r with
 | lst a b c =>
  obtain ⟨o,b1,b2⟩:=b
  exact .lst a ⟨o,hk o b1,b2⟩ c
 | asc a e =>
  obtain ⟨o,b1,b2⟩:=a
  exact .asc ⟨o,hk o b1,b2⟩ e
 | wide a e =>
  obtain ⟨o,b1,b2⟩:=a
  exact .wide ⟨o,hk o b1,b2⟩ e
 | rng a e=>exact .rng (hk _ a) e
theorem IsAll.head {M:Mem} {xs:List Value} {i:Nat} {v:V} {vs:List V} (r:IsAll M (xs.drop i) (v::vs)):∃ x,xs[i]?=some x∧Is M x v∧IsAll M (xs.drop (i+1)) vs:=by
 cases hd:xs.drop i with
 | nil=>rw [hd] at r; cases r
 | cons x ys =>
  rw [hd] at r
  cases r with
  | cons a b =>
   have e1:xs[i]?=some x:=by
    have:(xs.drop i)[0]?=some x:=by rw [hd]; rfl
    simpa using this
   have e2:xs.drop (i+1)=ys:=by
    have:xs.drop (i+1)=(xs.drop i).drop 1:=by rw [Qe]
    rw [this,hd]; rfl
   exact ⟨x,e1,a,by rw [e2]; exact b⟩
theorem drop_head {xs:List Nat} {i:Nat} {v:V} {vs:List V} (e:v::vs=(xs.drop i).map (fun c=>V.str [c])):∃ c,xs[i]?=some c∧v=.str [c]∧vs=(xs.drop (i+1)).map (fun c=>V.str [c]):=by
 cases hd:xs.drop i with
 | nil=>rw [hd] at e; cases e
 | cons x ys =>
  rw [hd] at e
  have e1:xs[i]?=some x:=by
   have:(xs.drop i)[0]?=some x:=by rw [hd]; rfl
   simpa using this
  have e2:xs.drop (i+1)=ys:=by
   have:xs.drop (i+1)=(xs.drop i).drop 1:=by rw [Qe]
   rw [this,hd]; rfl
  rw [e2]
  injection e with e3 e4
  exact ⟨x,e1,e3,e4⟩
theorem next_item {E':Value→Shared→Prop} {s:Shared} {Q:Option Value→Shared→Prop} {v:V} {vs:List V} (ok:c.Ok g Γ d) (I:Inv g (c.pin (a,o)) lo H mf m cl fz led s) (r:ItR (Cx.mem g fz) s.heap a (v::vs))
  (k:∀ x o' s',Inv g (c.pin (a,o')) lo H mf m cl fz led s'→Is (Cx.mem g fz) x v→ItR (Cx.mem g fz) s'.heap a vs→Q (some x) s'):wpAny (model g.prog g.w) c.A (pyNext (.ref a)) Q E' s:=by
 cases r with
 | lst hm hit ha =>
  refine ob_EAA ha.head fun x e1 i1 i2=>?_
  refine wpAny_pyNext_list_item hit ⟨_,I.hi.there (ok.pin (a,o)).stays hm,rfl,_,rfl⟩ (by simpa using e1) fun h' hit' hs'=>?_
  obtain ⟨o',ho',r⟩:=id hit'
  exact k x o' _ ⟨I.hi.repin hs' ho',I.gens,I.os,I.tk⟩ i1 (.lst hm hit' i2)
 | asc hit e =>
  refine ob_EAA (drop_head e) fun n e1 ez2 e2=>?_
  subst ez2
  refine wpAny_pyNext_ascii_item hit (by rw [← Array.getElem?_toList]; exact e1) fun h' hit' hs'=>?_
  obtain ⟨o',ho',r⟩:=id hit'
  exact k _ o' _ ⟨I.hi.repin hs' ho',I.gens,I.os,Nat.le_trans I.tk (Nat.le_succ _)⟩ (.str _ _ rfl) (.asc hit' e2)
 | wide hit e =>
  refine ob_EAA (drop_head e) fun n e1 ez2 e2=>?_
  subst ez2
  refine wpAny_pyNext_wide_item hit (by rw [← Array.getElem?_toList]; exact e1) fun h' hit' hs'=>?_
  obtain ⟨o',ho',r⟩:=id hit'
  exact k _ o' _ ⟨I.hi.repin hs' ho',I.gens,I.os,Nat.le_trans I.tk (Nat.le_succ _)⟩ (.str _ _ rfl) (.wide hit' e2)
 | @rng x left step _ hit e =>
  cases hl:left.toNat with
  | zero=>rw [hl] at e; cases e
  | succ n =>
   rw [hl] at e
   change _=V.int x::rngV (x+step) step n at e
   injection e with e1 e2
   subst e1
   have hn:(left - 1).toNat=n:=by omega
   refine wpAny_pyNext_range_item hit (by omega) fun h' hit' hs'=>?_
   exact k _ _ _ ⟨I.hi.repin hs' hit',I.gens,I.os,Nat.le_trans I.tk (Nat.le_succ _)⟩ (.int _ _) (.rng hit' (by rw [hn]; exact e2))
theorem drop_none {α:Type} {xs:List α} {i:Nat} (h:xs.drop i=[]):xs[i]?=none:=by
 rw [List.getElem?_eq_none_iff]
 have:=congrArg List.length h
 simp at this
 exact ar2 (.im (.eq (.s .v0 .v1) .n0) (.le .v0 .v1)) rfl this
theorem next_end {E':Value→Shared→Prop} {s:Shared} {Q:Option Value→Shared→Prop} (ok:c.Ok g Γ d) (I:Inv g (c.pin (a,o)) lo H mf m cl fz led s) (r:ItR (Cx.mem g fz) s.heap a [])
  (k:∀ s',Inv g c lo H mf m cl fz led s'→Q none s'):wpAny (model g.prog g.w) c.A (pyNext (.ref a)) Q E' s:=by
 cases r with
 | lst hm hit ha =>
  refine wpAny_pyNext_list_end ok.handled hit ⟨_,I.hi.there (ok.pin (a,o)).stays hm,rfl,_,rfl⟩ ?_ fun h' hs'=>?_
  ·have:=ha.length
   rw [List.getElem?_toArray]
   exact drop_none (Ql this)
  ·exact k _ (⟨I.hi.endpin hs',I.gens,I.os,I.tk⟩)
 | asc hit e =>
  refine wpAny_pyNext_ascii_end ok.handled hit ?_ fun h' hs'=>k _ (⟨I.hi.endpin hs',I.gens,I.os,I.tk⟩)
  rw [← Array.getElem?_toList]
  exact drop_none (List.map_eq_nil_iff.mp e.symm)
 | wide hit e =>
  refine wpAny_pyNext_wide_end ok.handled hit ?_ fun h' hs'=>k _ (⟨I.hi.endpin hs',I.gens,I.os,I.tk⟩)
  rw [← Array.getElem?_toList]
  exact drop_none (List.map_eq_nil_iff.mp e.symm)
 | @rng x left step _ hit e =>
  refine wpAny_pyNext_range_end ok.handled hit ?_ fun h' hs'=>k _ (⟨I.hi.endpin hs',I.gens,I.os,I.tk⟩)
  cases hl:left.toNat with
  | zero=>omega
  | succ n=>rw [hl] at e; cases e
noncomputable def items:V→Option (List V)
 | .lst vs=>some vs
 | .str s=>some (s.map fun c=>.str [c])
 | .rng a b c=>if Builtin.Range.small a b c then some (rngV a c (Builtin.Range.rangeSize a b c).toNat) else none
 | _=>none
theorem iter_start {E':Value→Shared→Prop} {s:Shared} {Q:Value→Shared→Prop} {x:Value} {v:V} {vs:List V} (ok:c.Ok g Γ d) (I:Inv g c lo H mf m cl fz led s) (i:Is (Cx.mem g fz) x v) (e:items v=some vs)
  (k:∀ a o s',Inv g (c.pin (a,o)) lo H mf m cl fz led s'→ItR (Cx.mem g fz) s'.heap a vs→Q (.ref a) s'):wpAny (model g.prog g.w) c.A (pyIter x) Q E' s:=by
 cases i with
 | lst hm ha =>
  cases e
  refine wpAny_pyIter_list ⟨_,I.hi.there ok.stays hm,rfl,_,rfl⟩ (k _ _ _ ⟨I.hi.pinNew _ ?_,I.gens,I.os,I.tk⟩ (.lst hm ⟨_,Heap.get?_push_size _ rfl,rfl,rfl⟩ ha))
  rfl
 | str y t ey =>
  subst ey
  cases e
  cases hy:y.cps.all (· < 128) with
  | true =>
   refine wpAny_pyIter_ascii hy (k _ _ _ ⟨I.hi.pinNew _ ?_,I.gens,I.os,I.tk⟩ (.asc (i:=0) ⟨_,Heap.get?_push_size _ rfl,rfl,rfl⟩ rfl))
   rfl
  | false =>
   refine wpAny_pyIter_wide hy (k _ _ _ ⟨I.hi.pinNew _ ?_,I.gens,I.os,I.tk⟩ (.wide (i:=0) ⟨_,Heap.get?_push_size _ rfl,rfl,rfl⟩ rfl))
   rfl
 | @rng r a b c t u v hm =>
  change (if Builtin.Range.small a b c=true then some (rngV a c (Builtin.Range.rangeSize a b c).toNat) else Option.none)=some vs at e
  by_cases hsm:Builtin.Range.small a b c=true
  ·rw [if_pos hsm] at e
   cases e
   refine wpAny_pyIter_range (I.hi.there ok.stays hm) hsm (k _ _ _ ⟨I.hi.pinNew _ ?_,I.gens,I.os,I.tk⟩ (.rng (Heap.get?_push_size _ rfl) rfl))
   rfl
  ·rw [if_neg hsm] at e; cases e
 | _=>cases e
end
section
variable {g:Gx} {Γ:Fx} {d:Nat} {lo:Loc} {H:AH}
theorem Inv.unpin {c:Cx} {p:Addr × Obj} {mf m:Str→Option Value} {cl fz led:Led} {s:Shared} (I:Inv g (c.pin p) lo H mf m cl fz led s):Inv g c lo H mf m cl fz led s:=⟨I.hi.unpin,I.gens,I.os,I.tk⟩
noncomputable abbrev KFor (J:List V→Loc→AH→Prop) (rest:List V) (Q:R→Loc→AH→Prop):R→Loc→AH→Prop:=fun r lo' H'=>match r with
 | .next | .cont=>J rest lo' H'
 | .brk=>Q .next lo' H'
 | .ret w=>Q (.ret w) lo' H'
set_option genInjectivity false in
inductive FI (g:Gx) (c:Cx) (fz₁:Led) (a:Addr) (J:List V→Loc→AH→Prop) (n:Nat) (s:Shared):Prop
 | mk {vs:List V} {o:Obj} {lo:Loc} {H:AH} {mf m:Str→Option Value} {cl fz' led:Led} (e:vs.length=n) (j:J vs lo H) (I:Inv g (c.pin (a,o)) lo H mf m cl fz' led s) (r:ItR (Cx.mem g fz') s.heap a vs) (hz:∀ p∈fz₁,p∈fz')
theorem Inv.itr {c:Cx} {a:Addr} {o:Obj} {lo lo':Loc} {H H':AH} {mf m mf' m':Str→Option Value} {cl fz led cl' fz' led':Led} {s s':Shared} {vs:List V} {M M':Mem} (I:Inv g (c.pin (a,o)) lo H mf m cl fz led s) (I':Inv g (c.pin (a,o)) lo' H' mf' m' cl' fz' led' s') (r:ItR M s.heap a vs) (hs:∀ a o,M a o→M' a o):ItR M' s'.heap a vs :=
 (r.mono hs).keeps fun o e=>by
  have q:=I.hi.pin_at.1
  rw [q] at e; cases e
  exact I'.hi.pin_at.1
theorem S.for_ {x:Str} {px:Pos} {iter:Expr} {body orelse:List Stmt} {pos:Pos} {Q:R→Loc→AH→Prop}
  (h:E g Γ d iter lo H fun v H₁=>∃ vs,items v=some vs∧∃ J:List V→Loc→AH→Prop,J vs lo H₁ ∧
   (∀ v rest lo H,J (v::rest) lo H→PutK x v lo fun lo'=>Ss g Γ d body lo' H (KFor J rest Q)) ∧
   (∀ lo H,J [] lo H→Ss g Γ d orelse lo H Q))
  (hs:autoParam (∀ env x,foldedSetIterable iter env x=pure x) irfa):S g Γ d (.For (.Name x px) iter body orelse pos) lo H Q:=by
 intro c ok fz mf m cl fz₁ led s hs' I
 refine wpAny_For ((h c ok fz).useV hs' I fun {cv s₁ H₁ mf₁ m₁ cl₁ fz₂ led₁ v} I₁ hs₁ iv r_=>?_) (hs _)
 refine ob_EAEAA r_ fun vs ei J h0 turn fin=>?_
 try clear r_
 refine iter_start ok I₁ iv ei fun a o s₂ I₂ r₂=>?_
 refine codeAny_forLoop (FI g c fz₁ a J) ?_ vs.length (.mk rfl h0 I₂ r₂ hs₁)
 intro n s w
 cases w with | @mk vs o lo H mf m cl fz' led e hJ I r hz =>
 subst e
 cases vs with
 | nil =>
  exact next_end ok I r fun s₁ I₁=>(fin lo H hJ c ok fz').use (fun _ x=>x) I₁ fun I₃ hs₃ q=>.mk _ _ _ _ _ _ _ I₃ (fun p hp=>hs₃ p (hz p hp)) q
 | cons v rest =>
  refine next_item ok I r fun x o' s₁ I₁ ix r₁=>?_
  obtain ⟨lo',hp,hb⟩:=turn v rest lo H hJ
  have ok':=ok.pin (a,o')
  refine wpAny_assign_Name ((store_W (c:=c.pin (a,o')) (fz:=fz') (Q:=fun fz'' _ lo'' H''=>lo''=lo'∧H''=H) ok' hp ix (fun _ _=>⟨rfl,rfl⟩)).use (fun _ x=>x) I₁ fun {x_ s₂ lo₂ H₂ mf₂ m₂ cl₂ fz₂ led₂} I₂ hs₂ r_=>?_)
  obtain ⟨e₂,e₃⟩:=r_
  subst e₂; subst e₃
  have r₂:=I₁.itr I₂ r₁ (mem_mono hs₂)
  refine (hb (c.pin (a,o')) ok' fz₂).use (fun _ x=>x) I₂ fun {f s₃ lo₃ H₃ mf₃ m₃ cl₃ fz₃ led₃} I₃ hs₃ r_=>?_
  obtain ⟨r,hr,q⟩:=r_
  have hz':∀ p∈fz₁,p∈fz₃:=fun p hp=>hs₃ p (hs₂ p (hz p hp))
  have r₃:=I₂.itr I₃ r₂ (mem_mono hs₃)
  induction hr with
  | next=>exact ⟨_,Nat.lt_succ_self _,.mk rfl q I₃ r₃ hz'⟩
  | cont=>exact ⟨_,Nat.lt_succ_self _,.mk rfl q I₃ r₃ hz'⟩
  | brk=>exact .mk _ _ _ _ _ _ _ I₃.unpin hz' ⟨_,.next,q⟩
  | ret i=>exact .mk _ _ _ _ _ _ _ I₃.unpin hz' ⟨_,.ret i,q⟩
end
structure CompOk (g:Gx) (Γ:Fx) (x:Str):Prop where
 code:Γ.code=.none
 free:∀ y∈Γ.scope.names,y.2≠.free∧y.2≠.cell
 kind:Γ.scope.kind=.function
 names:∀ y∈Γ.scope.names,y.2=.local→Γ.scope.names.lookup y.1=some .local
 x:Γ.scope.names.lookup x=some .local∧(x==("__debug__":Str))=false
 globs:∀ p∈Γ.globs,Γ.scope.names.lookup p.1=some .globalImplicit∧(p.1==("__debug__":Str))=false ∧
  (g.mg p.1=some p.2∨(g.mg p.1=none∧g.mb p.1=some p.2))
 cells:autoParam (Γ.cells=[]) irfa
section
variable {g:Gx} {Γ Γ':Fx} {d:Nat} {lo:Loc} {H:AH} {c:Cx}
theorem iter_self {E':Value→Shared→Prop} {s:Shared} {Q:Value→Shared→Prop} {A:Around} {M:Mem} {a:Addr} {vs:List V} (r:ItR M s.heap a vs) (h:Q (.ref a) s):wpAny (model g.prog g.w) A (pyIter (.ref a)) Q E' s:=by
 induction r with
 | lst _ hit _=>exact wpAny_pyIter_listiter hit h
 | asc hit _=>exact wpAny_pyIter_striter_ascii hit h
 | wide hit _=>exact wpAny_pyIter_striter_wide hit h
 | rng hit _=>exact wpAny_pyIter_rangeiter hit h
noncomputable def inComp (c:Cx) (cl:Led) (mf:Str→Option Value) (env':Env):Cx:={ c with env:=env',pins:=cl++c.pins,keep:=some mf }
theorem HI.enterComp {mf m:Str→Option Value} {cl fz led:Led} {h h':Heap} {p:Addr × Obj} {od:Obj} {mm:Str→Option Value} {x:Str} {env':Env} (hx:Γ'.scope.names.lookup x=some .local∧(x==("__debug__":Str))=false) (he:env'.scope=Γ'.scope∧env'.locals=h.objs.size)
  (I:HI g (c.pin p) lo H mf m cl fz led h) (hod:od.isFreed=false) (hn:h'.Ns h.objs.size mm) (hsb:Heap.SameBut h.objs.size (h.push od) h') :
  ∃ oD,HI g ((inComp c cl mf env').pin p) [(x,.unset)] H mf mm [(env'.locals,oD)] fz led h':=by
 refine ob_EEEAAA (id hn) fun oD es ep h1 h2 h3 h4=>?_
 have N:=I.newN od hod
 have hD:=N _ (.head _)
 have F':Fr c.h₀ c.L h' mf:=(I.fr.push od).change hsb hD.2.1 hD.2.2
 have pm:([(env'.locals,oD)]++(led++(((inComp c cl mf env').pin p).pins++fz))).Perm ((h.objs.size,oD)::(cl++(led++((c.pin p).pins++fz)))):=by
  show ([(env'.locals,oD)]++(led++((p::(cl++c.pins))++fz))).Perm ((h.objs.size,oD)::(cl++(led++((p::c.pins)++fz))))
  rw [he.2]
  refine List.Perm.cons _ ?_
  have e1:cl++(led++((p::c.pins)++fz))=(cl++led)++p::(c.pins++fz):=by simp
  have e2:led++((p::(cl++c.pins))++fz)=led++p::(cl++(c.pins++fz)):=by simp
  show (led++((p::(cl++c.pins))++fz)).Perm _
  rw [e1,e2]
  refine List.perm_middle.trans (List.Perm.trans ?_ List.perm_middle.symm)
  refine List.Perm.cons _ ?_
  rw [← Qf]
  have:(led++cl).Perm (cl++led):=List.perm_append_comm
  simpa using this.append_right (c.pins++fz)
 have nd:(((h.objs.size,oD)::(cl++(led++((c.pin p).pins++fz)))).map (·.1)).Nodup:=by
  rw [List.map_cons]
  refine List.nodup_cons.mpr ⟨fun q=>?_,I.nd⟩
  refine x12 (List.mem_map.mp q) fun z hz e=>?_
  exact Nat.ne_of_lt (I.fresh_lt z hz) e
 refine ⟨oD,F',.apart rfl ⟨es,ep,h2,h3,h4⟩,fun z hz=>?_,(pm.map _).nodup_iff.mpr nd,⟨by simp,?_⟩,?_,I.hr⟩
 ·rcases Qi (pm.mem_iff.mp hz) with rfl | hz
  ·exact ⟨h1,hD.2⟩
  ·have q:=N z (.tail _ hz)
   exact ⟨(hsb.2 _ (Nat.ne_of_lt (I.fresh_lt z hz))).trans q.1,q.2⟩
 ·intro q hq
  rcases Qi hq with rfl | hq
  ·show env'.scope.names.lookup x=_∧_
   rw [he.1]; exact hx
  ·cases hq
 ·intro q hq
  rcases Qi hq with rfl | hq
  ·exact .inl rfl
  ·cases hq
theorem HI.leaveComp {mf mf' m mm:Str→Option Value} {cl cl' fz led:Led} {h h':Heap} {lo':Loc} {env':Env} (I:HI g (inComp c cl mf env') lo' H mf' mm cl' fz led h) (lok:LocOk c.env.scope lo) (loc:LocR (Cx.mem g fz) m lo)
  (C:ClR c mf m cl) (hD:env'.locals≠c.L) (hs:Heap.SameBut env'.locals h h'):HI g c lo H mf m cl fz led h':=by
 have C':=I.clr
 have N:=I.news
 have D:=I.nd
 obtain ⟨oD,rfl,rfl⟩:∃ oD,cl'=[(env'.locals,oD)]∧mf'=mf:=by
  generalize hc:inComp c cl mf env'=c' at C'
  induction C' with
  | own e=>exact absurd (by rw [← hc] at e; exact e) hD
  | @apart m o kp q =>
   refine ⟨o,by rw [← hc]; rfl,?_⟩
   rw [← hc] at kp
   exact (Option.some.inj kp).symm
 have q:=N (env'.locals,oD) (.head _)
 have e3:[(env'.locals,oD)]++(led++((inComp c cl mf' env').pins++fz))=(env'.locals,oD)::(led++((cl++c.pins)++fz)):=rfl
 rw [e3] at N D
 have pm:(cl++(led++(c.pins++fz))).Perm (led++((cl++c.pins)++fz)):=by
  have h1:(cl++(led++(c.pins++fz))).Perm (led++(cl++(c.pins++fz))):=by
   rw [← Qf,← Qf (as:=led)]
   exact (List.perm_append_comm).append_right _
  simpa [List.append_assoc] using h1
 have D':=List.nodup_cons.mp (by simpa only [List.map_cons] using D)
 refine ⟨I.fr.change hs q.2.1 q.2.2,C,fun z hz=>?_,(pm.map _).nodup_iff.mpr D'.2,lok,loc,I.hr⟩
 have hz':=pm.mem_iff.mp hz
 have z1:=N z (.tail _ hz')
 exact ⟨(hs.2 _ (fun e=>D'.1 (by rw [← e]; exact List.mem_map_of_mem (f:=(·.1)) hz'))).trans z1.1,z1.2⟩
set_option genInjectivity false in
inductive CI (g:Gx) (c:Cx) (x:Str) (a acc:Addr) (H:AH) (f:V→V) (vs:List V) (fz:Led) (n:Nat) (s:Shared):Prop
 | mk {done rest:List V} {o:Obj} {u:V} {mf' mm:Str→Option Value} {cl' fz' led':Led} (e:vs=done++rest) (e':rest.length=n) (I:Inv g (c.pin (a,o)) [(x,u)] ((acc,.lst (done.map f))::H) mf' mm cl' fz' led' s) (r:ItR (Cx.mem g fz') s.heap a rest) (hz:∀ p∈fz,p∈fz')
set_option genInjectivity false in
inductive CE (g:Gx) (c:Cx) (acc:Addr) (H:AH) (vs:List V) (fz:Led) (r:Except Value Flow) (s:Shared):Prop
 | mk {lx:Loc} {mf' mm':Str→Option Value} {cl' fz' led':Led} (e:r=.ok .next) (I:Inv g c lx ((acc,.lst vs)::H) mf' mm' cl' fz' led' s) (hz:∀ p∈fz,p∈fz')
theorem push_all {M:Mem} {xs:List Value} {vs:List V} {y:Value} {v:V} {n:Nat} (ha:IsAll M xs vs) (i:Is M y v):OIs M (listOf (xs.toArray.push y) n) (.lst (vs++[v])):=by
 rw [List.push_toArray]; exact .lst (ha.append (.cons i .nil))
theorem push_size {M:Mem} {xs:List Value} {vs:List V} (ha:IsAll M xs vs) (h:vs.length≤1000000):xs.toArray.size≤sizeLine:=by
 rw [List.size_toArray,ha.length,sizeLine_eq]; exact R21 h
theorem comp_push {prog:Program} {w₀:World} {A:Around} {E:Value→Shared→Prop} {P:Value→Shared→Prop} {lo:Loc} {mf m:Str→Option Value} {cl fz led:Led} {s:Shared} {acc:Addr} {L:List V} {y:Value} {w:V} (I:Inv g c lo ((acc,.lst L)::H) mf m cl fz led s) (iw:Is (Cx.mem g fz) y w) (hl:L.length≤1000000)
  (k:∀ h' led',Inv g c lo ((acc,.lst (L++[w]))::H) mf m cl fz led' { s with heap:=h' }→P .none { s with heap:=h' }):wpAny (model prog w₀) A (call (.builtin "list.append") [.ref acc,y]) P E s:=by
 refine x33 (I.hi.hr.split (x:=.lst L) (x':=.lst (L++[w])) .here) fun pre oo post el ho hr=>?_
 subst el
 refine ob_EEA ho.lstE fun xs n eo ha=>?_
 subst eo
 refine x12 (I.hi.by_upd (o':=listOf (xs.toArray.push y) (n+1)) (hr _ (push_all ha iw))) fun news' U back=>?_
 exact append_K I.hi.fr I.hi.news U (fun h' F' N'=>k h' _ ⟨back h' F' N',I.gens,I.os,I.tk⟩) (push_size ha hl)
theorem comp_loop {env':Env} {sc:Scope} {cl fz led cl₀:Led} {mf mm:Str→Option Value} {a acc:Addr} {o:Obj} {x:Str} {px pos:Pos} {elt iter:Expr} {vs:List V} {f:V→V} {s:Shared} (ok':(inComp c cl₀ mf env').Ok g Γ' d)
  (I:Inv g ((inComp c cl₀ mf env').pin (a,o)) [(x,.unset)] ((acc,.lst [])::H) mf mm cl fz led s) (r:ItR (Cx.mem g fz) s.heap a vs) (hlen:vs.length≤1000000)
  (step:∀ u∈vs,∀ H',(∀ p∈H,p∈H')→E g Γ' d elt [(x,u)] H' fun r H''=>H''=H'∧r=f u) :
  codeAny (model g.prog g.w) c.A (.compStart (.ListComp elt [⟨.Name x px,iter,[],0⟩] sc pos) 0 (.ref a) (.ref acc) env')
   (CE g (inComp c cl₀ mf env') acc H (vs.map f) fz) s:=by
 have loop:codeAny (model g.prog g.w) c.A (.compLoop (.ListComp elt [⟨.Name x px,iter,[],0⟩] sc pos) 0 (.ref a) (.ref acc) env')
   (CE g (inComp c cl₀ mf env') acc H (vs.map f) fz) s:=by
  refine codeAny_compLoop_list (CI g (inComp c cl₀ mf env') x a acc H f vs fz) ?_ vs.length (.mk (done:=[]) (rest:=vs) rfl rfl I r fun _ x=>x)
  intro n s w
  cases w with | @mk done rest o u mf' mm cl' fz' led' e e' I r hz =>
  subst e'
  cases rest with
  | nil =>
   rw [List.append_nil] at e
   subst e
   exact next_end (c:=inComp c cl₀ mf env') ok' I r fun s₁ I₁=>.mk rfl I₁ hz
  | cons v rest =>
   refine next_item (c:=inComp c cl₀ mf env') ok' I r fun y o' s₁ I₁ iy r₁=>?_
   have ok₂:=ok'.pin (a,o')
   refine wpAny_assign_Name ((store_W (c:=(inComp c cl₀ mf env').pin (a,o')) (fz:=fz') (Q:=fun fz'' _ lo'' H''=>lo''=[(x,v)]∧H''=(acc,.lst (done.map f))::H) ok₂ .here iy (fun _ _=>⟨rfl,rfl⟩)).use (fun _ x=>x) I₁ fun {x_ s₂ lo₂ H₂ mf₂ m₂ cl₂ fz₂ led₂} I₂ hs₂ r_=>?_)
   refine x02 (r_) fun e₂ e₃=>?_
   subst e₂; subst e₃
   have r₂:=I₁.itr I₂ r₁ (mem_mono hs₂)
   refine (step v (e ▸ Qw _ (.head _)) _ (fun _ hp=>.tail _ hp) ((inComp c cl₀ mf env').pin (a,o')) ok₂ fz₂).useV (fun _ x=>x) I₂ fun {y₃ s₃ H₃ mf₃ m₃ cl₃ fz₃ led₃ w} I₃ hs₃ iw r_=>?_
   refine x02 (r_) fun e₅ e₆=>?_
   subst e₅; subst e₆
   have r₃:=I₂.itr I₃ r₂ (mem_mono hs₃)
   refine comp_push I₃ iw (by rw [List.length_map]; rw [e,Qg] at hlen; exact Nat.le_trans (Nat.le_add_right _ _) hlen) fun h' led' J=>⟨_,Nat.lt_succ_self _,?_⟩
   refine .mk (done:=done++[v]) (by rw [e,Qf]; rfl) rfl (by rw [List.map_append]; exact J) (r₃.keeps fun o e=>?_) (fun p hp=>hs₃ p (hs₂ p (hz p hp)))
   have q:=I₃.hi.pin_at.1
   rw [q] at e; cases e
   exact J.hi.pin_at.1
 exact codeAny_compStart_list loop (iter_self r loop)
end
noncomputable def PX (g:Gx) (Γ':Fx) (x:Str) (n:Nat) (e:Expr) (Q:V→Prop):Prop :=
 ∀ (A:Around) (E':Value→Shared→Prop) (env:Env) (s:Shared) (m:Str→Option Value) (v:Value),A.handled=none→A.units+100≤cLine→env.scope=Γ'.scope→env.globals=mainGlobals→env.builtins=builtinsNs→s.heap.Ns env.locals m→m x=some v →
  Is (fun _ _=>False) v (.str [n])→(∀ b o,g.B.get? b=some o→s.heap.get? b=some o) →
  wpAny (model g.prog g.w) A (eval e env) (fun y s'=>∃ k w,s'={ s with toks:=k }∧Is (fun _ _=>False) y w∧Q w) E' s
structure GenOk (g:Gx) (Γ:Fx) (x:Str):Prop where
 free:∀ y∈Γ.scope.names,y.2≠.free∧y.2≠.cell
 co:Γ.scope.isCoroutine=false
 kind:Γ.scope.kind=.function
 zero:Γ.scope.names.lookup (".0":Str)=some .local
 x:Γ.scope.names.lookup x=some .local∧(x==("__debug__":Str))=false
 globs:∀ p∈Γ.globs,Γ.scope.names.lookup p.1=some .globalImplicit∧(p.1==("__debug__":Str))=false ∧
  (g.mg p.1=some p.2∨(g.mg p.1=none∧g.mb p.1=some p.2))
section
variable {g:Gx} {Γ Γ':Fx} {d:Nat} {lo:Loc} {H:AH} {c:Cx}
theorem code_step {M:Model} {A:Around} {E':Value→Shared→Prop} {s:Shared} {env:Env} {C P:Addr} {pos:Pos} {q:Str} {scope:Scope} {Q:Value→Shared→Prop} {st:Option Pos} {o:Obj} {N:Mem} (hc:env.code=.ref C) (hC:CodeHd s.heap C P)
  (ho:s.heap.get? P=some o) (io:OIs N o (.tab st)) (hst:st=none∨st=some pos)
  (k:∀ c' h' tk,Heap.ExtBut P s.heap h'→s.heap.objs.size≤h'.objs.size→h'.get? P=some (tabOf pos c')→Q (.ref c') { s with heap:=h',toks:=tk }):wpAny M A (genexprCode env pos q scope) Q E' s:=by
 cases io with
 | tab0=>exact wpAny_genexprCodeX hc (hC.code ho trivial) (hC.tab ho) rfl fun c' h' tk hx hge hlt _ _ ht _=>k c' h' tk hx (Nat.le_trans hge (Nat.le_of_lt hlt)) ht.2
 | tab1 p c' =>
  rcases hst with e | e
  ·cases e
  ·cases e
   exact wpAny_genexprCode_hit hc (hC.code ho trivial) (c':=.ref c') (by simp [codeAmong,rawInt]) (k c' s.heap s.toks (fun _ _ _ e=>e) (Qd _) ho)
theorem HI.grown_tab {mf m:Str→Option Value} {cl fz pre post:Led} {P:Addr} {o o':Obj} {H':AH} {h h':Heap} (I:HI g c lo H mf m cl fz (pre++(P,o)::post) h) (k:Heap.ExtBut P h h') (hP:h'.get? P=some o') (hr:HR (Cx.mem g fz) (pre++(P,o')::post) H'):HI g c lo H' mf m cl fz (pre++(P,o')::post) h':=by
 have hin:=I.news (P,o) (by simp)
 have F':Fr c.h₀ c.L h' mf:=by
  refine ⟨I.fr.ns.extBut k hin.2.1.symm,fun b x e=>k b x (fun hb=>?_) (I.fr.keep b x e),I.fr.above⟩
  subst hb
  have e':=hin.2.2
  rw [e] at e'; cases e'
 refine I.update F' hr fun p q e h1 h2 z hz=>?_
 rcases List.mem_append.mp hz with hz | hz
 ·have q1:=I.news z (by
   have:z∈cl++(pre++(P,o)::post)++(c.pins++fz):=by rw [e]; exact List.mem_append_left _ hz
   simpa [List.append_assoc] using this)
  exact ⟨k _ _ (h1 z hz) q1.1,q1.2⟩
 ·rcases Qi hz with rfl | hz
  ·exact ⟨hP,hin.2⟩
  ·have q1:=I.news z (by
    have:z∈cl++(pre++(P,o)::post)++(c.pins++fz):=by rw [e]; exact Qw _ (.tail _ hz)
    simpa [List.append_assoc] using this)
   exact ⟨k _ _ (h2 z hz) q1.1,q1.2⟩
theorem filt (l:List Nat):l.filter (fun _=>true)=l:=by
 induction l with
 | nil=>rfl
 | cons a r ih=>rw [List.filter_cons_of_pos rfl,ih]
theorem passing_all (n:Nat):passing (fun _=>true) n 0=List.range n:=by
 unfold passing
 rw [List.drop_zero,filt]
theorem map_getD (xs:List Nat) (f:Nat→List Nat):(List.range xs.length).map (fun j=>S' (f (xs.getD j 0)))=(xs.map f).map S':=by
 rw [List.map_map]
 apply List.ext_getElem
 ·simp
 ·intro i h1 h2
  simp at h1
  simp [h1]
theorem passing_len (n:Nat):(passing (fun _=>true) n 0).length=n:=by rw [passing_all,List.length_range]
theorem passing_get {n i j:Nat} (e:(passing (fun _=>true) n 0)[j]?=some i):i=j:=by
 rw [passing_all] at e
 obtain ⟨h1,h2⟩:=List.getElem?_eq_some_iff.mp e
 exact h2.symm.trans (List.getElem_range h1)
theorem flat8 {f:Nat→List Nat}:(l:List Nat)→(∀ n∈l,(f n).length≤8)→(l.map f).flatten.length≤8 * l.length
 | [],_=>Qd _
 | a::r,h=>by
  rw [List.map_cons,List.flatten_cons,Qg]
  exact AR.h380 _ _ _ (flat8 r fun n hn=>h n (.tail _ hn)) (h a (.head _))
theorem join_small {f:Nat→List Nat} {l:List Nat} (h:∀ n∈l,(f n).length≤8) (hl:l.length≤100000):(l.map f).flatten.length+(l.map f).length≤1000000:=by
 rw [List.length_map]
 exact ar2 (.im (.le .v0 (.m 8 .v1)) (.im (.le .v1 (.n 100000)) (.le (.a .v0 .v1) (.n 1000000)))) rfl (flat8 l h) hl
theorem HI.fresh_tab {mf m:Str→Option Value} {cl fz pre post:Led} {P:Addr} {o o':Obj} {h:Heap} (I:HI g c lo H mf m cl fz (pre++(P,o)::post) h) (p:Addr × Obj) (hp:p∈cl++((pre++(P,o')::post)++(c.pins++fz))):p.1 < h.objs.size:=by
 have e:(cl++((pre++(P,o')::post)++(c.pins++fz))).map (·.1)=(cl++((pre++(P,o)::post)++(c.pins++fz))).map (·.1):=by simp
 have h1:p.1∈(cl++((pre++(P,o)::post)++(c.pins++fz))).map (·.1):=by rw [← e]; exact List.mem_map_of_mem (f:=(·.1)) hp
 refine x12 (List.mem_map.mp h1) fun q hq e2=>?_
 rw [← e2]
 exact I.fresh_lt q hq
theorem E.joinGen {o elt iter:Expr} {x:Str} {px apos gpos pos:Pos} {C P:Addr} {f:Nat→List Nat} {Q:V→AH→Prop} (hC:CodeHd g.B C P) (hcode:Γ.code=.ref C) (O:GenOk g Γ' x) (ho:E g Γ d o lo H fun v H'=>v=.str []∧H'=H)
  (h:E g Γ d iter lo H fun v H₁=>∃ s,v=.str s∧s.length≤100000∧(∀ n∈s,(f n).length≤8∧PX g Γ' x n elt (fun w=>w=.str (f n)))∧∃ st H₂,MUpd P (.tab st) (.tab (some gpos)) H₁ H₂∧(st=Option.none∨st=some gpos)∧Q (.str (s.map f).flatten) H₂)
  (hs:autoParam (∀ env x,genFold iter env x=pure x) irfa) (cf:autoParam (CallForm o "join" apos pos [.GeneratorExp elt [⟨.Name x px,iter,[],0⟩] Γ'.scope gpos]) irfc) :
  E g Γ d (.Call (.Attribute o "join" apos) [.GeneratorExp elt [⟨.Name x px,iter,[],0⟩] Γ'.scope gpos] [] pos) lo H Q:=by
 intro c ok fz mf m cl fz₁ led s hs' I
 refine x11 (cf c.env) fun pl cf=>?_
 refine MethodCall_ ((ho c ok fz).useV hs' I fun {ov s₁ H₁ mf₁ m₁ cl₁ fz₂ led₁ v} I₁ hs₁ iv r_=>?_) cf
 refine x02 (r_) fun ev eH=>?_
 subst ev; subst eH
 refine ob_EEA iv.strE fun sep tk ez esep=>?_
 subst ez
 have e0:sep=Str.ofString "":=by
  have:S' sep.cps.toList=S' []:=by rw [esep]
  rw [S'_of] at this; rw [this]; rfl
 subst e0
 with_reducible refine GM.join ?_
 refine PyProof.Rows.callWith_method1 (spliced_cons ?_)
 refine wpAny_with_toks (n:=1) I₁.tk ?_
 have hcd:c.env.code=.ref C:=by
  rcases ok.code with e | e
  ·rw [hcode] at e; cases e
  ·rw [e,hcode]
 refine wpAny_GeneratorExp_walksQD ok.handled O.co (closureFor_none fun y hy=>(O.free y hy).1) (fun y hy=>(O.free y hy).2) O.zero O.x.1 O.kind (by have:=ok.room; exact ar3 (.im (.le (.a (.a .v0 .v2) (.n 8)) .v1) (.lt .v0 .v1)) rfl this)
  ((h c ok fz₂).useV (fun _ x=>x) I₁ fun {cv s₂ H₂' mf₂ m₂ cl₂ fz₃ led₂ v} I₂ hs₂ iv r_=>?_) (hs _)
 refine ob_EAAAEEAA r_ fun xs ev hlen step st H₂ hu hst fin=>?_
 try clear r_
 subst ev
 refine ob_EEA iv.strE fun y t ez ey=>?_
 subst ez
 subst ey
 refine wpAny_pyIter_str fun o St W hSt=>?_
 have T:=ok.gok.top.keeps fun b o e=>ok.stays b o e
 have lim:s₂.heap.NoLimit:=T.nolimit.keeps I₂.hi.fr.keep
 refine ⟨lim.push _,?_⟩
 refine ob_EEEAA (I₂.hi.hr.split hu) fun pre oP post ez3 hoP hr=>?_
 subst ez3
 have hin:=I₂.hi.news (P,oP) (by simp)
 have kB:∀ b o,g.B.get? b=some o→s₂.heap.get? b=some o:=fun b o e=>I₂.hi.fr.keep _ _ (ok.stays b o e)
 have hCs:CodeHd s₂.heap C P:=hC.keeps kB
 have hBP:g.B.get? P=Option.none:=by
  cases q:g.B.get? P with
  | none=>rfl
  | some o'=>have:=ok.stays _ _ q; rw [hin.2.2] at this; cases this
 refine code_step (s:={ s₂ with heap:=s₂.heap.push o }) hcd (hCs.keeps fun b o e=>Heap.get?_push_of_some _ e) (Heap.get?_push_of_some _ hin.1) hoP hst fun c' h₄ tk₄ hx₄ hge₄ hP₄=>?_
 refine x21 (bmod_of_top ok.gok.top) fun bm ob M=>?_
 have k₄:∀ b o,b≠P→s₂.heap.get? b=some o→h₄.get? b=some o:=fun b o hb e=>hx₄ b o hb (Heap.get?_push_of_some _ e)
 have kB₄:∀ b o,g.B.get? b=some o→h₄.get? b=some o:=fun b o e=>k₄ b o (fun hb=>by rw [hb,hBP] at e; cases e) (kB b o e)
 have M₄:BMod h₄ c.env.globals g.mg bm ob:=by rw [ok.globals]; exact M.keeps kB₄
 refine wpAny_builtinsFor M₄.ns M₄.name M₄.ne M₄.obj M₄.cls M₄.dict M₄.data ?_
 have hI:s₂.heap.objs.size < h₄.objs.size:=Nat.lt_of_lt_of_le (by rw [Heap.size_push]; exact Nat.lt_succ_self _) hge₄
 have hPlt:P < s₂.heap.objs.size:=Heap.lt_size hin.1
 have hlt:c.L < s₂.heap.objs.size:=I₂.hi.fr.ns.lt
 have lim₄:h₄.NoLimit:=ok.gok.top.nolimit.keeps kB₄
 refine ⟨s₂.heap.objs.size,[s₂.heap.objs.size],[s₂.heap.objs.size],y.cps.size,SignAt y,St,(fun _=>true),(fun i v=>∃ u,v=.str (S' (f (y.cps.toList.getD i 0))) u),rfl,W,
  (W c.A ok.handled).frame _ _ _ hSt (fun b hb o e=>?_),(fun b hb=>?_),lim₄,(fun hm=>?_),(fun href hhref=>?_),fun a h₅ tk gs hgb hag hsz₅ hk₅ W₅ hat=>?_⟩
 ·rcases Qi hb with rfl | hb
  ·exact hx₄ _ _ (Nat.ne_of_gt hPlt) e
  ·cases hb
 ·rcases Qi hb with rfl | hb
  ·exact hI
  ·cases hb
 ·rcases Qi hm with e | hm
  ·obtain ⟨mc,hns,_⟩:=lim
   exact absurd hns.lt (by rw [e]; exact Nat.lt_irrefl _)
  ·cases hm
 ·refine ⟨fun A' E' i v t' m₂ _ _ _ _ _ _ _=>wpAny_pure ⟨rfl,t'.heap,t'.toks,rfl,fun _ _ e=>e⟩,fun A' E' i v t' m₂ hA hD hU hP hp hn hm hkp=>?_⟩
  refine ob_EEA hP fun n u hy ez3=>?_
  try clear hP
  subst ez3
  have hy':y.cps.toList[i]?=some n:=by rw [Array.getElem?_toList]; exact hy
  have hd:y.cps.toList.getD i 0=n:=by rw [List.getD_eq_getElem?_getD,hy']; rfl
  refine x02 (step n (List.mem_of_getElem? hy')) fun s1 s2=>?_
  refine wpAny_mono (s2 A' E' _ t' m₂ _ hA (by have:=ok.units; exact ar4 (.im (.le (.a (.a .v2 (.m 10 .v3)) (.n 200)) .v1) (.im (.le .v0 (.a .v2 (.n 8))) (.le (.a .v0 (.n 100)) .v1))) rfl this hU) rfl ok.globals rfl hn hm (.str _ _ rfl) fun b o e=>?_) (fun z s' ⟨k,w,e1,iw,e2⟩=>?_) fun _ _ e=>e
  ·have e4:=kB₄ b o e
   exact hkp b (List.mem_range.mpr (Heap.lt_size e4)) (fun hb=>by
    rcases Qi hb with rfl | hb
    ·exact absurd (Heap.lt_size (kB _ _ e)) (Nat.lt_irrefl _)
    ·cases hb) o (hhref b o e4)
  ·subst e1; subst e2
   refine ⟨?_,t'.heap,k,rfl,fun _ _ e=>e⟩
   refine ob_EEA iw.strE fun z tk eo ez=>?_
   subst eo
   refine ⟨tk,?_⟩
   rw [hd,← ez,S'_of]
 ·intro htk
  refine spliced_nil ?_
  refine wpAny_with_toks (n:=1) htk ?_
  have k₅:Heap.ExtBut P s₂.heap h₅:=fun b o hb e=>hk₅ b o (k₄ b o hb e)
  have J₅:=I₂.hi.grown_tab k₅ (hk₅ _ _ hP₄) (hr _ (.tab1 gpos c'))
  have hlt5:=I₂.hi.fresh_tab (o':=tabOf gpos c')
  refine join_rowsK (h₀:=c.h₀) (L:=c.L) (m:=mf₂) (K:=s₂.heap.objs.size - 1) (F:=fun j v=>∃ i,(passing (fun _=>true) y.cps.size 0)[j]?=some i∧∃ u,v=.str (S' (f (y.cps.toList.getD i 0))) u) (n:=(passing (fun _=>true) y.cps.size 0).length) J₅.fr (I₂.gens.push hgb)
   ⟨_,_,_,_,W₅,hat,(fun i s' st=>st.1.typeIs),List.mem_cons_self,(fun b hb=>?_),(fun b hb=>?_)⟩ (Nat.le_sub_one_of_lt hlt) (fun j=>S' (f (y.cps.toList.getD j 0))) (fun j v ⟨i,e1,u,e2⟩=>?_) ?_ (fun s' t' F' G' hos k'=>?_) ?_
  ·show b < h₅.objs.size
   rw [hsz₅]
   rcases Qi hb with rfl | hb
   ·exact Nat.lt_succ_self _
   ·rcases Qi hb with rfl | hb
    ·exact Nat.lt_succ_of_lt hag
    ·exact Nat.lt_succ_of_lt (Nat.lt_trans (List.mem_range.mp hb) hag)
  ·rcases Qi hb with rfl | hb
   ·exact Nat.lt_of_le_of_lt (Nat.sub_le _ _) hI
   ·rcases Qi hb with rfl | hb
    ·exact Nat.sub_lt (Nat.lt_of_le_of_lt (Nat.zero_le _) hlt) Nat.zero_lt_one
    ·cases hb
  ·have ei:i=j:=passing_get e1
   subst ei
   exact ⟨u,e2⟩
  ·have hn:(passing (fun _=>true) y.cps.size 0).length=y.cps.toList.length:=passing_len _
   rw [hn,map_getD]
   exact joinOkS _ (join_small (fun n hn=>(step n hn).1) hlen)
  ·intro htk'
   have hn:(passing (fun _=>true) y.cps.size 0).length=y.cps.toList.length:=passing_len _
   rw [hn,map_getD,joinS]
   have N':News c.h₀ c.L s'.heap (cl₂++((pre++(P,tabOf gpos c')::post)++(c.pins++fz₃))):=fun p hp=>by
    have q:=J₅.news p hp
    exact ⟨k' _ _ (Nat.le_sub_one_of_lt (hlt5 p hp)) q.1,q.2⟩
   exact ⟨lo,H₂,mf₂,m₂,cl₂,fz₃,_,⟨J₅.of F' N',G',by rw [hos]; exact I₂.os,htk'⟩,fun p hp=>hs₂ p (hs₁ p hp),rfl,_,.str _ _ rfl,by rw [S'_list]; exact fin⟩
  ·have hn:(passing (fun _=>true) y.cps.size 0).length=y.cps.toList.length:=passing_len _
   rw [hn,sizeLine_eq]; exact ar1 (.im (.le .v0 (.n 100000)) (.le .v0 (.n 16777216))) rfl hlen
end
end
section
open PySem PySem.W PySem.Calls PyProof.Rows PyProof.Rows.KTD
open PySem.Builtin PySem.Builtin.Str
noncomputable abbrev M0:Mem:=fun _ _=>False
set_option genInjectivity false in
inductive PWP {α:Type} (s:Shared) (Q:α→Prop) (y:α) (s':Shared):Prop
 | mk (k:Nat) (e:s'={ s with toks:=k }) (q:Q y)
noncomputable def PW {α:Type} (M:Model) (A:Around) (s:Shared) (t:Sem α) (Q:α→Prop):Prop:=∀ (k:Nat) (E':Value→Shared→Prop),wpAny M A t (PWP s Q) E' { s with toks:=k }
section
variable {M:Model} {A:Around} {s:Shared} {α β:Type}
theorem PW.mono {t:Sem α} {Q Q':α→Prop} (h:PW M A s t Q) (k:∀ y,Q y→Q' y):PW M A s t Q':=fun n E'=>wpAny_mono (h n E') (fun y s' w=>by cases w with | mk n e q=>exact ⟨n,e,k y q⟩) fun _ _ x=>x
theorem PW.use {t:Sem α} {Q:α→Prop} (h:PW M A s t Q) {n:Nat} {P:α→Shared→Prop} {E':Value→Shared→Prop} (k:∀ y n,Q y→P y { s with toks:=n }):wpAny M A t P E' { s with toks:=n } :=
 wpAny_mono (h n E') (fun y s' w=>by cases w with | mk n e q=>subst e; exact k y n q) fun _ _ x=>x
theorem PW.bind {t:Sem α} {f:α→Sem β} {Q:β→Prop} (h:PW M A s t fun y=>PW M A s (f y) Q):PW M A s (t >>= f) Q:=fun n E' =>
 wpAny_bind (h.use fun y n q=>q n E')
theorem PW.holding {t:Sem α} {vs:List Value} {Q:α→Prop} (h:PW M A s t Q):PW M A s (holding vs t) Q:=fun n E'=>wpAny_holding (h n E')
theorem PW.operate {t:Sem Value} {vs:List Value} {Q:Value→Prop} (h:PW M A s t Q):PW M A s (operate vs t) Q:=fun n E'=>wpAny_operate' (h n E')
theorem PW.at_ {p:Pos} {t:Sem α} {Q:α→Prop} (h:PW M A s t Q):PW M A s (standAt p >>= fun _=>t) Q:=fun n E'=>wpAny_bind (wpAny_standAt (h n E'))
end
noncomputable abbrev PV (Q:V→Prop):Value→Prop:=fun y=>∃ w,Is M0 y w∧Q w
theorem PW.bindV {M:Model} {A:Around} {s:Shared} {β:Type} {t:Sem Value} {f:Value→Sem β} {Q:V→Prop} {Q':β→Prop} (h:PW M A s t (PV Q)) (k:∀ y a,Is M0 y a→Q a→PW M A s (f y) Q'):PW M A s (t >>= f) Q' :=
 PW.bind (h.mono fun y r=>r.elim fun a r=>k y a r.1 r.2)
structure PCx (g:Gx) (Γ:Fx) (x:Str) (n:Nat) (A:Around) (env:Env) (s:Shared):Prop where
 handled:A.handled=none
 units:A.units+100≤cLine
 scope:env.scope=Γ.scope
 globals:env.globals=mainGlobals
 builtins:env.builtins=builtinsNs
 kept:∀ b o,g.B.get? b=some o→s.heap.get? b=some o
 loc:∃ m v,s.heap.Ns env.locals m∧m x=some v∧Is M0 v (.str [n])
noncomputable def PE (g:Gx) (Γ:Fx) (x:Str) (n:Nat) (e:Expr) (Q:V→Prop):Prop:=∀ A env s,PCx g Γ x n A env s→PW (model g.prog g.w) A s (eval e env) (PV Q)
noncomputable def PT (g:Gx) (Γ:Fx) (x:Str) (n:Nat) (e:Expr) (Q:Bool→Prop):Prop:=∀ A env s,PCx g Γ x n A env s→PW (model g.prog g.w) A s (isTrue e env (eval e env)) Q
section
variable {g:Gx} {Γ:Fx} {x:Str} {n:Nat}
theorem PE.px {e:Expr} {Q:V→Prop} (h:PE g Γ x n e Q):PX g Γ x n e Q:=fun A E' env s m v hA hu h1 h2 h3 h4 h5 h6 h7 =>
 (h A env s ⟨hA,hu,h1,h2,h3,h7,m,v,h4,h5,h6⟩).use (n:=s.toks) fun y k q=>q.elim fun w q=>⟨k,w,rfl,q.1,q.2⟩
theorem PE.str {y:Str} {k:Nat} {pos:Pos} {Q:V→Prop} (h:Q (.str y.cps.toList)):PE g Γ x n (.Constant (.str y) k pos) Q:=fun A env s C k' E'=>Constant_str ⟨_,rfl,_,.str _ _ rfl,h⟩
theorem PE.nm {pos:Pos} {Q:V→Prop} (O:GenOk g Γ x) (h:Q (.str [n])):PE g Γ x n (.Name x pos) Q:=fun A env s C k' E'=>by
 refine ob_EEAA C.loc fun m v h1 h2 h3=>?_
 refine wpAny_Name (wpAny_loadName_local (by rw [C.scope]; exact O.kind) (by unfold Env.kindOf; rw [C.scope]; exact O.x.1) h1 h2 ⟨_,rfl,_,h3,h⟩) O.x.2
theorem PE.ife {test body orelse:Expr} {pos:Pos} {Q:V→Prop} (h:PT g Γ x n test fun b=>if b then PE g Γ x n body Q else PE g Γ x n orelse Q):PE g Γ x n (.IfExp test body orelse pos) Q:=by
 intro A env s C
 rw [eval_IfExp]
 refine PW.bind ((h A env s C).mono fun b q=>?_)
 cases b with
 | true=>exact q A env s C
 | false=>exact q A env s C
theorem units_100 {a:Nat} (h:a+100≤cLine):a+64 < cLine:=by exact ar2 (.im (.le (.a .v0 (.n 100)) .v1) (.lt (.a .v0 (.n 64)) .v1)) rfl h
theorem cmp_P {A:Around} {s:Shared} (hu:A.units+100≤cLine) {op:CmpOp} {u v:Value} {a b:V} {Q:Bool→Prop} (i:Is M0 u a) (j:Is M0 v b) (h:CmpM op a b Q):PW (model g.prog g.w) A s (compareOp op u v) fun y=>∃ r,y=.bool r∧Q r:=fun k' E' =>
 h.elim fun r h=>cmp_core (M:=M0) (fun _ _ h=>h.elim) (units_100 hu) i j h.1 ⟨_,rfl,r,rfl,h.2⟩
theorem PT.cmp {l r:Expr} {op:CmpOp} {pos:Pos} {Q:Bool→Prop} (h:PE g Γ x n l fun a=>PE g Γ x n r fun b=>CmpM op a b Q)
  (hm:autoParam (behindInMarks op r=false) irfd):PT g Γ x n (.Compare l [op] [r] pos) Q:=by
 intro A env s C
 rw [isTrue_Compare1,markedBehindIn_of_false hm]
 exact PW.bindV (h A env s C) fun y a ia ha=>PW.bindV (PW.holding (ha A env s C)) fun z b ib hb =>
  PW.at_ (PW.bind (PW.operate ((cmp_P C.units ia ib hb).mono fun v r=>r.elim fun r q=>by rw [q.1]; exact PW.holding fun k' E'=>wpAny_truthy_bool ⟨_,rfl,q.2⟩)))
theorem glob_P {env:Env} {A:Around} {s:Shared} (O:GenOk g Γ x) (gok:g.Ok) (C:PCx g Γ x n A env s) {y:Str} {v:Value} {p:Pos} {Q:Value→Prop} (hf:(y,v)∈Γ.globs) (h:Q v):PW (model g.prog g.w) A s (eval (.Name y p) env) Q:=fun k' E'=>by
 refine x03 (O.globs _ hf) fun h1 h2 h3=>?_
 have T:=gok.top.keeps C.kept
 refine Name_function_global (by rw [C.scope]; exact O.kind) (by unfold Env.kindOf; rw [C.scope]; exact h1) ?_ h2
 rcases h3 with h3 | ⟨h3,h4⟩
 ·exact loadGlobal_global (s:={ s with toks:=k' }) (by rw [C.globals]; exact T.g) h3 ⟨_,rfl,h⟩
 ·exact loadGlobal_builtin (s:={ s with toks:=k' }) (by rw [C.globals]; exact T.g) h3 (by rw [C.builtins]; exact T.b) h4 ⟨_,rfl,h⟩
theorem PE.dget {y:Str} {a:Addr} {D:List (Str × KTD.Dat)} {p p1 p2 apos pos:Pos} {Q:V→Prop} (O:GenOk g Γ x) (gok:g.Ok) (hf:(y,.ref a)∈Γ.globs) (T:TextTab g.B a D)
  (h1:∀ d v,datumAt (S' [n]) D=some d→d.At g.B v→∃ w,Is M0 v w∧Q w) (h2:datumAt (S' [n]) D=none→Q (.str [n]))
  (cf:autoParam (CallForm (.Name y p) "get" apos pos [.Name x p1,.Name x p2]) irfc):PE g Γ x n (.Call (.Attribute (.Name y p) "get" apos) [.Name x p1,.Name x p2] [] pos) Q:=by
 intro A env s C k' E'
 refine x11 (cf env) fun pl cf=>?_
 refine MethodCall_ ((glob_P O gok C hf (Q:=fun v=>v=.ref a) rfl).use fun v k₂ ev=>?_) cf
 subst ev
 have Hh:Here g.B s.heap a D:=⟨T,C.kept⟩
 with_reducible refine getMethod_text (s:={ s with toks:=k₂ }) Hh ?_
 refine PyProof.Rows.callWith_method1 (spliced_cons ((PE.nm (pos:=p1) (Q:=fun w=>w=.str [n]) O rfl A env s C).use fun u k₃ r=>?_))
 refine spliced_cons ((PE.nm (pos:=p2) (Q:=fun w=>w=.str [n]) O rfl A env s C).use fun u₂ k₄ r₂=>spliced_nil ?_)
 refine x12 (r) fun w iw ew=>?_
 refine x12 (r₂) fun w₂ iw₂ ew₂=>?_
 subst ew; subst ew₂
 refine ob_EEA iw.strE fun z t e ez=>?_
 subst e
 have e:z=S' [n]:=by rw [← S'_of z,ez]
 subst e
 refine call_meetsIn PySem.F.slot_dict_get Hh.typeIs PySem.F.entry_dict_get (PySem.F.args_dict_get_3 _ _ _) (meets_get2 (h₀:=g.B) (D:=D)) ⟨Hh,fun d v ha hv=>?_,fun hn=>?_⟩
 ·refine x12 (h1 d v ha hv) fun w iw q=>?_
  exact ⟨_,rfl,w,iw,q⟩
 ·exact ⟨_,rfl,_,iw₂,h2 hn⟩
end
end
section
open PySem.Builtin PySem.Builtin.Str
section
variable {g:Gx} {Γ:Fx} {d:Nat} {lo:Loc} {H:AH}
end
end
mutual
inductive Rp (a:Addr) (vs:List V):V→V→Prop
 | refl (v:V):Rp a vs v v
 | here:Rp a vs (.ref a) (.lst vs)
 | obj {C:Addr} {ds es:List V}:RpAll a vs ds es→Rp a vs (.obj C ds) (.obj C es)
 | tup {ds es:List V}:RpAll a vs ds es→Rp a vs (.tup ds) (.tup es)
 | lst {ds es:List V}:RpAll a vs ds es→Rp a vs (.lst ds) (.lst es)
inductive RpAll (a:Addr) (vs:List V):List V→List V→Prop
 | nil:RpAll a vs [] []
 | cons {d e:V} {ds es:List V}:Rp a vs d e→RpAll a vs ds es→RpAll a vs (d::ds) (e::es)
end
theorem RpAll.refl {a:Addr} {vs:List V} (ds:List V):RpAll a vs ds ds:=by
 induction ds with
 | nil=>exact .nil
 | cons d ds ih=>exact .cons (.refl d) ih
theorem RpAll.append {a:Addr} {vs ds es ds' es':List V} (h:RpAll a vs ds es) (h':RpAll a vs ds' es'):RpAll a vs (ds++ds') (es++es'):=by
 induction ds generalizing es with
 | nil=>cases h; exact h'
 | cons d ds ih=>cases h with | cons h r=>exact .cons h (ih r)
inductive RpM (a:Addr) (vs:List V):MO→MO→Prop
 | refl (x:MO):RpM a vs x x
 | lst {ds es:List V}:RpAll a vs ds es→RpM a vs (.lst ds) (.lst es)
inductive RpH (a:Addr) (vs:List V):AH→AH→Prop
 | nil:RpH a vs [] []
 | cons {b:Addr} {x y:MO} {H H':AH}:RpM a vs x y→RpH a vs H H'→RpH a vs ((b,x)::H) ((b,y)::H')
inductive RpL (a:Addr) (vs:List V):Loc→Loc→Prop
 | nil:RpL a vs [] []
 | cons {b:Str} {x y:V} {H H':Loc}:Rp a vs x y→RpL a vs H H'→RpL a vs ((b,x)::H) ((b,y)::H')
theorem RpH.refl {a:Addr} {vs:List V} (H:AH):RpH a vs H H:=by
 induction H with
 | nil=>exact .nil
 | cons p H ih=>exact .cons (.refl p.2) ih
theorem RpL.refl {a:Addr} {vs:List V} (H:Loc):RpL a vs H H:=by
 induction H with
 | nil=>exact .nil
 | cons p H ih=>exact .cons (.refl p.2) ih
section
variable {M:Mem} {a:Addr} {vs:List V} {xs:List Value} {n:Nat}
theorem Is.rps (hm:M a (listOf xs.toArray n)) (ha:IsAll M xs vs):(∀ {x:Value} {v:V},Is M x v→∀ v',Rp a vs v v'→Is M x v')∧∀ {ys:List Value} {ds:List V},IsAll M ys ds→∀ es,RpAll a vs ds es→IsAll M ys es:=by
 have h1:∀ v',Rp a vs .none v'→Is M .none v':=fun v' r=>by cases r; exact .none
 have h2:∀ b v',Rp a vs (.bool b) v'→Is M (.bool b) v':=fun b v' r=>by cases r; exact .bool b
 have h3:∀ i t v',Rp a vs (.int i) v'→Is M (.int i t) v':=fun i t v' r=>by cases r; exact .int i t
 have h4:∀ x t {s:List Nat},x.cps.toList=s→∀ v',Rp a vs (.str s) v'→Is M (.str x t) v':=fun x t s h v' r=>by cases r; exact .str x t h
 have h5:∀ {a':Addr} {ws:List Value} {n:Nat} {ds:List V},M a' (tupOf ws.toArray n)→IsAll M ws ds→(∀ es,RpAll a vs ds es→IsAll M ws es)→∀ v',Rp a vs (.tup ds) v'→Is M (.ref a') v':=fun h i ih v' r=>by
  cases r with
  | refl=>exact .tup h i
  | tup r=>exact .tup h (ih _ r)
 have h6:∀ {a':Addr} {ws:List Value} {n:Nat} {ds:List V},M a' (listOf ws.toArray n)→IsAll M ws ds→(∀ es,RpAll a vs ds es→IsAll M ws es)→∀ v',Rp a vs (.lst ds) v'→Is M (.ref a') v':=fun h i ih v' r=>by
  cases r with
  | refl=>exact .lst h i
  | lst r=>exact .lst h (ih _ r)
 have h7:∀ {a' C dx:Addr} {os:List (Option Value)} {ds:List V},M a' (insOf C dx os.toArray)→M dx (dictOf [] 0)→IsSl M os ds→(∀ es,RpAll a vs ds es→IsSl M os es)→∀ v',Rp a vs (.obj C ds) v'→Is M (.ref a') v':=fun h hd i ih v' r=>by
  cases r with
  | refl=>exact .obj h hd i
  | obj r=>exact .obj h hd (ih _ r)
 have h8:∀ (a':Addr) v',Rp a vs (.ref a') v'→Is M (.ref a') v':=fun a' v' r=>by
  cases r with
  | refl=>exact .ref a'
  | here=>exact .lst hm ha
 have h9:∀ (v:Value) v',Rp a vs (.glo v) v'→Is M v v':=fun v v' r=>by cases r; exact .glo v
 have h9b:∀ {r:Addr} {a' b' c':Int} {t u v:Tok},M r (rngOf a' b' c' t u v)→∀ v',Rp a vs (.rng a' b' c') v'→Is M (.ref r) v':=fun h v' r=>by cases r; exact .rng h
 have h9c:∀ {a':Addr} {o:Obj} {P:Addr→Obj→Prop},M a' o→P a' o→∀ v',Rp a vs (.cst P) v'→Is M (.ref a') v':=fun h q v' r=>by cases r; exact .cst h q
 have h10:∀ es,RpAll a vs [] es→IsAll M [] es:=fun es r=>by cases r; exact .nil
 have h11:∀ {v:Value} {ws:List Value} {d:V} {ds:List V},Is M v d→IsAll M ws ds→(∀ v',Rp a vs d v'→Is M v v')→(∀ es,RpAll a vs ds es→IsAll M ws es)→∀ es,RpAll a vs (d::ds) es→IsAll M (v::ws) es:=fun _ _ p q es r=>by cases r with | cons r rs=>exact .cons (p _ r) (q _ rs)
 have h12:∀ es,RpAll a vs [] es→IsSl M [] es:=fun es r=>by cases r; exact .nil
 have h13:∀ {os:List (Option Value)} {ds:List V},IsSl M os ds→(∀ es,RpAll a vs ds es→IsSl M os es)→∀ es,RpAll a vs (.unset::ds) es→IsSl M (Option.none::os) es:=fun _ q es r=>by cases r with | cons r rs=>cases r; exact .unset (q _ rs)
 have h14:∀ {v:Value} {d:V} {os:List (Option Value)} {ds:List V},Is M v d→IsSl M os ds→(∀ v',Rp a vs d v'→Is M v v')→(∀ es,RpAll a vs ds es→IsSl M os es)→∀ es,RpAll a vs (d::ds) es→IsSl M (some v::os) es:=fun _ _ p q es r=>by cases r with | cons r rs=>exact .set (p _ r) (q _ rs)
 exact ⟨fun i=>Is.rec (motive_1:=fun x v _=>∀ v',Rp a vs v v'→Is M x v') (motive_2:=fun ys ds _=>∀ es,RpAll a vs ds es→IsAll M ys es) (motive_3:=fun ys ds _=>∀ es,RpAll a vs ds es→IsSl M ys es) h1 h2 h3 h4 h5 h6 h7 h8 h9 h9b h9c h10 h11 h12 h13 h14 i,
  fun i=>IsAll.rec (motive_1:=fun x v _=>∀ v',Rp a vs v v'→Is M x v') (motive_2:=fun ys ds _=>∀ es,RpAll a vs ds es→IsAll M ys es) (motive_3:=fun ys ds _=>∀ es,RpAll a vs ds es→IsSl M ys es) h1 h2 h3 h4 h5 h6 h7 h8 h9 h9b h9c h10 h11 h12 h13 h14 i⟩
theorem Is.rp (hm:M a (listOf xs.toArray n)) (ha:IsAll M xs vs) {x:Value} {v v':V} (r:Rp a vs v v') (i:Is M x v):Is M x v':=(Is.rps hm ha).1 i _ r
theorem IsAll.rp (hm:M a (listOf xs.toArray n)) (ha:IsAll M xs vs) {ys:List Value} {ds es:List V} (r:RpAll a vs ds es) (i:IsAll M ys ds):IsAll M ys es:=(Is.rps hm ha).2 i _ r
theorem OIs.rp (hm:M a (listOf xs.toArray n)) (ha:IsAll M xs vs) {o:Obj} {x y:MO} (r:RpM a vs x y) (i:OIs M o x):OIs M o y:=by
 induction r with
 | refl=>exact i
 | lst r=>cases i with | lst i=>exact .lst (IsAll.rp hm ha r i)
theorem HR.rp (hm:M a (listOf xs.toArray n)) (ha:IsAll M xs vs) {led:Led} {H H':AH} (r:RpH a vs H H') (h:HR M led H):HR M led H':=by
 induction r generalizing led with
 | nil=>cases h; exact .nil
 | cons r _ ih=>cases h with | cons i is=>exact .cons (OIs.rp hm ha r i) (ih is)
end
inductive Del (p:Addr × MO):AH→AH→Prop
 | here {r:AH}:Del p (p::r) r
 | there {q:Addr × MO} {r r':AH}:Del p r r'→Del p (q::r) (q::r')
theorem HR.del {M:Mem} {a:Addr} {x:MO} {led:Led} {H H':AH} (h:HR M led H) (u:Del (a,x) H H'):∃ pre o post,led=pre++(a,o)::post∧OIs M o x∧HR M (pre++post) H':=by
 induction u generalizing led with
 | here=>obtain ⟨o,r,e,h,t⟩:=h.consE; exact ⟨[],o,r,e,h,t⟩
 | there _ ih =>
  refine ob_EEAA h.consE fun o r e h t=>?_
  refine ob_EEEAA (ih t) fun pre o' post e' h1 h2=>?_
  exact ⟨_::pre,o',post,by rw [e,e']; rfl,h1,.cons h h2⟩
section
variable {g:Gx} {Γ:Fx} {d:Nat} {lo lo':Loc} {H H₁ H₂:AH} {c:Cx}
theorem HI.freezeAt {mf m:Str→Option Value} {cl fz pre post:Led} {a:Addr} {o:Obj} {h:Heap} (I:HI g c lo H mf m cl fz (pre++(a,o)::post) h) (hr:HR (Cx.mem g fz) (pre++post) H₁):HI g c lo H₁ mf m cl ((a,o)::fz) (pre++post) h:=by
 have pm:(cl++((pre++(a,o)::post)++(c.pins++fz))).Perm (cl++((pre++post)++(c.pins++((a,o)::fz)))):=by
  refine List.Perm.append_left cl ?_
  have e1:(pre++(a,o)::post)++(c.pins++fz)=pre++(a,o)::(post++(c.pins++fz)):=by simp
  have e2:(pre++post)++(c.pins++((a,o)::fz))=(pre++(post++c.pins))++(a,o)::fz:=by simp
  rw [e1,e2]
  refine List.perm_middle.trans (List.Perm.trans ?_ List.perm_middle.symm)
  simp
 exact ⟨I.fr,I.clr,fun p hp=>I.news p (pm.mem_iff.mpr hp),(pm.map _).nodup_iff.mp I.nd,I.lok,I.loc.mono (mem_mono fun _ hp=>.tail _ hp),hr.mono (mem_mono fun _ hp=>.tail _ hp)⟩
theorem RpL.keys {a:Addr} {vs:List V} {lo lo':Loc} (h:RpL a vs lo lo'):lo'.map (·.1)=lo.map (·.1):=by
 induction h with
 | nil=>rfl
 | cons _ _ ih=>rw [List.map_cons,List.map_cons,ih]
theorem RpL.back {a:Addr} {vs:List V} {lo lo':Loc} (h:RpL a vs lo lo'):∀ p∈lo',∃ v,(p.1,v)∈lo∧Rp a vs v p.2:=by
 induction h with
 | nil=>intro p hp; cases hp
 | cons h _ ih =>
  intro p hp
  cases hp with
  | head=>exact ⟨_,.head _,h⟩
  | tail _ hp=>exact (ih p hp).elim fun v q=>⟨v,.tail _ q.1,q.2⟩
theorem Inv.freezeAt {mf m:Str→Option Value} {cl fz led:Led} {s:Shared} {a:Addr} {vs:List V} (I:Inv g c lo H mf m cl fz led s) (hd:Del (a,.lst vs) H H₁) (hl:RpL a vs lo lo') (hh:RpH a vs H₁ H₂) :
  ∃ o led',Inv g c lo' H₂ mf m cl ((a,o)::fz) led' s:=by
 refine ob_EEEAA (I.hi.hr.del hd) fun pre o post ez3 ho hr=>?_
 subst ez3
 have J:=I.hi.freezeAt hr
 refine ob_EEA ho.lstE fun xs n eo ha=>?_
 subst eo
 refine ⟨_,_,⟨⟨J.fr,J.clr,J.news,J.nd,J.lok.of_keys hl.keys,?_,?_⟩,I.gens,I.os,I.tk⟩⟩
 ·intro p hp
  refine x12 (hl.back p hp) fun v h1 h2=>?_
  rcases J.loc _ h1 with e | ⟨x,e,i⟩
  ·have e:v=.unset:=e
   subst e
   generalize p.2=u at h2
   cases h2
   exact .inl rfl
  ·exact .inr ⟨x,e,Is.rp (M:=Cx.mem g ((a,listOf xs.toArray n)::fz)) (.inl (.head _)) (ha.mono (mem_mono fun _ hp=>.tail _ hp)) h2 i⟩
 ·exact HR.rp (M:=Cx.mem g ((a,listOf xs.toArray n)::fz)) (.inl (.head _)) (ha.mono (mem_mono fun _ hp=>.tail _ hp)) hh J.hr
theorem Ss.freeze {a:Addr} {vs:List V} {st:List Stmt} {Q:R→Loc→AH→Prop} (hd:Del (a,.lst vs) H H₁) (hl:RpL a vs lo lo') (hh:RpH a vs H₁ H₂) (h:Ss g Γ d st lo' H₂ Q):Ss g Γ d st lo H Q:=by
 intro c ok fz mf m cl fz₁ led s hs I
 refine x21 (I.freezeAt hd hl hh) fun o led' J=>?_
 exact (h c ok fz).use (fun p hp=>.tail _ (hs p hp)) J fun I' hs' q=>.mk _ _ _ _ _ _ _ I' (fun p hp=>hs' p (.tail _ hp)) q
end
section
variable {g:Gx} {Γ:Fx} {d:Nat} {lo:Loc} {H:AH}
theorem E.addL {l r:Expr} {pos:Pos} {Q:V→AH→Prop} (h:E g Γ d l lo H fun a H₁=>∃ xs,a=.lst xs∧E g Γ d r lo H₁ fun b H₂=>∃ ys,b=.lst ys∧xs.length+ys.length≤1000000∧Q (.lst (xs++ys)) H₂):E g Γ d (.BinOp l .Add r pos) lo H Q:=by
 intro c ok fz
 rw [eval_BinOp]
 refine W.bindV ((h c ok fz)) fun fz₁ x a H₁ s₁ ia r_=>?_
 refine x12 (r_) fun xs ea ha=>?_
 subst ea
 refine W.bindV (W.holding ((ha c ok fz₁))) fun fz₂ y b H₂ s₂ ib r_=>?_
 refine ob_EAA r_ fun ys eb hl q=>?_
 try clear r_
 subst eb
 refine W.at_ (W.operate ?_)
 intro mf m cl fz₃ led s hs I
 have ia:=(ia.mono (mem_mono s₂)).mono (mem_mono hs)
 have ib:=ib.mono (mem_mono hs)
 refine ob_EEEAA ia.lstE fun _ _ _ e hm ha=>?_
 subst e
 refine ob_EEEAA ib.lstE fun _ _ _ e hm' ha'=>?_
 subst e
 exact add_lists I.hi.fr I.hi.news ⟨_,I.hi.there ok.stays hm,rfl,_,rfl⟩ ⟨_,I.hi.there ok.stays hm',rfl,_,rfl⟩ (fun h' F' N'=>.mk lo H₂ mf m cl _ led (I.to (h':=h') s.toks (Qd _) (I.hi.addFz F' N' fun p hp=>Nat.ne_of_lt (I.hi.fresh_lt p hp))) (fun p hp=>.tail _ hp) ⟨rfl,_,.lst (n:=0) (.inl (.head _)) ((ha.append ha').mono (mem_mono fun p hp=>.tail _ hp)),q⟩) (by
  rw [ha.length,ha'.length]; exact small_line hl)
end
theorem post_true {cw:ClaimW} {cl:Str→Option Addr} {mean:ExcName→Option Value} {args:List WData} {s₁ s':Shared} {tabs:List (Addr × Addr)} (hT:TabsAt tabs s₁.heap) (hr:∀ cls,cw.raises args cls=false) (hp:cw.post args (.bool true) args=true)
  (k:∀ b o,(ghostOf s₁.heap tabs).get? b=some o→s'.heap.get? b=some o) (hgr:GrownAll tabs s'.heap) (hos:s'.os=s₁.os) (hg:AllBare s'.gens):GoodWG cw cl mean args s₁ (.ok (.ret (.bool true))) s':=by
 have keep:∀ b o,b ∉ tabs.map (·.2)→s₁.heap.get? b=some o→s'.heap.get? b=some o:=fun b o hb e=>k b o (ghost_ne e hb)
 have grown:∀ b o,b∈tabs.map (·.2)→s₁.heap.get? b=some o→isCodeTable s₁.heap b∧o=tabObj #[]∧∃ ps,s'.heap.get? b=some (tabObj ps):=fun b o hb e=>by
  refine x12 (List.mem_map.mp hb) fun q hq zz2=>?_
  subst zz2
  have e2:=(hT q hq).2
  rw [e] at e2
  exact ⟨((hT q hq).1.tab (hT q hq).2).isCodeTable,Option.some.inj e2,hgr.get q hq⟩
 refine ⟨.inl ⟨_,.bool true,[],rfl,hr,.bool true,hp,fun _=>⟨List.nodup_nil,fun a ha=>nomatch ha⟩⟩,⟨fun b o e=>?_,fun b o e=>?_⟩,hos,hg⟩
 ·by_cases hb:b∈tabs.map (·.2)
  ·refine ob_AAE (grown b o hb e) fun ht ez1 ps hP=>?_
   subst ez1
   exact .inr (.inl ⟨ht,rfl,#[],ps,rfl,by rw [Array.empty_append]; exact hP⟩)
  ·exact .inl (keep b o hb e)
 ·by_cases hb:b∈tabs.map (·.2)
  ·refine ob_AAE (grown b o hb e) fun _ _ ps hP=>?_
   exact ⟨_,hP⟩
  ·exact ⟨o,keep b o hb e⟩
noncomputable abbrev mkG (prog:Program) (w:World) (K:Frag) (loose:List Str) (mean:ExcName→Option Value) (mg mb:Str→Option Value) (B:Heap):Gx:={ prog:=prog,w:=w,K:=K,p:=topProg,loose:=loose,mean:=mean,mg:=mg,mb:=mb,B:=B }
noncomputable def tabH (tabs:List (Addr × Addr)):AH:=tabs.map fun q=>(q.2,.tab Option.none)
noncomputable def TabsIn (tabs:List (Addr × Addr)) (H:AH):Prop:=∀ q∈tabs,∃ p,(q.2,.tab p)∈H
theorem grownAll_of {h:Heap}:∀ {tabs:List (Addr × Addr)},(∀ q∈tabs,GrownAt q.2 h)→GrownAll tabs h
 | [],_=>trivial
 | _::_,k=>⟨k _ (.head _),grownAll_of fun q hq=>k q (.tail _ hq)⟩
theorem tabHR {M:Mem}:∀ tabs:List (Addr × Addr),HR M (tabNews tabs) (tabH tabs)
 | []=>.nil
 | q::r=>.cons .tab0 (tabHR r)
theorem law_in {prog:Program} {w:World} {K:Frag} {p:Program} {loose:List Str} {mean:ExcName→Option Value} {mg mb:Str→Option Value} {s₁ s:Shared} {tabs:List (Addr × Addr)} {L fa:Addr} {m:Str→Option Value} {nm:Str} {cd:Value} {body:List Stmt} {Γ:Fx} {lo:Loc} {d:Nat}
  {Q:Flow→Shared→Prop} {E':Value→Shared→Prop} (hT:TabsAt tabs s₁.heap) (X:K.In s₁.heap) (hK:noTabs K=true) (T:Top p loose mean mg mb s₁.heap) (hg:s₁.gens=#[]) (hgs:s.gens=s₁.gens) (hos:s.os=s₁.os) (htk:1≤s.toks)
  (F:Fr s₁.heap L s.heap m) (hnd:(tabs.map (·.2)).Nodup) (hkind:Γ.scope.kind=.function) (hcode:Γ.code=.none) (hcells:Γ.cells=[]) (hd:d≤60)
  (hglobs:∀ p∈Γ.globs,Γ.scope.names.lookup p.1=some .globalImplicit∧(p.1==("__debug__":Str))=false∧(mg p.1=some p.2∨(mg p.1=none∧mb p.1=some p.2)))
  (lok:LocOk Γ.scope lo) (loc:∀ p∈lo,p.2=.unset∨∃ v,m p.1=some v∧∀ M,Is M v p.2)
  (hb:∀ g:Gx,g=mkG prog w K (loose++(recsOf p).map (·.name)++(litsOf p).map (·.1)++(clssOf p loose).map (·.name)) mean mg mb (ghostOf s₁.heap tabs)→g.Ok→CodeAll tabs g.B →
   Ss g Γ d body lo (tabH tabs) (fun r _ H'=>r=.ret (.bool true)∧TabsIn tabs H'))
  (hQ:∀ s',(∀ b o,(ghostOf s₁.heap tabs).get? b=some o→s'.heap.get? b=some o)→GrownAll tabs s'.heap→s'.os=s₁.os→AllBare s'.gens→Q (.ret (.bool true)) s') :
  wpAny (model prog w) (callerA.deeper (envOf nm Γ.scope L fa cd)) (execs body (envOf nm Γ.scope L fa cd)) Q E' s:=by
 have gok:(mkG prog w K (loose++(recsOf p).map (·.name)++(litsOf p).map (·.1)++(clssOf p loose).map (·.name)) mean mg mb (ghostOf s₁.heap tabs)).Ok:=⟨ghost_K hT X hK,ghost_top hT T⟩
 have F':=ghost_fr hT F
 have N':=ghost_news hT F (News.nil:News s₁.heap L s.heap [])
 let c:Cx:={ A:=callerA.deeper (envOf nm Γ.scope L fa cd),A₀:=callerA,base:=ghostOf s₁.heap tabs,h₀:=ghostOf s₁.heap tabs,outer:=[],fenv:=envOf nm Γ.scope L fa cd,env:=envOf nm Γ.scope L fa cd,L:=L,pins:=[],os:=s.os }
 have ok:c.Ok (mkG prog w K (loose++(recsOf p).map (·.name)++(litsOf p).map (·.1)++(clssOf p loose).map (·.name)) mean mg mb (ghostOf s₁.heap tabs)) Γ d:=by
  refine ⟨gok,ghost_below hT,rfl,rfl,rfl,hkind,fun _ _ e=>e,rfl,hkind,rfl,rfl,?_,?_,hglobs,.inl hcode,.inl hcells⟩
  ·show callerA.depth+1+d+8≤recursionLimit
   have:callerA.depth+1+60+8≤recursionLimit:=by decide +kernel
   exact ar3 (.im (.le (.a (.a (.a .v0 .n1) (.n 60)) (.n 8)) .v2) (.im (.le .v1 (.n 60)) (.le (.a (.a (.a .v0 .n1) .v1) (.n 8)) .v2))) rfl this hd
  ·show (callerA.deeper (envOf nm Γ.scope L fa cd)).units+10 * d+200≤cLine
   have:callerA.units+3+10 * 60+200≤cLine:=by decide +kernel
   have e:(callerA.deeper (envOf nm Γ.scope L fa cd)).units=callerA.units+3:=rfl
   exact ar4 (.im (.le (.a (.a (.a .v3 (.n 3)) (.m 10 (.n 60))) (.n 200)) .v2) (.im (.eq .v0 (.a .v3 (.n 3))) (.im (.le .v1 (.n 60)) (.le (.a (.a .v0 (.m 10 .v1)) (.n 200)) .v2)))) rfl this e hd
 have I:Inv (mkG prog w K (loose++(recsOf p).map (·.name)++(litsOf p).map (·.1)++(clssOf p loose).map (·.name)) mean mg mb (ghostOf s₁.heap tabs)) c lo (tabH tabs) m m [] [] (tabNews tabs) s:=by
  refine ⟨⟨F',.own rfl,fun z hz=>N' z ?_,?_,lok,fun z hz=>?_,tabHR tabs⟩,?_,rfl,htk⟩
  ·simpa [c] using hz
  ·have:([]++(tabNews tabs++([]++[])):Led).map (·.1)=tabs.map (·.2):=by simp [Function.comp_def]
   show (([]++(tabNews tabs++([]++[])):Led).map (·.1)).Nodup
   rw [this]; exact hnd
  ·exact (loc z hz).imp id fun ⟨v,e,i⟩=>⟨v,e,i _⟩
  ·rw [hgs]; exact .of_eq hg
 refine (hb _ rfl gok (ghost_code hT) c ok []).use (fun _ x=>x) I fun {fl s' lo' H' mf' m' cl' fz' led'} I' hs' r_=>?_
 refine ob_EAA r_ fun r hr er hin=>?_
 try clear r_
 subst er
 cases hr with
 | ret i =>
  rw [i.boolE]
  refine hQ s' (fun b o e=>I'.hi.fr.keep _ _ e) (grownAll_of fun q hq=>?_) (I'.os.trans hos) I'.gens
  refine x11 (hin q hq) fun p hp=>?_
  refine x12 (I'.hi.hr.at_ hp) fun o ho io=>?_
  have:=I'.hi.thereLed ho
  cases io with
  | tab0=>exact ⟨_,this⟩
  | tab1=>exact ⟨_,this⟩
theorem HR.perm {M:Mem} {H H':AH} (p:H.Perm H'):∀ {led:Led},HR M led H→∃ led',led.Perm led'∧HR M led' H':=by
 induction p with
 | nil=>intro led h; cases h; exact ⟨[],.refl _,.nil⟩
 | cons x _ ih =>
  intro led h
  cases h with
  | cons h r =>
   refine x12 (ih r) fun l' p' r'=>?_
   exact ⟨_::l',p'.cons _,.cons h r'⟩
 | swap x y l =>
  intro led h
  cases h with
  | cons h r =>
   cases r with
   | cons h' r=>exact ⟨_,List.Perm.swap _ _ _,.cons h' (.cons h r)⟩
 | trans _ _ ih1 ih2 =>
  intro led h
  refine x12 (ih1 h) fun l1 p1 r1=>?_
  refine x12 (ih2 r1) fun l2 p2 r2=>?_
  exact ⟨l2,p1.trans p2,r2⟩
section
variable {g:Gx} {Γ:Fx} {d:Nat} {lo:Loc} {H H':AH} {c:Cx}
theorem Inv.perm {mf m:Str→Option Value} {cl fz led:Led} {s:Shared} (I:Inv g c lo H mf m cl fz led s) (p:H.Perm H'):∃ led',Inv g c lo H' mf m cl fz led' s:=by
 refine x12 (I.hi.hr.perm p) fun led' pl hr=>?_
 have pm:(cl++(led++(c.pins++fz))).Perm (cl++(led'++(c.pins++fz))):=(pl.append_right _).append_left _
 exact ⟨led',⟨⟨I.hi.fr,I.hi.clr,fun q hq=>I.hi.news q (pm.mem_iff.mpr hq),(pm.map _).nodup_iff.mp I.hi.nd,I.hi.lok,I.hi.loc,hr⟩,I.gens,I.os,I.tk⟩⟩
theorem Ss.perm {st:List Stmt} {Q:R→Loc→AH→Prop} (p:H.Perm H') (h:Ss g Γ d st lo H' Q):Ss g Γ d st lo H Q:=by
 intro c ok fz mf m cl fz₁ led s hs I
 refine x11 (I.perm p) fun led' J=>?_
 exact h c ok fz mf m cl fz₁ led' s hs J
end
section
variable {g:Gx} {Γ Γ':Fx} {d:Nat} {lo:Loc} {H:AH} {c:Cx}
end
noncomputable def clsAtN (K:Frag) (C:Addr) (name:Str):Option Value :=
 if plainGet K C name&&isClsIn K C&&!copiedNames.contains name then
  (findIn K (.ref C) name).bind fun r=>r.bind fun a=>if specialIn K a "__get__"==some none&&handedIn a then some a else none
 else none
section
variable {g:Gx} {Γ:Fx} {d:Nat} {lo:Loc} {H:AH} {c:Cx} {fz:Led}
theorem findObj_clsN {K:Frag} {C:Addr} {name:Str} {a:Value} (hh:isClsIn K C=true) (ha:findIn K (.ref C) name=some (some a)) (hn:specialIn K a "__get__"=some none) (hv:handedIn a=true) (hc:copiedNames.contains name=false) :
  findObj K C (some (dictOf [] 0)) name=some (.value a):=by
 refine x11 (Option.isSome_iff_exists.mp hh) fun cd hc'=>?_
 unfold findObj
 have ho:PySem.W.ownOf cd (some (dictOf [] 0)) name=some none:=by
  unfold PySem.W.ownOf
  split
  ·rfl
  ·rfl
 rw [hc',Option.bind_some,ha,Option.bind_some]
 try dsimp only
 rw [hn]
 try dsimp only [Option.bind_some]
 rw [ho]
 try dsimp only [Option.bind_some]
 rw [hc,Bool.false_and,if_neg bn,hv,if_pos rfl]
set_option tactic.hygienic true in
theorem clsAttrN_W (ok:c.Ok g Γ d) {x:Value} {C:Addr} {vs:List V} {name:Str} {expr:Bool} {a:Value} {v:V} {Q:V→AH→Prop} (ix:Is (Cx.mem g fz) x (.obj C vs)) (hs:clsAtN g.K C name=some a) (iv:∀ M,Is M a v) (q:Q v H) :
  W g c fz (getAttr x name expr) lo H (VP g lo Q):=by
 refine W.now fun mf m cl fz₁ led s hs' I P _ k=>?_
 have ix:=ix.mono (mem_mono hs')
 refine ob_EEEAAA ix.objE fun _ _ _ ez hm hd hsl=>?_
 subst ez
 refine x02 (ite_some hs) fun q1 hs=>?_
 refine x12 (Option.bind_eq_some_iff.mp hs) fun r q2 hs=>?_
 refine x12 (Option.bind_eq_some_iff.mp hs) fun b zz1 hs=>?_
 subst zz1
 refine x02 (ite_some hs) fun q3 hs=>?_
 cases hs
 simp only [Bool.and_eq_true,beq_iff_eq,Bool.not_eq_true'] at q1 q3
 have X₀:g.K.In c.h₀:=ok.gok.kin.keeps fun b o e=>ok.stays b o e
 exact get_value (X₀.keeps I.hi.fr.keep) (instAt (M:=Cx.mem g fz₁) (I.hi.there ok.stays hm) (I.hi.there ok.stays hd)) (plainGet_of q1.1.1).1 (findObj_clsN q1.1.2 q2 q3.1 q3.2 q1.2) q3.2 (k _ _ (I.toks _) ⟨rfl,_,iv _,q⟩)
theorem E.attrC {value:Expr} {name:Str} {pos:Pos} {Q:V→AH→Prop} (h:E g Γ d value lo H fun a H₁=>∃ C vs x v,a=.obj C vs∧clsAtN g.K C name=some x∧(∀ M,Is M x v)∧Q v H₁)
  (he:autoParam (∀ env,eval (.Attribute value name pos) env=(do
   let o ← eval value env
   standAt pos.atName
   let r ← holding [o] (getAttr o name true)
   letTemporaryGo value o r
   Pure.pure r)) irfa):E g Γ d (.Attribute value name pos) lo H Q:=by
 intro c ok fz
 rw [he]
 refine W.bindV (h c ok fz) fun fz₁ x a H₁ s₁ ia r_=>?_
 refine ob_EEEEAAA r_ fun C vs y v ea q1 q2 q3=>?_
 try clear r_
 subst ea
 exact W.at_ (W.bindV (W.holding (clsAttrN_W ok ia q1 q2 q3)) fun fz₂ r v H₂ s₂ iv q=>W.letGo ok iv q)
theorem E.attrS {x name:Str} {p pos:Pos} {C:Addr} {vs:List V} {i:Nat} {v:V} {Q:V→AH→Prop} (q:Q v H) (hm:(x,.obj C vs)∈lo) (hs:slotAt g.K C name=some i) (hv:vs[i]?=some v) (hp:v.plain=true)
  (he:autoParam (∀ env,eval (.Attribute (.Name x p) name pos) env=(do
   let o ← eval (.Name x p) env
   standAt pos.atName
   let r ← holding [o] (getAttr o name true)
   letTemporaryGo (.Name x p) o r
   Pure.pure r)) irfa):E g Γ d (.Attribute (.Name x p) name pos) lo H Q :=
 E.attr (E.loc hm (vne rfl) ⟨C,vs,i,v,rfl,hs,hv,hp,q⟩) he
noncomputable abbrev KSet (x C:Addr) (vs vs':List V) (i:Nat) (lo:Loc) (H:AH) (Q:R→Loc→AH→Prop):V→AH→Prop:=fun v H₁=>H₁=(x,.ins C vs)::H∧setSl i v vs=vs'∧Q .next lo ((x,.ins C vs')::H)
theorem S.setattrH {self name:Str} {x C:Addr} {vs vs':List V} {i:Nat} {p pos' pos:Pos} {value:Expr} {Q:R→Loc→AH→Prop} (hi:setAt g.K C name=some i) (h1:i < 1000) (hm:(self,.ref x)∈lo)
  (hs:∀ env,pure false=swapsWith value (some (.Attribute (.Name self p) name pos')) pos.line env) (h:E g Γ d value lo ((x,.ins C vs)::H) (KSet x C vs vs' i lo H Q)):S g Γ d (.Assign [.Attribute (.Name self p) name pos'] value pos) lo ((x,.ins C vs)::H) Q :=
 S.setattr (h.mono fun v H₁ r=>by rw [r.1]; exact E.loc hm (vne rfl) ⟨x,C,vs,i,_,rfl,hi,h1,.here,r.2.1 ▸ r.2.2⟩) fun env=>(hs env).symm
end
section
open PySem.Builtin PySem.Builtin.Str
section
variable {g:Gx} {Γ Γ':Fx} {d:Nat} {lo:Loc} {H:AH} {c:Cx}
end
section
variable {g:Gx} {Γ:Fx} {d:Nat} {lo:Loc} {H:AH}
end
section
variable {g:Gx} {Γ:Fx} {d:Nat} {lo:Loc} {H:AH} {c:Cx} {fz:Led}
end
section
variable {prog:Program} {w:World} {A₀ A:Around} {s:Shared} {base h₀:Heap} {outer:List Env} {L:Addr} {m:Str→Option Value} {env:Env} {news:List (Addr × Obj)} {K:Frag}
 {R:Result→Shared→Prop} {name qual:Str} {params:Arguments} {body:List Stmt} {scope:Scope} {dV kV doc pm cdv ct oc:Value} {an od:Option Addr} {osl:Array (Option Value)} {f:Addr} {args:Args} {binds:List (Str × Value)}
end
noncomputable abbrev Fx.at_ (Γ:Fx) (L:Addr):Fx:={ Γ with cells:=cellsFrom (L+1) Γ.scope.names [] }
set_option genInjectivity false in
structure CompOkC (g:Gx) (Γ Γ':Fx) (sc:Scope) (x:Str):Prop where
 rel:∀ env:Env,env.scope=Γ.scope→env.scope.kind=.function→relabel sc env=Γ'.scope
 clos:∀ env:Env,env.scope=Γ.scope→(Γ.cells=[]∨env.cells=Γ.cells)→closureFor sc env=pure Γ'.cells
 code:Γ'.code=.none
 cell:∀ y∈sc.names,y.2≠.cell
 kind:sc.kind=.function∧Γ'.scope.kind=.function
 names:∀ y∈sc.names,y.2=.local→sc.names.lookup y.1=some .local
 x:Γ'.scope.names.lookup x=some .local∧(x==("__debug__":Str))=false
 globs:∀ p∈Γ'.globs,Γ'.scope.names.lookup p.1=some .globalImplicit∧(p.1==("__debug__":Str))=false ∧
  (g.mg p.1=some p.2∨(g.mg p.1=none∧g.mb p.1=some p.2))
section
variable {g:Gx} {Γ Γ':Fx} {d:Nat} {lo:Loc} {H:AH} {c:Cx}
theorem inComp_okC (ok:c.Ok g Γ d) {sc:Scope} {x:Str} (O:CompOkC g Γ Γ' sc x) {cl:Led} {mf:Str→Option Value} {L b₀:Addr} {qual:Str} :
  (inComp c cl mf { newEnv sc L c.env.globals Γ'.cells qual Option.none .none (some c.env) b₀ with scope:=Γ'.scope }).Ok g Γ' d :=
 { gok:=ok.gok,below:=ok.below,frames:=ok.frames,handled:=ok.handled,fframe:=ok.fframe,fkind:=ok.fkind,bot:=ok.bot,scope:=rfl,kind:=O.kind.2,globals:=ok.globals,builtins:=ok.builtins,room:=ok.room,units:=ok.units,globs:=O.globs,code:=.inl O.code,cells:=.inr rfl }
noncomputable abbrev LoopK (g:Gx) (Γ':Fx) (d:Nat) (elt iter:Expr) (ifs:List Expr) (sc:Scope) (x:Str) (px pos:Pos) (vs out:List V) (H:AH):Prop :=
 ∀ {c:Cx} {env':Env} {cl fz led cl₀:Led} {mf mm:Str→Option Value} {a acc:Addr} {o:Obj} {s:Shared},(inComp c cl₀ mf env').Ok g Γ' d→Inv g ((inComp c cl₀ mf env').pin (a,o)) [(x,.unset)] ((acc,.lst [])::H) mf mm cl fz led s→ItR (Cx.mem g fz) s.heap a vs →
  codeAny (model g.prog g.w) c.A (.compStart (.ListComp elt [⟨.Name x px,iter,ifs,0⟩] sc pos) 0 (.ref a) (.ref acc) env') (CE g (inComp c cl₀ mf env') acc H out fz) s
theorem E.compG {sc:Scope} {elt iter:Expr} {ifs:List Expr} {x:Str} {px pos:Pos} {Q:V→AH→Prop} (O:CompOkC g Γ Γ' sc x)
  (h:E g Γ d iter lo H fun v H₁=>∃ vs out,items v=some vs∧LoopK g Γ' d elt iter ifs sc x px pos vs out H₁∧Q (.lst out) H₁)
  (hs:autoParam (∀ env x,foldedSetIterable iter env x=pure x) irfa):E g Γ d (.ListComp elt [⟨.Name x px,iter,ifs,0⟩] sc pos) lo H Q:=by
 intro c ok fz mf m cl fz₁ led s hs' I
 rw [eval_ListComp]
 refine wpAny_comprehension_free rfl (hs _) (O.clos c.env ok.scope ok.cells) O.kind.1 O.names ((h c ok fz).useV hs' I fun {cv s₁ H₁ mf₁ m₁ cl₁ fz₂ led₁ v} I₁ hs₁ iv r_=>?_)
 refine ob_EEAA r_ fun vs f ei loop fin=>?_
 try clear r_
 refine iter_start ok I₁ iv ei fun a o s₂ I₂ r₂=>?_
 refine wpAny_newList ?_
 have J₃:HI g (c.pin (a,o)) lo ((s₂.heap.objs.size,.lst [])::H₁) mf₁ m₁ cl₁ fz₂ ((s₂.heap.objs.size,listOf #[] 0)::led₁) (s₂.heap.push (listOf #[] 0)):=I₂.hi.newLed (.lst (vs:=[]) .nil)
 have r₃:ItR (Cx.mem g fz₂) (s₂.heap.push (listOf #[] 0)) a vs:=r₂.keeps fun o e=>Heap.get?_push_of_some _ e
 generalize s₂.heap.objs.size=acc at *
 refine wpAny_newFunctionEnv O.cell nmm (fun h' hn hsb=>?_) O.kind.1
 have hLt:c.L < (s₂.heap.push (listOf #[] 0)).objs.size:=J₃.fr.ns.lt
 rw [show (List.reverse ([]:List (Str × Value)))=[] from rfl] at hn
 generalize hD:(s₂.heap.push (listOf #[] 0)).objs.size=D at *
 rw [O.rel c.env ok.scope ok.kind]
 have ok':=inComp_okC ok O (cl:=cl₁) (mf:=mf₁) (L:=D) (qual:=c.env.qual) (b₀:=builtinsNs)
 obtain ⟨oD,J₄⟩:=J₃.enterComp O.x (env':={ newEnv sc D c.env.globals Γ'.cells c.env.qual Option.none .none (some c.env) builtinsNs with scope:=Γ'.scope }) ⟨rfl,hD.symm⟩ rfl (by rw [hD]; exact hn) (by rw [hD]; exact hsb)
 have r₄:ItR (Cx.mem g fz₂) h' a vs:=r₃.keeps fun o e=>by
  have hlt:=Heap.lt_size e
  rw [hD] at hlt
  exact (hsb.2 a (Nat.ne_of_lt hlt)).trans (Heap.get?_push_of_some _ e)
 have hDL:D≠c.L:=Nat.ne_of_gt hLt
 refine codeAny_mono (loop ok' (s:={ heap:=h',gens:=s₂.gens,drawn:=s₂.drawn,toks:=s₂.toks+0,os:=s₂.os }) ⟨J₄,I₂.gens,I₂.os,I₂.tk⟩ r₄) fun r s' w=>?_
 cases w with | @mk lx mf' mm' cl' fz' led' er I₅ hz =>
 subst er
 refine ⟨mm',I₅.hi.ns,fun h'' hs''=>?_⟩
 have J₆:=I₅.hi.leaveComp I₁.hi.lok (I₁.hi.loc.mono (mem_mono hz)) I₁.hi.clr hDL hs''
 refine ob_EEAA J₆.hr.consE fun oo led₀ el ho hr=>?_
 subst el
 have J₇:=J₆.freeze
 refine ob_EEA ho.lstE fun xs n eo ha=>?_
 subst eo
 exact .mk lo H₁ mf₁ m₁ cl₁ _ led₀ ⟨J₇,I₅.gens,I₅.os,I₅.tk⟩ (fun p hp=>.tail _ (hz p (hs₁ p hp))) ⟨rfl,_,.lst (.inl (.head _)) (ha.mono (mem_mono fun _ hp=>.tail _ hp)),fin⟩
theorem E.compC {sc:Scope} {elt iter:Expr} {x:Str} {px pos:Pos} {Q:V→AH→Prop} (O:CompOkC g Γ Γ' sc x)
  (h:E g Γ d iter lo H fun v H₁=>∃ vs f,items v=some vs∧vs.length≤1000000∧(∀ u∈vs,∀ H',(∀ p∈H₁,p∈H')→E g Γ' d elt [(x,u)] H' fun r H''=>H''=H'∧r=f u)∧Q (.lst (vs.map f)) H₁)
  (hs:autoParam (∀ env x,foldedSetIterable iter env x=pure x) irfa):E g Γ d (.ListComp elt [⟨.Name x px,iter,[],0⟩] sc pos) lo H Q :=
 E.compG O (h.mono fun v H₁ r=>ob_EEAAA r fun vs f ei hlen step fin=>⟨vs,vs.map f,ei,fun ok' I r=>comp_loop ok' I r hlen step,fin⟩) hs
end
noncomputable def closGo (cells:List (Str × Addr)):List (Str × NameKind)→List (Str × Addr)→Option (List (Str × Addr))
 | [],acc=>some acc
 | (n,k)::r,acc=>if k==.free then (cells.lookup n).bind (fun a=>closGo cells r ((n,a)::acc)) else closGo cells r acc
theorem clos_for {env:Env} {cells:List (Str × Addr)} (hc:env.cells=cells) {f:Str × NameKind→List (Str × Addr)→Sem (ForInStep (List (Str × Addr)))} (hf:∀ n k acc,f (n,k) acc=if k==.free then (do let a ← cellOf env n; pure (.yield ((n,a)::acc))) else pure (.yield acc)):∀ (names:List (Str × NameKind)) (acc cs:List (Str × Addr)),closGo cells names acc=some cs→forIn names acc f=pure cs
 | [],acc,cs,h=>by cases h; rfl
 | (n,k)::r,acc,cs,h=>by
  replace h:(if (k==.free)=true then (cells.lookup n).bind (fun a=>closGo cells r ((n,a)::acc)) else closGo cells r acc)=some cs:=h
  rw [List.forIn_cons,hf]
  cases hk:(k==.free) with
  | false =>
   rw [hk] at h
   exact clos_for hc hf r acc cs h
  | true =>
   rw [hk] at h
   simp only [if_true] at h ⊢
   unfold cellOf
   rw [hc]
   cases hl:cells.lookup n with
   | none=>rw [hl] at h; cases h
   | some a=>rw [hl] at h; exact clos_for hc hf r _ cs h
theorem clos_of {sc:Scope} {env:Env} {cells cs:List (Str × Addr)} (hc:env.cells=cells) (h:closGo cells sc.names []=some cs):closureFor sc env=pure cs:=by
 unfold closureFor
 dsimp only
 rw [clos_for hc (fun n k acc=>rfl) sc.names [] cs h]
 rfl
theorem clos_nil {cells:List (Str × Addr)}:∀ {names:List (Str × NameKind)},(∀ y∈names,y.2≠.free∧y.2≠.cell)→closGo cells names []=some []:=fun {names} h=>by
 induction names with
 | nil=>rfl
 | cons q r ih =>
  obtain ⟨n,k⟩:=q
  refine Eq.trans (if_neg (by simpa using (h _ (.head _)).1)) ?_
  exact ih fun y hy=>h y (.tail _ hy)
theorem CompOk.toC {g:Gx} {Γ Γ':Fx} {x:Str} (O:CompOk g Γ' x):CompOkC g Γ Γ' Γ'.scope x:=by
 refine ⟨fun env _ _=>?_,fun env _ _=>?_,O.code,fun y hy=>(O.free y hy).2,⟨O.kind,O.kind⟩,O.names,O.x,O.globs⟩
 ·unfold relabel
  rw [show Γ'.scope.names.map (fun (n,k)=>if (k==.free&&env.scope.kind==.function&&env.kindOf n==some .cell) then (n,NameKind.cell) else (n,k))=Γ'.scope.names from (List.map_congr_left fun y hy=>by
   show (if (y.2==.free&&_&&_) then _ else y)=id y
   rw [show (y.2==NameKind.free)=false from Qk (O.free y hy).1]
   rfl).trans (List.map_id _)]
 ·rw [clos_of rfl (clos_nil O.free),O.cells]
theorem E.comp {g:Gx} {Γ Γ':Fx} {d:Nat} {lo:Loc} {H:AH} {elt iter:Expr} {x:Str} {px pos:Pos} {Q:V→AH→Prop} (O:CompOk g Γ' x)
  (h:E g Γ d iter lo H fun v H₁=>∃ vs f,items v=some vs∧vs.length≤1000000∧(∀ u∈vs,∀ H',E g Γ' d elt [(x,u)] H' fun r H''=>H''=H'∧r=f u)∧Q (.lst (vs.map f)) H₁)
  (hs:autoParam (∀ env x,foldedSetIterable iter env x=pure x) irfa):E g Γ d (.ListComp elt [⟨.Name x px,iter,[],0⟩] Γ'.scope pos) lo H Q :=
 E.compC O.toC (h.mono fun v H₁ r=>r.elim fun vs r=>r.elim fun f r=>⟨vs,f,r.1,r.2.1,fun u hu H' _=>r.2.2.1 u hu H',r.2.2.2⟩) hs
section
variable {g:Gx} {Γ:Fx} {d:Nat} {lo:Loc} {H:AH}
theorem CB.range {n:Int} {Q:V→AH→Prop} (h:Q (.rng 0 n 1) H):CallB g d (.type "range") [.int n] H Q:=by
 intro Γ c ok fz lo xs is mf m cl fz₁ led s hs I
 refine x12 (is.one) fun _ e i=>?_
 refine i.intE.elim fun t e1=>?_
 subst e; subst e1
 refine call_range_1 ?_
 exact .mk lo H mf m cl ((s.heap.objs.size,rngOf 0 n 1 s.toks t (s.toks+1))::fz₁) led ⟨I.hi.newFz _,I.gens,I.os,Nat.le_succ_of_le (Nat.le_succ_of_le I.tk)⟩ (fun _ hp=>.tail _ hp) ⟨rfl,_,.rng (.inl (.head _)),h⟩
theorem rngV_map:∀ (n:Nat) (x:Int),rngV x 1 n=(List.range' 0 n).map fun i=>V.int (x+(i:Nat))
 | 0,x=>rfl
 | n+1,x=>by
  show V.int x::rngV (x+1) 1 n=_
  rw [rngV_map n (x+1),List.range'_succ,List.map_cons,List.range'_eq_map_range,List.range'_eq_map_range,List.map_map,List.map_map]
  congr 1
  ·simp
  ·refine List.map_congr_left fun i _=>?_
   show V.int (x+1+((0+i:Nat):Int))=V.int (x+((0+1+i:Nat):Int))
   congr 1; omega
theorem items_range {n:Nat} (h:n≤1000):items (.rng 0 n 1)=some ((List.range' 0 n).map fun i=>V.int (i:Nat)):=by
 have e1:Builtin.Range.rangeSize 0 (n:Int) 1=n:=by unfold Builtin.Range.rangeSize; simp; exact ar1 (.im (.eq .v0 .n0) (.ieq .n0 .v0)) rfl
 have e2:Builtin.Range.small 0 (n:Int) 1=true:=by
  unfold Builtin.Range.small
  rw [e1]
  unfold Builtin.Range.rangeFitsLong
  simp; exact ar1 (.im (.le .v0 (.n 1000)) (.an (.ilt .v0 (.n 9223372036854775808)) (.or (.eq .v0 .n0) (.ilt .v0 (.n 9223372036854775808))))) rfl h
 show (if Builtin.Range.small 0 (n:Int) 1=true then some (rngV 0 1 (Builtin.Range.rangeSize 0 (n:Int) 1).toNat) else none)=_
 rw [if_pos e2,e1,Int.toNat_natCast,rngV_map]
 simp
theorem bot_list {c:Cx} (ok:c.Ok g Γ d) {l:Addr} {xs:Array Value} (hB:g.B.IsList l xs) {mf m:Str→Option Value} {cl fz led:Led} {s:Shared} (I:Inv g c lo H mf m cl fz led s):s.heap.IsList l xs:=by
 obtain ⟨o,e,r⟩:=hB
 exact ⟨o,I.hi.fr.keep _ _ (ok.stays _ _ e),r⟩
theorem E.idxG {value slice:Expr} {pos:Pos} {l:Addr} {xs:List Value} {ns:List V} {Q:V→AH→Prop} (hB:g.B.IsList l xs.toArray) (hi:∀ M,IsAll M xs ns) (hz:xs.length≤1000000)
  (h:E g Γ d value lo H fun a H₁=>a=.glo (.ref l)∧E g Γ d slice lo H₁ fun b H₂=>∃ (j:Nat) (v:V),b=.int j∧ns[j]?=some v∧Q v H₂)
  (hs:autoParam (∀ o i,subscripted slice false o i=operate [o,i] (getItem o i)) irfa):E g Γ d (.Subscript value slice pos) lo H Q:=by
 intro c ok fz
 refine W.cast (t:=do let o ← eval value c.env; let i ← holding [o] (eval slice c.env); standAt pos; subscriptTail value slice o i) ?_ rfl
 refine W.bindV ((h c ok fz)) fun fz₁ x a H₁ s₁ ia r_=>?_
 refine x02 (r_) fun ea ha=>?_
 subst ea
 have ez:=ia.gloE
 subst ez
 refine W.bindV (W.holding (ha c ok fz₁)) fun fz₂ y b H₂ s₂ ib r_=>?_
 refine x23 (r_) fun j v eb hj q=>?_
 subst eb
 refine ib.intE.elim fun t e2=>?_
 subst e2
 refine W.at_ (W.now fun mf m cl fz₁ led s hs' I P _ k=>?_)
 have hL:=bot_list ok hB I
 refine x12 ((hi (Cx.mem g fz₁)).get hj) fun z hzz iz=>?_
 have hjl:j < xs.length:=(List.getElem?_eq_some_iff.mp hzz).1
 exact tail_any hL.typeIs PySem.F.slot_list_getitem.lookup (wpAny_getItem_list (x:=z) hL (Int.natCast_nonneg j) (by exact R22 hjl hz) (by rw [List.getElem?_toArray]; exact hzz) (k _ _ I.z ⟨rfl,_,iz,q⟩)) (hs _ _)
theorem ints_are {M:Mem}:∀ {ns:List Int} {vs:List Value},IsAll M vs (ns.map V.int)→IntsAre vs ns
 | [],_,i=>by rw [i.nilE]; exact .nil
 | n::ns,_,i=>by
  refine x23 (IsAll.consE i) fun v r e h t=>?_
  refine x11 (h.intE) fun u e2=>?_
  rw [e,e2]; exact .cons n u (ints_are t)
end
end
section
open PySem PySem.W PySem.Calls PyProof.Rows PyProof.Rows.KTD
set_option genSizeOf false
set_option genInjectivity false
noncomputable abbrev Prg:Program:=PySem.Challenge.pw_te0061_01
noncomputable def stV:Stmt→Expr × List Stmt × List Stmt × Scope
 | .FunctionDef _ _ b _ _ _ s _ _ _=>(default,b,[],s)
 | .ClassDef _ _ _ b _ _ _ _ _ _ _=>(default,b,[],default)
 | .Assign _ e _=>(e,[],[],default)
 | .Return e _=>(e.getD default,[],[],default)
 | .For _ _ b _ _=>(default,b,[],default)
 | .While t b _ _=>(t,b,[],default)
 | .If t b o _=>(t,b,o,default)
 | _=>(default,[],[],default)
noncomputable def conS:Const→Str
 | .str x=>x
 | _=>default
noncomputable def exV:Expr→List Expr × Scope × Str × Option Pos × Nat
 | .Call _ es _ _=>(es,default,default,none,0)
 | .GeneratorExp e _ sc p=>([e],sc,default,some p,0)
 | .ListComp e _ sc p=>([e],sc,default,some p,0)
 | .List es _=>(es,default,default,none,0)
 | .BinOp l _ _ _=>([l],default,default,none,0)
 | .Name x _=>([],default,x,none,1)
 | .Starred _ _=>([],default,default,none,2)
 | .Constant c _ _=>([],default,conS c,none,0)
 | _=>([],default,default,none,0)
noncomputable def hdS (l:List Stmt):Stmt:=l.headD (.Pass default)
noncomputable def exN:Nat→Expr→Expr
 | 0,e=>e
 | n+1,e=>exN n ((exV e).1.headD default)
noncomputable def bodyOf (s:Option Stmt):List Stmt:=(stV (hdS s.toList)).2.1
noncomputable def ifB (l:List Stmt):List Stmt:=(stV (hdS l)).2.1
noncomputable def elB (l:List Stmt):List Stmt:=(stV (hdS l)).2.2.1
noncomputable def retE (l:List Stmt):Expr:=(stV (hdS l)).1
noncomputable def withB (l:List Stmt):List Stmt:=l.filter fun s=>!(stV s).2.1.isEmpty
noncomputable def bodyAt (i:Nat):List Stmt:=bodyOf (Prg.main.body[i]?)
noncomputable def scopeAt (i:Nat):Scope:=(stV (hdS (Prg.main.body[i]?).toList)).2.2.2
noncomputable def initB (i:Nat):List Stmt:=ifB (withB (bodyAt i))
noncomputable def initSc (i:Nat):Scope:=(stV (hdS (withB (bodyAt i)))).2.2.2
noncomputable def lit (x:String):List Nat:=(Str.ofString x).cps.toList
noncomputable def digTab:List V:=["0","1","2","3","4","5","6","7","8","9"].map fun x=>V.str (lit x)
noncomputable def pieces:List (List Nat):=[[40],[97],[91],[123],[41],[93],[125],[102,40],[117,114,108,40],[117,114,108,40,34],[85,82,76,40,32,39],[34],[39],[92],[10],[13,10],[32],[47,42],[42,47],[92,52,49],[92,48,48,48,48,101,57,32],[92,41],[35],[64],[45],[45,45],[45,45,62],[60,33,45,45],[49],[46,53],[101,51],[69,43],[37],[117,43,49,63],[85,43,97,45],[43],[124],[124,124],[94,61],[42],[126],[233],[119987],[12],[9],[0],[1],[98,41],[117,114,108,40,120,41],[117,114,108,40,32,92,50,57,32],[59],[58],[44],[33],[103,40],[40],[91],[123],[41],[93],[125],[92,10],[13],[122]]
noncomputable def sigTab:List V:=pieces.map V.str
noncomputable def repTab:List (Str × KTD.Dat):=[("\"",.flat (.str "\\\"")),("\\",.flat (.str "\\\\")),("\n",.flat (.str "\\A ")),("\r",.flat (.str "\\D ")),("\x0c",.flat (.str "\\C "))]
noncomputable def globL:List (Str × Value):=("_law_CLOSERS",.ref 685)::("_DIGITS",.ref 606)::("_is_ident_start",.ref 642)::("_consume_ident",.ref 649)::("_consume_unicode_range",.ref 677)::("_consume_url",.ref 670)::("_consume_quoted_string",.ref 656)::("_number_end",.ref 613)::("ascii_lower",.ref 26)::("serialize_url",.ref 41)::("serialize_string_value",.ref 34)::("WhitespaceToken",.ref 163)::("UnicodeRangeToken",.ref 385)::("LiteralToken",.ref 206)::("IdentToken",.ref 235)::("URLToken",.ref 355)::("ParseError",.ref 104)::("FunctionBlock",.ref 600)::("DimensionToken",.ref 479)::("PercentageToken",.ref 447)::("NumberToken",.ref 415)::("AtKeywordToken",.ref 265)::("HashToken",.ref 295)::("CurlyBracketsBlock",.ref 571)::("SquareBracketsBlock",.ref 542)::("ParenthesesBlock",.ref 513)::("StringToken",.ref 325)::("Comment",.ref 134)::("_is_name_start",.ref 635)::("_consume_escape",.ref 663)::("_hex_end",.ref 620)::("_law_PIECES",.ref 678)::("_law_mend",.ref 692)::("_law_inner",.ref 699)::("_law_parts",.ref 706)::("_law_told",.ref 713)::("_law_cuts",.ref 720)::("parse_component_value_list",.ref 628)::("_law_unclosed",.ref 727)::("Node",.ref 74)::("_replacement_string_value",.ref 27)::("_law_find",.ref 734)::[]
noncomputable def bltL:List (Str × Value):=[("ord",.builtin "ord"),("len",.builtin "len"),("int",.type "int"),("chr",.builtin "chr"),("min",.builtin "min"),("range",.type "range"),("sum",.builtin "sum")]
noncomputable def keepL:List Addr:=34::41::26::56::93::104::123::134::152::163::181::206::224::235::254::265::284::295::314::325::344::355::374::385::404::415::436::447::468::479::502::513::531::542::560::571::589::600::613::620::628::635::642::649::656::663::670::677::685::692::699::706::713::720::727::734::[]
noncomputable def clsL:List (Addr × Addr):=[(104,93),(134,123),(163,152),(206,181),(235,224),(265,254),(295,284),(325,314),(355,344),(385,374),(415,404),(447,436),(479,468),(513,502),(542,531),(571,560),(600,589)]
noncomputable def setL:List (Addr × Str × Nat):=(104,"source_line",3)::(104,"source_column",2)::(104,"kind",0)::(104,"message",1)::(134,"source_line",2)::(134,"source_column",1)::(134,"value",0)::(163,"source_line",2)::(163,"source_column",1)::(163,"value",0)::(206,"source_line",2)::(206,"source_column",1)::(206,"value",0)::(235,"source_line",3)::(235,"source_column",2)::(235,"value",1)::(235,"lower_value",0)::(265,"source_line",3)::(265,"source_column",2)::(265,"value",1)::(265,"lower_value",0)::(295,"source_line",3)::(295,"source_column",2)::(295,"value",1)::(295,"is_identifier",0)::(325,"source_line",3)::(325,"source_column",2)::(325,"value",1)::(325,"representation",0)::(355,"source_line",3)::(355,"source_column",2)::(355,"value",1)::(355,"representation",0)::(385,"source_line",3)::(385,"source_column",2)::(385,"start",1)::(385,"end",0)::(415,"source_line",5)::(415,"source_column",4)::(415,"value",3)::(415,"int_value",0)::(415,"is_integer",1)::(415,"representation",2)::(447,"source_line",5)::(447,"source_column",4)::(447,"value",3)::(447,"int_value",0)::(447,"is_integer",1)::(447,"representation",2)::(479,"source_line",7)::(479,"source_column",6)::(479,"value",5)::(479,"int_value",0)::(479,"is_integer",1)::(479,"representation",3)::(479,"unit",4)::(479,"lower_unit",2)::(513,"source_line",2)::(513,"source_column",1)::(513,"content",0)::(542,"source_line",2)::(542,"source_column",1)::(542,"content",0)::(571,"source_line",2)::(571,"source_column",1)::(571,"content",0)::(600,"source_line",4)::(600,"source_column",3)::(600,"name",2)::(600,"lower_name",1)::(600,"arguments",0)::[]
noncomputable def slotL:List (Addr × Str × Nat):=(104,"kind",0)::(134,"value",0)::(163,"value",0)::(206,"value",0)::(235,"value",1)::(265,"value",1)::(295,"value",1)::(295,"is_identifier",0)::(325,"value",1)::(355,"value",1)::(385,"start",1)::(385,"end",0)::(415,"value",3)::(447,"value",3)::(479,"unit",4)::(479,"representation",3)::(513,"content",0)::(542,"content",0)::(571,"content",0)::(600,"name",2)::(600,"arguments",0)::(104,"source_line",3)::(104,"source_column",2)::(134,"source_line",2)::(134,"source_column",1)::(163,"source_line",2)::(163,"source_column",1)::(206,"source_line",2)::(206,"source_column",1)::(235,"source_line",3)::(235,"source_column",2)::(265,"source_line",3)::(265,"source_column",2)::(295,"source_line",3)::(295,"source_column",2)::(325,"source_line",3)::(325,"source_column",2)::(355,"source_line",3)::(355,"source_column",2)::(385,"source_line",3)::(385,"source_column",2)::(415,"source_line",5)::(415,"source_column",4)::(447,"source_line",5)::(447,"source_column",4)::(479,"source_line",7)::(479,"source_column",6)::(513,"source_line",2)::(513,"source_column",1)::(542,"source_line",2)::(542,"source_column",1)::(571,"source_line",2)::(571,"source_column",1)::(600,"source_line",4)::(600,"source_column",3)::(479,"int_value",0)::(415,"representation",2)::(415,"int_value",0)::(447,"representation",2)::(447,"int_value",0)::(600,"lower_name",1)::[]
noncomputable def typL:List (Addr × Value):=[(104,.str "error" 300),(134,.str "comment" 345),(163,.str "whitespace" 386),(206,.str "literal" 427),(235,.str "ident" 486),(265,.str "at-keyword" 531),(295,.str "hash" 576),(325,.str "string" 622),(355,.str "url" 668),(385,.str "unicode-range" 714),(415,.str "number" 762),(447,.str "percentage" 817),(479,.str "dimension" 874),(513,.str "() block" 933),(542,.str "[] block" 974),(571,.str "{} block" 1015),(600,.str "function" 1058)]
noncomputable abbrev Γ5:Fx:={ scope:=scopeAt 5,globs:=[],code:=.ref 33 }
noncomputable abbrev Γ6:Fx:={ scope:=scopeAt 6,globs:=[],code:=.ref 40 }
noncomputable abbrev Γ8:Fx:={ scope:=scopeAt 2,globs:=[] }
noncomputable abbrev Γ29:Fx:={ scope:=scopeAt 28,globs:=[("_DIGITS",.ref 606)] }
noncomputable abbrev Γ30:Fx:={ scope:=scopeAt 29,globs:=[] }
noncomputable abbrev Γ31:Fx:={ scope:=scopeAt 30,globs:=[("ord",.builtin "ord"),("len",.builtin "len"),("_is_ident_start",.ref 642),("_consume_ident",.ref 649),("_consume_unicode_range",.ref 677),("_consume_url",.ref 670),("_consume_quoted_string",.ref 656),("_number_end",.ref 613),("ascii_lower",.ref 26),("serialize_url",.ref 41),("serialize_string_value",.ref 34),("int",.type "int"),("WhitespaceToken",.ref 163),("UnicodeRangeToken",.ref 385),("LiteralToken",.ref 206),("IdentToken",.ref 235),("URLToken",.ref 355),("ParseError",.ref 104),("FunctionBlock",.ref 600),("DimensionToken",.ref 479),("PercentageToken",.ref 447),("NumberToken",.ref 415),("AtKeywordToken",.ref 265),("HashToken",.ref 295),("CurlyBracketsBlock",.ref 571),("SquareBracketsBlock",.ref 542),("ParenthesesBlock",.ref 513),("StringToken",.ref 325),("Comment",.ref 134)] }
noncomputable abbrev Γ32:Fx:={ scope:=scopeAt 31,globs:=[("ord",.builtin "ord")] }
noncomputable abbrev Γ33:Fx:={ scope:=scopeAt 32,globs:=[("_is_name_start",.ref 635),("len",.builtin "len")] }
noncomputable abbrev Γ34:Fx:={ scope:=scopeAt 33,globs:=[("len",.builtin "len"),("ord",.builtin "ord"),("_consume_escape",.ref 663)] }
noncomputable abbrev Γ35:Fx:={ scope:=scopeAt 34,globs:=[("len",.builtin "len"),("_consume_escape",.ref 663)] }
noncomputable abbrev Γ36:Fx:={ scope:=scopeAt 35,globs:=[("_hex_end",.ref 620),("int",.type "int"),("chr",.builtin "chr"),("len",.builtin "len")] }
noncomputable abbrev Γ37:Fx:={ scope:=scopeAt 36,globs:=[("len",.builtin "len"),("_consume_quoted_string",.ref 656),("_consume_escape",.ref 663)] }
noncomputable abbrev Γ38:Fx:={ scope:=scopeAt 37,globs:=[("len",.builtin "len"),("min",.builtin "min"),("int",.type "int")] }
noncomputable abbrev Γ40:Fx:={ scope:=scopeAt 40,globs:=[] }
noncomputable abbrev Γ41:Fx:={ scope:=scopeAt 41,globs:=[] }
noncomputable abbrev Γ42:Fx:={ scope:=scopeAt 42,globs:=[("_law_CLOSERS",.ref 685)] }
noncomputable abbrev Γ43:Fx:={ scope:=scopeAt 43,globs:=[("_law_CLOSERS",.ref 685)] }
noncomputable abbrev Γ44:Fx:={ scope:=scopeAt 44,globs:=[("_law_parts",.ref 706),("_law_told",.ref 713),("_law_inner",.ref 699)] }
noncomputable abbrev Γ45:Fx:={ scope:=scopeAt 45,globs:=[("range",.type "range"),("len",.builtin "len"),("_law_inner",.ref 699),("_law_parts",.ref 706),("_law_cuts",.ref 720)] }
noncomputable abbrev Γ46:Fx:={ scope:=scopeAt 46,globs:=[("_law_inner",.ref 699),("_law_unclosed",.ref 727)] }
noncomputable abbrev Γ47:Fx:={ scope:=scopeAt 47,globs:=[("range",.type "range"),("len",.builtin "len")] }
noncomputable abbrev ΓI9:Fx:={ scope:=initSc 8,globs:=[] }
noncomputable abbrev ΓI10:Fx:={ scope:=initSc 9,globs:=[("Node",.ref 74)] }
noncomputable abbrev ΓI11:Fx:={ scope:=initSc 10,globs:=[("Node",.ref 74)] }
noncomputable abbrev ΓI12:Fx:={ scope:=initSc 11,globs:=[("Node",.ref 74)] }
noncomputable abbrev ΓI13:Fx:={ scope:=initSc 12,globs:=[("Node",.ref 74)] }
noncomputable abbrev ΓI14:Fx:={ scope:=initSc 13,globs:=[("Node",.ref 74),("ascii_lower",.ref 26)] }
noncomputable abbrev ΓI15:Fx:={ scope:=initSc 14,globs:=[("Node",.ref 74),("ascii_lower",.ref 26)] }
noncomputable abbrev ΓI16:Fx:={ scope:=initSc 15,globs:=[("Node",.ref 74)] }
noncomputable abbrev ΓI17:Fx:={ scope:=initSc 16,globs:=[("Node",.ref 74)] }
noncomputable abbrev ΓI18:Fx:={ scope:=initSc 17,globs:=[("Node",.ref 74)] }
noncomputable abbrev ΓI19:Fx:={ scope:=initSc 18,globs:=[("Node",.ref 74)] }
noncomputable abbrev ΓI20:Fx:={ scope:=initSc 19,globs:=[("Node",.ref 74)] }
noncomputable abbrev ΓI21:Fx:={ scope:=initSc 20,globs:=[("Node",.ref 74)] }
noncomputable abbrev ΓI22:Fx:={ scope:=initSc 21,globs:=[("Node",.ref 74),("ascii_lower",.ref 26)] }
noncomputable abbrev ΓI23:Fx:={ scope:=initSc 22,globs:=[("Node",.ref 74)] }
noncomputable abbrev ΓI24:Fx:={ scope:=initSc 23,globs:=[("Node",.ref 74)] }
noncomputable abbrev ΓI25:Fx:={ scope:=initSc 24,globs:=[("Node",.ref 74)] }
noncomputable abbrev ΓI26:Fx:={ scope:=initSc 25,globs:=[("Node",.ref 74),("ascii_lower",.ref 26)] }
noncomputable def curry:Nat→(List Value→Prop)→Prop
 | 0,P=>P []
 | n+1,P=>∀ x,curry n fun r=>P (x::r)
theorem curry_all (n:Nat):∀ P:List Value→Prop,curry n P→∀ xs:List Value,xs.length=n→P xs:=by
 induction n with
 | zero =>
  intro P h xs e
  cases xs with
  | nil=>exact h
  | cons=>cases e
 | succ n ih =>
  intro P h xs e
  cases xs with
  | nil=>cases e
  | cons x r=>exact ih (fun r=>P (x::r)) (h x) r (Nat.succ.inj e)
theorem FnIn.p {K:Frag} {sc:Scope} {code:Value} {f:Addr} {names:List Str} {dflt:List (Str × Value)} {body:List Stmt} {name qual:Str} {params:Arguments} {oc:Value} {od:Option Addr} {osl:Array (Option Value)} {dV kV doc pm:Value} {an:Option Addr} {cdv ct:Value} (h:K.lookup f=some ⟨oc,od,.func (fnOf name qual params body sc dV kV doc pm an cdv ct),osl⟩) (hc:codeIn K cdv qual=true) (hv:code=.none∨cdv=code)
  (hb:∀ s:Shared,K.In s.heap→curry names.length fun xs=>BindsTo s (fnOf name qual params body sc dV kV doc pm an cdv ct) ⟨xs,[]⟩ (names.zip xs++dflt)):FnIn K sc code f names dflt body:=.mk h hc hv fun s X=>curry_all _ _ (hb s X)
noncomputable def fnL:List (Scope × Value × Addr × List Str × List (Str × Value) × List Stmt) :=
 (Γ5.scope,Γ5.code,34,["value"],[],bodyAt 5) ::
 (Γ6.scope,Γ6.code,41,["value"],[],bodyAt 6) ::
 (Γ8.scope,Γ8.code,26,["text"],[],bodyAt 2) ::
 (Γ29.scope,Γ29.code,613,["css","pos"],[],bodyAt 28) ::
 (Γ30.scope,Γ30.code,620,["css","pos"],[],bodyAt 29) ::
 (Γ31.scope,Γ31.code,628,["css"],[("skip_comments",.bool false)],bodyAt 30) ::
 (Γ32.scope,Γ32.code,635,["css","pos"],[],bodyAt 31) ::
 (Γ33.scope,Γ33.code,642,["css","pos"],[],bodyAt 32) ::
 (Γ34.scope,Γ34.code,649,["css","pos"],[],bodyAt 33) ::
 (Γ35.scope,Γ35.code,656,["css","pos"],[],bodyAt 34) ::
 (Γ36.scope,Γ36.code,663,["css","pos"],[],bodyAt 35) ::
 (Γ37.scope,Γ37.code,670,["css","pos"],[],bodyAt 36) ::
 (Γ38.scope,Γ38.code,677,["css","pos"],[],bodyAt 37) ::
 (Γ40.scope,Γ40.code,685,[],[],bodyAt 40) ::
 (Γ41.scope,Γ41.code,692,["text"],[],bodyAt 41) ::
 (Γ42.scope,Γ42.code,699,["node"],[],bodyAt 42) ::
 (Γ43.scope,Γ43.code,706,["node"],[],bodyAt 43) ::
 (Γ44.scope,Γ44.code,713,["nodes","origin","limit"],[],bodyAt 44) ::
 (Γ45.scope,Γ45.code,720,["nodes","around","close"],[],bodyAt 45) ::
 (Γ46.scope,Γ46.code,727,["node","comma"],[],bodyAt 46) ::
 (Γ47.scope,Γ47.code,734,["places","place"],[],bodyAt 47) ::
 (ΓI9.scope,ΓI9.code,56,["self","source_line","source_column"],[],initB 8) ::
 (ΓI10.scope,ΓI10.code,93,["self","line","column","kind","message"],[],initB 9) ::
 (ΓI11.scope,ΓI11.code,123,["self","line","column","value"],[],initB 10) ::
 (ΓI12.scope,ΓI12.code,152,["self","line","column","value"],[],initB 11) ::
 (ΓI13.scope,ΓI13.code,181,["self","line","column","value"],[],initB 12) ::
 (ΓI14.scope,ΓI14.code,224,["self","line","column","value"],[],initB 13) ::
 (ΓI15.scope,ΓI15.code,254,["self","line","column","value"],[],initB 14) ::
 (ΓI16.scope,ΓI16.code,284,["self","line","column","value","is_identifier"],[],initB 15) ::
 (ΓI17.scope,ΓI17.code,314,["self","line","column","value","representation"],[],initB 16) ::
 (ΓI18.scope,ΓI18.code,344,["self","line","column","value","representation"],[],initB 17) ::
 (ΓI19.scope,ΓI19.code,374,["self","line","column","start","end"],[],initB 18) ::
 (ΓI20.scope,ΓI20.code,404,["self","line","column","value","int_value","representation"],[],initB 19) ::
 (ΓI21.scope,ΓI21.code,436,["self","line","column","value","int_value","representation"],[],initB 20) ::
 (ΓI22.scope,ΓI22.code,468,["self","line","column","value","int_value","representation","unit"],[],initB 21) ::
 (ΓI23.scope,ΓI23.code,502,["self","line","column","content"],[],initB 22) ::
 (ΓI24.scope,ΓI24.code,531,["self","line","column","content"],[],initB 23) ::
 (ΓI25.scope,ΓI25.code,560,["self","line","column","content"],[],initB 24) ::
 (ΓI26.scope,ΓI26.code,589,["self","line","column","name","arguments"],[],initB 25)::[]
structure KF (K:Frag):Prop where
 keepB:keepL.all (fun a=>keepIn K (.ref a))=true
 globB:globL.all (fun p=>nsIn K mainGlobals p.1==some (some p.2))=true
 bltB:bltL.all (fun p=>nsIn K mainGlobals p.1==some none)=true
 clsB:clsL.all (fun p=>makesIn K p.1&&(findIn K (.ref p.1) "__init__"==some (some (.ref p.2))&&isFn K (.ref p.2)))=true
 setB:setL.all (fun p=>setAt K p.1 p.2.1==some p.2.2)=true
 slotB:slotL.all (fun p=>slotAt K p.1 p.2.1==some p.2.2)=true
 typB:typL.all (fun p=>clsAtN K p.1 "type"==some p.2)=true
 cm:clsFn K 74 "__init__"=some 56
 no:noTabs K=true
 rep:KTD.tabLook (KTD.datLooks fun b=>K.lookup b) (fun b=>K.lookup b) 27 repTab=true
 dig:∃ (xs:List Value) (n:Nat),K.lookup 606=some (tupOf xs.toArray n)∧∀ M,IsAll M xs digTab
 sig:∃ (xs:List Value) (n:Nat),K.lookup 678=some (listOf xs.toArray n)∧∀ M,IsAll M xs sigTab
 fn:∀ e∈fnL,FnIn K e.1 e.2.1 e.2.2.1 e.2.2.2.1 e.2.2.2.2.1 e.2.2.2.2.2
theorem KF.at {K:Frag} (hK:KF K) (k:Nat) {sc:Scope} {code:Value} {f:Addr} {ns:List Str} {df:List (Str × Value)} {bd:List Stmt} (h:fnL[k]?=some (sc,code,f,ns,df,bd)):FnIn K sc code f ns df bd:=hK.fn _ (List.mem_of_getElem? h)
theorem all_at {α:Type} {l:List α} {p:α→Bool} (h:l.all p=true) {k:Nat} {x:α} (e:l[k]?=some x):p x=true:=Qr h x (List.mem_of_getElem? e)
section
variable {K:Frag} (hK:KF K)
include hK
theorem KF.keepE {a:Addr} (e:keepL.contains a=true):keepIn K (.ref a)=true:=Qr hK.keepB a (List.contains_iff_mem.mp e)
theorem KF.cls (k:Nat) {C f:Addr} (e:clsL[k]?=some (C,f)):makesIn K C=true∧findIn K (.ref C) "__init__"=some (some (.ref f))∧isFn K (.ref f)=true:=by
 have h:=all_at hK.clsB e
 rw [Qc,Qc,beq_iff_eq] at h
 exact h
theorem KF.set (k:Nat) {C:Addr} {x:Str} {i:Nat} (e:setL[k]?=some (C,x,i)):setAt K C x=some i:=beq_iff_eq.mp (all_at hK.setB e)
theorem KF.slot (k:Nat) {C:Addr} {x:Str} {i:Nat} (e:slotL[k]?=some (C,x,i)):slotAt K C x=some i:=beq_iff_eq.mp (all_at hK.slotB e)
theorem KF.typ (k:Nat) {C:Addr} {v:Value} (e:typL[k]?=some (C,v)):clsAtN K C "type"=some v:=beq_iff_eq.mp (all_at hK.typB e)
end
noncomputable def pickG:List (Bool × Nat)→List (Str × Value)
 | []=>[]
 | (b,k)::r=>(if b then bltL.getD k ("len",.builtin "len") else globL.getD k ("Node",.ref 74))::pickG r
noncomputable abbrev IsGl (mg mb:Str→Option Value) (p:Str × Value):Prop:=mg p.1=some p.2∨(mg p.1=none∧mb p.1=some p.2)
theorem blt_boot:bltL.all (fun p=>!(p.1=="__name__")&&bootBuiltins p.1==some p.2)=true:=by kernel_rfl
theorem KF.gl {K:Frag} (hK:KF K) {h:Heap} (X:K.In h) {p:Program} {loose:List Str} {mean:ExcName→Option Value} {mg mb:Str→Option Value} (T:Top p loose mean mg mb h) {x:Str × Value} (e:x∈globL∨x∈bltL):IsGl mg mb x:=by
 rcases e with e | e
 ·exact .inl (mg_of X T.g (beq_iff_eq.mp (Qr hK.globB x e)))
 ·have q:=Qr blt_boot x e
  rw [Qc,beq_iff_eq,Bool.not_eq_true',beq_eq_false_iff_ne] at q
  exact .inr ⟨mg_none_of X T.g (beq_iff_eq.mp (Qr hK.bltB x e)),by rw [T.builtins x.1 q.1,q.2]⟩
theorem KF.pick {K:Frag} (hK:KF K) {h:Heap} (X:K.In h) {p:Program} {loose:List Str} {mean:ExcName→Option Value} {mg mb:Str→Option Value} (T:Top p loose mean mg mb h) (ks:List (Bool × Nat)):∀ x∈pickG ks,IsGl mg mb x:=by
 have hg:∀ (l:List (Str × Value)) (d:Str × Value) (k:Nat),d∈l→l.getD k d∈l:=fun l d k hd=>by
  rw [List.getD_eq_getElem?_getD]
  cases q:l[k]? with
  | none=>exact hd
  | some y=>exact List.mem_of_getElem? q
 induction ks with
 | nil=>intro x hx; cases hx
 | cons b r ih =>
  refine fm ⟨?_,ih⟩
  obtain ⟨b,k⟩:=b
  cases b with
  | true=>exact hK.gl X T (.inr (hg _ _ _ (List.mem_of_getElem? (i:=1) rfl)))
  | false=>exact hK.gl X T (.inl (hg _ _ _ (List.mem_of_getElem? (i:=39) rfl)))
structure GG (w:World) (g:Gx):Prop where
 hK:KF g.K
 hw:g.w=w
 hprog:g.prog=Prg
 ok:g.Ok
 codes:CodeAll [((33:Addr),(29:Addr)),(40,36)] g.B
theorem GG.pick {w:World} {g:Gx} (G:GG w g) (ks:List (Bool × Nat)):∀ x∈pickG ks,IsGl g.mg g.mb x:=G.hK.pick G.ok.kin G.ok.top ks
noncomputable def glSc (sc:Scope) (globs:List (Str × Value)):Bool:=globs.all fun p=>sc.names.lookup p.1==some .globalImplicit&&!(p.1=="__debug__")
noncomputable def scB (sc:Scope) (ns:List Str) (globs:List (Str × Value)):Bool :=
 !sc.isCoroutine&&(!sc.isGenerator&&(decide (sc.kind=.function)&&(sc.names.all (fun x=>decide (x.2≠.cell))&&(decide ns.Nodup&&(ns.all (fun x=>sc.names.lookup x==some .local&&!(x=="__debug__"))&&glSc sc globs)))))
theorem globs_of {mg mb:Str→Option Value} {sc:Scope} {globs:List (Str × Value)} (h:glSc sc globs=true) (hg:∀ x∈globs,IsGl mg mb x):∀ p∈globs,sc.names.lookup p.1=some .globalImplicit∧(p.1==("__debug__":Str))=false∧(mg p.1=some p.2∨(mg p.1=none∧mb p.1=some p.2)):=fun p hp=>by
 have q:=Qr h p hp
 rw [Qc,beq_iff_eq,Bool.not_eq_true'] at q
 exact ⟨q.1,q.2,hg p hp⟩
theorem DefOk.of {g:Gx} {sc:Scope} {globs:List (Str × Value)} {code:Value} {f:Addr} {names keys:List Str} {dflt:List (Str × Value)} {body:List Stmt} (hf:FnIn g.K sc code f names dflt body) (hs:scB sc (names++dflt.map (·.1)++keys) globs=true) (hg:∀ x∈globs,IsGl g.mg g.mb x) :
  DefOk g { scope:=sc,globs:=globs,code:=code } f names dflt keys body:=by
 unfold scB at hs
 simp only [Bool.and_eq_true,Bool.not_eq_true',decide_eq_true_eq,List.all_eq_true,beq_iff_eq] at hs
 obtain ⟨h1,h2,h3,h4,h5,h6,h7⟩:=hs
 exact ⟨hf,⟨h1,h2,h3,h4⟩,⟨h5,h6⟩,globs_of h7 hg,rfl⟩
section
variable {w:World} {g:Gx} (G:GG w g)
include G
theorem D5:DefOk g Γ5 34 ["value"] [] [] (bodyAt 5):=.of (G.hK.at 0 rfl) (by decide +kernel) (G.pick [])
theorem D6:DefOk g Γ6 41 ["value"] [] [] (bodyAt 6):=.of (G.hK.at 1 rfl) (by decide +kernel) (G.pick [])
theorem D8:DefOk g Γ8 26 ["text"] [] [] (bodyAt 2):=.of (G.hK.at 2 rfl) (by decide +kernel) (G.pick [])
theorem D29:DefOk g Γ29 613 ["css","pos"] [] ["end","start","plain","power"] (bodyAt 28):=.of (G.hK.at 3 rfl) (by decide +kernel) (G.pick [(false,1)])
theorem D30:DefOk g Γ30 620 ["css","pos"] [] ["end"] (bodyAt 29):=.of (G.hK.at 4 rfl) (by decide +kernel) (G.pick [])
theorem D31:DefOk g Γ31 628 ["css"] [("skip_comments",.bool false)] ["length","token_start_pos","pos","line","last_newline","root","tokens","end_char","stack","newline","column","c","value","start","end","is_url","url_pos","error","repr","error_key","arguments","plain","repr_","int_value","unit","is_identifier","content"] (bodyAt 30):=.of (G.hK.at 5 rfl) (by decide +kernel) (G.pick [(true,0),(true,1),(false,2),(false,3),(false,4),(false,5),(false,6),(false,7),(false,8),(false,9),(false,10),(true,2),(false,11),(false,12),(false,13),(false,14),(false,15),(false,16),(false,17),(false,18),(false,19),(false,20),(false,21),(false,22),(false,23),(false,24),(false,25),(false,26),(false,27)])
theorem D32:DefOk g Γ32 635 ["css","pos"] [] ["c"] (bodyAt 31):=.of (G.hK.at 6 rfl) (by decide +kernel) (G.pick [(true,0)])
theorem D33:DefOk g Γ33 642 ["css","pos"] [] [] (bodyAt 32):=.of (G.hK.at 7 rfl) (by decide +kernel) (G.pick [(false,28),(true,1)])
theorem D34:DefOk g Γ34 649 ["css","pos"] [] ["chunks","length","start_pos","c"] (bodyAt 33):=.of (G.hK.at 8 rfl) (by decide +kernel) (G.pick [(true,1),(true,0),(false,29)])
theorem D35:DefOk g Γ35 656 ["css","pos"] [] ["error","quote","chunks","length","start_pos","c"] (bodyAt 34):=.of (G.hK.at 9 rfl) (by decide +kernel) (G.pick [(true,1),(false,29)])
theorem D36:DefOk g Γ36 663 ["css","pos"] [] ["end","codepoint"] (bodyAt 35):=.of (G.hK.at 10 rfl) (by decide +kernel) (G.pick [(false,30),(true,2),(true,3),(true,1)])
theorem D37:DefOk g Γ37 670 ["css","pos"] [] ["error","length","c","value","chunks","start_pos"] (bodyAt 36):=.of (G.hK.at 11 rfl) (by decide +kernel) (G.pick [(true,1),(false,6),(false,29)])
theorem D38:DefOk g Γ38 677 ["css","pos"] [] ["length","start_pos","max_pos","start","question_marks","end"] (bodyAt 37):=.of (G.hK.at 12 rfl) (by decide +kernel) (G.pick [(true,1),(true,4),(true,2)])
theorem D40:DefOk g Γ40 685 [] [] [] (bodyAt 40):=.of (G.hK.at 13 rfl) (by decide +kernel) (G.pick [])
theorem D41:DefOk g Γ41 692 ["text"] [] ["mended","places","line","column","last","sign"] (bodyAt 41):=.of (G.hK.at 14 rfl) (by decide +kernel) (G.pick [])
theorem D42:DefOk g Γ42 699 ["node"] [] [] (bodyAt 42):=.of (G.hK.at 15 rfl) (by decide +kernel) (G.pick [(false,0)])
theorem D43:DefOk g Γ43 706 ["node"] [] ["kind"] (bodyAt 43):=.of (G.hK.at 16 rfl) (by decide +kernel) (G.pick [(false,0)])
theorem D44:DefOk g Γ44 713 ["nodes","origin","limit"] [] ["told","node","line","column"] (bodyAt 44):=.of (G.hK.at 17 rfl) (by decide +kernel) (G.pick [(false,34),(false,35),(false,33)])
theorem D45:DefOk g Γ45 720 ["nodes","around","close"] [] ["cuts","k","node","inner","bare","near"] (bodyAt 45):=.of (G.hK.at 18 rfl) (by decide +kernel) (G.pick [(true,5),(true,1),(false,33),(false,34),(false,36)])
theorem D46:DefOk g Γ46 727 ["node","comma"] [] ["inner"] (bodyAt 46):=.of (G.hK.at 19 rfl) (by decide +kernel) (G.pick [(false,33),(false,38)])
theorem D47:DefOk g Γ47 734 ["places","place"] [] ["k"] (bodyAt 47):=.of (G.hK.at 20 rfl) (by decide +kernel) (G.pick [(true,5),(true,1)])
theorem DI9:DefOk g ΓI9 56 ["self","source_line","source_column"] [] [] (initB 8):=.of (G.hK.at 21 rfl) (by decide +kernel) (G.pick [])
theorem DI10:DefOk g ΓI10 93 ["self","line","column","kind","message"] [] [] (initB 9):=.of (G.hK.at 22 rfl) (by decide +kernel) (G.pick [(false,39)])
theorem DI11:DefOk g ΓI11 123 ["self","line","column","value"] [] [] (initB 10):=.of (G.hK.at 23 rfl) (by decide +kernel) (G.pick [(false,39)])
theorem DI12:DefOk g ΓI12 152 ["self","line","column","value"] [] [] (initB 11):=.of (G.hK.at 24 rfl) (by decide +kernel) (G.pick [(false,39)])
theorem DI13:DefOk g ΓI13 181 ["self","line","column","value"] [] [] (initB 12):=.of (G.hK.at 25 rfl) (by decide +kernel) (G.pick [(false,39)])
theorem DI14:DefOk g ΓI14 224 ["self","line","column","value"] [] [] (initB 13):=.of (G.hK.at 26 rfl) (by decide +kernel) (G.pick [(false,39),(false,8)])
theorem DI15:DefOk g ΓI15 254 ["self","line","column","value"] [] [] (initB 14):=.of (G.hK.at 27 rfl) (by decide +kernel) (G.pick [(false,39),(false,8)])
theorem DI16:DefOk g ΓI16 284 ["self","line","column","value","is_identifier"] [] [] (initB 15):=.of (G.hK.at 28 rfl) (by decide +kernel) (G.pick [(false,39)])
theorem DI17:DefOk g ΓI17 314 ["self","line","column","value","representation"] [] [] (initB 16):=.of (G.hK.at 29 rfl) (by decide +kernel) (G.pick [(false,39)])
theorem DI18:DefOk g ΓI18 344 ["self","line","column","value","representation"] [] [] (initB 17):=.of (G.hK.at 30 rfl) (by decide +kernel) (G.pick [(false,39)])
theorem DI19:DefOk g ΓI19 374 ["self","line","column","start","end"] [] [] (initB 18):=.of (G.hK.at 31 rfl) (by decide +kernel) (G.pick [(false,39)])
theorem DI20:DefOk g ΓI20 404 ["self","line","column","value","int_value","representation"] [] [] (initB 19):=.of (G.hK.at 32 rfl) (by decide +kernel) (G.pick [(false,39)])
theorem DI21:DefOk g ΓI21 436 ["self","line","column","value","int_value","representation"] [] [] (initB 20):=.of (G.hK.at 33 rfl) (by decide +kernel) (G.pick [(false,39)])
theorem DI22:DefOk g ΓI22 468 ["self","line","column","value","int_value","representation","unit"] [] [] (initB 21):=.of (G.hK.at 34 rfl) (by decide +kernel) (G.pick [(false,39),(false,8)])
theorem DI23:DefOk g ΓI23 502 ["self","line","column","content"] [] [] (initB 22):=.of (G.hK.at 35 rfl) (by decide +kernel) (G.pick [(false,39)])
theorem DI24:DefOk g ΓI24 531 ["self","line","column","content"] [] [] (initB 23):=.of (G.hK.at 36 rfl) (by decide +kernel) (G.pick [(false,39)])
theorem DI25:DefOk g ΓI25 560 ["self","line","column","content"] [] [] (initB 24):=.of (G.hK.at 37 rfl) (by decide +kernel) (G.pick [(false,39)])
theorem DI26:DefOk g ΓI26 589 ["self","line","column","name","arguments"] [] [] (initB 25):=.of (G.hK.at 38 rfl) (by decide +kernel) (G.pick [(false,39),(false,8)])
end
end
set_option genSizeOf false
set_option compiler.extract_closed false
section
variable {α:Type} {p0 p1 p2 p3 p4 p5 p6 p7:α} {p:α} {r:List α}
theorem me0:p∈p::r:=.head _
theorem me1:p∈p0::p::r:=.tail _ me0
theorem me2:p∈p0::p1::p::r:=.tail _ me1
theorem me3:p∈p0::p1::p2::p::r:=.tail _ me2
theorem me4:p∈p0::p1::p2::p3::p::r:=.tail _ me3
theorem me5:p∈p0::p1::p2::p3::p4::p::r:=.tail _ me4
theorem me6:p∈p0::p1::p2::p3::p4::p5::p::r:=.tail _ me5
theorem me7:p∈p0::p1::p2::p3::p4::p5::p6::p::r:=.tail _ me6
theorem me8 (h:p∈r):p∈p0::p1::p2::p3::p4::p5::p6::p7::r:=.tail _ (.tail _ (.tail _ (.tail _ (.tail _ (.tail _ (.tail _ (.tail _ (h))))))))
end
section
variable {p0 p1 p2 p3 p4 p5 p6 p7:Str × V} {x:Str} {u v:V} {r:Loc} {k:Loc→Prop}
theorem pk0 (h:k ((x,v)::r)):PutK x v ((x,u)::r) k:=⟨_,.here,h⟩
theorem pk1 (h:k (p0::(x,v)::r)):PutK x v (p0::(x,u)::r) k:=(pk0 (k:=fun l=>k (p0::l)) h).elim fun _ q=>⟨_,.there q.1,q.2⟩
theorem pk2 (h:k (p0::p1::(x,v)::r)):PutK x v (p0::p1::(x,u)::r) k:=(pk1 (k:=fun l=>k (p0::l)) h).elim fun _ q=>⟨_,.there q.1,q.2⟩
theorem pk3 (h:k (p0::p1::p2::(x,v)::r)):PutK x v (p0::p1::p2::(x,u)::r) k:=(pk2 (k:=fun l=>k (p0::l)) h).elim fun _ q=>⟨_,.there q.1,q.2⟩
theorem pk4 (h:k (p0::p1::p2::p3::(x,v)::r)):PutK x v (p0::p1::p2::p3::(x,u)::r) k:=(pk3 (k:=fun l=>k (p0::l)) h).elim fun _ q=>⟨_,.there q.1,q.2⟩
theorem pk5 (h:k (p0::p1::p2::p3::p4::(x,v)::r)):PutK x v (p0::p1::p2::p3::p4::(x,u)::r) k:=(pk4 (k:=fun l=>k (p0::l)) h).elim fun _ q=>⟨_,.there q.1,q.2⟩
theorem pk6 (h:k (p0::p1::p2::p3::p4::p5::(x,v)::r)):PutK x v (p0::p1::p2::p3::p4::p5::(x,u)::r) k:=(pk5 (k:=fun l=>k (p0::l)) h).elim fun _ q=>⟨_,.there q.1,q.2⟩
theorem pk7 (h:k (p0::p1::p2::p3::p4::p5::p6::(x,v)::r)):PutK x v (p0::p1::p2::p3::p4::p5::p6::(x,u)::r) k:=(pk6 (k:=fun l=>k (p0::l)) h).elim fun _ q=>⟨_,.there q.1,q.2⟩
noncomputable abbrev KP8 (p0 p1 p2 p3 p4 p5 p6 p7:Str × V) (k:Loc→Prop):Loc→Prop:=fun l=>k (p0::p1::p2::p3::p4::p5::p6::p7::l)
theorem pk8 (h:PutK x v r (KP8 p0 p1 p2 p3 p4 p5 p6 p7 k)):PutK x v (p0::p1::p2::p3::p4::p5::p6::p7::r) k:=h.elim fun _ q=>⟨_,.there (.there (.there (.there (.there (.there (.there (.there (q.1)))))))),q.2⟩
end
noncomputable def V.isSet:V→Bool
 | .unset=>false
 | _=>true
theorem V.set_ne {v:V} (h:v.isSet=true):v≠.unset:=fun e=>by subst e; exact nomatch h
theorem V.ne_set {v:V} (h:v≠.unset):v.isSet=true:=by cases v <;> first | rfl | exact absurd rfl h
theorem SubM.str {s:List Nat} {i n:Nat} {k:V→Prop} (h:s[i]?=some n) (hl:s.length < 2 ^ 62) (q:k (.str [n])):SubM (.str s) (.int (i:Int)) k:=by
 have hi:i < s.length:=(List.getElem?_eq_some_iff.mp h).1
 refine ⟨_,.str ⟨by (first | lia | omega),by (first | lia | omega)⟩ ?_,q⟩
 unfold seqIndex?
 have h0:¬ (i:Int) < 0:=by (first | lia | omega)
 have:=(List.getElem?_eq_some_iff.mp h).2
 simp [h0,hi,this]
theorem beq_one (a b:Nat):(([a]:List Nat)==[b])=(a==b):=by simp
section
variable {i j:Int} {x y:List Nat} {vs:List V} {k:Bool→Prop} {q:V→Prop}
theorem cm7 (h:k (x==y)):CmpM .Eq (.str x) (.str y) k:=⟨_,.seq x y,h⟩
theorem cm10 (h:k false):CmpM .Eq (.str x) .none k:=⟨_,.sno x,h⟩
theorem cm13 (h:k (vs.any (eqStr x))) (e:allStr vs=true):CmpM .In (.str x) (.tup vs) k:=⟨_,.tin x e,h⟩
theorem cm15 (h:k true):CmpM .Is .none .none k:=⟨_,.isn,h⟩
theorem cm16 (h:k false):CmpM .Is (.int i) .none k:=⟨_,.ano (.int i),h⟩
theorem cm17 (h:k false):CmpM .Is (.str x) .none k:=⟨_,.ano (.str x),h⟩
theorem cm18 (h:k false):CmpM .Is (.tup vs) .none k:=⟨_,.ano (.tup vs),h⟩
theorem cm19 (h:k false):CmpM .IsNot .none .none k:=⟨_,.isnn,h⟩
theorem cm20 (h:k true):CmpM .IsNot (.int i) .none k:=⟨_,.anno (.int i),h⟩
theorem cm21 (h:k true):CmpM .IsNot (.str x) .none k:=⟨_,.anno (.str x),h⟩
theorem cm22 (h:k true):CmpM .IsNot (.tup vs) .none k:=⟨_,.anno (.tup vs),h⟩
theorem bm3 (h:q (.str (x++y))) (e:x.length+y.length≤sizeLine):BinM .Add (.str x) (.str y) q:=⟨_,.sadd e,h⟩
theorem bm4 (h:q (.int (i.fmod j))) (e:j≠0):BinM .Mod (.int i) (.int j) q:=⟨_,.imod i e,h⟩
theorem tm2 {b:Bool} (h:k b):TrueM (.bool b) k:=⟨_,.bool b,h⟩
end
theorem exS {s:List Nat} {P:List Nat→Prop} (h:P s):∃ x,V.str s=V.str x∧P x:=⟨s,rfl,h⟩
theorem lt62 {n:Nat} (h:n≤1000000):n < 2 ^ 62:=by (first | lia | omega)
theorem leSize {n:Nat} (h:n≤1000000):n≤sizeLine:=by rw [sizeLine_eq]; (first | lia | omega)
noncomputable def TupK (vs:List V) (k:V→Prop):Prop:=vs.length≤1000∧k (.tup vs)
theorem tk {vs:List V} {k:V→Prop} (h:k (.tup vs)) (e:vs.length≤1000):TupK vs k:=⟨e,h⟩
section
noncomputable abbrev IsB (b:Bool) (H:AH):V→AH→Prop:=fun v H₁=>v=.bool b∧H₁=H
noncomputable abbrev IsT (b:Bool) (H:AH):Bool→AH→Prop:=fun v H₁=>v=b∧H₁=H
noncomputable abbrev IsV (v:V) (H:AH):V→AH→Prop:=fun v' H₁=>v'=v∧H₁=H
noncomputable abbrev KV (Q:V→AH→Prop) (H:AH):V→Prop:=fun v=>Q v H
noncomputable abbrev KT (Q:Bool→AH→Prop) (H:AH):Bool→Prop:=fun v=>Q v H
noncomputable abbrev KB (Q:V→AH→Prop) (H:AH):Bool→Prop:=fun v=>Q (.bool v) H
noncomputable abbrev KPut (Q:R→Loc→AH→Prop) (H:AH):Loc→Prop:=fun lo'=>Q .next lo' H
noncomputable abbrev KAsg (x:Str) (lo:Loc) (Q:R→Loc→AH→Prop):V→AH→Prop:=fun v H=>PutK x v lo (KPut Q H)
noncomputable abbrev KPut2 (y:Str) (v:V) (Q:R→Loc→AH→Prop) (H:AH):Loc→Prop:=fun lo'=>PutK y v lo' (KPut Q H)
noncomputable abbrev KAsg2 (x y:Str) (lo:Loc) (Q:R→Loc→AH→Prop):V→AH→Prop:=fun v H=>PutK x v lo (KPut2 y v Q H)
noncomputable abbrev KAug1 (x:Str) (lo:Loc) (Q:R→Loc→AH→Prop) (H:AH):V→Prop:=fun r=>PutK x r lo (KPut Q H)
noncomputable abbrev KAug (v:V) (x:Str) (lo:Loc) (Q:R→Loc→AH→Prop):V→AH→Prop:=fun w H=>BinM .Add v w (KAug1 x lo Q H)
noncomputable abbrev KRet (lo:Loc) (Q:R→Loc→AH→Prop):V→AH→Prop:=fun v H=>Q (.ret v) lo H
noncomputable abbrev KExp (lo:Loc) (Q:R→Loc→AH→Prop):V→AH→Prop:=fun _ H=>Q .next lo H
noncomputable abbrev KAss (lo:Loc) (Q:R→Loc→AH→Prop):Bool→AH→Prop:=fun b H=>b=true∧Q .next lo H
noncomputable abbrev KNot (Q:Bool→AH→Prop):Bool→AH→Prop:=fun b H=>Q (!b) H
noncomputable abbrev KENot1 (Q:V→AH→Prop) (H:AH):Bool→Prop:=fun b=>Q (.bool !b) H
noncomputable abbrev KENot (Q:V→AH→Prop):V→AH→Prop:=fun v H=>TrueM v (KENot1 Q H)
noncomputable abbrev KTof (Q:Bool→AH→Prop):V→AH→Prop:=fun v H=>TrueM v (KT Q H)
noncomputable abbrev KCmp2 (op:CmpOp) (a:V) (Q:V→AH→Prop):V→AH→Prop:=fun b H=>CmpM op a b (KB Q H)
noncomputable abbrev KTc2 (op:CmpOp) (a:V) (Q:Bool→AH→Prop):V→AH→Prop:=fun b H=>CmpM op a b (KT Q H)
noncomputable abbrev KBin2 (op:Operator) (a:V) (Q:V→AH→Prop):V→AH→Prop:=fun b H=>BinM op a b (KV Q H)
noncomputable abbrev KSub2 (a:V) (Q:V→AH→Prop):V→AH→Prop:=fun b H=>SubM a b (KV Q H)
noncomputable abbrev KSl3 (a:V) (l:Option Int) (Q:V→AH→Prop):Option Int→AH→Prop:=fun u H=>SliM a l u (KV Q H)
noncomputable abbrev KO (k:Option Int→AH→Prop) (H:AH):Option Int→Prop:=fun o=>k o H
noncomputable abbrev KPart (k:Option Int→AH→Prop):V→AH→Prop:=fun v H=>PartK v (KO k H)
noncomputable abbrev KEs2 (v:V) (Q:List V→AH→Prop):List V→AH→Prop:=fun vs H=>Q (v::vs) H
noncomputable abbrev KTup (Q:V→AH→Prop):List V→AH→Prop:=fun vs H=>TupK vs (KV Q H)
noncomputable abbrev KUnp (xs:List Str) (lo:Loc) (Q:R→Loc→AH→Prop):V→AH→Prop:=fun v H=>UnpK v xs lo (KPut Q H)
noncomputable abbrev KPa (xs:List Str) (vs:List V) (k:Loc→Prop):Loc→Prop:=fun lo'=>PutAll xs vs lo' k
noncomputable abbrev KNeg (Q:V→AH→Prop):V→AH→Prop:=fun v H=>∃ i,v=.int i∧Q (.int (-i)) H
variable (g:Gx) (Γ:Fx) (d:Nat)
noncomputable abbrev KSs (rest:List Stmt) (Q:R→Loc→AH→Prop):R→Loc→AH→Prop:=fun r lo H=>match r with
 | .next=>Ss g Γ d rest lo H Q
 | r=>Q r lo H
noncomputable abbrev KIf (a b:List Stmt) (lo:Loc) (Q:R→Loc→AH→Prop):Bool→AH→Prop:=fun t H=>if t then Ss g Γ d a lo H Q else Ss g Γ d b lo H Q
noncomputable abbrev KIfe (a b:Expr) (lo:Loc) (Q:V→AH→Prop):Bool→AH→Prop:=fun t H=>if t then E g Γ d a lo H Q else E g Γ d b lo H Q
noncomputable abbrev KAnd (rest:List Expr) (pos:Pos) (lo:Loc) (Q:Bool→AH→Prop):Bool→AH→Prop:=fun t H=>if t then T g Γ d (.BoolOp .And rest pos) lo H Q else Q false H
noncomputable abbrev KOr (rest:List Expr) (pos:Pos) (lo:Loc) (Q:Bool→AH→Prop):Bool→AH→Prop:=fun t H=>if t then Q true H else T g Γ d (.BoolOp .Or rest pos) lo H Q
noncomputable abbrev KCmp (op:CmpOp) (r:Expr) (lo:Loc) (Q:V→AH→Prop):V→AH→Prop:=fun a H=>E g Γ d r lo H (KCmp2 op a Q)
noncomputable abbrev KTc (op:CmpOp) (r:Expr) (lo:Loc) (Q:Bool→AH→Prop):V→AH→Prop:=fun a H=>E g Γ d r lo H (KTc2 op a Q)
noncomputable abbrev KBin (op:Operator) (r:Expr) (lo:Loc) (Q:V→AH→Prop):V→AH→Prop:=fun a H=>E g Γ d r lo H (KBin2 op a Q)
noncomputable abbrev KSub (r:Expr) (lo:Loc) (Q:V→AH→Prop):V→AH→Prop:=fun a H=>E g Γ d r lo H (KSub2 a Q)
noncomputable abbrev KSl2 (u:Option Expr) (lo:Loc) (a:V) (Q:V→AH→Prop):Option Int→AH→Prop:=fun l H=>Part g Γ d u lo H (KSl3 a l Q)
noncomputable abbrev KSl (l u:Option Expr) (lo:Loc) (Q:V→AH→Prop):V→AH→Prop:=fun a H=>Part g Γ d l lo H (KSl2 g Γ d u lo a Q)
noncomputable abbrev KEs (rest:List Expr) (lo:Loc) (Q:List V→AH→Prop):V→AH→Prop:=fun v H=>Es g Γ d rest lo H (KEs2 v Q)
noncomputable abbrev KCB (f:Value) (Q:V→AH→Prop):List V→AH→Prop:=fun vs H=>CallB g d f vs H Q
noncomputable abbrev KCl (f:Value) (Q:V→AH→Prop):List V→AH→Prop:=fun vs H=>Call g d f vs H Q
noncomputable abbrev KM2 (id:String) (x:List Nat) (Q:V→AH→Prop):List V→AH→Prop:=fun vs H=>CallB g d (.builtin id) (.str x::vs) H Q
noncomputable abbrev KMeth (id:String) (args:List Expr) (lo:Loc) (Q:V→AH→Prop):V→AH→Prop:=fun ov H=>∃ x,ov=.str x∧Es g Γ d args lo H (KM2 g d id x Q)
end
section
variable {g:Gx} {Γ:Fx} {d:Nat} {lo:Loc} {H:AH}
theorem Ss.consK {st:Stmt} {rest:List Stmt} {Q:R→Loc→AH→Prop} (h:S g Γ d st lo H (KSs g Γ d rest Q)):Ss g Γ d (st::rest) lo H Q:=Ss.cons h
theorem S.assignK {x:Str} {pos' pos:Pos} {value:Expr} {Q:R→Loc→AH→Prop} (h:E g Γ d value lo H (KAsg x lo Q)) (hs:∀ env,pure false=swapsWith value (some (.Name x pos')) pos.line env):S g Γ d (.Assign [.Name x pos'] value pos) lo H Q:=S.assign h fun env=>(hs env).symm
theorem S.augK {x:Str} {pos' pos:Pos} {value:Expr} {v:V} {Q:R→Loc→AH→Prop} (h:E g Γ d value lo H (KAug v x lo Q)) (hm:(x,v)∈lo) (hv:v.isSet=true):S g Γ d (.AugAssign (.Name x pos') .Add value pos) lo H Q:=S.aug hm (V.set_ne hv) (h.mono fun _ _ q=>⟨rfl,q⟩)
theorem S.retK {e:Expr} {pos:Pos} {Q:R→Loc→AH→Prop} (h:E g Γ d e lo H (KRet lo Q)):S g Γ d (.Return (some e) pos) lo H Q:=S.ret h
theorem S.exprK {e:Expr} {pos:Pos} {Q:R→Loc→AH→Prop} (h:E g Γ d e lo H (KExp lo Q)) (hs:∀ env,pure false=swapsWith e none pos.line env):S g Γ d (.Expr e pos) lo H Q:=S.expr h fun env=>(hs env).symm
theorem S.assertK {test:Expr} {msg:Option Expr} {pos:Pos} {Q:R→Loc→AH→Prop} (h:T g Γ d test lo H (KAss lo Q)):S g Γ d (.Assert test msg pos) lo H Q:=S.assert h
theorem S.tryK {body orelse:List Stmt} {h₀:ExceptHandler} {hs:List ExceptHandler} {pos:Pos} {Q:R→Loc→AH→Prop} (h:Ss g Γ d body lo H (KSs g Γ d orelse Q)):S g Γ d (.Try body (h₀::hs) orelse [] pos) lo H Q:=S.try_ h
theorem S.ifK {test:Expr} {body orelse:List Stmt} {pos:Pos} {Q:R→Loc→AH→Prop} (h:T g Γ d test lo H (KIf g Γ d body orelse lo Q)):S g Γ d (.If test body orelse pos) lo H Q:=S.if_ h
theorem S.twoK {x y:Str} {px py pos:Pos} {value:Expr} {Q:R→Loc→AH→Prop} (h:E g Γ d value lo H (KAsg2 x y lo Q)) (hw:∀ env,pure none=swappedStores [Expr.Name x px,Expr.Name y py] value env):S g Γ d (.Assign [.Name x px,.Name y py] value pos) lo H Q:=S.two h fun env=>(hw env).symm
theorem T.ofK {e:Expr} {Q:Bool→AH→Prop} (h:E g Γ d e lo H (KTof Q)) (he:∀ env,(do let v ← eval e env; standAt e.pos; holding [v] (truthy v))=isTrue e env (eval e env)):T g Γ d e lo H Q:=T.of h fun env=>(he env).symm
theorem E.locK {x:Str} {pos:Pos} {v:V} {Q:V→AH→Prop} (h:Q v H) (hm:(x,v)∈lo) (hv:v.isSet=true):E g Γ d (.Name x pos) lo H Q:=E.loc hm (V.set_ne hv) h
theorem E.tupKK {elts:List Expr} {n:Nat} {pos:Pos} {Q:V→AH→Prop} (h:Es g Γ d elts lo H (KTup Q)):E g Γ d (.Tuple elts n pos) lo H Q:=E.tup h
theorem E.cmpK {l r:Expr} {op:CmpOp} {pos:Pos} {Q:V→AH→Prop} (h:E g Γ d l lo H (KCmp g Γ d op r lo Q)) (hm:false=behindInMarks op r):E g Γ d (.Compare l [op] [r] pos) lo H Q:=E.cmp h hm.symm
theorem T.cmpK {l r:Expr} {op:CmpOp} {pos:Pos} {Q:Bool→AH→Prop} (h:E g Γ d l lo H (KTc g Γ d op r lo Q)) (hm:false=behindInMarks op r):T g Γ d (.Compare l [op] [r] pos) lo H Q:=T.cmp h hm.symm
theorem T.notK {x:Expr} {pos:Pos} {Q:Bool→AH→Prop} (h:T g Γ d x lo H (KNot Q)):T g Γ d (.UnaryOp .Not x pos) lo H Q:=T.not h
theorem E.notK {x:Expr} {pos:Pos} {Q:V→AH→Prop} (h:E g Γ d x lo H (KENot Q)):E g Γ d (.UnaryOp .Not x pos) lo H Q:=E.not h
theorem E.negK {x:Expr} {pos:Pos} {Q:V→AH→Prop} (h:E g Γ d x lo H (KNeg Q)):E g Γ d (.UnaryOp .USub x pos) lo H Q:=E.neg h
theorem kneg {i:Int} {Q:V→AH→Prop} (h:Q (.int (-i)) H):KNeg Q (.int i) H:=⟨i,rfl,h⟩
theorem T.andK {x:Expr} {rest:List Expr} {pos:Pos} {Q:Bool→AH→Prop} (h:T g Γ d x lo H (KAnd g Γ d rest pos lo Q)):T g Γ d (.BoolOp .And (x::rest) pos) lo H Q:=T.and h
theorem T.orK {x:Expr} {rest:List Expr} {pos:Pos} {Q:Bool→AH→Prop} (h:T g Γ d x lo H (KOr g Γ d rest pos lo Q)):T g Γ d (.BoolOp .Or (x::rest) pos) lo H Q:=T.or h
theorem E.binK {l r:Expr} {op:Operator} {pos:Pos} {Q:V→AH→Prop} (h:E g Γ d l lo H (KBin g Γ d op r lo Q)):E g Γ d (.BinOp l op r pos) lo H Q:=E.bin h
theorem E.subK {value slice:Expr} {pos:Pos} {Q:V→AH→Prop} (h:E g Γ d value lo H (KSub g Γ d slice lo Q)) (hs:∀ o i,operate [o,i] (getItem o i)=subscripted slice false o i):E g Γ d (.Subscript value slice pos) lo H Q:=E.sub h fun o i=>(hs o i).symm
theorem E.sliceK {value:Expr} {lower upper:Option Expr} {pp pos:Pos} {Q:V→AH→Prop} (h:E g Γ d value lo H (KSl g Γ d lower upper lo Q)):E g Γ d (.Subscript value (.Slice lower upper Option.none pp) pos) lo H Q:=E.slice h
theorem part_someK {e:Expr} {k:Option Int→AH→Prop} (h:E g Γ d e lo H (KPart k)):Part g Γ d (some e) lo H k:=h
theorem part_none {k:Option Int→AH→Prop} (h:k none H):Part g Γ d none lo H k:=h
theorem pk_int {i:Int} {k:Option Int→Prop} (h:k (some i)):PartK (.int i) k:=⟨_,.int i,h⟩
theorem pk_none {k:Option Int→Prop} (h:k none):PartK .none k:=⟨_,.none,h⟩
theorem sli_str {s:List Nat} {l u:Option Int} {k:V→Prop} (e:s.length≤1000000) (h:k (.str (slc s l u))):SliM (.str s) l u k:=⟨_,.str (leSize e),h⟩
theorem sub_strA {s:List Nat} {i n:Nat} {k:V→Prop} (q:k (.str [n])) (h:s[i]?=some n) (hl:s.length≤1000000):SubM (.str s) (.int (i:Int)) k:=SubM.str h (lt62 hl) q
theorem sli_strA {s:List Nat} {l u:Option Int} {k:V→Prop} (h:k (.str (slc s l u))) (e:s.length≤1000000):SliM (.str s) l u k:=sli_str e h
theorem sli_lstA {s:List V} {l u:Option Int} {k:V→Prop} (h:k (.lst (slc s l u))) (e:s.length≤1000000):SliM (.lst s) l u k:=⟨_,.lst (leSize e),h⟩
theorem len_strA {s:List Nat} {Q:V→AH→Prop} (h:Q (.int s.length) H) (e:s.length≤1000000):CallB g d (.builtin "len") [.str s] H Q:=CB.len_str (lt62 e) h
theorem T.chainK {l r₁ r₂:Expr} {op₁ op₂:CmpOp} {pos:Pos} {Q:Bool→AH→Prop} (h:E g Γ d l lo H fun a H₁=>E g Γ d r₁ lo H₁ fun b H₂=>CmpM op₁ a b fun t=>if t then E g Γ d r₂ lo H₂ (fun e H₃=>CmpM op₂ b e fun t'=>Q t' H₃) else Q false H₂) (hm:lastMarks [op₁,op₂] [r₁,r₂]=false):T g Γ d (.Compare l [op₁,op₂] [r₁,r₂] pos) lo H Q:=T.chain2 h hm
noncomputable def notStar (e:Expr):Bool:=!((exV e).2.2.2.2==2)
theorem star_cons {e:Expr} {rest:List Expr} (h:notStar e=true) (env:Env):starEach (e::rest) env=(false,eval e env)::starEach rest env:=by
 cases e <;> first | rfl | exact nomatch h
theorem star_any {rest:List Expr} (h:rest.all notStar=true) (pos:Pos) (env:Env):(backTo pos (starEach rest env)).any (·.1)=false:=by
 induction rest with
 | nil=>rfl
 | cons e r ih =>
  rw [List.all_cons,Qc] at h
  rw [star_cons h.1]
  exact (Bool.false_or _).trans (ih h.2)
theorem Es.consK {e:Expr} {rest:List Expr} {Q:List V→AH→Prop} (h:E g Γ d e lo H (KEs g Γ d rest lo Q)) (hs:notStar e=true):Es g Γ d (e::rest) lo H Q:=Es.cons h (star_cons hs)
theorem E.callBK {x:Str} {p pos:Pos} {id:String} {e:Expr} {rest:List Expr} {Q:V→AH→Prop} (h:Es g Γ d (e::rest) lo H (KCB g d (.builtin id) Q)) (hf:(x,.builtin id)∈Γ.globs) (hs:(e::rest).all notStar=true):E g Γ d (.Call (.Name x p) (e::rest) [] pos) lo H Q :=
 have q:=Bool.and_eq_true_iff.mp hs
 E.callB hf h (star_cons q.1) fun env=>star_any q.2 _ env
theorem E.callTK {x:Str} {p pos:Pos} {T:String} {e:Expr} {rest:List Expr} {Q:V→AH→Prop} (h:Es g Γ d (e::rest) lo H (KCB g d (.type T) Q)) (hf:(x,.type T)∈Γ.globs) (hs:(e::rest).all notStar=true):E g Γ d (.Call (.Name x p) (e::rest) [] pos) lo H Q :=
 have q:=Bool.and_eq_true_iff.mp hs
 E.callT hf h (star_cons q.1) fun env=>star_any q.2 _ env
theorem E.callK {x:Str} {p pos:Pos} {f:Value} {e:Expr} {rest:List Expr} {Q:V→AH→Prop} (h:Es g Γ d (e::rest) lo H (KCl g d f Q)) (hf:(x,f)∈Γ.globs) (hk:keepIn g.K f=true) (hs:(e::rest).all notStar=true):E g Γ d (.Call (.Name x p) (e::rest) [] pos) lo H Q :=
 have q:=Bool.and_eq_true_iff.mp hs
 E.call hf hk h (star_cons q.1) fun env=>star_any q.2 _ env
inductive SM:Str→String→Prop
 | sw:SM "startswith" "str.startswith"
 | fi:SM "find" "str.find"
 | jo:SM "join" "str.join"
 | rf:SM "rfind" "str.rfind"
 | co:SM "count" "str.count"
theorem SM.ok {name:Str} {id:String} (h:SM name id):StrMeth name id:=by
 induction h with
 | sw=>exact sm_startswith
 | fi=>exact sm_find
 | jo=>exact sm_join
 | rf=>exact sm_rfind
 | co=>exact sm_count
theorem E.methK {o:Expr} {name:Str} {id:String} {apos pos:Pos} {e:Expr} {rest:List Expr} {Q:V→AH→Prop} (hm:SM name id) (h:E g Γ d o lo H (KMeth g Γ d id (e::rest) lo Q)) (cf:CallForm o name apos pos (e::rest)) (hs:(e::rest).all notStar=true):E g Γ d (.Call (.Attribute o name apos) (e::rest) [] pos) lo H Q :=
 have q:=Bool.and_eq_true_iff.mp hs
 E.meth hm.ok h (star_cons q.1) (fun env=>star_any q.2 _ env) cf
theorem km_str {id:String} {args:List Expr} {x:List Nat} {Q:V→AH→Prop} (h:Es g Γ d args lo H (KM2 g d id x Q)):KMeth g Γ d id args lo Q (.str x) H:=⟨x,rfl,h⟩
theorem unp_tup {vs:List V} {xs:List Str} {k:Loc→Prop} (h:PutAll xs vs lo k):UnpK (.tup vs) xs lo k:=⟨vs,rfl,h⟩
theorem pa_consK {x:Str} {xs:List Str} {v:V} {vs:List V} {k:Loc→Prop} (h:PutK x v lo (KPa xs vs k)):PutAll (x::xs) (v::vs) lo k:=let ⟨_,a,_,b,q⟩:=h; ⟨_,.cons a b,q⟩
theorem pa_nil {k:Loc→Prop} (h:k lo):PutAll [] [] lo k:=⟨_,.nil,h⟩
theorem S.unpackK {elts:List Expr} (xs:List Str) {x1:Nat} {pos' pos:Pos} {value:Expr} {Q:R→Loc→AH→Prop} (hn:NmEs elts xs) (h:E g Γ d value lo H (KUnp xs lo Q))
  (hs:autoParam (∀ env,swapsWithSole [Expr.Tuple elts x1 pos'] value pos.line env=pure false) irfa) (hw:autoParam (∀ env,swappedStores [Expr.Tuple elts x1 pos'] value env=pure none) irfa):S g Γ d (.Assign [Expr.Tuple elts x1 pos'] value pos) lo H Q:=S.unpack hn h hs hw
theorem E.or2b {x y:Expr} {pos:Pos} {Q:V→AH→Prop} (b:Bool) (hx:E g Γ d x lo H (IsB b H)) (h:b=true→Q (.bool true) H) (h':b=false→E g Γ d y lo H Q):E g Γ d (.BoolOp .Or [x,y] pos) lo H Q :=
 E.or2 (hx.mono fun v H₁ r=>by
  rw [r.1,r.2]
  cases b with
  | true=>exact tm2 (h rfl)
  | false=>exact tm2 (h' rfl))
theorem E.and2b {x y:Expr} {pos:Pos} {Q:V→AH→Prop} (b:Bool) (hx:E g Γ d x lo H (IsB b H)) (h:b=false→Q (.bool false) H) (h':b=true→E g Γ d y lo H Q):E g Γ d (.BoolOp .And [x,y] pos) lo H Q :=
 E.and2 (hx.mono fun v H₁ r=>by
  rw [r.1,r.2]
  cases b with
  | true=>exact tm2 (h' rfl)
  | false=>exact tm2 (h rfl))
theorem T.to {e:Expr} {Q:Bool→AH→Prop} (b:Bool) (ht:T g Γ d e lo H (IsT b H)) (h:Q b H):T g Γ d e lo H Q:=ht.mono fun _ _ r=>by rw [r.1,r.2]; exact h
theorem E.to {e:Expr} {Q:V→AH→Prop} (v:V) (ht:E g Γ d e lo H (IsV v H)) (h:Q v H):E g Γ d e lo H Q:=ht.mono fun _ _ r=>by rw [r.1,r.2]; exact h
theorem E.ifeb {test x y:Expr} {pos:Pos} {Q:V→AH→Prop} (b:Bool) (ht:T g Γ d test lo H (IsT b H)) (h:b=true→E g Γ d x lo H Q) (h':b=false→E g Γ d y lo H Q):E g Γ d (.IfExp test x y pos) lo H Q :=
 E.ife (ht.mono fun v H₁ r=>by
  rw [r.1,r.2]
  cases b with
  | true=>exact h rfl
  | false=>exact h' rfl)
theorem S.ifb {test:Expr} {x y:List Stmt} {pos:Pos} {Q:R→Loc→AH→Prop} (b:Bool) (ht:T g Γ d test lo H (IsT b H)) (h:b=true→Ss g Γ d x lo H Q) (h':b=false→Ss g Γ d y lo H Q):S g Γ d (.If test x y pos) lo H Q :=
 S.if_ (ht.mono fun v H₁ r=>by
  rw [r.1,r.2]
  cases b with
  | true=>exact h rfl
  | false=>exact h' rfl)
theorem S.ifT {test:Expr} {x y:List Stmt} {pos:Pos} {Q:R→Loc→AH→Prop} (ht:T g Γ d test lo H (IsT true H)) (h:Ss g Γ d x lo H Q):S g Γ d (.If test x y pos) lo H Q:=S.ifb true ht (fun _=>h) ntf
theorem S.ifF {test:Expr} {x y:List Stmt} {pos:Pos} {Q:R→Loc→AH→Prop} (ht:T g Γ d test lo H (IsT false H)) (h:Ss g Γ d y lo H Q):S g Γ d (.If test x y pos) lo H Q:=S.ifb false ht nff (fun _=>h)
theorem T.or2b {x y:Expr} {pos:Pos} {Q:Bool→AH→Prop} (b:Bool) (hx:T g Γ d x lo H (IsT b H)) (h:b=true→Q true H) (h':b=false→T g Γ d y lo H Q):T g Γ d (.BoolOp .Or [x,y] pos) lo H Q :=
 T.or (hx.mono fun v H₁ r=>by
  rw [r.1,r.2]
  cases b with
  | true=>exact h rfl
  | false=>exact T.or ((h' rfl).mono fun v H' q=>by cases v <;> first | exact q | exact T.or0 q))
theorem T.and2b {x y:Expr} {pos:Pos} {Q:Bool→AH→Prop} (b:Bool) (hx:T g Γ d x lo H (IsT b H)) (h:b=false→Q false H) (h':b=true→T g Γ d y lo H Q):T g Γ d (.BoolOp .And [x,y] pos) lo H Q :=
 T.and (hx.mono fun v H₁ r=>by
  rw [r.1,r.2]
  cases b with
  | false=>exact h rfl
  | true=>exact T.and ((h' rfl).mono fun v H' q=>by cases v <;> first | exact q | exact T.and0 q))
noncomputable abbrev KApp (a:Addr) (vs:List V) (H:AH) (Q:V→AH→Prop):V→AH→Prop:=fun v H₂=>H₂=(a,.lst vs)::H∧Q .none ((a,.lst (vs++[v]))::H)
noncomputable def KApd (a:Addr) (Q:V→AH→Prop) (v:V) (H₂:AH):Prop:=∃ vs H₃,MUpd a (.lst vs) (.lst (vs++[v])) H₂ H₃∧vs.length≤1000000∧Q .none H₃
theorem KApd.mk {a:Addr} {Q:V→AH→Prop} {v:V} {vs:List V} {H₃:AH} (hu:MUpd a (.lst vs) (.lst (vs++[v])) H H₃) (hl:vs.length≤1000000) (q:Q .none H₃):KApd a Q v H:=⟨vs,H₃,hu,hl,q⟩
theorem E.appendK {x:Str} {p apos pos:Pos} {e:Expr} {a:Addr} {vs₀:List V} {Q:V→AH→Prop} (h:E g Γ d e lo H (KApd a Q)) (hm:(x,.ref a)∈lo) (hin:(a,.lst vs₀)∈H)
  (he:autoParam (∀ env,starEach [e] env=(false,eval e env)::starEach [] env) irfa) (cf:autoParam (CallForm (.Name x p) "append" apos pos [e]) irfc):E g Γ d (.Call (.Attribute (.Name x p) "append" apos) [e] [] pos) lo H Q :=
 E.append (E.loc hm (vne rfl) ⟨a,vs₀,rfl,hin,h⟩) he cf
theorem E.appendH {x:Str} {p apos pos:Pos} {e:Expr} {a:Addr} {vs:List V} {Q:V→AH→Prop} (hm:(x,.ref a)∈lo) (hl:vs.length≤1000000)
  (h:E g Γ d e lo ((a,.lst vs)::H) (KApp a vs H Q))
  (he:autoParam (∀ env,starEach [e] env=(false,eval e env)::starEach [] env) irfa) (cf:autoParam (CallForm (.Name x p) "append" apos pos [e]) irfc):E g Γ d (.Call (.Attribute (.Name x p) "append" apos) [e] [] pos) lo ((a,.lst vs)::H) Q :=
 E.append (E.loc hm (vne rfl) ⟨a,vs,rfl,.head _,h.mono fun v H₂ r=>⟨vs,_,by rw [r.1]; exact .here,hl,r.2⟩⟩) he cf
noncomputable def RpLK (a:Addr) (vs:List V) (lo:Loc) (k:Loc→Prop):Prop:=∃ lo',RpL a vs lo lo'∧k lo'
theorem rk_nil {a:Addr} {vs:List V} {k:Loc→Prop} (h:k []):RpLK a vs [] k:=⟨_,.nil,h⟩
theorem rk_here {a:Addr} {vs:List V} {x:Str} {r:Loc} {k:Loc→Prop} (h:RpLK a vs r fun r'=>k ((x,.lst vs)::r')):RpLK a vs ((x,.ref a)::r) k:=let ⟨_,p,q⟩:=h; ⟨_,.cons .here p,q⟩
theorem rk_skip {a:Addr} {vs:List V} {p:Str × V} {r:Loc} {k:Loc→Prop} (h:RpLK a vs r fun r'=>k (p::r')):RpLK a vs (p::r) k:=let ⟨_,p,q⟩:=h; ⟨_,.cons (.refl _) p,q⟩
noncomputable abbrev KSt (g:Gx) (Γ:Fx) (d:Nat) (st:List Stmt) (H:AH) (Q:R→Loc→AH→Prop):Loc→Prop:=fun lo'=>Ss g Γ d st lo' H Q
theorem Ss.freezeH {a:Addr} {vs:List V} {st:List Stmt} {Q:R→Loc→AH→Prop} (h:RpLK a vs lo (KSt g Γ d st H Q)):Ss g Γ d st lo ((a,.lst vs)::H) Q :=
 let ⟨_,p,q⟩:=h; Ss.freeze .here p (RpH.refl _) q
theorem S.to {st:Stmt} {Q:R→Loc→AH→Prop} (lo₂:Loc) (H₂:AH) (h:S g Γ d st lo H fun r lo' H'=>r=.next∧lo'=lo₂∧H'=H₂) (k:Q .next lo₂ H₂):S g Γ d st lo H Q :=
 h.mono fun r lo' H' q=>by rw [q.1,q.2.1,q.2.2]; exact k
theorem kt {p:Prop} [Decidable p] {a b:Prop} (h:p→a) (h':¬ p→b):if p then a else b:=by by_cases q:p; rw [if_pos q]; exact h q; rw [if_neg q]; exact h' q
theorem val1 {α:Type} {k:α→Prop} {x y:α} (e:x=y) (h:k y):k x:=e ▸ h
theorem val2 {α β:Type} {k:α→β→Prop} {x y:α} {z:β} (e:x=y) (h:k y z):k x z:=e ▸ h
theorem kpos {p:Prop} [Decidable p] {a b:Prop} (hp:p) (h:a):if p then a else b:=by rw [if_pos hp]; exact h
theorem kno {p:Prop} [Decidable p] {a b:Prop} (hp:¬ p) (h:b):if p then a else b:=by rw [if_neg hp]; exact h
end
noncomputable def isUp (n:Nat):Bool:=decide (65≤n)&&decide (n≤90)
noncomputable def isLow (n:Nat):Bool:=decide (97≤n)&&decide (n≤122)
noncomputable def isDig (n:Nat):Bool:=decide (48≤n)&&decide (n≤57)
noncomputable def isNS (n:Nat):Bool:=isUp n||isLow n||n==95||decide (n > 127)
noncomputable def isNm (n:Nat):Bool:=isUp n||isLow n||isDig n||n==95||n==45||decide (n > 127)
noncomputable def isWs (n:Nat):Bool:=n==32||n==10||n==9
theorem set_of {l:List Nat} {p:Nat→Bool} (h1:l.all (· < 128)=true) (h2:(List.range 128).all (fun n=>l.contains n==p n)=true) (h3:∀ n,128≤n→p n=false) (n:Nat):inStr [n] l=p n:=by
 rw [inStr_one]
 by_cases h:n < 128
 ·have:=Qr h2 n (List.mem_range.mpr h)
  exact eq_of_beq this
 ·rw [h3 n (by exact ar1 (.im (.nt (.lt .v0 (.n 128))) (.le (.n 128) .v0)) rfl h)]
  rw [List.contains_eq_mem]
  refine decide_eq_false fun hm=>h ?_
  have:=Qr h1 n hm
  simpa using this
theorem cs_letters (n:Nat):inStr [n] (Str.ofString "abcdefghijklmnopqrstuvwxyzABCDEFGHIJKLMNOPQRSTUVWXYZ_").cps.toList=(isUp n||isLow n||n==95) :=
 set_of (p:=fun n=>(isUp n||isLow n||n==95)) (by decide +kernel) (by decide +kernel) (fun n h=>by simp [isUp,isLow]; exact ar1 (.im (.le (.n 128) .v0) (.an (.an (.im (.le (.n 65) .v0) (.lt (.n 90) .v0)) (.im (.le (.n 97) .v0) (.lt (.n 122) .v0))) (.nt (.eq .v0 (.n 95))))) rfl h) n
theorem cs_name (n:Nat):inStr [n] (Str.ofString "abcdefghijklmnopqrstuvwxyz-_0123456789ABCDEFGHIJKLMNOPQRSTUVWXYZ").cps.toList=(isUp n||isLow n||isDig n||n==95||n==45) :=
 set_of (p:=fun n=>(isUp n||isLow n||isDig n||n==95||n==45)) (by decide +kernel) (by decide +kernel) (fun n h=>by simp [isUp,isLow,isDig]; exact R23 h) n
theorem cs_hash (n:Nat):inStr [n] (Str.ofString "0123456789abcdefghijklmnopqrstuvwxyz-_ABCDEFGHIJKLMNOPQRSTUVWXYZ").cps.toList=(isUp n||isLow n||isDig n||n==95||n==45) :=
 set_of (p:=fun n=>(isUp n||isLow n||isDig n||n==95||n==45)) (by decide +kernel) (by decide +kernel) (fun n h=>by simp [isUp,isLow,isDig]; exact R23 h) n
theorem cs_hex (n:Nat):inStr [n] (Str.ofString "0123456789abcdefABCDEF").cps.toList=isHex n :=
 set_of (p:=fun n=>isHex n) (by decide +kernel) (by decide +kernel) (fun n h=>by simp [isHex]; exact ar1 (.im (.le (.n 128) .v0) (.an (.an (.im (.le (.n 48) .v0) (.lt (.n 57) .v0)) (.im (.le (.n 97) .v0) (.lt (.n 102) .v0))) (.im (.le (.n 65) .v0) (.lt (.n 70) .v0)))) rfl h) n
theorem cs_hexq (n:Nat):inStr [n] (Str.ofString "0123456789abcdefABCDEF?").cps.toList=(isHex n||n==63) :=
 set_of (p:=fun n=>(isHex n||n==63)) (by decide +kernel) (by decide +kernel) (fun n h=>by simp [isHex]; exact ar1 (.im (.le (.n 128) .v0) (.an (.an (.an (.im (.le (.n 48) .v0) (.lt (.n 57) .v0)) (.im (.le (.n 97) .v0) (.lt (.n 102) .v0))) (.im (.le (.n 65) .v0) (.lt (.n 70) .v0))) (.nt (.eq .v0 (.n 63))))) rfl h) n
theorem cs_ws (n:Nat):inStr [n] (Str.ofString " \n\t").cps.toList=isWs n :=
 set_of (p:=fun n=>isWs n) (by decide +kernel) (by decide +kernel) (fun n h=>by simp [isWs]; exact ar1 (.im (.le (.n 128) .v0) (.an (.an (.nt (.eq .v0 (.n 32))) (.nt (.eq .v0 (.n 10)))) (.nt (.eq .v0 (.n 9))))) rfl h) n
section
open PySem.Builtin PySem.Builtin.Str
theorem fromIndex_nat (n i:Nat):fromIndex n (i:Int)=i:=by
 unfold fromIndex
 (first | lia | omega)
theorem swAt_nat (s y:List Nat) (i:Nat) (hy:y≠[]):swAt s y (i:Int)=((s.drop i).take y.length==y):=by
 unfold swAt
 rw [fromIndex_nat]
 by_cases h:i+y.length≤s.length
 ·rw [Qs h,Qo]
 ·rw [decide_eq_false h,Bool.false_and]
  refine (Qk fun e=>h ?_).symm
  have h1:=congrArg List.length e
  rw [Qm,Qa] at h1
  have h2:0 < y.length:=Qn hy
  exact R24 h1 h2
theorem drop_cons {s:List Nat} {i n:Nat} (hi:s[i]?=some n):s.drop i=n::s.drop (i+1):=by
 have:=List.drop_eq_getElem_cons (List.getElem?_eq_some_iff.mp hi).1
 rw [this,(List.getElem?_eq_some_iff.mp hi).2]
theorem get_of_drop {s:List Nat} {i n:Nat} {t:List Nat} (h:s.drop i=n::t):s[i]?=some n∧s.drop (i+1)=t∧i < s.length:=by
 have h1:(s.drop i)[0]?=some n:=by rw [h]; rfl
 rw [List.getElem?_drop] at h1
 have h2:s.drop (i+1)=(s.drop i).drop 1:=by rw [Qe]
 refine ⟨h1,by rw [h2,h]; rfl,(List.getElem?_eq_some_iff.mp h1).1⟩
noncomputable def escOk (r:List Nat):Bool:=r.take 1==[92]&&!(r.take 2==[92,10])
noncomputable def headP (p:Nat→Bool) (r:List Nat):Bool:=match r with
 | []=>false
 | c::_=>p c
theorem lit_nil:(Str.ofString "").cps.toList=[]:=by decide +kernel
theorem lit_rep:(Str.ofString "�").cps.toList=[65533]:=by decide +kernel
theorem one_beq (a b:Nat):(([a]:List Nat)==[b])=(b==a):=by
 rw [Bool.eq_iff_iff,beq_iff_eq,beq_iff_eq]
 exact ⟨fun h=>(List.cons.inj h).1.symm,fun h=>by rw [h]⟩
theorem any2 {a b:Nat} {p:Nat→Bool} (r:List Nat) (h:∀ c,p c=(c==a||c==b)):([V.str [a],V.str [b]].any (eqStr (r.take 1)))=headP p r:=by
 cases r with
 | nil=>rfl
 | cons c t =>
  show ([a]==[c]||([b]==[c]||false))=p c
  rw [one_beq,one_beq,Bool.or_false,h]
theorem ws_one (r:List Nat):([V.str (Str.ofString " ").cps.toList,V.str (Str.ofString "\n").cps.toList,V.str (Str.ofString "\t").cps.toList].any (eqStr (r.take 1)))=headP isWs r:=by
 rw [show (Str.ofString " ").cps.toList=[32] from by decide +kernel,show (Str.ofString "\n").cps.toList=[10] from by decide +kernel,show (Str.ofString "\t").cps.toList=[9] from by decide +kernel]
 cases r with
 | nil=>rfl
 | cons c t =>
  show ([32]==[c]||([10]==[c]||([9]==[c]||false)))=(c==32||c==10||c==9)
  rw [one_beq,one_beq,one_beq,Bool.or_false,Bool.or_assoc]
theorem lit_bs:(Str.ofString "\\").cps.toList=[92]:=by decide +kernel
theorem lit_bsnl:(Str.ofString "\\\n").cps.toList=[92,10]:=by decide +kernel
theorem eqc_dash (n:Nat):([n]==(Str.ofString "-").cps.toList)=(n==45):=by
 rw [show (Str.ofString "-").cps.toList=[45] from by decide +kernel]; simp
theorem eqc_bs (n:Nat):([n]==(Str.ofString "\\").cps.toList)=(n==92):=by
 rw [show (Str.ofString "\\").cps.toList=[92] from by decide +kernel]; simp
theorem eqc_nl (n:Nat):([n]==(Str.ofString "\n").cps.toList)=(n==10):=by
 rw [show (Str.ofString "\n").cps.toList=[10] from by decide +kernel]; simp
theorem eqc_lp (n:Nat):([n]==(Str.ofString "(").cps.toList)=(n==40):=by
 rw [show (Str.ofString "(").cps.toList=[40] from by decide +kernel]; simp
theorem eqc_rp (n:Nat):([n]==(Str.ofString ")").cps.toList)=(n==41):=by
 rw [show (Str.ofString ")").cps.toList=[41] from by decide +kernel]; simp
theorem eqc_dq (n:Nat):([n]==(Str.ofString "\"").cps.toList)=(n==34):=by
 rw [show (Str.ofString "\"").cps.toList=[34] from by decide +kernel]; simp
theorem eqc_sq (n:Nat):([n]==(Str.ofString "'").cps.toList)=(n==39):=by
 rw [show (Str.ofString "'").cps.toList=[39] from by decide +kernel]; simp
theorem eqc_at (n:Nat):([n]==(Str.ofString "@").cps.toList)=(n==64):=by
 rw [show (Str.ofString "@").cps.toList=[64] from by decide +kernel]; simp
theorem eqc_hash (n:Nat):([n]==(Str.ofString "#").cps.toList)=(n==35):=by
 rw [show (Str.ofString "#").cps.toList=[35] from by decide +kernel]; simp
theorem eqc_lc (n:Nat):([n]==(Str.ofString "{").cps.toList)=(n==123):=by
 rw [show (Str.ofString "{").cps.toList=[123] from by decide +kernel]; simp
theorem eqc_lb (n:Nat):([n]==(Str.ofString "[").cps.toList)=(n==91):=by
 rw [show (Str.ofString "[").cps.toList=[91] from by decide +kernel]; simp
theorem eqc_cr (n:Nat):([n]==(Str.ofString "\r").cps.toList)=(n==13):=by
 rw [show (Str.ofString "\r").cps.toList=[13] from by decide +kernel]; simp
theorem eqc_ff (n:Nat):([n]==(Str.ofString "\x0c").cps.toList)=(n==12):=by
 rw [show (Str.ofString "\x0c").cps.toList=[12] from by decide +kernel]; simp
theorem eqc_q (n:Nat):([n]==(Str.ofString "?").cps.toList)=(n==63):=by
 rw [show (Str.ofString "?").cps.toList=[63] from by decide +kernel]; simp
theorem eqc_plus (n:Nat):([n]==(Str.ofString "+").cps.toList)=(n==43):=by
 rw [show (Str.ofString "+").cps.toList=[43] from by decide +kernel]; simp
end
theorem C32 {w:World} {g:Gx} (G:GG w g) {H:AH} {s:List Nat} {i n:Nat} {Q:V→AH→Prop} (hi:s[i]?=some n) (hl:s.length≤1000000) (q:Q (.bool (isNS n)) H):Call g 1 (.ref 635) [.str s,.int i] H Q:=by
 refine Call.def_ (dv:=[]) (D32 G) rfl ⟨rfl,nmm⟩ ?_
 walk_at"n"
 refine Ss.consK ?_
 walk_at"A"
 refine E.or2b (isUp n||isLow n||n==95) ?_ (fun h=>?_) (fun h=>?_)
 ·walk_at"A"
  first | (refine ⟨?_,rfl⟩; rw [cs_letters] <;> rfl; done) | (rw [cs_letters]; exact ⟨rfl,rfl⟩)
 ·have e:isNS n=true:=by unfold isNS; rw [h]; rfl
  rw [← e]; exact q
 ·walk_at"A"
  have e:isNS n=decide ((n:Int) > 127):=by
   unfold isNS; rw [h,Bool.false_or]
   exact decide_eq_decide.mpr (by exact ar1 (.iff (.lt (.n 127) .v0) (.ilt (.n 127) .v0)) rfl)
  rw [← e]; exact q
noncomputable def dashStart (t:List Nat):Bool:=match t with
 | []=>false
 | e::_=>isNS e||e==45
noncomputable def identStart (r:List Nat):Bool:=match r with
 | []=>false
 | c::t=>isNS c||(if c==45 then dashStart t||escOk t else escOk (c::t))
set_option tactic.hygienic true in
theorem C33 {w:World} {g:Gx} (G:GG w g) {H:AH} {s:List Nat} {i n:Nat} {Q:V→AH→Prop} (hi:s[i]?=some n) (hl:s.length≤1000000) (q:Q (.bool (identStart (s.drop i))) H):Call g 2 (.ref 642) [.str s,.int i] H Q:=by
 refine Call.def_ (dv:=[]) (D33 G) rfl ⟨rfl,nmm⟩ ?_
 walk_at"n"
 refine Ss.consK ?_
 refine S.ifK ?_
 walk_at"A"
 refine (C32 G hi hl ?_).le (by walk_at"m")
 walk_at"A"
 have hd:s.drop i=n::s.drop (i+1):=by
  have:=List.drop_eq_getElem_cons (List.getElem?_eq_some_iff.mp hi).1
  rw [this,(List.getElem?_eq_some_iff.mp hi).2]
 rw [hd] at q
 walk_at"l"
 ·rename_i h
  walk_at"A"
  simp only [identStart,h,Bool.true_or] at q
  exact q
 ·rename_i h
  have h:=eq_false_of_ne_true h
  simp only [identStart,h,Bool.false_or] at q
  walk_at"A"
  refine S.ifK ?_
  walk_at"A"
  first | (refine' val1 ?_ ?_; rw [eqc_dash]) | (refine' val2 ?_ ?_; rw [eqc_dash]) | rw [eqc_dash]
  walk_at"l"
  ·rename_i h1
   rw [if_pos h1] at q
   have hn:n=45:=eq_of_beq h1
   subst hn
   walk_at"A"
   generalize ht:s.drop (i+1)=t at q
   refine E.or2b (dashStart t) ?_ (fun ha=>?_) (fun ha=>?_)
   ·refine E.and2b (decide (i+1 < s.length)) ?_ (fun hb=>?_) (fun hb=>?_)
    ·walk_at"A"
     exact ⟨rfl,rfl⟩
    ·have:t=[]:=by rw [← ht]; exact Qp (by simpa using hb)
     subst this
     exact ⟨rfl,rfl⟩
    ·have hb:i+1 < s.length:=by simpa using hb
     obtain ⟨e,t',rfl⟩:∃ e t',t=e::t':=by
      cases t with
      | nil=>exact absurd (List.drop_eq_nil_iff.mp ht) (by exact ar2 (.im (.lt (.a .v1 .n1) .v0) (.nt (.le .v0 (.a .v1 .n1)))) rfl (Ar.t ‹_›))
      | cons e t'=>exact ⟨e,t',rfl⟩
     have hg:=(get_of_drop ht).1
     refine E.or2b (isNS e) ?_ (fun hc=>?_) (fun hc=>?_)
     ·walk_at"A"
      exact (C32 G hg hl ⟨rfl,rfl⟩).le (by walk_at"m")
     ·(try walk_at"k"); simp [dashStart,hc]
     ·walk_at"A"
      rw [eqc_dash]
      (try walk_at"k"); simp [dashStart,hc]
   ·rw [ha] at q
    exact q
   ·rw [ha,Bool.false_or] at q
    refine E.and2b (t.take 1==[92]) ?_ (fun hb=>?_) (fun hb=>?_)
    ·walk_at"A"
     first | (refine ⟨?_,rfl⟩; rw [lit_bs,swAt_nat _ _ _ (by simp),ht] <;> rfl; done) | (rw [lit_bs,swAt_nat _ _ _ (by simp),ht]; exact ⟨rfl,rfl⟩)
    ·have e:escOk t=false:=by unfold escOk; rw [hb]; rfl
     rw [← e]; exact q
    ·walk_at"A"
     rw [lit_bsnl,swAt_nat _ _ _ (by simp),ht]
     have e:escOk t=!(t.take 2==[92,10]):=by unfold escOk; rw [hb]; rfl
     show Q (.bool (!(t.take 2==[92,10]))) H
     rw [← e]; exact q
  ·rename_i h1
   rw [if_neg h1] at q
   walk_at"A"
   refine S.ifK ?_
   walk_at"A"
   first | (refine' val1 ?_ ?_; rw [eqc_bs]) | (refine' val2 ?_ ?_; rw [eqc_bs]) | rw [eqc_bs]
   walk_at"l"
   ·rename_i h2
    walk_at"A"
    rw [lit_bsnl,swAt_nat _ _ _ (by simp),hd]
    have hn:n=92:=eq_of_beq h2
    subst hn
    have e:escOk (92::s.drop (i+1))=!((92::s.drop (i+1)).take 2==[92,10]):=by unfold escOk; simp
    rw [e] at q
    exact q
   ·rename_i h2
    walk_at"A"
    have e:escOk (n::s.drop (i+1))=false:=by
     unfold escOk
     have:([n]==[92])=(n==92):=beq_one n 92
     (try walk_at"k"); simp only [List.take_succ_cons,List.take_zero,this,eq_false_of_ne_true h2,Bool.false_and]
    rw [e] at q
    exact q
noncomputable def hexRun (r:List Nat):List Nat:=(r.take 6).takeWhile isHex
theorem clipAt_nat (n i:Nat):clipAt n (i:Int)=min i n:=by
 unfold clipAt
 rw [if_neg (Int.not_lt.mpr (Int.natCast_nonneg i))]
 rcases Nat.le_total i n with h | h
 ·rw [Int.min_eq_left (Int.ofNat_le.mpr h),Int.max_eq_right (Int.natCast_nonneg i),Nat.min_eq_left h]; rfl
 ·rw [Int.min_eq_right (Int.ofNat_le.mpr h),Int.max_eq_right (Int.natCast_nonneg n),Nat.min_eq_right h]; rfl
theorem drop_clip {α:Type} (s:List α) (a:Nat):s.drop (min a s.length)=s.drop a:=by
 rcases Nat.le_total a s.length with h | h
 ·rw [Nat.min_eq_left h]
 ·rw [Nat.min_eq_right h,List.drop_length,List.drop_eq_nil_of_le h]
theorem clip_sub (a b L:Nat):min (min b L - min a L) (L - a)=min (b - a) (L - a):=by
 rcases Nat.le_total a L with h | h
 ·rw [Nat.min_eq_left h,Nat.sub_min_sub_right,Nat.sub_min_sub_right,Nat.min_assoc,Nat.min_self]
 ·rw [Nat.sub_eq_zero_of_le h,Nat.min_zero,Nat.min_zero]
theorem slc_nat {α:Type} {s:List α} {a b:Nat}:slc s (some (a:Int)) (some (b:Int))=(s.drop a).take (b - a):=by
 show (s.drop (clipAt s.length a)).take (clipAt s.length b - clipAt s.length a)=_
 rw [clipAt_nat,clipAt_nat,drop_clip,List.take_eq_take_iff,Qa]
 exact clip_sub a b s.length
theorem slc_one {s:List Nat} {i:Nat}:slc s (some (i:Int)) (some ((i+1:Nat):Int))=(s.drop i).take 1:=by
 rw [slc_nat,Nat.add_sub_cancel_left]
theorem slc_from {α:Type} {s:List α} {a:Nat}:slc s (some (a:Int)) none=s.drop a:=by
 show (s.drop (clipAt s.length a)).take (s.length - clipAt s.length a)=_
 rw [clipAt_nat,← Qa,List.take_length,drop_clip]
theorem slc_to {α:Type} {s:List α} {a:Nat}:slc s none (some (a:Int))=s.take a:=by
 show (s.drop 0).take (clipAt s.length a - 0)=_
 rw [clipAt_nat,List.drop_zero,Nat.sub_zero,List.take_eq_take_iff,Nat.min_assoc,Nat.min_self]
set_option tactic.hygienic true in
theorem C30 {w:World} {g:Gx} (G:GG w g) {H:AH} {s:List Nat} {i:Nat} {Q:V→AH→Prop} (hl:s.length≤1000000) (q:Q (.int ((i+(hexRun (s.drop i)).length:Nat):Int)) H):Call g 1 (.ref 620) [.str s,.int i] H Q:=by
 refine Call.def_ (dv:=[]) (D30 G) rfl ⟨rfl,nmm⟩ ?_
 walk_at"n"
 refine Ss.consK ?_
 walk_at"A"
 refine S.while_ (J:=fun m lo' H'=>H'=H∧∃ e:Nat,lo'=([("css",V.str s),("pos",V.int i),("end",V.int ((i+e:Nat):Int))]:Loc)∧m=6 - e∧e≤6∧(hexRun (s.drop i)).length=e+(((s.drop (i+e)).take (6 - e)).takeWhile isHex).length) ?_ 6 ?_
 ·rintro m lo' H' ⟨rfl,e,rfl,rfl,he,hr⟩
  generalize hr':s.drop (i+e)=r at hr
  refine T.to (decide (e < 6)&&headP isHex r) ?_ ?_
  ·walk_at"A"
   walk_at"l"
   ·rename_i h
    have h:e < 6:=by have:=Qh h; exact ar2 (.im (.lt (.a .v1 .v0) (.a .v1 (.n 6))) (.lt .v0 (.n 6))) rfl (Ar.t h)
    first | (refine' val1 ?_ ?_; rw [Qs h,Qo]) | (refine' val2 ?_ ?_; rw [Qs h,Qo]) | rw [Qs h,Qo]
    walk_at"A"
    rw [slc_one,lit_nil,hr']
    cases r with
    | nil=>exact ⟨rfl,rfl⟩
    | cons c t =>
     have hg:=(get_of_drop hr').1
     first | refine kpos (by rfl) ?_ | rw [if_pos (by rfl)]
     walk_at"A"
     first | (refine' val1 ?_ ?_; rw [cs_hex]) | (refine' val2 ?_ ?_; rw [cs_hex]) | rw [cs_hex]
     walk_at"l"
     ·rename_i h1
      walk_at"A"
      exact ⟨h1.symm,rfl⟩
     ·rename_i h1
      exact ⟨(eq_false_of_ne_true h1).symm,rfl⟩
   ·rename_i h
    have h:¬ e < 6:=fun q=>h (Qs (by exact ar2 (.im (.lt .v1 (.n 6)) (.lt (.a .v0 .v1) (.a .v0 (.n 6)))) rfl q))
    first | (refine ⟨?_,rfl⟩; rw [decide_eq_false h,Bool.false_and] <;> rfl; done) | (rw [decide_eq_false h,Bool.false_and]; exact ⟨rfl,rfl⟩)
  ·walk_at"l"
   ·rename_i h
    rw [Qc] at h
    have h1:e < 6:=Qh h.1
    cases r with
    | nil=>cases h.2
    | cons c t =>
     have hg:=get_of_drop hr'
     walk_at"A"
     refine ⟨6 - (e+1),by exact ar1 (.im (.lt .v0 (.n 6)) (.lt (.s (.n 6) (.a .v0 .n1)) (.s (.n 6) .v0))) rfl h1,rfl,e+1,rfl,rfl,by walk_at"m",?_⟩
     have e6:6 - e=(6 - (e+1))+1:=by exact ar1 (.im (.lt .v0 (.n 6)) (.eq (.s (.n 6) .v0) (.a (.s (.n 6) (.a .v0 .n1)) .n1))) rfl h1
     have hc:isHex c=true:=h.2
     rw [e6,List.take_succ_cons,Qq,if_pos hc,Qb] at hr
     rw [show i+(e+1)=i+e+1 from rfl,hg.2.1,hr]
     exact AR.h61 _ _
   ·rename_i h
    have h:=eq_false_of_ne_true h
    walk_at"A"
    have:(List.takeWhile isHex (List.take (6 - e) r)).length=0:=by
     rw [Bool.and_eq_false_iff] at h
     rcases h with h | h
     ·have:6 - e=0:=by have:=of_decide_eq_false h; exact ar1 (.im (.nt (.lt .v0 (.n 6))) (.eq (.s (.n 6) .v0) .n0)) rfl (Ar.f h)
      rw [this]; rfl
     ·cases r with
      | nil=>simp
      | cons c t =>
       cases h6:6 - e with
       | zero=>rfl
       | succ k =>
        have h:isHex c=false:=h
        (try walk_at"k"); simp [h]
    rw [hr,this] at q
    exact q
 ·refine ⟨rfl,0,rfl,rfl,by walk_at"m",?_⟩
  (try walk_at"k"); simp [hexRun]
noncomputable def esc (r:List Nat):Nat × Nat :=
 if hexRun r=[] then (match r with
  | []=>(65533,0)
  | c::_=>(c,1))
 else (if 0 < hexVal (hexRun r)∧hexVal (hexRun r)≤1114111 then hexVal (hexRun r) else 65533,(hexRun r).length+if headP isWs (r.drop (hexRun r).length) then 1 else 0)
theorem hexRun_take (r:List Nat):r.take (hexRun r).length=hexRun r:=by
 unfold hexRun
 have h1:(r.take 6).takeWhile isHex=(r.take 6).take ((r.take 6).takeWhile isHex).length:=by
  have:=List.takeWhile_prefix (l:=r.take 6) isHex
  exact (List.prefix_iff_eq_take.mp this)
 have h2:((r.take 6).takeWhile isHex).length≤6:=by
  have:=(List.takeWhile_prefix (l:=r.take 6) isHex).length_le
  rw [Qm] at this; exact R25 this
 generalize ((r.take 6).takeWhile isHex).length=k at h1 h2
 rw [h1,List.take_take,Nat.min_eq_left h2]
theorem hexRun_hex (r:List Nat):∀ c∈hexRun r,isHex c=true:=fun c hc=>by
 have:=List.all_takeWhile (p:=isHex) (l:=r.take 6)
 exact Qr this c hc
theorem hexRun_len (r:List Nat):(hexRun r).length≤6:=by
 have:=(List.takeWhile_prefix (l:=r.take 6) isHex).length_le
 rw [Qm] at this; unfold hexRun; exact R25 this
set_option tactic.hygienic true in
theorem C36 {w:World} {g:Gx} (G:GG w g) {H:AH} {s:List Nat} {i:Nat} {Q:V→AH→Prop} (hl:s.length≤1000000) (q:Q (.tup [.str [(esc (s.drop i)).1],.int ((i+(esc (s.drop i)).2:Nat):Int)]) H):Call g 2 (.ref 663) [.str s,.int i] H Q:=by
 refine Call.def_ (dv:=[]) (D36 G) rfl ⟨rfl,nmm⟩ ?_
 walk_at"n"
 refine Ss.consK ?_
 walk_at"A"
 refine C30 G hl ?_
 walk_at"A"
 refine S.ifK ?_
 walk_at"A"
 have hx:=hexRun_take (s.drop i)
 have hall:=hexRun_hex (s.drop i)
 have hlen:=hexRun_len (s.drop i)
 unfold esc at q
 generalize hexRun (s.drop i)=h at *
 walk_at"l"
 ·rename_i h1
  have h1:h≠[]:=by
   rintro rfl
   have:=Qh h1
   simp at this
  rw [if_neg h1] at q
  walk_at"A"
  first | (refine' val1 ?_ ?_; rw [slc_nat,show i+h.length - i=h.length by walk_at"m",hx]) | (refine' val2 ?_ ?_; rw [slc_nat,show i+h.length - i=h.length by walk_at"m",hx]) | rw [slc_nat,show i+h.length - i=h.length by exact AR.h39 _ _,hx]
  refine CB.hex hall h1 hlen ?_
  walk_at"A"
  refine E.to (.str [if 0 < hexVal h∧hexVal h≤1114111 then hexVal h else 65533]) ?_ ?_
  ·refine E.ifeb (decide (0 < hexVal h)&&decide (hexVal h≤1114111)) ?_ (fun hb=>?_) (fun hb=>?_)
   ·walk_at"A"
    walk_at"l"
    ·rename_i h2
     first | (refine' val1 ?_ ?_; rw [h2,Qo]) | (refine' val2 ?_ ?_; rw [h2,Qo]) | rw [h2,Qo]
     walk_at"A"
     refine ⟨?_,rfl⟩
     exact decide_eq_decide.mpr (by exact ar1 (.iff (.ile .v0 (.n 1114111)) (.le .v0 (.n 1114111))) rfl)
    ·rename_i h2
     first | (refine ⟨?_,rfl⟩; rw [eq_false_of_ne_true h2,Bool.false_and] <;> rfl; done) | (rw [eq_false_of_ne_true h2,Bool.false_and]; exact ⟨rfl,rfl⟩)
   ·rw [Qc,decide_eq_true_eq,decide_eq_true_eq] at hb
    walk_at"A"
    refine CB.chr (by exact AR.h45 _) (by exact ar1 (.im (.an (.lt .n0 .v0) (.le .v0 (.n 1114111))) (.ile .v0 (.n 1114111))) rfl hb) ?_
    first | refine kpos hb ?_ | rw [if_pos hb]
    exact ⟨rfl,rfl⟩
   ·walk_at"A"
    first | (refine ⟨?_,rfl⟩; rw [if_neg (fun q=>by rw [Qs q.1,Qs q.2] at hb; cases hb),lit_rep] <;> rfl; done) | (rw [if_neg (fun q=>by rw [Qs q.1,Qs q.2] at hb; cases hb),lit_rep]; exact ⟨rfl,rfl⟩)
  walk_at"A"
  refine E.to (.int ((i+(h.length+if headP isWs ((s.drop i).drop h.length)=true then 1 else 0):Nat):Int)) ?_ ?_
  ·refine E.ifeb (headP isWs ((s.drop i).drop h.length)) ?_ (fun hb=>?_) (fun hb=>?_)
   ·walk_at"A"
    first | (refine ⟨?_,rfl⟩; rw [slc_one,ws_one,Qe] <;> rfl; done) | (rw [slc_one,ws_one,Qe]; exact ⟨rfl,rfl⟩)
   ·walk_at"A"
    first | refine kpos hb ?_ | rw [if_pos hb]
    exact ⟨rfl,rfl⟩
   ·walk_at"A"
    first | (refine ⟨?_,rfl⟩; rw [if_neg (nf hb)] <;> rfl; done) | (rw [if_neg (nf hb)]; exact ⟨rfl,rfl⟩)
  walk_at"A"
  exact q
 ·rename_i h1
  have h1:h=[]:=by
   have:¬ (i+h.length > i):=fun q=>h1 (Qs q)
   exact Ql (by exact ar2 (.im (.nt (.lt .v1 (.a .v1 .v0))) (.eq .v0 .n0)) rfl (Ar.g h1))
  rw [if_pos h1] at q
  walk_at"A"
  refine S.ifK ?_
  walk_at"A"
  walk_at"l"
  ·rename_i h2
   have h2:i < s.length:=Qh h2
   have hg:=List.getElem?_eq_getElem h2
   have hd:=drop_cons hg
   walk_at"A"
   rw [hd] at q
   exact q
  ·rename_i h2
   have h2:¬ i < s.length:=fun q=>h2 (Qs q)
   walk_at"A"
   rw [Qp (by exact AR.h326 _ _ (Ar.g ‹_›))] at q
   rw [lit_rep]
   exact q
section
set_option genSizeOf false
set_option genInjectivity false
noncomputable def ident:List Nat→List Nat × Nat
 | []=>([],0)
 | c::t=>if isNm c then (c::(ident t).1,(ident t).2+1)
  else if escOk (c::t) then ((esc t).1::(ident (t.drop (esc t).2)).1,(ident (t.drop (esc t).2)).2+(esc t).2+1)
  else ([],0)
 termination_by r=>r.length
 decreasing_by
  all_goals simp
  all_goals exact AR.h72 _ _
theorem ident_nil:ident []=([],0):=by rw [ident]
theorem ident_cons (c:Nat) (t:List Nat):ident (c::t)=if isNm c then (c::(ident t).1,(ident t).2+1)
  else if escOk (c::t) then ((esc t).1::(ident (t.drop (esc t).2)).1,(ident (t.drop (esc t).2)).2+(esc t).2+1)
  else ([],0):=by rw [ident]
set_option tactic.hygienic true in
theorem esc_le (r:List Nat):(esc r).2≤r.length:=by
 unfold esc
 walk_at"l"
 ·cases r with
  | nil=>exact Qd _
  | cons c t=>simp
 ·have h1:(hexRun r).length≤r.length:=by
   have:=congrArg List.length (hexRun_take r)
   rw [Qm] at this; exact R26 this
  show (hexRun r).length+_≤_
  walk_at"l"
  ·rename_i h
   have:(r.drop (hexRun r).length)≠[]:=by rintro e; rw [e] at h; cases h
   have h2:=Qn this
   rw [Qa] at h2
   exact ar2 (.im (.lt .n0 (.s .v1 .v0)) (.le (.a .v0 .n1) .v1)) rfl h2
  ·walk_at"m"
theorem ident_len:∀ (n:Nat) (r:List Nat),r.length≤n→(ident r).1.length≤(ident r).2∧(ident r).2≤r.length
 | _,[],_=>by rw [ident_nil]; simp
 | 0,_::_,h=>by simp at h
 | n+1,c::t,h=>by
  have ht:t.length≤n:=by simpa using h
  first | (refine' val1 ?_ ?_; rw [ident_cons]) | (refine' val2 ?_ ?_; rw [ident_cons]) | rw [ident_cons]
  walk_at"l"
  ·have:=ident_len n t ht
   (try walk_at"k"); simp only [List.length_cons]; exact AR.h123 _ _ _ this
  ·walk_at"l"
   ·have:=ident_len n (t.drop (esc t).2) (by rw [Qa]; exact AR.h210 _ _ _ ht)
    have h2:=esc_le t
    rw [Qa] at this
    (try walk_at"k"); simp only [List.length_cons]; exact AR.h354 _ _ _ _ this h2
   ·(try walk_at"k"); simp
theorem esc_no {s:List Nat} {p n:Nat} (hg:s[p]?=some n) (h:(n==92)=false):escOk (s.drop p)=false:=by
 rw [drop_cons hg]; unfold escOk
 simp only [List.take_succ_cons,List.take_zero,beq_one,h,Bool.false_and]
theorem esc_yes {s:List Nat} {p n:Nat} (hg:s[p]?=some n) (h:(n==92)=true):(!swAt s [92,10] (p:Int))=escOk (s.drop p):=by
 rw [swAt_nat _ _ _ (by simp),drop_cons hg]
 unfold escOk
 have:((n::s.drop (p+1)).take 1==[92])=true:=by simpa using h
 rw [this]; rfl
theorem esc_in {s:List Nat} {p n:Nat} (hg:s[p]?=some n):p+1+(esc (s.drop (p+1))).2≤s.length:=by
 have hk:=esc_le (s.drop (p+1))
 have hp:=(List.getElem?_eq_some_iff.mp hg).1
 rw [Qa] at hk
 exact ar3 (.im (.le .v1 (.s .v2 (.a .v0 .n1))) (.im (.lt .v0 .v2) (.le (.a (.a .v0 .n1) .v1) .v2))) rfl hk hp
theorem ident_stop {s:List Nat} {p n:Nat} (hg:s[p]?=some n) (hn:isNm n=false) (he:escOk (s.drop p)=false):ident (s.drop p)=([],0):=by
 rw [drop_cons hg] at he ⊢
 rw [ident_cons,if_neg (nf hn),if_neg (nf he)]
structure Ch (s X:List Nat) (p sp:Nat) (cs:List (List Nat)) (Y:List Nat):Prop where
 h1:sp≤p
 h2:p≤s.length
 h3:cs.length≤2 * p
 h4:X=cs.flatten++(s.drop sp).take (p - sp)++Y
section
variable {s X Y:List Nat} {p sp n:Nat} {cs:List (List Nat)}
theorem Ch.one (h:Ch s X p sp cs (n::Y)) (hg:s[p]?=some n):Ch s X (p+1) sp cs Y:=by
 have h1:=h.h1
 refine ⟨AR.h282 _ _ h1,(List.getElem?_eq_some_iff.mp hg).1,AR.h279 _ _ h.h3,?_⟩
 rw [h.h4,show p+1 - sp=(p - sp)+1 by exact AR.h122 _ _ h1,List.take_add_one,List.getElem?_drop,show sp+(p - sp)=p by exact AR.h165 _ _ h1,hg,Qf,Qf,Qf]
 rfl
theorem Ch.esc {k:Nat} (h:Ch s X p sp cs (n::Y)) (hk:p+1+k≤s.length):Ch s X (p+1+k) (p+1+k) (cs++[(s.drop sp).take (p - sp)]++[[n]]) Y:=by
 refine ⟨Qd _,hk,?_,?_⟩
 ·have h3:=h.h3
  rw [Qg,Qg]
  exact ar3 (.im (.le .v0 (.m 2 .v1)) (.le (.a (.a .v0 .n1) .n1) (.m 2 (.a (.a .v1 .n1) .v2)))) rfl h3
 ·rw [h.h4,List.flatten_append,List.flatten_append,List.flatten_singleton,List.flatten_singleton,Nat.sub_self,List.take_zero,List.append_nil,Qf,Qf,Qf]
  rfl
theorem Ch.map:cs.map V.str++[V.str (slc s (some (sp:Int)) (some (p:Int)))]++[V.str [n]]=(cs++[(s.drop sp).take (p - sp)]++[[n]]).map V.str:=by
 rw [slc_nat,List.map_append,List.map_append]; rfl
theorem Ch.room (h:Ch s X p sp cs Y) (hl:s.length≤10000):(cs.map V.str).length≤1000000:=by
 rw [List.length_map]; exact AR.h473 _ _ _ h.h3 hl h.h2
theorem Ch.room2 {x:V} (h:Ch s X p sp cs Y) (hl:s.length≤10000):(cs.map V.str++[x]).length≤1000000:=by
 rw [Qg,List.length_map]; exact Nat.succ_le_succ (AR.h477 _ _ _ h.h3 hl h.h2)
theorem Ch.start {i:Nat} (hi:i≤s.length):Ch s Y i i [] Y:=⟨Qd _,hi,Nat.zero_le _,by rw [Nat.sub_self]; rfl⟩
theorem CB.joinCh {g:Gx} {d:Nat} {H:AH} {Q:V→AH→Prop} (h:Ch s X p sp cs []) (hX:X.length≤20000) (hl:s.length≤10000) (q:Q (.str X) H):CallB g d (.builtin "str.join") [.str (Str.ofString "").cps.toList,.lst (cs.map V.str++[.str (slc s (some (sp:Int)) (some (p:Int)))])] H Q:=by
 have e:X=(cs++[(s.drop sp).take (p - sp)]).flatten:=by rw [h.h4,List.append_nil,List.flatten_append,List.flatten_singleton]
 rw [slc_nat,lit_nil,show cs.map V.str++[V.str ((s.drop sp).take (p - sp))]=(cs++[(s.drop sp).take (p - sp)]).map V.str by rw [List.map_append]; rfl]
 rw [e] at hX q
 refine CB.join ?_ q
 rw [Qg]
 exact ar4 (.im (.le .v0 (.n 20000)) (.im (.le .v1 (.m 2 .v2)) (.im (.le .v3 (.n 10000)) (.im (.le .v2 .v3) (.le (.a .v0 (.a .v1 .n1)) (.n 1000000)))))) rfl hX h.h3 hl h.h2
end
inductive J34 (s:List Nat) (i:Nat) (H:AH) (a:Addr):Nat→Loc→AH→Prop
 | mk (p:Nat) {sp:Nat} {cs:List (List Nat)} {cv:V} (h:Ch s (ident (s.drop i)).1 p sp cs (ident (s.drop p)).1) (h5:i+(ident (s.drop i)).2=p+(ident (s.drop p)).2) :
  J34 s i H a (s.length - p) [("css",.str s),("pos",.int p),("chunks",.ref a),("length",.int s.length),("start_pos",.int sp),("c",cv)] ((a,.lst (cs.map V.str))::H)
inductive Q34 (s:List Nat) (i:Nat) (H:AH) (a:Addr):R→Loc→AH→Prop
 | mk {sp:Nat} {cs:List (List Nat)} {cv:V} (h:Ch s (ident (s.drop i)).1 (i+(ident (s.drop i)).2) sp cs []) :
  Q34 s i H a .next [("css",.str s),("pos",.int ((i+(ident (s.drop i)).2:Nat):Int)),("chunks",.ref a),("length",.int s.length),("start_pos",.int sp),("c",cv)] ((a,.lst (cs.map V.str))::H)
section
variable {s:List Nat} {i:Nat} {H:AH} {a:Addr} {p sp n:Nat} {cs:List (List Nat)} {cv:V} (h:Ch s (ident (s.drop i)).1 p sp cs (ident (s.drop p)).1) (h5:i+(ident (s.drop i)).2=p+(ident (s.drop p)).2)
include h h5
theorem J34.nm (hg:s[p]?=some n) (hn:isNm n=true):J34 s i H a (s.length - (p+1)) [("css",.str s),("pos",.int ((p+1:Nat):Int)),("chunks",.ref a),("length",.int s.length),("start_pos",.int sp),("c",cv)] ((a,.lst (cs.map V.str))::H):=by
 rw [drop_cons hg,ident_cons,if_pos hn] at h h5
 exact .mk _ (h.one hg) (h5.trans (AR.h61 _ _))
theorem J34.esc (hg:s[p]?=some n) (hn:isNm n=false) (he:escOk (s.drop p)=true):J34 s i H a (s.length - (p+1+(esc (s.drop (p+1))).2)) [("css",.str s),("pos",.int ((p+1+(esc (s.drop (p+1))).2:Nat):Int)),("chunks",.ref a),("length",.int s.length),("start_pos",.int ((p+1+(esc (s.drop (p+1))).2:Nat):Int)),("c",cv)] ((a,.lst (cs.map V.str++[V.str (slc s (some (sp:Int)) (some (p:Int)))]++[V.str [(esc (s.drop (p+1))).1]]))::H):=by
 rw [drop_cons hg] at he
 rw [drop_cons hg,ident_cons,if_neg (nf hn),if_pos he,Qe] at h h5
 rw [Ch.map]
 exact .mk _ (h.esc (esc_in hg)) (h5.trans (by exact R27))
theorem Q34.of (e:ident (s.drop p)=([],0)):Q34 s i H a .next [("css",.str s),("pos",.int p),("chunks",.ref a),("length",.int s.length),("start_pos",.int sp),("c",cv)] ((a,.lst (cs.map V.str))::H):=by
 rw [e] at h h5
 subst h5
 exact .mk h
end
theorem C34 {w:World} {g:Gx} (G:GG w g) {H:AH} {s:List Nat} {i:Nat} {Q:V→AH→Prop} (hl:s.length≤10000) (hi:i≤s.length) (q:Q (.tup [.str (ident (s.drop i)).1,.int ((i+(ident (s.drop i)).2:Nat):Int)]) H):Call g 3 (.ref 649) [.str s,.int i] H Q:=by
 have hl':s.length≤1000000:=by exact AR.h296 _ hl
 refine Call.def_ (dv:=[]) (D34 G) rfl ⟨rfl,nmm⟩ ?_
 walk_at"n"
 refine Ss.consK ?_
 walk_at"A"
 refine E.lstA ?_
 walk_at"A"
 refine ⟨by simp,fun a=>?_⟩
 walk_at"A"
 refine S.mono (S.while_ (Q:=Q34 s i H a) (J:=J34 s i H a) ?_ (s.length - i) (.mk i (Ch.start hi) rfl)) ?_
 ·intro m lo' H' h
  obtain ⟨p,h,h5⟩:=h
  refine T.to (decide (p < s.length)) ?_ ?_
  ·walk_at"A"
   exact ⟨rfl,rfl⟩
  refine kt (fun hp=>?_) (fun hp=>?_)
  ·obtain ⟨n,hg⟩:∃ n,s[p]?=some n:=⟨_,List.getElem?_eq_getElem (Qh hp)⟩
   walk_at"A"
   refine S.ifb (isNm n) ?_ (fun hn=>?_) (fun hn=>?_)
   ·refine T.or2b (isUp n||isLow n||isDig n||n==95||n==45) ?_ (fun h=>?_) (fun h=>?_)
    ·walk_at"A"
     first | (refine ⟨?_,rfl⟩; rw [cs_name] <;> rfl; done) | (rw [cs_name]; exact ⟨rfl,rfl⟩)
    ·exact ⟨by unfold isNm; rw [h]; rfl,rfl⟩
    ·walk_at"A"
     refine ⟨?_,rfl⟩
     unfold isNm
     rw [h,Bool.false_or]
     exact decide_eq_decide.mpr (by exact AR.h18 _)
   ·walk_at"A"
    exact ⟨_,by exact AR.h195 _ _ (Ar.t hp),J34.nm h h5 hg hn⟩
   ·walk_at"A"
    refine S.ifb (escOk (s.drop p)) ?_ (fun he=>?_) (fun he=>?_)
    ·refine T.and2b (n==92) ?_ (fun h=>?_) (fun h=>?_)
     ·walk_at"A"
      first | (refine ⟨?_,rfl⟩; rw [eqc_bs] <;> rfl; done) | (rw [eqc_bs]; exact ⟨rfl,rfl⟩)
     ·exact ⟨(esc_no hg h).symm,rfl⟩
     ·walk_at"A"
      exact ⟨esc_yes hg h,rfl⟩
    ·walk_at"A"
     refine E.appendH (by walk_at"d") (h.room hl) ?_
     walk_at"A"
     refine ⟨rfl,?_⟩
     walk_at"A"
     refine S.unpackK ["c","pos"] (by repeat constructor) ?_
     walk_at"A"
     refine (C36 G hl' ?_).le (by walk_at"m")
     walk_at"A"
     refine E.appendH (by walk_at"d") (h.room2 hl) ?_
     walk_at"A"
     refine ⟨rfl,?_⟩
     walk_at"A"
     exact ⟨_,by exact R28 (Ar.t hp),J34.esc h h5 hg hn he⟩
    ·walk_at"A"
     exact Q34.of h h5 (ident_stop hg hn he)
  ·walk_at"A"
   exact Q34.of h h5 (by rw [Qp (by exact AR.h326 _ _ (Ar.g ‹_›)),ident_nil])
 ·intro r lo' H' h
  obtain ⟨h⟩:=h
  try dsimp only
  walk_at"A"
  refine E.appendH (by walk_at"d") (h.room hl) ?_
  walk_at"A"
  refine ⟨rfl,?_⟩
  refine Ss.freezeH ?_
  walk_at"j"
  walk_at"A"
  refine CB.joinCh h ?_ hl ?_
  ·have h7:=ident_len _ (s.drop i) (Qd _)
   rw [Qa] at h7
   exact ar4 (.im (.an (.le .v0 .v1) (.le .v1 (.s .v2 .v3))) (.im (.le .v2 (.n 10000)) (.le .v0 (.n 20000)))) rfl h7 hl
  walk_at"A"
  exact q
structure QR where
 val:List Nat
 n:Nat
 st:Nat
noncomputable def qstr (q:Nat):List Nat→QR
 | []=>⟨[],0,2⟩
 | c::t=>if c==q then ⟨[],1,0⟩
  else if c==92 then (if t==[] then ⟨[],1,2⟩
   else if t.head?==some 10 then ⟨(qstr q (t.drop 1)).val,(qstr q (t.drop 1)).n+2,(qstr q (t.drop 1)).st⟩
   else ⟨(esc t).1::(qstr q (t.drop (esc t).2)).val,(qstr q (t.drop (esc t).2)).n+(esc t).2+1,(qstr q (t.drop (esc t).2)).st⟩)
  else if c==10 then ⟨[],0,1⟩
  else ⟨c::(qstr q t).val,(qstr q t).n+1,(qstr q t).st⟩
 termination_by r=>r.length
 decreasing_by
  all_goals simp
  all_goals (first | exact ar1 (.lt (.s .v0 .n1) (.a .v0 .n1)) rfl | exact AR.h72 _ _)
theorem qstr_nil (q:Nat):qstr q []=⟨[],0,2⟩:=by rw [qstr]
theorem qstr_cons (q c:Nat) (t:List Nat):qstr q (c::t)=if c==q then ⟨[],1,0⟩
  else if c==92 then (if t==[] then ⟨[],1,2⟩
   else if t.head?==some 10 then ⟨(qstr q (t.drop 1)).val,(qstr q (t.drop 1)).n+2,(qstr q (t.drop 1)).st⟩
   else ⟨(esc t).1::(qstr q (t.drop (esc t).2)).val,(qstr q (t.drop (esc t).2)).n+(esc t).2+1,(qstr q (t.drop (esc t).2)).st⟩)
  else if c==10 then ⟨[],0,1⟩
  else ⟨c::(qstr q t).val,(qstr q t).n+1,(qstr q t).st⟩:=by rw [qstr]
noncomputable def qres (i:Nat) (r:QR):V:=match r.st with
 | 0=>.tup [.str r.val,.int ((i+r.n:Nat):Int),.none]
 | 1=>.tup [.none,.int ((i+r.n:Nat):Int),.tup [.str (lit "bad-string"),.str (lit "Bad string token")]]
 | _=>.tup [.str r.val,.int ((i+r.n:Nat):Int),.tup [.str (lit "eof-in-string"),.str (lit "EOF in string")]]
set_option tactic.hygienic true in
theorem qstr_len (q:Nat):∀ (n:Nat) (r:List Nat),r.length≤n→(qstr q r).val.length≤(qstr q r).n∧(qstr q r).n≤r.length
 | _,[],_=>by rw [qstr_nil]; simp
 | 0,_::_,h=>by simp at h
 | n+1,c::t,h=>by
  have ht:t.length≤n:=by simpa using h
  first | (refine' val1 ?_ ?_; rw [qstr_cons]) | (refine' val2 ?_ ?_; rw [qstr_cons]) | rw [qstr_cons]
  walk_at"l"
  ·(try walk_at"k"); simp
  ·walk_at"l"
   ·walk_at"l"
    ·(try walk_at"k"); simp
    ·rename_i h0
     have h0:0 < t.length:=Qn (by simpa using h0)
     walk_at"l"
     ·have:=qstr_len q n (t.drop 1) (by rw [Qa]; exact R29 ht)
      rw [Qa] at this
      (try walk_at"k"); simp only [List.length_cons]; exact ar3 (.im (.an (.le .v0 .v1) (.le .v1 (.s .v2 .n1))) (.im (.lt .n0 .v2) (.an (.le .v0 (.a .v1 (.n 2))) (.le (.a .v1 (.n 2)) (.a .v2 .n1))))) rfl this h0
     ·have:=qstr_len q n (t.drop (esc t).2) (by rw [Qa]; exact AR.h210 _ _ _ ht)
      have h2:=esc_le t
      rw [Qa] at this
      (try walk_at"k"); simp only [List.length_cons]; exact AR.h354 _ _ _ _ this h2
   ·walk_at"l"
    ·(try walk_at"k"); simp
    ·have:=qstr_len q n t ht
     (try walk_at"k"); simp only [List.length_cons]; exact AR.h123 _ _ _ this
structure N37 (s:List Nat) (j:Nat) (R:QR) (p sp:Nat) (cs:List (List Nat)) (B:QR):Prop where
 h:Ch s R.val p sp cs B.val
 h5:j+R.n=p+B.n
 hst:R.st=B.st
section
variable {s:List Nat} {j p sp n:Nat} {R B:QR} {cs:List (List Nat)}
theorem N37.one (h:N37 s j R p sp cs ⟨n::B.val,B.n+1,B.st⟩) (hg:s[p]?=some n):N37 s j R (p+1) sp cs B:=⟨h.h.one hg,h.h5.trans (AR.h61 _ _),h.hst⟩
theorem N37.esc {k:Nat} (h:N37 s j R p sp cs ⟨n::B.val,B.n+k+1,B.st⟩) (hk:p+1+k≤s.length):N37 s j R (p+1+k) (p+1+k) (cs++[(s.drop sp).take (p - sp)]++[[n]]) B :=
 ⟨h.h.esc hk,h.h5.trans (by exact R27),h.hst⟩
theorem N37.skip {k:Nat} {Y:List Nat} {m st:Nat} (h:N37 s j R p sp cs ⟨Y,m+k,st⟩) (hk:p+k≤s.length) (h1:1≤k):N37 s j R (p+k) (p+k) (cs++[(s.drop sp).take (p - sp)]) ⟨Y,m,st⟩:=by
 refine ⟨⟨Qd _,hk,?_,?_⟩,h.h5.trans (by exact ar3 (.eq (.a .v0 (.a .v1 .v2)) (.a (.a .v0 .v2) .v1)) rfl),h.hst⟩
 ·have h3:=h.h.h3
  rw [Qg]
  exact ar3 (.im (.le .v0 (.m 2 .v1)) (.im (.le .n1 .v2) (.le (.a .v0 .n1) (.m 2 (.a .v1 .v2))))) rfl h3 h1
 ·rw [h.h.h4,List.flatten_append,List.flatten_singleton,Nat.sub_self,List.take_zero,List.append_nil]
theorem Ch.map1 {s:List Nat} {p sp:Nat} {cs:List (List Nat)}:cs.map V.str++[V.str (slc s (some (sp:Int)) (some (p:Int)))]=(cs++[(s.drop sp).take (p - sp)]).map V.str:=by
 rw [slc_nat,List.map_append]; rfl
end
noncomputable def B35 (q:Nat) (s:List Nat) (p:Nat):QR:=qstr q (s.drop p)
section
variable {q n:Nat} {s:List Nat} {p:Nat} (hg:s[p]?=some n)
include hg
theorem B35_q (h:(n==q)=true):B35 q s p=⟨[],1,0⟩:=by unfold B35; rw [drop_cons hg,qstr_cons,if_pos h]
theorem B35_bs (h:(n==q)=false) (h2:(n==92)=true):B35 q s p=if s.drop (p+1)==[] then ⟨[],1,2⟩
   else if (s.drop (p+1)).head?==some 10 then ⟨(qstr q ((s.drop (p+1)).drop 1)).val,(qstr q ((s.drop (p+1)).drop 1)).n+2,(qstr q ((s.drop (p+1)).drop 1)).st⟩
   else ⟨(esc (s.drop (p+1))).1::(B35 q s (p+1+(esc (s.drop (p+1))).2)).val,(B35 q s (p+1+(esc (s.drop (p+1))).2)).n+(esc (s.drop (p+1))).2+1,(B35 q s (p+1+(esc (s.drop (p+1))).2)).st⟩:=by
 unfold B35; rw [drop_cons hg,qstr_cons,if_neg (nf h),if_pos h2,Qe (i:=(esc (s.drop (p+1))).2)]
theorem B35_eof (h:(n==q)=false) (h2:(n==92)=true) (hb:s.length≤p+1):B35 q s p=⟨(B35 q s (p+1)).val,(B35 q s (p+1)).n+1,(B35 q s (p+1)).st⟩:=by
 have e:s.drop (p+1)=[]:=Qp hb
 rw [B35_bs hg h h2,e,if_pos (by rfl)]
 unfold B35; rw [e,qstr_nil]
theorem B35_nl2 {n2:Nat} (h:(n==q)=false) (h2:(n==92)=true) (hg2:s[p+1]?=some n2) (h3:(n2==10)=true):B35 q s p=⟨(B35 q s (p+2)).val,(B35 q s (p+2)).n+2,(B35 q s (p+2)).st⟩:=by
 rw [B35_bs hg h h2,drop_cons hg2,if_neg (by simp),if_pos (by simpa using h3)]; rfl
theorem B35_esc {n2:Nat} (h:(n==q)=false) (h2:(n==92)=true) (hg2:s[p+1]?=some n2) (h3:(n2==10)=false):B35 q s p=⟨(esc (s.drop (p+1))).1::(B35 q s (p+1+(esc (s.drop (p+1))).2)).val,(B35 q s (p+1+(esc (s.drop (p+1))).2)).n+(esc (s.drop (p+1))).2+1,(B35 q s (p+1+(esc (s.drop (p+1))).2)).st⟩:=by
 rw [B35_bs hg h h2,if_neg (by rw [drop_cons hg2]; simp),if_neg (by rw [drop_cons hg2]; simpa using h3)]
theorem B35_nl (h:(n==q)=false) (h2:(n==92)=false) (h3:(n==10)=true):B35 q s p=⟨[],0,1⟩:=by
 unfold B35; rw [drop_cons hg,qstr_cons,if_neg (nf h),if_neg (nf h2),if_pos h3]
theorem B35_one (h:(n==q)=false) (h2:(n==92)=false) (h3:(n==10)=false):B35 q s p=⟨n::(B35 q s (p+1)).val,(B35 q s (p+1)).n+1,(B35 q s (p+1)).st⟩:=by
 unfold B35; rw [drop_cons hg,qstr_cons,if_neg (nf h),if_neg (nf h2),if_neg (nf h3)]
end
noncomputable abbrev L35 (s:List Nat) (q p:Nat) (ev:V) (a:Addr) (sv cv:V):Loc:=[("css",.str s),("pos",.int p),("error",ev),("quote",.str [q]),("chunks",.ref a),("length",.int s.length),("start_pos",sv),("c",cv)]
inductive J35 (q:Nat) (s:List Nat) (j:Nat) (H:AH) (a:Addr):Nat→Loc→AH→Prop
 | mk (p:Nat) {sp:Nat} {cs:List (List Nat)} {cv:V} (h:N37 s j (B35 q s j) p sp cs (B35 q s p)) :
  J35 q s j H a (s.length - p) (L35 s q p .none a (.int sp) cv) ((a,.lst (cs.map V.str))::H)
inductive Q35 (q:Nat) (s:List Nat) (j:Nat) (H:AH) (a:Addr):R→Loc→AH→Prop
 | ret {v:V} {lo:Loc} (e:v=qres j (B35 q s j)):Q35 q s j H a (.ret v) lo H
 | next {cv sv ev:V} {p:Nat} {cs:List (List Nat)} (e:.tup [.str cs.flatten,.int p,ev]=qres j (B35 q s j)) (h:cs.flatten.length+cs.length≤1000000) (hev:ev≠.unset):Q35 q s j H a .next (L35 s q p ev a sv cv) ((a,.lst (cs.map V.str))::H)
section
variable {q:Nat} {s:List Nat} {j p sp:Nat} {H:AH} {a:Addr} {cs:List (List Nat)}
theorem Q35.small (hl:s.length≤10000) {k st:Nat} (h:N37 s j (B35 q s j) p sp cs ⟨[],k,st⟩):(B35 q s j).val=(cs++[(s.drop sp).take (p - sp)]).flatten∧(cs++[(s.drop sp).take (p - sp)]).flatten.length+(cs++[(s.drop sp).take (p - sp)]).length≤1000000:=by
 have e:(B35 q s j).val=(cs++[(s.drop sp).take (p - sp)]).flatten:=by rw [h.h.h4,List.append_nil,List.flatten_append,List.flatten_singleton]
 have h7:=qstr_len q _ (s.drop j) (Qd _)
 rw [Qa] at h7
 refine ⟨e,?_⟩
 rw [← e,Qg]
 exact ar6 (.im (.le .v0 .v5) (.im (.le .v5 (.s .v3 .v4)) (.im (.le .v1 (.m 2 .v2)) (.im (.le .v2 .v3) (.im (.le .v3 (.n 10000)) (.le (.a .v0 (.a .v1 .n1)) (.n 1000000))))))) rfl h7.1 h7.2 h.h.h3 h.h.h2 hl
theorem Q35.qq {cv sv:V} (hl:s.length≤10000) (h:N37 s j (B35 q s j) p sp cs ⟨[],1,0⟩):Q35 q s j H a .next (L35 s q (p+1) .none a sv cv) ((a,.lst (cs.map V.str++[V.str (slc s (some (sp:Int)) (some (p:Int)))]))::H):=by
 have k:=Q35.small hl h
 rw [Ch.map1]
 refine .next ?_ k.2 nofun
 unfold qres; rw [h.hst,h.h5,k.1]; rfl
theorem Q35.eof {cv sv:V} (hl:s.length≤10000) (h:N37 s j (B35 q s j) p sp cs ⟨[],0,2⟩):Q35 q s j H a .next (L35 s q p (.tup [.str (lit "eof-in-string"),.str (lit "EOF in string")]) a sv cv) ((a,.lst (cs.map V.str++[V.str (slc s (some (sp:Int)) (some (p:Int)))]))::H):=by
 have k:=Q35.small hl h
 rw [Ch.map1]
 refine .next ?_ k.2 nofun
 unfold qres; rw [h.hst,h.h5,k.1]; rfl
theorem Q35.nl {lo:Loc} (h:N37 s j (B35 q s j) p sp cs ⟨[],0,1⟩):Q35 q s j H a (.ret (.tup [.none,.int p,.tup [.str (lit "bad-string"),.str (lit "Bad string token")]])) lo H:=by
 refine .ret ?_
 unfold qres; rw [h.hst,h.h5]; rfl
end
theorem B35_nil {q:Nat} {s:List Nat} {p:Nat} (h:s.length≤p):B35 q s p=⟨[],0,2⟩:=by unfold B35; rw [Qp h,qstr_nil]
theorem C35 {w:World} {g:Gx} (G:GG w g) {H:AH} {s:List Nat} {i q₀:Nat} {Q:V→AH→Prop} (hl:s.length≤10000) (hi:s[i]?=some q₀) (hq:q₀=34∨q₀=39) (q:Q (qres (i+1) (qstr q₀ (s.drop (i+1)))) H):Call g 3 (.ref 656) [.str s,.int i] H Q:=by
 have hl':s.length≤1000000:=by exact AR.h296 _ hl
 refine Call.def_ (dv:=[]) (D35 G) rfl ⟨rfl,nmm⟩ ?_
 walk_at"n"
 refine Ss.consK ?_
 walk_at"A"
 refine ⟨?_,?_⟩
 ·rw [show (Str.ofString "\"").cps.toList=[34] from by decide +kernel,show (Str.ofString "'").cps.toList=[39] from by decide +kernel]
  rcases hq with rfl | rfl <;> decide
 try dsimp only
 walk_at"A"
 refine E.lstA ?_
 walk_at"A"
 refine ⟨by simp,fun a=>?_⟩
 walk_at"A"
 refine S.mono (S.while_ (Q:=Q35 q₀ s (i+1) H a) (J:=J35 q₀ s (i+1) H a) ?_ (s.length - (i+1)) (.mk (i+1) ⟨Ch.start (List.getElem?_eq_some_iff.mp hi).1,rfl,rfl⟩)) ?_
 ·clear q
  intro m lo' H' h
  obtain ⟨p,h⟩:=h
  refine T.to (decide (p < s.length)) ?_ ?_
  ·walk_at"A"
   exact ⟨rfl,rfl⟩
  refine kt (fun hp=>?_) (fun hp=>?_)
  ·obtain ⟨n,hg⟩:∃ n,s[p]?=some n:=⟨_,List.getElem?_eq_getElem (Qh hp)⟩
   walk_at"A"
   refine S.ifb (n==q₀) ?_ (fun hn=>?_) (fun hn=>?_)
   ·walk_at"A"
    exact ⟨by simp,rfl⟩
   ·rw [B35_q hg hn] at h
    walk_at"A"
    refine E.appendH (by walk_at"d") (h.h.room hl) ?_
    walk_at"A"
    refine ⟨rfl,?_⟩
    walk_at"A"
    exact Q35.qq hl h
   walk_at"A"
   refine S.ifb (n==92) ?_ (fun hn2=>?_) (fun hn2=>?_)
   ·walk_at"A"
    first | (refine ⟨?_,rfl⟩; rw [eqc_bs] <;> rfl; done) | (rw [eqc_bs]; exact ⟨rfl,rfl⟩)
   ·walk_at"A"
    refine E.appendH (by walk_at"d") (h.h.room hl) ?_
    walk_at"A"
    refine ⟨rfl,?_⟩
    walk_at"A"
    refine S.ifb (decide (p+1 < s.length)) ?_ (fun hb=>?_) (fun hb=>?_)
    ·walk_at"A"
     exact ⟨rfl,rfl⟩
    ·obtain ⟨n2,hg2⟩:∃ n,s[p+1]?=some n:=⟨_,List.getElem?_eq_getElem (Qh hb)⟩
     walk_at"A"
     refine S.ifb (n2==10) ?_ (fun hc=>?_) (fun hc=>?_)
     ·walk_at"A"
      first | (refine ⟨?_,rfl⟩; rw [eqc_nl] <;> rfl; done) | (rw [eqc_nl]; exact ⟨rfl,rfl⟩)
     ·rw [B35_nl2 hg hn hn2 hg2 hc] at h
      walk_at"A"
      rw [Ch.map1]
      exact ⟨_,by exact R30 (Ar.t hp),.mk (p+2) (h.skip (Qh hb) (by decide))⟩
     ·rw [B35_esc hg hn hn2 hg2 hc] at h
      walk_at"A"
      refine S.unpackK ["c","pos"] (by repeat constructor) ?_
      walk_at"A"
      refine (C36 G hl' ?_).le (by walk_at"m")
      walk_at"A"
      refine E.appendH (by walk_at"d") (h.h.room2 hl) ?_
      walk_at"A"
      refine ⟨rfl,?_⟩
      walk_at"A"
      rw [Ch.map]
      exact ⟨_,by exact R28 (Ar.t hp),.mk _ (h.esc (esc_in hg))⟩
    ·rw [B35_eof hg hn hn2 (Nat.le_of_not_lt (of_decide_eq_false hb))] at h
     walk_at"A"
     rw [Ch.map1]
     exact ⟨_,by exact AR.h195 _ _ (Ar.t hp),.mk (p+1) (h.skip (Qh hp) (by decide))⟩
   ·walk_at"A"
    refine S.ifb (n==10) ?_ (fun hn3=>?_) (fun hn3=>?_)
    ·walk_at"A"
     first | (refine ⟨?_,rfl⟩; rw [eqc_nl] <;> rfl; done) | (rw [eqc_nl]; exact ⟨rfl,rfl⟩)
    ·rw [B35_nl hg hn hn2 hn3] at h
     refine Ss.freezeH ?_
     walk_at"j"
     walk_at"A"
     exact Q35.nl h
    ·rw [B35_one hg hn hn2 hn3] at h
     walk_at"A"
     exact ⟨_,by exact AR.h195 _ _ (Ar.t hp),.mk (p+1) (h.one hg)⟩
  ·rw [B35_nil (Nat.le_of_not_lt fun x=>hp (Qs x))] at h
   walk_at"A"
   refine E.appendH (by walk_at"d") (h.h.room hl) ?_
   walk_at"A"
   refine ⟨rfl,?_⟩
   walk_at"A"
   exact Q35.eof hl h
 ·intro r lo' H' h
  induction h with
  | ret e=>subst e; exact q
  | next e h hev =>
   try dsimp only
   refine Ss.freezeH ?_
   walk_at"j"
   walk_at"A"
   first | (refine' val1 ?_ ?_; rw [lit_nil]) | (refine' val2 ?_ ?_; rw [lit_nil]) | rw [lit_nil]
   refine CB.join h ?_
   walk_at"A"
   have q:Q (qres (i+1) (B35 q₀ s (i+1))) H:=q
   rw [← e] at q
   exact q
end
noncomputable def digs (r:List Nat):Nat:=(r.takeWhile isDig).length
theorem digs_cons (c:Nat) (t:List Nat):digs (c::t)=if isDig c then digs t+1 else 0:=by
 unfold digs; rw [Qq]; split <;> simp
theorem dig_one (r:List Nat):digTab.any (eqStr (r.take 1))=headP isDig r:=by
 have e:digTab=[48,49,50,51,52,53,54,55,56,57].map fun n=>V.str [n]:=by
  unfold digTab lit
  (try walk_at"k"); simp only [List.map_cons,List.map_nil]
  congr 1
 cases r with
 | nil=>decide +kernel
 | cons c t =>
  have h:[48,49,50,51,52,53,54,55,56,57].contains c=isDig c:=by
   rw [← inStr_one]
   exact set_of (p:=isDig) (by decide +kernel) (by decide +kernel) (fun n h=>Bool.and_eq_false_iff.mpr (.inr (decide_eq_false (Nat.not_le.mpr (Nat.lt_of_lt_of_le (by decide:57 < 128) h))))) c
  rw [e,List.any_map]
  refine Eq.trans ?_ h
  rw [List.contains_eq_any_beq]
  exact congrArg (List.any _) (funext fun n=>(beq_one n c).trans BEq.comm)
theorem cmDig {r:List Nat} {k:Bool→Prop} (h:k (headP isDig r)):CmpM .In (.str (r.take 1)) (.tup digTab) k:=cm13 (by rw [dig_one]; exact h) (by decide +kernel)
theorem digTab_is {w:World} {g:Gx} (G:GG w g) (M:Mem) (hM:∀ a o,g.B.get? a=some o→M a o):Is M (.ref 606) (.tup digTab):=by
 refine x22 (G.hK.dig) fun xs n h1 h2=>?_
 exact .tup (hM _ _ (G.ok.kin _ _ h1)) (h2 M)
noncomputable def isSg (n:Nat):Bool:=n==45||n==43
noncomputable def isE (n:Nat):Bool:=n==101||n==69
noncomputable def expo (r:List Nat):Nat :=
 if headP isE r then
  (if headP isDig (r.drop (1+if headP isSg (r.drop 1) then 1 else 0)) then (1+if headP isSg (r.drop 1) then 1 else 0)+digs (r.drop (1+if headP isSg (r.drop 1) then 1 else 0)) else 0)
 else 0
noncomputable def numEnd (r:List Nat):Option (Nat × Bool) :=
 let a:=if headP isSg r then 1 else 0
 let b:=a+digs (r.drop a)
 if headP (·==46) (r.drop b)&&headP isDig (r.drop (b+1)) then
  (let c:=b+2+digs (r.drop (b+2)); some (c+expo (r.drop c),false))
 else if b=a then none
 else some (b+expo (r.drop b),expo (r.drop b)==0)
noncomputable def numV (i:Nat):Option (Nat × Bool)→V
 | none=>.tup [.none,.bool false]
 | some (n,p)=>.tup [.int ((i+n:Nat):Int),.bool p]
noncomputable def stAt (i j:Nat):Stmt:=hdS ((bodyAt i).drop j)
set_option tactic.hygienic true in
theorem S.run {g:Gx} {Γ:Fx} {d:Nat} {H:AH} {test:Expr} {body:List Stmt} {pos:Pos} {Q:R→Loc→AH→Prop} {L:Nat→Loc} {s:List Nat} {p:Nat→Bool} (i:Nat)
  (ht:∀ e,T g Γ d test (L e) H fun b H'=>b=headP p (s.drop e)∧H'=H)
  (hb:∀ e,Ss g Γ d body (L e) H fun r lo' H'=>r=.next∧lo'=L (e+1)∧H'=H)
  (k:Q .next (L (i+((s.drop i).takeWhile p).length)) H):S g Γ d (.While test body [] pos) (L i) H Q:=by
 refine S.while_ (J:=fun m lo' H'=>∃ e,lo'=L e∧H'=H∧m=s.length - e∧e+((s.drop e).takeWhile p).length=i+((s.drop i).takeWhile p).length) ?_ (s.length - i) ⟨i,rfl,rfl,rfl,rfl⟩
 rintro m lo' H' ⟨e,rfl,rfl,rfl,he⟩
 refine T.to (headP p (s.drop e)) (ht e) ?_
 cases hd:s.drop e with
 | nil =>
  rw [hd] at he
  first | refine kno (by exact bn) ?_ | rw [if_neg (by exact bn)]
  refine Ss.nil ?_
  rw [← he] at k
  exact k
 | cons c t =>
  rw [hd,Qq] at he
  have hg:=get_of_drop hd
  walk_at"l"
  ·rename_i h
   have h:p c=true:=h
   rw [if_pos h] at he
   refine (hb e).mono ?_
   rintro r lo' H' ⟨rfl,rfl,rfl⟩
   exact ⟨s.length - (e+1),by walk_at"m",e+1,rfl,rfl,rfl,by rw [hg.2.1]; simp at he; exact ar4 (.im (.eq (.a .v0 (.a .v1 .n1)) (.a .v2 .v3)) (.eq (.a (.a .v0 .n1) .v1) (.a .v2 .v3))) rfl he⟩
  ·rename_i h
   have h:p c=false:=eq_false_of_ne_true h
   rw [if_neg (nf h)] at he
   refine Ss.nil ?_
   rw [← he] at k
   exact k
theorem sg_one (r:List Nat):([V.str (Str.ofString "-").cps.toList,V.str (Str.ofString "+").cps.toList].any (eqStr (r.take 1)))=headP isSg r:=by
 rw [show (Str.ofString "-").cps.toList=[45] from by decide +kernel,show (Str.ofString "+").cps.toList=[43] from by decide +kernel]
 exact any2 r fun _=>rfl
theorem e_one (r:List Nat):([V.str (Str.ofString "e").cps.toList,V.str (Str.ofString "E").cps.toList].any (eqStr (r.take 1)))=headP isE r:=by
 rw [show (Str.ofString "e").cps.toList=[101] from by decide +kernel,show (Str.ofString "E").cps.toList=[69] from by decide +kernel]
 exact any2 r fun _=>rfl
theorem dot_one (r:List Nat):(r.take 1==(Str.ofString ".").cps.toList)=headP (·==46) r:=by
 rw [show (Str.ofString ".").cps.toList=[46] from by decide +kernel]
 cases r with
 | nil=>rfl
 | cons c t=>exact beq_one c 46
noncomputable abbrev L29 (s:List Nat) (i:Nat) (ev sv pv wv:V):Loc:=[("css",.str s),("pos",.int i),("end",ev),("start",sv),("plain",pv),("power",wv)]
theorem int_beq (a b:Nat):((a:Int)==(b:Int))=decide (a=b):=by
 rw [Bool.eq_iff_iff,beq_iff_eq,decide_eq_true_eq]; exact Int.ofNat_inj
noncomputable def sgN (r:List Nat):Nat:=if headP isSg r then 1 else 0
theorem expo_not {r:List Nat} (h:headP isE r=false):expo r=0:=by unfold expo; rw [if_neg (nf h)]
theorem expo_no {s:List Nat} {m:Nat} (h:headP isE (s.drop m)=true) (h2:headP isDig (s.drop (m+1+sgN (s.drop (m+1))))=false):expo (s.drop m)=0:=by
 unfold expo
 rw [if_pos h,Qe,Qe,← Nat.add_assoc,if_neg (by rw [← Bool.not_eq_true] at h2; exact h2)]
theorem expo_yes {s:List Nat} {m:Nat} (h:headP isE (s.drop m)=true) (h2:headP isDig (s.drop (m+1+sgN (s.drop (m+1))))=true):m+expo (s.drop m)=m+1+sgN (s.drop (m+1))+digs (s.drop (m+1+sgN (s.drop (m+1))))∧(expo (s.drop m)==0)=false:=by
 have e:expo (s.drop m)=1+sgN (s.drop (m+1))+digs (s.drop (m+1+sgN (s.drop (m+1)))):=by
  unfold expo
  rw [if_pos h,Qe,Qe,← Nat.add_assoc,if_pos (show headP isDig (s.drop (m+1+if headP isSg (s.drop (m+1)) then 1 else 0))=true from h2)]; rfl
 rw [e]
 refine ⟨ar3 (.eq (.a .v0 (.a (.a .n1 .v1) .v2)) (.a (.a (.a .v0 .n1) .v1) .v2)) rfl,?_⟩
 rw [beq_eq_false_iff_ne]
 exact ar2 (.nt (.eq (.a (.a .n1 .v0) .v1) .n0)) rfl
section
variable {w:World} {g:Gx} (G:GG w g) {d:Nat} {s:List Nat} {i:Nat} {H:AH} {Q:R→Loc→AH→Prop} (hl':s.length≤1000000)
include G hl'
theorem X29 {m:Nat} {pl:Bool} {sv:V} (q:∀ pw,Q .next (L29 s i (.int ((m+expo (s.drop m):Nat):Int)) sv (.bool (pl&&(expo (s.drop m)==0))) pw) H) :
  S g Γ29 d (stAt 28 6) (L29 s i (.int (m:Nat)) sv (.bool pl) .unset) H Q:=by
 refine S.ifb (headP isE (s.drop m)) ?_ (fun h=>?_) (fun h=>?_)
 ·walk_at"A"
  rw [slc_one]
  exact ⟨e_one _,rfl⟩
 ·walk_at"A"
  refine S.to (L29 s i (.int (m:Nat)) sv (.bool pl) (.int ((m+1+sgN (s.drop (m+1)):Nat):Int))) H ?_ ?_
  ·clear q
   unfold sgN
   refine S.ifb (headP isSg (s.drop (m+1))) ?_ (fun h=>?_) (fun h=>?_)
   ·walk_at"A"
    rw [slc_one]
    exact ⟨sg_one _,rfl⟩
   ·rw [if_pos h]
    walk_at"A"
    exact ⟨rfl,rfl,rfl⟩
   ·rw [if_neg (nf h)]
    walk_at"A"
    exact ⟨rfl,rfl,rfl⟩
  try dsimp only
  walk_at"A"
  refine S.ifb (headP isDig (s.drop (m+1+sgN (s.drop (m+1))))) ?_ (fun h2=>?_) (fun h2=>?_)
  ·walk_at"A"
   refine E.glob (by walk_at"d") (fun M hM=>⟨_,digTab_is G M hM,?_⟩)
   rw [slc_one]
   exact cmDig ⟨rfl,rfl⟩
  ·have q:=q (.int ((m+1+sgN (s.drop (m+1)):Nat):Int))
   rw [(expo_yes h h2).1,(expo_yes h h2).2,Bool.and_false] at q
   unfold digs at q
   generalize m+1+sgN (s.drop (m+1))=k at q
   walk_at"A"
   refine S.run (p:=isDig) (s:=s) (L:=fun e=>L29 s i (.int (e:Nat)) sv (.bool false) (.int (k:Nat))) k (fun e=>?_) (fun e=>?_) ?_
   ·walk_at"A"
    refine E.glob (by walk_at"d") (fun M hM=>⟨_,digTab_is G M hM,?_⟩)
    rw [slc_one]
    exact cmDig ⟨rfl,rfl⟩
   ·walk_at"A"
    exact ⟨rfl,rfl,rfl⟩
   walk_at"A"
   exact q
  ·have q:=q (.int ((m+1+sgN (s.drop (m+1)):Nat):Int))
   rw [expo_no h h2,show (pl&&(0==0))=pl from Bool.and_true pl] at q
   walk_at"A"
   exact q
 ·have q:=q .unset
  rw [expo_not h,show (pl&&(0==0))=pl from Bool.and_true pl] at q
  walk_at"A"
  exact q
theorem Y29 {m a:Nat} (q:Q .next (L29 s i (.int ((m+digs (s.drop m):Nat):Int)) (.int (a:Nat)) .unset .unset) H) :
  S g Γ29 d (stAt 28 3) (L29 s i (.int (m:Nat)) (.int (a:Nat)) .unset .unset) H Q:=by
 refine S.run (p:=isDig) (s:=s) (L:=fun e=>L29 s i (.int (e:Nat)) (.int (a:Nat)) .unset .unset) m (fun e=>?_) (fun e=>?_) q
 ·walk_at"A"
  refine E.glob (by walk_at"d") (fun M hM=>⟨_,digTab_is G M hM,?_⟩)
  rw [slc_one]
  exact cmDig ⟨rfl,rfl⟩
 ·walk_at"A"
  exact ⟨rfl,rfl,rfl⟩
end
section
variable {s:List Nat} {i m:Nat}
theorem numEnd_eq:numEnd (s.drop i)=if headP (·==46) (s.drop (i+(sgN (s.drop i)+digs (s.drop (i+sgN (s.drop i))))))&&headP isDig (s.drop (i+(sgN (s.drop i)+digs (s.drop (i+sgN (s.drop i))))+1)) then
   some (sgN (s.drop i)+digs (s.drop (i+sgN (s.drop i)))+2+digs (s.drop (i+(sgN (s.drop i)+digs (s.drop (i+sgN (s.drop i))))+2))+expo (s.drop (i+(sgN (s.drop i)+digs (s.drop (i+sgN (s.drop i)))+2+digs (s.drop (i+(sgN (s.drop i)+digs (s.drop (i+sgN (s.drop i))))+2))))),false)
  else if sgN (s.drop i)+digs (s.drop (i+sgN (s.drop i)))=sgN (s.drop i) then none else some (sgN (s.drop i)+digs (s.drop (i+sgN (s.drop i)))+expo (s.drop (i+(sgN (s.drop i)+digs (s.drop (i+sgN (s.drop i)))))),expo (s.drop (i+(sgN (s.drop i)+digs (s.drop (i+sgN (s.drop i))))))==0):=by
 unfold numEnd
 simp only [List.drop_drop]
 rfl
variable (hm:i+(sgN (s.drop i)+digs (s.drop (i+sgN (s.drop i))))=m)
include hm
theorem ne_pt (h:(headP (·==46) (s.drop m)&&headP isDig (s.drop (m+1)))=true):numV i (numEnd (s.drop i))=.tup [.int ((m+2+digs (s.drop (m+2))+expo (s.drop (m+2+digs (s.drop (m+2)))):Nat):Int),.bool false]:=by
 rw [numEnd_eq,hm,if_pos h]
 have hc:i+(sgN (s.drop i)+digs (s.drop (i+sgN (s.drop i)))+2+digs (s.drop (m+2)))=m+2+digs (s.drop (m+2)):=by rw [← Nat.add_assoc,← Nat.add_assoc,hm]
 unfold numV
 dsimp only
 rw [hc,← Nat.add_assoc i,hc]
theorem ne_none (h:(headP (·==46) (s.drop m)&&headP isDig (s.drop (m+1)))=false) (h2:m=i+sgN (s.drop i)):numV i (numEnd (s.drop i))=.tup [.none,.bool false]:=by
 rw [numEnd_eq,hm,if_neg (nf h),if_pos (Nat.add_left_cancel (hm.trans h2))]; rfl
theorem ne_int (h:(headP (·==46) (s.drop m)&&headP isDig (s.drop (m+1)))=false) (h2:m≠i+sgN (s.drop i)):numV i (numEnd (s.drop i))=.tup [.int ((m+expo (s.drop m):Nat):Int),.bool (expo (s.drop m)==0)]:=by
 rw [numEnd_eq,hm,if_neg (nf h),if_neg (fun e=>h2 (by rw [← hm,e]))]
 unfold numV
 dsimp only
 rw [← Nat.add_assoc i,hm]
end
theorem C29 {w:World} {g:Gx} (G:GG w g) {H:AH} {s:List Nat} {i:Nat} {Q:V→AH→Prop} (hl:s.length≤10000) (q:Q (numV i (numEnd (s.drop i))) H):Call g 1 (.ref 613) [.str s,.int i] H Q:=by
 have hl':s.length≤1000000:=by exact AR.h296 _ hl
 refine Call.def_ (dv:=[]) (D29 G) rfl ⟨rfl,nmm⟩ ?_
 walk_at"n"
 refine Ss.consK ?_
 walk_at"A"
 refine S.to (L29 s i (.int ((i+sgN (s.drop i):Nat):Int)) .unset .unset .unset) H ?_ ?_
 ·clear q
  unfold sgN
  refine S.ifb (headP isSg (s.drop i)) ?_ (fun h=>?_) (fun h=>?_)
  ·walk_at"A"
   rw [slc_one]
   exact ⟨sg_one _,rfl⟩
  ·rw [if_pos h]
   walk_at"A"
   exact ⟨rfl,rfl,rfl⟩
  ·rw [if_neg (nf h)]
   walk_at"A"
   exact ⟨rfl,rfl,rfl⟩
 try dsimp only
 walk_at"A"
 refine Y29 G hl' ?_
 have hm:i+(sgN (s.drop i)+digs (s.drop (i+sgN (s.drop i))))=i+sgN (s.drop i)+digs (s.drop (i+sgN (s.drop i))):=(Nat.add_assoc _ _ _).symm
 generalize i+sgN (s.drop i)+digs (s.drop (i+sgN (s.drop i)))=m at hm
 walk_at"A"
 refine S.ifb (headP (·==46) (s.drop m)&&headP isDig (s.drop (m+1))) ?_ (fun h=>?_) (fun h=>?_)
 ·refine T.and2b (headP (·==46) (s.drop m)) ?_ (fun h=>?_) (fun h=>?_)
  ·walk_at"A"
   rw [slc_one]
   exact ⟨dot_one _,rfl⟩
  ·rw [h]; exact ⟨rfl,rfl⟩
  ·rw [h,Qo]
   walk_at"A"
   refine E.glob (by walk_at"d") (fun M hM=>⟨_,digTab_is G M hM,?_⟩)
   rw [show m+2=m+1+1 from rfl,slc_one]
   exact cmDig ⟨rfl,rfl⟩
 ·rw [ne_pt hm h] at q
  unfold digs at q
  walk_at"A"
  refine S.run (p:=isDig) (s:=s) (L:=fun e=>L29 s i (.int (e:Nat)) (.int ((i+sgN (s.drop i):Nat):Int)) (.bool false) .unset) (m+2) (fun e=>?_) (fun e=>?_) ?_
  ·walk_at"A"
   refine E.glob (by walk_at"d") (fun M hM=>⟨_,digTab_is G M hM,?_⟩)
   rw [slc_one]
   exact cmDig ⟨rfl,rfl⟩
  ·walk_at"A"
   exact ⟨rfl,rfl,rfl⟩
  walk_at"A"
  refine X29 G hl' fun pw=>?_
  walk_at"A"
  exact q
 ·walk_at"A"
  refine S.ifb (decide (m=i+sgN (s.drop i))) ?_ (fun h2=>?_) (fun h2=>?_)
  ·walk_at"A"
   exact ⟨int_beq _ _,rfl⟩
  ·rw [ne_none hm h (Qh h2)] at q
   walk_at"A"
   exact q
  ·rw [ne_int hm h (of_decide_eq_false h2)] at q
   walk_at"A"
   refine X29 G hl' fun pw=>?_
   walk_at"A"
   exact q
section
set_option genSizeOf false
set_option genInjectivity false
theorem cb_ws {g:Gx} {d:Nat} {H:AH} {s:List Nat} {i:Nat} {Q:V→AH→Prop} (h:Q (.bool (headP isWs (s.drop i))) H):CallB g d (.builtin "str.startswith") [.str s,.tup [.str (Str.ofString " ").cps.toList,.str (Str.ofString "\n").cps.toList,.str (Str.ofString "\t").cps.toList],.int (i:Int)] H Q:=by
 first | (refine' val1 ?_ ?_; rw [show (Str.ofString " ").cps.toList=[32] from by decide +kernel,show (Str.ofString "\n").cps.toList=[10] from by decide +kernel,show (Str.ofString "\t").cps.toList=[9] from by decide +kernel]) | (refine' val2 ?_ ?_; rw [show (Str.ofString " ").cps.toList=[32] from by decide +kernel,show (Str.ofString "\n").cps.toList=[10] from by decide +kernel,show (Str.ofString "\t").cps.toList=[9] from by decide +kernel]) | rw [show (Str.ofString " ").cps.toList=[32] from by decide +kernel,show (Str.ofString "\n").cps.toList=[10] from by decide +kernel,show (Str.ofString "\t").cps.toList=[9] from by decide +kernel]
 refine CB.swT (ys:=[[32],[10],[9]]) ?_
 (try walk_at"k"); simp only [List.any_cons,List.any_nil,swAt_nat _ _ _ (List.cons_ne_nil _ _),Bool.or_false]
 have e:((s.drop i).take [32].length==[32]||((s.drop i).take [10].length==[10]||(s.drop i).take [9].length==[9]))=headP isWs (s.drop i):=by
  cases s.drop i with
  | nil=>rfl
  | cons c t =>
   rw [Bool.eq_iff_iff]
   (try walk_at"k"); simp [headP,isWs]
   exact ar1 (.iff (.or (.eq .v0 (.n 32)) (.or (.eq .v0 (.n 10)) (.eq .v0 (.n 9)))) (.or (.or (.eq .v0 (.n 32)) (.eq .v0 (.n 10))) (.eq .v0 (.n 9)))) rfl
 rw [e]; exact h
noncomputable def wsN (r:List Nat):Nat:=(r.takeWhile isWs).length
noncomputable def isBadU (n:Nat):Bool:=n==34||n==39||n==40||decide (n≤8)||n==11||(decide (14≤n)&&decide (n≤31))||n==127
theorem cs_badU (n:Nat):inStr [n] (Str.ofString "\"'(\x00\x01\x02\x03\x04\x05\x06\x07\x08\x0b\x0e\x0f\x10\x11\x12\x13\x14\x15\x16\x17\x18\x19\x1a\x1b\x1c\x1d\x1e\x1f\x7f").cps.toList=isBadU n :=
 set_of (p:=isBadU) (by decide +kernel) (by decide +kernel) (fun n h=>by simp [isBadU]; exact ar1 (.im (.le (.n 128) .v0) (.an (.an (.an (.an (.an (.an (.nt (.eq .v0 (.n 34))) (.nt (.eq .v0 (.n 39)))) (.nt (.eq .v0 (.n 40)))) (.lt (.n 8) .v0)) (.nt (.eq .v0 (.n 11)))) (.im (.le (.n 14) .v0) (.lt (.n 31) .v0))) (.nt (.eq .v0 (.n 127))))) rfl h) n
noncomputable def urlB:List Nat→QR
 | []=>⟨[],0,2⟩
 | c::t=>if c==41 then ⟨[],1,0⟩
  else if isWs c then ⟨[],1,1⟩
  else if escOk (c::t) then ⟨(esc t).1::(urlB (t.drop (esc t).2)).val,(urlB (t.drop (esc t).2)).n+(esc t).2+1,(urlB (t.drop (esc t).2)).st⟩
  else if isBadU c then ⟨[],1,3⟩
  else ⟨c::(urlB t).val,(urlB t).n+1,(urlB t).st⟩
 termination_by r=>r.length
 decreasing_by
  all_goals simp
  all_goals exact AR.h72 _ _
theorem urlB_nil:urlB []=⟨[],0,2⟩:=by rw [urlB]
theorem urlB_cons (c:Nat) (t:List Nat):urlB (c::t)=if c==41 then ⟨[],1,0⟩
  else if isWs c then ⟨[],1,1⟩
  else if escOk (c::t) then ⟨(esc t).1::(urlB (t.drop (esc t).2)).val,(urlB (t.drop (esc t).2)).n+(esc t).2+1,(urlB (t.drop (esc t).2)).st⟩
  else if isBadU c then ⟨[],1,3⟩
  else ⟨c::(urlB t).val,(urlB t).n+1,(urlB t).st⟩:=by rw [urlB]
theorem urlB_len:∀ (n:Nat) (r:List Nat),r.length≤n→(urlB r).val.length≤(urlB r).n∧(urlB r).n≤r.length
 | _,[],_=>by rw [urlB_nil]; simp
 | 0,_::_,h=>by simp at h
 | n+1,c::t,h=>by
  have ht:t.length≤n:=by simpa using h
  first | (refine' val1 ?_ ?_; rw [urlB_cons]) | (refine' val2 ?_ ?_; rw [urlB_cons]) | rw [urlB_cons]
  walk_at"l"
  ·(try walk_at"k"); simp
  ·walk_at"l"
   ·(try walk_at"k"); simp
   ·walk_at"l"
    ·have:=urlB_len n (t.drop (esc t).2) (by rw [Qa]; exact AR.h210 _ _ _ ht)
     have h2:=esc_le t
     rw [Qa] at this
     (try walk_at"k"); simp only [List.length_cons]; exact AR.h354 _ _ _ _ this h2
    ·walk_at"l"
     ·(try walk_at"k"); simp
     ·have:=urlB_len n t ht
      (try walk_at"k"); simp only [List.length_cons]; exact AR.h123 _ _ _ this
noncomputable def urlRem:List Nat→Nat
 | []=>0
 | [_]=>1
 | c::e::t=>if c==92&&e==41 then urlRem t+2 else if c==41 then 1 else urlRem (e::t)+1
theorem urlRem_cons (c e:Nat) (t:List Nat):urlRem (c::e::t)=if c==92&&e==41 then urlRem t+2 else if c==41 then 1 else urlRem (e::t)+1:=rfl
theorem urlRem_le:∀ r:List Nat,urlRem r≤r.length
 | []=>Qd _
 | [_]=>Qd _
 | c::e::t=>by
  have h1:=urlRem_le t
  have h2:=urlRem_le (e::t)
  rw [urlRem_cons]
  simp only [List.length_cons] at h2 ⊢
  walk_at"l"
  ·exact ar2 (.im (.le .v0 .v1) (.le (.a .v0 (.n 2)) (.a (.a .v1 .n1) .n1))) rfl h1
  ·split <;> (first | exact ar1 (.le .n1 (.a (.a .v0 .n1) .n1)) rfl | exact ar2 (.im (.le .v0 (.a .v1 .n1)) (.le (.a .v0 .n1) (.a (.a .v1 .n1) .n1))) rfl h2)
structure UR where
 val:Option (List Nat)
 n:Nat
 err:Nat
noncomputable def urlT (r1:List Nat) (k:Nat) (b:QR):UR:=match b.st with
 | 0=>⟨some b.val,k+b.n,0⟩
 | 2=>⟨some b.val,k+b.n,1⟩
 | 1=>match r1.drop (b.n+wsN (r1.drop b.n)) with
  | []=>⟨some b.val,k+b.n+wsN (r1.drop b.n),1⟩
  | e::t=>if e==41 then ⟨some b.val,k+b.n+wsN (r1.drop b.n)+1,0⟩ else ⟨none,k+b.n+wsN (r1.drop b.n)+urlRem (e::t),2⟩
 | _=>⟨none,k+b.n+urlRem (r1.drop b.n),2⟩
theorem urlT0 {r1:List Nat} {k:Nat} {b:QR} (h:b.st=0):urlT r1 k b=⟨some b.val,k+b.n,0⟩:=by unfold urlT; rw [h]; rfl
theorem urlT1 {r1:List Nat} {k:Nat} {b:QR} (h:b.st=1):urlT r1 k b=match r1.drop (b.n+wsN (r1.drop b.n)) with
  | []=>⟨some b.val,k+b.n+wsN (r1.drop b.n),1⟩
  | e::t=>if e==41 then ⟨some b.val,k+b.n+wsN (r1.drop b.n)+1,0⟩ else ⟨none,k+b.n+wsN (r1.drop b.n)+urlRem (e::t),2⟩:=by unfold urlT; rw [h]; rfl
theorem urlT2 {r1:List Nat} {k:Nat} {b:QR} (h:b.st=2):urlT r1 k b=⟨some b.val,k+b.n,1⟩:=by unfold urlT; rw [h]; rfl
theorem urlT3 {r1:List Nat} {k:Nat} {b:QR} (h:b.st=3):urlT r1 k b=⟨none,k+b.n+urlRem (r1.drop b.n),2⟩:=by unfold urlT; rw [h]; rfl
noncomputable def urlR (r:List Nat):UR:=match r.drop (wsN r) with
 | []=>⟨some [],wsN r,1⟩
 | c::t=>if c==41 then ⟨some [],wsN r+1,0⟩ else urlT (c::t) (wsN r) (urlB (c::t))
noncomputable def optV:Option (List Nat)→V
 | none=>.none
 | some x=>.str x
noncomputable def errU:Nat→V
 | 0=>.none
 | 1=>.tup [.str (lit "eof-in-url"),.str (lit "EOF in URL")]
 | _=>.tup [.str (lit "bad-url"),.str (lit "bad URL token")]
noncomputable def uV (i:Nat) (u:UR):V:=.tup [optV u.val,.int ((i+u.n:Nat):Int),errU u.err]
noncomputable def isQt (n:Nat):Bool:=n==34||n==39
noncomputable def B37 (s:List Nat) (p:Nat):QR:=urlB (s.drop p)
section
variable {s:List Nat} {p n:Nat} (hg:s[p]?=some n)
include hg
theorem B37_rp (h:(n==41)=true):B37 s p=⟨[],1,0⟩:=by unfold B37; rw [drop_cons hg,urlB_cons,if_pos h]
theorem B37_ws (h:(n==41)=false) (h2:isWs n=true):B37 s p=⟨[],1,1⟩:=by unfold B37; rw [drop_cons hg,urlB_cons,if_neg (nf h),if_pos h2]
theorem B37_esc (h:(n==41)=false) (h2:isWs n=false) (h3:escOk (s.drop p)=true):B37 s p=⟨(esc (s.drop (p+1))).1::(B37 s (p+1+(esc (s.drop (p+1))).2)).val,(B37 s (p+1+(esc (s.drop (p+1))).2)).n+(esc (s.drop (p+1))).2+1,(B37 s (p+1+(esc (s.drop (p+1))).2)).st⟩:=by
 unfold B37; rw [drop_cons hg] at h3 ⊢; rw [urlB_cons,if_neg (nf h),if_neg (nf h2),if_pos h3,Qe]
theorem B37_bad (h:(n==41)=false) (h2:isWs n=false) (h3:escOk (s.drop p)=false) (h4:isBadU n=true):B37 s p=⟨[],1,3⟩:=by
 unfold B37; rw [drop_cons hg] at h3 ⊢; rw [urlB_cons,if_neg (nf h),if_neg (nf h2),if_neg (nf h3),if_pos h4]
theorem B37_one (h:(n==41)=false) (h2:isWs n=false) (h3:escOk (s.drop p)=false) (h4:isBadU n=false):B37 s p=⟨n::(B37 s (p+1)).val,(B37 s (p+1)).n+1,(B37 s (p+1)).st⟩:=by
 unfold B37; rw [drop_cons hg] at h3 ⊢; rw [urlB_cons,if_neg (nf h),if_neg (nf h2),if_neg (nf h3),if_neg (nf h4)]
end
theorem B37_nil {s:List Nat} {p:Nat} (h:s.length≤p):B37 s p=⟨[],0,2⟩:=by unfold B37; rw [Qp h,urlB_nil]
inductive J37 (s:List Nat) (j:Nat) (H:AH) (a:Addr):Nat→Loc→AH→Prop
 | mk (p:Nat) {sp:Nat} {cs:List (List Nat)} {cv:V} (h:N37 s j (B37 s j) p sp cs (B37 s p)) :
  J37 s j H a (s.length - p) [("css",.str s),("pos",.int p),("error",.none),("length",.int s.length),("c",cv),("value",.unset),("chunks",.ref a),("start_pos",.int sp)] ((a,.lst (cs.map V.str))::H)
noncomputable abbrev L37 (s:List Nat) (p:Nat) (cv vv ch sv:V):Loc:=[("css",.str s),("pos",.int p),("error",.none),("length",.int s.length),("c",cv),("value",vv),("chunks",ch),("start_pos",sv)]
inductive Q37 (s:List Nat) (i k:Nat) (H:AH):R→Loc→AH→Prop
 | ret {v:V} {lo:Loc} (e:v=uV i (urlT (s.drop (i+k)) k (B37 s (i+k)))):Q37 s i k H (.ret v) lo H
 | ws {cv ch sv:V} (h:(B37 s (i+k)).st=1):Q37 s i k H .next (L37 s (i+k+(B37 s (i+k)).n) cv (.str (B37 s (i+k)).val) ch sv) H
 | bad {cv ch sv:V} (h:(B37 s (i+k)).st=3):Q37 s i k H .next (L37 s (i+k+(B37 s (i+k)).n) cv .none ch sv) H
section
variable {s:List Nat} {i k p sp n:Nat} {cs:List (List Nat)} {H:AH}
theorem Q37.eof {lo:Loc} (h:N37 s (i+k) (B37 s (i+k)) p sp cs ⟨[],0,2⟩):Q37 s i k H (.ret (.tup [.str (B37 s (i+k)).val,.int p,.tup [.str (lit "eof-in-url"),.str (lit "EOF in URL")]])) lo H:=by
 refine .ret ?_
 rw [urlT2 h.hst]
 have:=h.h5
 show _=V.tup [.str _,.int ((i+(k+(B37 s (i+k)).n):Nat):Int),_]
 rw [← Nat.add_assoc,this]; rfl
theorem Q37.rp {lo:Loc} (h:N37 s (i+k) (B37 s (i+k)) p sp cs ⟨[],1,0⟩):Q37 s i k H (.ret (.tup [.str (B37 s (i+k)).val,.int ((p+1:Nat):Int),.none])) lo H:=by
 refine .ret ?_
 rw [urlT0 h.hst]
 have:=h.h5
 show _=V.tup [.str _,.int ((i+(k+(B37 s (i+k)).n):Nat):Int),_]
 rw [← Nat.add_assoc,this]; rfl
theorem Q37.blank {cv ch sv:V} (h:N37 s (i+k) (B37 s (i+k)) p sp cs ⟨[],1,1⟩):Q37 s i k H .next (L37 s (p+1) cv (.str (B37 s (i+k)).val) ch sv) H:=by
 have:=Q37.ws (H:=H) (cv:=cv) (ch:=ch) (sv:=sv) h.hst; rw [h.h5] at this; exact this
theorem Q37.badU {cv ch sv:V} (h:N37 s (i+k) (B37 s (i+k)) p sp cs ⟨[],1,3⟩):Q37 s i k H .next (L37 s (p+1) cv .none ch sv) H:=by
 have:=Q37.bad (H:=H) (cv:=cv) (ch:=ch) (sv:=sv) h.hst; rw [h.h5] at this; exact this
theorem B37_small (hl:s.length≤10000) (p:Nat):(B37 s p).val.length≤20000:=by
 have h:=urlB_len _ (s.drop p) (Qd _)
 rw [Qa] at h
 exact Nat.le_trans h.1 (Nat.le_trans h.2 (by exact ar2 (.im (.le .v0 (.n 10000)) (.le (.s .v0 .v1) (.n 20000))) rfl hl))
end
noncomputable def W37:Stmt:=hdS ((elB (elB ((bodyAt 36).drop 5))).drop 2)
theorem C37a {w:World} {g:Gx} (G:GG w g) {H:AH} {s:List Nat} {i k:Nat} {cv:V} {a:Addr} (hl:s.length≤10000) (hi:i+k≤s.length) :
  S g Γ37 2 W37 [("css",.str s),("pos",.int ((i+k:Nat):Int)),("error",.none),("length",.int s.length),("c",cv),("value",.unset),("chunks",.ref a),("start_pos",.int ((i+k:Nat):Int))] ((a,.lst [])::H) (Q37 s i k H):=by
 have hl':s.length≤1000000:=by exact AR.h296 _ hl
 refine S.while_ (J:=J37 s (i+k) H a) ?_ (s.length - (i+k)) (.mk (i+k) ⟨Ch.start hi,rfl,rfl⟩)
 intro m lo' H' h
 obtain ⟨p,h⟩:=h
 refine T.to true ?_ ?_
 ·walk_at"A"
  exact ⟨rfl,rfl⟩
 refine kpos rfl ?_
 walk_at"A"
 refine S.ifb (decide (p ≥ s.length)) ?_ (fun hp=>?_) (fun hp=>?_)
 ·walk_at"A"
  exact ⟨rfl,rfl⟩
 ·rw [B37_nil (Qh hp)] at h
  walk_at"A"
  refine E.appendH (by walk_at"d") (h.h.room hl) ?_
  walk_at"A"
  refine ⟨rfl,?_⟩
  refine Ss.freezeH ?_
  walk_at"j"
  walk_at"A"
  refine CB.joinCh h.h (B37_small hl _) hl ?_
  walk_at"A"
  exact Q37.eof h
 obtain ⟨n,hg⟩:∃ n,s[p]?=some n:=⟨_,List.getElem?_eq_getElem (Nat.lt_of_not_le (of_decide_eq_false hp))⟩
 walk_at"A"
 refine S.ifb (n==41) ?_ (fun h1=>?_) (fun h1=>?_)
 ·walk_at"A"
  first | (refine ⟨?_,rfl⟩; rw [eqc_rp] <;> rfl; done) | (rw [eqc_rp]; exact ⟨rfl,rfl⟩)
 ·rw [B37_rp hg h1] at h
  walk_at"A"
  refine E.appendH (by walk_at"d") (h.h.room hl) ?_
  walk_at"A"
  refine ⟨rfl,?_⟩
  refine Ss.freezeH ?_
  walk_at"j"
  walk_at"A"
  refine CB.joinCh h.h (B37_small hl _) hl ?_
  walk_at"A"
  exact Q37.rp h
 walk_at"A"
 refine S.ifb (isWs n) ?_ (fun h2=>?_) (fun h2=>?_)
 ·walk_at"A"
  first | (refine ⟨?_,rfl⟩; rw [cs_ws] <;> rfl; done) | (rw [cs_ws]; exact ⟨rfl,rfl⟩)
 ·rw [B37_ws hg h1 h2] at h
  walk_at"A"
  refine E.appendH (by walk_at"d") (h.h.room hl) ?_
  walk_at"A"
  refine ⟨rfl,?_⟩
  refine Ss.freezeH ?_
  walk_at"j"
  walk_at"A"
  refine CB.joinCh h.h (B37_small hl _) hl ?_
  walk_at"A"
  exact Q37.blank h
 walk_at"A"
 refine S.ifb (escOk (s.drop p)) ?_ (fun h3=>?_) (fun h3=>?_)
 ·refine T.and2b (n==92) ?_ (fun h=>?_) (fun h=>?_)
  ·walk_at"A"
   first | (refine ⟨?_,rfl⟩; rw [eqc_bs] <;> rfl; done) | (rw [eqc_bs]; exact ⟨rfl,rfl⟩)
  ·exact ⟨(esc_no hg h).symm,rfl⟩
  ·walk_at"A"
   exact ⟨esc_yes hg h,rfl⟩
 ·rw [B37_esc hg h1 h2 h3] at h
  walk_at"A"
  refine E.appendH (by walk_at"d") (h.h.room hl) ?_
  walk_at"A"
  refine ⟨rfl,?_⟩
  walk_at"A"
  refine S.unpackK ["c","pos"] (by repeat constructor) ?_
  walk_at"A"
  refine (C36 G hl' ?_).le (by walk_at"m")
  walk_at"A"
  refine E.appendH (by walk_at"d") (h.h.room2 hl) ?_
  walk_at"A"
  refine ⟨rfl,?_⟩
  walk_at"A"
  rw [Ch.map]
  exact ⟨_,by exact ar3 (.im (.nt (.le .v0 .v1)) (.lt (.s .v0 (.a (.a .v1 .n1) .v2)) (.s .v0 .v1))) rfl (Ar.f hp),.mk _ (h.esc (esc_in hg))⟩
 walk_at"A"
 refine S.ifb (isBadU n) ?_ (fun h4=>?_) (fun h4=>?_)
 ·walk_at"A"
  first | (refine ⟨?_,rfl⟩; rw [cs_badU] <;> rfl; done) | (rw [cs_badU]; exact ⟨rfl,rfl⟩)
 ·rw [B37_bad hg h1 h2 h3 h4] at h
  refine Ss.freezeH ?_
  walk_at"j"
  walk_at"A"
  exact Q37.badU h
 ·rw [B37_one hg h1 h2 h3 h4] at h
  walk_at"A"
  exact ⟨_,by exact ar2 (.im (.nt (.le .v0 .v1)) (.lt (.s .v0 (.a .v1 .n1)) (.s .v0 .v1))) rfl (Ar.f hp),.mk _ (h.one hg)⟩
inductive J37r (s:List Nat) (e:Nat) (cv vv ch sv:V) (H:AH):Nat→Loc→AH→Prop
 | mk (p:Nat) (h:p+urlRem (s.drop p)=e):J37r s e cv vv ch sv H (s.length - p) (L37 s p cv vv ch sv) H
theorem rem_two {s:List Nat} {p n e:Nat} (hg:s[p]?=some n) (h:(n==92&&(s.drop (p+1)).take 1==[41])=true) (he:p+urlRem (s.drop p)=e):p+2+urlRem (s.drop (p+2))=e:=by
 rw [drop_cons hg] at he
 rw [Qc] at h
 cases ht:s.drop (p+1) with
 | nil=>rw [ht] at h; exact absurd h.2 (by decide)
 | cons c t =>
  rw [ht] at he h
  have hc:c=41:=by simpa using h.2
  have hn:n=92:=by simpa using h.1
  subst hc; subst hn
  rw [urlRem_cons,if_pos (by rfl)] at he
  rw [show s.drop (p+2)=t from (get_of_drop ht).2.1]
  exact ar3 (.im (.eq (.a .v0 (.a .v1 (.n 2))) .v2) (.eq (.a (.a .v0 (.n 2)) .v1) .v2)) rfl he
theorem rem_one {s:List Nat} {p n:Nat} (hg:s[p]?=some n) (h:(n==92&&(s.drop (p+1)).take 1==[41])=false):urlRem (s.drop p)=if n==41 then 1 else urlRem (s.drop (p+1))+1:=by
 rw [drop_cons hg]
 cases ht:s.drop (p+1) with
 | nil=>exact (ite_self 1).symm
 | cons c t =>
  rw [ht] at h
  rw [urlRem_cons,if_neg]
  simp at h ⊢
  exact h
theorem C37b {w:World} {g:Gx} (G:GG w g) {H:AH} {s:List Nat} {p:Nat} {cv vv ch sv:V} {Q:R→Loc→AH→Prop} (hl':s.length≤1000000) (q:Q .next (L37 s (p+urlRem (s.drop p)) cv vv ch sv) H) :
  S g Γ37 2 (stAt 36 7) (L37 s p cv vv ch sv) H Q:=by
 refine S.while_ (J:=J37r s (p+urlRem (s.drop p)) cv vv ch sv H) ?_ (s.length - p) (.mk p rfl)
 intro m lo' H' h
 obtain ⟨p',he⟩:=h
 refine T.to (decide (p' < s.length)) ?_ ?_
 ·walk_at"A"
  exact ⟨rfl,rfl⟩
 refine kt (fun hp=>?_) (fun hp=>?_)
 ·obtain ⟨n,hg⟩:∃ n,s[p']?=some n:=⟨_,List.getElem?_eq_getElem (Qh hp)⟩
  walk_at"A"
  refine S.ifb (n==92&&(s.drop (p'+1)).take 1==[41]) ?_ (fun h=>?_) (fun h=>?_)
  ·walk_at"A"
   rw [show (Str.ofString "\\)").cps.toList=[92,41] from by decide +kernel,swAt_nat _ _ _ (by simp),drop_cons hg]
   exact ⟨rfl,rfl⟩
  ·walk_at"A"
   exact ⟨_,by exact R30 (Ar.t hp),.mk _ (rem_two hg h he)⟩
  ·walk_at"A"
   rw [rem_one hg h] at he
   refine S.ifb (n==41) ?_ (fun h2=>?_) (fun h2=>?_)
   ·walk_at"A"
    first | (refine ⟨?_,rfl⟩; rw [eqc_rp] <;> rfl; done) | (rw [eqc_rp]; exact ⟨rfl,rfl⟩)
   ·rw [if_pos h2] at he
    walk_at"A"
    rw [← he] at q; exact q
   ·rw [if_neg (nf h2)] at he
    walk_at"A"
    exact ⟨_,by exact AR.h195 _ _ (Ar.t hp),.mk _ (by rw [← he]; exact R0)⟩
 ·rw [Qp (by exact AR.h326 _ _ (Ar.g ‹_›))] at he
  walk_at"A"
  rw [← he] at q; exact q
theorem urlT_ws {s:List Nat} {i k p2:Nat} (hst:(B37 s (i+k)).st=1) (e:i+k+(B37 s (i+k)).n+((s.drop (i+k+(B37 s (i+k)).n)).takeWhile isWs).length=p2):urlT (s.drop (i+k)) k (B37 s (i+k))=match s.drop p2 with
  | []=>⟨some (B37 s (i+k)).val,p2 - i,1⟩
  | e::t=>if e==41 then ⟨some (B37 s (i+k)).val,p2 - i+1,0⟩ else ⟨none,p2 - i+urlRem (e::t),2⟩:=by
 rw [urlT1 hst]
 subst e
 simp only [List.drop_drop,wsN]
 rw [show i+k+((B37 s (i+k)).n+(List.takeWhile isWs (List.drop (i+k+(B37 s (i+k)).n) s)).length)=i+k+(B37 s (i+k)).n+(List.takeWhile isWs (List.drop (i+k+(B37 s (i+k)).n) s)).length from (Nat.add_assoc _ _ _).symm,show k+(B37 s (i+k)).n+(List.takeWhile isWs (List.drop (i+k+(B37 s (i+k)).n) s)).length=i+k+(B37 s (i+k)).n+(List.takeWhile isWs (List.drop (i+k+(B37 s (i+k)).n) s)).length - i by exact ar4 (.eq (.a (.a .v1 .v2) .v3) (.s (.a (.a (.a .v0 .v1) .v2) .v3) .v0)) rfl]
theorem uV_sub {i p:Nat} {v:Option (List Nat)} {e:Nat} (h:i≤p):uV i ⟨v,p - i,e⟩=.tup [optV v,.int (p:Int),errU e]:=by
 unfold uV; dsimp only; rw [Nat.add_sub_cancel' h]
theorem C37w {w:World} {g:Gx} (G:GG w g) {H:AH} {s:List Nat} {i k:Nat} {cv ch sv:V} {Q:R→Loc→AH→Prop} (hl':s.length≤1000000) (hst:(B37 s (i+k)).st=1) (q:∀ lo,Q (.ret (uV i (urlT (s.drop (i+k)) k (B37 s (i+k))))) lo H) :
  Ss g Γ37 2 ((bodyAt 36).drop 6) (L37 s (i+k+(B37 s (i+k)).n) cv (.str (B37 s (i+k)).val) ch sv) H Q:=by
 refine Ss.consK (S.ifT ?_ ?_)
 ·walk_at"A"
  exact ⟨rfl,rfl⟩
 have hi:i≤i+k+(B37 s (i+k)).n:=by rw [Nat.add_assoc]; exact Nat.le_add_right _ _
 generalize he:(s.drop (i+k+(B37 s (i+k)).n)).takeWhile isWs=W
 have e:=urlT_ws (i:=i) (k:=k) hst rfl
 rw [he] at e
 rw [e] at q
 generalize i+k+(B37 s (i+k)).n=p at hi he q
 generalize (B37 s (i+k)).val=v at q
 clear e hst
 refine Ss.consK ?_
 refine S.run (p:=isWs) (s:=s) (L:=fun e=>L37 s e cv (.str v) ch sv) p (fun e=>?_) (fun e=>?_) ?_
 ·walk_at"A"
  exact cb_ws (tm2 ⟨rfl,rfl⟩)
 ·walk_at"A"
  exact ⟨rfl,rfl,rfl⟩
 rw [he]
 have hi:=Nat.le_trans hi (Nat.le_add_right p W.length)
 generalize p+W.length=p at q hi
 walk_at"A"
 refine S.ifb (decide (p < s.length)) ?_ (fun h=>?_) (fun h=>?_)
 ·walk_at"A"
  exact ⟨rfl,rfl⟩
 ·obtain ⟨n,hg⟩:∃ n,s[p]?=some n:=⟨_,List.getElem?_eq_getElem (Qh h)⟩
  rw [drop_cons hg] at q
  walk_at"A"
  refine S.ifb (n==41) ?_ (fun h=>?_) (fun h=>?_)
  ·walk_at"A"
   first | (refine ⟨?_,rfl⟩; rw [eqc_rp] <;> rfl; done) | (rw [eqc_rp]; exact ⟨rfl,rfl⟩)
  ·have e:=uV_sub (v:=some v) (e:=0) (Nat.le_succ_of_le hi)
   rw [Nat.succ_sub hi] at e
   dsimp only at q
   rw [if_pos h,e] at q
   walk_at"A"
   exact q _
  ·dsimp only at q
   rw [if_neg (nf h),← drop_cons hg] at q
   have e:=uV_sub (i:=i) (v:=none) (e:=2) (Nat.le_trans hi (Nat.le_add_right p (urlRem (s.drop p))))
   rw [Nat.sub_add_comm hi] at e
   rw [e] at q
   walk_at"A"
   refine C37b G hl' ?_
   walk_at"A"
   exact q _
 ·rw [Qp (Nat.le_of_not_lt (of_decide_eq_false h))] at q
  have e:=uV_sub (v:=some v) (e:=1) hi
  dsimp only at q
  rw [e] at q
  walk_at"A"
  refine S.ifT ?_ ?_
  ·walk_at"A"
   exact ⟨rfl,rfl⟩
  walk_at"A"
  exact q _
theorem C37n {w:World} {g:Gx} (G:GG w g) {H:AH} {s:List Nat} {i k:Nat} {cv ch sv:V} {Q:R→Loc→AH→Prop} (hl':s.length≤1000000) (hst:(B37 s (i+k)).st=3) (q:∀ lo,Q (.ret (uV i (urlT (s.drop (i+k)) k (B37 s (i+k))))) lo H) :
  Ss g Γ37 2 ((bodyAt 36).drop 6) (L37 s (i+k+(B37 s (i+k)).n) cv .none ch sv) H Q:=by
 refine Ss.consK (S.ifF ?_ ?_)
 ·walk_at"A"
  exact ⟨rfl,rfl⟩
 have e:uV i (urlT (s.drop (i+k)) k (B37 s (i+k)))=.tup [.none,.int ((i+k+(B37 s (i+k)).n+urlRem (s.drop (i+k+(B37 s (i+k)).n)):Nat):Int),errU 2]:=by
  rw [urlT3 hst,Qe]
  unfold uV
  dsimp only
  rw [← Nat.add_assoc,← Nat.add_assoc]; rfl
 rw [e] at q
 generalize i+k+(B37 s (i+k)).n=p at q
 walk_at"A"
 refine C37b G hl' ?_
 walk_at"A"
 exact q _
theorem C37 {w:World} {g:Gx} (G:GG w g) {H:AH} {s:List Nat} {i:Nat} {Q:V→AH→Prop} (hl:s.length≤10000) (hi:i≤s.length) (hq:headP isQt ((s.drop i).drop (wsN (s.drop i)))=false) (q:Q (uV i (urlR (s.drop i))) H):Call g 3 (.ref 670) [.str s,.int i] H Q:=by
 have hl':s.length≤1000000:=by exact AR.h296 _ hl
 refine Call.def_ (dv:=[]) (D37 G) rfl ⟨rfl,nmm⟩ ?_
 walk_at"n"
 refine Ss.consK ?_
 walk_at"A"
 refine S.run (p:=isWs) (s:=s) (L:=fun e=>[("css",.str s),("pos",.int e),("error",.none),("length",.int s.length),("c",.unset),("value",.unset),("chunks",.unset),("start_pos",.unset)]) i (fun e=>?_) (fun e=>?_) ?_
 ·walk_at"A"
  exact cb_ws (tm2 ⟨rfl,rfl⟩)
 ·walk_at"A"
  exact ⟨rfl,rfl,rfl⟩
 try dsimp only
 unfold urlR wsN at q
 unfold wsN at hq
 have hk:(List.takeWhile isWs (List.drop i s)).length≤s.length - i:=by
  have:=(List.takeWhile_prefix (l:=List.drop i s) isWs).length_le
  rw [Qa] at this; exact this
 generalize (List.takeWhile isWs (List.drop i s)).length=k at q hq hk
 rw [Qe] at q hq
 walk_at"A"
 refine S.ifb (decide (i+k ≥ s.length)) ?_ (fun h=>?_) (fun h=>?_)
 ·walk_at"A"
  exact ⟨rfl,rfl⟩
 ·have h:=Qh h
  rw [Qp h] at q
  walk_at"A"
  exact q
 have h:=of_decide_eq_false h
 have hp:i+k < s.length:=by exact ar3 (.im (.nt (.le .v2 (.a .v0 .v1))) (.lt (.a .v0 .v1) .v2)) rfl (Ar.f ‹_›)
 have hg:=List.getElem?_eq_getElem hp
 have hd:=drop_cons hg
 generalize s[i+k]=n at hg hd
 rw [hd] at q hq
 have hq:isQt n=false:=hq
 dsimp only at q
 walk_at"A"
 refine S.ifF ?_ ?_
 ·walk_at"A"
  rw [show (Str.ofString "\"").cps.toList=[34] from by decide +kernel,show (Str.ofString "'").cps.toList=[39] from by decide +kernel]
  refine ⟨?_,rfl⟩
  rw [← hq]
  exact any2 [n] fun _=>rfl
 walk_at"A"
 refine S.ifb (n==41) ?_ (fun h=>?_) (fun h=>?_)
 ·walk_at"A"
  first | (refine ⟨?_,rfl⟩; rw [eqc_rp] <;> rfl; done) | (rw [eqc_rp]; exact ⟨rfl,rfl⟩)
 ·rw [if_pos h] at q
  walk_at"A"
  exact q
 rw [if_neg (nf h)] at q
 walk_at"A"
 refine E.lstA ?_
 walk_at"A"
 refine ⟨by simp,fun a=>?_⟩
 walk_at"A"
 refine S.mono (C37a G hl (Nat.le_of_lt hp)) ?_
 intro r lo' H' h
 induction h with
 | ret e=>subst e; rw [← hd] at q; exact q
 | ws hst =>
  rw [← hd] at q
  try dsimp only
  refine Ss.nil ?_
  try dsimp only
  refine Ss.nil ?_
  exact C37w G hl' hst fun _=>q
 | bad hst =>
  rw [← hd] at q
  try dsimp only
  refine Ss.nil ?_
  try dsimp only
  refine Ss.nil ?_
  exact C37n G hl' hst fun _=>q
end
theorem T.andC {g:Gx} {Γ:Fx} {d:Nat} {lo:Loc} {H:AH} {x:Expr} {r:List Expr} {pos:Pos} {Q:Bool→AH→Prop} (b:Bool) (hx:T g Γ d x lo H fun v H₁=>v=b∧H₁=H) (h:b=false→Q false H) (h':b=true→T g Γ d (.BoolOp .And r pos) lo H Q):T g Γ d (.BoolOp .And (x::r) pos) lo H Q :=
 T.and (hx.mono fun v H₁ ⟨e,eH⟩=>by
  subst e; subst eH
  cases v with
  | false=>exact h rfl
  | true=>exact h' rfl)
theorem T.orC {g:Gx} {Γ:Fx} {d:Nat} {lo:Loc} {H:AH} {x:Expr} {r:List Expr} {pos:Pos} {Q:Bool→AH→Prop} (b:Bool) (hx:T g Γ d x lo H fun v H₁=>v=b∧H₁=H) (h:b=true→Q true H) (h':b=false→T g Γ d (.BoolOp .Or r pos) lo H Q):T g Γ d (.BoolOp .Or (x::r) pos) lo H Q :=
 T.or (hx.mono fun v H₁ ⟨e,eH⟩=>by
  subst e; subst eH
  cases v with
  | true=>exact h rfl
  | false=>exact h' rfl)
noncomputable def qRun (r:List Nat):List Nat:=((r.drop (hexRun r).length).take (6 - (hexRun r).length)).takeWhile (·==63)
structure RR where
 a:List Nat
 b:List Nat
 n:Nat
noncomputable def rng (r:List Nat):RR :=
 if qRun r≠[] then ⟨hexRun r++List.replicate (qRun r).length 48,hexRun r++List.replicate (qRun r).length 70,(hexRun r).length+(qRun r).length⟩
 else if headP (·==45) (r.drop (hexRun r).length)&&headP isHex (r.drop ((hexRun r).length+1)) then ⟨hexRun r,hexRun (r.drop ((hexRun r).length+1)),(hexRun r).length+1+(hexRun (r.drop ((hexRun r).length+1))).length⟩
 else ⟨hexRun r,hexRun r,(hexRun r).length⟩
theorem qRun_len (r:List Nat):(hexRun r).length+(qRun r).length≤6:=by
 have:=(List.takeWhile_prefix (l:=(r.drop (hexRun r).length).take (6 - (hexRun r).length)) (·==63)).length_le
 have h:=hexRun_len r
 rw [Qm] at this; unfold qRun; exact ar3 (.im (.le .v1 (.i (.s (.n 6) .v0) .v2)) (.im (.le .v0 (.n 6)) (.le (.a .v0 .v1) (.n 6)))) rfl this h
theorem hexRun_ne {r:List Nat} (h:headP isHex r=true):hexRun r≠[]:=by
 cases r with
 | nil=>cases h
 | cons c t =>
  have h:isHex c=true:=h
  unfold hexRun
  rw [List.take_succ_cons,Qq,if_pos h]
  (try walk_at"k"); simp
set_option tactic.hygienic true in
theorem rng_ok (r:List Nat) (h:headP (fun n=>isHex n||n==63) r=true):((rng r).a≠[]∧(rng r).a.length≤6∧∀ c∈(rng r).a,isHex c=true)∧((rng r).b≠[]∧(rng r).b.length≤6∧∀ c∈(rng r).b,isHex c=true):=by
 have h1:=hexRun_hex r
 have h2:=qRun_len r
 have h3:=hexRun_len r
 have ne:qRun r=[]→hexRun r≠[]:=by
  intro e
  cases r with
  | nil=>cases h
  | cons c t =>
   by_cases hc:isHex c=true
   ·exact hexRun_ne hc
   ·have h:(isHex c||c==63)=true:=h
    rw [eq_false_of_ne_true hc,Bool.false_or] at h
    exfalso
    have hh:hexRun (c::t)=[]:=by
     unfold hexRun
     rw [List.take_succ_cons,Qq,if_neg hc]
    unfold qRun at e
    rw [hh] at e
    simp only [List.length_nil,List.drop_zero,Nat.sub_zero,List.take_succ_cons,List.takeWhile_cons,h,if_true] at e
    cases e
 have pad:∀ x,isHex x=true→∀ c∈hexRun r++List.replicate (qRun r).length x,isHex c=true:=by
  intro x hx c hc
  rcases List.mem_append.mp hc with hc | hc
  ·exact h1 c hc
  ·rw [(List.mem_replicate.mp hc).2]; exact hx
 unfold rng
 walk_at"l"
 ·rename_i hq
  have:0 < (qRun r).length:=Qn hq
  refine ⟨⟨?_,?_,pad 48 (by decide)⟩,⟨?_,?_,pad 70 (by decide)⟩⟩
  ·intro e
   have:=congrArg List.length e
   rw [Qg,List.length_replicate,List.length_nil] at this; exact R31 this ‹_›
  ·(try walk_at"k"); simp; walk_at"m"
  ·intro e
   have:=congrArg List.length e
   rw [Qg,List.length_replicate,List.length_nil] at this; exact R31 this ‹_›
  ·(try walk_at"k"); simp; walk_at"m"
 ·rename_i hq
  have hq:qRun r=[]:=Classical.not_not.mp hq
  walk_at"l"
  ·rename_i h5
   rw [Qc] at h5
   exact ⟨⟨ne hq,h3,h1⟩,⟨hexRun_ne h5.2,hexRun_len _,hexRun_hex _⟩⟩
  ·exact ⟨⟨ne hq,h3,h1⟩,⟨ne hq,h3,h1⟩⟩
theorem hexRun_le (r:List Nat):(hexRun r).length≤r.length:=by
 have:=congrArg List.length (hexRun_take r)
 rw [Qm] at this; exact R26 this
theorem min_nat {a b:Nat}:(if (b:Int) < (a:Int) then (b:Int) else (a:Int))=((min a b:Nat):Int):=by
 split <;> (first | exact ar2 (.im (.ilt .v0 .v1) (.ieq .v0 (.i .v1 .v0))) rfl ‹_› | exact ar2 (.im (.nt (.ilt .v1 .v0)) (.ieq .v0 (.i .v0 .v1))) rfl ‹_›)
theorem rep_flat (n c:Nat):(List.replicate n [c]).flatten=List.replicate n c:=by
 induction n with
 | zero=>rfl
 | succ n ih=>rw [List.replicate_succ,List.flatten_cons,ih]; rfl
theorem headP_take {p:Nat→Bool} {s:List Nat} {m e:Nat}:headP p ((s.take m).drop e)=(decide (e < m)&&headP p (s.drop e)):=by
 rw [List.drop_take]
 by_cases h:e < m
 ·rw [Qs h,Qo]
  cases s.drop e with
  | nil=>simp
  | cons c t =>
   obtain ⟨k,hk⟩:∃ k,m - e=k+1:=⟨m - e - 1,by exact ar2 (.im (.lt .v1 .v0) (.eq (.s .v0 .v1) (.a (.s (.s .v0 .v1) .n1) .n1))) rfl h⟩
   rw [hk]; rfl
 ·rw [decide_eq_false h,Bool.false_and,show m - e=0 by exact ar2 (.im (.nt (.lt .v1 .v0)) (.eq (.s .v0 .v1) .n0)) rfl h]
  rfl
theorem take_min {s:List Nat} {i n:Nat}:(s.take (min (i+n) s.length)).drop i=(s.drop i).take n:=by
 rw [List.drop_take]
 apply List.ext_getElem?
 intro k
 (try walk_at"k"); simp only [List.getElem?_take,List.getElem?_drop]
 by_cases hk:i+k < s.length
 ·by_cases hb:k < n
  ·rw [if_pos (by exact ar4 (.im (.lt (.a .v1 .v0) .v3) (.im (.lt .v0 .v2) (.lt .v0 (.s (.i (.a .v1 .v2) .v3) .v1)))) rfl hk hb),if_pos hb]
  ·rw [if_neg (by exact ar4 (.im (.nt (.lt .v0 .v2)) (.nt (.lt .v0 (.s (.i (.a .v1 .v2) .v3) .v1)))) rfl hb),if_neg hb]
 ·rw [List.getElem?_eq_none (by exact ar3 (.im (.nt (.lt (.a .v1 .v2) .v0)) (.le .v0 (.a .v1 .v2))) rfl hk)]
  split <;> split <;> rfl
theorem C38 {w:World} {g:Gx} (G:GG w g) {H:AH} {s:List Nat} {i:Nat} {Q:V→AH→Prop} (hl:s.length≤10000) (hq:headP (fun n=>isHex n||n==63) (s.drop i)=true) (q:Q (.tup [.int (hexVal (rng (s.drop i)).a:Nat),.int (hexVal (rng (s.drop i)).b:Nat),.int ((i+(rng (s.drop i)).n:Nat):Int)]) H):Call g 3 (.ref 677) [.str s,.int i] H Q:=by
 have hl':s.length≤1000000:=by exact AR.h296 _ hl
 refine Call.def_ (dv:=[]) (D38 G) rfl ⟨rfl,nmm⟩ ?_
 walk_at"n"
 refine Ss.consK ?_
 walk_at"A"
 refine CB.min ?_
 first | (refine' val1 ?_ ?_; rw [min_nat]) | (refine' val2 ?_ ?_; rw [min_nat]) | rw [min_nat]
 walk_at"A"
 have ok:=rng_ok _ hq
 refine S.run (p:=isHex) (s:=s.take (min (i+6) s.length)) (L:=fun e=>[("css",.str s),("pos",.int e),("length",.int s.length),("start_pos",.int i),("max_pos",.int ((min (i+6) s.length:Nat):Int)),("start",.unset),("question_marks",.unset),("end",.unset)]) i (fun e=>?_) (fun e=>?_) ?_
 ·first | (refine' val1 ?_ ?_; rw [headP_take]) | (refine' val2 ?_ ?_; rw [headP_take]) | rw [headP_take]
  refine T.and2b (decide (e < min (i+6) s.length)) ?_ (fun h=>?_) (fun h=>?_)
  ·walk_at"A"
   exact ⟨rfl,rfl⟩
  ·first | (refine ⟨?_,rfl⟩; rw [h] <;> rfl; done) | (rw [h]; exact ⟨rfl,rfl⟩)
  ·rw [h,Qo]
   have h:=Qh h
   have hp:e < s.length:=by exact R32 (Ar.t ‹_›)
   have hg:=List.getElem?_eq_getElem hp
   have hd:=drop_cons hg
   generalize s[e]=n at hg hd
   first | (refine' val1 ?_ ?_; rw [hd]) | (refine' val2 ?_ ?_; rw [hd]) | rw [hd]
   walk_at"A"
   first | (refine ⟨?_,rfl⟩; rw [cs_hex] <;> rfl; done) | (rw [cs_hex]; exact ⟨rfl,rfl⟩)
 ·walk_at"A"
  exact ⟨rfl,rfl,rfl⟩
 rw [take_min,show (((s.drop i).take 6).takeWhile isHex).length=(hexRun (s.drop i)).length from rfl]
 try dsimp only
 have hle:=hexRun_le (s.drop i)
 have hq6:=qRun_len (s.drop i)
 have hht:=hexRun_take (s.drop i)
 have h6:=hexRun_len (s.drop i)
 walk_at"A"
 rw [slc_nat,show i+(hexRun (s.drop i)).length - i=(hexRun (s.drop i)).length by exact AR.h39 _ _,hht]
 generalize hh:(hexRun (s.drop i)).length=h at hle hq6 h6 hht
 rw [Qa] at hle
 refine S.run (p:=(·==63)) (s:=s.take (min (i+6) s.length)) (L:=fun e=>[("css",.str s),("pos",.int e),("length",.int s.length),("start_pos",.int ((i+h:Nat):Int)),("max_pos",.int ((min (i+6) s.length:Nat):Int)),("start",.str (hexRun (s.drop i))),("question_marks",.unset),("end",.unset)]) (i+h) (fun e=>?_) (fun e=>?_) ?_
 ·first | (refine' val1 ?_ ?_; rw [headP_take]) | (refine' val2 ?_ ?_; rw [headP_take]) | rw [headP_take]
  refine T.and2b (decide (e < min (i+6) s.length)) ?_ (fun h=>?_) (fun h=>?_)
  ·walk_at"A"
   exact ⟨rfl,rfl⟩
  ·first | (refine ⟨?_,rfl⟩; rw [h] <;> rfl; done) | (rw [h]; exact ⟨rfl,rfl⟩)
  ·rw [h,Qo]
   have h:=Qh h
   have hp:e < s.length:=by exact R32 (Ar.t ‹_›)
   have hg:=List.getElem?_eq_getElem hp
   have hd:=drop_cons hg
   generalize s[e]=n at hg hd
   first | (refine' val1 ?_ ?_; rw [hd]) | (refine' val2 ?_ ?_; rw [hd]) | rw [hd]
   walk_at"A"
   first | (refine ⟨?_,rfl⟩; rw [eqc_q] <;> rfl; done) | (rw [eqc_q]; exact ⟨rfl,rfl⟩)
 ·walk_at"A"
  exact ⟨rfl,rfl,rfl⟩
 have eq:(((s.take (min (i+6) s.length)).drop (i+h)).takeWhile (·==63))=qRun (s.drop i):=by
  unfold qRun
  rw [hh,show i+6=i+h+(6 - h) by exact ar3 (.im (.le (.a .v1 .v2) (.n 6)) (.eq (.a .v0 (.n 6)) (.a (.a .v0 .v1) (.s (.n 6) .v1)))) rfl hq6,take_min,Qe]
 rw [eq]
 try dsimp only
 unfold rng at q ok
 rw [hh] at q ok
 walk_at"A"
 rw [show (((i+h+(qRun (s.drop i)).length:Nat):Int) - ((i+h:Nat):Int))=((qRun (s.drop i)).length:Int) by exact AR.h0]
 have hqr:(qRun (s.drop i)≠[]) ↔ ((qRun (s.drop i)).length:Int)≠0:=by
  rw [← List.length_pos_iff]; exact ar1 (.iff (.lt .n0 .v0) (.nt (.ieq .v0 .n0))) rfl
 generalize hz:(qRun (s.drop i)).length=z at hqr q hq6
 refine S.ifb ((z:Int) != 0) ?_ (fun h1=>?_) (fun h1=>?_)
 ·walk_at"A"
  exact ⟨rfl,rfl⟩
 ·have h1':qRun (s.drop i)≠[]:=hqr.mpr (by simpa using h1)
  rw [if_pos h1'] at q ok
  walk_at"A"
  refine ⟨_,.smul (by exact AR.h45 _) (by exact R33 hq6) (by decide),?_⟩
  rw [show (Str.ofString "F").cps.toList=[70] from by decide +kernel,show ((z:Int)).toNat=z by exact AR.h51,rep_flat]
  have hs:(hexRun (s.drop i)).length+z≤1000000:=by exact ar3 (.im (.le (.a .v2 .v1) (.n 6)) (.im (.eq .v0 .v2) (.le (.a .v0 .v1) (.n 1000000)))) rfl hq6 hh
  refine bm3 ?_ (leSize (by simp; walk_at"m"))
  walk_at"A"
  refine ⟨_,.smul (by exact AR.h45 _) (by exact R33 hq6) (by decide),?_⟩
  first | (refine' val1 ?_ ?_; rw [show (Str.ofString "0").cps.toList=[48] from by decide +kernel,show ((z:Int)).toNat=z by walk_at"m",rep_flat]) | (refine' val2 ?_ ?_; rw [show (Str.ofString "0").cps.toList=[48] from by decide +kernel,show ((z:Int)).toNat=z by walk_at"m",rep_flat]) | rw [show (Str.ofString "0").cps.toList=[48] from by decide +kernel,show ((z:Int)).toNat=z by exact AR.h51,rep_flat]
  refine bm3 ?_ (leSize (by simp; walk_at"m"))
  walk_at"A"
  rw [hz] at ok
  refine CB.hex ok.1.2.2 ok.1.1 ok.1.2.1 ?_
  walk_at"A"
  refine CB.hex ok.2.2.2 ok.2.1 ok.2.2.1 ?_
  walk_at"A"
  rw [show i+h+z=i+(h+z) by exact R34]
  exact q
 ·have h1':¬ (qRun (s.drop i)≠[]):=fun hn=>by
   have:=hqr.mp hn
   simp at h1; exact ar1 (.im (.nt (.ieq .v0 .n0)) (.im (.eq .v0 .n0) .ff)) rfl this h1
  have hz0:z=0:=by
   have:qRun (s.drop i)=[]:=Classical.not_not.mp h1'
   rw [this] at hz; exact hz.symm
  rw [if_neg h1'] at q ok
  subst hz0
  (try walk_at"k"); simp only [Nat.add_zero]
  walk_at"A"
  simp only [List.drop_drop] at q ok
  refine S.ifb (headP (·==45) (s.drop (i+h))&&headP isHex (s.drop (i+(h+1)))) ?_ (fun h2=>?_) (fun h2=>?_)
  ·refine T.andC (decide (i+h+1 < s.length)) ?_ (fun h2=>?_) (fun h2=>?_)
   ·walk_at"A"
    exact ⟨rfl,rfl⟩
   ·have h2:=of_decide_eq_false h2
    rw [Qp (show s.length≤i+(h+1) by exact ar3 (.im (.nt (.lt (.a (.a .v1 .v2) .n1) .v0)) (.le .v0 (.a .v1 (.a .v2 .n1)))) rfl (Ar.f ‹_›))]
    exact ⟨by simp [headP],rfl⟩
   ·have h2:=Qh h2
    have hp:i+h < s.length:=by exact ar3 (.im (.lt (.a (.a .v0 .v1) .n1) .v2) (.lt (.a .v0 .v1) .v2)) rfl (Ar.t ‹_›)
    have hg:=List.getElem?_eq_getElem hp
    have hd:=drop_cons hg
    have hg2:=List.getElem?_eq_getElem h2
    have hd2:=drop_cons hg2
    generalize s[i+h]=n at hg hd
    generalize s[i+h+1]=n2 at hg2 hd2
    first | (refine' val1 ?_ ?_; rw [hd,show i+(h+1)=i+h+1 from rfl,hd2]) | (refine' val2 ?_ ?_; rw [hd,show i+(h+1)=i+h+1 from rfl,hd2]) | rw [hd,show i+(h+1)=i+h+1 from rfl,hd2]
    refine T.and2b (n==45) ?_ (fun h3=>?_) (fun h3=>?_)
    ·walk_at"A"
     first | (refine ⟨?_,rfl⟩; rw [eqc_dash] <;> rfl; done) | (rw [eqc_dash]; exact ⟨rfl,rfl⟩)
    ·exact ⟨by simp only [headP,h3,Bool.false_and],rfl⟩
    ·walk_at"A"
     rw [cs_hex]
     exact ⟨by simp only [headP,h3,Bool.true_and],rfl⟩
  ·rw [if_pos h2] at q ok
   walk_at"A"
   refine CB.min ?_
   first | (refine' val1 ?_ ?_; rw [show i+h+1+6=(i+h+1)+6 from rfl,min_nat]) | (refine' val2 ?_ ?_; rw [show i+h+1+6=(i+h+1)+6 from rfl,min_nat]) | rw [show i+h+1+6=(i+h+1)+6 from rfl,min_nat]
   walk_at"A"
   refine S.run (p:=isHex) (s:=s.take (min (i+h+1+6) s.length)) (L:=fun e=>[("css",.str s),("pos",.int e),("length",.int s.length),("start_pos",.int ((i+h+1:Nat):Int)),("max_pos",.int ((min (i+h+1+6) s.length:Nat):Int)),("start",.str (hexRun (s.drop i))),("question_marks",.int ((0:Nat):Int)),("end",.unset)]) (i+h+1) (fun e=>?_) (fun e=>?_) ?_
   ·first | (refine' val1 ?_ ?_; rw [headP_take]) | (refine' val2 ?_ ?_; rw [headP_take]) | rw [headP_take]
    refine T.and2b (decide (e < min (i+h+1+6) s.length)) ?_ (fun h=>?_) (fun h=>?_)
    ·walk_at"A"
     exact ⟨rfl,rfl⟩
    ·first | (refine ⟨?_,rfl⟩; rw [h] <;> rfl; done) | (rw [h]; exact ⟨rfl,rfl⟩)
    ·rw [h,Qo]
     have h:=Qh h
     have hp:e < s.length:=by exact ar4 (.im (.lt .v0 (.i (.a (.a (.a .v2 .v3) .n1) (.n 6)) .v1)) (.lt .v0 .v1)) rfl (Ar.t ‹_›)
     have hg:=List.getElem?_eq_getElem hp
     have hd:=drop_cons hg
     generalize s[e]=n at hg hd
     first | (refine' val1 ?_ ?_; rw [hd]) | (refine' val2 ?_ ?_; rw [hd]) | rw [hd]
     walk_at"A"
     first | (refine ⟨?_,rfl⟩; rw [cs_hex] <;> rfl; done) | (rw [cs_hex]; exact ⟨rfl,rfl⟩)
   ·walk_at"A"
    exact ⟨rfl,rfl,rfl⟩
   rw [take_min,show (((s.drop (i+h+1)).take 6).takeWhile isHex).length=(hexRun (s.drop (i+h+1))).length from rfl]
   try dsimp only
   walk_at"A"
   first | (refine' val1 ?_ ?_; rw [slc_nat,show i+h+1+(hexRun (s.drop (i+h+1))).length - (i+h+1)=(hexRun (s.drop (i+h+1))).length by walk_at"m",hexRun_take]) | (refine' val2 ?_ ?_; rw [slc_nat,show i+h+1+(hexRun (s.drop (i+h+1))).length - (i+h+1)=(hexRun (s.drop (i+h+1))).length by walk_at"m",hexRun_take]) | rw [slc_nat,show i+h+1+(hexRun (s.drop (i+h+1))).length - (i+h+1)=(hexRun (s.drop (i+h+1))).length by exact ar3 (.eq (.s (.a (.a (.a .v0 .v1) .n1) .v2) (.a (.a .v0 .v1) .n1)) .v2) rfl,hexRun_take]
   refine CB.hex ok.1.2.2 ok.1.1 ok.1.2.1 ?_
   walk_at"A"
   refine CB.hex ok.2.2.2 ok.2.1 ok.2.2.1 ?_
   walk_at"A"
   have e:i+(h+1+(hexRun (s.drop (i+(h+1)))).length)=i+h+1+(hexRun (s.drop (i+h+1))).length:=by
    rw [show i+(h+1)=i+h+1 from rfl]; exact ar3 (.eq (.a .v0 (.a (.a .v1 .n1) .v2)) (.a (.a (.a .v0 .v1) .n1) .v2)) rfl
   rw [e] at q
   exact q
  ·rw [if_neg (nf h2)] at q ok
   walk_at"A"
   refine CB.hex ok.1.2.2 ok.1.1 ok.1.2.1 ?_
   walk_at"A"
   refine CB.hex ok.2.2.2 ok.2.1 ok.2.2.1 ?_
   walk_at"A"
   exact q
noncomputable def genElt (l:List Stmt):Expr:=exN 2 (retE l)
noncomputable def genSc (l:List Stmt):Scope:=(exV (exN 1 (retE l))).2.1
noncomputable def genPos (l:List Stmt):Option Pos:=(exV (exN 1 (retE l))).2.2.2.1
noncomputable abbrev Γ5g:Fx:={ scope:=genSc (bodyAt 5),globs:=[("_replacement_string_value",.ref 27)] }
noncomputable abbrev Γ6g:Fx:={ scope:=genSc (bodyAt 6),globs:=[] }
theorem O5 {w:World} {g:Gx} (G:GG w g):GenOk g Γ5g "c":=⟨by decide +kernel,rfl,rfl,rfl,by decide +kernel,globs_of (by decide +kernel) (G.pick [(false,40)])⟩
theorem O6 {w:World} {g:Gx} (G:GG w g):GenOk g Γ6g "c":=⟨by decide +kernel,rfl,rfl,rfl,by decide +kernel,nmm⟩
theorem PE.ifb {g:Gx} {Γ:Fx} {x:Str} {n:Nat} {test body orelse:Expr} {pos:Pos} {Q:V→Prop} (b:Bool) (ht:PT g Γ x n test fun v=>v=b) (h:b=true→PE g Γ x n body Q) (h':b=false→PE g Γ x n orelse Q):PE g Γ x n (.IfExp test body orelse pos) Q :=
 PE.ife fun A env s C=>(ht A env s C).mono fun v e=>by
  subst e
  cases v with
  | true=>exact h rfl
  | false=>exact h' rfl
noncomputable def lk:List (Nat × List Nat)→Nat→List Nat
 | [],n=>[n]
 | p::r,n=>if n==p.1 then p.2 else lk r n
theorem lk_len {t:List (Nat × List Nat)} (h:t.all (fun p=>decide (p.2.length≤8))=true) (n:Nat):(lk t n).length≤8:=by
 induction t with
 | nil=>exact Nat.le_add_left 1 7
 | cons p r ih =>
  rw [List.all_cons,Qc] at h
  show (if n==p.1 then p.2 else lk r n).length≤8
  split
  ·exact Qh h.1
  ·exact ih h.2
noncomputable def urF (n:Nat):List Nat:=lk [(39,[92,39]),(34,[92,34]),(92,[92,92]),(32,[92,32]),(9,[92,57,32]),(10,[92,65,32]),(13,[92,68,32]),(12,[92,67,32]),(40,[92,40]),(41,[92,41])] n
theorem urF_len (n:Nat):(urF n).length≤8:=lk_len (by decide) n
theorem PE.lk {w:World} {g:Gx} (G:GG w g) {n k:Nat} {x:List Nat} {r:List (Nat × List Nat)} {K X:Str} {p1 p2 p3 p4 pos:Pos} {k1 k2:Nat} {orelse:Expr} (hK:∀ n,([n]==K.cps.toList)=(n==k)) (hX:X.cps.toList=x) (h:PE g Γ6g "c" n orelse fun w=>w=.str (Internal.lk r n)):PE g Γ6g "c" n (.IfExp (.Compare (.Name "c" p1) [.Eq] [.Constant (.str K) k1 p2] p3) (.Constant (.str X) k2 p4) orelse pos) fun w=>w=.str (Internal.lk ((k,x)::r) n):=by
 refine PE.ifb (n==k) (PT.cmp (PE.nm (O6 G) (PE.str (cm7 (hK n))))) (fun q=>?_) (fun q=>?_)
 ·rw [show Internal.lk ((k,x)::r) n=x from if_pos q]
  exact PE.str (congrArg V.str hX)
 ·rw [show Internal.lk ((k,x)::r) n=Internal.lk r n from if_neg (nf q)]
  exact h
theorem elt6 {w:World} {g:Gx} (G:GG w g) (n:Nat):PE g Γ6g "c" n (genElt (bodyAt 6)) fun w=>w=.str (urF n):=by
 have e32:∀ n,([n]==(Str.ofString " ").cps.toList)=(n==32):=fun n=>by rw [show (Str.ofString " ").cps.toList=[32] from by decide +kernel,beq_one]
 have e9:∀ n,([n]==(Str.ofString "\t").cps.toList)=(n==9):=fun n=>by rw [show (Str.ofString "\t").cps.toList=[9] from by decide +kernel,beq_one]
 exact PE.lk G eqc_sq (by decide +kernel) (PE.lk G eqc_dq (by decide +kernel) (PE.lk G eqc_bs (by decide +kernel) (PE.lk G e32 (by decide +kernel) (PE.lk G e9 (by decide +kernel) (PE.lk G eqc_nl (by decide +kernel) (PE.lk G eqc_cr (by decide +kernel) (PE.lk G eqc_ff (by decide +kernel) (PE.lk G eqc_lp (by decide +kernel) (PE.lk G eqc_rp (by decide +kernel) (PE.nm (O6 G) rfl))))))))))
theorem C6 {w:World} {g:Gx} (G:GG w g) {H H₂:AH} {s:List Nat} {st:Option Pos} {Q:V→AH→Prop} (hl:s.length≤10000) (hu:MUpd 36 (.tab st) (.tab (genPos (bodyAt 6))) H H₂) (hst:st=none∨st=genPos (bodyAt 6)) (q:Q (.str (s.map urF).flatten) H₂):Call g 1 (.ref 41) [.str s] H Q:=by
 refine Call.def_ (dv:=[]) (D6 G) rfl ⟨rfl,nmm⟩ ?_
 walk_at"n"
 refine Ss.consK ?_
 refine S.retK ?_
 refine E.joinGen (Γ':=Γ6g) (f:=urF) G.codes.2.1 rfl (O6 G) ?_ ?_
 ·walk_at"A"
  exact ⟨by rw [lit_nil],rfl⟩
 ·walk_at"A"
  refine ⟨by exact AR.h295 _ hl,fun n hn=>⟨urF_len n,?_⟩,st,H₂,hu,hst,q⟩
  refine PE.px ?_
  exact elt6 G n
section
open PySem PySem.W PySem.Calls PyProof.Rows PyProof.Rows.KTD
theorem repTab_at {w:World} {g:Gx} (G:GG w g):TextTab g.B 27 repTab :=
 kt_text_in G.ok.kin G.hK.rep
theorem flat_is {v:Value} {x:Str} (h:PyProof.V.Flat v (.str x)):Is M0 v (.str x.cps.toList):=by
 have:=h default
 cases this
 exact .str _ _ rfl
theorem dat_mem {k:Str} {d:KTD.Dat}:∀ D:List (Str × KTD.Dat),datumAt k D=some d→∃ p∈D,p.2=d
 | [],h=>nomatch h
 | p::D,h=>by
  have h:(if decide (k=p.1)=true then some p.2 else datumAt k D)=some d:=h
  by_cases q:decide (k=p.1)=true
  ·rw [if_pos q] at h
   exact ⟨p,.head _,Option.some.inj h⟩
  ·rw [if_neg q] at h
   refine x12 (dat_mem D h) fun p' h1 h2=>?_
   exact ⟨p',.tail _ h1,h2⟩
theorem rep_ok:∀ p∈repTab,∃ x:Str,p.2=.flat (.str x)∧x.cps.toList.length≤8:=by
 unfold repTab
 refine fm ⟨⟨_,rfl,by decide +kernel⟩,fm ⟨⟨_,rfl,by decide +kernel⟩,fm ⟨⟨_,rfl,by decide +kernel⟩,fm ⟨⟨_,rfl,by decide +kernel⟩,fm ⟨⟨_,rfl,by decide +kernel⟩,nmm⟩⟩⟩⟩⟩
noncomputable def datTx:Option KTD.Dat→List Nat→List Nat
 | some (.flat (.str x)),_=>x.cps.toList
 | _,y=>y
noncomputable def qsF (n:Nat):List Nat:=datTx (datumAt (S' [n]) repTab) [n]
theorem qsF_len (n:Nat):(qsF n).length≤8:=by
 unfold qsF
 cases h:datumAt (S' [n]) repTab with
 | none=>exact Nat.le_add_left 1 7
 | some d =>
  refine x12 (dat_mem _ h) fun p hp zz2=>?_
  subst zz2
  refine x12 (rep_ok p hp) fun x e hx=>?_
  rw [e]; exact hx
set_option tactic.hygienic true in
theorem elt5 {w:World} {g:Gx} (G:GG w g) (n:Nat):PE g Γ5g "c" n (genElt (bodyAt 5)) fun w=>w=.str (qsF n):=by
 refine PE.dget (O5 G) G.ok (List.mem_cons_self) (repTab_at G) (fun d v hd hv=>?_) (fun hd=>?_)
 ·refine x12 (dat_mem _ hd) fun p hp zz2=>?_
  subst zz2
  refine x12 (rep_ok p hp) fun x e hx=>?_
  rw [e] at hd hv
  refine ⟨_,flat_is hv,?_⟩
  show V.str x.cps.toList=V.str (datTx (datumAt (S' [n]) repTab) [n])
  rw [hd]; rfl
 ·show V.str [n]=V.str (datTx (datumAt (S' [n]) repTab) [n])
  rw [hd]; rfl
theorem C5 {w:World} {g:Gx} (G:GG w g) {H H₂:AH} {s:List Nat} {st:Option Pos} {Q:V→AH→Prop} (hl:s.length≤10000) (hu:MUpd 29 (.tab st) (.tab (genPos (bodyAt 5))) H H₂) (hst:st=none∨st=genPos (bodyAt 5)) (q:Q (.str (s.map qsF).flatten) H₂):Call g 1 (.ref 34) [.str s] H Q:=by
 refine Call.def_ (dv:=[]) (D5 G) rfl ⟨rfl,nmm⟩ ?_
 walk_at"n"
 refine Ss.consK ?_
 refine S.retK ?_
 refine E.joinGen (Γ':=Γ5g) (f:=qsF) G.codes.1 rfl (O5 G) ?_ ?_
 ·walk_at"A"
  exact ⟨by rw [lit_nil],rfl⟩
 ·walk_at"A"
  refine ⟨by exact AR.h295 _ hl,fun n hn=>⟨qsF_len n,?_⟩,st,H₂,hu,hst,q⟩
  refine PE.px ?_
  exact elt5 G n
end
noncomputable abbrev Γ8c:Fx:={ scope:=genSc (bodyAt 2),globs:=[("ord",.builtin "ord"),("chr",.builtin "chr")] }
theorem O8 {w:World} {g:Gx} (G:GG w g):CompOk g Γ8c "c":=⟨rfl,by decide +kernel,rfl,by decide +kernel,by decide +kernel,globs_of (by decide +kernel) (G.pick [(true,0),(true,3)]),rfl⟩
noncomputable def low (n:Nat):Nat:=if isUp n then n+32 else n
noncomputable def lowV:V→V
 | .str [c]=>.str [low c]
 | v=>v
theorem str_lt_one {a b:Nat}:(!decide (([a]:List Nat) < [b]))=decide (b≤a):=by
 have:([a] < [b]) ↔ a < b:=by
  rw [List.cons_lt_cons_iff]; simp
 rw [decide_eq_decide.mpr this,← decide_not]
 exact decide_eq_decide.mpr (by exact ar2 (.iff (.nt (.lt .v0 .v1)) (.le .v1 .v0)) rfl)
theorem flat_one (s:List Nat):(s.map fun c=>[low c]).flatten=s.map low:=by
 induction s with
 | nil=>rfl
 | cons a r ih=>rw [List.map_cons,List.flatten_cons,ih]; rfl
set_option tactic.hygienic true in
theorem C8 {w:World} {g:Gx} (G:GG w g) {H:AH} {s:List Nat} {Q:V→AH→Prop} (hl:s.length≤10000) (q:Q (.str (s.map low)) H):Call g 1 (.ref 26) [.str s] H Q:=by
 have hl':s.length≤1000000:=by exact AR.h296 _ hl
 refine Call.def_ (dv:=[]) (D8 G) rfl ⟨rfl,nmm⟩ ?_
 walk_at"n"
 refine Ss.consK ?_
 walk_at"A"
 refine E.comp (Γ':=Γ8c) (O8 G) ?_
 walk_at"A"
 refine ⟨_,lowV,rfl,?_,?_,?_⟩
 ·(try walk_at"k"); simp; walk_at"m"
 ·intro u hu H'
  refine x12 (List.mem_map.mp hu) fun c hc zz2=>?_
  subst zz2
  refine E.ifeb (isUp c) ?_ (fun h=>?_) (fun h=>?_)
  ·refine T.chain2 ?_ (by with_unfolding_all rfl)
   walk_at"A"
   rw [show (Str.ofString "A").cps.toList=[65] from by decide +kernel,str_lt_one]
   walk_at"l"
   ·rename_i h
    walk_at"A"
    rw [show (Str.ofString "Z").cps.toList=[90] from by decide +kernel,str_lt_one]
    refine ⟨?_,rfl⟩
    unfold isUp
    rw [h,Qo]
   ·rename_i h
    refine ⟨?_,rfl⟩
    unfold isUp
    rw [eq_false_of_ne_true h,Bool.false_and]
  ·have h':=h
   unfold isUp at h'
   rw [Qc,decide_eq_true_eq,decide_eq_true_eq] at h'
   walk_at"A"
   refine CB.chr (by exact ar1 (.ile .n0 (.a .v0 (.n 32))) rfl) (by exact ar1 (.im (.an (.le (.n 65) .v0) (.le .v0 (.n 90))) (.ile (.a .v0 (.n 32)) (.n 1114111))) rfl h') ?_
   refine ⟨rfl,?_⟩
   show _=V.str [low c]
   unfold low
   first | refine kpos h ?_ | rw [if_pos h]
   rfl
  ·walk_at"A"
   refine ⟨rfl,?_⟩
   show _=V.str [low c]
   unfold low
   rw [if_neg (nf h)]
 ·walk_at"A"
  rw [lit_nil,show List.map lowV (List.map (fun c=>V.str [c]) s)=(s.map fun c=>[low c]).map V.str by rw [List.map_map,List.map_map]; rfl]
  have e:(s.map fun c=>[low c]).flatten=s.map low:=flat_one s
  refine CB.join (by rw [e]; simp; exact ar1 (.im (.le .v0 (.n 10000)) (.le (.a .v0 .v0) (.n 1000000))) rfl hl) ?_
  walk_at"A"
  rw [e]
  exact q
noncomputable abbrev KInit (x C:Addr) (H:AH) (Q:V→AH→Prop):V→AH→Prop:=fun v H'=>v=.none∧∃ vs,H'=(x,.ins C vs)::H∧Q (.obj C vs) H
theorem CI9 {w:World} {g:Gx} (G:GG w g) {H:AH} {x C:Addr} {vs:List V} {l c:Int} {Q:V→AH→Prop} {a b:Nat} (h1:setAt g.K C "source_line"=some a) (h2:setAt g.K C "source_column"=some b) (ha:a < 1000) (hb:b < 1000) (q:Q .none ((x,.ins C (setSl b (.int c) (setSl a (.int l) vs)))::H)):Call g 1 (.ref 56) [.ref x,.int l,.int c] ((x,.ins C vs)::H) Q:=by
 refine Call.def_ (dv:=[]) (DI9 G) rfl ⟨rfl,nmm⟩ ?_
 walk_at"n"
 refine Ss.consK (S.setattrH (vs':=setSl a (.int l) vs) h1 ha (by walk_at"d") (fun _=>rfl) ?_)
 walk_at"A"
 refine ⟨rfl,rfl,?_⟩
 refine Ss.consK (S.setattrH (vs':=setSl b (.int c) (setSl a (.int l) vs)) h2 hb (by walk_at"d") (fun _=>rfl) ?_)
 walk_at"A"
 refine ⟨rfl,rfl,?_⟩
 walk_at"A"
 exact q
theorem Call.node {w:World} {g:Gx} (G:GG w g) {Γ:Fx} {C fI:Addr} {ps:List Str} {body rest:List Stmt} {args:List V} {tl:Loc} {l c:Int} {H:AH} {Q:V→AH→Prop} {a b:Nat} {vs:List V} {p1 p2 p3 p4 p5 p6 p7:Pos} (hc:makesIn g.K C=true∧findIn g.K (.ref C) "__init__"=some (some (.ref fI))∧isFn g.K (.ref fI)=true)
  (D:DefOk g Γ fI ("self"::"line"::"column"::ps) [] [] body) (hn:(("Node":Str),Value.ref 74)∈Γ.globs) (h1:setAt g.K C "source_line"=some a) (h2:setAt g.K C "source_column"=some b) (ha:a < 1000) (hb:b < 1000) (hv:setSl b (.int c) (setSl a (.int l) [])=vs) (hl:args.length=ps.length) (ht:ps.zip args=tl)
  (hbody:body=.Expr (.Call (.Attribute (.Name "Node" p1) "__init__" p2) [.Name "self" p3,.Name "line" p4,.Name "column" p5] [] p6) p7::rest) (cf:CallForm (.Name "Node" p1) "__init__" p2 p6 [.Name "self" p3,.Name "line" p4,.Name "column" p5])
  (h:∀ x,Ss g Γ 1 rest ((("self":Str),V.ref x)::(("line":Str),V.int l)::(("column":Str),V.int c)::tl) ((x,.ins C vs)::H) (KDef (KInit x C H Q))):Call g 3 (.ref C) (.int l::.int c::args) H Q:=by
 refine Call.cls hc.1 hc.2.1 hc.2.2 fun x=>?_
 refine Call.def_ (dv:=[]) D (by rw [Qb,Qb,Qb,hl]; rfl) ⟨rfl,nmm⟩ ?_
 have e:startLoc ("self"::"line"::"column"::ps) (.ref x::.int l::.int c::args) [] []=(("self":Str),V.ref x)::(("line":Str),V.int l)::(("column":Str),V.int c)::tl:=by
  unfold startLoc
  rw [List.zip_cons_cons,List.zip_cons_cons,List.zip_cons_cons,ht,List.append_nil,List.map_nil,List.append_nil]
 rw [e,hbody]
 refine Ss.consK ?_
 walk_at"a"
 refine E.cmeth (C:=74) (f:=56) hn G.hK.cm (G.hK.keepE (by kernel_rfl)) ?_ (fun _=>rfl) (fun _=>rfl) cf
 walk_at"A"
 refine (CI9 G h1 h2 ha hb ?_).le (by decide)
 rw [hv]
 exact h x
noncomputable def isInt:V→Bool
 | .none=>false
 | _=>true
theorem K10 {w:World} {g:Gx} (G:GG w g) {H:AH} {l c:Int} {v0:List Nat} {v1:List Nat} {Q:V→AH→Prop} (q:Q (.obj 104 [(.str v0),(.str v1),.int c,.int l]) H):Call g 3 (.ref 104) [.int l,.int c,(.str v0),(.str v1)] H Q:=by
 refine Call.node G (tl:=[("kind",(.str v0)),("message",(.str v1))]) (G.hK.cls 0 rfl) (DI10 G) (by walk_at"d") (G.hK.set 0 rfl) (G.hK.set 1 rfl) (by decide) (by decide) (vs:=[.unset,.unset,.int c,.int l]) rfl rfl rfl rfl (fun _=>⟨_,rfl⟩) fun x=>?_
 walk_at"A"
 refine S.setattrH (vs':=[(.str v0),.unset,.int c,.int l]) (G.hK.set 2 rfl) (by decide) (by walk_at"d") (fun _=>rfl) ?_
 walk_at"A"
 refine ⟨rfl,rfl,?_⟩
 walk_at"A"
 refine S.setattrH (vs':=[(.str v0),(.str v1),.int c,.int l]) (G.hK.set 3 rfl) (by decide) (by walk_at"d") (fun _=>rfl) ?_
 walk_at"A"
 refine ⟨rfl,rfl,?_⟩
 walk_at"A"
 exact ⟨rfl,_,rfl,q⟩
theorem K11 {w:World} {g:Gx} (G:GG w g) {H:AH} {l c:Int} {v0:List Nat} {Q:V→AH→Prop} (q:Q (.obj 134 [(.str v0),.int c,.int l]) H):Call g 3 (.ref 134) [.int l,.int c,(.str v0)] H Q:=by
 refine Call.node G (tl:=[("value",(.str v0))]) (G.hK.cls 1 rfl) (DI11 G) (by walk_at"d") (G.hK.set 4 rfl) (G.hK.set 5 rfl) (by decide) (by decide) (vs:=[.unset,.int c,.int l]) rfl rfl rfl rfl (fun _=>⟨_,rfl⟩) fun x=>?_
 walk_at"A"
 refine S.setattrH (vs':=[(.str v0),.int c,.int l]) (G.hK.set 6 rfl) (by decide) (by walk_at"d") (fun _=>rfl) ?_
 walk_at"A"
 refine ⟨rfl,rfl,?_⟩
 walk_at"A"
 exact ⟨rfl,_,rfl,q⟩
theorem K12 {w:World} {g:Gx} (G:GG w g) {H:AH} {l c:Int} {v0:List Nat} {Q:V→AH→Prop} (q:Q (.obj 163 [(.str v0),.int c,.int l]) H):Call g 3 (.ref 163) [.int l,.int c,(.str v0)] H Q:=by
 refine Call.node G (tl:=[("value",(.str v0))]) (G.hK.cls 2 rfl) (DI12 G) (by walk_at"d") (G.hK.set 7 rfl) (G.hK.set 8 rfl) (by decide) (by decide) (vs:=[.unset,.int c,.int l]) rfl rfl rfl rfl (fun _=>⟨_,rfl⟩) fun x=>?_
 walk_at"A"
 refine S.setattrH (vs':=[(.str v0),.int c,.int l]) (G.hK.set 9 rfl) (by decide) (by walk_at"d") (fun _=>rfl) ?_
 walk_at"A"
 refine ⟨rfl,rfl,?_⟩
 walk_at"A"
 exact ⟨rfl,_,rfl,q⟩
theorem K13 {w:World} {g:Gx} (G:GG w g) {H:AH} {l c:Int} {v0:List Nat} {Q:V→AH→Prop} (q:Q (.obj 206 [(.str v0),.int c,.int l]) H):Call g 3 (.ref 206) [.int l,.int c,(.str v0)] H Q:=by
 refine Call.node G (tl:=[("value",(.str v0))]) (G.hK.cls 3 rfl) (DI13 G) (by walk_at"d") (G.hK.set 10 rfl) (G.hK.set 11 rfl) (by decide) (by decide) (vs:=[.unset,.int c,.int l]) rfl rfl rfl rfl (fun _=>⟨_,rfl⟩) fun x=>?_
 walk_at"A"
 refine S.setattrH (vs':=[(.str v0),.int c,.int l]) (G.hK.set 12 rfl) (by decide) (by walk_at"d") (fun _=>rfl) ?_
 walk_at"A"
 refine ⟨rfl,rfl,?_⟩
 walk_at"A"
 exact ⟨rfl,_,rfl,q⟩
theorem K14 {w:World} {g:Gx} (G:GG w g) {H:AH} {l c:Int} {v0:List Nat} {Q:V→AH→Prop} (hl:v0.length≤10000) (q:Q (.obj 235 [(.str (v0.map low)),(.str v0),.int c,.int l]) H):Call g 3 (.ref 235) [.int l,.int c,(.str v0)] H Q:=by
 refine Call.node G (tl:=[("value",(.str v0))]) (G.hK.cls 4 rfl) (DI14 G) (by walk_at"d") (G.hK.set 13 rfl) (G.hK.set 14 rfl) (by decide) (by decide) (vs:=[.unset,.unset,.int c,.int l]) rfl rfl rfl rfl (fun _=>⟨_,rfl⟩) fun x=>?_
 walk_at"A"
 refine S.setattrH (vs':=[.unset,(.str v0),.int c,.int l]) (G.hK.set 15 rfl) (by decide) (by walk_at"d") (fun _=>rfl) ?_
 walk_at"A"
 refine ⟨rfl,rfl,?_⟩
 walk_at"A"
 refine S.setattrH (vs':=[(.str (v0.map low)),(.str v0),.int c,.int l]) (G.hK.set 16 rfl) (by decide) (by walk_at"d") (fun _=>rfl) ?_
 walk_at"A"
 refine (C8 G hl ?_).le (by decide)
 refine ⟨rfl,rfl,?_⟩
 walk_at"A"
 exact ⟨rfl,_,rfl,q⟩
theorem K15 {w:World} {g:Gx} (G:GG w g) {H:AH} {l c:Int} {v0:List Nat} {Q:V→AH→Prop} (hl:v0.length≤10000) (q:Q (.obj 265 [(.str (v0.map low)),(.str v0),.int c,.int l]) H):Call g 3 (.ref 265) [.int l,.int c,(.str v0)] H Q:=by
 refine Call.node G (tl:=[("value",(.str v0))]) (G.hK.cls 5 rfl) (DI15 G) (by walk_at"d") (G.hK.set 17 rfl) (G.hK.set 18 rfl) (by decide) (by decide) (vs:=[.unset,.unset,.int c,.int l]) rfl rfl rfl rfl (fun _=>⟨_,rfl⟩) fun x=>?_
 walk_at"A"
 refine S.setattrH (vs':=[.unset,(.str v0),.int c,.int l]) (G.hK.set 19 rfl) (by decide) (by walk_at"d") (fun _=>rfl) ?_
 walk_at"A"
 refine ⟨rfl,rfl,?_⟩
 walk_at"A"
 refine S.setattrH (vs':=[(.str (v0.map low)),(.str v0),.int c,.int l]) (G.hK.set 20 rfl) (by decide) (by walk_at"d") (fun _=>rfl) ?_
 walk_at"A"
 refine (C8 G hl ?_).le (by decide)
 refine ⟨rfl,rfl,?_⟩
 walk_at"A"
 exact ⟨rfl,_,rfl,q⟩
theorem K16 {w:World} {g:Gx} (G:GG w g) {H:AH} {l c:Int} {v0:List Nat} {v1:Bool} {Q:V→AH→Prop} (q:Q (.obj 295 [(.bool v1),(.str v0),.int c,.int l]) H):Call g 3 (.ref 295) [.int l,.int c,(.str v0),(.bool v1)] H Q:=by
 refine Call.node G (tl:=[("value",(.str v0)),("is_identifier",(.bool v1))]) (G.hK.cls 6 rfl) (DI16 G) (by walk_at"d") (G.hK.set 21 rfl) (G.hK.set 22 rfl) (by decide) (by decide) (vs:=[.unset,.unset,.int c,.int l]) rfl rfl rfl rfl (fun _=>⟨_,rfl⟩) fun x=>?_
 walk_at"A"
 refine S.setattrH (vs':=[.unset,(.str v0),.int c,.int l]) (G.hK.set 23 rfl) (by decide) (by walk_at"d") (fun _=>rfl) ?_
 walk_at"A"
 refine ⟨rfl,rfl,?_⟩
 walk_at"A"
 refine S.setattrH (vs':=[(.bool v1),(.str v0),.int c,.int l]) (G.hK.set 24 rfl) (by decide) (by walk_at"d") (fun _=>rfl) ?_
 walk_at"A"
 refine ⟨rfl,rfl,?_⟩
 walk_at"A"
 exact ⟨rfl,_,rfl,q⟩
theorem K17 {w:World} {g:Gx} (G:GG w g) {H:AH} {l c:Int} {v0:List Nat} {v1:List Nat} {Q:V→AH→Prop} (q:Q (.obj 325 [(.str v1),(.str v0),.int c,.int l]) H):Call g 3 (.ref 325) [.int l,.int c,(.str v0),(.str v1)] H Q:=by
 refine Call.node G (tl:=[("value",(.str v0)),("representation",(.str v1))]) (G.hK.cls 7 rfl) (DI17 G) (by walk_at"d") (G.hK.set 25 rfl) (G.hK.set 26 rfl) (by decide) (by decide) (vs:=[.unset,.unset,.int c,.int l]) rfl rfl rfl rfl (fun _=>⟨_,rfl⟩) fun x=>?_
 walk_at"A"
 refine S.setattrH (vs':=[.unset,(.str v0),.int c,.int l]) (G.hK.set 27 rfl) (by decide) (by walk_at"d") (fun _=>rfl) ?_
 walk_at"A"
 refine ⟨rfl,rfl,?_⟩
 walk_at"A"
 refine S.setattrH (vs':=[(.str v1),(.str v0),.int c,.int l]) (G.hK.set 28 rfl) (by decide) (by walk_at"d") (fun _=>rfl) ?_
 walk_at"A"
 refine ⟨rfl,rfl,?_⟩
 walk_at"A"
 exact ⟨rfl,_,rfl,q⟩
theorem K18 {w:World} {g:Gx} (G:GG w g) {H:AH} {l c:Int} {v0:List Nat} {v1:List Nat} {Q:V→AH→Prop} (q:Q (.obj 355 [(.str v1),(.str v0),.int c,.int l]) H):Call g 3 (.ref 355) [.int l,.int c,(.str v0),(.str v1)] H Q:=by
 refine Call.node G (tl:=[("value",(.str v0)),("representation",(.str v1))]) (G.hK.cls 8 rfl) (DI18 G) (by walk_at"d") (G.hK.set 29 rfl) (G.hK.set 30 rfl) (by decide) (by decide) (vs:=[.unset,.unset,.int c,.int l]) rfl rfl rfl rfl (fun _=>⟨_,rfl⟩) fun x=>?_
 walk_at"A"
 refine S.setattrH (vs':=[.unset,(.str v0),.int c,.int l]) (G.hK.set 31 rfl) (by decide) (by walk_at"d") (fun _=>rfl) ?_
 walk_at"A"
 refine ⟨rfl,rfl,?_⟩
 walk_at"A"
 refine S.setattrH (vs':=[(.str v1),(.str v0),.int c,.int l]) (G.hK.set 32 rfl) (by decide) (by walk_at"d") (fun _=>rfl) ?_
 walk_at"A"
 refine ⟨rfl,rfl,?_⟩
 walk_at"A"
 exact ⟨rfl,_,rfl,q⟩
theorem K19 {w:World} {g:Gx} (G:GG w g) {H:AH} {l c:Int} {v0:Int} {v1:Int} {Q:V→AH→Prop} (q:Q (.obj 385 [(.int v1),(.int v0),.int c,.int l]) H):Call g 3 (.ref 385) [.int l,.int c,(.int v0),(.int v1)] H Q:=by
 refine Call.node G (tl:=[("start",(.int v0)),("end",(.int v1))]) (G.hK.cls 9 rfl) (DI19 G) (by walk_at"d") (G.hK.set 33 rfl) (G.hK.set 34 rfl) (by decide) (by decide) (vs:=[.unset,.unset,.int c,.int l]) rfl rfl rfl rfl (fun _=>⟨_,rfl⟩) fun x=>?_
 walk_at"A"
 refine S.setattrH (vs':=[.unset,(.int v0),.int c,.int l]) (G.hK.set 35 rfl) (by decide) (by walk_at"d") (fun _=>rfl) ?_
 walk_at"A"
 refine ⟨rfl,rfl,?_⟩
 walk_at"A"
 refine S.setattrH (vs':=[(.int v1),(.int v0),.int c,.int l]) (G.hK.set 36 rfl) (by decide) (by walk_at"d") (fun _=>rfl) ?_
 walk_at"A"
 refine ⟨rfl,rfl,?_⟩
 walk_at"A"
 exact ⟨rfl,_,rfl,q⟩
theorem K20 {w:World} {g:Gx} (G:GG w g) {H:AH} {l c:Int} {v0:List Nat} {v1:V} {v2:List Nat} {Q:V→AH→Prop} (hi:v1=.none∨∃ z,v1=.int z) (q:Q (.obj 415 [v1,(.bool (isInt v1)),(.str v2),(.str v0),.int c,.int l]) H):Call g 3 (.ref 415) [.int l,.int c,(.str v0),v1,(.str v2)] H Q:=by
 have hv:v1.isSet=true:=by rcases hi with rfl | ⟨z,rfl⟩ <;> rfl
 refine Call.node G (tl:=[("value",(.str v0)),("int_value",v1),("representation",(.str v2))]) (G.hK.cls 10 rfl) (DI20 G) (by walk_at"d") (G.hK.set 37 rfl) (G.hK.set 38 rfl) (by decide) (by decide) (vs:=[.unset,.unset,.unset,.unset,.int c,.int l]) rfl rfl rfl rfl (fun _=>⟨_,rfl⟩) fun x=>?_
 walk_at"A"
 refine S.setattrH (vs':=[.unset,.unset,.unset,(.str v0),.int c,.int l]) (G.hK.set 39 rfl) (by decide) (by walk_at"d") (fun _=>rfl) ?_
 walk_at"A"
 refine ⟨rfl,rfl,?_⟩
 walk_at"A"
 refine S.setattrH (vs':=[v1,.unset,.unset,(.str v0),.int c,.int l]) (G.hK.set 40 rfl) (by decide) (by walk_at"d") (fun _=>rfl) ?_
 refine E.locK ?_ (by walk_at"d") hv
 refine ⟨rfl,rfl,?_⟩
 walk_at"A"
 refine S.setattrH (vs':=[v1,(.bool (isInt v1)),.unset,(.str v0),.int c,.int l]) (G.hK.set 41 rfl) (by decide) (by walk_at"d") (fun _=>rfl) ?_
 refine E.to (.bool (isInt v1)) ?_ ?_
 ·refine E.cmpK (E.locK ?_ (by walk_at"d") hv) rfl
  walk_at"A"
  rcases hi with rfl | ⟨z,rfl⟩
  ·exact cm19 ⟨rfl,rfl⟩
  ·exact cm20 ⟨rfl,rfl⟩
 refine ⟨rfl,rfl,?_⟩
 walk_at"A"
 refine S.setattrH (vs':=[v1,(.bool (isInt v1)),(.str v2),(.str v0),.int c,.int l]) (G.hK.set 42 rfl) (by decide) (by walk_at"d") (fun _=>rfl) ?_
 walk_at"A"
 refine ⟨rfl,rfl,?_⟩
 walk_at"A"
 exact ⟨rfl,_,rfl,q⟩
theorem K21 {w:World} {g:Gx} (G:GG w g) {H:AH} {l c:Int} {v0:List Nat} {v1:V} {v2:List Nat} {Q:V→AH→Prop} (hi:v1=.none∨∃ z,v1=.int z) (q:Q (.obj 447 [v1,(.bool (isInt v1)),(.str v2),(.str v0),.int c,.int l]) H):Call g 3 (.ref 447) [.int l,.int c,(.str v0),v1,(.str v2)] H Q:=by
 have hv:v1.isSet=true:=by rcases hi with rfl | ⟨z,rfl⟩ <;> rfl
 refine Call.node G (tl:=[("value",(.str v0)),("int_value",v1),("representation",(.str v2))]) (G.hK.cls 11 rfl) (DI21 G) (by walk_at"d") (G.hK.set 43 rfl) (G.hK.set 44 rfl) (by decide) (by decide) (vs:=[.unset,.unset,.unset,.unset,.int c,.int l]) rfl rfl rfl rfl (fun _=>⟨_,rfl⟩) fun x=>?_
 walk_at"A"
 refine S.setattrH (vs':=[.unset,.unset,.unset,(.str v0),.int c,.int l]) (G.hK.set 45 rfl) (by decide) (by walk_at"d") (fun _=>rfl) ?_
 walk_at"A"
 refine ⟨rfl,rfl,?_⟩
 walk_at"A"
 refine S.setattrH (vs':=[v1,.unset,.unset,(.str v0),.int c,.int l]) (G.hK.set 46 rfl) (by decide) (by walk_at"d") (fun _=>rfl) ?_
 refine E.locK ?_ (by walk_at"d") hv
 refine ⟨rfl,rfl,?_⟩
 walk_at"A"
 refine S.setattrH (vs':=[v1,(.bool (isInt v1)),.unset,(.str v0),.int c,.int l]) (G.hK.set 47 rfl) (by decide) (by walk_at"d") (fun _=>rfl) ?_
 refine E.to (.bool (isInt v1)) ?_ ?_
 ·refine E.cmpK (E.locK ?_ (by walk_at"d") hv) rfl
  walk_at"A"
  rcases hi with rfl | ⟨z,rfl⟩
  ·exact cm19 ⟨rfl,rfl⟩
  ·exact cm20 ⟨rfl,rfl⟩
 refine ⟨rfl,rfl,?_⟩
 walk_at"A"
 refine S.setattrH (vs':=[v1,(.bool (isInt v1)),(.str v2),(.str v0),.int c,.int l]) (G.hK.set 48 rfl) (by decide) (by walk_at"d") (fun _=>rfl) ?_
 walk_at"A"
 refine ⟨rfl,rfl,?_⟩
 walk_at"A"
 exact ⟨rfl,_,rfl,q⟩
theorem K22 {w:World} {g:Gx} (G:GG w g) {H:AH} {l c:Int} {v0:List Nat} {v1:V} {v2:List Nat} {v3:List Nat} {Q:V→AH→Prop} (hl:v3.length≤10000) (hi:v1=.none∨∃ z,v1=.int z) (q:Q (.obj 479 [v1,(.bool (isInt v1)),(.str (v3.map low)),(.str v2),(.str v3),(.str v0),.int c,.int l]) H):Call g 3 (.ref 479) [.int l,.int c,(.str v0),v1,(.str v2),(.str v3)] H Q:=by
 have hv:v1.isSet=true:=by rcases hi with rfl | ⟨z,rfl⟩ <;> rfl
 refine Call.node G (tl:=[("value",(.str v0)),("int_value",v1),("representation",(.str v2)),("unit",(.str v3))]) (G.hK.cls 12 rfl) (DI22 G) (by walk_at"d") (G.hK.set 49 rfl) (G.hK.set 50 rfl) (by decide) (by decide) (vs:=[.unset,.unset,.unset,.unset,.unset,.unset,.int c,.int l]) rfl rfl rfl rfl (fun _=>⟨_,rfl⟩) fun x=>?_
 walk_at"A"
 refine S.setattrH (vs':=[.unset,.unset,.unset,.unset,.unset,(.str v0),.int c,.int l]) (G.hK.set 51 rfl) (by decide) (by walk_at"d") (fun _=>rfl) ?_
 walk_at"A"
 refine ⟨rfl,rfl,?_⟩
 walk_at"A"
 refine S.setattrH (vs':=[v1,.unset,.unset,.unset,.unset,(.str v0),.int c,.int l]) (G.hK.set 52 rfl) (by decide) (by walk_at"d") (fun _=>rfl) ?_
 refine E.locK ?_ (by walk_at"d") hv
 refine ⟨rfl,rfl,?_⟩
 walk_at"A"
 refine S.setattrH (vs':=[v1,(.bool (isInt v1)),.unset,.unset,.unset,(.str v0),.int c,.int l]) (G.hK.set 53 rfl) (by decide) (by walk_at"d") (fun _=>rfl) ?_
 refine E.to (.bool (isInt v1)) ?_ ?_
 ·refine E.cmpK (E.locK ?_ (by walk_at"d") hv) rfl
  walk_at"A"
  rcases hi with rfl | ⟨z,rfl⟩
  ·exact cm19 ⟨rfl,rfl⟩
  ·exact cm20 ⟨rfl,rfl⟩
 refine ⟨rfl,rfl,?_⟩
 walk_at"A"
 refine S.setattrH (vs':=[v1,(.bool (isInt v1)),.unset,(.str v2),.unset,(.str v0),.int c,.int l]) (G.hK.set 54 rfl) (by decide) (by walk_at"d") (fun _=>rfl) ?_
 walk_at"A"
 refine ⟨rfl,rfl,?_⟩
 walk_at"A"
 refine S.setattrH (vs':=[v1,(.bool (isInt v1)),.unset,(.str v2),(.str v3),(.str v0),.int c,.int l]) (G.hK.set 55 rfl) (by decide) (by walk_at"d") (fun _=>rfl) ?_
 walk_at"A"
 refine ⟨rfl,rfl,?_⟩
 walk_at"A"
 refine S.setattrH (vs':=[v1,(.bool (isInt v1)),(.str (v3.map low)),(.str v2),(.str v3),(.str v0),.int c,.int l]) (G.hK.set 56 rfl) (by decide) (by walk_at"d") (fun _=>rfl) ?_
 walk_at"A"
 refine (C8 G hl ?_).le (by decide)
 refine ⟨rfl,rfl,?_⟩
 walk_at"A"
 exact ⟨rfl,_,rfl,q⟩
theorem K23 {w:World} {g:Gx} (G:GG w g) {H:AH} {l c:Int} {v0:Addr} {Q:V→AH→Prop} (q:Q (.obj 513 [(.ref v0),.int c,.int l]) H):Call g 3 (.ref 513) [.int l,.int c,(.ref v0)] H Q:=by
 refine Call.node G (tl:=[("content",(.ref v0))]) (G.hK.cls 13 rfl) (DI23 G) (by walk_at"d") (G.hK.set 57 rfl) (G.hK.set 58 rfl) (by decide) (by decide) (vs:=[.unset,.int c,.int l]) rfl rfl rfl rfl (fun _=>⟨_,rfl⟩) fun x=>?_
 walk_at"A"
 refine S.setattrH (vs':=[(.ref v0),.int c,.int l]) (G.hK.set 59 rfl) (by decide) (by walk_at"d") (fun _=>rfl) ?_
 walk_at"A"
 refine ⟨rfl,rfl,?_⟩
 walk_at"A"
 exact ⟨rfl,_,rfl,q⟩
theorem K24 {w:World} {g:Gx} (G:GG w g) {H:AH} {l c:Int} {v0:Addr} {Q:V→AH→Prop} (q:Q (.obj 542 [(.ref v0),.int c,.int l]) H):Call g 3 (.ref 542) [.int l,.int c,(.ref v0)] H Q:=by
 refine Call.node G (tl:=[("content",(.ref v0))]) (G.hK.cls 14 rfl) (DI24 G) (by walk_at"d") (G.hK.set 60 rfl) (G.hK.set 61 rfl) (by decide) (by decide) (vs:=[.unset,.int c,.int l]) rfl rfl rfl rfl (fun _=>⟨_,rfl⟩) fun x=>?_
 walk_at"A"
 refine S.setattrH (vs':=[(.ref v0),.int c,.int l]) (G.hK.set 62 rfl) (by decide) (by walk_at"d") (fun _=>rfl) ?_
 walk_at"A"
 refine ⟨rfl,rfl,?_⟩
 walk_at"A"
 exact ⟨rfl,_,rfl,q⟩
theorem K25 {w:World} {g:Gx} (G:GG w g) {H:AH} {l c:Int} {v0:Addr} {Q:V→AH→Prop} (q:Q (.obj 571 [(.ref v0),.int c,.int l]) H):Call g 3 (.ref 571) [.int l,.int c,(.ref v0)] H Q:=by
 refine Call.node G (tl:=[("content",(.ref v0))]) (G.hK.cls 15 rfl) (DI25 G) (by walk_at"d") (G.hK.set 63 rfl) (G.hK.set 64 rfl) (by decide) (by decide) (vs:=[.unset,.int c,.int l]) rfl rfl rfl rfl (fun _=>⟨_,rfl⟩) fun x=>?_
 walk_at"A"
 refine S.setattrH (vs':=[(.ref v0),.int c,.int l]) (G.hK.set 65 rfl) (by decide) (by walk_at"d") (fun _=>rfl) ?_
 walk_at"A"
 refine ⟨rfl,rfl,?_⟩
 walk_at"A"
 exact ⟨rfl,_,rfl,q⟩
theorem K26 {w:World} {g:Gx} (G:GG w g) {H:AH} {l c:Int} {v0:List Nat} {v1:Addr} {Q:V→AH→Prop} (hl:v0.length≤10000) (q:Q (.obj 600 [(.ref v1),(.str (v0.map low)),(.str v0),.int c,.int l]) H):Call g 3 (.ref 600) [.int l,.int c,(.str v0),(.ref v1)] H Q:=by
 refine Call.node G (tl:=[("name",(.str v0)),("arguments",(.ref v1))]) (G.hK.cls 16 rfl) (DI26 G) (by walk_at"d") (G.hK.set 66 rfl) (G.hK.set 67 rfl) (by decide) (by decide) (vs:=[.unset,.unset,.unset,.int c,.int l]) rfl rfl rfl rfl (fun _=>⟨_,rfl⟩) fun x=>?_
 walk_at"A"
 refine S.setattrH (vs':=[.unset,.unset,(.str v0),.int c,.int l]) (G.hK.set 68 rfl) (by decide) (by walk_at"d") (fun _=>rfl) ?_
 walk_at"A"
 refine ⟨rfl,rfl,?_⟩
 walk_at"A"
 refine S.setattrH (vs':=[.unset,(.str (v0.map low)),(.str v0),.int c,.int l]) (G.hK.set 69 rfl) (by decide) (by walk_at"d") (fun _=>rfl) ?_
 walk_at"A"
 refine (C8 G hl ?_).le (by decide)
 refine ⟨rfl,rfl,?_⟩
 walk_at"A"
 refine S.setattrH (vs':=[(.ref v1),(.str (v0.map low)),(.str v0),.int c,.int l]) (G.hK.set 70 rfl) (by decide) (by walk_at"d") (fun _=>rfl) ?_
 walk_at"A"
 refine ⟨rfl,rfl,?_⟩
 walk_at"A"
 exact ⟨rfl,_,rfl,q⟩
set_option genSizeOf false in
set_option genCtorIdx false in
inductive TT where
 | mk (p:Nat × Nat) (k:List Nat) (a:V) (ts:List TT)
noncomputable abbrev leafT (pl:Nat × Nat) (k:String) (v:List Nat):TT:=.mk pl (lit k) (.str v) []
mutual
inductive NodeT:Nat→V→TT→Prop
 | error {n:Nat} {k m:List Nat} {c l:Nat}:NodeT n (.obj 104 [.str k,.str m,.int c,.int l]) (leafT (l,c) "error" k)
 | comment {n:Nat} {v:List Nat} {c l:Nat}:NodeT n (.obj 134 [.str v,.int c,.int l]) (leafT (l,c) "comment" v)
 | white {n:Nat} {v:List Nat} {c l:Nat}:NodeT n (.obj 163 [.str v,.int c,.int l]) (leafT (l,c) "whitespace" v)
 | literal {n:Nat} {v:List Nat} {c l:Nat}:NodeT n (.obj 206 [.str v,.int c,.int l]) (leafT (l,c) "literal" v)
 | ident {n:Nat} {v lv:List Nat} {c l:Nat}:NodeT n (.obj 235 [.str lv,.str v,.int c,.int l]) (leafT (l,c) "ident" v)
 | atk {n:Nat} {v lv:List Nat} {c l:Nat}:NodeT n (.obj 265 [.str lv,.str v,.int c,.int l]) (leafT (l,c) "at-keyword" v)
 | hash {n:Nat} {v:List Nat} {b:Bool} {c l:Nat}:NodeT n (.obj 295 [.bool b,.str v,.int c,.int l]) (.mk (l,c) (lit "hash") (.tup [.str v,.bool b]) [])
 | string {n:Nat} {v rp:List Nat} {c l:Nat}:NodeT n (.obj 325 [.str rp,.str v,.int c,.int l]) (leafT (l,c) "string" v)
 | url {n:Nat} {v rp:List Nat} {c l:Nat}:NodeT n (.obj 355 [.str rp,.str v,.int c,.int l]) (leafT (l,c) "url" v)
 | range {n:Nat} {a b:Int} {c l:Nat}:NodeT n (.obj 385 [.int b,.int a,.int c,.int l]) (.mk (l,c) (lit "unicode-range") (.tup [.int a,.int b]) [])
 | number {n:Nat} {v rp:List Nat} {iv ii:V} {c l:Nat} (h:iv.plain=true):NodeT n (.obj 415 [iv,ii,.str rp,.str v,.int c,.int l]) (.mk (l,c) (lit "number") (.tup [.str rp,iv]) [])
 | percent {n:Nat} {v rp:List Nat} {iv ii:V} {c l:Nat} (h:iv.plain=true):NodeT n (.obj 447 [iv,ii,.str rp,.str v,.int c,.int l]) (.mk (l,c) (lit "percentage") (.tup [.str rp,iv]) [])
 | dim {n:Nat} {v rp u lu:List Nat} {iv ii:V} {c l:Nat} (h:iv.plain=true):NodeT n (.obj 479 [iv,ii,.str lu,.str rp,.str u,.str v,.int c,.int l]) (.mk (l,c) (lit "dimension") (.tup [.str rp,iv,.str u]) [])
 | paren {n:Nat} {vs:List V} {ts:List TT} {c l:Nat}:NodesT n vs ts→vs.length≤1000000→NodeT (n+1) (.obj 513 [.lst vs,.int c,.int l]) (.mk (l,c) (lit "() block") (.str []) ts)
 | square {n:Nat} {vs:List V} {ts:List TT} {c l:Nat}:NodesT n vs ts→vs.length≤1000000→NodeT (n+1) (.obj 542 [.lst vs,.int c,.int l]) (.mk (l,c) (lit "[] block") (.str []) ts)
 | curly {n:Nat} {vs:List V} {ts:List TT} {c l:Nat}:NodesT n vs ts→vs.length≤1000000→NodeT (n+1) (.obj 571 [.lst vs,.int c,.int l]) (.mk (l,c) (lit "{} block") (.str []) ts)
 | func {n:Nat} {vs:List V} {ts:List TT} {v:List Nat} {c l:Nat}:NodesT n vs ts→vs.length≤1000000→NodeT (n+1) (.obj 600 [.lst vs,.str (v.map low),.str v,.int c,.int l]) (.mk (l,c) (lit "function") (.str v) ts)
inductive NodesT:Nat→List V→List TT→Prop
 | nil {n:Nat}:NodesT n [] []
 | cons {n:Nat} {v:V} {t:TT} {vs:List V} {ts:List TT}:NodeT n v t→NodesT n vs ts→NodesT n (v::vs) (t::ts)
end
theorem NodesT.append {n:Nat} {vs ws:List V} {ts us:List TT} (h:NodesT n vs ts):NodesT n ws us→NodesT n (vs++ws) (ts++us):=by
 refine NodesT.rec (motive_1:=fun _ _ _ _=>True) (motive_2:=fun n vs ts _=>NodesT n ws us→NodesT n (vs++ws) (ts++us)) ?_ ?_ ?_ ?_ ?_ ?_ ?_ ?_ ?_ ?_ ?_ ?_ ?_ ?_ ?_ ?_ ?_ ?_ ?_ h
 all_goals first | exact trivial | exact fun _=>trivial | exact fun _ _ _=>trivial | exact fun h=>h | exact fun a _ _ ih h=>.cons a (ih h)
theorem NodesT.snoc {n:Nat} {vs:List V} {ts:List TT} {v:V} {t:TT} (h:NodesT n vs ts) (a:NodeT n v t):NodesT n (vs++[v]) (ts++[t]):=h.append (.cons a .nil)
theorem NodesT.len {n:Nat} {vs:List V} {ts:List TT} (h:NodesT n vs ts):vs.length=ts.length:=by
 refine NodesT.rec (motive_1:=fun _ _ _ _=>True) (motive_2:=fun _ vs ts _=>vs.length=ts.length) ?_ ?_ ?_ ?_ ?_ ?_ ?_ ?_ ?_ ?_ ?_ ?_ ?_ ?_ ?_ ?_ ?_ ?_ ?_ h
 all_goals first | exact trivial | exact fun _=>trivial | exact fun _ _ _=>trivial | exact rfl | exact fun _ _ _ ih=>congrArg (·+1) ih
set_option genCtorIdx false in
inductive Step where
 | leaf (ts:List TT) (n:Nat)
 | opn (P:Nat × Nat) (K:List Nat) (N:V) (ec n:Nat)
 | cls
 | stop (ts:List TT)
noncomputable def Step.ctorIdx (x:Step):Nat:=x.casesOn (fun _ _=>0) (fun _ _ _ _ _=>1) 2 (fun _=>3)
noncomputable def isUu (c:Nat):Bool:=c==85||c==117
noncomputable def isUrl (v:List Nat):Bool:=v.map low==[117,114,108]
noncomputable def urlTs (pl:Nat × Nat) (u:UR):List TT:=(match u.val with | some v=>[leafT pl "url" v] | none=>[])++(match u.err with | 0=>[] | 1=>[leafT pl "error" (lit "eof-in-url")] | _=>[leafT pl "error" (lit "bad-url")])
noncomputable def stepI (pl:Nat × Nat) (v:List Nat) (n:Nat) (r:List Nat):Step :=
 if headP (·==40) (r.drop n) then
  (if isUrl v&&!headP isQt ((r.drop (n+1)).drop (wsN (r.drop (n+1)))) then .leaf (urlTs pl (urlR (r.drop (n+1)))) (n+1+(urlR (r.drop (n+1))).n)
  else .opn pl (lit "function") (.str v) 41 (n+1))
 else .leaf [leafT pl "ident" v] n
noncomputable def intV (pn:Bool) (t:List Nat):V:=if pn then (match PySem.intText? (S' t) with | some z=>.int z | none=>.none) else .none
noncomputable def stepN (pl:Nat × Nat) (pn:Bool) (n:Nat) (r:List Nat):Step :=
 if identStart (r.drop n) then .leaf [.mk pl (lit "dimension") (.tup [.str (r.take n),intV pn (r.take n),.str (ident (r.drop n)).1]) []] (n+(ident (r.drop n)).2)
 else if headP (·==37) (r.drop n) then .leaf [.mk pl (lit "percentage") (.tup [.str (r.take n),intV pn (r.take n)]) []] (n+1)
 else .leaf [.mk pl (lit "number") (.tup [.str (r.take n),intV pn (r.take n)]) []] n
noncomputable def strTs (pl:Nat × Nat) (q:QR):List TT:=match q.st with
 | 0=>[leafT pl "string" q.val]
 | 1=>[leafT pl "error" (lit "bad-string")]
 | _=>[leafT pl "string" q.val,leafT pl "error" (lit "eof-in-string")]
noncomputable def comEnd:List Nat→Option Nat
 | []=>none
 | c::t=>if c==42&&headP (·==47) t then some 0 else (comEnd t).map (·+1)
noncomputable def isTl (c:Nat):Bool:=c==126||c==124||c==94||c==36||c==42
noncomputable def isCl (c:Nat):Bool:=c==125||c==93||c==41
noncomputable def stepZ (pl:Nat × Nat) (ec:Option Nat) (c:Nat) (t:List Nat):Step :=
 if c==64 then (if identStart t then .leaf [leafT pl "at-keyword" (ident t).1] (1+(ident t).2) else .leaf [leafT pl "literal" [64]] 1)
 else if c==35 then (if headP isNm t||escOk t then .leaf [.mk pl (lit "hash") (.tup [.str (ident t).1,.bool (identStart t)]) []] (1+(ident t).2) else .leaf [leafT pl "literal" [35]] 1)
 else if c==123 then .opn pl (lit "{} block") (.str []) 125 1
 else if c==91 then .opn pl (lit "[] block") (.str []) 93 1
 else if c==40 then .opn pl (lit "() block") (.str []) 41 1
 else if ec==some c then .cls
 else if isCl c then .leaf [leafT pl "error" [c]] 1
 else if isQt c then .leaf (strTs pl (qstr c t)) (1+(qstr c t).n)
 else if c==47&&headP (·==42) t then (match comEnd (t.drop 1) with
  | none=>.stop [leafT pl "comment" (t.drop 1)]
  | some k=>.leaf [leafT pl "comment" ((t.drop 1).take k)] (k+4))
 else if c==60&&t.take 3==[33,45,45] then .leaf [leafT pl "literal" [60,33,45,45]] 4
 else if c==124&&headP (·==124) t then .leaf [leafT pl "literal" [124,124]] 2
 else if isTl c then (if headP (·==61) t then .leaf [leafT pl "literal" [c,61]] 2 else .leaf [leafT pl "literal" [c]] 1)
 else .leaf [leafT pl "literal" [c]] 1
noncomputable def step (pl:Nat × Nat) (ec:Option Nat) (c:Nat) (t:List Nat):Step :=
 if isWs c then .leaf [leafT pl "whitespace" ((c::t).take (wsN (c::t)))] (wsN (c::t))
 else if isUu c&&(headP (·==43) t&&headP (fun n=>isHex n||n==63) (t.drop 1)) then .leaf [.mk pl (lit "unicode-range") (.tup [.int (hexVal (rng (t.drop 1)).a:Nat),.int (hexVal (rng (t.drop 1)).b:Nat)]) []] (2+(rng (t.drop 1)).n)
 else if (c::t).take 3==[45,45,62] then .leaf [leafT pl "literal" [45,45,62]] 3
 else if identStart (c::t) then stepI pl (ident (c::t)).1 (ident (c::t)).2 (c::t)
 else match numEnd (c::t) with
  | some (n,pn)=>stepN pl pn n (c::t)
  | none=>stepZ pl ec c t
noncomputable def mv (p:Nat × Nat) (r:List Nat):Nat × Nat:=r.foldl (fun p c=>if c==10 then (p.1+1,1) else (p.1,p.2+1)) p
noncomputable abbrev plP (p:Nat × Nat):Nat × Nat:=p
structure FT where
 items:List TT
 P:Nat × Nat
 K:List Nat
 N:V
 ec:Option Nat
noncomputable def closeT:List TT→List FT→List TT
 | cur,[]=>cur
 | cur,f::r=>closeT (f.items++[.mk f.P f.K f.N cur]) r
noncomputable def run:Nat→Nat × Nat→List Nat→List TT→Option Nat→List FT→List TT
 | 0,_,_,cur,_,st=>closeT cur st
 | _+1,_,[],cur,_,st=>closeT cur st
 | k+1,pl,c::t,cur,ec,st=>match step (plP pl) ec c t with
  | .leaf ts n=>run k (mv pl ((c::t).take n)) ((c::t).drop n) (cur++ts) ec st
  | .opn P K N e n=>run k (mv pl ((c::t).take n)) ((c::t).drop n) [] (some e) (⟨cur,P,K,N,ec⟩::st)
  | .cls=>(match st with
   | f::r=>run k (mv pl [c]) t (f.items++[.mk f.P f.K f.N cur]) f.ec r
   | []=>[])
  | .stop ts=>closeT (cur++ts) st
theorem run_cons (k:Nat) (pl:Nat × Nat) (c:Nat) (t:List Nat) (cur:List TT) (ec:Option Nat) (st:List FT):run (k+1) pl (c::t) cur ec st=match step (plP pl) ec c t with
  | .leaf ts n=>run k (mv pl ((c::t).take n)) ((c::t).drop n) (cur++ts) ec st
  | .opn P K N e n=>run k (mv pl ((c::t).take n)) ((c::t).drop n) [] (some e) (⟨cur,P,K,N,ec⟩::st)
  | .cls=>(match st with
   | f::r=>run k (mv pl [c]) t (f.items++[.mk f.P f.K f.N cur]) f.ec r
   | []=>[])
  | .stop ts=>closeT (cur++ts) st:=rfl
theorem run_nil (k:Nat) (pl:Nat × Nat) (cur:List TT) (ec:Option Nat) (st:List FT):run k pl [] cur ec st=closeT cur st:=by cases k <;> rfl
noncomputable def isOp (c:Nat):Bool:=c==40||c==91||c==123
noncomputable def cnt (r:List Nat):Nat:=r.countP isOp
theorem tw_le {p:Nat→Bool} (r:List Nat):(r.takeWhile p).length≤r.length:=(List.takeWhile_prefix p).length_le
theorem wsN_le (r:List Nat):wsN r≤r.length:=tw_le r
theorem ident_le (r:List Nat):(ident r).2≤r.length:=(ident_len _ r (Qd _)).2
set_option tactic.hygienic true in
theorem urlR_le (r:List Nat):(urlR r).n≤r.length:=by
 have h0:=wsN_le r
 unfold urlR
 split
 ·exact h0
 ·rename_i c t hd
  have hlen:r.length - wsN r=(c::t).length:=by rw [← Qa,hd]
  split
  ·simp at hlen ⊢; exact AR.h176 _ _ _ hlen
  ·have h1:=(urlB_len _ (c::t) (Qd _)).2
   generalize urlB (c::t)=b at h1
   unfold urlT
   split
   ·dsimp only; exact R35 hlen h1 h0
   ·dsimp only; exact R35 hlen h1 h0
   ·have h2:=wsN_le ((c::t).drop b.n)
    rw [Qa] at h2
    split
    ·dsimp only; exact R36 hlen h2 h0 h1
    ·rename_i e t' he
     have hl2:(c::t).length - (b.n+wsN ((c::t).drop b.n))=(e::t').length:=by rw [← Qa,he]
     split
     ·rw [Qb (a:=e)] at hl2; dsimp only; exact ar6 (.im (.eq (.s .v4 (.a .v1 .v2)) (.a .v5 .n1)) (.im (.eq (.s .v3 .v0) .v4) (.le (.a (.a (.a .v0 .v1) .v2) .n1) .v3))) rfl hl2 hlen
     ·have:=urlRem_le (e::t')
      dsimp only; exact ar7 (.im (.eq (.s .v5 (.a .v1 .v2)) .v6) (.im (.eq (.s .v4 .v0) .v5) (.im (.le .v2 (.s .v5 .v1)) (.im (.le .v3 .v6) (.im (.le .v0 .v4) (.im (.le .v1 .v5) (.le (.a (.a (.a .v0 .v1) .v2) .v3) .v4))))))) rfl hl2 hlen h2 this h0 h1
   ·have:=urlRem_le ((c::t).drop b.n)
    rw [Qa] at this
    dsimp only; exact R36 hlen this h0 h1
theorem digs_le (r:List Nat):digs r≤r.length:=tw_le r
theorem drop_len {r:List Nat} {n:Nat} {c:Nat} {t:List Nat} (h:r.drop n=c::t):n+1≤r.length:=by
 have:=congrArg List.length h
 rw [Qa] at this; simp at this; exact AR.h176 _ _ _ this
theorem headP_len {p:Nat→Bool} {r:List Nat} {n:Nat} (h:headP p (r.drop n)=true):n+1≤r.length:=by
 cases hd:r.drop n with
 | nil=>rw [hd] at h; cases h
 | cons c t=>exact drop_len hd
set_option tactic.hygienic true in
theorem expo_le (r:List Nat):expo r≤r.length:=by
 unfold expo
 generalize (if headP isSg (r.drop 1)=true then 1 else 0)=z
 split
 ·split
  ·rename_i h
   have:=headP_len h
   have h2:=digs_le (r.drop (1+z))
   rw [Qa] at h2
   exact ar3 (.im (.le (.a (.a .n1 .v0) .n1) .v2) (.im (.le .v1 (.s .v2 (.a .n1 .v0))) (.le (.a (.a .n1 .v0) .v1) .v2))) rfl this h2
  ·exact AR.h81 _
 ·exact AR.h81 _
theorem digs_pos {r:List Nat} (h:headP isDig r=true):1≤digs r:=by
 cases r with
 | nil=>cases h
 | cons c t =>
  have h:isDig c=true:=h
  rw [digs_cons,if_pos h]; exact AR.h84 _
set_option tactic.hygienic true in
theorem numEnd_le {r:List Nat} {n:Nat} {b:Bool} (h:numEnd r=some (n,b)):1≤n∧n≤r.length:=by
 unfold numEnd at h
 have ha:(if headP isSg r then 1 else 0)≤r.length:=by
  split
  ·rename_i h; exact headP_len (n:=0) h
  ·exact AR.h81 _
 generalize (if headP isSg r=true then 1 else 0)=a at h ha
 dsimp only at h
 have h1:=digs_le (r.drop a)
 rw [Qa] at h1
 split at h
 ·rename_i h2
  rw [Qc] at h2
  have h3:=headP_len h2.2
  cases h
  have h4:=digs_le (r.drop (a+digs (r.drop a)+2))
  have h5:=expo_le (r.drop (a+digs (r.drop a)+2+digs (r.drop (a+digs (r.drop a)+2))))
  rw [Qa] at h4 h5
  exact ar5 (.im (.le (.a (.a (.a .v0 .v1) .n1) .n1) .v4) (.im (.le .v3 (.s .v4 (.a (.a (.a .v0 .v1) (.n 2)) .v2))) (.im (.le .v2 (.s .v4 (.a (.a .v0 .v1) (.n 2)))) (.an (.le .n1 (.a (.a (.a (.a .v0 .v1) (.n 2)) .v2) .v3)) (.le (.a (.a (.a (.a .v0 .v1) (.n 2)) .v2) .v3) .v4))))) rfl h3 h5 h4
 ·split at h
  ·cases h
  ·cases h
   have h5:=expo_le (r.drop (a+digs (r.drop a)))
   rw [Qa] at h5
   exact ar4 (.im (.le .v2 (.s .v3 (.a .v0 .v1))) (.im (.le .v1 (.s .v3 .v0)) (.im (.nt (.eq (.a .v0 .v1) .v0)) (.an (.le .n1 (.a (.a .v0 .v1) .v2)) (.le (.a (.a .v0 .v1) .v2) .v3))))) rfl h5 h1 ‹_›
theorem qRun_le (r:List Nat):(hexRun r).length+(qRun r).length≤r.length:=by
 unfold qRun
 have h1:=tw_le (p:=(·==63)) ((r.drop (hexRun r).length).take (6 - (hexRun r).length))
 have h2:=hexRun_le r
 rw [Qm,Qa] at h1
 exact ar3 (.im (.le .v1 (.i (.s (.n 6) .v0) (.s .v2 .v0))) (.im (.le .v0 .v2) (.le (.a .v0 .v1) .v2))) rfl h1 h2
set_option tactic.hygienic true in
theorem rng_le (r:List Nat):(rng r).n≤r.length:=by
 have h1:=qRun_le r
 have h2:=hexRun_le r
 unfold rng
 split
 ·exact h1
 ·split
  ·rename_i h
   rw [Qc] at h
   have h3:=headP_len h.2
   have h4:=hexRun_le (r.drop ((hexRun r).length+1))
   rw [Qa] at h4
   dsimp only; exact ar3 (.im (.le (.a (.a .v0 .n1) .n1) .v2) (.im (.le .v1 (.s .v2 (.a .v0 .n1))) (.le (.a (.a .v0 .n1) .v1) .v2))) rfl h3 h4
  ·exact h2
set_option tactic.hygienic true in
theorem identStart_pos {r:List Nat} (h:identStart r=true):1≤(ident r).2:=by
 cases r with
 | nil=>cases h
 | cons c t =>
  rw [ident_cons]
  split
  ·dsimp only; exact AR.h84 _
  ·rename_i h1
   split
   ·dsimp only; exact ar2 (.le .n1 (.a (.a .v0 .v1) .n1)) rfl
   ·rename_i h2
    exfalso
    have e1:isNS c=false:=by
     cases hn:isNS c with
     | false=>rfl
     | true =>
      exfalso; apply h1
      unfold isNS at hn; unfold isNm
      simp only [Bool.or_eq_true] at hn ⊢
      rcases hn with ((hn | hn) | hn) | hn <;> simp [hn]
    have e2:(c==45)=false:=by
     cases hn:c==45 with
     | false=>rfl
     | true=>exfalso; apply h1; unfold isNm; rw [hn]; simp
    simp only [identStart,e1,e2,Bool.false_or,Bool.false_eq_true,if_false] at h
    exact h2 h
theorem comEnd_cons (c:Nat) (t:List Nat):comEnd (c::t)=if c==42&&headP (·==47) t then some 0 else (comEnd t).map (·+1):=rfl
set_option tactic.hygienic true in
theorem comEnd_le:∀ {r:List Nat} {k:Nat},comEnd r=some k→k+2≤r.length
 | [],_,h=>by cases h
 | c::t,k,h=>by
  rw [comEnd_cons] at h
  split at h
  ·rename_i h1
   rw [Qc] at h1
   cases h
   have:=headP_len (n:=0) h1.2
   simp; walk_at"m"
  ·cases h2:comEnd t with
   | none=>rw [h2] at h; cases h
   | some j =>
    rw [h2] at h
    cases h
    have:=comEnd_le h2
    simp; walk_at"m"
theorem wsN_pos {c:Nat} {t:List Nat} (h:isWs c=true):1≤wsN (c::t):=by
 unfold wsN; rw [Qq,if_pos h]; simp
noncomputable def StepOk (c:Nat) (t:List Nat):Step→Prop
 | .leaf _ n=>1≤n∧n≤t.length+1
 | .opn _ _ _ _ n=>1≤n∧n≤t.length+1∧(c::t)[n - 1]?.any isOp=true
 | _=>True
theorem stepOk_leaf {c:Nat} {t:List Nat} {ts:List TT} {n:Nat} (h:1≤n∧n≤t.length+1):StepOk c t (.leaf ts n):=h
theorem stepOk_ite {c:Nat} {t:List Nat} {b:Bool} {x y:Step} (h:b=true→StepOk c t x) (h':b=false→StepOk c t y):StepOk c t (if b then x else y):=by
 cases b with
 | true=>exact h rfl
 | false=>exact h' rfl
set_option tactic.hygienic true in
theorem step_le (pl:Nat × Nat) (ec:Option Nat) (c:Nat) (t:List Nat):StepOk c t (step pl ec c t):=by
 unfold step
 split
 ·rename_i h; exact ⟨wsN_pos h,wsN_le (c::t)⟩
 split
 ·rename_i h
  rw [Qc,Qc] at h
  have h1:=headP_len h.2.2
  have h2:=rng_le (t.drop 1)
  rw [Qa] at h2
  refine stepOk_leaf ?_; exact ar2 (.im (.le (.a .n1 .n1) .v1) (.im (.le .v0 (.s .v1 .n1)) (.an (.le .n1 (.a (.n 2) .v0)) (.le (.a (.n 2) .v0) (.a .v1 .n1))))) rfl h1 h2
 split
 ·rename_i h
  have:=congrArg List.length (eq_of_beq h)
  rw [Qm] at this
  simp at this
  refine stepOk_leaf ?_; exact ar1 (.im (.eq (.i (.n 3) (.a .v0 .n1)) (.n 3)) (.an (.le .n1 (.n 3)) (.le (.n 3) (.a .v0 .n1)))) rfl this
 split
 ·rename_i h
  have h1:=identStart_pos h
  have h2:=ident_le (c::t)
  simp only [List.length_cons] at h2
  unfold stepI
  split
  ·rename_i h3
   have h4:=headP_len h3
   simp only [List.length_cons] at h4
   split
   ·have:=urlR_le ((c::t).drop ((ident (c::t)).2+1))
    rw [Qa] at this
    simp only [List.length_cons] at this
    refine stepOk_leaf ?_; exact ar3 (.im (.le (.a .v0 .n1) (.a .v2 .n1)) (.im (.le .v1 (.s (.a .v2 .n1) (.a .v0 .n1))) (.an (.le .n1 (.a (.a .v0 .n1) .v1)) (.le (.a (.a .v0 .n1) .v1) (.a .v2 .n1))))) rfl h4 this
   ·refine ⟨by exact AR.h84 _,by walk_at"m",?_⟩
    rw [Nat.add_sub_cancel]
    cases hd:(c::t).drop (ident (c::t)).2 with
    | nil=>rw [hd] at h3; cases h3
    | cons e t' =>
     rw [hd] at h3
     rw [(get_of_drop hd).1]
     have:(e==40)=true:=h3
     show isOp e=true
     unfold isOp; rw [this]; rfl
  ·exact ⟨h1,h2⟩
 split
 ·rename_i n b h
  have h1:=numEnd_le h
  simp only [List.length_cons] at h1
  unfold stepN
  split
  ·have:=ident_le ((c::t).drop n)
   rw [Qa] at this
   simp only [List.length_cons] at this
   refine stepOk_leaf ?_; exact ar3 (.im (.an (.le .n1 .v0) (.le .v0 (.a .v2 .n1))) (.im (.le .v1 (.s (.a .v2 .n1) .v0)) (.an (.le .n1 (.a .v0 .v1)) (.le (.a .v0 .v1) (.a .v2 .n1))))) rfl h1 this
  ·split
   ·rename_i h2
    have:=headP_len h2
    simp only [List.length_cons] at this
    refine stepOk_leaf ?_; exact ar2 (.im (.le (.a .v0 .n1) (.a .v1 .n1)) (.an (.le .n1 (.a .v0 .n1)) (.le (.a .v0 .n1) (.a .v1 .n1)))) rfl this
   ·exact ⟨h1.1,by exact ar2 (.im (.an (.le .n1 .v0) (.le .v0 (.a .v1 .n1))) (.le .v0 (.a .v1 .n1))) rfl h1⟩
 ·unfold stepZ
  refine stepOk_ite (fun h=>stepOk_ite (fun h=>?_) (fun h=>?_)) (fun h=>?_)
  ·have:=ident_le t
   refine stepOk_leaf ?_; exact AR.h144 _ _ this
  ·refine stepOk_leaf ?_; exact AR.h47 _
  refine stepOk_ite (fun h=>stepOk_ite (fun h=>?_) (fun h=>?_)) (fun h=>?_)
  ·have:=ident_le t
   refine stepOk_leaf ?_; exact AR.h144 _ _ this
  ·refine stepOk_leaf ?_; exact AR.h47 _
  refine stepOk_ite (fun h=>⟨by walk_at"m",by exact AR.h84 _,by rw [eq_of_beq h]; rfl⟩) (fun h=>?_)
  refine stepOk_ite (fun h=>⟨by walk_at"m",by exact AR.h84 _,by rw [eq_of_beq h]; rfl⟩) (fun h=>?_)
  refine stepOk_ite (fun h=>⟨by walk_at"m",by exact AR.h84 _,by rw [eq_of_beq h]; rfl⟩) (fun h=>?_)
  refine stepOk_ite (fun h=>trivial) (fun h=>?_)
  refine stepOk_ite (fun h=>stepOk_leaf (by exact AR.h47 _)) (fun h=>?_)
  refine stepOk_ite (fun h=>?_) (fun h=>?_)
  ·have:=(qstr_len c _ t (Qd _)).2
   refine stepOk_leaf ?_; exact AR.h144 _ _ this
  refine stepOk_ite (fun h=>?_) (fun h=>?_)
  ·cases hk:comEnd (t.drop 1) with
   | none=>trivial
   | some k =>
    have:=comEnd_le hk
    rw [Qa] at this
    refine stepOk_leaf ?_; exact ar2 (.im (.le (.a .v0 (.n 2)) (.s .v1 .n1)) (.an (.le .n1 (.a .v0 (.n 4))) (.le (.a .v0 (.n 4)) (.a .v1 .n1)))) rfl this
  refine stepOk_ite (fun h=>?_) (fun h=>?_)
  ·rw [Qc] at h
   have:=congrArg List.length (eq_of_beq h.2)
   rw [Qm] at this
   simp at this
   refine stepOk_leaf ?_; exact ar1 (.im (.eq (.i (.n 3) .v0) (.n 3)) (.an (.le .n1 (.n 4)) (.le (.n 4) (.a .v0 .n1)))) rfl this
  refine stepOk_ite (fun h=>?_) (fun h=>?_)
  ·rw [Qc] at h
   have:=headP_len (n:=0) h.2
   refine stepOk_leaf ?_; exact R37 this
  refine stepOk_ite (fun h=>stepOk_ite (fun h=>?_) (fun h=>?_)) (fun h=>?_)
  ·have:=headP_len (n:=0) h
   refine stepOk_leaf ?_; exact R37 this
  ·refine stepOk_leaf ?_; exact AR.h47 _
  ·refine stepOk_leaf ?_; exact AR.h47 _
structure NF where
 items:List V
 a:Addr
 bl:V→V
 ec:Option Nat
noncomputable def optS:Option Nat→V
 | none=>.none
 | some c=>.str [c]
noncomputable def framesH:Addr→List NF→AH
 | _,[]=>[]
 | a,f::r=>(f.a,.lst (f.items++[f.bl (.ref a)]))::framesH f.a r
noncomputable def stackV (fs:List NF):List V:=fs.reverse.map fun f=>.tup [.ref f.a,optS f.ec]
theorem stackV_snoc (fs:List NF) (cur:List V) (a:Addr) (mk:V→V) (ec:Option Nat):stackV (⟨cur,a,mk,ec⟩::fs)=stackV fs++[.tup [.ref a,optS ec]]:=by unfold stackV; rw [List.reverse_cons,List.map_append]; rfl
noncomputable def rootOf:Addr→List NF→Addr
 | a,[]=>a
 | _,f::r=>rootOf f.a r
inductive FrRel (M L:Nat):List NF→List FT→Prop
 | nil:FrRel M L [] []
 | cons {f:NF} {t:FT} {fs:List NF} {ft:List FT}:NodesT (M - fs.length) f.items t.items→f.items.length≤L→f.ec=t.ec →
   (∀ vs us,NodesT (M - (fs.length+1)) vs us→vs.length≤1000000→NodeT (M - fs.length) (f.bl (.lst vs)) (.mk t.P t.K t.N us))→(∀ a vs,Rp a vs (f.bl (.ref a)) (f.bl (.lst vs))) →
   FrRel M L fs ft→FrRel M L (f::fs) (t::ft)
theorem FrRel.mono {M L L':Nat} (h:L≤L') {fs:List NF} {ft:List FT} (r:FrRel M L fs ft):FrRel M L' fs ft :=
 FrRel.rec (motive:=fun fs ft _=>FrRel M L' fs ft) .nil (fun a b c d e _ ih=>.cons a (Nat.le_trans b h) c d e ih) r
noncomputable def okst:Option Nat→List FT→Prop
 | ec,[]=>ec=none
 | _,f::r=>okst f.ec r
theorem mv_app (p:Nat × Nat) (a b:List Nat):mv p (a++b)=mv (mv p a) b:=List.foldl_append
noncomputable abbrev mvA (s:List Nat) (p:Nat):Nat × Nat:=mv (1,1) (s.take p)
noncomputable abbrev plA (s:List Nat) (p:Nat):Nat × Nat:=plP (mvA s p)
theorem mvA_add (s:List Nat) (p n:Nat):mvA s (p+n)=mv (mvA s p) ((s.drop p).take n):=by
 rw [mvA,List.take_add,mv_app]
structure PRel (s:List Nat) (FIN:List TT) (M:Nat) (root:Addr) (p:Nat) (ec:Option Nat) (a:Addr) (cur:List V) (curT:List TT) (fs:List NF) (ft:List FT):Prop where
 ple:p≤s.length
 nodes:NodesT (M - fs.length) cur curT
 frames:FrRel M (2 * p) fs ft
 rootA:rootOf a fs=root
 ok:okst ec ft
 len:cur.length≤2 * p
 flen:fs.length≤p
 cnt:fs.length+cnt (s.drop p) < M
 fin:∃ k,s.length - p≤k∧run k (mvA s p) (s.drop p) curT ec ft=FIN
 small:s.length≤100000
set_option genInjectivity false in
set_option genSizeOf false in
inductive PEnd (FIN:List TT) (M:Nat) (root a:Addr) (cur:List V) (fs:List NF):Prop
 | mk (curT:List TT) (ft:List FT) (L:Nat) (h1:NodesT (M - fs.length) cur curT) (h2:FrRel M L fs ft) (h3:rootOf a fs=root) (h4:fs.length < M) (h5:closeT curT ft=FIN) (h6:cur.length≤999999) (h7:L≤999998)
section
variable {s:List Nat} {FIN:List TT} {M:Nat} {root a:Addr} {p:Nat} {ec:Option Nat} {cur:List V} {curT:List TT} {fs:List NF} {ft:List FT} {c:Nat} {t:List Nat}
theorem PRel.run_cons (P:PRel s FIN M root p ec a cur curT fs ft) (hd:s.drop p=c::t):∃ k,t.length≤k∧run (k+1) (mvA s p) (c::t) curT ec ft=FIN:=by
 refine x12 (P.fin) fun k hk e=>?_
 have:=congrArg List.length hd
 rw [Qa] at this
 simp only [List.length_cons] at this
 cases k with
 | zero=>exact (ar3 (.im (.eq (.s .v0 .v1) (.a .v2 .n1)) (.im (.le (.s .v0 .v1) .n0) .ff)) rfl this hk).elim
 | succ k=>exact ⟨k,by exact ar4 (.im (.eq (.s .v2 .v3) (.a .v0 .n1)) (.im (.le (.s .v2 .v3) (.a .v1 .n1)) (.le .v0 .v1))) rfl this hk,by rw [← hd]; exact e⟩
theorem cnt_drop (r:List Nat) (n:Nat):cnt (r.drop n)≤cnt r:=by
 unfold cnt; exact List.Sublist.countP_le (List.drop_sublist n r)
theorem PRel.leaf (P:PRel s FIN M root p ec a cur curT fs ft) (hd:s.drop p=c::t) {ts:List TT} {vs:List V} {n:Nat} (hs:step (plA s p) ec c t=.leaf ts n) (hn:NodesT (M - fs.length) vs ts) (h2:vs.length≤2) :
  PRel s FIN M root (p+n) ec a (cur++vs) (curT++ts) fs ft∧p < p+n:=by
 refine x12 (P.run_cons hd) fun k hk e=>?_
 have hl:=step_le (plA s p) ec c t
 rw [hs] at hl
 have hlen:=congrArg List.length hd
 rw [Qa] at hlen
 simp only [List.length_cons] at hlen
 have hl:1≤n∧n≤t.length+1:=hl
 have hple:=P.ple
 have hlp:=P.len
 have hfl:=P.flen
 have hc:=P.cnt
 have hc2:Internal.cnt (s.drop (p+n))≤Internal.cnt (s.drop p):=by rw [← Qe]; exact cnt_drop _ _
 refine ⟨⟨by exact R38 hl hlen,P.nodes.append hn,P.frames.mono (by exact R39),P.rootA,P.ok,by rw [Qg]; exact ar5 (.im (.an (.le .n1 .v3) (.le .v3 (.a .v4 .n1))) (.im (.le .v0 (.m 2 .v2)) (.im (.le .v1 (.n 2)) (.le (.a .v0 .v1) (.m 2 (.a .v2 .v3)))))) rfl hl hlp h2,by exact ar3 (.im (.le .v0 .v1) (.le .v0 (.a .v1 .v2))) rfl hfl,by exact ar4 (.im (.lt (.a .v0 .v3) .v2) (.im (.le .v1 .v3) (.lt (.a .v0 .v1) .v2))) rfl hc hc2,⟨k,by exact ar5 (.im (.an (.le .n1 .v2) (.le .v2 (.a .v4 .n1))) (.im (.eq (.s .v0 .v1) (.a .v4 .n1)) (.im (.le .v4 .v3) (.le (.s .v0 (.a .v1 .v2)) .v3)))) rfl hl hlen hk,?_⟩,P.small⟩,by exact ar3 (.im (.an (.le .n1 .v1) (.le .v1 (.a .v2 .n1))) (.lt .v0 (.a .v0 .v1))) rfl hl⟩
 rw [Internal.run_cons,hs] at e
 rw [← Qe,mvA_add,hd]
 exact e
theorem cnt_op {r:List Nat} {n:Nat} (h1:1≤n) (h:r[n - 1]?.any isOp=true):cnt (r.drop n)+1≤cnt r:=by
 cases hg:r[n - 1]? with
 | none=>rw [hg] at h; cases h
 | some c =>
  rw [hg] at h
  have h:isOp c=true:=h
  have hd:=drop_cons hg
  rw [show n - 1+1=n by exact ar1 (.im (.le .n1 .v0) (.eq (.a (.s .v0 .n1) .n1) .v0)) rfl h1] at hd
  have h2:=cnt_drop r (n - 1)
  rw [hd] at h2
  have:cnt (c::r.drop n)=cnt (r.drop n)+1:=by unfold cnt; rw [List.countP_cons_of_pos h]
  exact ar3 (.im (.eq .v2 (.a .v0 .n1)) (.im (.le .v2 .v1) (.le (.a .v0 .n1) .v1))) rfl this h2
theorem PRel.opn (P:PRel s FIN M root p ec a cur curT fs ft) (hd:s.drop p=c::t) {PL:Nat × Nat} {K:List Nat} {N:V} {e n:Nat} (hs:step (plA s p) ec c t=.opn PL K N e n) {a':Addr} {mk:V→V}
  (hm:∀ i vs us,NodesT i vs us→vs.length≤1000000→NodeT (i+1) (mk (.lst vs)) (.mk PL K N us)) (hr:∀ a vs,Rp a vs (mk (.ref a)) (mk (.lst vs))) :
  PRel s FIN M root (p+n) (some e) a' [] [] (⟨cur,a,mk,ec⟩::fs) (⟨curT,PL,K,N,ec⟩::ft)∧p < p+n:=by
 refine x12 (P.run_cons hd) fun k hk er=>?_
 have hl:=step_le (plA s p) ec c t
 rw [hs] at hl
 have hlen:=congrArg List.length hd
 rw [Qa] at hlen
 simp only [List.length_cons] at hlen
 have hl:1≤n∧n≤t.length+1∧(c::t)[n - 1]?.any isOp=true:=hl
 have hple:=P.ple
 have hlp:=P.len
 have hfl:=P.flen
 have hc:=P.cnt
 have hc2:Internal.cnt (s.drop (p+n))+1≤Internal.cnt (s.drop p):=by rw [← Qe,hd]; exact cnt_op hl.1 hl.2.2
 refine ⟨⟨by walk_at"m",.nil,.cons P.nodes (by show cur.length≤_; exact ar3 (.im (.le .v0 (.m 2 .v1)) (.le .v0 (.m 2 (.a .v1 .v2)))) rfl hlp) rfl ?_ hr (P.frames.mono (by exact R39)),P.rootA,P.ok,by simp,by simp; walk_at"m",by simp; exact ar4 (.im (.le (.a .v1 .n1) .v3) (.im (.lt (.a .v0 .v3) .v2) (.lt (.a (.a .v0 .n1) .v1) .v2))) rfl hc2 hc,⟨k,by walk_at"m",?_⟩,P.small⟩,by walk_at"m"⟩
 ·intro vs us h hl
  have:=hm _ vs us h hl
  rw [show M - (fs.length+1)+1=M - fs.length by exact ar3 (.im (.lt (.a .v1 .v2) .v0) (.eq (.a (.s .v0 (.a .v1 .n1)) .n1) (.s .v0 .v1))) rfl hc] at this
  exact this
 ·rw [Internal.run_cons,hs] at er
  rw [← Qe,mvA_add,hd]
  exact er
theorem PRel.cls {f:NF} (P:PRel s FIN M root p ec a cur curT (f::fs) ft) (hd:s.drop p=c::t) (hs:step (plA s p) ec c t=.cls) :
  ∃ curT' ft',PRel s FIN M root (p+1) f.ec f.a (f.items++[f.bl (.lst cur)]) curT' fs ft':=by
 refine x12 (P.run_cons hd) fun k hk e=>?_
 have hlen:=congrArg List.length hd
 rw [Qa] at hlen
 simp only [List.length_cons] at hlen
 have hple:=P.ple
 have hlp:=P.len
 have hfl:=P.flen
 have hc:=P.cnt
 have hn:=P.nodes
 have hok:=P.ok
 have hrt:=P.rootA
 have hc2:Internal.cnt (s.drop (p+1))≤Internal.cnt (s.drop p):=by rw [← Qe]; exact cnt_drop _ _
 have hf:=P.frames
 simp only [List.length_cons] at hfl hc hn
 cases hf with
 | @cons _ ftop _ ft' h1 h2 h3 h4 h5 h6 =>
  refine ⟨ftop.items++[.mk ftop.P ftop.K ftop.N curT],ft',⟨by exact AR.h176 _ _ _ hlen,h1.snoc (h4 _ _ hn (by have:=P.small; exact ar4 (.im (.eq (.s .v1 .v2) (.a .v3 .n1)) (.im (.le .v0 (.m 2 .v2)) (.im (.le .v1 (.n 100000)) (.le .v0 (.n 1000000))))) rfl hlen hlp this)),h6.mono (by exact ar1 (.le (.m 2 .v0) (.m 2 (.a .v0 .n1))) rfl),hrt,?_,by rw [Qg]; simp; exact ar2 (.im (.le .v0 (.m 2 .v1)) (.le (.a .v0 .n1) (.m 2 (.a .v1 .n1)))) rfl h2,by exact ar2 (.im (.le (.a .v0 .n1) .v1) (.le .v0 (.a .v1 .n1))) rfl hfl,by exact ar4 (.im (.lt (.a (.a .v0 .n1) .v3) .v2) (.im (.le .v1 .v3) (.lt (.a .v0 .v1) .v2))) rfl hc hc2,⟨k,by exact ar4 (.im (.eq (.s .v0 .v1) (.a .v3 .n1)) (.im (.le .v3 .v2) (.le (.s .v0 (.a .v1 .n1)) .v2))) rfl hlen hk,?_⟩,P.small⟩⟩
  ·rw [h3]; exact hok
  ·rw [Internal.run_cons,hs] at e
   rw [← Qe,mvA_add,hd,h3]
   exact e
theorem PRel.cls_ne (P:PRel s FIN M root p (some c) a cur curT fs ft):∃ f fs',fs=f::fs':=by
 have hf:=P.frames
 have ho:=P.ok
 cases hf with
 | nil=>cases ho
 | cons=>exact ⟨_,_,rfl⟩
theorem PRel.stop (P:PRel s FIN M root p ec a cur curT fs ft) (hd:s.drop p=c::t) {ts:List TT} {vs:List V} (hs:step (plA s p) ec c t=.stop ts) (hn:NodesT (M - fs.length) vs ts) (h2:vs.length≤2):PEnd FIN M root a (cur++vs) fs:=by
 refine x12 (P.run_cons hd) fun k hk e=>?_
 have hc:=P.cnt
 rw [Internal.run_cons,hs] at e
 have h3:=P.small
 have h4:=P.len
 have h5:=P.ple
 exact ⟨_,ft,_,P.nodes.append hn,P.frames,P.rootA,by exact R40 hc,e,by rw [Qg]; exact ar4 (.im (.le .v0 (.m 2 .v2)) (.im (.le .v3 (.n 100000)) (.im (.le .v1 (.n 2)) (.im (.le .v2 .v3) (.le (.a .v0 .v1) (.n 999999)))))) rfl h4 h3 h2 h5,by exact R41 h3 h5⟩
theorem PRel.done (P:PRel s FIN M root p ec a cur curT fs ft) (hd:s.drop p=[]):PEnd FIN M root a cur fs:=by
 refine x12 (P.fin) fun k hk e=>?_
 have hc:=P.cnt
 rw [hd] at e
 rw [run_nil] at e
 have h3:=P.small
 have h4:=P.len
 have h5:=P.ple
 exact ⟨_,ft,_,P.nodes,P.frames,P.rootA,by exact R40 hc,e,by exact ar3 (.im (.le .v0 (.m 2 .v1)) (.im (.le .v2 (.n 100000)) (.im (.le .v1 .v2) (.le .v0 (.n 999999))))) rfl h4 h3 h5,by exact R41 h3 h5⟩
end
section
set_option genInjectivity false
set_option genSizeOf false
noncomputable def TabOk (i:Nat) (t:Option Pos):Prop:=t=none∨t=genPos (bodyAt i)
noncomputable abbrev TabH (t1 t2 t3:Option Pos):AH:=[(29,.tab t2),(36,.tab t3)]
noncomputable abbrev HP (stk a:Addr) (cur:List V) (fs:List NF) (T:AH):AH:=(stk,.lst (stackV fs))::(a,.lst cur)::(framesH a fs++T)
noncomputable def lA (s:List Nat) (p:Nat):Int:=((mvA s p).1:Int)
noncomputable def cA (s:List Nat) (p:Nat):Int:=((mvA s p).2:Int)
noncomputable def nlA (s:List Nat) (p:Nat):Int:=(p:Int) - cA s p
noncomputable abbrev LO (s:List Nat) (p tsp:Nat) (root a:Addr) (ec:Option Nat) (stk:Addr) (jK jC jB jR jO jE jJ jQ jF jM jG jA jL jN jH jP jI jD:V):Loc:=[("css",.str s),("skip_comments",.bool false),("length",.int s.length),("token_start_pos",.int tsp),("pos",.int p),("line",.int (lA s tsp)),("last_newline",.int (nlA s tsp)),("root",.ref root),("tokens",.ref a),("end_char",optS ec),("stack",.ref stk),("newline",jK),("column",jC),("c",jB),("value",jR),("start",jO),("end",jE),("is_url",jJ),("url_pos",jQ),("error",jF),("repr",jM),("error_key",jG),("arguments",jA),("plain",jL),("repr_",jN),("int_value",jH),("unit",jP),("is_identifier",jI),("content",jD)]
inductive PJ (s:List Nat) (FIN:List TT) (M:Nat) (root stk:Addr) (t1:Option Pos):Nat→Loc→AH→Prop
 | mk (p:Nat) {tsp:Nat} {ec:Option Nat} {a:Addr} {cur:List V} {curT:List TT} {fs:List NF} {ft:List FT} {t2 t3:Option Pos} {jK jC jB jR jO jE jJ jQ jF jM jG jA jL jN jH jP jI jD:V} (hts:tsp≤p) (P:PRel s FIN M root p ec a cur curT fs ft) (h2:TabOk 5 t2) (h3:TabOk 6 t3) :
  PJ s FIN M root stk t1 (s.length - p) (LO s p tsp root a ec stk jK jC jB jR jO jE jJ jQ jF jM jG jA jL jN jH jP jI jD) (HP stk a cur fs (TabH t1 t2 t3))
inductive PF (s:List Nat) (FIN:List TT) (M:Nat) (root stk:Addr) (t1:Option Pos):R→Loc→AH→Prop
 | mk {pv tv:V} {l ln:Int} {ec:V} {a:Addr} {cur:List V} {fs:List NF} {t2 t3:Option Pos} {jK jC jB jR jO jE jJ jQ jF jM jG jA jL jN jH jP jI jD:V} (P:PEnd FIN M root a cur fs) (h2:TabOk 5 t2) (h3:TabOk 6 t3) :
  PF s FIN M root stk t1 .next [("css",.str s),("skip_comments",.bool false),("length",.int s.length),("token_start_pos",tv),("pos",pv),("line",.int l),("last_newline",.int ln),("root",.ref root),("tokens",.ref a),("end_char",ec),("stack",.ref stk),("newline",jK),("column",jC),("c",jB),("value",jR),("start",jO),("end",jE),("is_url",jJ),("url_pos",jQ),("error",jF),("repr",jM),("error_key",jG),("arguments",jA),("plain",jL),("repr_",jN),("int_value",jH),("unit",jP),("is_identifier",jI),("content",jD)] (HP stk a cur fs (TabH t1 t2 t3))
noncomputable def QB (s:List Nat) (FIN:List TT) (M:Nat) (root stk:Addr) (t1:Option Pos) (n:Nat) (r:R) (lo:Loc) (H:AH):Prop:=match r with
 | .next | .cont=>∃ m,m < n∧PJ s FIN M root stk t1 m lo H
 | .brk=>PF s FIN M root stk t1 .next lo H
 | .ret v=>PF s FIN M root stk t1 (.ret v) lo H
section
variable {s:List Nat} {FIN:List TT} {M:Nat} {root a stk:Addr} {p:Nat} {ec:Option Nat} {cur:List V} {curT:List TT} {fs:List NF} {ft:List FT} {c:Nat} {t:List Nat} {t1 t2 t3:Option Pos}
theorem PJ.leaf (P:PRel s FIN M root p ec a cur curT fs ft) (hd:s.drop p=c::t) {ts:List TT} {vs:List V} {n:Nat} (hs:step (plA s p) ec c t=.leaf ts n) (hn:NodesT (M - fs.length) vs ts) (h2:vs.length≤2) {p':Nat} (hp:p'=p+n) {cur':List V} (hc:cur'=cur++vs) (ht2:TabOk 5 t2) (ht3:TabOk 6 t3) {jK jC jB jR jO jE jJ jQ jF jM jG jA jL jN jH jP jI jD:V} :
  ∃ m,m < s.length - p∧PJ s FIN M root stk t1 m (LO s p' p root a ec stk jK jC jB jR jO jE jJ jQ jF jM jG jA jL jN jH jP jI jD) (HP stk a cur' fs (TabH t1 t2 t3)):=by
 subst hp; subst hc
 refine x02 (P.leaf hd hs hn h2) fun P' h=>?_
 have:=P'.ple
 exact ⟨_,by exact R42 this h,.mk _ (by exact R10) P' ht2 ht3⟩
theorem PJ.opn (P:PRel s FIN M root p ec a cur curT fs ft) (hd:s.drop p=c::t) {PL:Nat × Nat} {K:List Nat} {N:V} {e n:Nat} (hs:step (plA s p) ec c t=.opn PL K N e n) {a':Addr} {mk:V→V}
  (hm:∀ i vs us,NodesT i vs us→vs.length≤1000000→NodeT (i+1) (mk (.lst vs)) (.mk PL K N us)) (hr:∀ a vs,Rp a vs (mk (.ref a)) (mk (.lst vs))) {p':Nat} (hp:p'=p+n) {S' cur':List V} (hS:S'=stackV fs++[.tup [.ref a,optS ec]]) (hc:cur'=cur++[mk (.ref a')]) {ev:V} (he:ev=.str [e]) (ht2:TabOk 5 t2) (ht3:TabOk 6 t3) {jK jC jB jR jO jE jJ jQ jF jM jG jA jL jN jH jP jI jD:V} :
  ∃ m,m < s.length - p∧PJ s FIN M root stk t1 m [("css",.str s),("skip_comments",.bool false),("length",.int s.length),("token_start_pos",.int p),("pos",.int p'),("line",.int (lA s p)),("last_newline",.int (nlA s p)),("root",.ref root),("tokens",.ref a'),("end_char",ev),("stack",.ref stk),("newline",jK),("column",jC),("c",jB),("value",jR),("start",jO),("end",jE),("is_url",jJ),("url_pos",jQ),("error",jF),("repr",jM),("error_key",jG),("arguments",jA),("plain",jL),("repr_",jN),("int_value",jH),("unit",jP),("is_identifier",jI),("content",jD)] ((stk,.lst S')::(a',.lst [])::(a,.lst cur')::(framesH a fs++TabH t1 t2 t3)):=by
 subst hp; subst hS; subst he; subst hc
 refine x02 (P.opn hd hs (a':=a') hm hr) fun P' h=>?_
 have:=P'.ple
 rw [← stackV_snoc fs cur a mk ec]
 exact ⟨_,by exact R42 this h,.mk _ (by exact R10) P' ht2 ht3⟩
theorem PJ.cls {f:NF} (P:PRel s FIN M root p ec a cur curT (f::fs) ft) (hd:s.drop p=c::t) (hs:step (plA s p) ec c t=.cls) {ev:V} (he:ev=optS f.ec) (ht2:TabOk 5 t2) (ht3:TabOk 6 t3) {jK jC jB jR jO jE jJ jQ jF jM jG jA jL jN jH jP jI jD:V} :
  ∃ m,m < s.length - p∧PJ s FIN M root stk t1 m [("css",.str s),("skip_comments",.bool false),("length",.int s.length),("token_start_pos",.int p),("pos",.int ((p+1:Nat):Int)),("line",.int (lA s p)),("last_newline",.int (nlA s p)),("root",.ref root),("tokens",.ref f.a),("end_char",ev),("stack",.ref stk),("newline",jK),("column",jC),("c",jB),("value",jR),("start",jO),("end",jE),("is_url",jJ),("url_pos",jQ),("error",jF),("repr",jM),("error_key",jG),("arguments",jA),("plain",jL),("repr_",jN),("int_value",jH),("unit",jP),("is_identifier",jI),("content",jD)] (HP stk f.a (f.items++[f.bl (.lst cur)]) fs (TabH t1 t2 t3)):=by
 subst he
 refine x21 (P.cls hd hs) fun curT' ft' P'=>?_
 have:=P'.ple
 exact ⟨_,by exact ar2 (.im (.le (.a .v1 .n1) .v0) (.lt (.s .v0 (.a .v1 .n1)) (.s .v0 .v1))) rfl this,.mk _ (by exact R11) P' ht2 ht3⟩
theorem PF.stop (P:PRel s FIN M root p ec a cur curT fs ft) (hd:s.drop p=c::t) {ts:List TT} {vs:List V} (hs:step (plA s p) ec c t=.stop ts) (hn:NodesT (M - fs.length) vs ts) (h2:vs.length≤2) {cur':List V} (hc:cur'=cur++vs) (ht2:TabOk 5 t2) (ht3:TabOk 6 t3) {l ln:Int} {ev pv tv jK jC jB jR jO jE jJ jQ jF jM jG jA jL jN jH jP jI jD:V} :
  PF s FIN M root stk t1 .next [("css",.str s),("skip_comments",.bool false),("length",.int s.length),("token_start_pos",tv),("pos",pv),("line",.int l),("last_newline",.int ln),("root",.ref root),("tokens",.ref a),("end_char",ev),("stack",.ref stk),("newline",jK),("column",jC),("c",jB),("value",jR),("start",jO),("end",jE),("is_url",jJ),("url_pos",jQ),("error",jF),("repr",jM),("error_key",jG),("arguments",jA),("plain",jL),("repr_",jN),("int_value",jH),("unit",jP),("is_identifier",jI),("content",jD)] (HP stk a cur' fs (TabH t1 t2 t3)):=by
 subst hc
 exact .mk (P.stop hd hs hn h2) ht2 ht3
theorem PF.done (P:PRel s FIN M root p ec a cur curT fs ft) (hd:s.drop p=[]) (ht2:TabOk 5 t2) (ht3:TabOk 6 t3) {l ln:Int} {ev pv tv jK jC jB jR jO jE jJ jQ jF jM jG jA jL jN jH jP jI jD:V} :
  PF s FIN M root stk t1 .next [("css",.str s),("skip_comments",.bool false),("length",.int s.length),("token_start_pos",tv),("pos",pv),("line",.int l),("last_newline",.int ln),("root",.ref root),("tokens",.ref a),("end_char",ev),("stack",.ref stk),("newline",jK),("column",jC),("c",jB),("value",jR),("start",jO),("end",jE),("is_url",jJ),("url_pos",jQ),("error",jF),("repr",jM),("error_key",jG),("arguments",jA),("plain",jL),("repr_",jN),("int_value",jH),("unit",jP),("is_identifier",jI),("content",jD)] (HP stk a cur fs (TabH t1 t2 t3)) :=
 .mk (P.done hd) ht2 ht3
end
theorem MUpd.app {b:Addr} {x x':MO} {T T':AH} (h:MUpd b x x' T T'):∀ F:AH,MUpd b x x' (F++T) (F++T')
 | []=>h
 | _::F=>.there (MUpd.app h F)
theorem rp_framesH {a:Addr} {vs:List V} {f:NF} (h:Rp a vs (f.bl (.ref a)) (f.bl (.lst vs))) (r:AH):RpH a vs ((f.a,.lst (f.items++[f.bl (.ref a)]))::r) ((f.a,.lst (f.items++[f.bl (.lst vs)]))::r) :=
 .cons (.lst (RpAll.append (RpAll.refl _) (.cons h .nil))) (RpH.refl _)
theorem Ss.freezeFs {g:Gx} {Γ:Fx} {d:Nat} {lo:Loc} {st:List Stmt} {Q:R→Loc→AH→Prop} {stk:Addr} {S:MO} {T:AH} {FIN:List TT} {M root:Nat} :
  ∀ (fs:List NF) (a:Addr) (cur:List V),PEnd FIN M root a cur fs→(∀ vs,NodesT M vs FIN→vs.length≤999999→Ss g Γ d st lo ((stk,S)::(root,.lst vs)::T) Q)→Ss g Γ d st lo ((stk,S)::(a,.lst cur)::(framesH a fs++T)) Q
 | [],a,cur,⟨curT,ft,L,h1,h2,h3,h4,h5,h6,h7⟩,k=>by
  cases h2
  subst h3
  have h5:curT=FIN:=h5
  subst h5
  exact k cur h1 h6
 | f::fs,a,cur,⟨curT,ft,L,h1,h2,h3,h4,h5,h6,h7⟩,k=>by
  cases h2 with
  | @cons _ ft0 _ ft g1 g2 g3 g4 g5 g6 =>
   simp only [List.length_cons] at h1 h4
   refine Ss.freeze (a:=a) (vs:=cur) (.there .here) (RpL.refl _) (.cons (.refl _) (rp_framesH (f:=f) (g5 _ _) _)) ?_
   exact Ss.freezeFs fs f.a _ ⟨_,ft,L,g1.snoc (g4 _ _ h1 (by exact AR.h299 _ h6)),g6,h3,by exact ar2 (.im (.lt (.a .v0 .n1) .v1) (.lt .v0 .v1)) rfl h4,h5,by rw [Qg]; simp; exact ar2 (.im (.le .v1 (.n 999998)) (.im (.le .v0 .v1) (.le .v0 (.n 999998)))) rfl h7 g2,h7⟩ k
noncomputable def loopB:List Stmt:=ifB (withB (bodyAt 30))
end
open NumText in
theorem intText_plus {x:Str} {cs:List Nat} (hx:x.cps.toList=43::cs) (h:AllDigits cs) (h1:cs≠[]) (h2:x.length≤4300):∃ z,PySem.intText? x=some z:=by
 have hall:∀ c∈x.cps.toList,43≤c∧c≤57:=by
  rw [hx]
  intro c hc
  rcases Qi hc with e | hc
  ·exact ar1 (.im (.eq .v0 (.n 43)) (.an (.le (.n 43) .v0) (.le .v0 (.n 57)))) rfl e
  ·have:=h c hc; exact ar1 (.im (.an (.le (.n 48) .v0) (.le .v0 (.n 57))) (.an (.le (.n 43) .v0) (.le .v0 (.n 57)))) rfl this
 have hl:x.cps.toList.length=x.length:=Array.length_toList
 have e1:numTextOf x=x.cps.toList:=by
  refine if_pos ?_
  rw [← Array.all_toList,List.all_eq_true]
  intro c hc
  have:=hall c hc
  exact Qs (by exact ar1 (.im (.an (.le (.n 43) .v0) (.le .v0 (.n 57))) (.lt .v0 (.n 128))) rfl this)
 have e2:numSeenOf x=x.cps.toList:=by
  show (numTextOf x).takeWhile _=_
  rw [e1]
  refine takeWhile_all fun c hc=>?_
  have:=hall c hc
  exact bne_iff_ne.mpr (by exact ar1 (.im (.an (.le (.n 43) .v0) (.le .v0 (.n 57))) (.nt (.eq .v0 .n0))) rfl this)
 unfold PySem.intText?
 rw [e1,e2,if_pos (beq_self_eq_true _),hx]
 rw [hx,Qb] at hl
 have es:sign ((43::cs).dropWhile blank)=(false,cs):=by rw [dropWhile_of (by decide)]; rfl
 have ec:core (43::cs)=cs:=by
  unfold core
  rw [es]
  show (cs.reverse.dropWhile blank).reverse=cs
  rw [dropWhile_digits h.reverse,List.reverse_reverse]
 rw [ec,es,digits_of h h1]
 have hsz:=PySem.NumText.push_size cs #[]
 refine ⟨_,if_pos ?_⟩
 rw [hsz]; simp only [Array.size_empty]; exact ar2 (.im (.eq (.a .v0 .n1) .v1) (.im (.le .v1 (.n 4300)) (.le (.a .n0 .v0) (.n 4300)))) rfl hl h2
theorem S'_toList (s:List Nat):(S' s).cps.toList=s:=by simp [S']
theorem S'_length (s:List Nat):(S' s).length=s.length:=by rw [str_len,S'_toList]
theorem intText_sd {sg ds:List Nat} (hs:sg=[]∨sg=[45]∨sg=[43]) (h:∀ c∈ds,48≤c∧c≤57) (hne:ds≠[]) (hl:ds.length≤4000):∃ z,PySem.intText? (S' (sg++ds))=some z:=by
 rcases hs with rfl | rfl | rfl
 ·exact ⟨_,intText_digits (by rw [S'_toList]; exact h) (by rw [S'_toList]; exact hne) (by rw [S'_length]; simp; exact ar1 (.im (.le .v0 (.n 4000)) (.le .v0 (.n 4300))) rfl hl)⟩
 ·exact ⟨_,intText_neg (S'_toList _) h hne (by rw [S'_length]; simp; exact R43 hl)⟩
 ·exact intText_plus (S'_toList _) h hne (by rw [S'_length]; simp; exact R43 hl)
set_option tactic.hygienic true in
theorem num_int {r:List Nat} {n:Nat} (h:numEnd r=some (n,true)) (hl:r.length≤640):∃ z,PySem.intText? (S' (r.take n))=some z:=by
 unfold numEnd at h
 have hsg:(if headP isSg r then 1 else 0)=(r.take (if headP isSg r then 1 else 0)).length∧(r.take (if headP isSg r then 1 else 0)=[]∨r.take (if headP isSg r then 1 else 0)=[45]∨r.take (if headP isSg r then 1 else 0)=[43]):=by
  cases r with
  | nil=>exact ⟨rfl,.inl rfl⟩
  | cons c t =>
   by_cases hc:isSg c=true
   ·have:headP isSg (c::t)=true:=hc
    rw [if_pos this]
    refine ⟨rfl,.inr ?_⟩
    unfold isSg at hc
    simp at hc
    rcases hc with rfl | rfl
    ·exact .inl rfl
    ·exact .inr rfl
   ·have:¬ headP isSg (c::t)=true:=hc
    rw [if_neg this]
    exact ⟨rfl,.inl rfl⟩
 generalize (if headP isSg r=true then 1 else 0)=a at h hsg
 dsimp only at h
 split at h
 ·cases h
 ·split at h
  ·cases h
  ·rename_i hne
   have h:=Option.some.inj h
   have h1:=congrArg Prod.fst h
   have h2:=congrArg Prod.snd h
   dsimp only at h1 h2
   have h3:expo (r.drop (a+digs (r.drop a)))=0:=by simpa using h2
   have hn:n=a+digs (r.drop a):=by exact ar4 (.im (.eq (.a (.a .v1 .v2) .v3) .v0) (.im (.eq .v3 .n0) (.eq .v0 (.a .v1 .v2)))) rfl h1 h3
   subst hn
   have e:r.take (a+digs (r.drop a))=r.take a++(r.drop a).takeWhile isDig:=by
    rw [List.take_add]
    congr 1
    unfold digs
    exact (List.prefix_iff_eq_take.mp (List.takeWhile_prefix _)).symm
   rw [e]
   refine intText_sd hsg.2 (fun c hc=>?_) (fun q=>?_) ?_
   ·have:=Qr (List.all_takeWhile (p:=isDig) (l:=r.drop a)) c hc
    unfold isDig at this
    simpa using this
   ·have:digs (r.drop a)=0:=by unfold digs; rw [q]; rfl
    exact ar2 (.im (.eq .v0 .n0) (.im (.nt (.eq (.a .v1 .v0) .v1)) .ff)) rfl this hne
   ·have:=tw_le (p:=isDig) (r.drop a)
    rw [Qa] at this; exact ar3 (.im (.le .v0 (.s .v1 .v2)) (.im (.le .v1 (.n 640)) (.le .v0 (.n 4000)))) rfl this hl
section
open PySem.Builtin PySem.Builtin.Str PySem.StrLaws
noncomputable def occQ (s y:List Nat) (hi:Nat):Nat→Nat→Nat→Nat→List Nat
 | _,0,_,_=>[]
 | 0,_+1,_,_=>[]
 | l+1,k+1,i,free=>if free≤i∧i+y.length≤hi∧(s.drop i).take y.length=y then i::occQ s y hi l k (i+1) (i+y.length) else occQ s y hi (l+1) k (i+1) free
theorem occQ_zero (s y:List Nat) (hi k i f:Nat):occQ s y hi 0 k i f=[]:=by cases k <;> rfl
theorem subAt_S' (s y:List Nat) (i:Nat):subAt (S' s) (S' y) i=((s.drop i).take y.length==y):=by
 rw [subAt_eq,S'_toList,S'_toList,S'_length]
theorem occQ_s (s y:List Nat) (hi l k i free:Nat):occQ s y hi (l+1) (k+1) i free=if free≤i∧i+y.length≤hi∧(s.drop i).take y.length=y then i::occQ s y hi l k (i+1) (i+y.length) else occQ s y hi (l+1) k (i+1) free:=rfl
theorem occ_forIn (s y:List Nat) (hi limit:Nat):∀ (k i:Nat) (acc:Array Nat) (free:Nat),(forIn (List.range' i k) (acc,free) (occBody (S' s) (S' y) hi limit)).run.fst.toList=acc.toList++occQ s y hi (limit - acc.size) k i free:=by
 intro k
 induction k with
 | zero=>intro i acc free; cases h:limit - acc.size <;> exact (List.append_nil _).symm
 | succ k ih0 =>
  intro i acc free
  rw [List.range'_succ,List.forIn_cons]
  unfold occBody
  rw [S'_length,subAt_S']
  by_cases h:((acc.size < limit∧free≤i)∧i+y.length≤hi)∧((s.drop i).take y.length==y)=true
  ·rw [if_pos h]
   have ih:=ih0 (i+1) (acc.push i) (i+y.length)
   have e:limit - acc.size=(limit - (acc.push i).size)+1:=by simp; walk_at"m"
   rw [e,occQ_s,if_pos ⟨h.1.1.2,h.1.2,eq_of_beq h.2⟩]
   refine Eq.trans ih ?_
   simp
  ·rw [if_neg h]
   have ih:=ih0 (i+1) acc free
   refine Eq.trans ih ?_
   congr 1
   cases hl:limit - acc.size with
   | zero=>rw [occQ_zero,occQ_zero]
   | succ l =>
    rw [occQ_s,if_neg]
    intro q
    refine h ⟨⟨⟨by exact ar3 (.im (.eq (.s .v1 .v0) (.a .v2 .n1)) (.lt .v0 .v1)) rfl hl,q.1⟩,q.2.1⟩,?_⟩
    rw [q.2.2]; exact beq_self_eq_true y
theorem occ_Q (s y:List Nat) (lo hi limit:Nat):occurrences (S' s) (S' y) lo hi limit=occQ s y hi limit (hi+1 - lo) lo lo:=by
 rw [occ_eq,occ_forIn]
 simp
theorem occ_com (s:List Nat):∀ (k i free:Nat),s.length+1 - i=k→i≤s.length→free≤i→occQ s [42,47] s.length 1 k i free=match comEnd (s.drop i) with
  | none=>[]
  | some j=>[i+j]:=by
 intro k
 induction k with
 | zero=>intro i free hk hi hf; exact (ar2 (.im (.eq (.s (.a .v0 .n1) .v1) .n0) (.im (.le .v1 .v0) .ff)) rfl hk hi).elim
 | succ k ih0 =>
  intro i free hk hi hf
  rw [occQ_s]
  cases hd:s.drop i with
  | nil =>
   have:=List.drop_eq_nil_iff.mp hd
   rw [if_neg (by intro q; simp at q)]
   have:k=0:=by exact ar3 (.im (.eq (.s (.a .v1 .n1) .v2) (.a .v0 .n1)) (.im (.le .v1 .v2) (.eq .v0 .n0))) rfl hk this
   subst this
   rfl
  | cons c t =>
   have hg:=get_of_drop hd
   have hl:=congrArg List.length hd
   rw [Qa] at hl
   simp only [List.length_cons] at hl
   rw [comEnd_cons]
   by_cases h:(c==42&&headP (·==47) t)=true
   ·rw [if_pos h]
    rw [Qc] at h
    cases t with
    | nil=>exact absurd h.2 (by simp [headP])
    | cons e u =>
     have h1:c=42:=by simpa using h.1
     have h2:e=47:=by simpa [headP] using h.2
     subst h1; subst h2
     rw [if_pos ⟨hf,by simp at hl ⊢; exact ar3 (.im (.eq (.s .v1 .v0) (.a (.a .v2 .n1) .n1)) (.le (.a .v0 (.n 2)) .v1)) rfl hl,rfl⟩,occQ_zero]
     rfl
   ·rw [if_neg h,if_neg]
    ·have ht:=hg.2.1
     by_cases hi2:i+1≤s.length
     ·rw [ih0 (i+1) free (by exact R2 hk) hi2 (by exact AR.h282 _ _ hf),ht]
      cases comEnd t with
      | none=>rfl
      | some j=>show [i+1+j]=[i+(j+1)]; congr 1; exact R0
     ·exact (ar3 (.im (.eq (.s .v0 .v1) (.a .v2 .n1)) (.im (.nt (.le (.a .v1 .n1) .v0)) .ff)) rfl hl hi2).elim
    ·intro q
     apply h
     have q:=q.2.2
     cases t with
     | nil=>simp at q
     | cons e u =>
      simp at q
      simp [headP,q.1,q.2]
theorem findAt_com (s:List Nat) (i:Nat) (h:i≤s.length):findAt s [42,47] (i:Int)=match comEnd (s.drop i) with
  | none=>-1
  | some k=>((i+k:Nat):Int):=by
 unfold findAt Txt.find3
 rw [S'_length,fromIndex_nat,occ_Q,occ_com s _ i i rfl h (Qd _)]
 cases comEnd (s.drop i) <;> rfl
noncomputable def repl (y z:List Nat):List Nat→List Nat
 | []=>[]
 | c::t=>if (c::t).take y.length=y then z++repl y z (t.drop (y.length - 1)) else c::repl y z t
 termination_by r=>r.length
 decreasing_by
  all_goals simp
  all_goals exact R44
theorem repl_nil (y z:List Nat):repl y z []=[]:=by rw [repl]
theorem repl_cons (y z:List Nat) (c:Nat) (t:List Nat):repl y z (c::t)=if (c::t).take y.length=y then z++repl y z (t.drop (y.length - 1)) else c::repl y z t:=by rw [repl]
theorem occQ_skip (s y:List Nat) (hi:Nat):∀ (d l k j:Nat),k≤l→occQ s y hi l k j (j+d)=occQ s y hi l (k - d) (j+d) (j+d)
 | 0,l,k,j,h=>rfl
 | d+1,l,0,j,h=>by rw [Nat.zero_sub]; cases l <;> rfl
 | d+1,l,k+1,j,h=>by
  obtain ⟨l',rfl⟩:∃ l',l=l'+1:=⟨l - 1,by exact R12 h⟩
  rw [occQ_s,if_neg (by intro q; have:=q.1; exact ar2 (.im (.le (.a .v0 (.a .v1 .n1)) .v0) .ff) rfl this)]
  have ih:=occQ_skip s y hi d (l'+1) k (j+1) (by exact R7 h)
  rw [show j+1+d=j+(d+1) by exact R0] at ih
  rw [ih,show k+1 - (d+1)=k - d by exact ar2 (.eq (.s (.a .v0 .n1) (.a .v1 .n1)) (.s .v0 .v1)) rfl]
theorem occQ_free (s y:List Nat) (hi:Nat):∀ (k l i f f':Nat),f≤i→f'≤i→occQ s y hi l k i f=occQ s y hi l k i f'
 | 0,l,i,f,f',_,_=>by cases l <;> rfl
 | k+1,0,i,f,f',_,_=>rfl
 | k+1,l+1,i,f,f',h,h'=>by
  rw [occQ_s,occQ_s]
  by_cases q:i+y.length≤hi∧(s.drop i).take y.length=y
  ·rw [if_pos ⟨h,q⟩,if_pos ⟨h',q⟩]
  ·rw [if_neg (fun x=>q x.2),if_neg (fun x=>q x.2)]
   exact occQ_free s y hi k (l+1) (i+1) f f' (by exact AR.h282 _ _ h) (by exact AR.h282 _ _ h')
theorem join_parts (s y z:List Nat) (hy:y≠[]):∀ (k:Nat) (l i a:Nat),s.length+1 - i=k→k≤l→i≤s.length+1→a≤i →
  (PySem.Str.join (S' z) (partsFrom (S' s) y.length a (occQ s y s.length l k i i))).cps.toList=(s.drop a).take (i - a)++repl y z (s.drop i):=by
 intro k
 have hyl:0 < y.length:=Qn hy
 induction k using Nat.strongRecOn with
 | _ k ih =>
  intro l i a hk hl hi ha
  cases k with
  | zero =>
   have e:occQ s y s.length l 0 i i=[]:=by cases l <;> rfl
   rw [e]
   show (strSub (S' s) a (S' s).length).cps.toList=_
   rw [strSub_toList,S'_toList,S'_length,Qp (show s.length≤i by exact ar2 (.im (.eq (.s (.a .v0 .n1) .v1) .n0) (.le .v0 .v1)) rfl hk),repl_nil,List.append_nil]
   rw [List.take_eq_take_iff,Qa]
   exact ar3 (.im (.eq (.s (.a .v0 .n1) .v2) .n0) (.eq (.i (.s .v0 .v1) (.s .v0 .v1)) (.i (.s .v2 .v1) (.s .v0 .v1)))) rfl hk
  | succ k =>
   obtain ⟨l',rfl⟩:∃ l',l=l'+1:=⟨l - 1,by exact R12 hl⟩
   rw [occQ_s]
   by_cases h:i≤i∧i+y.length≤s.length∧(s.drop i).take y.length=y
   ·rw [if_pos h]
    have hsk:=occQ_skip s y s.length (y.length - 1) l' k (i+1) (by exact R8 hl)
    rw [show i+1+(y.length - 1)=i+y.length by exact ar2 (.im (.lt .n0 .v1) (.eq (.a (.a .v0 .n1) (.s .v1 .n1)) (.a .v0 .v1))) rfl hyl] at hsk
    rw [hsk]
    have ih':=ih (k - (y.length - 1)) (by exact R44) l' (i+y.length) (i+y.length) (by exact ar4 (.im (.eq (.s (.a .v0 .n1) .v1) (.a .v3 .n1)) (.im (.lt .n0 .v2) (.eq (.s (.a .v0 .n1) (.a .v1 .v2)) (.s .v3 (.s .v2 .n1))))) rfl hk hyl) (by exact ar3 (.im (.le (.a .v0 .n1) (.a .v2 .n1)) (.le (.s .v0 (.s .v1 .n1)) .v2)) rfl hl) (by walk_at"m") (Qd _)
    refine x21 (partsFrom_ne (S' s) y.length (i+y.length) (occQ s y s.length l' (k - (y.length - 1)) (i+y.length) (i+y.length))) fun p r hp=>?_
    rw [hp] at ih'
    rw [show ∀ (x:PySem.Str) (w a c:Nat) (r:List Nat),partsFrom x w a (c::r)=strSub x a c::partsFrom x w (c+w) r from fun _ _ _ _ _=>rfl,hp,join_cons_cons]
    rw [app_list,app_list,ih',strSub_toList,S'_toList,S'_toList,Nat.sub_self,List.take_zero,List.nil_append]
    cases hd:s.drop i with
    | nil =>
     rw [hd] at h
     exact absurd h.2.2.symm (by simpa using hy)
    | cons c t =>
     rw [repl_cons,if_pos (by rw [← hd]; exact h.2.2)]
     have:t.drop (y.length - 1)=s.drop (i+y.length):=by
      have e1:=congrArg (List.drop y.length) hd
      rw [Qe] at e1
      rw [e1]
      obtain ⟨n,hn⟩:∃ n,y.length=n+1:=⟨y.length - 1,by exact ar1 (.im (.lt .n0 .v0) (.eq .v0 (.a (.s .v0 .n1) .n1))) rfl hyl⟩
      rw [hn]; rfl
     rw [this,Qf]
   ·rw [if_neg h]
    rw [occQ_free s y s.length k (l'+1) (i+1) i (i+1) (by exact R11) (by exact ar1 (.le (.a .v0 .n1) (.a .v0 .n1)) rfl)]
    rw [ih k (by exact ar1 (.lt .v0 (.a .v0 .n1)) rfl) (l'+1) (i+1) a (by exact R2 hk) (by exact R7 hl) (by exact ar3 (.im (.eq (.s (.a .v1 .n1) .v0) (.a .v2 .n1)) (.le (.a .v0 .n1) (.a .v1 .n1))) rfl hk) (by exact AR.h282 _ _ ha)]
    cases hd:s.drop i with
    | nil =>
     have hle:=List.drop_eq_nil_iff.mp hd
     rw [Qp (show s.length≤i+1 by exact AR.h282 _ _ hle),List.take_of_length_le (by rw [Qa]; exact ar3 (.im (.le .v0 .v2) (.le (.s .v0 .v1) (.s (.a .v2 .n1) .v1))) rfl hle),List.take_of_length_le (by rw [Qa]; exact ar3 (.im (.le .v0 .v2) (.le (.s .v0 .v1) (.s .v2 .v1))) rfl hle)]
    | cons c t =>
     have hg:=get_of_drop hd
     rw [repl_cons,if_neg,hg.2.1]
     ·have e:(s.drop a).take (i+1 - a)=(s.drop a).take (i - a)++[c]:=by
       rw [show i+1 - a=(i - a)+1 by exact AR.h122 _ _ ha,List.take_add_one,List.getElem?_drop,show a+(i - a)=i by exact AR.h165 _ _ ha,hg.1]
       rfl
      rw [e]; simp
     ·intro q
      apply h
      have:=congrArg List.length q
      rw [Qm,← hd,Qa] at this
      exact ⟨Qd _,by exact R24 this hyl,by rw [hd]; exact q⟩
theorem replace_repl (s y z:List Nat) (hy:y≠[]):(Txt.replace (S' s) (S' y) (S' z)).cps.toList=repl y z s:=by
 have e:=join_parts s y z hy (s.length+1) (s.length+1) 0 0 (by exact ar1 (.eq (.s (.a .v0 .n1) .n0) (.a .v0 .n1)) rfl) (Qd _) (by exact ar1 (.le .n0 (.a .v0 .n1)) rfl) (Qd _)
 simp only [Nat.sub_self,List.take_zero,List.nil_append,List.drop_zero] at e
 unfold Txt.replace
 rw [S'_length,S'_length,occ_Q,Nat.sub_zero]
 cases ho:(occQ s y s.length (s.length+1) (s.length+1) 0 0) with
 | nil =>
  rw [ho] at e
  rw [if_pos (by rfl),← e]
  show _=(strSub (S' s) 0 (S' s).length).cps.toList
  rw [strSub_toList,S'_toList,S'_length]
  simp
 | cons x r =>
  rw [if_neg,← ho,glued_eq_join,partsBetween_eq,e]
  have:(y.length==0)=false:=Qk (by have:=Qn hy; exact ar1 (.im (.lt .n0 .v0) (.nt (.eq .v0 .n0))) rfl this)
  rw [this]
  simp
theorem replace_repl' (x:List Nat) (y z:Str) (y' z':List Nat) (hy:y.cps.toList=y') (hz:z.cps.toList=z') (hne:y'≠[]):(Txt.replace (S' x) y z).cps.toList=repl y' z' x:=by
 subst hy; subst hz
 have h:=replace_repl x y.cps.toList z.cps.toList hne
 rw [S'_of,S'_of] at h
 exact h
set_option tactic.hygienic true in
theorem repl_len (y z:List Nat) (h:z.length≤y.length) (hy:y≠[]):∀ (n:Nat) (s:List Nat),s.length≤n→(repl y z s).length≤s.length
 | _,[],_=>by rw [repl_nil]; simp
 | 0,_::_,h=>by simp at h
 | n+1,c::t,hn=>by
  have hn:t.length≤n:=by simpa using hn
  have hyl:0 < y.length:=Qn hy
  rw [repl_cons]
  split
  ·rename_i q
   have:=repl_len y z h hy n (t.drop (y.length - 1)) (by rw [Qa]; exact ar3 (.im (.le .v0 .v2) (.le (.s .v0 (.s .v1 .n1)) .v2)) rfl hn)
   have e:=congrArg List.length q
   rw [Qm] at e
   rw [Qg]
   rw [Qa] at this
   simp only [List.length_cons] at e ⊢
   exact ar4 (.im (.eq (.i .v3 (.a .v2 .n1)) .v3) (.im (.le .v1 (.s .v2 (.s .v3 .n1))) (.im (.le .v0 .v3) (.le (.a .v0 .v1) (.a .v2 .n1))))) rfl e this h
  ·have:=repl_len y z h hy n t hn
   simp only [List.length_cons]; exact AR.h173 _ _ this
noncomputable def norm (s:List Nat):List Nat:=repl [12] [10] (repl [13] [10] (repl [13,10] [10] (repl [0] [65533] s)))
theorem norm_len (s:List Nat):(norm s).length≤s.length:=by
 unfold norm
 have h1:=repl_len [0] [65533] (by simp) (by simp) _ s (Qd _)
 have h2:=repl_len [13,10] [10] (by simp) (by simp) _ (repl [0] [65533] s) (Qd _)
 have h3:=repl_len [13] [10] (by simp) (by simp) _ (repl [13,10] [10] (repl [0] [65533] s)) (Qd _)
 have h4:=repl_len [12] [10] (by simp) (by simp) _ (repl [13] [10] (repl [13,10] [10] (repl [0] [65533] s))) (Qd _)
 exact ar5 (.im (.le .v0 .v2) (.im (.le .v3 .v1) (.im (.le .v4 .v3) (.im (.le .v2 .v4) (.le .v0 .v1))))) rfl h4 h1 h2 h3
noncomputable def lastQ (s:List Nat) (hi:Nat):Nat→Nat→Option Nat→Option Nat
 | 0,_,last=>last
 | k+1,i,last=>lastQ s hi k (i+1) (if i+1≤hi∧(s.drop i).take 1=[10] then some i else last)
theorem lastQ_s (s:List Nat) (hi k i:Nat) (last:Option Nat):lastQ s hi (k+1) i last=lastQ s hi k (i+1) (if i+1≤hi∧(s.drop i).take 1=[10] then some i else last):=rfl
theorem last_forIn (s:List Nat) (hi:Nat):∀ (k i:Nat) (last:Option Nat),(forIn (List.range' i k) last (lastBody (S' s) (S' [10]) hi)).run=lastQ s hi k i last
 | 0,i,last=>rfl
 | k+1,i,last=>by
  rw [List.range'_succ,List.forIn_cons,lastQ_s]
  unfold lastBody
  rw [S'_length,subAt_S']
  by_cases h:i+1≤hi∧(s.drop i).take 1=[10]
  ·rw [if_pos ⟨h.1,beq_iff_eq.mpr h.2⟩,if_pos h]
   exact last_forIn s hi k (i+1) (some i)
  ·rw [if_neg (fun q=>h ⟨q.1,beq_iff_eq.mp q.2⟩),if_neg h]
   exact last_forIn s hi k (i+1) last
noncomputable def NoNl (r:List Nat):Prop:=∀ c∈r,c≠10
inductive LastR (r:List Nat) (i:Nat) (last:Option Nat):Option Nat→Prop
 | none (h:NoNl r):LastR r i last last
 | some (A B:List Nat) (h:r=A++10::B) (hB:NoNl B):LastR r i last (some (i+A.length))
theorem last_R (s:List Nat) (hi:Nat) (hh:hi≤s.length):∀ (k i:Nat) (last:Option Nat),hi+1 - i=k→LastR ((s.drop i).take (hi - i)) i last (lastQ s hi k i last)
 | 0,i,last,e=>by
  rw [show hi - i=0 by exact R45 e]
  exact .none (fun c h=>by simp at h)
 | k+1,i,last,e=>by
  rw [lastQ_s]
  by_cases hi2:i=hi
  ·subst hi2
   rw [if_neg (by omega),show k=0 by exact R46 e,Nat.sub_self]
   exact .none (fun c h=>by simp at h)
  ·have hd:=drop_cons (List.getElem?_eq_getElem (show i < s.length by exact R47 e hh hi2))
   generalize s[i]=c at hd
   have ih:=last_R s hi hh k (i+1) (if i+1≤hi∧(s.drop i).take 1=[10] then some i else last) (by exact R2 e)
   rw [show hi - i=hi - (i+1)+1 by exact R48 e hi2,hd,List.take_succ_cons]
   rw [hd] at ih
   generalize lastQ s hi k (i+1) _=x at ih
   generalize (s.drop (i+1)).take (hi - (i+1))=r at ih
   cases ih with
   | none h =>
    by_cases hc:c=10
    ·rw [if_pos ⟨by exact R49 e hi2,by simp [hc]⟩]
     subst hc
     exact .some [] r rfl h
    ·rw [if_neg (by simp [hc])]
     exact .none (fun e he=>(Qi he).elim (fun q=>q ▸ hc) (h e))
   | some A B h hB =>
    rw [show i+1+A.length=i+(c::A).length by simp; exact R0,h]
    exact .some (c::A) B rfl hB
theorem mv_noNl:∀ (B:List Nat) (l c:Nat),NoNl B→mv (l,c) B=(l,c+B.length)
 | [],l,c,_=>rfl
 | b::B,l,c,h=>by
  have h1:=h b (.head _)
  have ih:=mv_noNl B l (c+1) (fun e he=>h e (.tail _ he))
  show mv (if b==10 then _ else _) B=_
  rw [if_neg (by simpa using h1),ih]
  simp; exact R0
theorem mv_line:∀ (A:List Nat) (l c:Nat),(mv (l,c) A).1=l+A.count 10
 | [],l,c=>rfl
 | b::A,l,c=>by
  show (mv (if b==10 then _ else _) A).1=_
  by_cases h:b=10
  ·subst h
   rw [if_pos (by decide:((10:Nat)==10)=true),mv_line A]; simp; exact R0
  ·rw [if_neg (by simpa using h),mv_line A]; simp [h]
theorem mv_nl (A B:List Nat) (p:Nat × Nat) (hB:NoNl B):mv p (A++10::B)=(p.1+A.count 10+1,1+B.length):=by
 rw [mv_app]
 obtain ⟨l,c⟩:=p
 have h1:=mv_line A l c
 generalize mv (l,c) A=q at h1
 show mv (q.1+1,1) B=_
 rw [mv_noNl B _ _ hB,h1]
theorem occ_count (s:List Nat) (hi:Nat) (hh:hi≤s.length):∀ (k i l free:Nat),hi+1 - i=k→k≤l→free≤i→(occQ s [10] hi l k i free).length=((s.drop i).take (hi - i)).count 10
 | 0,i,l,free,e,h1,h2=>by
  rw [show hi - i=0 by exact R45 e]
  cases l <;> (rw [List.take_zero]; rfl)
 | k+1,i,l,free,e,h1,h2=>by
  obtain ⟨l,rfl⟩:∃ l',l=l'+1:=⟨l - 1,by exact R12 h1⟩
  rw [occQ_s]
  by_cases hi2:i=hi
  ·subst hi2
   rw [if_neg (fun q=>by have:=q.2.1; have e:[10].length=1:=rfl; exact ar2 (.im (.le (.a .v0 .v1) .v0) (.im (.eq .v1 .n1) .ff)) rfl this e),show k=0 by exact R46 e,Nat.sub_self]
   simp; rfl
  ·have hd:=drop_cons (List.getElem?_eq_getElem (show i < s.length by exact R47 e hh hi2))
   generalize s[i]=c at hd
   rw [show hi - i=hi - (i+1)+1 by exact R48 e hi2,hd,List.take_succ_cons]
   by_cases hc:c=10
   ·subst hc
    rw [if_pos ⟨h2,by simp; exact R49 e hi2,by simp⟩,Qb,occ_count s hi hh k (i+1) l _ (by exact R2 e) (by exact R8 h1) (by simp)]
    simp
   ·rw [if_neg (by simp [hc]),occ_count s hi hh k (i+1) (l+1) _ (by exact R2 e) (by exact R7 h1) (by exact ar2 (.im (.le .v0 .v1) (.le .v0 (.a .v1 .n1))) rfl h2)]
    simp [hc]
theorem rfindAt_eq (s:List Nat) (i p:Nat) (h:p≤s.length):rfindAt s [10] (i:Int) (p:Int)=match lastQ s p (p+1 - i) i none with | some k=>(k:Int) | none=>-1:=by
 unfold rfindAt
 rw [fromIndex_nat,fromIndex_nat,Nat.min_eq_left h,last_eq,last_forIn]
 try rfl
theorem countAt_eq (s:List Nat) (i p:Nat) (h:p≤s.length):countAt s [10] (i:Int) (p:Int)=(((s.drop i).take (p - i)).count 10:Nat):=by
 unfold countAt
 rw [fromIndex_nat,fromIndex_nat,Nat.min_eq_left h,occ_Q,occ_count s p h _ i _ _ rfl (by exact ar3 (.im (.le .v0 .v2) (.le (.s (.a .v0 .n1) .v1) (.a .v2 .n1))) rfl h) (Qd _)]
theorem mvA_seg (s:List Nat) {i p:Nat} (h:i≤p):mvA s p=mv (mvA s i) ((s.drop i).take (p - i)):=by
 have:=mvA_add s i (p - i)
 rw [show i+(p - i)=p by exact ar2 (.im (.le .v0 .v1) (.eq (.a .v0 (.s .v1 .v0)) .v1)) rfl h] at this
 exact this
inductive NlR (s:List Nat) (i p:Nat):Int→Prop
 | none (h1:lA s i=lA s p) (h2:nlA s i=nlA s p):NlR s i p (-1)
 | some (n:Nat) (h1:lA s i+(1+countAt s [10] (i:Int) (n:Int))=lA s p) (h2:(n:Int)=nlA s p):NlR s i p n
theorem nl_R (s:List Nat) {i p:Nat} (h:i≤p) (hp:p≤s.length):NlR s i p (rfindAt s [10] (i:Int) (p:Int)):=by
 rw [rfindAt_eq s i p hp]
 have hL:=last_R s p hp (p+1 - i) i none rfl
 have hm:=mvA_seg s h
 have hlen:((s.drop i).take (p - i)).length=p - i:=by simp; exact ar3 (.im (.le .v0 .v2) (.eq (.i (.s .v0 .v1) (.s .v2 .v1)) (.s .v0 .v1))) rfl hp
 generalize lastQ s p (p+1 - i) i none=x at hL
 generalize hr:(s.drop i).take (p - i)=r at hL hm hlen
 cases hL with
 | none hn =>
  have hm':mvA s p=((mvA s i).1,(mvA s i).2+r.length):=by rw [hm]; exact mv_noNl r _ _ hn
  refine .none ?_ ?_
  ·unfold lA; rw [hm']
  ·unfold nlA cA; rw [hm']; dsimp only; omega
 | some A B e hB =>
  subst e
  rw [mv_nl A B _ hB] at hm
  have ha:(s.drop i).take A.length=A:=by
   have:=congrArg (List.take A.length) hr
   rw [List.take_take,Nat.min_eq_left (by simp at hlen; exact ar4 (.im (.eq (.a .v0 (.a .v3 .n1)) (.s .v1 .v2)) (.le .v0 (.s .v1 .v2))) rfl hlen),List.take_left] at this
   exact this
  simp at hlen
  refine .some (i+A.length) ?_ ?_
  ·rw [countAt_eq s i _ (by exact ar5 (.im (.eq (.a .v1 (.a .v3 .n1)) (.s .v4 .v0)) (.im (.le .v4 .v2) (.le (.a .v0 .v1) .v2))) rfl hlen hp),show i+A.length - i=A.length by exact R50,ha]
   unfold lA; rw [hm]; dsimp only; exact ar2 (.ieq (.a .v0 (.a .n1 .v1)) (.a (.a .v0 .v1) .n1)) rfl
  ·unfold nlA cA; rw [hm]; dsimp only; omega
end
noncomputable def numB:List Stmt:=ifB (loopB.drop 7)
noncomputable def zB:List Stmt:=elB (loopB.drop 7)
theorem one_node {n:Nat} {v:V} {t:TT} (h:NodeT n v t):NodesT n [v] [t]:=.cons h .nil
theorem TN {w:World} {g:Gx} (G:GG w g) {s:List Nat} {FIN:List TT} {M:Nat} {root a stk:Addr} {p:Nat} {ec:Option Nat} {cur:List V} {curT:List TT} {fs:List NF} {ft:List FT} {c:Nat} {t:List Nat} {t1 t2 t3:Option Pos} {n:Nat} {pl:Bool}
  (hl:s.length≤600) (P:PRel s FIN M root p ec a cur curT fs ft) (hd:s.drop p=c::t) (hs:step (plA s p) ec c t=stepN (plA s p) pl n (c::t)) (hne:numEnd (c::t)=some (n,pl)) (ht2:TabOk 5 t2) (ht3:TabOk 6 t3)  {jK jR jO jE jJ jQ jF jM jG jA jL jN jH jP jI jD:V} (he:jE=.int ((p+n:Nat):Int)) (hpl:jL=.bool pl) :
  Ss g Γ31 3 numB (LO s p p root a ec stk jK (.int (cA s p)) (.str [c]) jR jO jE jJ jQ jF jM jG jA jL jN jH jP jI jD) (HP stk a cur fs (TabH t1 t2 t3)) (QB s FIN M root stk t1 (s.length - p)):=by
 subst he; subst hpl
 have hl2:s.length≤10000:=by exact AR.h293 _ hl
 have hl3:s.length≤1000000:=by exact AR.h298 _ hl
 have hcl:=P.len
 have hple:=P.ple
 have hlen:=congrArg List.length hd
 rw [Qa] at hlen
 simp only [List.length_cons] at hlen
 have hn:=numEnd_le hne
 simp only [List.length_cons] at hn
 refine Ss.consK ?_
 walk_at"A"
 rw [slc_nat,show p+n - p=n by exact AR.h39 _ _,hd]
 have hz:pl=true→∃ z,PySem.intText? (S' ((c::t).take n))=some z:=fun e=>by
  subst e
  exact num_int hne (by simp; exact ar3 (.im (.eq (.s .v1 .v2) (.a .v0 .n1)) (.im (.le .v1 (.n 600)) (.le .v0 (.n 639)))) rfl hlen hl)
 obtain ⟨iv,hive,hiv,hiv2⟩:∃ iv:V,iv=intV pl ((c::t).take n)∧(iv=.none∨∃ z,iv=.int z)∧(∀ lo H,((("plain":Str),V.bool pl)∈lo)→((("repr_":Str),V.str ((c::t).take n))∈lo)→E g Γ31 3 (match (numB.drop 3).head? with | some (.Assign _ e _)=>e | _=>default) lo H fun v H'=>v=iv∧H'=H):=by
  cases pl with
  | true =>
   obtain ⟨z,hz⟩:=hz rfl
   refine ⟨.int z,by unfold intV; rw [if_pos rfl,hz],.inr ⟨z,rfl⟩,fun lo H h1 h2=>?_⟩
   refine E.ifeb true ?_ (fun _=>?_) (fun h=>by cases h)
   ·refine T.of (E.loc h1 (vne rfl) (tm2 ⟨rfl,rfl⟩)) (by intro _; rfl)
   ·walk_at"A"
    refine E.loc h2 (vne rfl) ?_
    walk_at"A"
    refine CB.int hz (by simp; exact ar4 (.im (.eq (.s .v2 .v3) (.a .v1 .n1)) (.im (.le .v2 (.n 600)) (.le (.i .v0 (.a .v1 .n1)) (.n 640)))) rfl hlen hl) ⟨rfl,rfl⟩
  | false =>
   refine ⟨.none,rfl,.inl rfl,fun lo H h1 h2=>?_⟩
   refine E.ifeb false ?_ (fun h=>by cases h) (fun _=>?_)
   ·refine T.of (E.loc h1 (vne rfl) (tm2 ⟨rfl,rfl⟩)) (by intro _; rfl)
   ·walk_at"A"
    exact ⟨rfl,rfl⟩
 have hivn:iv≠.unset:=by rcases hiv with rfl | ⟨z,rfl⟩ <;> exact vne rfl
 have hivp:iv.plain=true:=by rcases hiv with rfl | ⟨z,rfl⟩ <;> rfl
 refine E.to iv (hiv2 _ _ (by walk_at"d") (by walk_at"d")) ?_
 walk_at"A"
 refine S.ifb (identStart ((c::t).drop n)) ?_ (fun h=>?_) (fun h=>?_)
 ·refine T.and2b (decide (p+n < s.length)) ?_ (fun h=>?_) (fun h=>?_)
  ·walk_at"A"
   exact ⟨rfl,rfl⟩
  ·refine ⟨?_,rfl⟩
   rw [Qp (by have:=of_decide_eq_false h; simp; exact ar4 (.im (.eq (.s .v2 .v3) (.a .v0 .n1)) (.im (.nt (.lt (.a .v3 .v1) .v2)) (.le (.a .v0 .n1) .v1))) rfl hlen (Ar.f h))]
   rfl
  ·have h:=Qh h
   walk_at"A"
   refine (C33 G (List.getElem?_eq_getElem h) hl3 ?_).le (by walk_at"m")
   walk_at"A"
   first | (refine ⟨?_,rfl⟩; rw [← Qe,hd] <;> rfl; done) | (rw [← Qe,hd]; exact ⟨rfl,rfl⟩)
 ·walk_at"A"
  refine S.unpackK ["unit","pos"] (by repeat constructor) ?_
  walk_at"A"
  refine C34 G hl2 (by exact R38 hn hlen) ?_
  first | (refine' val1 ?_ ?_; rw [← Qe,hd]) | (refine' val2 ?_ ?_; rw [← Qe,hd]) | rw [← Qe,hd]
  walk_at"A"
  refine E.appendK (a:=a) ?_ (by walk_at"d") (.tail _ (.head _))
  walk_at"B"
  refine K22 G ?_ hiv ?_
  ·have h1:=ident_len _ ((c::t).drop n) (Qd _)
   rw [Qa] at h1
   simp only [List.length_cons] at h1
   exact ar6 (.im (.eq (.s .v1 .v2) (.a .v3 .n1)) (.im (.an (.le .v0 .v4) (.le .v4 (.s (.a .v3 .n1) .v5))) (.im (.le .v1 (.n 600)) (.le .v0 (.n 10000))))) rfl hlen h1 hl
  refine KApd.mk (vs:=cur) (.there .here) (by exact AR.h468 _ _ _ hcl hl hple) ?_
  walk_at"A"
  exact PJ.leaf (n:=n+(ident ((c::t).drop n)).2) P hd (hs.trans (by unfold stepN; rw [if_pos h,← hive])) (one_node (.dim hivp)) (by simp) (by exact R34) rfl ht2 ht3
 walk_at"A"
 refine S.ifb (headP (·==37) ((c::t).drop n)) ?_ (fun h2=>?_) (fun h2=>?_)
 ·walk_at"A"
  rw [show (Str.ofString "%").cps.toList=[37] from by decide +kernel,swAt_nat _ _ _ (by simp),← Qe,hd]
  refine ⟨?_,rfl⟩
  cases (c::t).drop n with
  | nil=>rfl
  | cons e u=>exact beq_one e 37
 ·walk_at"A"
  refine E.appendK (a:=a) ?_ (by walk_at"d") (.tail _ (.head _))
  walk_at"B"
  refine K21 G hiv ?_
  refine KApd.mk (vs:=cur) (.there .here) (by exact AR.h468 _ _ _ hcl hl hple) ?_
  walk_at"A"
  exact PJ.leaf (n:=n+1) P hd (hs.trans (by unfold stepN; rw [if_neg (nf h),if_pos h2,← hive])) (one_node (.percent hivp)) (by simp) (by exact R51) rfl ht2 ht3
 ·walk_at"A"
  refine E.appendK (a:=a) ?_ (by walk_at"d") (.tail _ (.head _))
  walk_at"B"
  refine K20 G hiv ?_
  refine KApd.mk (vs:=cur) (.there .here) (by exact AR.h468 _ _ _ hcl hl hple) ?_
  walk_at"A"
  exact PJ.leaf (n:=n) P hd (hs.trans (by unfold stepN; rw [if_neg (nf h),if_neg (nf h2),← hive])) (one_node (.number hivp)) (by simp) (by exact R52) rfl ht2 ht3
section
set_option genSizeOf false
set_option genInjectivity false
theorem cs_cl (n:Nat):inStr [n] (Str.ofString "}])").cps.toList=isCl n :=
 set_of (p:=isCl) (by decide +kernel) (by decide +kernel) (fun n h=>by simp [isCl]; exact ar1 (.im (.le (.n 128) .v0) (.an (.an (.nt (.eq .v0 (.n 125))) (.nt (.eq .v0 (.n 93)))) (.nt (.eq .v0 (.n 41))))) rfl h) n
theorem cs_tl (n:Nat):inStr [n] (Str.ofString "~|^$*").cps.toList=isTl n :=
 set_of (p:=isTl) (by decide +kernel) (by decide +kernel) (fun n h=>by simp [isTl]; exact ar1 (.im (.le (.n 128) .v0) (.an (.an (.an (.an (.nt (.eq .v0 (.n 126))) (.nt (.eq .v0 (.n 124)))) (.nt (.eq .v0 (.n 94)))) (.nt (.eq .v0 (.n 36)))) (.nt (.eq .v0 (.n 42))))) rfl h) n
theorem qt_any (n:Nat):([V.str (Str.ofString "\"").cps.toList,V.str (Str.ofString "'").cps.toList].any (eqStr [n]))=isQt n:=by
 rw [show (Str.ofString "\"").cps.toList=[34] from by decide +kernel,show (Str.ofString "'").cps.toList=[39] from by decide +kernel]
 exact any2 [n] fun _=>rfl
theorem stackV_cons (f:NF) (fs:List NF):stackV (f::fs)=stackV fs++[.tup [.ref f.a,optS f.ec]]:=by simp [stackV]
theorem stackV_len (fs:List NF):(stackV fs).length=fs.length:=by simp [stackV]
theorem qres0 {i:Nat} {q:QR} (h:q.st=0):qres i q=.tup [.str q.val,.int ((i+q.n:Nat):Int),.none]:=by unfold qres; rw [h]; rfl
theorem qres1 {i:Nat} {q:QR} (h:q.st=1):qres i q=.tup [.none,.int ((i+q.n:Nat):Int),.tup [.str (lit "bad-string"),.str (lit "Bad string token")]]:=by unfold qres; rw [h]; rfl
set_option tactic.hygienic true in
theorem qres2 {i:Nat} {q:QR} (h:q.st≠0) (h':q.st≠1):qres i q=.tup [.str q.val,.int ((i+q.n:Nat):Int),.tup [.str (lit "eof-in-string"),.str (lit "EOF in string")]]:=by
 cases q with | mk v n st=>cases st with | zero=>exact absurd rfl h | succ k=>cases k with | zero=>exact absurd rfl h' | succ _=>rfl
set_option tactic.hygienic true in
theorem strTs2 {pl:Nat × Nat} {q:QR} (h:q.st≠0) (h':q.st≠1):strTs pl q=[leafT pl "string" q.val,leafT pl "error" (lit "eof-in-string")]:=by
 cases q with | mk v n st=>cases st with | zero=>exact absurd rfl h | succ k=>cases k with | zero=>exact absurd rfl h' | succ _=>rfl
theorem qsL {v:List Nat}:((v.map qsF).flatten).length≤8 * v.length:=by
 induction v with
 | nil=>simp
 | cons a r ih =>
  have:=qsF_len a
  (try walk_at"k"); simp only [List.map_cons,List.flatten_cons,List.length_append,List.length_cons]
  exact AR.h380 _ _ _ ih this
noncomputable def brB:Nat→List Stmt→List Stmt
 | 0,l=>bif (ifB l).isEmpty then l else ifB l
 | n+1,l=>brB n (elB l)
noncomputable def fst1:List Bool→Nat
 | []=>0
 | b::r=>bif b then 0 else fst1 r+1
theorem Ss.toNil {g:Gx} {Γ:Fx} {d:Nat} {lo:Loc} {H:AH} {st:List Stmt} {Q:R→Loc→AH→Prop} (h:Ss g Γ d st lo H Q):Ss g Γ d st lo H (KSs g Γ d [] Q):=h.mono fun r lo' H' q=>by
 induction r with
 | next=>exact Ss.nil q
 | _=>exact q
inductive Chain (g:Gx) (Γ:Fx) (d:Nat) (lo:Loc) (H:AH):List Bool→List Stmt→Prop
 | nil {l:List Stmt} (h:(ifB l).isEmpty=true):Chain g Γ d lo H [] l
 | cons {b:Bool} {r:List Bool} {test:Expr} {x y:List Stmt} {pos:Pos} (ht:T g Γ d test lo H (IsT b H)) (hx:x.isEmpty=false) (C:Chain g Γ d lo H r y):Chain g Γ d lo H (b::r) [.If test x y pos]
theorem Chain.use {g:Gx} {Γ:Fx} {d:Nat} {lo:Loc} {H:AH} {bs:List Bool} {st:List Stmt} (C:Chain g Γ d lo H bs st) {Q:R→Loc→AH→Prop} (k:Ss g Γ d (brB (fst1 bs) st) lo H Q):Ss g Γ d st lo H Q:=by
 induction C with
 | @nil l h =>
  change Ss g Γ d (bif (ifB l).isEmpty then l else ifB l) lo H Q at k
  rw [h] at k; exact k
 | @cons b r test x y pos ht hx C ih =>
  refine Ss.consK ?_
  cases b with
  | true =>
   have e:ifB [.If test x y pos]=x:=rfl
   change Ss g Γ d (bif (ifB [.If test x y pos]).isEmpty then [.If test x y pos] else ifB [.If test x y pos]) lo H Q at k
   rw [e,hx] at k
   exact S.ifT ht (Ss.toNil k)
  | false=>exact S.ifF ht (Ss.toNil (ih k))
theorem joint {α:Type} {P:Nat→α→Prop} {b:Bool} {r:List Bool} {x y:α} (h1:b=true→P 0 x) (h2:P (fst1 r+1) y):P (fst1 (b::r)) (if b then x else y):=by
 cases b with
 | true=>exact h1 rfl
 | false=>exact h2
inductive KZ (pl:Nat × Nat) (ec:Option Nat) (c:Nat) (t:List Nat):Nat→Step→Prop
 | atk (h:c=64):KZ pl ec c t 0 ((if identStart t then .leaf [leafT pl "at-keyword" (ident t).1] (1+(ident t).2) else .leaf [leafT pl "literal" [64]] 1))
 | hash (h:c=35):KZ pl ec c t 1 ((if headP isNm t||escOk t then .leaf [.mk pl (lit "hash") (.tup [.str (ident t).1,.bool (identStart t)]) []] (1+(ident t).2) else .leaf [leafT pl "literal" [35]] 1))
 | lc (h:c=123):KZ pl ec c t 2 (.opn pl (lit "{} block") (.str []) 125 1)
 | lb (h:c=91):KZ pl ec c t 3 (.opn pl (lit "[] block") (.str []) 93 1)
 | lp (h:c=40):KZ pl ec c t 4 (.opn pl (lit "() block") (.str []) 41 1)
 | cls (h:(ec==some c)=true):KZ pl ec c t 5 (.cls)
 | cl (h:(isCl c)=true):KZ pl ec c t 6 (.leaf [leafT pl "error" [c]] 1)
 | qt (h:(isQt c)=true):KZ pl ec c t 7 (.leaf (strTs pl (qstr c t)) (1+(qstr c t).n))
 | com (h:(c==47&&headP (·==42) t)=true):KZ pl ec c t 8 ((match comEnd (t.drop 1) with | none=>.stop [leafT pl "comment" (t.drop 1)] | some k=>.leaf [leafT pl "comment" ((t.drop 1).take k)] (k+4)))
 | cdo (h:(c==60&&t.take 3==[33,45,45])=true):KZ pl ec c t 9 (.leaf [leafT pl "literal" [60,33,45,45]] 4)
 | bar (h:(c==124&&headP (·==124) t)=true):KZ pl ec c t 10 (.leaf [leafT pl "literal" [124,124]] 2)
 | tl (h:(isTl c)=true):KZ pl ec c t 11 ((if headP (·==61) t then .leaf [leafT pl "literal" [c,61]] 2 else .leaf [leafT pl "literal" [c]] 1))
 | lit :KZ pl ec c t 12 (.leaf [leafT pl "literal" [c]] 1)
theorem kz_cases (pl:Nat × Nat) (ec:Option Nat) (c:Nat) (t:List Nat):KZ pl ec c t (fst1 [c==64,c==35,c==123,c==91,c==40,ec==some c,isCl c,isQt c,c==47&&headP (·==42) t,c==60&&t.take 3==[33,45,45],c==124&&headP (·==124) t,isTl c]) (stepZ pl ec c t) :=
 joint (P:=KZ pl ec c t) (fun h=>.atk (eq_of_beq h)) <|
 joint (P:=fun n a=>KZ pl ec c t (n+1) a) (fun h=>.hash (eq_of_beq h)) <|
 joint (P:=fun n a=>KZ pl ec c t (n+2) a) (fun h=>.lc (eq_of_beq h)) <|
 joint (P:=fun n a=>KZ pl ec c t (n+3) a) (fun h=>.lb (eq_of_beq h)) <|
 joint (P:=fun n a=>KZ pl ec c t (n+4) a) (fun h=>.lp (eq_of_beq h)) <|
 joint (P:=fun n a=>KZ pl ec c t (n+5) a) (fun h=>.cls h) <|
 joint (P:=fun n a=>KZ pl ec c t (n+6) a) (fun h=>.cl h) <|
 joint (P:=fun n a=>KZ pl ec c t (n+7) a) (fun h=>.qt h) <|
 joint (P:=fun n a=>KZ pl ec c t (n+8) a) (fun h=>.com h) <|
 joint (P:=fun n a=>KZ pl ec c t (n+9) a) (fun h=>.cdo h) <|
 joint (P:=fun n a=>KZ pl ec c t (n+10) a) (fun h=>.bar h) <|
 joint (P:=fun n a=>KZ pl ec c t (n+11) a) (fun h=>.tl h) <|
 .lit
set_option maxHeartbeats 4000000 in
theorem z_chain {g:Gx} {s:List Nat} {root a stk:Addr} {p:Nat} {ec:Option Nat} {c:Nat} {t:List Nat}  {jK jR jO jE jJ jQ jF jM jG jA jL jN jH jP jI jD:V} {H:AH} (hl3:s.length≤1000000) (hd:s.drop p=c::t) :
  Chain g Γ31 3 (LO s p p root a ec stk jK (.int (cA s p)) (.str [c]) jR jO jE jJ jQ jF jM jG jA jL jN jH jP jI jD) H [c==64,c==35,c==123,c==91,c==40,ec==some c,isCl c,isQt c,c==47&&headP (·==42) t,c==60&&t.take 3==[33,45,45],c==124&&headP (·==124) t,isTl c] zB:=by
 have hgd:=get_of_drop hd
 have hec:optS ec≠.unset:=by cases ec <;> exact vne rfl
 refine .cons (b:=c==64) ?_ rfl ?_
 ·walk_at"B"
  first | (refine ⟨?_,rfl⟩; rw [eqc_at] <;> rfl; done) | (rw [eqc_at]; exact ⟨rfl,rfl⟩)
 refine .cons (b:=c==35) ?_ rfl ?_
 ·walk_at"B"
  first | (refine ⟨?_,rfl⟩; rw [eqc_hash] <;> rfl; done) | (rw [eqc_hash]; exact ⟨rfl,rfl⟩)
 refine .cons (b:=c==123) ?_ rfl ?_
 ·walk_at"B"
  first | (refine ⟨?_,rfl⟩; rw [eqc_lc] <;> rfl; done) | (rw [eqc_lc]; exact ⟨rfl,rfl⟩)
 refine .cons (b:=c==91) ?_ rfl ?_
 ·walk_at"B"
  first | (refine ⟨?_,rfl⟩; rw [eqc_lb] <;> rfl; done) | (rw [eqc_lb]; exact ⟨rfl,rfl⟩)
 refine .cons (b:=c==40) ?_ rfl ?_
 ·walk_at"B"
  first | (refine ⟨?_,rfl⟩; rw [eqc_lp] <;> rfl; done) | (rw [eqc_lp]; exact ⟨rfl,rfl⟩)
 refine .cons (b:=ec==some c) ?_ rfl ?_
 ·walk_at"B"
  cases ec with
  | none=>exact cm10 ⟨rfl,rfl⟩
  | some e =>
   refine cm7 ⟨?_,rfl⟩
   rw [beq_one,Bool.eq_iff_iff,beq_iff_eq,beq_iff_eq,Option.some.injEq]
   exact eq_comm
 refine .cons (b:=isCl c) ?_ rfl ?_
 ·walk_at"B"
  first | (refine ⟨?_,rfl⟩; rw [cs_cl] <;> rfl; done) | (rw [cs_cl]; exact ⟨rfl,rfl⟩)
 refine .cons (b:=isQt c) ?_ rfl ?_
 ·walk_at"B"
  exact ⟨qt_any c,rfl⟩
 refine .cons (b:=c==47&&headP (·==42) t) ?_ rfl ?_
 ·walk_at"B"
  rw [show (Str.ofString "/*").cps.toList=[47,42] from by decide +kernel,swAt_nat _ _ _ (by simp),hd]
  refine ⟨?_,rfl⟩
  cases t with
  | nil=>simp [headP]
  | cons e u=>rw [Bool.eq_iff_iff]; simp [headP]
 refine .cons (b:=c==60&&t.take 3==[33,45,45]) ?_ rfl ?_
 ·walk_at"B"
  first | (refine ⟨?_,rfl⟩; rw [show (Str.ofString "<!--").cps.toList=[60,33,45,45] from by decide +kernel,swAt_nat _ _ _ (by simp),hd] <;> rfl; done) | (rw [show (Str.ofString "<!--").cps.toList=[60,33,45,45] from by decide +kernel,swAt_nat _ _ _ (by simp),hd]; exact ⟨rfl,rfl⟩)
 refine .cons (b:=c==124&&headP (·==124) t) ?_ rfl ?_
 ·walk_at"B"
  rw [show (Str.ofString "||").cps.toList=[124,124] from by decide +kernel,swAt_nat _ _ _ (by simp),hd]
  refine ⟨?_,rfl⟩
  cases t with
  | nil=>simp [headP]
  | cons e u=>rw [Bool.eq_iff_iff]; simp [headP]
 refine .cons (b:=isTl c) ?_ rfl ?_
 ·walk_at"B"
  first | (refine ⟨?_,rfl⟩; rw [cs_tl] <;> rfl; done) | (rw [cs_tl]; exact ⟨rfl,rfl⟩)
 exact .nil rfl
theorem nlit {n:Nat} {x y:List Nat} {c l:Nat} (e:x=y):NodeT n (.obj 206 [.str x,.int c,.int l]) (leafT (l,c) "literal" y):=e ▸ .literal
set_option maxHeartbeats 4000000 in
theorem TZ {w:World} {g:Gx} (G:GG w g) {s:List Nat} {FIN:List TT} {M:Nat} {root a stk:Addr} {p:Nat} {ec:Option Nat} {cur:List V} {curT:List TT} {fs:List NF} {ft:List FT} {c:Nat} {t:List Nat} {t1 t2 t3:Option Pos}
  (hl:s.length≤600) (P:PRel s FIN M root p ec a cur curT fs ft) (hd:s.drop p=c::t) (hs:step (plA s p) ec c t=stepZ (plA s p) ec c t) (ht2:TabOk 5 t2) (ht3:TabOk 6 t3)  {jK jR jO jE jJ jQ jF jM jG jA jL jN jH jP jI jD:V} :
  Ss g Γ31 3 zB (LO s p p root a ec stk jK (.int (cA s p)) (.str [c]) jR jO jE jJ jQ jF jM jG jA jL jN jH jP jI jD) (HP stk a cur fs (TabH t1 t2 t3)) (QB s FIN M root stk t1 (s.length - p)):=by
 have hl2:s.length≤10000:=by exact AR.h293 _ hl
 have hl3:s.length≤1000000:=by exact AR.h298 _ hl
 have hcl:=P.len
 have hple:=P.ple
 have hfl:=P.flen
 have hgd:=get_of_drop hd
 have hlen:=congrArg List.length hd
 rw [Qa] at hlen
 simp only [List.length_cons] at hlen
 have hec:optS ec≠.unset:=by cases ec <;> exact vne rfl
 have hi:t.length≤s.length:=by exact ar3 (.im (.eq (.s .v1 .v2) (.a .v0 .n1)) (.le .v0 .v1)) rfl hlen
 have hidt:=ident_len _ t (Qd _)
 refine (z_chain hl3 hd).use ?_
 have hk:=kz_cases (plA s p) ec c t
 generalize fst1 [c==64,c==35,c==123,c==91,c==40,ec==some c,isCl c,isQt c,c==47&&headP (·==42) t,c==60&&t.take 3==[33,45,45],c==124&&headP (·==124) t,isTl c]=n at hk
 generalize stepZ (plA s p) ec c t=A at hs hk
 induction hk with
 | atk h =>
  refine Ss.consK ?_
  walk_at"B"
  refine S.ifb (identStart t) ?_ (fun h=>?_) (fun h=>?_)
  ·refine T.and2b (decide (p+1 < s.length)) ?_ (fun h=>?_) (fun h=>?_)
   ·walk_at"B"
    exact ⟨rfl,rfl⟩
   ·refine ⟨?_,rfl⟩
    have h:=of_decide_eq_false h
    have:t=[]:=Ql (by exact R53 hlen (Ar.f ‹_›))
    rw [this]; rfl
   ·have h:=Qh h
    walk_at"B"
    refine (C33 G (List.getElem?_eq_getElem h) hl3 ?_).le (by walk_at"m")
    walk_at"B"
    first | (refine ⟨?_,rfl⟩; rw [hgd.2.1] <;> rfl; done) | (rw [hgd.2.1]; exact ⟨rfl,rfl⟩)
  ·walk_at"B"
   refine S.unpackK ["value","pos"] (by repeat constructor) ?_
   walk_at"B"
   refine C34 G hl2 (by exact AR.h176 _ _ _ hlen) ?_
   first | (refine' val1 ?_ ?_; rw [hgd.2.1]) | (refine' val2 ?_ ?_; rw [hgd.2.1]) | rw [hgd.2.1]
   walk_at"B"
   refine E.appendK (a:=a) ?_ (by walk_at"d") (.tail _ (.head _))
   walk_at"B"
   refine K15 G (by exact AR.h464 _ _ _ _ _ hlen hidt hl) ?_
   refine KApd.mk (vs:=cur) (.there .here) (by exact AR.h468 _ _ _ hcl hl hple) ?_
   walk_at"B"
   exact PJ.leaf P hd (hs.trans (if_pos h)) (one_node .atk) (by simp) (by exact AR.h30 _ _) rfl ht2 ht3
  ·walk_at"B"
   refine E.appendK (a:=a) ?_ (by walk_at"d") (.tail _ (.head _))
   walk_at"B"
   refine K13 G ?_
   refine KApd.mk (vs:=cur) (.there .here) (by exact AR.h468 _ _ _ hcl hl hple) ?_
   walk_at"B"
   exact PJ.leaf P hd (hs.trans (if_neg (nf h))) (one_node (nlit (by decide +kernel))) (by simp) (by exact AR.h63 _) rfl ht2 ht3
 | hash h =>
  refine Ss.consK ?_
  walk_at"B"
  refine S.ifb (headP isNm t||escOk t) ?_ (fun h=>?_) (fun h=>?_)
  ·refine T.and2b (decide (p+1 < s.length)) ?_ (fun h=>?_) (fun h=>?_)
   ·walk_at"B"
    exact ⟨rfl,rfl⟩
   ·refine ⟨?_,rfl⟩
    have h:=of_decide_eq_false h
    have:t=[]:=Ql (by exact R53 hlen (Ar.f ‹_›))
    rw [this]; rfl
   ·have h:=Qh h
    have hg1:=List.getElem?_eq_getElem h
    have hd1:=drop_cons hg1
    generalize s[p+1]=n at hg1 hd1
    rw [hgd.2.1] at hd1
    first | (refine' val1 ?_ ?_; rw [hd1]) | (refine' val2 ?_ ?_; rw [hd1]) | rw [hd1]
    refine T.orC (isUp n||isLow n||isDig n||n==95||n==45) ?_ (fun h=>?_) (fun h=>?_)
    ·walk_at"B"
     first | (refine ⟨?_,rfl⟩; rw [cs_hash] <;> rfl; done) | (rw [cs_hash]; exact ⟨rfl,rfl⟩)
    ·exact ⟨by simp only [headP,isNm,h,Bool.true_or],rfl⟩
    refine T.orC (decide (n > 127)) ?_ (fun h2=>?_) (fun h2=>?_)
    ·walk_at"B"
     exact ⟨decide_eq_decide.mpr (by exact AR.h18 _),rfl⟩
    ·exact ⟨by simp only [headP,isNm,h,h2,Bool.false_or,Bool.true_or],rfl⟩
    have hn:headP isNm (n::s.drop (p+1+1))=false:=by simp only [headP,isNm,h,h2,Bool.false_or]
    first | (refine' val1 ?_ ?_; rw [hn,Bool.false_or]) | (refine' val2 ?_ ?_; rw [hn,Bool.false_or]) | rw [hn,Bool.false_or]
    refine T.orC (escOk (n::s.drop (p+1+1))) ?_ (fun h2=>?_) (fun h2=>?_)
    ·refine T.and2b (n==92) ?_ (fun h=>?_) (fun h=>?_)
     ·walk_at"B"
      first | (refine ⟨?_,rfl⟩; rw [eqc_bs] <;> rfl; done) | (rw [eqc_bs]; exact ⟨rfl,rfl⟩)
     ·refine ⟨?_,rfl⟩
      unfold escOk
      (try walk_at"k"); simp only [List.take_succ_cons,List.take_zero,beq_one,h,Bool.false_and]
     ·walk_at"B"
      rw [lit_bsnl,swAt_nat _ _ _ (by simp),hgd.2.1,hd1]
      refine ⟨?_,rfl⟩
      unfold escOk
      have:((n::s.drop (p+1+1)).take 1==[92])=true:=by simpa using h
      rw [this]; rfl
    ·exact ⟨h2.symm,rfl⟩
    ·walk_at"B"
     exact ⟨h2.symm,rfl⟩
  ·have h0:p+1 < s.length:=by
    cases t with
    | nil=>simp [headP,escOk] at h
    | cons=>simp at hlen; exact ar3 (.im (.eq (.s .v1 .v0) (.a (.a .v2 .n1) .n1)) (.lt (.a .v0 .n1) .v1)) rfl hlen
   walk_at"B"
   refine (C33 G (List.getElem?_eq_getElem h0) hl3 ?_).le (by walk_at"m")
   walk_at"B"
   refine S.unpackK ["value","pos"] (by repeat constructor) ?_
   walk_at"B"
   refine C34 G hl2 (by exact AR.h176 _ _ _ hlen) ?_
   first | (refine' val1 ?_ ?_; rw [hgd.2.1]) | (refine' val2 ?_ ?_; rw [hgd.2.1]) | rw [hgd.2.1]
   walk_at"B"
   refine E.appendK (a:=a) ?_ (by walk_at"d") (.tail _ (.head _))
   walk_at"B"
   refine K16 G ?_
   refine KApd.mk (vs:=cur) (.there .here) (by exact AR.h468 _ _ _ hcl hl hple) ?_
   walk_at"B"
   exact PJ.leaf P hd (hs.trans (if_pos h)) (one_node .hash) (by simp) (by exact AR.h30 _ _) rfl ht2 ht3
  ·walk_at"B"
   refine E.appendK (a:=a) ?_ (by walk_at"d") (.tail _ (.head _))
   walk_at"B"
   refine K13 G ?_
   refine KApd.mk (vs:=cur) (.there .here) (by exact AR.h468 _ _ _ hcl hl hple) ?_
   walk_at"B"
   exact PJ.leaf P hd (hs.trans (if_neg (nf h))) (one_node (nlit (by decide +kernel))) (by simp) (by exact AR.h63 _) rfl ht2 ht3
 | lc h =>
  refine Ss.consK ?_
  walk_at"B"
  refine E.lstA ?_
  refine Es.nil ?_
  refine ⟨by simp,fun a'=>?_⟩
  repeat walk_at"g"
  refine Ss.perm (List.Perm.swap _ _ _) ?_
  walk_at"B"
  refine E.appendK (a:=a) ?_ (by walk_at"d") (.tail _ (.tail _ (.head _)))
  walk_at"B"
  refine K25 G ?_
  refine KApd.mk (vs:=cur) (.there (.there .here)) (by exact AR.h468 _ _ _ hcl hl hple) ?_
  walk_at"B"
  refine E.appendK (a:=stk) ?_ (by walk_at"d") (.head _)
  walk_at"B"
  refine KApd.mk (vs:=stackV fs) (.here) (by rw [stackV_len]; exact AR.h469 _ _ _ hl hfl hple) ?_
  walk_at"B"
  exact PJ.opn (mk:=fun v=>.obj 571 [v,.int (cA s p),.int (lA s p)]) P hd hs (fun i vs us h hl=>.curly h hl) (fun a vs=>.obj (.cons .here (RpAll.refl _))) rfl rfl rfl (congrArg V.str (by decide +kernel)) ht2 ht3
 | lb h =>
  refine Ss.consK ?_
  walk_at"B"
  refine E.lstA ?_
  refine Es.nil ?_
  refine ⟨by simp,fun a'=>?_⟩
  repeat walk_at"g"
  refine Ss.perm (List.Perm.swap _ _ _) ?_
  walk_at"B"
  refine E.appendK (a:=a) ?_ (by walk_at"d") (.tail _ (.tail _ (.head _)))
  walk_at"B"
  refine K24 G ?_
  refine KApd.mk (vs:=cur) (.there (.there .here)) (by exact AR.h468 _ _ _ hcl hl hple) ?_
  walk_at"B"
  refine E.appendK (a:=stk) ?_ (by walk_at"d") (.head _)
  walk_at"B"
  refine KApd.mk (vs:=stackV fs) (.here) (by rw [stackV_len]; exact AR.h469 _ _ _ hl hfl hple) ?_
  walk_at"B"
  exact PJ.opn (mk:=fun v=>.obj 542 [v,.int (cA s p),.int (lA s p)]) P hd hs (fun i vs us h hl=>.square h hl) (fun a vs=>.obj (.cons .here (RpAll.refl _))) rfl rfl rfl (congrArg V.str (by decide +kernel)) ht2 ht3
 | lp h =>
  refine Ss.consK ?_
  walk_at"B"
  refine E.lstA ?_
  refine Es.nil ?_
  refine ⟨by simp,fun a'=>?_⟩
  repeat walk_at"g"
  refine Ss.perm (List.Perm.swap _ _ _) ?_
  walk_at"B"
  refine E.appendK (a:=a) ?_ (by walk_at"d") (.tail _ (.tail _ (.head _)))
  walk_at"B"
  refine K23 G ?_
  refine KApd.mk (vs:=cur) (.there (.there .here)) (by exact AR.h468 _ _ _ hcl hl hple) ?_
  walk_at"B"
  refine E.appendK (a:=stk) ?_ (by walk_at"d") (.head _)
  walk_at"B"
  refine KApd.mk (vs:=stackV fs) (.here) (by rw [stackV_len]; exact AR.h469 _ _ _ hl hfl hple) ?_
  walk_at"B"
  exact PJ.opn (mk:=fun v=>.obj 513 [v,.int (cA s p),.int (lA s p)]) P hd hs (fun i vs us h hl=>.paren h hl) (fun a vs=>.obj (.cons .here (RpAll.refl _))) rfl rfl rfl (congrArg V.str (by decide +kernel)) ht2 ht3
 | cls h =>
  have hc:=eq_of_beq h
  subst hc
  refine x21 (P.cls_ne) fun f fs' zz2=>?_
  subst zz2
  have hrp:∀ a vs,Rp a vs (f.bl (.ref a)) (f.bl (.lst vs)):=by
   have:=P.frames
   cases this with
   | cons _ _ _ _ g5 _=>exact g5
  refine Ss.consK ?_
  walk_at"B"
  refine S.unpackK ["tokens","end_char"] (by repeat constructor) ?_
  refine E.pop ?_
  walk_at"B"
  unfold HP
  rw [stackV_cons]
  refine ⟨stk,stackV fs',_,_,rfl,.here,by rw [stackV_len]; simp at hfl; exact ar3 (.im (.le (.a .v0 .n1) .v1) (.im (.le .v2 (.n 600)) (.im (.le .v1 .v2) (.le .v0 (.n 1000000))))) rfl hfl hl hple,?_⟩
  refine unp_tup (pa_consK ?_)
  repeat walk_at"g"
  refine pa_consK ?_
  repeat walk_at"g"
  refine pa_nil ?_
  try dsimp only
  refine Ss.freeze (a:=a) (vs:=cur) (.there .here) (RpL.refl _) (.cons (.refl _) (rp_framesH (f:=f) (hrp _ _) _)) ?_
  walk_at"B"
  exact PJ.cls P hd hs rfl ht2 ht3
 | cl h =>
  refine Ss.consK ?_
  walk_at"B"
  refine E.appendK (a:=a) ?_ (by walk_at"d") (.tail _ (.head _))
  walk_at"B"
  refine bm3 ?_ (leSize (by rw [show (Str.ofString "Unmatched ").cps.toList.length=10 from by decide +kernel]; simp))
  walk_at"B"
  refine K10 G ?_
  refine KApd.mk (vs:=cur) (.there .here) (by exact AR.h468 _ _ _ hcl hl hple) ?_
  walk_at"B"
  exact PJ.leaf P hd hs (one_node .error) (by simp) (by exact AR.h63 _) rfl ht2 ht3
 | qt h =>
  have hq:c=34∨c=39:=by unfold isQt at h; simpa using h
  refine Ss.consK ?_
  walk_at"B"
  refine S.unpackK ["value","pos","error"] (by repeat constructor) ?_
  walk_at"B"
  refine C35 G hl2 hgd.1 hq ?_
  rw [hgd.2.1]
  have hqn:=qstr_len c _ t (Qd _)
  generalize qstr c t=qq at hs hqn
  by_cases h0:qq.st=0
  ·rw [qres0 h0]
   rw [show strTs (plA s p) qq=[leafT (plA s p) "string" qq.val] from by unfold strTs; rw [h0]; rfl] at hs
   walk_at"B"
   refine S.ifT ?_ ?_
   ·walk_at"B"
    exact ⟨rfl,rfl⟩
   walk_at"B"
   refine E.fstr ?_
   refine E.str ⟨_,rfl,by decide +kernel,?_⟩
   refine E.fval ?_
   walk_at"B"
   refine (C5 (st:=t2) G (by exact AR.h464 _ _ _ _ _ hlen hqn hl) (H₂:=HP stk a cur fs (TabH t1 (genPos (bodyAt 5)) t3)) (.there (.there (MUpd.here.app _))) ht2 ?_).le (by walk_at"m")
   have hqs:=qsL (v:=qq.val)
   refine ⟨_,rfl,by exact R54 hlen hqn hqs hl,⟨_,rfl,by rw [show (Str.ofString "\"").cps.toList=[34] from by decide +kernel]; simp at hqs ⊢; exact R55 hlen hqn hqs hl,?_⟩⟩
   refine E.str ⟨_,rfl,by rw [show (Str.ofString "\"").cps.toList=[34] from by decide +kernel]; simp at hqs ⊢; exact AR.h488 _ _ _ _ _ _ hlen hqn hqs hl,?_⟩
   dsimp only [Parts]
   walk_at"B"
   refine S.ifF ?_ ?_
   ·walk_at"B"
    exact ⟨rfl,rfl⟩
   walk_at"B"
   refine E.appendK (a:=a) ?_ (by walk_at"d") (.tail _ (.head _))
   walk_at"B"
   refine K17 G ?_
   refine KApd.mk (vs:=cur) (.there .here) (by exact AR.h468 _ _ _ hcl hl hple) ?_
   walk_at"B"
   refine S.ifF ?_ ?_
   ·walk_at"B"
    exact ⟨rfl,rfl⟩
   walk_at"B"
   exact PJ.leaf P hd hs (one_node .string) (by simp) (by exact AR.h30 _ _) rfl (.inr rfl) ht3
  ·by_cases h1:qq.st=1
   ·rw [qres1 h1]
    rw [show strTs (plA s p) qq=[leafT (plA s p) "error" (lit "bad-string")] from by unfold strTs; rw [h1]; rfl] at hs
    walk_at"B"
    refine S.ifF ?_ ?_
    ·walk_at"B"
     exact ⟨rfl,rfl⟩
    walk_at"B"
    refine S.ifT ?_ ?_
    ·walk_at"B"
     exact ⟨rfl,rfl⟩
    walk_at"B"
    refine E.appendK (a:=a) ?_ (by walk_at"d") (.tail _ (.head _))
    walk_at"B"
    refine ⟨_,.tup (j:=0) ⟨by decide,by decide⟩ rfl rfl,?_⟩
    walk_at"B"
    refine ⟨_,.tup (j:=1) ⟨by decide,by decide⟩ rfl rfl,?_⟩
    walk_at"B"
    refine K10 G ?_
    refine KApd.mk (vs:=cur) (.there .here) (by exact AR.h468 _ _ _ hcl hl hple) ?_
    walk_at"B"
    exact PJ.leaf P hd hs (one_node .error) (by simp) (by exact AR.h30 _ _) rfl ht2 ht3
   ·rw [qres2 h0 h1]
    rw [strTs2 h0 h1] at hs
    walk_at"B"
    refine S.ifT ?_ ?_
    ·walk_at"B"
     exact ⟨rfl,rfl⟩
    walk_at"B"
    refine E.fstr ?_
    refine E.str ⟨_,rfl,by decide +kernel,?_⟩
    refine E.fval ?_
    walk_at"B"
    refine (C5 (st:=t2) G (by exact AR.h464 _ _ _ _ _ hlen hqn hl) (H₂:=HP stk a cur fs (TabH t1 (genPos (bodyAt 5)) t3)) (.there (.there (MUpd.here.app _))) ht2 ?_).le (by walk_at"m")
    have hqs:=qsL (v:=qq.val)
    refine ⟨_,rfl,by exact R54 hlen hqn hqs hl,⟨_,rfl,by rw [show (Str.ofString "\"").cps.toList=[34] from by decide +kernel]; simp at hqs ⊢; exact R55 hlen hqn hqs hl,?_⟩⟩
    refine E.str ⟨_,rfl,by rw [show (Str.ofString "\"").cps.toList=[34] from by decide +kernel]; simp at hqs ⊢; exact AR.h488 _ _ _ _ _ _ hlen hqn hqs hl,?_⟩
    dsimp only [Parts]
    walk_at"B"
    refine S.ifT ?_ ?_
    ·walk_at"B"
     exact ⟨rfl,rfl⟩
    walk_at"B"
    refine sli_str ?hz ?_
    case hz=>rw [show (Str.ofString "\"").cps.toList=[34] from by decide +kernel]; simp at hqs ⊢; exact AR.h488 _ _ _ _ _ _ hlen hqn hqs hl
    walk_at"B"
    refine E.appendK (a:=a) ?_ (by walk_at"d") (.tail _ (.head _))
    walk_at"B"
    refine K17 G ?_
    refine KApd.mk (vs:=cur) (.there .here) (by exact AR.h468 _ _ _ hcl hl hple) ?_
    walk_at"B"
    refine S.ifT ?_ ?_
    ·walk_at"B"
     exact ⟨rfl,rfl⟩
    walk_at"B"
    refine E.appendK (a:=a) ?_ (by walk_at"d") (.tail _ (.head _))
    walk_at"B"
    refine ⟨_,.tup (j:=0) ⟨by decide,by decide⟩ rfl rfl,?_⟩
    walk_at"B"
    refine ⟨_,.tup (j:=1) ⟨by decide,by decide⟩ rfl rfl,?_⟩
    walk_at"B"
    refine K10 G ?_
    refine ⟨_,_,.there .here,by simp; exact R56 hcl hl hple,?_⟩
    walk_at"B"
    exact PJ.leaf (vs:=[_,_]) P hd hs (.cons .string (.cons .error .nil)) (by simp) (by exact AR.h30 _ _) (Qf _ _ _) (.inr rfl) ht3
 | com h =>
  rw [Qc] at h
  have hp2:p+2≤s.length:=by
   have:=headP_len (n:=0) h.2
   exact ar3 (.im (.le (.a .n0 .n1) .v2) (.im (.eq (.s .v1 .v0) (.a .v2 .n1)) (.le (.a .v0 (.n 2)) .v1))) rfl this hlen
  have h47:=eq_of_beq h.1
  subst h47
  have hdd:t.drop 1=s.drop (p+2):=by rw [← hgd.2.1,Qe]
  refine Ss.consK ?_
  walk_at"B"
  first | (refine' val1 ?_ ?_; rw [show (Str.ofString "*/").cps.toList=[42,47] from by decide +kernel]) | (refine' val2 ?_ ?_; rw [show (Str.ofString "*/").cps.toList=[42,47] from by decide +kernel]) | rw [show (Str.ofString "*/").cps.toList=[42,47] from by decide +kernel]
  refine CB.find ?_
  rw [findAt_com s (p+2) hp2]
  rw [hdd] at hs
  cases hk:comEnd (s.drop (p+2)) with
  | none =>
   rw [hk] at hs
   dsimp only at hs ⊢
   walk_at"B"
   refine S.ifT ?_ ?_
   ·walk_at"B"
    exact ⟨rfl,rfl⟩
   walk_at"B"
   refine S.ifT ?_ ?_
   ·walk_at"B"
    exact ⟨rfl,rfl⟩
   walk_at"B"
   refine E.appendK (a:=a) ?_ (by walk_at"d") (.tail _ (.head _))
   walk_at"B"
   first | (refine' val1 ?_ ?_; rw [slc_from]) | (refine' val2 ?_ ?_; rw [slc_from]) | rw [slc_from]
   refine K11 G ?_
   refine KApd.mk (vs:=cur) (.there .here) (by exact AR.h468 _ _ _ hcl hl hple) ?_
   walk_at"B"
   exact PF.stop P hd hs (one_node .comment) (by simp) rfl ht2 ht3
  | some k =>
   rw [hk] at hs
   dsimp only at hs ⊢
   have hkl:=comEnd_le hk
   rw [Qa] at hkl
   walk_at"B"
   refine S.ifF ?_ ?_
   ·walk_at"B"
    refine ⟨?_,rfl⟩
    rw [beq_eq_false_iff_ne]
    intro e
    have e:((p+2+k:Nat):Int)=-1:=e
    exact AR.h240 ‹_›
   walk_at"B"
   refine S.ifT ?_ ?_
   ·walk_at"B"
    exact ⟨rfl,rfl⟩
   walk_at"B"
   refine E.appendK (a:=a) ?_ (by walk_at"d") (.tail _ (.head _))
   walk_at"B"
   first | (refine' val1 ?_ ?_; rw [slc_nat,show p+2+k - (p+2)=k by walk_at"m"]) | (refine' val2 ?_ ?_; rw [slc_nat,show p+2+k - (p+2)=k by walk_at"m"]) | rw [slc_nat,show p+2+k - (p+2)=k by exact ar2 (.eq (.s (.a (.a .v0 (.n 2)) .v1) (.a .v0 (.n 2))) .v1) rfl]
   refine K11 G ?_
   refine KApd.mk (vs:=cur) (.there .here) (by exact AR.h468 _ _ _ hcl hl hple) ?_
   walk_at"B"
   exact PJ.leaf P hd hs (one_node .comment) (by simp) (by exact ar2 (.eq (.a (.a (.a .v0 (.n 2)) .v1) (.n 2)) (.a .v0 (.a .v1 (.n 4)))) rfl) rfl ht2 ht3
 | cdo h =>
  refine Ss.consK ?_
  walk_at"B"
  refine E.appendK (a:=a) ?_ (by walk_at"d") (.tail _ (.head _))
  walk_at"B"
  refine K13 G ?_
  refine KApd.mk (vs:=cur) (.there .here) (by exact AR.h468 _ _ _ hcl hl hple) ?_
  walk_at"B"
  exact PJ.leaf P hd hs (one_node (nlit (by decide +kernel))) (by simp) (by exact ar1 (.eq (.a .v0 (.n 4)) (.a .v0 (.n 4))) rfl) rfl ht2 ht3
 | bar h =>
  refine Ss.consK ?_
  walk_at"B"
  refine E.appendK (a:=a) ?_ (by walk_at"d") (.tail _ (.head _))
  walk_at"B"
  refine K13 G ?_
  refine KApd.mk (vs:=cur) (.there .here) (by exact AR.h468 _ _ _ hcl hl hple) ?_
  walk_at"B"
  exact PJ.leaf P hd hs (one_node (nlit (by decide +kernel))) (by simp) (by exact ar1 (.eq (.a .v0 (.n 2)) (.a .v0 (.n 2))) rfl) rfl ht2 ht3
 | tl h =>
  refine Ss.consK ?_
  walk_at"B"
  refine S.ifb (headP (·==61) t) ?_ (fun h=>?_) (fun h=>?_)
  ·walk_at"B"
   rw [show (Str.ofString "=").cps.toList=[61] from by decide +kernel,swAt_nat _ _ _ (by simp),hgd.2.1]
   refine ⟨?_,rfl⟩
   cases t with
   | nil=>rfl
   | cons e u=>exact beq_one e 61
  ·walk_at"B"
   refine E.appendK (a:=a) ?_ (by walk_at"d") (.tail _ (.head _))
   walk_at"B"
   first | (refine' val1 ?_ ?_; rw [show (Str.ofString "=").cps.toList=[61] from by decide +kernel]) | (refine' val2 ?_ ?_; rw [show (Str.ofString "=").cps.toList=[61] from by decide +kernel]) | rw [show (Str.ofString "=").cps.toList=[61] from by decide +kernel]
   refine bm3 ?_ (leSize (by simp))
   walk_at"B"
   refine K13 G ?_
   refine KApd.mk (vs:=cur) (.there .here) (by exact AR.h468 _ _ _ hcl hl hple) ?_
   walk_at"B"
   exact PJ.leaf P hd (hs.trans (if_pos h)) (one_node .literal) (by simp) (by exact ar1 (.eq (.a (.a .v0 .n1) .n1) (.a .v0 (.n 2))) rfl) rfl ht2 ht3
  ·walk_at"B"
   refine E.appendK (a:=a) ?_ (by walk_at"d") (.tail _ (.head _))
   walk_at"B"
   refine K13 G ?_
   refine KApd.mk (vs:=cur) (.there .here) (by exact AR.h468 _ _ _ hcl hl hple) ?_
   walk_at"B"
   exact PJ.leaf P hd (hs.trans (if_neg (nf h))) (one_node .literal) (by simp) (by exact AR.h63 _) rfl ht2 ht3
 | lit =>
  refine Ss.consK ?_
  walk_at"B"
  refine E.appendK (a:=a) ?_ (by walk_at"d") (.tail _ (.head _))
  walk_at"B"
  refine K13 G ?_
  refine KApd.mk (vs:=cur) (.there .here) (by exact AR.h468 _ _ _ hcl hl hple) ?_
  walk_at"B"
  exact PJ.leaf P hd hs (one_node .literal) (by simp) (by exact AR.h63 _) rfl ht2 ht3
end
noncomputable def firstB:List Stmt:=(loopB.drop 5)
theorem cs_Uu (n:Nat):inStr [n] (Str.ofString "Uu").cps.toList=isUu n :=
 set_of (p:=isUu) (by decide +kernel) (by decide +kernel) (fun n h=>by simp [isUu]; exact ar1 (.im (.le (.n 128) .v0) (.an (.nt (.eq .v0 (.n 85))) (.nt (.eq .v0 (.n 117))))) rfl h) n
theorem urL {v:List Nat}:((v.map urF).flatten).length≤8 * v.length:=by
 induction v with
 | nil=>simp
 | cons a r ih =>
  have:=urF_len a
  (try walk_at"k"); simp only [List.map_cons,List.flatten_cons,List.length_append,List.length_cons]
  exact AR.h380 _ _ _ ih this
theorem lit_urlo:(Str.ofString "url(").cps.toList=[117,114,108,40]:=by decide +kernel
theorem lit_rp:(Str.ofString ")").cps.toList=[41]:=by decide +kernel
set_option tactic.hygienic true in
theorem urlR_val {r:List Nat} {v:List Nat} (h:(urlR r).val=some v):v.length≤r.length∧((urlR r).err=0∨(urlR r).err=1):=by
 unfold urlR at h ⊢
 split at h
 ·rename_i hd
  cases h
  (try walk_at"k"); simp
 ·rename_i c t hd
  have hlen:r.length - wsN r=(c::t).length:=by rw [← Qa,hd]
  split at h
  ·rename_i h1
   first | refine kpos h1 ?_ | rw [if_pos h1]
   cases h
   (try walk_at"k"); simp
  ·rename_i h1
   first | refine kno h1 ?_ | rw [if_neg h1]
   have hb:=urlB_len _ (c::t) (Qd _)
   generalize urlB (c::t)=b at h hb ⊢
   unfold urlT at h ⊢
   split at h
   ·cases h; exact ⟨by exact AR.h439 _ _ _ _ _ hlen hb,.inl rfl⟩
   ·cases h; exact ⟨by exact AR.h439 _ _ _ _ _ hlen hb,.inr rfl⟩
   ·split at h
    ·rename_i hx; cases h; exact ⟨by exact AR.h439 _ _ _ _ _ hlen hb,.inr rfl⟩
    ·rename_i e u hx
     split at h
     ·rename_i h2; rw [if_pos h2]; cases h; exact ⟨by exact AR.h439 _ _ _ _ _ hlen hb,.inl rfl⟩
     ·cases h
   ·cases h
set_option tactic.hygienic true in
theorem urlR_none {r:List Nat} (h:(urlR r).val=none):(urlR r).err=2:=by
 unfold urlR at h ⊢
 split at h
 ·cases h
 ·rename_i c t hd
  split at h
  ·cases h
  ·rename_i h1
   first | refine kno h1 ?_ | rw [if_neg h1]
   generalize urlB (c::t)=b at h ⊢
   unfold urlT at h ⊢
   split at h
   ·cases h
   ·cases h
   ·split at h
    ·cases h
    ·rename_i e u hx
     split at h
     ·cases h
     ·rename_i h2; rw [if_neg h2]
   ·rfl
noncomputable def QC (s:List Nat) (FIN:List TT) (M:Nat) (root stk:Addr) (t1:Option Pos) (n:Nat) (r:R) (lo:Loc) (H:AH):Prop:=match r with
 | .next=>False
 | .cont=>∃ m,m < n∧PJ s FIN M root stk t1 m lo H
 | .brk=>PF s FIN M root stk t1 .next lo H
 | .ret v=>PF s FIN M root stk t1 (.ret v) lo H
noncomputable def identB:List Stmt:=ifB (elB (elB (elB firstB)))
theorem TI_call {w:World} {g:Gx} (G:GG w g) {s:List Nat} {FIN:List TT} {M:Nat} {root a stk:Addr} {p:Nat} {ec:Option Nat} {cur:List V} {curT:List TT} {fs:List NF} {ft:List FT} {c:Nat} {t:List Nat} {t1 t2 t3:Option Pos}
  (hl:s.length≤600) (P:PRel s FIN M root p ec a cur curT fs ft) (hd:s.drop p=c::t) {v:List Nat} {n:Nat} (hs:step (plA s p) ec c t=.opn (plA s p) (lit "function") (.str v) 41 (n+1)) (hlen:s.length - p=t.length+1) (hidt:v.length≤n∧n≤t.length+1) (hec:optS ec≠.unset) (ht2:TabOk 5 t2) (ht3:TabOk 6 t3)  {jK jO jE jJ jQ jF jM jG jA jL jN jH jP jI jD jB:V} :
  Ss g Γ31 3 (identB.drop 5) (LO s (p+n+1) p root a ec stk jK (.int (cA s p)) jB (.str v) jO jE jJ jQ jF jM jG jA jL jN jH jP jI jD) (HP stk a cur fs (TabH t1 t2 t3)) (QC s FIN M root stk t1 (s.length - p)):=by
 have hcl:=P.len
 have hple:=P.ple
 have hfl:=P.flen
 refine Ss.consK ?_
 refine S.assignK ?_ (fun _=>rfl)
 refine E.lstA ?_
 refine Es.nil ?_
 refine ⟨by simp,fun a'=>?_⟩
 repeat walk_at"g"
 refine Ss.perm (List.Perm.swap _ _ _) ?_
 walk_at"B"
 refine E.appendK (a:=a) ?_ (by walk_at"d") (.tail _ (.tail _ (.head _)))
 walk_at"B"
 refine K26 G (by exact AR.h465 _ _ _ _ _ hlen hidt hl) ?_
 refine KApd.mk (vs:=cur) (.there (.there .here)) (by exact AR.h468 _ _ _ hcl hl hple) ?_
 walk_at"B"
 refine E.appendK (a:=stk) ?_ (by walk_at"d") (.head _)
 walk_at"B"
 refine KApd.mk (vs:=stackV fs) (.here) (by rw [stackV_len]; exact AR.h469 _ _ _ hl hfl hple) ?_
 walk_at"B"
 exact PJ.opn (mk:=fun x=>.obj 600 [x,.str (v.map low),.str v,.int (cA s p),.int (lA s p)]) P hd hs (fun i vs us h hl=>.func h hl) (fun a vs=>.obj (.cons .here (RpAll.refl _))) (by exact R51) rfl rfl (congrArg V.str (by decide +kernel)) ht2 ht3
set_option maxHeartbeats 4000000 in
set_option tactic.hygienic true in
theorem TI {w:World} {g:Gx} (G:GG w g) {s:List Nat} {FIN:List TT} {M:Nat} {root a stk:Addr} {p:Nat} {ec:Option Nat} {cur:List V} {curT:List TT} {fs:List NF} {ft:List FT} {c:Nat} {t:List Nat} {t1 t2 t3:Option Pos}
  (hl:s.length≤600) (P:PRel s FIN M root p ec a cur curT fs ft) (hd:s.drop p=c::t) (hs:step (plA s p) ec c t=stepI (plA s p) (ident (c::t)).1 (ident (c::t)).2 (c::t)) (ht2:TabOk 5 t2) (ht3:TabOk 6 t3)  {jK jR jO jE jJ jQ jF jM jG jA jL jN jH jP jI jD:V} :
  Ss g Γ31 3 identB (LO s p p root a ec stk jK (.int (cA s p)) (.str [c]) jR jO jE jJ jQ jF jM jG jA jL jN jH jP jI jD) (HP stk a cur fs (TabH t1 t2 t3)) (QC s FIN M root stk t1 (s.length - p)):=by
 have hl2:s.length≤10000:=by exact AR.h293 _ hl
 have hl3:s.length≤1000000:=by exact AR.h298 _ hl
 have hcl:=P.len
 have hple:=P.ple
 have hfl:=P.flen
 have hlen:=congrArg List.length hd
 rw [Qa] at hlen
 simp only [List.length_cons] at hlen
 have hec:optS ec≠.unset:=by cases ec <;> exact vne rfl
 have hidt:=ident_len _ (c::t) (Qd _)
 simp only [List.length_cons] at hidt
 refine Ss.consK ?_
 refine S.unpackK ["value","pos"] (by repeat constructor) ?_
 walk_at"B"
 refine C34 G hl2 hple ?_
 rw [hd]
 generalize hv:(ident (c::t)).1=v at hs hidt ⊢
 generalize hn:(ident (c::t)).2=n at hs hidt ⊢
 have hdn:s.drop (p+n)=(c::t).drop n:=by rw [← hd,Qe]
 have hdn1:s.drop (p+n+1)=(c::t).drop (n+1):=by rw [← hd,Qe]; rfl
 unfold stepI at hs
 walk_at"B"
 refine S.ifb (!headP (·==40) ((c::t).drop n)) ?_ (fun h=>?_) (fun h=>?_)
 ·walk_at"B"
  rw [show (Str.ofString "(").cps.toList=[40] from by decide +kernel,swAt_nat _ _ _ (by simp),hdn]
  refine ⟨?_,rfl⟩
  cases (c::t).drop n with
  | nil=>rfl
  | cons e u=>exact congrArg not (beq_one e 40)
 ·rw [if_neg (by rw [Bool.not_eq_true'] at h; rw [h]; exact bn)] at hs
  walk_at"B"
  refine E.appendK (a:=a) ?_ (by walk_at"d") (.tail _ (.head _))
  walk_at"B"
  refine K14 G (by exact AR.h465 _ _ _ _ _ hlen hidt hl) ?_
  refine KApd.mk (vs:=cur) (.there .here) (by exact AR.h468 _ _ _ hcl hl hple) ?_
  walk_at"B"
  exact PJ.leaf P hd hs (one_node .ident) (by simp) (by exact R52) rfl ht2 ht3
 rw [Bool.not_eq_false'] at h
 rw [if_pos h] at hs
 have hpl:=headP_len h
 simp only [List.length_cons] at hpl
 rw [← hdn1] at hs
 walk_at"B"
 refine (C8 G (by exact AR.h465 _ _ _ _ _ hlen hidt hl) ?_).le (by walk_at"m")
 walk_at"B"
 rw [show (Str.ofString "url").cps.toList=[117,114,108] from by decide +kernel]
 have hwl:=wsN_le (s.drop (p+n+1))
 rw [Qa] at hwl
 refine S.ifb (isUrl v) ?_ (fun hu=>?_) (fun hu=>?_)
 ·walk_at"B"
  exact ⟨rfl,rfl⟩
 ·rw [hu,Qo] at hs
  walk_at"B"
  refine S.run (p:=isWs) (s:=s) (L:=fun e=>LO s (p+n+1) p root a ec stk jK (.int (cA s p)) (.str [c]) (.str v) jO jE (.bool (List.map low v==[117,114,108])) (.int e) jF jM jG jA jL jN jH jP jI jD) (p+n+1) (fun e=>?_) (fun e=>?_) ?_
  ·walk_at"B"
   exact cb_ws (tm2 ⟨rfl,rfl⟩)
  ·walk_at"B"
   exact ⟨rfl,rfl,rfl⟩
  try dsimp only
  change _ at hwl
  rw [show (List.takeWhile isWs (List.drop (p+n+1) s)).length=wsN (s.drop (p+n+1)) from rfl]
  generalize hk:wsN (s.drop (p+n+1))=k at hs hwl ⊢
  rw [Qe] at hs
  walk_at"B"
  refine S.ifb (!headP isQt (s.drop (p+n+1+k))) ?_ (fun h2=>?_) (fun h2=>?_)
  ·refine T.or2b (decide (p+n+1+k ≥ s.length)) ?_ (fun h=>?_) (fun h=>?_)
   ·walk_at"B"
    exact ⟨rfl,rfl⟩
   ·have h:=Qh h
    refine ⟨?_,rfl⟩
    rw [Qp h]; rfl
   ·have h:=of_decide_eq_false h
    have hp:p+n+1+k < s.length:=by exact ar4 (.im (.nt (.le .v3 (.a (.a (.a .v0 .v1) .n1) .v2))) (.lt (.a (.a (.a .v0 .v1) .n1) .v2) .v3)) rfl (Ar.f ‹_›)
    have hg:=List.getElem?_eq_getElem hp
    have hd:=drop_cons hg
    generalize s[p+n+1+k]=e at hg hd
    first | (refine' val1 ?_ ?_; rw [hd]) | (refine' val2 ?_ ?_; rw [hd]) | rw [hd]
    walk_at"B"
    first | (refine ⟨?_,rfl⟩; rw [qt_any] <;> rfl; done) | (rw [qt_any]; exact ⟨rfl,rfl⟩)
  ·rw [if_pos h2] at hs
   walk_at"B"
   refine S.unpackK ["value","pos","error"] (by repeat constructor) ?_
   walk_at"B"
   refine C37 G hl2 (by exact ar4 (.im (.le (.a .v1 .n1) (.a .v3 .n1)) (.im (.eq (.s .v2 .v0) (.a .v3 .n1)) (.le (.a (.a .v0 .v1) .n1) .v2))) rfl hpl hlen) (by rw [hk,Qe]; simpa using h2) ?_
   have hul:=urlR_le (s.drop (p+n+1))
   have hu1:=@urlR_val (s.drop (p+n+1))
   have hu2:=@urlR_none (s.drop (p+n+1))
   rw [Qa] at hul
   generalize urlR (s.drop (p+n+1))=U at hs hul hu1 hu2
   unfold uV
   cases hv:U.val with
   | none =>
    have he:=hu2 hv
    rw [show urlTs (plA s p) U=[leafT (plA s p) "error" (lit "bad-url")] from by unfold urlTs; rw [hv,he]; rfl] at hs
    first | (refine' val1 ?_ ?_; rw [he]) | (refine' val2 ?_ ?_; rw [he]) | rw [he]
    walk_at"B"
    refine S.ifF ?_ ?_
    ·walk_at"B"
     first | exact cm19 ⟨rfl,rfl⟩ | exact cm21 ⟨rfl,rfl⟩ | exact cm22 ⟨rfl,rfl⟩ | exact cm20 ⟨rfl,rfl⟩ | exact tm2 ⟨rfl,rfl⟩ | exact cm15 ⟨rfl,rfl⟩ | exact cm17 ⟨rfl,rfl⟩ | exact cm18 ⟨rfl,rfl⟩ | exact cm16 ⟨rfl,rfl⟩ | exact cm7 ⟨rfl,rfl⟩
    walk_at"B"
    refine S.ifT ?_ ?_
    ·walk_at"B"
     first | exact cm19 ⟨rfl,rfl⟩ | exact cm21 ⟨rfl,rfl⟩ | exact cm22 ⟨rfl,rfl⟩ | exact cm20 ⟨rfl,rfl⟩ | exact tm2 ⟨rfl,rfl⟩ | exact cm15 ⟨rfl,rfl⟩ | exact cm17 ⟨rfl,rfl⟩ | exact cm18 ⟨rfl,rfl⟩ | exact cm16 ⟨rfl,rfl⟩ | exact cm7 ⟨rfl,rfl⟩
    walk_at"B"
    refine E.appendK (a:=a) ?_ (by walk_at"d") (.tail _ (.head _))
    walk_at"B"
    refine ⟨_,.tup (j:=0) ⟨by decide,by decide⟩ rfl rfl,?_⟩
    walk_at"B"
    refine ⟨_,.tup (j:=1) ⟨by decide,by decide⟩ rfl rfl,?_⟩
    walk_at"B"
    refine K10 G ?_
    refine KApd.mk (vs:=cur) (.there .here) (by exact AR.h468 _ _ _ hcl hl hple) ?_
    walk_at"B"
    exact PJ.leaf P hd hs (one_node .error) (by simp) (by exact AR.h11 _ _ _) rfl ht2 ht3
   | some v' =>
    refine x02 (hu1 hv) fun hv1 he=>?_
    rw [Qa] at hv1
    have hqs:=urL (v:=v')
    rcases he with he | he
    ·rw [show urlTs (plA s p) U=[leafT (plA s p) "url" v'] from by unfold urlTs; rw [hv,he]; rfl] at hs
     first | (refine' val1 ?_ ?_; rw [he]) | (refine' val2 ?_ ?_; rw [he]) | rw [he]
     walk_at"B"
     refine S.ifT ?_ ?_
     ·walk_at"B"
      first | exact cm19 ⟨rfl,rfl⟩ | exact cm21 ⟨rfl,rfl⟩ | exact cm22 ⟨rfl,rfl⟩ | exact cm20 ⟨rfl,rfl⟩ | exact tm2 ⟨rfl,rfl⟩ | exact cm15 ⟨rfl,rfl⟩ | exact cm17 ⟨rfl,rfl⟩ | exact cm18 ⟨rfl,rfl⟩ | exact cm16 ⟨rfl,rfl⟩ | exact cm7 ⟨rfl,rfl⟩
     walk_at"B"
     refine E.fstr ?_
     refine E.str ⟨_,rfl,by decide +kernel,?_⟩
     refine E.fval ?_
     walk_at"B"
     refine (C6 (st:=t3) G (by exact R57 hv1 hl) (H₂:=HP stk a cur fs (TabH t1 t2 (genPos (bodyAt 6)))) (.there (.there ((MUpd.there .here).app _))) ht3 ?_).le (by walk_at"m")
     refine ⟨_,rfl,by exact R58 hqs hv1 hl,⟨_,rfl,by rw [lit_urlo]; simp at hqs ⊢; exact R59 hqs hv1 hl,?_⟩⟩
     refine E.str ⟨_,rfl,by rw [lit_urlo,lit_rp]; simp at hqs ⊢; exact AR.h475 _ _ _ _ _ hqs hv1 hl,?_⟩
     dsimp only [Parts]
     walk_at"B"
     refine S.ifF ?_ ?_
     ·walk_at"B"
      first | exact cm19 ⟨rfl,rfl⟩ | exact cm21 ⟨rfl,rfl⟩ | exact cm22 ⟨rfl,rfl⟩ | exact cm20 ⟨rfl,rfl⟩ | exact tm2 ⟨rfl,rfl⟩ | exact cm15 ⟨rfl,rfl⟩ | exact cm17 ⟨rfl,rfl⟩ | exact cm18 ⟨rfl,rfl⟩ | exact cm16 ⟨rfl,rfl⟩ | exact cm7 ⟨rfl,rfl⟩
     walk_at"B"
     refine E.appendK (a:=a) ?_ (by walk_at"d") (.tail _ (.head _))
     walk_at"B"
     refine K18 G ?_
     refine KApd.mk (vs:=cur) (.there .here) (by exact AR.h468 _ _ _ hcl hl hple) ?_
     walk_at"B"
     refine S.ifF ?_ ?_
     ·walk_at"B"
      first | exact cm19 ⟨rfl,rfl⟩ | exact cm21 ⟨rfl,rfl⟩ | exact cm22 ⟨rfl,rfl⟩ | exact cm20 ⟨rfl,rfl⟩ | exact tm2 ⟨rfl,rfl⟩ | exact cm15 ⟨rfl,rfl⟩ | exact cm17 ⟨rfl,rfl⟩ | exact cm18 ⟨rfl,rfl⟩ | exact cm16 ⟨rfl,rfl⟩ | exact cm7 ⟨rfl,rfl⟩
     walk_at"B"
     exact PJ.leaf P hd hs (one_node .url) (by simp) (by exact AR.h11 _ _ _) rfl ht2 (.inr rfl)
    ·rw [show urlTs (plA s p) U=[leafT (plA s p) "url" v',leafT (plA s p) "error" (lit "eof-in-url")] from by unfold urlTs; rw [hv,he]; rfl] at hs
     first | (refine' val1 ?_ ?_; rw [he]) | (refine' val2 ?_ ?_; rw [he]) | rw [he]
     walk_at"B"
     refine S.ifT ?_ ?_
     ·walk_at"B"
      first | exact cm19 ⟨rfl,rfl⟩ | exact cm21 ⟨rfl,rfl⟩ | exact cm22 ⟨rfl,rfl⟩ | exact cm20 ⟨rfl,rfl⟩ | exact tm2 ⟨rfl,rfl⟩ | exact cm15 ⟨rfl,rfl⟩ | exact cm17 ⟨rfl,rfl⟩ | exact cm18 ⟨rfl,rfl⟩ | exact cm16 ⟨rfl,rfl⟩ | exact cm7 ⟨rfl,rfl⟩
     walk_at"B"
     refine E.fstr ?_
     refine E.str ⟨_,rfl,by decide +kernel,?_⟩
     refine E.fval ?_
     walk_at"B"
     refine (C6 (st:=t3) G (by exact R57 hv1 hl) (H₂:=HP stk a cur fs (TabH t1 t2 (genPos (bodyAt 6)))) (.there (.there ((MUpd.there .here).app _))) ht3 ?_).le (by walk_at"m")
     refine ⟨_,rfl,by exact R58 hqs hv1 hl,⟨_,rfl,by rw [lit_urlo]; simp at hqs ⊢; exact R59 hqs hv1 hl,?_⟩⟩
     refine E.str ⟨_,rfl,by rw [lit_urlo,lit_rp]; simp at hqs ⊢; exact AR.h475 _ _ _ _ _ hqs hv1 hl,?_⟩
     dsimp only [Parts]
     walk_at"B"
     refine S.ifT ?_ ?_
     ·walk_at"B"
      first | exact cm19 ⟨rfl,rfl⟩ | exact cm21 ⟨rfl,rfl⟩ | exact cm22 ⟨rfl,rfl⟩ | exact cm20 ⟨rfl,rfl⟩ | exact tm2 ⟨rfl,rfl⟩ | exact cm15 ⟨rfl,rfl⟩ | exact cm17 ⟨rfl,rfl⟩ | exact cm18 ⟨rfl,rfl⟩ | exact cm16 ⟨rfl,rfl⟩ | exact cm7 ⟨rfl,rfl⟩
     walk_at"B"
     refine ⟨_,.tup (j:=0) ⟨by decide,by decide⟩ rfl rfl,?_⟩
     walk_at"B"
     refine S.ifF ?_ ?_
     ·walk_at"B"
      exact ⟨by decide +kernel,rfl⟩
     walk_at"B"
     refine ⟨by decide +kernel,?_⟩
     walk_at"B"
     refine sli_str ?hz ?_
     case hz=>rw [lit_urlo,lit_rp]; simp at hqs ⊢; exact AR.h475 _ _ _ _ _ hqs hv1 hl
     walk_at"B"
     refine E.appendK (a:=a) ?_ (by walk_at"d") (.tail _ (.head _))
     walk_at"B"
     refine K18 G ?_
     refine KApd.mk (vs:=cur) (.there .here) (by exact AR.h468 _ _ _ hcl hl hple) ?_
     walk_at"B"
     refine S.ifT ?_ ?_
     ·walk_at"B"
      first | exact cm19 ⟨rfl,rfl⟩ | exact cm21 ⟨rfl,rfl⟩ | exact cm22 ⟨rfl,rfl⟩ | exact cm20 ⟨rfl,rfl⟩ | exact tm2 ⟨rfl,rfl⟩ | exact cm15 ⟨rfl,rfl⟩ | exact cm17 ⟨rfl,rfl⟩ | exact cm18 ⟨rfl,rfl⟩ | exact cm16 ⟨rfl,rfl⟩ | exact cm7 ⟨rfl,rfl⟩
     walk_at"B"
     refine E.appendK (a:=a) ?_ (by walk_at"d") (.tail _ (.head _))
     walk_at"B"
     refine ⟨_,.tup (j:=0) ⟨by decide,by decide⟩ rfl rfl,?_⟩
     walk_at"B"
     refine ⟨_,.tup (j:=1) ⟨by decide,by decide⟩ rfl rfl,?_⟩
     walk_at"B"
     refine K10 G ?_
     refine ⟨_,_,.there .here,by simp; exact R56 hcl hl hple,?_⟩
     walk_at"B"
     exact PJ.leaf (vs:=[_,_]) P hd hs (.cons .url (.cons .error .nil)) (by simp) (by exact AR.h11 _ _ _) (Qf _ _ _) ht2 (.inr rfl)
  ·rw [if_neg (nf h2)] at hs
   repeat (with_reducible refine Ss.nil ?_)
   exact TI_call G hl P hd hs hlen hidt hec ht2 ht3
 ·rw [hu,Bool.false_and,if_neg bn] at hs
  repeat (with_reducible refine Ss.nil ?_)
  exact TI_call G hl P hd hs hlen hidt hec ht2 ht3
noncomputable abbrev LO0 (s:List Nat) (p tsp:Nat) (l ln:Int) (root a:Addr) (ec:Option Nat) (stk:Addr) (jK jC jB jR jO jE jJ jQ jF jM jG jA jL jN jH jP jI jD:V):Loc:=[("css",.str s),("skip_comments",.bool false),("length",.int s.length),("token_start_pos",.int tsp),("pos",.int p),("line",.int l),("last_newline",.int ln),("root",.ref root),("tokens",.ref a),("end_char",optS ec),("stack",.ref stk),("newline",jK),("column",jC),("c",jB),("value",jR),("start",jO),("end",jE),("is_url",jJ),("url_pos",jQ),("error",jF),("repr",jM),("error_key",jG),("arguments",jA),("plain",jL),("repr_",jN),("int_value",jH),("unit",jP),("is_identifier",jI),("content",jD)]
set_option maxHeartbeats 4000000 in
theorem TA {w:World} {g:Gx} (G:GG w g) {s:List Nat} {FIN:List TT} {M:Nat} {root a stk:Addr} {p tsp:Nat} {ec:Option Nat} {cur:List V} {curT:List TT} {fs:List NF} {ft:List FT} {c:Nat} {t:List Nat} {t1 t2 t3:Option Pos}
  (hl:s.length≤600) (hts:tsp≤p) (P:PRel s FIN M root p ec a cur curT fs ft) (hd:s.drop p=c::t) (ht2:TabOk 5 t2) (ht3:TabOk 6 t3) {jK jC jB jR jO jE jJ jQ jF jM jG jA jL jN jH jP jI jD:V} :
  Ss g Γ31 3 loopB (LO s p tsp root a ec stk jK jC jB jR jO jE jJ jQ jF jM jG jA jL jN jH jP jI jD) (HP stk a cur fs (TabH t1 t2 t3)) (QB s FIN M root stk t1 (s.length - p)):=by
 have hl2:s.length≤10000:=by exact AR.h293 _ hl
 have hl3:s.length≤1000000:=by exact AR.h298 _ hl
 have hcl:=P.len
 have hple:=P.ple
 have hfl:=P.flen
 have hgd:=get_of_drop hd
 have hg:=hgd.1
 have hlen:=congrArg List.length hd
 rw [Qa] at hlen
 simp only [List.length_cons] at hlen
 have hec:optS ec≠.unset:=by cases ec <;> exact vne rfl
 refine Ss.consK ?_
 walk_at"B"
 rw [show (Str.ofString "\n").cps.toList=[10] from by decide +kernel]
 refine CB.rfind ?_
 have hnl:=nl_R s hts hple
 generalize rfindAt s [10] tsp p=nl at hnl
 walk_at"B"
 refine S.mono (S.ifb (nl != -1) (Q:=fun r lo' H'=>r=.next∧H'=HP stk a cur fs (TabH t1 t2 t3)∧lo'=LO0 s p tsp (lA s p) (nlA s p) root a ec stk (.int nl) jC jB jR jO jE jJ jQ jF jM jG jA jL jN jH jP jI jD) ?_ (fun h=>?_) (fun h=>?_)) ?_
 ·walk_at"B"
  exact ⟨rfl,rfl⟩
 ·walk_at"B"
  refine CB.count ?_
  walk_at"B"
  cases hnl with
  | none=>cases h
  | some n h1 h2 =>
   rw [show (Str.ofString "\n").cps.toList=[10] from by decide +kernel]
   exact ⟨rfl,rfl,by rw [← h1,← h2]⟩
 ·walk_at"B"
  cases hnl with
  | some n h1 h2=>exact absurd h (by simp)
  | none h1 h2=>exact ⟨rfl,rfl,by rw [← h1,← h2]⟩
 rintro r lo' H' ⟨rfl,rfl,rfl⟩
 try dsimp only
 walk_at"B"
 rw [show (p:Int) - nlA s p=cA s p by unfold nlA; omega]
 have hs:=step.eq_1 (plA s p) ec c t
 refine S.ifb (isWs c) ?_ (fun h=>?_) (fun h=>?_)
 ·walk_at"B"
  first | (refine ⟨?_,rfl⟩; rw [cs_ws] <;> rfl; done) | (rw [cs_ws]; exact ⟨rfl,rfl⟩)
 ·rw [if_pos h] at hs
  have hw:wsN (c::t)=1+wsN t:=by
   unfold wsN; rw [Qq,if_pos h]; simp; exact ar1 (.eq (.a .v0 .n1) (.a .n1 .v0)) rfl
  walk_at"B"
  refine S.run (p:=isWs) (s:=s) (L:=fun e=>LO s e p root a ec stk (.int nl) (.int (cA s p)) (.str [c]) jR jO jE jJ jQ jF jM jG jA jL jN jH jP jI jD) (p+1) (fun e=>?_) (fun e=>?_) ?_
  ·walk_at"B"
   exact cb_ws (tm2 ⟨rfl,rfl⟩)
  ·walk_at"B"
   exact ⟨rfl,rfl,rfl⟩
  rw [show (List.takeWhile isWs (List.drop (p+1) s)).length=wsN t from by rw [hgd.2.1]; rfl]
  try dsimp only
  walk_at"B"
  first | (refine' val1 ?_ ?_; rw [slc_nat,show p+1+wsN t - p=wsN (c::t) by walk_at"m",hd]) | (refine' val2 ?_ ?_; rw [slc_nat,show p+1+wsN t - p=wsN (c::t) by walk_at"m",hd]) | rw [slc_nat,show p+1+wsN t - p=wsN (c::t) by exact ar3 (.im (.eq .v2 (.a .n1 .v1)) (.eq (.s (.a (.a .v0 .n1) .v1) .v0) .v2)) rfl hw,hd]
  refine E.appendK (a:=a) ?_ (by walk_at"d") (.tail _ (.head _))
  walk_at"B"
  refine K12 G ?_
  refine KApd.mk (vs:=cur) (.there .here) (by exact AR.h468 _ _ _ hcl hl hple) ?_
  walk_at"B"
  exact PJ.leaf P hd hs (one_node .white) (by simp) (by exact ar3 (.im (.eq .v2 (.a .n1 .v1)) (.eq (.a (.a .v0 .n1) .v1) (.a .v0 .v2))) rfl hw) rfl ht2 ht3
 rw [if_neg (nf h)] at hs
 walk_at"B"
 refine S.ifb (isUu c&&(headP (·==43) t&&headP (fun n=>isHex n||n==63) (t.drop 1))) ?_ (fun h=>?_) (fun h=>?_)
 ·refine T.andC (isUu c) ?_ (fun h=>?_) (fun h=>?_)
  ·walk_at"B"
   first | (refine ⟨?_,rfl⟩; rw [cs_Uu] <;> rfl; done) | (rw [cs_Uu]; exact ⟨rfl,rfl⟩)
  ·first | (refine ⟨?_,rfl⟩; rw [h] <;> rfl; done) | (rw [h]; exact ⟨rfl,rfl⟩)
  first | (refine' val1 ?_ ?_; rw [h,Qo]) | (refine' val2 ?_ ?_; rw [h,Qo]) | rw [h,Qo]
  refine T.andC (decide (p+2 < s.length)) ?_ (fun h=>?_) (fun h=>?_)
  ·walk_at"B"
   exact ⟨rfl,rfl⟩
  ·have h:=of_decide_eq_false h
   have:t.drop 1=[]:=Qp (by exact ar3 (.im (.eq (.s .v1 .v2) (.a .v0 .n1)) (.im (.nt (.lt (.a .v2 (.n 2)) .v1)) (.le .v0 .n1))) rfl hlen (Ar.f ‹_›))
   rw [this]
   exact ⟨by simp [headP],rfl⟩
  have h:=Qh h
  have hp1:p+1 < s.length:=by exact ar2 (.im (.lt (.a .v0 (.n 2)) .v1) (.lt (.a .v0 .n1) .v1)) rfl (Ar.t ‹_›)
  have hg1:=List.getElem?_eq_getElem hp1
  have hd1:=drop_cons hg1
  have hg2:=List.getElem?_eq_getElem h
  have hd2:=drop_cons hg2
  generalize s[p+1]=n1 at hg1 hd1
  generalize s[p+2]=n2 at hg2 hd2
  rw [hgd.2.1,show p+1+1=p+2 from rfl,hd2] at hd1
  first | (refine' val1 ?_ ?_; rw [hd1]) | (refine' val2 ?_ ?_; rw [hd1]) | rw [hd1]
  refine T.andC (n1==43) ?_ (fun h3=>?_) (fun h3=>?_)
  ·walk_at"B"
   first | (refine ⟨?_,rfl⟩; rw [eqc_plus] <;> rfl; done) | (rw [eqc_plus]; exact ⟨rfl,rfl⟩)
  ·exact ⟨by simp only [headP,h3,Bool.false_and],rfl⟩
  refine T.andC (isHex n2||n2==63) ?_ (fun h4=>?_) (fun h4=>?_)
  ·walk_at"B"
   first | (refine ⟨?_,rfl⟩; rw [cs_hexq] <;> rfl; done) | (rw [cs_hexq]; exact ⟨rfl,rfl⟩)
  ·exact ⟨by simp only [headP,h3,h4,Bool.true_and,List.drop_succ_cons,List.drop_zero],rfl⟩
  ·walk_at"B"
   exact ⟨by simp only [headP,h3,h4,Bool.true_and,List.drop_succ_cons,List.drop_zero],rfl⟩
 ·rw [if_pos h] at hs
  rw [Qc,Qc] at h
  have htd:t.drop 1=s.drop (p+2):=by rw [← hgd.2.1,Qe]
  rw [htd] at hs h
  walk_at"B"
  refine S.unpackK ["start","end","pos"] (by repeat constructor) ?_
  walk_at"B"
  refine C38 G hl2 h.2.2 ?_
  walk_at"B"
  refine E.appendK (a:=a) ?_ (by walk_at"d") (.tail _ (.head _))
  walk_at"B"
  refine K19 G ?_
  refine KApd.mk (vs:=cur) (.there .here) (by exact AR.h468 _ _ _ hcl hl hple) ?_
  walk_at"B"
  exact PJ.leaf P hd hs (one_node .range) (by simp) (by exact ar2 (.eq (.a (.a .v0 (.n 2)) .v1) (.a .v0 (.a (.n 2) .v1))) rfl) rfl ht2 ht3
 rw [if_neg (nf h)] at hs
 walk_at"B"
 refine S.ifb ((c::t).take 3==[45,45,62]) ?_ (fun h=>?_) (fun h=>?_)
 ·walk_at"B"
  first | (refine ⟨?_,rfl⟩; rw [show (Str.ofString "-->").cps.toList=[45,45,62] from by decide +kernel,swAt_nat _ _ _ (by simp),hd] <;> rfl; done) | (rw [show (Str.ofString "-->").cps.toList=[45,45,62] from by decide +kernel,swAt_nat _ _ _ (by simp),hd]; exact ⟨rfl,rfl⟩)
 ·rw [if_pos h] at hs
  walk_at"B"
  refine E.appendK (a:=a) ?_ (by walk_at"d") (.tail _ (.head _))
  walk_at"B"
  refine K13 G ?_
  refine KApd.mk (vs:=cur) (.there .here) (by exact AR.h468 _ _ _ hcl hl hple) ?_
  walk_at"B"
  rw [show (Str.ofString "-->").cps.toList=[45,45,62] from by decide +kernel]
  exact PJ.leaf P hd hs (one_node .literal) (by simp) (by exact ar1 (.eq (.a .v0 (.n 3)) (.a .v0 (.n 3))) rfl) rfl ht2 ht3
 rw [if_neg (nf h)] at hs
 walk_at"B"
 refine S.ifb (identStart (c::t)) ?_ (fun h=>?_) (fun h=>?_)
 ·walk_at"B"
  refine (C33 G hg hl3 ?_).le (by walk_at"m")
  walk_at"B"
  first | (refine ⟨?_,rfl⟩; rw [hd] <;> rfl; done) | (rw [hd]; exact ⟨rfl,rfl⟩)
 ·rw [if_pos h] at hs
  refine (TI G hl P hd hs ht2 ht3).mono ?_
  intro r lo' H' q
  induction r with
  | next=>exact q.elim
  | cont=>exact q
  | brk=>exact q
  | ret v=>exact q
 rw [if_neg (nf h)] at hs
 walk_at"B"
 refine S.unpackK ["end","plain"] (by repeat constructor) ?_
 walk_at"B"
 refine (C29 G hl2 ?_).le (by walk_at"m")
 rw [hd]
 cases hn:numEnd (c::t) with
 | none =>
  rw [hn] at hs
  unfold numV
  walk_at"B"
  refine S.ifF ?_ ?_
  ·walk_at"B"
   exact ⟨rfl,rfl⟩
  refine (TZ G hl P hd hs ht2 ht3).mono ?_
  intro r lo' H' q
  induction r with
  | next=>exact Ss.nil q
  | cont=>exact q
  | brk=>exact q
  | ret v=>exact q
 | some x =>
  obtain ⟨n,pl⟩:=x
  rw [hn] at hs
  unfold numV
  walk_at"B"
  refine S.ifT ?_ ?_
  ·walk_at"B"
   exact ⟨rfl,rfl⟩
  refine (TN G hl P hd hs hn ht2 ht3 rfl rfl).mono ?_
  intro r lo' H' q
  induction r with
  | next=>exact Ss.nil q
  | cont=>exact q
  | brk=>exact q
  | ret v=>exact q
noncomputable def told (s:List Nat):List TT:=run (norm s).length (1,1) (norm s) [] none []
set_option maxHeartbeats 4000000 in
set_option tactic.hygienic true in
theorem C31 {w:World} {g:Gx} (G:GG w g) {css:List Nat} {M:Nat} {t1 t2 t3:Option Pos} {Q:V→AH→Prop} (hl:css.length≤600) (hM:cnt (norm css) < M) (ht2:TabOk 5 t2) (ht3:TabOk 6 t3)
  (q:∀ vs t2' t3',NodesT M vs (told css)→vs.length≤999999→TabOk 5 t2'→TabOk 6 t3'→Q (.lst vs) (TabH t1 t2' t3')):Call g 4 (.ref 628) [.str css] (TabH t1 t2 t3) Q:=by
 refine Call.def_ (dv:=[("skip_comments",.bool false)]) (D31 G) rfl ⟨rfl,fun p hp=>?_⟩ ?_
 ·rcases Qi hp with rfl | hp
  ·exact ⟨_,.head _,fun M=>.bool false⟩
  ·cases hp
 walk_at"n"
 refine Ss.consK ?_
 refine S.assignK ?_ (fun _=>rfl)
 have z1:(Str.ofString "�").length=1:=by decide +kernel
 have z2:(Str.ofString "\n").length=1:=by decide +kernel
 have h1:=repl_len [0] [65533] (by simp) (by simp) _ css (Qd _)
 have h2:=repl_len [13,10] [10] (by simp) (by simp) _ (repl [0] [65533] css) (Qd _)
 have h3:=repl_len [13] [10] (by simp) (by simp) _ (repl [13,10] [10] (repl [0] [65533] css)) (Qd _)
 refine E.replace (by decide +kernel) (E.replace (by decide +kernel) (E.replace (by decide +kernel) (E.replace (by decide +kernel) (E.loc (v:=.str css) (by walk_at"d") (vne rfl) ?_))))
 refine ⟨css,rfl,by rw [z1]; exact ar1 (.im (.le .v0 (.n 600)) (.le (.a .v0 (.r (.a .v0 .n1) 1)) (.n 16777216))) rfl hl,?_⟩
 rw [replace_repl' css _ _ [0] [65533] (by decide +kernel) (by decide +kernel) (by simp)]
 refine ⟨_,rfl,by rw [z2]; exact ar2 (.im (.le .v1 (.n 600)) (.im (.le .v0 .v1) (.le (.a .v0 (.r (.a .v0 .n1) 1)) (.n 16777216)))) rfl hl h1,?_⟩
 rw [replace_repl' _ _ _ [13,10] [10] (by decide +kernel) (by decide +kernel) (by simp)]
 refine ⟨_,rfl,by rw [z2]; exact ar3 (.im (.le .v1 (.n 600)) (.im (.le .v0 .v2) (.im (.le .v2 .v1) (.le (.a .v0 (.r (.a .v0 .n1) 1)) (.n 16777216))))) rfl hl h2 h1,?_⟩
 rw [replace_repl' _ _ _ [13] [10] (by decide +kernel) (by decide +kernel) (by simp)]
 refine ⟨_,rfl,by rw [z2]; exact ar4 (.im (.le .v1 (.n 600)) (.im (.le .v0 .v2) (.im (.le .v3 .v1) (.im (.le .v2 .v3) (.le (.a .v0 (.r (.a .v0 .n1) 1)) (.n 16777216)))))) rfl hl h3 h1 h2,?_⟩
 rw [replace_repl' _ _ _ [12] [10] (by decide +kernel) (by decide +kernel) (by simp)]
 have hnl:=norm_len css
 rw [show repl [12] [10] (repl [13] [10] (repl [13,10] [10] (repl [0] [65533] css)))=norm css from rfl]
 unfold told at q
 generalize norm css=s at hM q hnl
 have hs:s.length≤600:=by exact ar2 (.im (.le .v1 (.n 600)) (.im (.le .v0 .v1) (.le .v0 (.n 600)))) rfl hl hnl
 have hs3:s.length≤1000000:=by exact ar2 (.im (.le .v1 (.n 600)) (.im (.le .v0 .v1) (.le .v0 (.n 1000000)))) rfl hl hnl
 walk_at"B"
 refine E.lstA ?_
 refine Es.nil ?_
 refine ⟨by simp,fun root=>?_⟩
 walk_at"B"
 refine E.lstA ?_
 refine Es.nil ?_
 refine ⟨by simp,fun stk=>?_⟩
 repeat walk_at"g"
 generalize hF:run s.length (1,1) s [] none []=FIN at q
 walk_at"B"
 refine S.mono (S.while_ (Q:=PF s FIN M root stk t1) (J:=PJ s FIN M root stk t1) ?_ s.length ?_) ?_
 ·intro m lo' H' h
  obtain ⟨p,hts,P,ht2,ht3⟩:=h
  refine T.to (decide (p < s.length)) ?_ ?_
  ·walk_at"B"
   exact ⟨rfl,rfl⟩
  walk_at"l"
  ·rename_i h
   have h:=Qh h
   have hd:=drop_cons (List.getElem?_eq_getElem h)
   refine (TA G hs hts P hd ht2 ht3).mono ?_
   intro r lo' H' q
   induction r with
   | next=>exact q
   | cont=>exact q
   | brk=>exact q
   | ret v=>exact q
  ·rename_i h
   have h:¬ p < s.length:=fun x=>h (Qs x)
   refine Ss.nil ?_
   exact PF.done P (Qp (by exact AR.h326 _ _ (Ar.g ‹_›))) ht2 ht3
 ·exact .mk 0 (tsp:=0) (fs:=[]) (Qd 0) ⟨Nat.zero_le _,.nil,.nil,rfl,rfl,Nat.zero_le _,Nat.zero_le _,by simpa using hM,⟨s.length,by exact ar1 (.le (.s .v0 .n0) .v0) rfl,hF⟩,by exact ar2 (.im (.le .v1 (.n 600)) (.im (.le .v0 .v1) (.le .v0 (.n 100000)))) rfl hl hnl⟩ ht2 ht3
 ·rintro r lo' H' ⟨PE,ht2',ht3'⟩
  try dsimp only
  refine Ss.freezeFs _ _ _ PE fun vs hv hvl=>?_
  refine Ss.perm (List.Perm.swap _ _ _) ?_
  refine Ss.freezeH ?_
  walk_at"j"
  refine Ss.freezeH ?_
  walk_at"j"
  walk_at"B"
  exact q vs _ _ hv hvl ht2' ht3'
noncomputable def DctP (g:Gx) (l:List (Str × Str)) (a:Addr) (o:Obj):Prop:=(a==sysModules)=false∧∃ (es:Array DictEntry) (ep:Nat) (f:Str→Option Value),o.ExactDict∧o.data=.dict es ep∧KeysOf (PySem.strKind g.prog g.w) es∧(∀ k,findBy (PySem.strKind g.prog g.w).is es k=f k)∧∀ k,((l.find? fun p=>decide (p.1=k))=Option.none∧f k=Option.none)∨∃ p t,(l.find? fun p=>decide (p.1=k))=some p∧f k=some (.str p.2 t)
section
variable {g:Gx} {Γ:Fx} {d:Nat} {lo:Loc} {H:AH} {c:Cx} {fz:Led}
theorem dct_find:∀ (l:List (Str × Str)) (ts:List Tok),l.length=ts.length→∀ k,((l.find? fun p=>decide (p.1=k))=Option.none∧valueAt ((l.zip ts).map fun q=>(q.1.1,Value.str q.1.2 q.2)) k=Option.none)∨∃ p t,(l.find? fun p=>decide (p.1=k))=some p∧valueAt ((l.zip ts).map fun q=>(q.1.1,Value.str q.1.2 q.2)) k=some (.str p.2 t):=by
 intro l
 induction l with
 | nil=>intro ts h k; exact .inl ⟨rfl,rfl⟩
 | cons p l ih =>
  intro ts h k
  cases ts with
  | nil=>cases h
  | cons t ts =>
   unfold valueAt
   by_cases e:p.1=k
   ·refine .inr ⟨p,t,?_,?_⟩
    ·rw [List.find?_cons_of_pos (by exact Qs e)]
    ·rw [List.zip_cons_cons,List.map_cons,List.find?_cons_of_pos (by exact Qs e)]; rfl
   ·rw [List.find?_cons_of_neg (by simpa using e),List.zip_cons_cons,List.map_cons,List.find?_cons_of_neg (by simpa using e)]
    exact ih ts (Nat.succ.inj h) k
theorem HI.size_sys (ok:c.Ok g Γ d) {mf m:Str→Option Value} {cl led:Led} {h:Heap} (I:HI g c lo H mf m cl fz led h):(h.objs.size==sysModules)=false:=by
 obtain ⟨mc,⟨o,es,ep,ho,_⟩,_⟩:=ok.gok.top.nodigits
 have:=Heap.lt_size (I.fr.keep _ _ (ok.stays _ _ ho))
 refine Qk fun e=>?_
 rw [e] at this
 exact absurd this (by decide)
theorem HI.newDct {mf m:Str→Option Value} {cl led:Led} {h h':Heap} (I:HI g c lo H mf m cl fz led h) {o:Obj} (ho:h'.get? h.objs.size=some o) (hs:Heap.SameBut h.objs.size (h.push { cls:=.type "dict",data:=.dict #[] }) h'):HI g c lo H mf m cl ((h.objs.size,o)::fz) led h':=by
 have hk:∀ b o,h.get? b=some o→h'.get? b=some o:=fun b o e=>(hs.2 b (Nat.ne_of_lt (Heap.lt_size e))).trans (Heap.get?_push_of_some _ e)
 refine I.addFz ⟨I.fr.ns.at' fun o e=>hk _ _ e,fun b o e=>hk _ _ (I.fr.keep b o e),I.fr.above⟩ (fun p hp=>?_) fun p hp=>Nat.ne_of_lt (I.fresh_lt p hp)
 rcases Qi hp with rfl | hp
 ·refine ⟨ho,fun e=>?_,?_⟩
  ·have lt:c.L < h.objs.size:=I.fr.ns.lt
   rw [← show h.objs.size=c.L from e] at lt
   exact Nat.lt_irrefl _ lt
  ·cases q:c.h₀.get? h.objs.size with
   | none=>rfl
   | some o=>exact absurd (Heap.lt_size (I.fr.keep _ o q)) (Nat.lt_irrefl _)
 ·have z:=I.news p hp
  exact ⟨hk _ _ z.1,z.2⟩
theorem Carries.cons {prog:Program} {w:World} {K:Type} [DecidableEq K] {knd:KeyKind prog w K} {key v:Value} {k:K} {vs:List (Value × Value)} {kvs:List (K × Value)} (h:knd.is k key=true) (r:Carries knd vs kvs):Carries knd ((key,v)::vs) ((k,v)::kvs):=⟨h,rfl,r⟩
theorem carries4 {prog:Program} {w:World} {k1 k2 k3 k4:Str} {x1 x2 x3 x4:Value} {t1 t2 t3 t4:Tok}:Carries (PySem.strKind prog w) [(.str k1 t1,x1),(.str k2 t2,x2),(.str k3 t3,x3),(.str k4 t4,x4)] [(k1,x1),(k2,x2),(k3,x3),(k4,x4)] :=
 have h:∀ (k:Str) (t:Tok),(PySem.strKind prog w).is k (.str k t)=true:=fun k t=>PySem.strKind_is _ _ _ _
 Carries.cons (h _ _) (Carries.cons (h _ _) (Carries.cons (h _ _) (Carries.cons (h _ _) trivial)))
theorem dct4 {h':Heap} {a:Addr} {k1 k2 k3 k4 v1 v2 v3 v4:Str} {t1 t2 t3 t4:Tok} (ha:(a==sysModules)=false) (hn:[k1,k2,k3,k4].Nodup) (hd:h'.DictOf (PySem.strKind g.prog g.w) a (merged [] [(k1,.str v1 t1),(k2,.str v2 t2),(k3,.str v3 t3),(k4,.str v4 t4)])):∃ o,h'.get? a=some o∧DctP g [(k1,v1),(k2,v2),(k3,v3),(k4,v4)] a o:=by
 rw [merged_nil_of_nodup [(k1,.str v1 t1),(k2,.str v2 t2),(k3,.str v3 t3),(k4,.str v4 t4)] hn] at hd
 obtain ⟨o,es,ep,ho,e1,e2,e3,e4⟩:=hd.mapOf
 exact ⟨o,ho,ha,es,ep,_,e1,e2,e3,e4,dct_find [(k1,v1),(k2,v2),(k3,v3),(k4,v4)] [t1,t2,t3,t4] rfl⟩
theorem pairs4 {k1 k2 k3 k4 v1 v2 v3 v4:Str} {a1 a2 a3 a4 b1 b2 b3 b4:Nat} {p1 p2 p3 p4 q1 q2 q3 q4 pos:Pos} {prog:Program} {w:World} {A:Around} {E:Value→Shared→Prop} {s:Shared} {env:Env} {Q:List (Value × Value)→Shared→Prop}
  (h:∀ t1 u1 t2 u2 t3 u3 t4 u4 tk,s.toks≤tk→Q [(.str k1 t1,.str v1 u1),(.str k2 t2,.str v2 u2),(.str k3 t3,.str v3 u3),(.str k4 t4,.str v4 u4)] { s with toks:=tk }) :
  wpAny (model prog w) A (evalPairs [(eval (.Constant (.str k1) a1 p1) env,do let x ← eval (.Constant (.str v1) b1 q1) env; standAt pos; pure x),(eval (.Constant (.str k2) a2 p2) env,do let x ← eval (.Constant (.str v2) b2 q2) env; standAt pos; pure x),(eval (.Constant (.str k3) a3 p3) env,do let x ← eval (.Constant (.str v3) b3 q3) env; standAt pos; pure x),(eval (.Constant (.str k4) a4 p4) env,do let x ← eval (.Constant (.str v4) b4 q4) env; standAt pos; pure x)]) Q E s:=by
 refine evalPairs_cons (Constant_str (wpAny_bind (Constant_str (wpAny_bind (wpAny_standAt (wpAny_pure ?_))))))
 refine evalPairs_cons (Constant_str (wpAny_bind (Constant_str (wpAny_bind (wpAny_standAt (wpAny_pure ?_))))))
 refine evalPairs_cons (Constant_str (wpAny_bind (Constant_str (wpAny_bind (wpAny_standAt (wpAny_pure ?_))))))
 refine evalPairs_cons (Constant_str (wpAny_bind (Constant_str (wpAny_bind (wpAny_standAt (wpAny_pure ?_))))))
 exact evalPairs_nil (h _ _ _ _ _ _ _ _ _ (Nat.le_add_right _ 8))
theorem E.dict4 {k1 k2 k3 k4 v1 v2 v3 v4:Str} {a1 a2 a3 a4 b1 b2 b3 b4:Nat} {p1 p2 p3 p4 q1 q2 q3 q4 pos:Pos} {Q:V→AH→Prop} (hn:[k1,k2,k3,k4].Nodup) (h:Q (.cst (DctP g [(k1,v1),(k2,v2),(k3,v3),(k4,v4)])) H) :
  E g Γ d (.Dict [some (.Constant (.str k1) a1 p1),some (.Constant (.str k2) a2 p2),some (.Constant (.str k3) a3 p3),some (.Constant (.str k4) a4 p4)] [.Constant (.str v1) b1 q1,.Constant (.str v2) b2 q2,.Constant (.str v3) b3 q3,.Constant (.str v4) b4 q4] pos) lo H Q:=by
 intro c ok fz
 intro mf m cl fz₁ led s hs I
 with_reducible refine wpAny_Dict_pairs (knd:=PySem.strKind g.prog g.w) (pairs:=[(eval (.Constant (.str k1) a1 p1) c.env,do let x ← eval (.Constant (.str v1) b1 q1) c.env; standAt pos; pure x),(eval (.Constant (.str k2) a2 p2) c.env,do let x ← eval (.Constant (.str v2) b2 q2) c.env; standAt pos; pure x),(eval (.Constant (.str k3) a3 p3) c.env,do let x ← eval (.Constant (.str v3) b3 q3) c.env; standAt pos; pure x),(eval (.Constant (.str k4) a4 p4) c.env,do let x ← eval (.Constant (.str v4) b4 q4) c.env; standAt pos; pure x)]) ?hs (Qt _ _) (Nat.le_of_ble_eq_true rfl) ?hq
 case hs=>rfl
 refine pairs4 fun t1 u1 t2 u2 t3 u3 t4 u4 tk htk=>?_
 refine ⟨_,carries4,Heap.DictOf.new _,fun h' hd hs'=>?_⟩
 refine x12 (dct4 (I.hi.size_sys ok) hn hd) fun o ho hp=>?_
 exact .mk lo H mf m cl _ led (I.to (tk+4) (Nat.le_trans htk (Nat.le_add_right _ _)) (I.hi.newDct ho hs')) (fun p hp=>.tail _ hp) ⟨rfl,_,.cst (.inl (.head _)) hp,h⟩
theorem findS {l:List (Str × Str)} (X:Str):(l.find? fun p=>decide (p.1=X))=l.find? fun p=>p.1.cps.toList==X.cps.toList:=by
 congr 1
 funext p
 have e:p.1=X ↔ p.1.cps.toList=X.cps.toList:=⟨fun e=>e ▸ rfl,fun e=>by rw [← S'_of p.1,← S'_of X,e]⟩
 by_cases h:p.1=X
 ·rw [Qs h,beq_iff_eq.mpr (e.mp h)]
 ·rw [decide_eq_false h,Qk fun q=>h (e.mpr q)]
theorem DctP.map {l:List (Str × Str)} {h:Heap} {a:Addr} {o:Obj} (ho:h.get? a=some o) (p:DctP g l a o):∃ f,h.MapOf (PySem.strKind g.prog g.w) a f∧∀ k,((l.find? fun p=>decide (p.1=k))=Option.none∧f k=Option.none)∨∃ p t,(l.find? fun p=>decide (p.1=k))=some p∧f k=some (.str p.2 t):=by
 obtain ⟨_,es,ep,f,e1,e2,e3,e4,e5⟩:=p
 exact ⟨f,⟨o,es,ep,ho,e1,e2,e3,e4⟩,e5⟩
theorem T.inD {l r:Expr} {pos:Pos} {x:List Nat} {ks:List (Str × Str)} {Q:Bool→AH→Prop} (hl:E g Γ d l lo H fun v H₁=>v=.str x∧E g Γ d r lo H₁ fun v H₂=>v=.cst (DctP g ks)∧Q (ks.find? fun p=>p.1.cps.toList==x).isSome H₂)
  (hm:autoParam (behindInMarks .In r=false) irfd):T g Γ d (.Compare l [.In] [r] pos) lo H Q:=by
 intro c ok fz
 rw [isTrue_Compare1,markedBehindIn_of_false hm]
 refine W.bindV ((hl c ok fz)) fun fz₁ y a H₁ s₁ ia r_=>?_
 refine x02 (r_) fun zz0 hr=>?_
 subst zz0
 refine W.bindV (W.holding ((hr c ok fz₁))) fun fz₂ z b H₂ s₂ ib r_=>?_
 refine x02 (r_) fun zz0 q=>?_
 subst zz0
 refine W.at_ (W.bindV (Q:=fun v H'=>v=.bool (ks.find? fun p=>p.1.cps.toList==x).isSome∧H'=H₂) (W.operate (W.now fun mf m cl fz₃ led s hs I P _ k=>?_)) fun fz₃ u v H₃ s₃ iv r_=>W.holding (truthy_W ok iv (by obtain ⟨rfl,rfl⟩:=r_; exact ⟨_,.bool _,q⟩)))
 have ia:=(ia.mono (mem_mono s₂)).mono (mem_mono hs)
 have ib:=ib.mono (mem_mono hs)
 refine ob_EEA ia.strE fun X t e e2=>?_
 subst e; subst e2
 refine ob_EEAA ib.cstE fun aa o e hmm hp=>?_
 subst e
 refine x12 (hp.map (I.hi.there ok.stays hmm)) fun f hM hf=>?_
 refine wpAny_in_of (PySem.strKind_is _ _ _ _) hp.1 hM (k _ _ (I.toks _) ⟨rfl,_,.bool _,?_,rfl⟩)
 rw [← findS]
 rcases hf X with ⟨e1,e2⟩ | ⟨p,t,e1,e2⟩
 ·rw [e1,e2]; rfl
 ·rw [e1,e2]; rfl
theorem E.subD {value slice:Expr} {pos:Pos} {x:List Nat} {ks:List (Str × Str)} {p:Str × Str} {Q:V→AH→Prop}
  (h:E g Γ d value lo H fun a H₁=>a=.cst (DctP g ks)∧E g Γ d slice lo H₁ fun b H₂=>b=.str x∧(ks.find? fun p=>p.1.cps.toList==x)=some p∧Q (.str p.2.cps.toList) H₂)
  (hs:autoParam (∀ o i,subscripted slice false o i=operate [o,i] (getItem o i)) irfa):E g Γ d (.Subscript value slice pos) lo H Q:=by
 intro c ok fz
 refine W.cast (t:=do let o ← eval value c.env; let i ← holding [o] (eval slice c.env); standAt pos; subscriptTail value slice o i) ?_ rfl
 refine W.bindV ((h c ok fz)) fun fz₁ y a H₁ s₁ ia r_=>?_
 refine x02 (r_) fun zz0 ha=>?_
 subst zz0
 refine W.bindV (W.holding (ha c ok fz₁)) fun fz₂ z b H₂ s₂ ib r_=>?_
 refine x03 (r_) fun zz0 hfi q=>?_
 subst zz0
 refine W.at_ (W.now fun mf m cl fz₃ led s hs' I P _ k=>?_)
 have ia:=(ia.mono (mem_mono s₂)).mono (mem_mono hs')
 have ib:=ib.mono (mem_mono hs')
 refine ob_EEA ib.strE fun X t e e2=>?_
 subst e; subst e2
 refine ob_EEAA ia.cstE fun aa o e hmm hp=>?_
 subst e
 refine x12 (hp.map (I.hi.there ok.stays hmm)) fun f hM hf=>?_
 rcases hf X with ⟨e1,e2⟩ | ⟨p',t',e1,e2⟩
 ·rw [findS,hfi] at e1; cases e1
 ·rw [findS,hfi] at e1; cases e1
  exact tail_any hM.typeIs slot_dict_getitem.lookup (wpAny_getItem_of (PySem.strKind_is _ _ _ _) hM e2 (k _ _ (I.toks _) ⟨rfl,_,.str _ _ rfl,q⟩)) (hs _ _)
end
section
variable {prog:Program} {w:World} {A:Around} {E:Value→Shared→Prop} {s:Shared}
theorem sliceApplied_two {sl:Addr} {n:Nat} {u:Tok} {Q:Int × Int × Nat→Shared→Prop} (hs:s.heap.IsSliceOf sl .none (.int 2 u) .none) (ha:3≤n) (h:Q (0,1,2) s) :
  wpAny (model prog w) A (Builtin.Slice.sliceApplied (.ref sl) (pure (n:Int))) Q E s:=by
 obtain ⟨os,hos,hcs,hds⟩:=id hs
 unfold Builtin.Slice.sliceApplied Builtin.Slice.sliceFields
 refine wpAny_bind (wpAny_bind (wpAny_field hos hds (x:=.none) rfl (wpAny_bind (wpAny_field hos hds (x:=.int 2 u) rfl (wpAny_bind (wpAny_field hos hds (x:=.none) rfl (wpAny_pure ?_)))))))
 refine wpAny_bind (slicePart_none ?_)
 show wpAny _ _ (if ((1:Int)==0)=true then _ else _) _ _ s
 rw [if_neg (by decide)]
 refine wpAny_bind (slicePart_none (wpAny_bind (slicePart_int (wpAny_bind (wpAny_pure ?_)))))
 show wpAny _ _ (match Builtin.Slice.sliceAdjust none (some (2:Int)) 1 (n:Int) with | (lo,hi)=>pure (lo,(1:Int),Builtin.Slice.slicePlaces lo hi 1)) _ _ s
 have e:Builtin.Slice.sliceAdjust none (some (2:Int)) 1 (n:Int)=(0,2):=by
  unfold Builtin.Slice.sliceAdjust
  have h1:¬ ((1:Int) < 0):=by omega
  have h2:¬ ((2:Int) < 0):=by omega
  simp only [h1,h2,if_false]
  congr 1
  omega
 rw [e]
 exact wpAny_pure h
theorem getItem_two {t sl:Addr} {xs:List Value} {x y z:Value} {u:Tok} {Q:Value→Shared→Prop} (ht:IsTup s.heap t (x::y::z::xs).toArray) (hs:s.heap.IsSliceOf sl .none (.int 2 u) .none)
  (h:Q (.ref s.heap.objs.size) { s with heap:=s.heap.push (tupOf [x,y].toArray 0) }):wpAny (model prog w) A (getItem (.ref t) (.ref sl)) Q E s:=by
 have hsz:(x::y::z::xs).toArray.size=xs.length+3:=by simp
 have hdrop:sizeOk (.seq [x,y].toArray):=by
  show 2≤sizeLine
  rw [sizeLine_eq]; decide
 obtain ⟨os,hos,hcs,hds⟩:=id hs
 have hTs:s.TypeIs (.ref sl) "slice":=⟨os,hos,hcs⟩
 unfold getItem
 try with_reducible refine wpAny_holding ?_
 first | refine wpAny_bind (wpAny_pure ?_) | skip
 refine wpAny_bind (wpAny_sequenceKey ht.typeIs (by decide) ?_)
 refine wpAny_bind (wpAny_callSpecial?_slot (name:=Str.ofString "__getitem__") ht.typeIs slot_tuple_getitem
  (wpAny_call_entry slot_tuple_getitem ht.typeIs entry_tuple_getitem ?_ (args_tuple_getitem _ _)))
 show wpAny _ _ (Builtin.Tuple.tupleItemsOf (.ref t) >>= _) _ _ s
 refine wpAny_bind (tupleItemsOf_ ht ?_)
 refine wpAny_bind (wpAny_typeOf hTs ?_)
 rw [if_pos (by decide)]
 refine wpAny_bind (sliceApplied_two hs (by rw [hsz]; exact ar1 (.le (.n 3) (.a .v0 (.n 3))) rfl) ?_)
 have hno:¬ (((0:Int)==0&&(1:Int)==1&&2==(x::y::z::xs).toArray.size)=true):=by
  rw [hsz]
  simp
 show wpAny _ _ (if ((0:Int)==0&&(1:Int)==1&&2==(x::y::z::xs).toArray.size)=true then _ else _) _ _ s
 rw [if_neg hno]
 first
  | exact wpAny_bind (m:=Builtin.Tuple.tupleExact _) (wpAny_newObj_type (wpAny_pure ⟨_,rfl,wpAny_pure h⟩) hdrop)
  | exact wpAny_bind (m:=Builtin.Tuple.tupleExact _) (wpAny_newObj_type (wpAny_bind (wpAny_pure (wpAny_pure ⟨_,rfl,wpAny_pure h⟩))) hdrop)
  | exact wpAny_bind (wpAny_bind (m:=Builtin.Tuple.tupleExact _) (wpAny_newObj_type (wpAny_pure (wpAny_pure ⟨_,rfl,wpAny_pure h⟩)) hdrop))
  | exact wpAny_bind (wpAny_bind (m:=Builtin.Tuple.tupleExact _) (wpAny_newObj_type (wpAny_pure ⟨_,rfl,wpAny_pure h⟩) hdrop))
end
section
variable {g:Gx} {Γ:Fx} {d:Nat} {lo:Loc} {H:AH} {c:Cx} {fz:Led}
theorem E.slice2 {value:Expr} {pp p1 pos:Pos} {k1:Nat} {a b e:V} {vs:List V} {Q:V→AH→Prop}
  (h:E g Γ d value lo H fun x H₁=>x=.tup (a::b::e::vs)∧Q (.tup [a,b]) H₁):E g Γ d (.Subscript value (.Slice Option.none (some (.Constant (.int 2) k1 p1)) Option.none pp) pos) lo H Q:=by
 intro c ok fz
 refine W.cast (t:=do let o ← eval value c.env; let i ← holding [o] (eval (.Slice Option.none (some (.Constant (.int 2) k1 p1)) Option.none pp) c.env); standAt pos; subscriptTail value (.Slice Option.none (some (.Constant (.int 2) k1 p1)) Option.none pp) o i) ?_ rfl
 refine W.bindV ((h c ok fz)) fun fz₁ x a' H₁ s₁ ia r_=>?_
 obtain ⟨ea,q⟩:=r_
 subst ea
 rw [arm_eval_Slice]
 refine W.bind (W.holding (W.bind ((part_W (e:=Option.none) (k:=fun p H'=>p=Option.none∧H'=H₁) ok ⟨rfl,rfl⟩).mono fun fz₂ vl lo₂ H₂ s₂ r_=>?_)))
 refine ob_AEA r_ fun e₂ pl hl hb=>?_
 try clear r_
 subst e₂
 obtain ⟨hb,rfl⟩:=hb
 refine W.bind (W.holding ((part_W (e:=some (.Constant (.int 2) k1 p1)) (k:=fun p H'=>p=some 2∧H'=H₂) ok (E.int ⟨_,.int _,rfl,rfl⟩)).mono fun fz₃ vu lo₃ H₃ s₃ r_=>?_))
 refine ob_AEA r_ fun e₃ pu hu hc=>?_
 try clear r_
 subst e₃
 obtain ⟨hc,rfl⟩:=hc
 refine W.bind (W.holding (W.pure (a:=Value.none) fun fz₄ s₄=>?_))
 refine W.frozen fun mf m cl fz₅ led s hs I P _ k0=>wpAny_newObj_type (k0 { cls:=.type "slice",data:=.fields #[vl,vu,.none] } rfl ?_)
 refine W.at_ (W.frozen fun mf m cl fz₆ led s hs' I P _ k=>?_)
 have ho:=I.hi.there ok.stays (.inl (hs' _ (.head _)))
 cases hl with
 | int i t=>cases hb
 | none =>
 cases hu with
 | none=>cases hc
 | int i t =>
 have hi:i=2:=Option.some.inj hc
 subst hi
 have ia:=(ia.mono (mem_mono fun p hp=>hs' p (.tail _ (hs p (s₄ p (s₃ p (s₂ p hp)))))))
 refine ob_EEEAA ia.tupE fun z ws n e hm ha=>?_
 subst e
 obtain ⟨x1,r1,rfl,i1,ha⟩:=ha.consE
 obtain ⟨x2,r2,rfl,i2,ha⟩:=ha.consE
 obtain ⟨x3,r3,rfl,i3,ha⟩:=ha.consE
 have ht:IsTup s.heap z (x1::x2::x3::r3).toArray:=⟨_,I.hi.there ok.stays hm,rfl,_,rfl⟩
 have hss:∀ o i,subscripted (.Slice Option.none (some (.Constant (.int 2) k1 p1)) Option.none pp) false o i=operate [i,o] (getItem o i):=fun _ _=>rfl
 refine tail_any ht.typeIs PySem.F.slot_tuple_getitem.lookup (getItem_two (u:=t) ht ⟨_,ho,rfl,rfl⟩ (k (tupOf _ 0) rfl ⟨rfl,_,.tup (.inl (.head _)) (.cons (i1.mono (mem_mono fun p hp=>.tail _ hp)) (.cons (i2.mono (mem_mono fun p hp=>.tail _ hp)) .nil)),q⟩)) (hss _ _)
theorem E.inData {l r:Expr} {pos:Pos} {Q:V→AH→Prop} (hl:E g Γ d l lo H fun v H₁=>isD 64 v=true∧E g Γ d r lo H₁ fun u H₂=>∃ vs,u=.lst vs∧isD 64 (.lst vs)=true∧Q (.bool ((pds vs).any fun y=>PyData.eqv y (pd v))) H₂)
  (he:∀ env,eval (.Compare l [.In] [r] pos) env=(do
   let x ← eval l env
   let y ← holding [x] (eval r env)
   standAt pos
   operate [x,y] (compareOp .In x y))):E g Γ d (.Compare l [.In] [r] pos) lo H Q:=by
 intro c ok fz
 rw [he]
 refine W.bindV ((hl c ok fz)) fun fz₁ y a H₁ s₁ ia r_=>?_
 obtain ⟨hd,hr⟩:=r_
 refine W.bindV (W.holding ((hr c ok fz₁))) fun fz₂ z b H₂ s₂ ib r_=>?_
 obtain ⟨vs,rfl,hds,q⟩:=r_
 refine W.at_ (W.operate (W.now fun mf m cl fz₃ led s hs I P _ k=>?_))
 have ia:=(ia.mono (mem_mono s₂)).mono (mem_mono hs)
 have ib:=ib.mono (mem_mono hs)
 have th:∀ a o,Cx.mem g fz₃ a o→s.heap.get? a=some o:=fun a o=>I.hi.there ok.stays
 obtain ⟨as,ra⟩:=ia.reads th 64 hd
 obtain ⟨bs,rb⟩:=ib.reads th 64 hds
 have h1:=isD_lay 64 _ hd
 have h2:=isD_lay 64 _ hds
 have u:=units64 ok.units
 refine PySem.SeqAt.in_list_reads rb ra h2.1 h1.1 ?_ (k _ _ I.z ⟨rfl,_,.bool _,q⟩)
 have h3:min (PyData.depthAll (pds vs)) (pd a).depth≤64:=Nat.le_trans (Nat.min_le_right _ _) h1.2
 have h4:=ok.units
 exact ar4 (.im (.le .v0 (.n 64)) (.im (.le (.a (.a .v1 (.m 10 .v2)) (.n 200)) .v3) (.lt (.a (.a .v1 .n1) .v0) .v3))) rfl h3 h4
theorem E.addLive {l r:Expr} {pos:Pos} {a:Addr} {Q:V→AH→Prop} (h:E g Γ d l lo H fun v H₁=>v=.ref a∧E g Γ d r lo H₁ fun b H₂=>∃ xs ys,b=.lst ys∧MUpd a (.lst xs) (.lst xs) H₂ H₂∧xs.length+ys.length≤1000000∧∀ n,Q (.ref n) ((n,.lst (xs++ys))::H₂)):E g Γ d (.BinOp l .Add r pos) lo H Q:=by
 intro c ok fz
 rw [eval_BinOp]
 refine W.bindV ((h c ok fz)) fun fz₁ x a' H₁ s₁ ia r_=>?_
 obtain ⟨ea,ha⟩:=r_
 subst ea
 have ez:=ia.refE
 subst ez
 refine W.bindV (W.holding ((ha c ok fz₁))) fun fz₂ y b H₂ s₂ ib r_=>?_
 obtain ⟨xs,ys,rfl,hH,hl,q⟩:=r_
 refine W.at_ (W.operate ?_)
 intro mf m cl fz₃ led s hs I
 have ib:=ib.mono (mem_mono hs)
 obtain ⟨pre,o,post,e,ho,hr⟩:=I.hi.hr.split hH
 subst e
 refine ob_EEA ho.lstE fun zs n eo ha=>?_
 subst eo
 have hg:=(I.hi.news _ (List.mem_append.mpr (.inr (List.mem_append.mpr (.inl (by simp)))):(a,listOf zs.toArray n)∈_)).1
 refine ob_EEEAA ib.lstE fun _ _ _ e hm' ha'=>?_
 subst e
 exact add_lists I.hi.fr I.hi.news ⟨_,hg,rfl,_,rfl⟩ ⟨_,I.hi.there ok.stays hm',rfl,_,rfl⟩ (fun h' F' N'=>.mk lo _ mf m cl _ _ (I.to (h':=h') s.toks (Qd _) (I.hi.addLed (.lst (ha.append ha'):OIs _ (listOf _ 0) _) F' N' fun p hp=>Nat.ne_of_lt (I.hi.fresh_lt p hp))) (fun p hp=>hp) ⟨rfl,_,.ref _,q _⟩) (by
  rw [ha.length,ha'.length]; exact small_line hl)
theorem CB.sumG {l:Addr} {ns:List Int} {xs:List Value} {Q:V→AH→Prop} (hB:g.B.IsList l xs.toArray) (hi:∀ M,IsAll M xs (ns.map V.int)) (h:Q (.int ns.sum) H):CallB g d (.builtin "sum") [.glo (.ref l)] H Q:=by
 intro Γ c ok fz lo xs' is mf m cl fz₁ led s hs I
 obtain ⟨_,e,i⟩:=is.one
 have ez:=i.gloE
 subst e; subst ez
 exact wpAny_with_toks I.tk (LSm.sum_ints I.hi.fr I.hi.news ok.handled (bot_list ok hB I) (ints_are (hi (Cx.mem g fz))) fun h' tk t' F' N' htk=>.mk lo H mf m cl fz₁ led ⟨I.hi.of F' N',I.gens,I.os,htk⟩ (fun _ x=>x) ⟨rfl,_,.int _ _,h⟩)
theorem CB.lenG {l:Addr} {xs:List Value} {Q:V→AH→Prop} (hB:g.B.IsList l xs.toArray) (hz:xs.length≤1000000) (h:Q (.int xs.length) H):CallB g d (.builtin "len") [.glo (.ref l)] H Q:=by
 intro Γ c ok fz lo xs' is
 obtain ⟨_,e,i⟩:=is.one
 have ez:=i.gloE
 subst e; subst ez
 exact W.now fun mf m cl fz₁ led s hs I P _ k=>call_len_list (bot_list ok hB I) (by rw [List.size_toArray]; exact lt63 (by exact R60 hz)) (k _ _ (I.toks _) ⟨rfl,_,.int _ _,by rw [List.size_toArray]; exact h⟩)
end
section
set_option genSizeOf false
set_option genInjectivity false
noncomputable def TT.p:TT→Nat × Nat | .mk p _ _ _=>p
noncomputable def TT.k:TT→List Nat | .mk _ k _ _=>k
noncomputable def TT.a:TT→V | .mk _ _ a _=>a
noncomputable def TT.ts:TT→List TT | .mk _ _ _ ts=>ts
noncomputable def plt (p q:Nat × Nat):Bool:=decide (p.1 < q.1)||(p.1==q.1&&decide (p.2 < q.2))
noncomputable def shV (o p:Nat × Nat):V:=.tup [.int ((p.1:Int) - (o.1:Int)+1),.int (if p.1=o.1 then (p.2:Int) - (o.2:Int)+1 else (p.2:Int))]
noncomputable def nodeV (o p:Nat × Nat) (k:List Nat) (a:V) (us:List V):V:=.tup [.str k,a,shV o p,.lst us]
noncomputable def tell1 (o lim p:Nat × Nat) (k:List Nat) (a:V) (us:List V):List V:=if plt p lim then [nodeV o p k a us] else []
noncomputable def toldL (o lim:Nat × Nat) (ts:List TT):List V:=TT.rec_1 (motive_1:=fun _=>List V) (motive_2:=fun _=>List V) (fun p k a _ us=>tell1 o lim p k a us) [] (fun _ _ x y=>x++y) ts
theorem toldL_cons (o lim:Nat × Nat) (t:TT) (r:List TT):toldL o lim (t::r)=tell1 o lim t.p t.k t.a (toldL o lim t.ts)++toldL o lim r:=by cases t; rfl
noncomputable def szL (ts:List TT):Nat:=TT.rec_1 (motive_1:=fun _=>Nat) (motive_2:=fun _=>Nat) (fun _ _ _ _ n=>n+1) 0 (fun _ _ x y=>x+y) ts
theorem szL_cons (t:TT) (r:List TT):szL (t::r)=(szL t.ts+1)+szL r:=by cases t; rfl
theorem szL_nil:szL []=0:=rfl
noncomputable def uncO (c:Nat × Nat) (t:TT) (b:Bool):Option Bool→Option Bool
 | none=>some (decide (t.p=c)||b)
 | some x=>some x
noncomputable def uncT (c:Nat × Nat) (t:TT):Bool:=TT.rec (motive_1:=fun _=>Bool) (motive_2:=fun _=>Option Bool) (fun _ _ _ _ x=>x.getD false) none (fun t _ x y=>uncO c t x y) t
noncomputable def uncL (c:Nat × Nat) (ts:List TT):Option Bool:=TT.rec_1 (motive_1:=fun _=>Bool) (motive_2:=fun _=>Option Bool) (fun _ _ _ _ x=>x.getD false) none (fun t _ x y=>uncO c t x y) ts
theorem uncT_mk (c:Nat × Nat) (t:TT):uncT c t=(uncL c t.ts).getD false:=by cases t; rfl
theorem uncL_cons (c:Nat × Nat) (t:TT) (r:List TT):uncL c (t::r)=uncO c t (uncT c t) (uncL c r):=by cases t; rfl
theorem uncL_last (c:Nat × Nat) (t:TT) (r:List TT):uncL c (r++[t])=some (decide (t.p=c)||uncT c t):=by
 induction r with
 | nil=>exact uncL_cons c t []
 | cons u r ih=>rw [Qj,uncL_cons,ih]; rfl
noncomputable def BareOk (ts:List TT) (k:Nat):Prop:=∀ t,0 < k→ts[k - 1]?=some t→¬ (t.k=lit "literal"∧t.a=.str [92])∧¬ (t.k=lit "error"∧t.a=.str (lit "bad-string"))
noncomputable def isUrlV:V→Bool
 | .str v=>isUrl v
 | _=>false
noncomputable def isFn (t:TT):Bool:=t.k==lit "function"&&isUrlV t.a
noncomputable def isW (ts:List TT):Bool:=match ts with
 | u::_=>u.k==lit "whitespace"
 | []=>false
noncomputable def near (t:TT):Nat:=if t.k==lit "function"&&isUrlV t.a then (if isW t.ts then 2 else 1) else 0
inductive CutIn:List TT→Nat→List (List TT × Nat)→Prop
 | here {ts:List TT} {c k:Nat} (h:k < ts.length) (hc:c≤k) (hb:BareOk ts k):CutIn ts c [(ts,k)]
 | deep {ts:List TT} {c k:Nat} {t:TT} {lv:List (List TT × Nat)} (h:ts[k]?=some t) (r:CutIn t.ts (near t) lv):CutIn ts c (lv++[(ts,k)])
noncomputable def ND:Nat→List V→List TT→Prop
 | 0,vs,ts=>vs=[]∧ts=[]
 | n+1,vs,ts=>NodesT n vs ts
theorem NodesT.consI {P:Prop} {n:Nat} {v:V} {rest:List V} {ts:List TT} (h:NodesT n (v::rest) ts) (q:∀ t r,ts=t::r→NodeT n v t→NodesT n rest r→P):P:=by
 cases h with
 | cons a b=>exact q _ _ rfl a b
theorem ND.nil (n:Nat):ND n [] []:=by cases n; exact ⟨rfl,rfl⟩; exact NodesT.nil
theorem NodeT.inner {n:Nat} {v:V} {t:TT} (h:NodeT n v t):∃ vs,ND n vs t.ts∧vs.length≤1000000:=by
 induction h using NodeT.casesOn <;> first | exact ⟨_,ND.nil _,Nat.zero_le _⟩ | exact ⟨_,a,a_1⟩
noncomputable def closS:List (Str × Str):=[("() block",")"),("[] block","]"),("{} block","}"),("function",")")]
noncomputable def isCb (k:List Nat):Bool:=(closS.find? fun p=>p.1.cps.toList==k).isSome
inductive NO (g:Gx) (t:TT):V→Prop
 | mk {C:Addr} {vs:List V} {y:Value} {il ic:Nat} (ht:clsAtN g.K C "type"=some y) (hy:∀ M,Is M y (.str t.k)) (h1:slotAt g.K C "source_line"=some il) (h2:vs[il]?=some (.int t.p.1)) (h3:slotAt g.K C "source_column"=some ic) (h4:vs[ic]?=some (.int t.p.2)):NO g t (.obj C vs)
theorem NO.ne {g:Gx} {t:TT} {v:V} (h:NO g t v):v≠.unset:=by
 induction h using NO.casesOn
 nofun
section
variable {w:World} {g:Gx} {Γ:Fx} {d:Nat} {lo:Loc} {H:AH}
theorem NodeT.no (G:GG w g) {n:Nat} {v:V} {t:TT} (h:NodeT n v t):NO g t v:=by
 induction h using NodeT.casesOn with
 | error=>exact .mk (G.hK.typ 0 rfl) (fun M=>.str _ _ rfl) (G.hK.slot 21 rfl) rfl (G.hK.slot 22 rfl) rfl
 | comment=>exact .mk (G.hK.typ 1 rfl) (fun M=>.str _ _ rfl) (G.hK.slot 23 rfl) rfl (G.hK.slot 24 rfl) rfl
 | white=>exact .mk (G.hK.typ 2 rfl) (fun M=>.str _ _ rfl) (G.hK.slot 25 rfl) rfl (G.hK.slot 26 rfl) rfl
 | literal=>exact .mk (G.hK.typ 3 rfl) (fun M=>.str _ _ rfl) (G.hK.slot 27 rfl) rfl (G.hK.slot 28 rfl) rfl
 | ident=>exact .mk (G.hK.typ 4 rfl) (fun M=>.str _ _ rfl) (G.hK.slot 29 rfl) rfl (G.hK.slot 30 rfl) rfl
 | atk=>exact .mk (G.hK.typ 5 rfl) (fun M=>.str _ _ rfl) (G.hK.slot 31 rfl) rfl (G.hK.slot 32 rfl) rfl
 | hash=>exact .mk (G.hK.typ 6 rfl) (fun M=>.str _ _ rfl) (G.hK.slot 33 rfl) rfl (G.hK.slot 34 rfl) rfl
 | string=>exact .mk (G.hK.typ 7 rfl) (fun M=>.str _ _ rfl) (G.hK.slot 35 rfl) rfl (G.hK.slot 36 rfl) rfl
 | url=>exact .mk (G.hK.typ 8 rfl) (fun M=>.str _ _ rfl) (G.hK.slot 37 rfl) rfl (G.hK.slot 38 rfl) rfl
 | range=>exact .mk (G.hK.typ 9 rfl) (fun M=>.str _ _ rfl) (G.hK.slot 39 rfl) rfl (G.hK.slot 40 rfl) rfl
 | number=>exact .mk (G.hK.typ 10 rfl) (fun M=>.str _ _ rfl) (G.hK.slot 41 rfl) rfl (G.hK.slot 42 rfl) rfl
 | percent=>exact .mk (G.hK.typ 11 rfl) (fun M=>.str _ _ rfl) (G.hK.slot 43 rfl) rfl (G.hK.slot 44 rfl) rfl
 | dim=>exact .mk (G.hK.typ 12 rfl) (fun M=>.str _ _ rfl) (G.hK.slot 45 rfl) rfl (G.hK.slot 46 rfl) rfl
 | paren=>exact .mk (G.hK.typ 13 rfl) (fun M=>.str _ _ rfl) (G.hK.slot 47 rfl) rfl (G.hK.slot 48 rfl) rfl
 | square=>exact .mk (G.hK.typ 14 rfl) (fun M=>.str _ _ rfl) (G.hK.slot 49 rfl) rfl (G.hK.slot 50 rfl) rfl
 | curly=>exact .mk (G.hK.typ 15 rfl) (fun M=>.str _ _ rfl) (G.hK.slot 51 rfl) rfl (G.hK.slot 52 rfl) rfl
 | func=>exact .mk (G.hK.typ 16 rfl) (fun M=>.str _ _ rfl) (G.hK.slot 53 rfl) rfl (G.hK.slot 54 rfl) rfl
theorem E.typ {value:Expr} {pos:Pos} {Q:V→AH→Prop} (t:TT) (h:E g Γ d value lo H fun a H₁=>NO g t a∧Q (.str t.k) H₁)
  (he:autoParam (∀ env,eval (.Attribute value "type" pos) env=(do
   let o ← eval value env
   standAt pos.atName
   let r ← holding [o] (getAttr o "type" true)
   letTemporaryGo value o r
   Pure.pure r)) irfa):E g Γ d (.Attribute value "type" pos) lo H Q :=
 E.attrC (h.mono fun v H' q=>NO.casesOn (motive:=fun v _=>∃ C vs x v',v=.obj C vs∧clsAtN g.K C "type"=some x∧(∀ M,Is M x v')∧Q v' H') q.1 fun a b _ _ _ _=>⟨_,_,_,_,rfl,a,b,q.2⟩) he
theorem E.lin {value:Expr} {pos:Pos} {Q:V→AH→Prop} (t:TT) (h:E g Γ d value lo H fun a H₁=>NO g t a∧Q (.int t.p.1) H₁)
  (he:autoParam (∀ env,eval (.Attribute value "source_line" pos) env=(do
   let o ← eval value env
   standAt pos.atName
   let r ← holding [o] (getAttr o "source_line" true)
   letTemporaryGo value o r
   Pure.pure r)) irfa):E g Γ d (.Attribute value "source_line" pos) lo H Q :=
 E.attr (h.mono fun v H' q=>NO.casesOn (motive:=fun v _=>AttrM g v "source_line" fun v=>Q v H') q.1 fun _ _ a b _ _=>⟨_,_,_,_,rfl,a,b,rfl,q.2⟩) he
theorem E.clm {value:Expr} {pos:Pos} {Q:V→AH→Prop} (t:TT) (h:E g Γ d value lo H fun a H₁=>NO g t a∧Q (.int t.p.2) H₁)
  (he:autoParam (∀ env,eval (.Attribute value "source_column" pos) env=(do
   let o ← eval value env
   standAt pos.atName
   let r ← holding [o] (getAttr o "source_column" true)
   letTemporaryGo value o r
   Pure.pure r)) irfa):E g Γ d (.Attribute value "source_column" pos) lo H Q :=
 E.attr (h.mono fun v H' q=>NO.casesOn (motive:=fun v _=>AttrM g v "source_column" fun v=>Q v H') q.1 fun _ _ _ _ a b=>⟨_,_,_,_,rfl,a,b,rfl,q.2⟩) he
end
section
variable {w:World} {g:Gx} {d:Nat} {H:AH} {Q:V→AH→Prop}
theorem C40 (G:GG w g) (q:Q (.cst (DctP g closS)) H):Call g (d+1) (.ref 685) [] H Q:=by
 refine Call.def_ (dv:=[]) (D40 G) rfl ⟨rfl,nmm⟩ ?_
 walk_at"n"
 refine Ss.consK ?_
 refine S.retK ?_
 refine E.dict4 (by decide +kernel) ?_
 exact q
inductive InO (g:Gx) (n:Nat) (t:TT):V→Prop
 | fn {C:Addr} {vs us:List V} {i:Nat} (hk:(t.k==lit "function")=true) (h:slotAt g.K C "arguments"=some i) (h2:vs[i]?=some (.lst us)) (r:ND n us t.ts) (l:us.length≤1000000):InO g n t (.obj C vs)
 | blk {C:Addr} {vs us:List V} {i:Nat} (hk:(t.k==lit "function")=false) (hc:isCb t.k=true) (h:slotAt g.K C "content"=some i) (h2:vs[i]?=some (.lst us)) (r:ND n us t.ts) (l:us.length≤1000000):InO g n t (.obj C vs)
 | leaf {v:V} (hk:(t.k==lit "function")=false) (hc:isCb t.k=false) (h:t.ts=[]):InO g n t v
theorem NodeT.inO (G:GG w g) {n:Nat} {v:V} {t:TT} (h:NodeT n v t):InO g n t v:=by
 induction h using NodeT.casesOn with
 | func a b=>exact .fn (by show (lit _==_)=_; decide +kernel) (G.hK.slot 20 rfl) rfl a b
 | paren a b=>exact .blk (by show (lit _==_)=_; decide +kernel) (by show isCb (lit _)=_; decide +kernel) (G.hK.slot 16 rfl) rfl a b
 | square a b=>exact .blk (by show (lit _==_)=_; decide +kernel) (by show isCb (lit _)=_; decide +kernel) (G.hK.slot 17 rfl) rfl a b
 | curly a b=>exact .blk (by show (lit _==_)=_; decide +kernel) (by show isCb (lit _)=_; decide +kernel) (G.hK.slot 18 rfl) rfl a b
 | _=>exact .leaf (by show (lit _==_)=_; decide +kernel) (by show isCb (lit _)=_; decide +kernel) rfl
theorem C42 (G:GG w g) {n:Nat} {v:V} {t:TT} (hN:NodeT n v t) (q:∀ vs,ND n vs t.ts→vs.length≤1000000→Q (.lst vs) H):Call g (d+2) (.ref 699) [v] H Q:=by
 have hno:=hN.no G
 have hin:=hN.inO G
 clear hN
 have hv:v≠.unset:=hno.ne
 refine Call.def_ (dv:=[]) (D42 G) rfl ⟨rfl,nmm⟩ ?_
 walk_at"n"
 refine Ss.consK ?_
 refine S.ifb (t.k==lit "function") ?_ (fun hq=>?_) (fun hq=>?_)
 ·walk_at"a"
  refine E.typ t ?_
  refine E.loc (v:=v) (by walk_at"d") hv ⟨hno,?_⟩
  walk_at"A"
  exact ⟨rfl,rfl⟩
 ·induction hin using InO.casesOn with
  | fn hk hs h2 r l =>
   walk_at"A"
   exact E.attrS (q _ r l) (by walk_at"d") hs h2 rfl
  | blk hk=>rw [hk] at hq; cases hq
  | leaf hk=>rw [hk] at hq; cases hq
 ·walk_at"A"
  refine E.ifeb (isCb t.k) ?_ (fun hb=>?_) (fun hb=>?_)
  ·refine T.inD (x:=t.k) (ks:=closS) ?_
   refine E.typ t ?_
   refine E.loc (v:=v) (by walk_at"d") hv ⟨hno,rfl,?_⟩
   refine E.call0 (by walk_at"d") (KF.keepE G.hK (by kernel_rfl)) ?_
   refine C40 G ⟨rfl,rfl,rfl⟩
  ·induction hin using InO.casesOn with
   | fn hk=>rw [hk] at hq; cases hq
   | blk hk hc hs hv2 r l=>exact E.attrS (q _ r l) (by walk_at"d") hs hv2 rfl
   | leaf hk hc=>rw [hc] at hb; cases hb
  ·induction hin using InO.casesOn with
   | fn hk=>rw [hk] at hq; cases hq
   | blk hk hc=>rw [hc] at hb; cases hb
   | leaf hk hc hts =>
    refine E.lst ?_
    refine Es.nil ⟨Nat.zero_le _,?_⟩
    exact q [] (by rw [hts]; exact ND.nil _) (Nat.zero_le _)
noncomputable def partsB:List Stmt:=(bodyAt 43).drop 1
noncomputable def partE (n:Nat):Expr:=if n < 6 then retE (ifB (partsB.drop n)) else retE (partsB.drop 6)
noncomputable def brk (x:List Nat):Nat:=if x==lit "function" then 0 else if x==lit "error" then 1 else if x==lit "dimension" then 2 else if x==lit "number"||x==lit "percentage" then 3 else if x==lit "unicode-range" then 4 else if x==lit "hash" then 5 else 6
theorem parts_chain (G:GG w g) {n:Nat} {x:List Nat} {v:V} {Q:R→Loc→AH→Prop} (hn:brk x=n) (h:E g Γ43 d (partE n) [("node",v),("kind",.str x)] H (KRet [("node",v),("kind",.str x)] Q)):Ss g Γ43 d partsB [("node",v),("kind",.str x)] H Q:=by
 unfold brk at hn
 refine Ss.consK ?_
 refine S.ifb (x==lit "function") ?_ (fun h0=>?_) (fun h0=>?_)
 ·walk_at"A"
  exact ⟨rfl,rfl⟩
 ·rw [if_pos h0] at hn; subst hn; refine Ss.consK ?_; exact S.retK h
 rw [if_neg (nf h0)] at hn
 walk_at"A"
 refine S.ifb (x==lit "error") ?_ (fun h0=>?_) (fun h0=>?_)
 ·walk_at"A"
  exact ⟨rfl,rfl⟩
 ·rw [if_pos h0] at hn; subst hn; refine Ss.consK ?_; exact S.retK h
 rw [if_neg (nf h0)] at hn
 walk_at"A"
 refine S.ifb (x==lit "dimension") ?_ (fun h0=>?_) (fun h0=>?_)
 ·walk_at"A"
  exact ⟨rfl,rfl⟩
 ·rw [if_pos h0] at hn; subst hn; refine Ss.consK ?_; exact S.retK h
 rw [if_neg (nf h0)] at hn
 walk_at"A"
 refine S.ifb (x==lit "number"||x==lit "percentage") ?_ (fun h0=>?_) (fun h0=>?_)
 ·refine T.or2b (x==lit "number") ?_ (fun h1=>?_) (fun h1=>?_)
  ·walk_at"A"
   exact ⟨rfl,rfl⟩
  ·exact ⟨by rw [h1]; rfl,rfl⟩
  ·walk_at"A"
   exact ⟨by rw [h1]; rfl,rfl⟩
 ·rw [if_pos h0] at hn; subst hn; refine Ss.consK ?_; exact S.retK h
 rw [if_neg (nf h0)] at hn
 walk_at"A"
 refine S.ifb (x==lit "unicode-range") ?_ (fun h0=>?_) (fun h0=>?_)
 ·walk_at"A"
  exact ⟨rfl,rfl⟩
 ·rw [if_pos h0] at hn; subst hn; refine Ss.consK ?_; exact S.retK h
 rw [if_neg (nf h0)] at hn
 walk_at"A"
 refine S.ifb (x==lit "hash") ?_ (fun h0=>?_) (fun h0=>?_)
 ·walk_at"A"
  exact ⟨rfl,rfl⟩
 ·rw [if_pos h0] at hn; subst hn; refine Ss.consK ?_; exact S.retK h
 rw [if_neg (nf h0)] at hn
 subst hn
 refine Ss.nil ?_
 refine Ss.consK ?_; exact S.retK h
inductive PaO (g:Gx) (t:TT):Nat→V→Prop
 | one {n:Nat} {x:Str} {C:Addr} {vs:List V} {i:Nat} (hn:n=0∧x="name"∨n=1∧x="kind"∨n=6∧x="value"∧isCb t.k=false) (h1:slotAt g.K C x=some i) (h2:vs[i]?=some t.a) (hp:t.a.plain=true):PaO g t n (.obj C vs)
 | two {n:Nat} {x y:Str} {C:Addr} {vs:List V} {i j:Nat} {a b:V} (hn:n=3∧x="representation"∧y="int_value"∨n=4∧x="start"∧y="end"∨n=5∧x="value"∧y="is_identifier") (h1:slotAt g.K C x=some i) (h2:vs[i]?=some a) (hp:a.plain=true) (h3:slotAt g.K C y=some j) (h4:vs[j]?=some b) (hq:b.plain=true) (ht:t.a=.tup [a,b]):PaO g t n (.obj C vs)
 | dim {C:Addr} {vs:List V} {i j k:Nat} {a b c:V} (h1:slotAt g.K C "representation"=some i) (h2:vs[i]?=some a) (hp:a.plain=true) (h3:slotAt g.K C "int_value"=some j) (h4:vs[j]?=some b) (hq:b.plain=true) (h5:slotAt g.K C "unit"=some k) (h6:vs[k]?=some c) (hr:c.plain=true) (ht:t.a=.tup [a,b,c]):PaO g t 2 (.obj C vs)
 | blk {C:Addr} {vs:List V} (hc:isCb t.k=true) (ht:t.a=.str []):PaO g t 6 (.obj C vs)
theorem PaO.e {t:TT} {v:V} {m:Nat} (e:brk t.k=m) (h:PaO g t m v):PaO g t (brk t.k) v:=e ▸ h
theorem NodeT.paO (G:GG w g) {n:Nat} {v:V} {t:TT} (h:NodeT n v t):PaO g t (brk t.k) v:=by
 induction h using NodeT.casesOn with
 | error=>exact .e (m:=1) (by show brk (lit _)=_; decide +kernel) (.one (.inr (.inl ⟨rfl,rfl⟩)) (G.hK.slot 0 rfl) rfl rfl)
 | hash=>exact .e (m:=5) (by show brk (lit _)=_; decide +kernel) (.two (.inr (.inr ⟨rfl,rfl,rfl⟩)) (G.hK.slot 6 rfl) rfl rfl (G.hK.slot 7 rfl) rfl rfl rfl)
 | range=>exact .e (m:=4) (by show brk (lit _)=_; decide +kernel) (.two (.inr (.inl ⟨rfl,rfl,rfl⟩)) (G.hK.slot 10 rfl) rfl rfl (G.hK.slot 11 rfl) rfl rfl rfl)
 | number h=>exact .e (m:=3) (by show brk (lit _)=_; decide +kernel) (.two (.inl ⟨rfl,rfl,rfl⟩) (G.hK.slot 56 rfl) rfl rfl (G.hK.slot 57 rfl) rfl h rfl)
 | percent h=>exact .e (m:=3) (by show brk (lit _)=_; decide +kernel) (.two (.inl ⟨rfl,rfl,rfl⟩) (G.hK.slot 58 rfl) rfl rfl (G.hK.slot 59 rfl) rfl h rfl)
 | dim h=>exact .e (m:=2) (by show brk (lit _)=_; decide +kernel) (.dim (G.hK.slot 15 rfl) rfl rfl (G.hK.slot 55 rfl) rfl h (G.hK.slot 14 rfl) rfl rfl rfl)
 | func a b=>exact .e (m:=0) (by show brk (lit _)=_; decide +kernel) (.one (.inl ⟨rfl,rfl⟩) (G.hK.slot 19 rfl) rfl rfl)
 | paren a b=>exact .e (m:=6) (by show brk (lit _)=_; decide +kernel) (.blk (by show isCb (lit _)=_; decide +kernel) rfl)
 | square a b=>exact .e (m:=6) (by show brk (lit _)=_; decide +kernel) (.blk (by show isCb (lit _)=_; decide +kernel) rfl)
 | curly a b=>exact .e (m:=6) (by show brk (lit _)=_; decide +kernel) (.blk (by show isCb (lit _)=_; decide +kernel) rfl)
 | comment=>exact .e (m:=6) (by show brk (lit _)=_; decide +kernel) (.one (.inr (.inr ⟨rfl,rfl,by show isCb (lit _)=_; decide +kernel⟩)) (G.hK.slot 1 rfl) rfl rfl)
 | white=>exact .e (m:=6) (by show brk (lit _)=_; decide +kernel) (.one (.inr (.inr ⟨rfl,rfl,by show isCb (lit _)=_; decide +kernel⟩)) (G.hK.slot 2 rfl) rfl rfl)
 | literal=>exact .e (m:=6) (by show brk (lit _)=_; decide +kernel) (.one (.inr (.inr ⟨rfl,rfl,by show isCb (lit _)=_; decide +kernel⟩)) (G.hK.slot 3 rfl) rfl rfl)
 | ident=>exact .e (m:=6) (by show brk (lit _)=_; decide +kernel) (.one (.inr (.inr ⟨rfl,rfl,by show isCb (lit _)=_; decide +kernel⟩)) (G.hK.slot 4 rfl) rfl rfl)
 | atk=>exact .e (m:=6) (by show brk (lit _)=_; decide +kernel) (.one (.inr (.inr ⟨rfl,rfl,by show isCb (lit _)=_; decide +kernel⟩)) (G.hK.slot 5 rfl) rfl rfl)
 | string=>exact .e (m:=6) (by show brk (lit _)=_; decide +kernel) (.one (.inr (.inr ⟨rfl,rfl,by show isCb (lit _)=_; decide +kernel⟩)) (G.hK.slot 8 rfl) rfl rfl)
 | url=>exact .e (m:=6) (by show brk (lit _)=_; decide +kernel) (.one (.inr (.inr ⟨rfl,rfl,by show isCb (lit _)=_; decide +kernel⟩)) (G.hK.slot 9 rfl) rfl rfl)
theorem C43 (G:GG w g) {n:Nat} {v:V} {t:TT} (h:NodeT n v t) (q:Q t.a H):Call g (d+2) (.ref 706) [v] H Q:=by
 have hno:=h.no G
 have hpa:=h.paO G
 have hv:v≠.unset:=hno.ne
 refine Call.def_ (dv:=[]) (D43 G) rfl ⟨rfl,nmm⟩ ?_
 walk_at"n"
 refine Ss.consK ?_
 refine S.assignK ?_ (fun _=>rfl)
 refine E.typ t ?_
 refine E.loc (v:=v) (by walk_at"d") hv ⟨hno,?_⟩
 refine pk1 ?_
 refine parts_chain G rfl ?_
 generalize brk t.k=m at hpa ⊢
 cases hpa with
 | one hn h1 h2 hp =>
  rcases hn with ⟨rfl,rfl⟩ | ⟨rfl,rfl⟩ | ⟨rfl,rfl,hc⟩
  ·exact E.attrS q (by walk_at"d") h1 h2 hp
  ·exact E.attrS q (by walk_at"d") h1 h2 hp
  ·refine E.ifeb false ?_ nff (fun _=>?_)
   ·refine T.inD (x:=t.k) (ks:=closS) ?_
    refine E.loc (v:=.str t.k) (by walk_at"d") (vne rfl) ⟨rfl,?_⟩
    refine E.call0 (by walk_at"d") (KF.keepE G.hK (by kernel_rfl)) ?_
    exact C40 G ⟨rfl,hc,rfl⟩
   ·exact E.attrS q (by walk_at"d") h1 h2 hp
 | two hn h1 h2 hp h3 h4 hq ht =>
  rw [ht] at q
  rcases hn with ⟨rfl,rfl,rfl⟩ | ⟨rfl,rfl,rfl⟩ | ⟨rfl,rfl,rfl⟩ <;>
  ·refine E.tup ?_
   refine Es.consK ?_ rfl
   refine E.attrS ?_ (by walk_at"d") h1 h2 hp
   refine Es.consK ?_ rfl
   refine E.attrS ?_ (by walk_at"d") h3 h4 hq
   exact Es.nil ⟨Nat.le_of_ble_eq_true rfl,q⟩
 | dim h1 h2 hp h3 h4 hq h5 h6 hr ht =>
  rw [ht] at q
  refine E.tup ?_
  refine Es.consK ?_ rfl
  refine E.attrS ?_ (by walk_at"d") h1 h2 hp
  refine Es.consK ?_ rfl
  refine E.attrS ?_ (by walk_at"d") h3 h4 hq
  refine Es.consK ?_ rfl
  refine E.attrS ?_ (by walk_at"d") h5 h6 hr
  exact Es.nil ⟨Nat.le_of_ble_eq_true rfl,q⟩
 | blk hc ht =>
  rw [ht] at q
  refine E.ifeb true ?_ (fun _=>?_) ntf
  ·refine T.inD (x:=t.k) (ks:=closS) ?_
   refine E.loc (v:=.str t.k) (by walk_at"d") (vne rfl) ⟨rfl,?_⟩
   refine E.call0 (by walk_at"d") (KF.keepE G.hK (by kernel_rfl)) ?_
   exact C40 G ⟨rfl,hc,rfl⟩
  ·exact E.str q
end
end
section
set_option genSizeOf false
set_option genInjectivity false
set_option genInjectivity false
set_option genSizeOf false
noncomputable def pV (p:Nat × Nat):V:=.tup [.int (p.1:Int),.int (p.2:Int)]
section
variable {a b c:V} {vs:List V} {k:V→Prop}
theorem subT0 (q:k a):SubM (.tup (a::vs)) (.int 0) k:=⟨a,.tup (j:=0) (by decide) (by unfold seqIndex?; simp) rfl,q⟩
theorem subT1 (q:k b):SubM (.tup (a::b::vs)) (.int 1) k:=⟨b,.tup (j:=1) (by decide) (by unfold seqIndex?; simp; exact ar1 (.ilt .n1 (.a (.a .v0 .n1) .n1)) rfl) rfl,q⟩
theorem subT2 (q:k c):SubM (.tup (a::b::c::vs)) (.int 2) k:=⟨c,.tup (j:=2) (by decide) (by unfold seqIndex?; simp; exact ar1 (.ilt (.n 2) (.a (.a (.a .v0 .n1) .n1) .n1)) rfl) rfl,q⟩
theorem subL {i:Nat} (h:vs[i]?=some a) (hl:vs.length≤1000000) (q:k a):SubM (.lst vs) (.int (i:Int)) k:=by
 have hi:i < vs.length:=(List.getElem?_eq_some_iff.mp h).1
 refine ⟨a,.lst (j:=i) ⟨by omega,by exact R22 hi hl⟩ ?_ h,q⟩
 unfold seqIndex?
 have h0:¬ (i:Int) < 0:=by exact ar1 (.nt (.ilt .v0 .n0)) rfl
 simp [h0,hi]
end
theorem eqNI (a b:Nat):(((a:Int))==(b:Int))=(a==b):=by
 by_cases h:a=b
 ·subst h; simp
 ·have:¬ (a:Int)=(b:Int):=fun e=>h (Int.ofNat.inj e)
  rw [Qk h,Qk this]
noncomputable def toldB:List Stmt:=ifB (withB (bodyAt 44))
noncomputable abbrev LT (nv ov mv nd lv cv:V) (a:Addr):Loc:=[("nodes",nv),("origin",ov),("limit",mv),("told",.ref a),("node",nd),("line",lv),("column",cv)]
theorem told_turn {w:World} {g:Gx} (G:GG w g) {d n:Nat} {v:V} {t:TT} (h:NodeT n v t) {o lim:Nat × Nat} (rec:∀ vs,ND n vs t.ts→vs.length≤1000000→∀ H (Q:V→AH→Prop),Q (.lst (toldL o lim t.ts)) H→Call g (d+2) (.ref 713) [.lst vs,pV o,pV lim] H Q)
  {nv lv cv:V} {a:Addr} {us:List V} {H:AH} (hl:us.length≤1000000) {Q:R→Loc→AH→Prop} (q:∀ lv' cv',Q .next (LT nv (pV o) (pV lim) v lv' cv' a) ((a,.lst (us++tell1 o lim t.p t.k t.a (toldL o lim t.ts)))::H)) :
  Ss g Γ44 (d+2) toldB (LT nv (pV o) (pV lim) v lv cv a) ((a,.lst us)::H) Q:=by
 have hno:=h.no G
 have hv:v≠.unset:=hno.ne
 unfold LT at q ⊢
 refine Ss.consK ?_
 refine S.assignK ?_ (fun _=>rfl)
 refine E.lin t (E.loc (v:=v) (by walk_at"d") hv ⟨hno,?_⟩)
 repeat walk_at"g"
 refine Ss.consK ?_
 refine S.assignK ?_ (fun _=>rfl)
 refine E.clm t (E.loc (v:=v) (by walk_at"d") hv ⟨hno,?_⟩)
 repeat walk_at"g"
 refine Ss.consK ?_
 refine S.ifb (plt t.p lim) ?_ (fun hp=>?_) (fun hp=>?_)
 ·refine T.or2b (decide (t.p.1 < lim.1)) ?_ (fun h1=>?_) (fun h1=>?_)
  ·walk_at"B"
   refine subT0 ?_
   walk_at"B"
   exact ⟨rfl,rfl⟩
  ·exact ⟨by unfold plt; rw [h1]; rfl,rfl⟩
  ·refine T.and2b (t.p.1==lim.1) ?_ (fun h2=>?_) (fun h2=>?_)
   ·walk_at"B"
    refine subT0 ?_
    walk_at"B"
    exact ⟨eqNI _ _,rfl⟩
   ·exact ⟨by unfold plt; rw [h1,h2]; rfl,rfl⟩
   ·walk_at"B"
    refine subT1 ?_
    walk_at"B"
    exact ⟨by unfold plt; rw [h1,h2]; rfl,rfl⟩
 ·have q:∀ lv' cv',Q .next (LT nv (pV o) (pV lim) v lv' cv' a) ((a,.lst (us++[nodeV o t.p t.k t.a (toldL o lim t.ts)]))::H):=fun x y=>by have:=q x y; unfold tell1 at this; rw [if_pos hp] at this; exact this
  unfold LT at q
  refine Ss.consK ?_
  refine S.to [("nodes",nv),("origin",pV o),("limit",pV lim),("told",.ref a),("node",v),("line",.int (t.p.1:Int)),("column",.int (if t.p.1=o.1 then (t.p.2:Int) - (o.2:Int)+1 else (t.p.2:Int)))] ((a,.lst us)::H) (S.ifb (t.p.1==o.1) ?_ (fun h1=>?_) (fun h1=>?_)) ?_
  ·walk_at"B"
   refine subT0 ?_
   walk_at"B"
   exact ⟨eqNI _ _,rfl⟩
  ·rw [if_pos (eq_of_beq h1)]
   walk_at"B"
   refine subT1 ?_
   walk_at"B"
   exact ⟨rfl,rfl,rfl⟩
  ·rw [if_neg (ne_of_beq_false h1)]
   walk_at"B"
   exact ⟨rfl,rfl,rfl⟩
  generalize hcv:(if t.p.1=o.1 then (t.p.2:Int) - (o.2:Int)+1 else (t.p.2:Int))=cc
  walk_at"B"
  refine E.appendH (by walk_at"d") hl ?_
  walk_at"B"
  refine E.typ t (E.loc (v:=v) (by walk_at"d") hv ⟨hno,?_⟩)
  walk_at"B"
  refine (C43 G (d:=d) h ?_)
  walk_at"B"
  refine subT0 ?_
  walk_at"B"
  refine (C42 G (d:=d) h fun ws hnd hws=>?_)
  walk_at"B"
  refine rec ws hnd hws _ _ ?_
  walk_at"B"
  refine ⟨rfl,?_⟩
  walk_at"B"
  have q:=q (.int (t.p.1:Int)) (.int cc)
  unfold nodeV shV at q
  rw [hcv] at q
  exact q
 ·walk_at"B"
  have q:=q (.int (t.p.1:Int)) (.int (t.p.2:Int))
  unfold tell1 at q
  rw [if_neg (nf hp),List.append_nil] at q
  exact q
inductive JTd (n:Nat) (o lim:Nat × Nat) (vs FIN:List V) (nv:V) (a:Addr) (H:AH):List V→Loc→AH→Prop
 | mk {rest us:List V} {rt:List TT} {nd lv cv:V} (hr:NodesT n rest rt) (hf:us++toldL o lim rt=FIN) (hl:us.length+rest.length≤1000000) (hv:rest≠[]→vs≠[]):JTd n o lim vs FIN nv a H rest (LT nv (pV o) (pV lim) nd lv cv a) ((a,.lst us)::H)
inductive PTd (o lim:Nat × Nat) (FIN:List V) (nv:V) (a:Addr) (H:AH):R→Loc→AH→Prop
 | mk {nd lv cv:V}:PTd o lim FIN nv a H .next (LT nv (pV o) (pV lim) nd lv cv a) ((a,.lst FIN)::H)
theorem tell1_len (o lim p:Nat × Nat) (k:List Nat) (a:V) (us:List V):(tell1 o lim p k a us).length≤1:=by
 unfold tell1; split <;> simp
theorem told_def {w:World} {g:Gx} (G:GG w g) {d n:Nat} {vs:List V} {ts:List TT} (hn:NodesT n vs ts) (hl:vs.length≤1000000) {o lim:Nat × Nat}
  (rec:vs≠[]→∀ ws us,ND n ws us→ws.length≤1000000→∀ H (Q:V→AH→Prop),Q (.lst (toldL o lim us)) H→Call g (d+2) (.ref 713) [.lst ws,pV o,pV lim] H Q)
  {H:AH} {Q:V→AH→Prop} (q:Q (.lst (toldL o lim ts)) H):Call g (d+3) (.ref 713) [.lst vs,pV o,pV lim] H Q:=by
 refine Call.def_ (dv:=[]) (D44 G) rfl ⟨rfl,nmm⟩ ?_
 walk_at"n"
 refine Ss.consK ?_
 refine S.assignK ?_ (fun _=>rfl)
 refine E.lstA ?_
 refine Es.nil ?_
 refine ⟨by simp,fun a=>?_⟩
 repeat walk_at"g"
 refine Ss.consK ?_
 refine S.mono (Q:=PTd o lim (toldL o lim ts) (.lst vs) a H) (S.for_ ?_) ?_
 ·walk_at"B"
  refine ⟨vs,rfl,JTd n o lim vs (toldL o lim ts) (.lst vs) a H,.mk hn rfl (by simpa using hl) id,?_,?_⟩
  ·intro v rest lo' H' J
   generalize hr:v::rest=vr at J
   induction J with
   | @mk us rt nd lv cv h1 h2 h3 h4 =>
   subst hr
   refine h1.consI fun t rt' e h5 h6=>?_
   subst e
   rw [toldL_cons,← Qf] at h2
   have hlen:=tell1_len o lim t.p t.k t.a (toldL o lim t.ts)
   unfold LT
   repeat walk_at"g"
   refine told_turn G h5 (fun ws hnd hws H Q q=>rec (h4 (Qt _ _)) ws _ hnd hws H Q q) (by simp at h3; exact ar2 (.im (.le (.a .v0 (.a .v1 .n1)) (.n 1000000)) (.le .v0 (.n 1000000))) rfl h3) fun lv' cv'=>?_
   exact .mk h6 h2 (by simp only [List.length_append]; simp at h3; exact ar3 (.im (.le (.a .v0 (.a .v2 .n1)) (.n 1000000)) (.im (.le .v1 .n1) (.le (.a (.a .v0 .v1) .v2) (.n 1000000)))) rfl h3 hlen) fun _=>h4 (List.cons_ne_nil _ _)
  ·intro lo' H' J
   generalize hr:[]=vr at J
   induction J with
   | @mk us rt nd lv cv h1 h2 h3 h4 =>
   rw [← hr] at h1
   rw [List.length_eq_zero_iff.mp h1.len.symm,show toldL o lim []=[] from rfl,List.append_nil] at h2
   rw [h2]
   exact Ss.nil .mk
 ·intro r lo' H' P
  induction P with
  | @mk nd lv cv =>
  try dsimp only
  refine Ss.freezeH ?_
  walk_at"j"
  walk_at"B"
  exact q
theorem C44 {w:World} {g:Gx} (G:GG w g) (n:Nat):∀ (vs:List V) (ts:List TT),ND n vs ts→vs.length≤1000000→∀ (o lim:Nat × Nat) (H:AH) (Q:V→AH→Prop),Q (.lst (toldL o lim ts)) H→Call g (n+3) (.ref 713) [.lst vs,pV o,pV lim] H Q:=by
 induction n with
 | zero =>
  intro vs ts h hl o lim H Q q
  have e1:=h.1
  have e2:=h.2
  subst e1; subst e2
  exact told_def G (n:=0) .nil hl (fun h=>absurd rfl h) q
 | succ n ih =>
  intro vs ts h hl o lim H Q q
  exact told_def G (n:=n) (d:=n+1) h hl (fun _ ws us hnd hws H Q q=>ih ws us hnd hws o lim H Q q) q
end
section
set_option genSizeOf false
set_option genInjectivity false
theorem eqvII (a b c e:Int):PyData.eqv (pd (.tup [.int a,.int b])) (pd (.tup [.int c,.int e]))=(a==c&&b==e):=by
 show PyData.eqv (.tuple [.int a,.int b]) (.tuple [.int c,.int e])=_
 simp [PyData.eqv,PyData.eqvAll]
theorem eqvP (p:Nat × Nat) (a b:Int):PyData.eqv (pd (pV p)) (pd (.tup [.int a,.int b]))=decide ((p.1:Int)=a∧(p.2:Int)=b):=by
 unfold pV
 rw [eqvII]
 by_cases h1:(p.1:Int)=a
 ·by_cases h2:(p.2:Int)=b
  ·rw [h1,h2]; simp
  ·rw [Qk h2]; simp [h2]
 ·rw [Qk h1]; simp [h1]
theorem eqvPP (p c:Nat × Nat):PyData.eqv (pd (.tup [.int (p.1:Int),.int (p.2:Int)])) (pd (pV c))=decide (p=c):=by
 show PyData.eqv (pd (pV p)) _=_
 rw [show pV c=.tup [.int (c.1:Int),.int (c.2:Int)] from rfl,eqvP]
 refine decide_eq_decide.mpr ⟨fun h=>Prod.ext (Int.ofNat.inj h.1) (Int.ofNat.inj h.2),fun h=>by rw [h]; exact ⟨rfl,rfl⟩⟩
theorem NodesT.last {n:Nat} {vs:List V} {ts:List TT} (h:NodesT n vs ts) (hne:ts≠[]):∃ ws v us t,vs=ws++[v]∧ts=us++[t]∧NodeT n v t:=by
 induction ts generalizing vs with
 | nil=>exact absurd rfl hne
 | cons t ts ih =>
  cases h with
  | cons h1 h2 =>
   cases ts with
   | nil=>cases h2; exact ⟨[],_,[],t,rfl,rfl,h1⟩
   | cons u us =>
    obtain ⟨ws,v,us',t',e1,e2,h⟩:=ih h2 (Qt _ _)
    exact ⟨_::ws,v,t::us',t',by rw [e1]; rfl,by rw [e2]; rfl,h⟩
theorem subLast {vs:List V} {v:V} {k:V→Prop} (hl:(vs++[v]).length≤1000000) (q:k v):SubM (.lst (vs++[v])) (.int (-1)) k:=by
 refine ⟨v,.lst (j:=vs.length) ⟨by decide,by decide⟩ ?_ (by simp),q⟩
 unfold seqIndex?
 simp
 omega
theorem lt62' {n:Nat} (h:n≤1000000):n < 2 ^ 62:=by exact R60 h
theorem NodesT.isE {n:Nat} {vs:List V} {ts:List TT} (h:NodesT n vs ts):vs.isEmpty=ts.isEmpty:=by cases h <;> rfl
theorem unc_def {w:World} {g:Gx} (G:GG w g) {d n:Nat} {v:V} {t:TT} (hN:NodeT n v t) {c:Nat × Nat}
  (rec:∀ m,n=m+1→∀ x u,NodeT m x u→∀ H (Q:V→AH→Prop),Q (.bool (uncT c u)) H→Call g (d+2) (.ref 727) [x,pV c] H Q) {H:AH} {Q:V→AH→Prop} (q:Q (.bool (uncT c t)) H):Call g (d+3) (.ref 727) [v,pV c] H Q:=by
 have hno:=hN.no G
 have hv:v≠.unset:=hno.ne
 refine Call.def_ (dv:=[]) (D46 G) rfl ⟨rfl,nmm⟩ ?_
 walk_at"n"
 refine Ss.consK ?_
 walk_at"B"
 refine C42 G (d:=d) hN fun ws hnd hws=>?_
 walk_at"B"
 refine S.ifb ws.isEmpty ?_ (fun hq=>?_) (fun hq=>?_)
 ·walk_at"B"
  exact ⟨_,.lst (lt62' hws),by rw [Bool.not_not],rfl⟩
 ·have e:t.ts=[]:=by
   cases n with
   | zero=>exact hnd.2
   | succ m =>
    have hnd:NodesT m ws t.ts:=hnd
    rw [hnd.isE] at hq
    exact List.isEmpty_iff.mp hq
  walk_at"B"
  rw [uncT_mk,e] at q
  exact q
 cases n with
 | zero =>
  have hnd:ws=[]∧t.ts=[]:=hnd
  rw [hnd.1] at hq; cases hq
 | succ m =>
 have hnd:NodesT m ws t.ts:=hnd
 have hne:t.ts≠[]:=fun e=>by rw [hnd.isE,e] at hq; cases hq
 refine x43 (hnd.last hne) fun rv x ru u e1 e2 hu=>?_
 have hxo:=hu.no G
 subst e1
 rw [uncT_mk,e2,uncL_last] at q
 have q:Q (.bool (decide (u.p=c)||uncT c u)) H:=q
 walk_at"B"
 refine E.or2b (decide (u.p=c)) ?_ (fun hc=>?_) (fun hc=>?_)
 ·walk_at"B"
  refine E.lin u ?_
  walk_at"B"
  refine subLast hws ⟨hxo,?_⟩
  walk_at"B"
  refine E.clm u ?_
  walk_at"B"
  refine subLast hws ⟨hxo,?_⟩
  walk_at"B"
  exact ⟨congrArg V.bool (eqvPP _ _),rfl⟩
 ·rw [hc] at q; exact q
 ·rw [hc] at q
  walk_at"B"
  refine subLast hws ?_
  walk_at"B"
  exact rec m rfl x u hu _ _ q
theorem C46 {w:World} {g:Gx} (G:GG w g) (n:Nat):∀ (v:V) (t:TT),NodeT n v t→∀ (c:Nat × Nat) (H:AH) (Q:V→AH→Prop),Q (.bool (uncT c t)) H→Call g (n+3) (.ref 727) [v,pV c] H Q:=by
 induction n with
 | zero=>intro v t h c H Q q; exact unc_def G h (fun m e=>nomatch e) q
 | succ n ih =>
  intro v t h c H Q q
  exact unc_def G (d:=n+1) h (fun m e x u hu H Q q=>by cases e; exact ih x u hu c H Q q) q
noncomputable def fI (a b:Int):List (Nat × Nat)→Nat→Int
 | [],_=>-1
 | p::r,k=>if (p.1:Int)=a∧(p.2:Int)=b then (k:Int) else fI a b r (k+1)
noncomputable def rgV (k n:Nat):List V:=(List.range' k n).map fun i=>V.int (i:Nat)
theorem rgV_s (k n:Nat):rgV k (n+1)=.int (k:Int)::rgV (k+1) n:=by unfold rgV; rw [List.range'_succ]; rfl
inductive JFi (ps:List (Nat × Nat)) (a b:Int) (H:AH):List V→Loc→AH→Prop
 | mk (k:Nat) (r:List (Nat × Nat)) (u:V) (hr:ps.drop k=r) (hf:fI a b r k=fI a b ps 0):JFi ps a b H (rgV k r.length) [("places",.lst (ps.map pV)),("place",.tup [.int a,.int b]),("k",u)] H
inductive PFi (ps:List (Nat × Nat)) (a b:Int) (H:AH):R→Loc→AH→Prop
 | next {lo:Loc} (h:fI a b ps 0=-1):PFi ps a b H .next lo H
 | ret {lo:Loc}:PFi ps a b H (.ret (.int (fI a b ps 0))) lo H
theorem drop_get {α:Type} {s:List α} {i:Nat} {x:α} {t:List α} (h:s.drop i=x::t):s[i]?=some x∧s.drop (i+1)=t:=by
 have h1:(s.drop i)[0]?=some x:=by rw [h]; rfl
 rw [List.getElem?_drop] at h1
 exact ⟨h1,by rw [← Qe,h]; rfl⟩
theorem C47 {w:World} {g:Gx} (G:GG w g) {ps:List (Nat × Nat)} {a b:Int} {H:AH} {Q:V→AH→Prop} (hl:ps.length≤1000) (q:Q (.int (fI a b ps 0)) H):Call g 2 (.ref 734) [.lst (ps.map pV),.tup [.int a,.int b]] H Q:=by
 refine Call.def_ (dv:=[]) (D47 G) rfl ⟨rfl,nmm⟩ ?_
 walk_at"n"
 have hlm:(ps.map pV).length≤1000000:=by rw [List.length_map]; exact R1 hl
 refine Ss.consK ?_
 refine S.mono (Q:=PFi ps a b H) (S.for_ ?_) ?_
 ·walk_at"B"
  refine CB.len_lst (lt62' hlm) ?_
  walk_at"B"
  refine CB.range ?_
  refine ⟨_,items_range (n:=(ps.map pV).length) (by rw [List.length_map]; exact hl),JFi ps a b H,?_,?_,?_⟩
  ·rw [List.length_map]; exact .mk 0 ps _ rfl rfl
  ·intro v rest lo' H' J
   generalize hvr:v::rest=vr at J
   induction J with
   | mk k r u hr hf =>
   cases r with
   | nil=>cases hvr
   | cons p r =>
   rw [Qb,rgV_s] at hvr
   refine x02 (List.cons.inj hvr) fun zz0 zz1=>?_
   subst zz0
   subst zz1
   refine x02 (drop_get hr) fun hg hd=>?_
   have hgm:(ps.map pV)[k]?=some (pV p):=by rw [List.getElem?_map,hg]; rfl
   repeat walk_at"g"
   refine Ss.consK ?_
   refine S.ifb (decide ((p.1:Int)=a∧(p.2:Int)=b)) ?_ (fun hq=>?_) (fun hq=>?_)
   ·walk_at"B"
    refine subL hgm hlm ?_
    walk_at"B"
    exact ⟨eqvP _ _ _,rfl⟩
   ·walk_at"B"
    have e:fI a b ps 0=(k:Int):=by
     rw [← hf]; unfold fI; rw [if_pos (Qh hq)]
    rw [← e]
    exact .ret
   ·walk_at"B"
    refine .mk (k+1) r _ hd ?_
    rw [← hf]
    show _=if _ then _ else _
    rw [if_neg (of_decide_eq_false hq)]
  ·intro lo' H' J
   generalize hvr:[]=vr at J
   induction J with
   | mk k r u hr hf =>
   cases r with
   | cons p r=>rw [Qb,rgV_s] at hvr; cases hvr
   | nil =>
   exact Ss.nil (.next hf.symm)
 ·intro r lo' H' P
  induction P with
  | next h =>
   try dsimp only
   walk_at"B"
   rw [h] at q; exact q
  | ret=>exact q
end
noncomputable def mend:Bool→List Nat→List Nat
 | _,[]=>[]
 | b,c::t=>if c==0 then 65533::mend false t else if c==13||c==12 then 10::mend (c==13) t else if c != 10||!b then c::mend false t else mend false t
theorem repl_one (a b:Nat):∀ s:List Nat,repl [a] [b] s=s.map fun c=>if c=a then b else c
 | []=>repl_nil _ _
 | c::t=>by
  rw [repl_cons,List.map_cons]
  by_cases h:c=a
  ·subst h
   rw [if_pos (by simp),if_pos rfl]
   show [b]++repl [c] [b] t=_
   rw [repl_one c b t]; rfl
  ·rw [if_neg (by simpa using h),if_neg h,repl_one a b t]
theorem mend_true:∀ t:List Nat,t.head?≠some 10→mend true t=mend false t
 | [],_=>rfl
 | c::t,h=>by
  have h:c≠10:=fun e=>h (by rw [e]; rfl)
  have e:(c != 10)=true:=by simpa using h
  rw [mend,mend,e]; rfl
theorem norm_mend:∀ (n:Nat) (s:List Nat),s.length≤n→norm s=mend false s
 | _,[],_=>by unfold norm; simp only [repl_nil]; rfl
 | 0,_::_,h=>by simp at h
 | n+1,c::t,h=>by
  have ht:t.length≤n:=by simpa using h
  have ih:=norm_mend n t ht
  unfold norm at ih ⊢
  simp only [repl_one] at ih ⊢
  rw [List.map_cons]
  by_cases h0:c=0
  ·subst h0
   rw [if_pos rfl,repl_cons,if_neg (by simp),List.map_cons,List.map_cons,ih]
   rfl
  rw [if_neg h0]
  by_cases h13:c=13
  ·subst h13
   cases t with
   | nil =>
    rw [List.map_nil,repl_cons,if_neg (by simp),repl_nil]
    rfl
   | cons d u =>
    by_cases hd:d=10
    ·subst hd
     have ih2:=norm_mend n u (by simp at ht; exact R3 ht)
     unfold norm at ih2
     simp only [repl_one] at ih2
     rw [List.map_cons,repl_cons,if_pos (by rfl)]
     show List.map _ (List.map _ ([10]++repl [13,10] [10] (List.map _ u)))=_
     rw [List.map_append,List.map_append,ih2]
     rfl
    ·rw [repl_cons,if_neg (by
      rw [List.map_cons]
      show ¬ ([13,if d=0 then 65533 else d]:List Nat)=[13,10]
      intro e
      have:(if d=0 then 65533 else d)=10:=by simpa using e
      split at this <;> (first | exact ar 0 [] (.im (.eq (.n 65533) (.n 10)) .ff) rfl this | exact ar1 (.im (.eq .v0 (.n 10)) (.im (.nt (.eq .v0 (.n 10))) .ff)) rfl this hd)),List.map_cons,List.map_cons,ih]
     rw [show mend false (13::d::u)=10::mend true (d::u) from rfl,mend_true _ (by simpa using hd)]
     rfl
  ·rw [repl_cons,if_neg (by
    intro e
    have:=congrArg (List.head? ·) e
    simp at this
    exact h13 this),List.map_cons,List.map_cons,ih,if_neg h13,mend]
   have e0:(c==0)=false:=Qk h0
   have e13:(c==13)=false:=Qk h13
   rw [e0,e13]
   by_cases h12:c=12
   ·subst h12; rfl
   ·rw [if_neg h12]
    have e12:(c==12)=false:=Qk h12
    rw [e12]
    simp
theorem norm_eq (s:List Nat):norm s=mend false s:=norm_mend _ s (Qd _)
noncomputable def isNlc (c:Nat):Bool:=c==13||c==10||c==12
noncomputable def fixc (c:Nat):Nat:=if isNlc c then 10 else if c==0 then 65533 else c
theorem mend_keep {b:Bool} {c:Nat} (r:List Nat) (h:(c==10&&b)=false):mend b (c::r)=fixc c::mend (c==13) r:=by
 rw [mend]
 unfold fixc isNlc
 cases h0:c==0 with
 | true=>have:=eq_of_beq h0; subst this; rfl
 | false =>
 cases h13:c==13 with
 | true=>rfl
 | false =>
 cases h12:c==12 with
 | true=>cases c==10 <;> rfl
 | false =>
 cases h10:c==10 with
 | true =>
  rw [h10,Qo] at h
  have:=eq_of_beq h10
  subst this
  rw [h]; rfl
 | false=>rw [bne,h10]; rfl
theorem mend_drop (r:List Nat):mend true (10::r)=mend false r:=rfl
noncomputable def plcs (p:Nat × Nat):List Nat→List (Nat × Nat)
 | []=>[]
 | c::t=>p::plcs (mv p [c]) t
theorem plcs_len (p:Nat × Nat) (s:List Nat):(plcs p s).length=s.length:=by
 induction s generalizing p with
 | nil=>rfl
 | cons c t ih=>exact congrArg (·+1) (ih _)
theorem plcs_app (p:Nat × Nat) (s r:List Nat):plcs p (s++r)=plcs p s++plcs (mv p s) r:=by
 induction s generalizing p with
 | nil=>rfl
 | cons c t ih=>exact congrArg (p::·) (ih _)
section
set_option genSizeOf false
set_option genInjectivity false
noncomputable abbrev LMq (s m:List Nat) (a:Addr) (x y last sg:V):Loc:=[("text",.str s),("mended",.str m),("places",.ref a),("line",x),("column",y),("last",last),("sign",sg)]
noncomputable abbrev LM (s m:List Nat) (a:Addr) (last sg:V):Loc:=[("text",.str s),("mended",.str m),("places",.ref a),("line",.int ((mv (1,1) m).1:Int)),("column",.int ((mv (1,1) m).2:Int)),("last",last),("sign",sg)]
inductive JMe (s:List Nat) (a:Addr) (H:AH):List V→Loc→AH→Prop
 | mk {m r l:List Nat} {sg:V} (hm:m++mend (l==[13]) r=mend false s) (hl:m.length+r.length≤600):JMe s a H (r.map fun c=>V.str [c]) (LM s m a (.str l) sg) ((a,.lst ((plcs (1,1) m).map pV))::H)
inductive PMe (s:List Nat) (a:Addr) (H:AH):R→Loc→AH→Prop
 | mk {l:List Nat} {sg:V}:PMe s a H .next (LM s (mend false s) a (.str l) sg) ((a,.lst ((plcs (1,1) (mend false s)).map pV))::H)
theorem mend_turn {w:World} {g:Gx} (G:GG w g) {d:Nat} {s m r l:List Nat} {a:Addr} {c:Nat} {H:AH} (hm:m++mend (l==[13]) (c::r)=mend false s) (hl:m.length+(r.length+1)≤600) {Q:R→Loc→AH→Prop} (q:∀ m' l',m'++mend (l'==[13]) r=mend false s→m'.length+r.length≤600→Q .next (LM s m' a (.str l') (.str [c])) ((a,.lst ((plcs (1,1) m').map pV))::H)) :
  Ss g Γ41 d (ifB (withB (bodyAt 41))) (LM s m a (.str l) (.str [c])) ((a,.lst ((plcs (1,1) m).map pV))::H) Q:=by
 unfold LM
 have hpl:((plcs (1,1) m).map pV).length≤1000000:=by rw [List.length_map,plcs_len]; exact ar2 (.im (.le (.a .v0 (.a .v1 .n1)) (.n 600)) (.le .v0 (.n 1000000))) rfl hl
 have hz:m.length+1≤sizeLine:=by rw [sizeLine_eq]; exact ar2 (.im (.le (.a .v0 (.a .v1 .n1)) (.n 600)) (.le (.a .v0 .n1) (.n 16777216))) rfl hl
 have happ:∀ e,plcs (1,1) (m++[e])=plcs (1,1) m++[mv (1,1) m]:=fun e=>plcs_app _ _ _
 have hmv:∀ e,mv (1,1) (m++[e])=mv (mv (1,1) m) [e]:=fun e=>mv_app _ _ _
 have q2:∀ e,m++[e]++mend (([c]:List Nat)==[13]) r=mend false s→∀ x y,x=.int ((mv (1,1) (m++[e])).1:Int)→y=.int ((mv (1,1) (m++[e])).2:Int)→Q .next [("text",.str s),("mended",.str (m++[e])),("places",.ref a),("line",x),("column",y),("last",.str [c]),("sign",.str [c])] ((a,.lst ((plcs (1,1) m).map pV++[pV (mv (1,1) m)]))::H):=fun e he x y hx hy=>by
  have:=q (m++[e]) [c] he (by simp; exact ar2 (.im (.le (.a .v0 (.a .v1 .n1)) (.n 600)) (.le (.a (.a .v0 .n1) .v1) (.n 600))) rfl hl)
  rw [happ,List.map_append] at this
  rw [hx,hy]
  exact this
 have q3:m++mend (([c]:List Nat)==[13]) r=mend false s→Q .next [("text",.str s),("mended",.str m),("places",.ref a),("line",.int ((mv (1,1) m).1:Int)),("column",.int ((mv (1,1) m).2:Int)),("last",.str [c]),("sign",.str [c])] ((a,.lst ((plcs (1,1) m).map pV))::H):=fun he=>q m [c] he (by exact ar2 (.im (.le (.a .v0 (.a .v1 .n1)) (.n 600)) (.le (.a .v0 .v1) (.n 600))) rfl hl)
 clear q happ
 generalize mv (1,1) m=lc at hmv q2 q3
 have e10:(Str.ofString "\n").cps.toList=[10]:=by decide +kernel
 refine Ss.consK ?_
 refine S.mono (Q:=fun r lo' H'=>r=.next∧∃ m' x y,lo'=LMq s m' a x y (.str l) (.str [c])∧Q .next (LMq s m' a x y (.str [c]) (.str [c])) H') (S.ifb (!(c==10&&l==[13])) ?_ (fun h=>?_) (fun h=>?_)) ?_
 ·refine T.notK ?_
  refine T.and2b (c==10) ?_ (fun h1=>?_) (fun h1=>?_)
  ·walk_at"B"
   rw [e10]
   exact ⟨beq_one _ _,rfl⟩
  ·rw [h1]; exact ⟨rfl,rfl⟩
  ·walk_at"B"
   rw [h1,show (Str.ofString "\r").cps.toList=[13] from by decide +kernel]
   exact ⟨by rw [Qo],rfl⟩
 ·rw [mend_keep r (by rw [Bool.not_eq_true'] at h; exact h),← beq_one] at hm
  rw [show m++fixc c::mend (([c]:List Nat)==[13]) r=m++[fixc c]++mend (([c]:List Nat)==[13]) r from by simp] at hm
  refine Ss.consK ?_
  walk_at"B"
  refine E.appendH (by walk_at"d") hpl ?_
  walk_at"B"
  refine ⟨rfl,?_⟩
  walk_at"B"
  refine S.ifb (isNlc c) ?_ (fun h1=>?_) (fun h1=>?_)
  ·walk_at"B"
   refine ⟨?_,rfl⟩
   rw [show (Str.ofString "\r\n\x0c").cps.toList=[13,10,12] from by decide +kernel,inStr_one]
   unfold isNlc
   show (c==13||(c==10||(c==12||false)))=_
   rw [Bool.or_false,Bool.or_assoc]
  ·have he:fixc c=10:=by unfold fixc; rw [if_pos h1]
   rw [he] at hm
   walk_at"B"
   rw [e10]
   refine bm3 ?_ hz
   walk_at"B"
   exact ⟨rfl,_,_,_,rfl,q2 10 hm _ _ (by rw [hmv]; rfl) (by rw [hmv]; rfl)⟩
  ·have hf:fixc c=if c==0 then 65533 else c:=by unfold fixc; rw [if_neg (nf h1)]
   have hne:(fixc c==10)=false:=by
    rw [hf]
    cases h0:c==0 with
    | true=>rfl
    | false =>
     unfold isNlc at h1
     cases h10:c==10 with
     | false=>exact h10
     | true=>rw [h10] at h1; simp at h1
   have hc2:mv lc [fixc c]=(lc.1,lc.2+1):=by
    show (if fixc c==10 then _ else _)=_
    rw [if_neg (nf hne)]
   walk_at"B"
   refine E.to (.str [fixc c]) ?_ ?_
   ·rw [hf]
    refine E.ifeb (c==0) ?_ (fun h0=>?_) (fun h0=>?_)
    ·walk_at"B"
     rw [show (Str.ofString "\x00").cps.toList=[0] from by decide +kernel]
     exact ⟨beq_one _ _,rfl⟩
    ·walk_at"B"
     rw [if_pos h0,show (Str.ofString "�").cps.toList=[65533] from by decide +kernel]
     exact ⟨rfl,rfl⟩
    ·walk_at"B"
     rw [if_neg (nf h0)]
     exact ⟨rfl,rfl⟩
   refine bm3 ?_ hz
   walk_at"B"
   exact ⟨rfl,_,_,_,rfl,q2 _ hm _ _ (by rw [hmv,hc2]) (by rw [hmv,hc2])⟩
 ·rw [Bool.not_eq_false',Qc] at h
  have e:c=10:=eq_of_beq h.1
  subst e
  rw [h.2,mend_drop] at hm
  walk_at"B"
  exact ⟨rfl,_,_,_,rfl,q3 hm⟩
 ·rintro r lo' H' ⟨rfl,m',x,y,rfl,q⟩
  unfold LMq at q ⊢
  try dsimp only
  walk_at"B"
  exact q
theorem C41 {w:World} {g:Gx} (G:GG w g) {s:List Nat} {H:AH} {Q:V→AH→Prop} (hs:s.length≤600) (q:Q (.tup [.str (norm s),.lst ((plcs (1,1) (norm s)).map pV)]) H):Call g 1 (.ref 692) [.str s] H Q:=by
 refine Call.def_ (dv:=[]) (D41 G) rfl ⟨rfl,nmm⟩ ?_
 walk_at"n"
 refine Ss.consK ?_
 walk_at"B"
 refine E.lstA ?_
 refine Es.nil ?_
 refine ⟨by simp,fun a=>?_⟩
 walk_at"B"
 refine S.mono (Q:=PMe s a H) (S.for_ ?_) ?_
 ·walk_at"B"
  refine ⟨s.map fun c=>V.str [c],rfl,JMe s a H,?_,?_,?_⟩
  ·rw [show (Str.ofString "").cps.toList=[] from by decide +kernel]
   exact .mk (m:=[]) (l:=[]) rfl (by simpa using hs)
  ·intro v rest lo' H' J
   generalize hvr:v::rest=vr at J
   induction J with
   | @mk m r l sg hm hl =>
   cases r with
   | nil=>cases hvr
   | cons c r =>
   refine x02 (List.cons.inj hvr) fun zz0 zz1=>?_
   subst zz0
   subst zz1
   unfold LM
   repeat walk_at"g"
   exact mend_turn G hm (by simpa using hl) fun m' l' h1 h2=>.mk h1 h2
  ·intro lo' H' J
   generalize hvr:[]=vr at J
   induction J with
   | @mk m r l sg hm hl =>
   cases r with
   | cons c r=>cases hvr
   | nil =>
   have hm:m++[]=mend false s:=by rw [← hm]; cases l==[13] <;> rfl
   rw [List.append_nil] at hm
   subst hm
   exact Ss.nil .mk
 ·intro r lo' H' P
  induction P with
  | mk =>
  rw [norm_eq] at q
  unfold LM
  try dsimp only
  refine Ss.freezeH ?_
  walk_at"j"
  walk_at"B"
  exact q
noncomputable def okT (t:TT):Bool:=TT.rec (motive_1:=fun _=>Bool) (motive_2:=fun _=>Bool) (fun _ k a _ b=>isD 8 a&&(isD 8 (.str k)&&b)) true (fun _ _ x y=>x&&y) t
noncomputable def okL (ts:List TT):Bool:=TT.rec_1 (motive_1:=fun _=>Bool) (motive_2:=fun _=>Bool) (fun _ k a _ b=>isD 8 a&&(isD 8 (.str k)&&b)) true (fun _ _ x y=>x&&y) ts
theorem okT_eq (t:TT):okT t=(isD 8 t.a&&(isD 8 (.str t.k)&&okL t.ts)):=by cases t; rfl
theorem okL_cons (t:TT) (r:List TT):okL (t::r)=(okT t&&okL r):=by cases t; rfl
theorem isD_str {n m:Nat} {s:List Nat} (h:isD n (.str s)=true):isD m (.str s)=true:=by
 cases n <;> cases m <;> exact h
theorem isDs_mono {f f':List V→Bool} (h:∀ vs,f vs=true→f' vs=true) (v:V):isDs f v=true→isDs f' v=true :=
 V.casesOn (motive_1:=fun v=>isDs f v=true→isDs f' v=true) v (fun h=>absurd h bn) (fun _=>rfl) (fun _ _=>rfl) (fun _ _=>rfl) (fun _ h=>h) h h (fun _ _ h=>absurd h bn) (fun _ h=>absurd h bn) (fun _ h=>absurd h bn) (fun _ _ _ h=>absurd h bn) (fun _ h=>absurd h bn)
theorem isD_succ (n:Nat):∀ v,isD n v=true→isD (n+1) v=true:=by
 induction n with
 | zero=>exact isDs_mono fun _ h=>absurd h bn
 | succ n ih=>exact isDs_mono fun vs h=>List.all_eq_true.mpr fun v hv=>ih v (Qr h v hv)
theorem isD_le {n m:Nat} (h:n≤m) (v:V) (e:isD n v=true):isD m v=true:=by
 induction h with
 | refl=>exact e
 | step _ ih=>exact isD_succ _ v ih
theorem isD_two {n:Nat} {a b:V} (h:isD 0 a=true) (h':isD 0 b=true):isD (n+1) (.tup [a,b])=true:=by
 show List.all [a,b] (isD n)=true
 rw [List.all_cons,List.all_cons,isD_le (Nat.zero_le _) _ h,isD_le (Nat.zero_le _) _ h']
 rfl
noncomputable def bareV:List V:=[.tup [.str (lit "literal"),.str (lit "\\")],.tup [.str (lit "error"),.str (lit "bad-string")]]
theorem isD_bare:isD 64 (.lst bareV)=true:=by
 show List.all bareV (isD 63)=true
 unfold bareV
 rw [List.all_cons,List.all_cons,isD_two (by show (lit _).all (· < 0x110000)=true; decide +kernel) (by show (lit _).all (· < 0x110000)=true; decide +kernel),isD_two (by show (lit _).all (· < 0x110000)=true; decide +kernel) (by show (lit _).all (· < 0x110000)=true; decide +kernel)]
 rfl
noncomputable def bareB (t:TT):Bool:=(pds bareV).any fun y=>PyData.eqv y (pd (.tup [.str t.k,t.a]))
theorem bareB_no {t:TT} (h:bareB t=false):¬ (t.k=lit "literal"∧t.a=.str [92])∧¬ (t.k=lit "error"∧t.a=.str (lit "bad-string")):=by
 have e:∀ x y:String,isD 64 (.tup [.str (lit x),.str (lit y)])=true→pd (.tup [.str (lit x),.str (lit y)])∈pds bareV→¬ (t.k=lit x∧t.a=.str (lit y)):=fun x y hd hm hq=>by
  unfold bareB at h
  rw [hq.1,hq.2] at h
  exact absurd (PySem.SeqAt.eqv_refl _ (isD_lay 64 _ hd).1) (List.any_eq_false.mp h _ hm)
 have h92:[92]=lit "\\":=by decide +kernel
 have hm1:pd (.tup [.str (lit "literal"),.str (lit "\\")])∈pds bareV:=.head _
 have hm2:pd (.tup [.str (lit "error"),.str (lit "bad-string")])∈pds bareV:=.tail _ (.head _)
 refine ⟨fun hq=>e _ _ ?_ hm1 (h92 ▸ hq),e _ _ ?_ hm2⟩
 ·exact isD_two (by show (lit _).all (· < 0x110000)=true; decide +kernel) (by show (lit _).all (· < 0x110000)=true; decide +kernel)
 ·exact isD_two (by show (lit _).all (· < 0x110000)=true; decide +kernel) (by show (lit _).all (· < 0x110000)=true; decide +kernel)
noncomputable def lvV (vs:List V) (k:Nat):V:=.tup [.lst vs,.int (k:Int)]
inductive LvR (M:Nat):List V→List (List TT × Nat)→Prop
 | nil:LvR M [] []
 | cons {n k:Nat} {vs:List V} {ts:List TT} {r:List V} {lv:List (List TT × Nat)} (h:NodesT n vs ts) (hn:n≤M) (hk:k < ts.length) (hl:vs.length≤1000) (t:LvR M r lv):LvR M (lvV vs k::r) ((ts,k)::lv)
theorem LvR.append {M:Nat} {r r':List V} {lv lv':List (List TT × Nat)} (h:LvR M r lv) (h':LvR M r' lv'):LvR M (r++r') (lv++lv'):=by
 induction h with
 | nil=>exact h'
 | cons a b c d _ ih=>exact .cons a b c d ih
noncomputable def CutsR (M:Nat) (ts:List TT) (c:Nat) (A cs:List V):Prop:=∀ x∈cs,∃ LV lv,x=.lst (LV++A)∧(LV++A).length≤1000∧LvR M LV lv∧CutIn ts c lv
noncomputable def cutsB:List Stmt:=ifB (withB (bodyAt 45))
noncomputable abbrev LC (nv av cv uv kv nd iv bv ev:V):Loc:=[("nodes",nv),("around",av),("close",cv),("cuts",uv),("k",kv),("node",nd),("inner",iv),("bare",bv),("near",ev)]
theorem ND.emp {n:Nat} {ws:List V} {ts:List TT} (h:ND n ws ts) (e:(!ws.isEmpty)=false):false=isW ts:=by
 cases n with
 | zero=>rw [h.2]; rfl
 | succ n =>
  have h:NodesT n ws ts:=h
  cases h with
  | nil=>rfl
  | cons=>cases e
theorem ND.hd {P:Prop} {n:Nat} {ws:List V} {ts:List TT} (h:ND n ws ts) (e:(!ws.isEmpty)=true) (q:∀ x m u,ws[0]?=some x→NodeT m x u→(u.k==lit "whitespace")=isW ts→P):P:=by
 cases n with
 | zero=>rw [h.1] at e; cases e
 | succ n =>
  have h:NodesT n ws ts:=h
  cases h with
  | nil=>cases e
  | cons a b=>exact q _ _ _ rfl a rfl
theorem fnF (x:String) (h:(lit x==lit "function")=false) (k:(lit x==lit "function")=true):False:=by rw [h] at k; cases k
theorem NodeT.fnO {w:World} {g:Gx} (G:GG w g) {n:Nat} {v:V} {t:TT} (h:NodeT n v t) (hk:(t.k==lit "function")=true):∃ C vs i x,v=.obj C vs∧slotAt g.K C "lower_name"=some i∧vs[i]?=some (.str (x.map low))∧t.a=.str x:=by
 induction h using NodeT.casesOn with
 | func a b=>exact ⟨_,_,_,_,rfl,G.hK.slot 60 rfl,rfl,rfl⟩
 | _=>exact (fnF _ (by decide +kernel) hk).elim
theorem NodesT.get {n:Nat} {vs:List V} {ts:List TT} (h:NodesT n vs ts) {k:Nat} (hk:k < ts.length):∃ v t,vs[k]?=some v∧ts[k]?=some t∧NodeT n v t:=by
 induction ts generalizing vs k with
 | nil=>cases hk
 | cons t ts ih =>
  cases h with
  | cons h1 h2 =>
   cases k with
   | zero=>exact ⟨_,_,rfl,rfl,h1⟩
   | succ k=>exact ih h2 (Nat.lt_of_succ_lt_succ hk)
theorem okL_get {ts:List TT} (h:okL ts=true) {k:Nat} {t:TT} (e:ts[k]?=some t):okT t=true:=by
 induction ts generalizing k with
 | nil=>cases e
 | cons u ts ih =>
  rw [okL_cons,Qc] at h
  cases k with
  | zero=>cases e; exact h.1
  | succ k=>exact ih h.2 e
set_option maxHeartbeats 4000000 in
theorem cuts_turn {w:World} {g:Gx} (G:GG w g) {d n M k c:Nat} {vs A cs:List V} {ts:List TT} {v:V} {t:TT} {nd iv bv ev:V} {a:Addr} {H:AH} {Q:R→Loc→AH→Prop} (hN:NodesT n vs ts) (hM:n≤M) (hvl:vs.length≤1000) (hok:okL ts=true) (hA:A.length≤900) (hv:vs[k]?=some v) (ht:ts[k]?=some t) (hT:NodeT n v t)
  (rec:∀ ws us,ND n ws us→∀ (e:Nat) (B:List V),B.length≤A.length+1→okL us=true→szL us≤szL t.ts→∀ H (Q:V→AH→Prop),(∀ cs,CutsR M us e B cs→cs.length≤szL us→Q (.lst cs) H)→Call g (d+2) (.ref 720) [.lst ws,.lst B,.int (e:Int)] H Q)
  (hcl:cs.length+szL t.ts+1≤1000000) (hcs:CutsR M ts c A cs)
  (q:∀ cs' b nd iv bv ev,CutsR M ts c A cs'→cs'.length≤cs.length+(szL t.ts+1)→(cs≠[]→cs'≠[])→(k=0→c=0→cs'≠[])→Q .next (LC (.lst vs) (.lst A) (.int (c:Int)) (.ref b) (.int (k:Int)) nd iv bv ev) ((b,.lst cs')::H)) :
  Ss g Γ45 (d+2) cutsB (LC (.lst vs) (.lst A) (.int (c:Int)) (.ref a) (.int (k:Int)) nd iv bv ev) ((a,.lst cs)::H) Q:=by
 have hno:=hT.no G
 have hvn:v≠.unset:=hno.ne
 have hvl6:vs.length≤1000000:=by exact R1 hvl
 have htsl:vs.length=ts.length:=hN.len
 have hkl:k < vs.length:=(List.getElem?_eq_some_iff.mp hv).1
 unfold LC at q ⊢
 refine Ss.consK ?_
 refine S.assignK ?_ (fun _=>rfl)
 walk_at"B"
 refine subL hv hvl6 ?_
 walk_at"B"
 refine C42 G (d:=d) hT fun ws hnd hws=>?_
 walk_at"B"
 generalize hbE:(decide ((k:Int) > 0)&&((ts[k - 1]?.map bareB).getD false))=bb
 have hb0:k=0→bb=false:=fun e=>by subst e; exact hbE.symm
 have hb1:bb=false→BareOk ts k:=fun e u hk hu=>by
  rw [← hbE,hu,Qs (show (k:Int) > 0 by exact R13 hk),Qo] at e
  exact bareB_no e
 refine E.to (.bool bb) ?_ ?_
 ·refine E.and2b (decide ((k:Int) > 0)) ?_ (fun h1=>?_) (fun h1=>?_)
  ·walk_at"B"
   exact ⟨rfl,rfl⟩
  ·rw [h1] at hbE; exact ⟨congrArg V.bool hbE,rfl⟩
  ·rw [h1,Qo] at hbE
   have hk0:0 < k:=by have:=Qh h1; exact ar1 (.im (.ilt .n0 .v0) (.lt .n0 .v0)) rfl (Ar.t h1)
   refine x23 (hN.get (k:=k - 1) (by exact ar3 (.im (.lt .v0 .v2) (.im (.eq .v2 .v1) (.lt (.s .v0 .n1) .v1))) rfl hkl htsl)) fun x u hx hu hxu=>?_
   rw [hu] at hbE
   have hxo:=hxu.no G
   have hk1:(k:Int) - 1=((k - 1:Nat):Int):=by omega
   have hdu:=okL_get hok hu
   rw [okT_eq,Qc,Qc] at hdu
   refine E.inData ?_ (by intro _; with_unfolding_all rfl)
   walk_at"B"
   refine E.typ u ?_
   walk_at"B"
   rw [hk1]
   refine subL hx hvl6 ⟨hxo,?_⟩
   walk_at"B"
   rw [hk1]
   refine subL hx hvl6 ?_
   walk_at"B"
   refine C43 G (d:=d) hxu ?_
   walk_at"B"
   refine ⟨?_,?_⟩
   ·show List.all [V.str u.k,u.a] (isD 63)=true
    rw [List.all_cons,List.all_cons,isD_le (by decide) _ hdu.1,isD_le (by decide) _ hdu.2.1]
    rfl
   refine E.lst ?_
   walk_at"B"
   refine ⟨by decide,?_⟩
   exact ⟨bareV,rfl,isD_bare,congrArg V.bool hbE,rfl⟩
 clear hbE
 walk_at"B"
 -- the cut itself
 have hlv:LvR M [lvV vs k] [(ts,k)]:=.cons hN hM (by exact R61 hkl htsl) hvl .nil
 refine S.mono (Q:=fun r lo' H'=>r=.next∧∃ cs',lo'=LC (.lst vs) (.lst A) (.int (c:Int)) (.ref a) (.int (k:Int)) v (.lst ws) (.bool bb) ev∧H'=(a,.lst cs')::H∧CutsR M ts c A cs'∧cs'.length≤cs.length+1∧(cs≠[]→cs'≠[])∧(k=0→c=0→cs'≠[])) (S.ifb (decide (k ≥ c)&&!bb) ?_ (fun h=>?_) (fun h=>?_)) ?_
 ·refine T.and2b (decide (k ≥ c)) ?_ (fun h1=>?_) (fun h1=>?_)
  ·walk_at"B"
   exact ⟨rfl,rfl⟩
  ·rw [h1]; exact ⟨rfl,rfl⟩
  ·walk_at"B"
   rw [h1]; exact ⟨rfl,rfl⟩
 ·rw [Qc] at h
  have hck:=Qh h.1
  have hbf:bb=false:=by cases bb with | false=>rfl | true=>exact absurd h.2 (by decide)
  walk_at"B"
  refine E.appendH (by walk_at"d") (by exact ar2 (.im (.le (.a (.a .v0 .v1) .n1) (.n 1000000)) (.le .v0 (.n 1000000))) rfl hcl) ?_
  refine E.addL ?_
  refine E.lst ?_
  walk_at"B"
  refine ⟨by simp,_,rfl,?_⟩
  walk_at"B"
  refine ⟨_,rfl,by simp; exact R62 hA,rfl,?_⟩
  walk_at"B"
  refine ⟨rfl,_,rfl,rfl,fun x hx=>?_,by simp,fun _=>by simp,fun _ _=>by simp⟩
  rcases List.mem_append.mp hx with hx | hx
  ·exact hcs x hx
  ·rw [List.mem_singleton.mp hx]
   exact ⟨[lvV vs k],[(ts,k)],rfl,by simp; exact ar1 (.im (.le .v0 (.n 900)) (.le .v0 (.n 999))) rfl hA,hlv,.here (by exact R61 hkl htsl) hck (hb1 hbf)⟩
 ·walk_at"B"
  refine ⟨rfl,_,rfl,rfl,hcs,by exact R11,id,fun e1 e2=>?_⟩
  rw [hb0 e1,e1,e2] at h
  exact absurd h (by decide)
 ·rintro r lo' H' ⟨rfl,cs',rfl,rfl,hcs',hl',hn1,hn2⟩
  unfold LC
  try dsimp only
  walk_at"B"
  refine S.mono (Q:=fun r lo' H'=>r=.next∧lo'=LC (.lst vs) (.lst A) (.int (c:Int)) (.ref a) (.int (k:Int)) v (.lst ws) (.bool bb) (.int (near t:Int))∧H'=(a,.lst cs')::H) (S.ifb (t.k==lit "function"&&isUrlV t.a) ?_ (fun h=>?_) (fun h=>?_)) ?_
  ·refine T.and2b (t.k==lit "function") ?_ (fun h1=>?_) (fun h1=>?_)
   ·walk_at"B"
    refine E.typ t ?_
    walk_at"B"
    refine ⟨hno,?_⟩
    walk_at"B"
    exact ⟨rfl,rfl⟩
   ·rw [h1]; exact ⟨rfl,rfl⟩
   ·obtain ⟨C,os,i,x,rfl,hs,hi,ha⟩:=hT.fnO G h1
    walk_at"B"
    refine E.attrS ?_ (by walk_at"d") hs hi rfl
    walk_at"B"
    rw [h1,ha,show (Str.ofString "url").cps.toList=[117,114,108] from by decide +kernel]
    exact ⟨rfl,rfl⟩
  ·walk_at"B"
   refine E.to (.int (near t:Int)) ?_ ?_
   ·unfold near
    rw [if_pos h]
    refine E.ifeb (isW t.ts) ?_ (fun h1=>?_) (fun h1=>?_)
    ·refine T.and2b (!ws.isEmpty) ?_ (fun h1=>?_) (fun h1=>?_)
     ·walk_at"B"
      exact ⟨_,.lst (lt62' hws),rfl,rfl⟩
     ·exact ⟨hnd.emp h1,rfl⟩
     ·refine hnd.hd h1 fun x m u hx hu hw=>?_
      have huo:=hu.no G
      walk_at"B"
      refine E.typ u ?_
      walk_at"B"
      refine subL (i:=0) hx hws ⟨huo,?_⟩
      walk_at"B"
      exact ⟨hw,rfl⟩
    ·walk_at"B"
     rw [if_pos h1]
     exact ⟨rfl,rfl⟩
    ·walk_at"B"
     rw [if_neg (nf h1)]
     exact ⟨rfl,rfl⟩
   walk_at"B"
   exact ⟨rfl,rfl,rfl⟩
  ·walk_at"B"
   unfold near
   rw [if_neg (nf h)]
   exact ⟨rfl,rfl,rfl⟩
  ·rintro r lo' H' ⟨rfl,rfl,rfl⟩
   unfold LC
   try dsimp only
   refine Ss.consK (S.assignK ?_ (fun _=>rfl))
   refine E.addLive (a:=a) ?_
   walk_at"b"
   refine ⟨rfl,?_⟩
   walk_at"b"
   walk_at"b"
   walk_at"b"
   walk_at"b"
   refine E.addL ?_
   refine E.lst ?_
   walk_at"B"
   refine ⟨by simp,_,rfl,?_⟩
   walk_at"B"
   refine ⟨_,rfl,by simp; exact R62 hA,?_⟩
   walk_at"B"
   have htk:=okL_get hok ht
   rw [okT_eq,Qc,Qc] at htk
   refine rec ws t.ts hnd (near t) (lvV vs k::A) (by simp) htk.2.2 (Qd _) _ _ fun cs2 h2 hl2=>?_
   refine ⟨cs',cs2,rfl,.here,by exact ar4 (.im (.le (.a (.a .v2 .v3) .n1) (.n 1000000)) (.im (.le .v0 (.a .v2 .n1)) (.im (.le .v1 .v3) (.le (.a .v0 .v1) (.n 1000000))))) rfl hcl hl' hl2,fun b=>?_⟩
   refine pk3 ?_
   refine Ss.freeze (.there .here) (RpL.refl _) (.cons (.refl _) (RpH.refl _)) ?_
   refine Ss.nil ?_
   refine q (cs'++cs2) b _ _ _ _ (fun x hx=>?_) (by simp; exact ar4 (.im (.le .v0 (.a .v2 .n1)) (.im (.le .v1 .v3) (.le (.a .v0 .v1) (.a .v2 (.a .v3 .n1))))) rfl hl' hl2) (fun h=>?_) (fun h h'=>?_)
   ·rcases List.mem_append.mp hx with hx | hx
    ·exact hcs' x hx
    ·obtain ⟨LV,lv,rfl,hl3,h3,h4⟩:=h2 x hx
     exact ⟨LV++[lvV vs k],lv++[(ts,k)],by rw [Qf]; rfl,by rw [Qf]; exact hl3,h3.append hlv,.deep ht h4⟩
   ·intro e; exact hn1 h (Qv e).1
   ·intro e; exact hn2 h h' (Qv e).1
inductive JCu (M c:Nat) (vs A:List V) (ts:List TT) (H:AH):List V→Loc→AH→Prop
 | mk (k:Nat) {r cs:List V} {rt:List TT} {a:Addr} {u nd iv bv ev:V} (hr:vs.drop k=r) (ht:ts.drop k=rt) (hcs:CutsR M ts c A cs) (hl:cs.length+szL rt≤szL ts) (hn:0 < k→c=0→cs≠[]):JCu M c vs A ts H (rgV k r.length) (LC (.lst vs) (.lst A) (.int (c:Int)) (.ref a) u nd iv bv ev) ((a,.lst cs)::H)
inductive PCu (M c:Nat) (vs A:List V) (ts:List TT) (H:AH):R→Loc→AH→Prop
 | mk {cs:List V} {a:Addr} {u nd iv bv ev:V} (hcs:CutsR M ts c A cs) (hl:cs.length≤szL ts) (hn:ts≠[]→c=0→cs≠[]):PCu M c vs A ts H .next (LC (.lst vs) (.lst A) (.int (c:Int)) (.ref a) u nd iv bv ev) ((a,.lst cs)::H)
theorem szL_drop {ts:List TT} {k:Nat} {t:TT} (h:ts[k]?=some t):ts.drop k=t::ts.drop (k+1):=List.drop_eq_getElem?_toList_append.trans (by rw [h]; rfl)
theorem len_sz (ts:List TT):ts.length≤szL ts:=by
 induction ts with
 | nil=>exact Qd _
 | cons t r ih=>rw [szL_cons,Qb]; exact ar3 (.im (.le .v0 .v2) (.le (.a .v0 .n1) (.a (.a .v1 .n1) .v2))) rfl ih
theorem cuts_def {w:World} {g:Gx} (G:GG w g) {d n M:Nat} {vs:List V} {ts:List TT} (hN:NodesT n vs ts) (hM:n≤M) (hok:okL ts=true) (hsz:szL ts≤1000) {A:List V} {c:Nat} (hA:A.length+n≤900)
  (rec:vs≠[]→∀ ws us,ND n ws us→∀ (e:Nat) (B:List V),B.length≤A.length+1→okL us=true→szL us≤1000→∀ H (Q:V→AH→Prop),(∀ cs,CutsR M us e B cs→cs.length≤szL us→Q (.lst cs) H)→Call g (d+2) (.ref 720) [.lst ws,.lst B,.int (e:Int)] H Q)
  {H:AH} {Q:V→AH→Prop} (q:∀ cs,CutsR M ts c A cs→cs.length≤szL ts→(ts≠[]→c=0→cs≠[])→Q (.lst cs) H):Call g (d+3) (.ref 720) [.lst vs,.lst A,.int (c:Int)] H Q:=by
 have hlen:=hN.len
 have hls:=len_sz ts
 refine Call.def_ (dv:=[]) (D45 G) rfl ⟨rfl,nmm⟩ ?_
 walk_at"n"
 refine Ss.consK ?_
 refine S.assignK ?_ (fun _=>rfl)
 refine E.lstA ?_
 refine Es.nil ?_
 refine ⟨by simp,fun a=>?_⟩
 repeat walk_at"g"
 refine Ss.consK ?_
 refine S.mono (Q:=PCu M c vs A ts H) (S.for_ ?_) ?_
 ·walk_at"B"
  refine CB.len_lst (lt62' (by exact ar3 (.im (.eq .v0 .v1) (.im (.le .v2 (.n 1000)) (.im (.le .v1 .v2) (.le .v0 (.n 1000000))))) rfl hlen hsz hls)) ?_
  walk_at"B"
  refine CB.range ?_
  refine ⟨_,items_range (n:=vs.length) (by exact R63 hlen hsz hls),JCu M c vs A ts H,?_,?_,?_⟩
  ·exact .mk 0 rfl rfl (nmm) (by simp) (fun h=>absurd h (Nat.lt_irrefl _))
  ·intro v rest lo' H' J
   generalize hvr:v::rest=vr at J
   induction J with
   | @mk k r cs rt a u nd iv bv ev hr ht hcs hl hn =>
   cases r with
   | nil=>cases hvr
   | cons x r =>
   rw [Qb,rgV_s] at hvr
   refine x02 (List.cons.inj hvr) fun zz0 zz1=>?_
   subst zz0
   subst zz1
   refine x02 (drop_get hr) fun hg hd=>?_
   have hkl:k < ts.length:=by rw [← hlen]; exact (List.getElem?_eq_some_iff.mp hg).1
   refine x23 (hN.get hkl) fun x' t hx' ht' hxt=>?_
   rw [hg] at hx'
   cases hx'
   have hdt:=szL_drop ht'
   rw [ht] at hdt
   subst hdt
   rw [szL_cons] at hl
   repeat walk_at"g"
   refine cuts_turn G hN hM (by exact R63 hlen hsz hls) hok (by exact ar2 (.im (.le (.a .v0 .v1) (.n 900)) (.le .v0 (.n 900))) rfl hA) hg ht' hxt (fun ws us hnd e B hB hus hsu H Q q=>rec (fun e=>by rw [e] at hg; cases hg) ws us hnd e B hB hus (by exact ar5 (.im (.le (.a .v1 (.a (.a .v2 .n1) .v3)) .v4) (.im (.le .v4 (.n 1000)) (.im (.le .v0 .v2) (.le .v0 (.n 1000))))) rfl hl hsz hsu) H Q q) (by exact ar4 (.im (.le (.a .v0 (.a (.a .v1 .n1) .v2)) .v3) (.im (.le .v3 (.n 1000)) (.le (.a (.a .v0 .v1) .n1) (.n 1000000)))) rfl hl hsz) hcs fun cs' b nd iv bv ev h1 h2 h3 h4=>?_
   refine .mk (k+1) hd rfl h1 (by exact ar5 (.im (.le (.a .v3 (.a (.a .v4 .n1) .v1)) .v2) (.im (.le .v0 (.a .v3 (.a .v4 .n1))) (.le (.a .v0 .v1) .v2))) rfl hl h2) fun _ hc=>?_
   cases k with
   | zero=>exact h4 rfl hc
   | succ k=>exact h3 (hn (Nat.succ_pos _) hc)
  ·intro lo' H' J
   generalize hvr:[]=vr at J
   induction J with
   | @mk k r cs rt a u nd iv bv ev hr ht hcs hl hn =>
   cases r with
   | cons x r=>rw [Qb,rgV_s] at hvr; cases hvr
   | nil =>
   refine Ss.nil (.mk hcs (by exact R4 hl) fun hne hc=>hn ?_ hc)
   have h1:=List.drop_eq_nil_iff.mp hr
   have h2:0 < ts.length:=Qn hne
   exact ar3 (.im (.lt .n0 .v1) (.im (.eq .v2 .v1) (.im (.le .v2 .v0) (.lt .n0 .v0)))) rfl h2 hlen h1
 ·intro r lo' H' P
  induction P with
  | mk hcs hl hn =>
  unfold LC
  try dsimp only
  refine Ss.freezeH ?_
  walk_at"j"
  walk_at"B"
  exact q _ hcs hl hn
theorem C45 {w:World} {g:Gx} (G:GG w g) (n:Nat):∀ (M:Nat),n≤M+1→∀ (vs:List V) (ts:List TT),ND n vs ts→∀ (A:List V) (c:Nat),A.length+n≤900→okL ts=true→szL ts≤1000→∀ (H:AH) (Q:V→AH→Prop),(∀ cs,CutsR M ts c A cs→cs.length≤szL ts→(ts≠[]→c=0→cs≠[])→Q (.lst cs) H)→Call g (n+3) (.ref 720) [.lst vs,.lst A,.int (c:Int)] H Q:=by
 induction n with
 | zero =>
  intro M hM vs ts h A c hA hok hsz H Q q
  have e1:=h.1
  have e2:=h.2
  subst e1; subst e2
  exact cuts_def G (n:=0) .nil (Nat.zero_le _) hok hsz hA (fun h=>absurd rfl h) q
 | succ n ih =>
  intro M hM vs ts h A c hA hok hsz H Q q
  exact cuts_def G (n:=n) (d:=n+1) h (by exact R8 hM) hok hsz (by exact ar2 (.im (.le (.a .v0 (.a .v1 .n1)) (.n 900)) (.le (.a .v0 .v1) (.n 900))) rfl hA) (fun _ ws us hnd e B hB hus hsu H Q q=>ih M (by exact R7 hM) ws us hnd B e (by exact ar3 (.im (.le (.a .v2 (.a .v1 .n1)) (.n 900)) (.im (.le .v0 (.a .v2 .n1)) (.le (.a .v0 .v1) (.n 900)))) rfl hA hB) hus hsu H Q fun cs h1 h2 _=>q cs h1 h2) q
noncomputable abbrev Γ48:Fx:={ scope:=scopeAt 48,globs:=[("range",.type "range"),("min",.builtin "min"),("len",.builtin "len"),("sum",.builtin "sum"),("_law_PIECES",.ref 678),("_law_mend",.ref 692),("parse_component_value_list",.ref 628),("_law_cuts",.ref 720),("_law_find",.ref 734),("_law_told",.ref 713),("_law_unclosed",.ref 727),("_law_CLOSERS",.ref 685)] }
noncomputable abbrev LW (l:Addr) (x:List Nat) (k me ps fa ro cu ct no st at_ ta us lv cl li co pl re:V):Loc:=[("script",.glo (.ref l)),("text",.str x),("k",k),("mended",me),("places",ps),("far",fa),("row",ro),("cuts",cu),("cut",ct),("nodes",no),("start",st),("at",at_),("tail",ta),("used",us),("level",lv),("closer",cl),("line",li),("column",co),("place",pl),("rest",re)]
noncomputable def pieceAt (i:Int):List Nat:=pieces.getD (i.fmod 64).toNat []
noncomputable def txF:Nat→List Int→List Nat
 | _,[]=>[]
 | k,z::r=>pieceAt (z+7 * (k:Int))++txF (k+1) r
noncomputable def ENDT:List Nat:=[10,10,41,42,47,44]
noncomputable def lawText (zs:List Int):List Nat:=txF 0 (zs.take 12)++ENDT
theorem piece_len (i:Int):(pieceAt i).length≤9:=by
 unfold pieceAt
 rw [List.getD_eq_getElem?_getD]
 cases h:pieces[(i.fmod 64).toNat]? with
 | none=>exact Nat.zero_le _
 | some p =>
  have:pieces.all (fun p=>decide (p.length≤9))=true:=by decide +kernel
  exact Qh (Qr this p (List.mem_of_getElem? h))
theorem piece_get (i:Int):(sigTab)[(i.fmod 64).toNat]?=some (V.str (pieceAt i)):=by
 unfold sigTab pieceAt
 have h0:=Int.fmod_nonneg_of_pos i (show (0:Int) < 64 by decide)
 have h1:=Int.fmod_lt_of_pos i (show (0:Int) < 64 by decide)
 have h2:(i.fmod 64).toNat < pieces.length:=by
  rw [show pieces.length=64 from by decide +kernel]; omega
 rw [List.getElem?_map,List.getElem?_eq_getElem h2,List.getD_eq_getElem?_getD,List.getElem?_eq_getElem h2]
 rfl
theorem tx_len:∀ (zs:List Int) (k:Nat),(txF k zs).length≤9 * zs.length
 | [],_=>Qd _
 | z::r,k=>by
  have h1:=piece_len (z+7 * (k:Int))
  have h2:=tx_len r (k+1)
  show (pieceAt _++txF (k+1) r).length≤_
  rw [Qg,Qb]; exact ar3 (.im (.le .v1 (.m 9 .v2)) (.im (.le .v0 (.n 9)) (.le (.a .v0 .v1) (.m 9 (.a .v2 .n1))))) rfl h2 h1
inductive JTx (zs:List Int) (l:Addr) (H:AH):List V→Loc→AH→Prop
 | mk (k:Nat) {r:List Int} {x:List Nat} {u:V} (hr:(zs.take 12).drop k=r) (hx:x++txF k r=txF 0 (zs.take 12)) (hl:x.length≤9 * k):JTx zs l H (rgV k r.length) (LW l x u .unset .unset .unset .unset .unset .unset .unset .unset .unset .unset .unset .unset .unset .unset .unset .unset .unset) H
inductive PTx (zs:List Int) (l:Addr) (H:AH):R→Loc→AH→Prop
 | mk {u:V}:PTx zs l H .next (LW l (txF 0 (zs.take 12)) u .unset .unset .unset .unset .unset .unset .unset .unset .unset .unset .unset .unset .unset .unset .unset .unset .unset) H
theorem law_text {w:World} {g:Gx} (G:GG w g) {l:Addr} {xs:List Value} {zs:List Int} {H:AH} {Q:R→Loc→AH→Prop} {rest:List Stmt} {k0:V} (hB:g.B.IsList l xs.toArray) (hi:∀ M,IsAll M xs (zs.map V.int)) (hlen:xs.length≤63)
  (q:∀ u,(lawText zs).length≤114→Ss g Γ48 60 rest (LW l (lawText zs) u .unset .unset .unset .unset .unset .unset .unset .unset .unset .unset .unset .unset .unset .unset .unset .unset .unset) H Q) :
  Ss g Γ48 60 ((bodyAt 48).take 3++rest) [("script",.glo (.ref l)),("text",.unset),("k",k0),("mended",.unset),("places",.unset),("far",.unset),("row",.unset),("cuts",.unset),("cut",.unset),("nodes",.unset),("start",.unset),("at",.unset),("tail",.unset),("used",.unset),("level",.unset),("closer",.unset),("line",.unset),("column",.unset),("place",.unset),("rest",.unset)] H Q:=by
 have hzl:xs.length=zs.length:=by have:=(hi (fun _ _=>False)).length; rw [List.length_map] at this; exact this
 refine Ss.consK ?_
 walk_at"B"
 rw [show (Str.ofString "").cps.toList=[] from by decide +kernel]
 refine Ss.consK ?_
 refine S.mono (Q:=PTx zs l H) (S.for_ ?_) ?_
 ·walk_at"B"
  refine CB.lenG hB (by exact R64 hlen) ?_
  walk_at"B"
  refine CB.min ?_
  walk_at"B"
  refine CB.range ?_
  have hm:(if (xs.length:Int) < 12 then (xs.length:Int) else 12)=((zs.take 12).length:Int):=by
   rw [Qm,hzl]; split <;> (first | exact ar1 (.im (.ilt .v0 (.n 12)) (.ieq .v0 (.i (.n 12) .v0))) rfl ‹_› | exact ar1 (.im (.nt (.ilt .v0 (.n 12))) (.ieq (.n 12) (.i (.n 12) .v0))) rfl ‹_›)
  rw [hm]
  refine ⟨_,items_range (n:=(zs.take 12).length) (by rw [Qm]; exact ar1 (.le (.i (.n 12) .v0) (.n 1000)) rfl),JTx zs l H,?_,?_,?_⟩
  ·exact .mk 0 (r:=zs.take 12) (x:=[]) rfl rfl (by simp)
  ·intro v rest lo' H' J
   generalize hvr:v::rest=vr at J
   induction J with
   | @mk k r x u hr hx hl =>
   cases r with
   | nil=>cases hvr
   | cons z r =>
   rw [Qb,rgV_s] at hvr
   refine x02 (List.cons.inj hvr) fun zz0 zz1=>?_
   subst zz0
   subst zz1
   refine x02 (drop_get hr) fun hg hd=>?_
   have hk12:k < 12:=by have:=(List.getElem?_eq_some_iff.mp hg).1; rw [Qm] at this; exact ar2 (.im (.lt .v0 (.i (.n 12) .v1)) (.lt .v0 (.n 12))) rfl this
   have hgz:(zs.map V.int)[k]?=some (V.int z):=by
    rw [List.getElem?_map]
    rw [List.getElem?_take_of_lt hk12] at hg
    rw [hg]; rfl
   refine x22 (G.hK.sig) fun sxs sn hsl hsi=>?_
   have hsB:g.B.IsList 678 sxs.toArray:=⟨_,G.ok.kin _ _ hsl,rfl,sn,rfl⟩
   have hs64:sxs.length=64:=by have:=(hsi (fun _ _=>False)).length; rw [this]; decide +kernel
   have hpl:=piece_len (z+7 * (k:Int))
   unfold LW
   repeat walk_at"g"
   refine Ss.consK ?_
   refine S.augK (v:=.str x) ?_ (by walk_at"d") rfl
   refine E.idxG hsB hsi (by exact ar1 (.im (.eq .v0 (.n 64)) (.le .v0 (.n 1000000))) rfl hs64) ?_
   refine E.glo (by walk_at"d") ?_
   refine ⟨rfl,?_⟩
   refine E.binK ?_
   refine E.binK ?_
   refine E.idxG hB hi (by exact R64 hlen) ?_
   refine E.loc (v:=.glo (.ref l)) (by walk_at"d") (vne rfl) ?_
   refine ⟨rfl,?_⟩
   walk_at"b"
   refine ⟨k,_,rfl,hgz,?_⟩
   walk_at"B"
   refine ⟨_,.imul (IntMulOk.of_left (by decide +kernel)),?_⟩
   walk_at"B"
   refine bm4 ?_ (by decide)
   have hf0:0≤(z+7 * (k:Int)).fmod 64:=Int.fmod_nonneg_of_pos _ (by decide)
   refine ⟨_,_,(congrArg V.int (Int.toNat_of_nonneg hf0).symm),piece_get _,?_⟩
   refine bm3 ?_ (by rw [sizeLine_eq]; exact ar3 (.im (.lt .v2 (.n 12)) (.im (.le .v0 (.m 9 .v2)) (.im (.le .v1 (.n 9)) (.le (.a .v0 .v1) (.n 16777216))))) rfl hk12 hl hpl)
   walk_at"B"
   refine .mk (k+1) hd (by rw [← hx,Qf]; rfl) (by rw [Qg]; exact ar3 (.im (.le .v0 (.m 9 .v2)) (.im (.le .v1 (.n 9)) (.le (.a .v0 .v1) (.m 9 (.a .v2 .n1))))) rfl hl hpl)
  ·intro lo' H' J
   generalize hvr:[]=vr at J
   induction J with
   | @mk k r x u hr hx hl =>
   cases r with
   | cons z r=>rw [Qb,rgV_s] at hvr; cases hvr
   | nil =>
   have hx:x++[]=txF 0 (zs.take 12):=hx
   rw [List.append_nil] at hx
   subst hx
   exact Ss.nil .mk
 ·intro r lo' H' P
  induction P with
  | @mk u =>
  have hl:=tx_len (zs.take 12) 0
  rw [Qm] at hl
  refine Ss.consK ?_
  refine S.augK (v:=.str (txF 0 (zs.take 12))) ?_ (by walk_at"d") rfl
  refine E.str ?_
  rw [show (Str.ofString "\n\n)*/,").cps.toList=ENDT from by decide +kernel]
  refine bm3 ?_ (by rw [sizeLine_eq,show ENDT.length=6 from rfl]; exact ar2 (.im (.le .v0 (.m 9 (.i (.n 12) .v1))) (.le (.a .v0 (.n 6)) (.n 16777216))) rfl hl)
  refine pk1 ?_
  exact q u (by unfold lawText; rw [Qg,show ENDT.length=6 from rfl]; exact R65 hl)
noncomputable abbrev farP (s:List Nat):Nat × Nat:=(s.length+1,1)
inductive Chn (s:List Nat) (o cm:Nat × Nat):List V→List (List TT × Nat)→Prop
 | nil:Chn s o cm [] []
 | brk {ts:List TT} {k:Nat} {t:TT} {lv:List (List TT × Nat)} (h:ts[k]?=some t) (hu:uncT cm t=true):Chn s o cm [] ((ts,k)::lv)
 | cls {ts:List TT} {k:Nat} {t:TT} {lv:List (List TT × Nat)} {T:List V} {p:Str × Str} {e j:Nat} (h:ts[k]?=some t) (hu:uncT cm t=false) (hc:(closS.find? fun p=>p.1.cps.toList==t.k)=some p) (hp:p.2.cps.toList=[e]) (hj:s[j]?=some e) (r:Chn s o cm T lv):Chn s o cm (nodeV o (mvA s j) (lit "error") (.str [e]) []::(toldL o (farP s) (ts.drop (k+1))++T)) ((ts,k)::lv)
inductive CutF (s:List Nat) (cm:Nat × Nat) (row:List TT):List (List TT × Nat)→Prop
 | mk {ts:List TT} {k:Nat} {r:List (List TT × Nat)} {t:TT} {i:Nat} {T:List V} (h:ts[k]?=some t) (hi:i < s.length) (hp:t.p=mvA s i) (h1:toldL (1,1) (farP s) (told (s.take i))=toldL (1,1) t.p row) (h2:toldL (1,1) (farP s) (told (s.drop i))=toldL t.p (farP s) (ts.drop k)++T) (hc:Chn s t.p cm T r) (k1:okL (told (s.take i))=true) (k2:okL (told (s.drop i))=true):CutF s cm row ((ts,k)::r)
structure PlainF (tx:List Nat):Prop where
 cnt:cnt (norm tx) < 13
 cm:∃ x,norm tx=x++[44]∧∀ lv,CutIn (told tx) 0 lv→CutF (norm tx) (mv (1,1) x) (told tx) lv
 ok:okL (told tx)=true
 sz:szL (told tx)≤1000
 ne:told tx≠[]
 cnp:∀ i,Internal.cnt (norm ((norm tx).take i)) < 13∧Internal.cnt (norm ((norm tx).drop i)) < 13
theorem isD_tell {n:Nat} {o lim p:Nat × Nat} {k:List Nat} {a:V} {us:List V} (h1:isD 8 a=true) (h2:isD 8 (.str k)=true) (h3:isD (n+8) (.lst us)=true):∀ v∈tell1 o lim p k a us,isD (n+9) v=true:=by
 unfold tell1
 intro v hv
 split at hv
 ·rw [List.mem_singleton.mp hv]
  show List.all [V.str k,a,shV o p,.lst us] (isD (n+8))=true
  have h4:isD (n+8) (shV o p)=true:=rfl
  rw [List.all_cons,List.all_cons,List.all_cons,List.all_cons,isD_le (by exact R66) _ h1,isD_le (by exact R66) _ h2,h3,h4]
  rfl
 ·cases hv
theorem isD_lstI {n:Nat} {us:List V} (h:∀ v∈us,isD n v=true):isD (n+1) (.lst us)=true:=List.all_eq_true.mpr h
theorem isD_told (n:Nat):∀ (vs:List V) (ts:List TT),ND n vs ts→okL ts=true→∀ o lim,isD (2 * n+8) (.lst (toldL o lim ts))=true:=by
 induction n with
 | zero =>
  intro vs ts h hok o lim
  have e:=h.2
  subst e; rfl
 | succ n ih =>
  intro vs ts h hok o lim
  have h:NodesT n vs ts:=h
  have key:∀ v∈toldL o lim ts,isD (2 * n+9) v=true:=by
   induction ts generalizing vs with
   | nil=>exact fun v hv=>nomatch hv
   | cons t r ih2 =>
    intro v hv
    rw [okL_cons,okT_eq,Qc,Qc,Qc] at hok
    generalize hts:t::r=tr at h
    cases h with
    | nil=>cases hts
    | cons h1 h2 =>
     cases hts
     rw [toldL_cons] at hv
     rcases List.mem_append.mp hv with hv | hv
     ·refine x12 (h1.inner) fun ws hw _=>?_
      exact isD_tell hok.1.1 hok.1.2.1 (ih ws _ hw hok.1.2.2 o lim) v hv
     ·exact ih2 _ h2 hok.2 h2 v hv
  exact isD_le (by exact ar1 (.le (.a (.a (.m 2 .v0) (.n 9)) .n1) (.a (.m 2 (.a .v0 .n1)) (.n 8))) rfl) _ (isD_lstI key)
theorem isD_row {vs:List V} {ts:List TT} (h:NodesT 13 vs ts) (hok:okL ts=true) (o lim:Nat × Nat):isD 64 (.lst (toldL o lim ts))=true:=isD_le (by decide) _ (isD_told 14 vs ts h hok o lim)
theorem cmNe {x:V} {y:V} {k:Bool→Prop} (e:x=y) (hD:isD 64 x=true) (q:k false):CmpM .NotEq x y k:=by
 subst e
 refine ⟨_,.dne hD hD,?_⟩
 rw [PySem.SeqAt.eqv_refl _ (isD_lay 64 _ hD).1]
 exact q
theorem mv_lt (p:Nat × Nat) (c:Nat):plt p (mv p [c])=true:=by
 show plt p (if c==10 then (p.1+1,1) else (p.1,p.2+1))=true
 unfold plt
 split
 ·rw [Qs (Nat.lt_succ_self _)]; rfl
 ·rw [Qs (Nat.lt_succ_self _),beq_self_eq_true]; simp
theorem plt_trans {p q r:Nat × Nat} (h:plt p q=true) (h':plt q r=true):plt p r=true:=by
 unfold plt at *
 simp only [Bool.or_eq_true,Bool.and_eq_true,decide_eq_true_eq,beq_iff_eq] at *
 exact ar6 (.im (.or (.lt .v4 .v1) (.an (.eq .v4 .v1) (.lt .v5 .v3))) (.im (.or (.lt .v0 .v4) (.an (.eq .v0 .v4) (.lt .v2 .v5))) (.or (.lt .v0 .v1) (.an (.eq .v0 .v1) (.lt .v2 .v3))))) rfl h' h
theorem plt_irr (p:Nat × Nat):plt p p=false:=by unfold plt; simp
theorem plt_mv (p:Nat × Nat):∀ r:List Nat,r≠[]→plt p (mv p r)=true
 | [],h=>absurd rfl h
 | [c],_=>mv_lt p c
 | c::d::r,_=>plt_trans (mv_lt p c) (plt_mv (mv p [c]) (d::r) (Qt _ _))
theorem fI_plcs (s:List Nat):∀ (p:Nat × Nat) (i k:Nat),i < s.length→fI ((mv p (s.take i)).1:Int) ((mv p (s.take i)).2:Int) (plcs p s) k=((k+i:Nat):Int):=by
 induction s with
 | nil=>intro p i k h; cases h
 | cons c t ih =>
  intro p i k h
  cases i with
  | zero =>
   show (if _ then _ else _)=_
   rw [if_pos ⟨rfl,rfl⟩,Nat.add_zero]
  | succ i =>
   have hi:i < t.length:=Nat.lt_of_succ_lt_succ h
   show (if _ then _ else _)=_
   rw [if_neg]
   ·have:=ih (mv p [c]) i (k+1) hi
    rw [show k+1+i=k+(i+1) by exact R0] at this
    exact this
   ·rintro ⟨e1,e2⟩
    have e:p=mv p ((c::t).take (i+1)):=Prod.ext (Int.ofNat.inj e1) (Int.ofNat.inj e2)
    have:=plt_mv p ((c::t).take (i+1)) (by rw [List.take_succ_cons]; exact Qt _ _)
    rw [← e,plt_irr] at this
    cases this
theorem LvR.head {M:Nat} {LV:List V} {ts:List TT} {k:Nat} {lv:List (List TT × Nat)} (h:LvR M LV ((ts,k)::lv)):∃ n vs r,LV=lvV vs k::r∧NodesT n vs ts∧n≤M∧k < ts.length∧vs.length≤1000∧LvR M r lv:=by
 generalize hl:(ts,k)::lv=l at h
 cases h with
 | nil=>cases hl
 | cons a b c d e=>cases hl; exact ⟨_,_,_,rfl,a,b,c,d,e⟩
theorem NodesT.drop {n:Nat} {vs:List V} {ts:List TT} (h:NodesT n vs ts) (k:Nat):NodesT n (vs.drop k) (ts.drop k):=by
 induction k generalizing vs ts with
 | zero=>exact h
 | succ k ih=>cases h with
  | nil=>exact .nil
  | cons _ h=>exact ih h
inductive St (s:List Nat) (o cm:Nat × Nat):Nat→List V→List (List TT × Nat)→Prop
 | zero {ts:List TT} {k:Nat} {T:List V} {r:List (List TT × Nat)} (h:Chn s o cm T r):St s o cm 0 (toldL o (farP s) (ts.drop k)++T) ((ts,k)::r)
 | succ {j:Nat} {rem:List V} {lv:List (List TT × Nat)} (h:Chn s o cm rem lv):St s o cm (j+1) rem lv
inductive JLp (l:Addr) (tx s:List Nat) (o cm:Nat × Nat) (C RB:List V) (ps ro cu at_:V) (H:AH):List V→Loc→AH→Prop
 | mk (j:Nat) {Cr dn rem:List V} {lvr:List (List TT × Nat)} {kk no lv cl li co pl re:V} (hC:C.drop j=Cr) (hL:LvR 13 Cr lvr) (hR:dn++rem=RB) (hJ:St s o cm j rem lvr) :
  JLp l tx s o cm C RB ps ro cu at_ H (rgV j Cr.length) (LW l tx kk (.str s) ps (pV (farP s)) ro cu (.lst C) no (pV o) at_ (.lst RB) (.int (dn.length:Int)) lv cl li co pl re) H
inductive PLp (l:Addr) (tx s:List Nat) (o:Nat × Nat) (C RB:List V) (ps ro cu at_:V) (H:AH):R→Loc→AH→Prop
 | mk {kk no lv cl li co pl re:V}:PLp l tx s o C RB ps ro cu at_ H .next (LW l tx kk (.str s) ps (pV (farP s)) ro cu (.lst C) no (pV o) at_ (.lst RB) (.int (RB.length:Int)) lv cl li co pl re) H
theorem LvR.use {P:Prop} {M:Nat} {L:List V} {l:List (List TT × Nat)} (h:LvR M L l):(L=[]→l=[]→P)→(∀ n ws ts k r lv,L=lvV ws k::r→l=(ts,k)::lv→NodesT n ws ts→n≤M→k < ts.length→ws.length≤1000→LvR M r lv→P)→P:=by
 induction h using LvR.casesOn with
 | nil=>exact fun a _=>a rfl rfl
 | cons a b c d e=>exact fun _ q=>q _ _ _ _ _ _ rfl rfl a b c d e
theorem LvR.use2 {P:Prop} {M:Nat} {LV:List V} {ts:List TT} {k:Nat} {lv:List (List TT × Nat)} (h:LvR M LV ((ts,k)::lv)) (q:∀ n vs r,LV=lvV vs k::r→NodesT n vs ts→n≤M→k < ts.length→vs.length≤1000→LvR M r lv→P):P:=by
 obtain ⟨n,vs,r,e,a,b,c,d,f⟩:=h.head
 exact q n vs r e a b c d f
theorem Chn.use0 {P:Prop} {s:List Nat} {o cm:Nat × Nat} {R:List V} {l:List (List TT × Nat)} (h:Chn s o cm R l):(R=[]→l=[]→P)→(∀ ts k t r,l=(ts,k)::r→ts[k]?=some t→uncT cm t=true→R=[]→P)→(∀ ts k t r T p e j,l=(ts,k)::r→ts[k]?=some t→uncT cm t=false→(closS.find? fun p=>p.1.cps.toList==t.k)=some p→p.2.cps.toList=[e]→s[j]?=some e→R=nodeV o (mvA s j) (lit "error") (.str [e]) []::(toldL o (farP s) (ts.drop (k+1))++T)→Chn s o cm T r→P)→P:=by
 induction h using Chn.casesOn with
 | nil=>exact fun a _ _=>a rfl rfl
 | brk h hu=>exact fun _ q _=>q _ _ _ _ rfl h hu rfl
 | cls h hu hc hp hj r=>exact fun _ _ q=>q _ _ _ _ _ _ _ _ rfl h hu hc hp hj rfl r
theorem Chn.use {P:Prop} {s:List Nat} {o cm:Nat × Nat} {R:List V} {ts:List TT} {k:Nat} {r:List (List TT × Nat)} {t:TT} (h:Chn s o cm R ((ts,k)::r)) (ht:ts[k]?=some t) (a:uncT cm t=true→R=[]→P) (q:∀ T p e j,uncT cm t=false→(closS.find? fun p=>p.1.cps.toList==t.k)=some p→p.2.cps.toList=[e]→s[j]?=some e→R=nodeV o (mvA s j) (lit "error") (.str [e]) []::(toldL o (farP s) (ts.drop (k+1))++T)→Chn s o cm T r→P):P:=by
 refine h.use0 nofun (fun ts' k' t' r' e h hu hr=>?_) fun ts' k' t' r' T p e' j e h hu hc hp hj hr c=>?_
 ·cases e; rw [ht] at h; cases h; exact a hu hr
 ·cases e; rw [ht] at h; cases h; exact q T p e' j hu hc hp hj hr c
theorem St.use {P:Prop} {s:List Nat} {o cm:Nat × Nat} {j:Nat} {R:List V} {l:List (List TT × Nat)} (h:St s o cm j R l):(∀ ts k T r,j=0→l=(ts,k)::r→R=toldL o (farP s) (ts.drop k)++T→Chn s o cm T r→P)→(∀ i,j=i+1→Chn s o cm R l→P)→P:=by
 induction h using St.casesOn with
 | zero h=>exact fun a _=>a _ _ _ _ rfl rfl rfl h
 | succ h=>exact fun _ a=>a _ rfl h
theorem St.fin {s:List Nat} {o cm:Nat × Nat} {M j:Nat} {R:List V} {l:List (List TT × Nat)} (h:St s o cm j R l) (hL:LvR M [] l):R=[] :=
 hL.use (fun _ el=>h.use (fun _ _ _ _ _ e=>by rw [el] at e; cases e) fun _ _ c=>c.use0 (fun e _=>e) (fun _ _ _ _ _ _ _ e=>e) fun _ _ _ _ _ _ _ _ e=>by rw [el] at e; cases e) nofun
noncomputable def loopL:List Stmt:=ifB ((bodyAt 48).drop 14)
theorem isD_part {a b c:List V} (h:isD 64 (.lst (a++(b++c)))=true):isD 64 (.lst b)=true:=by
 have h:List.all (a++(b++c)) (isD 63)=true:=h
 rw [List.all_append,List.all_append,Qc,Qc] at h
 exact h.2.1
section
variable {w:World} {g:Gx} (G:GG w g) {l:Addr} {tx s:List Nat} {o cm:Nat × Nat} {C RB:List V} {ps ro cu at_:V} {H:AH} {Q:R→Loc→AH→Prop}
include G
theorem law_rest {n k:Nat} {ws dn T:List V} {ts:List TT} {lv cl li co pl re:V} (hN:NodesT n ws ts) (hn:n≤13) (hwl:ws.length≤1000) (hRB:isD 64 (.lst RB)=true) (hRl:RB.length≤1000000) (hR:dn++(toldL o (farP s) (ts.drop k)++T)=RB)
  (q:∀ re',Q .next (LW l tx (.int (k:Int)) (.str s) ps (pV (farP s)) ro cu (.lst C) (.lst ws) (pV o) at_ (.lst RB) (.int ((dn++toldL o (farP s) (ts.drop k)).length:Int)) lv cl li co pl re') H) :
  Ss g Γ48 60 (loopL.drop 2) (LW l tx (.int (k:Int)) (.str s) ps (pV (farP s)) ro cu (.lst C) (.lst ws) (pV o) at_ (.lst RB) (.int (dn.length:Int)) lv cl li co pl re) H Q:=by
 unfold LW at q ⊢
 have hwl6:ws.length≤1000000:=by exact R1 hwl
 have hd:=hRB
 rw [← hR] at hd
 have hd:=isD_part hd
 have hwd:=hN.drop k
 refine Ss.consK ?_
 walk_at"B"
 rw [slc_from]
 walk_at"B"
 refine (C44 G (n+1) _ _ hwd (by rw [Qa]; exact ar2 (.im (.le .v0 (.n 1000)) (.le (.s .v0 .v1) (.n 1000000))) rfl hwl) o (farP s) _ _ ?_).le (by exact ar1 (.im (.le .v0 (.n 13)) (.le (.a (.a .v0 .n1) (.n 3)) (.n 60))) rfl hn)
 generalize toldL o (farP s) (ts.drop k)=rs at hR hd q
 have hrl:rs.length≤1000000:=by rw [← hR] at hRl; simp at hRl; exact ar3 (.im (.le (.a .v1 (.a .v0 .v2)) (.n 1000000)) (.le .v0 (.n 1000000))) rfl hRl
 walk_at"B"
 have e:slc RB (some ((dn.length:Nat):Int)) (some ((dn.length+rs.length:Nat):Int))=rs:=by
  rw [slc_nat,show dn.length+rs.length - dn.length=rs.length by exact R50,← hR,List.drop_left,List.take_left]
 refine S.ifF ?_ ?_
 ·walk_at"B"
  refine CB.len_lst (lt62' hrl) ?_
  walk_at"B"
  rw [e]
  walk_at"B"
  exact cmNe rfl hd ⟨rfl,rfl⟩
 walk_at"B"
 refine CB.len_lst (lt62' hrl) ?_
 walk_at"B"
 have q:=q (.lst rs)
 rw [Qg] at q
 exact q
theorem law_close {n k:Nat} {ws dn rem:List V} {ts:List TT} {lvr:List (List TT × Nat)} {x:V} {t:TT} {pl0:List (Nat × Nat)} {lv cl li co pl re:V} (hs:s.length≤114) (hps:plcs (1,1) s=pl0++[cm]) (hX:NodeT n x t) (hn:n≤13) (hwl:ws.length≤1000) (hx:ws[k]?=some x) (ht:ts[k]?=some t) (hRB:isD 64 (.lst RB)=true) (hRl:RB.length≤1000000) (hR:dn++rem=RB) (hc:Chn s o cm rem ((ts,k)::lvr))
  (q1:rem=[]→Q .brk (LW l tx (.int (k:Int)) (.str s) (.lst ((pl0++[cm]).map pV)) (pV (farP s)) ro cu (.lst C) (.lst ws) (pV o) at_ (.lst RB) (.int (dn.length:Int)) lv cl li co pl re) H)
  (q2:∀ T v cl li co pl,rem=v::(toldL o (farP s) (ts.drop (k+1))++T)→Chn s o cm T lvr→Q .next (LW l tx (.int ((k+1:Nat):Int)) (.str s) (.lst ((pl0++[cm]).map pV)) (pV (farP s)) ro cu (.lst C) (.lst ws) (pV o) at_ (.lst RB) (.int ((dn.length+1:Nat):Int)) lv cl li co pl re) H) :
  Ss g Γ48 60 (ifB (loopL.drop 1)) (LW l tx (.int (k:Int)) (.str s) (.lst ((pl0++[cm]).map pV)) (pV (farP s)) ro cu (.lst C) (.lst ws) (pV o) at_ (.lst RB) (.int (dn.length:Int)) lv cl li co pl re) H Q:=by
 have hxo:=hX.no G
 have hwl6:ws.length≤1000000:=by exact R1 hwl
 have hpll:(pl0++[cm]).length=s.length:=by rw [← hps,plcs_len]
 have hpl6:((pl0++[cm]).map pV).length≤1000000:=by rw [List.length_map,hpll]; exact R14 hs
 have hmap:(pl0++[cm]).map pV=pl0.map pV++[pV cm]:=by rw [List.map_append]; rfl
 have hpl7:=hpl6
 rw [hmap] at hpl7
 unfold LW at q1 q2 ⊢
 refine Ss.consK ?_
 refine S.ifb (uncT cm t) ?_ (fun hq=>?_) (fun hq=>?_)
 ·walk_at"B"
  refine subL hx hwl6 ?_
  walk_at"B"
  rw [hmap]
  refine subLast hpl7 ?_
  walk_at"B"
  refine (C46 G n x t hX cm _ _ ?_).le (by exact ar1 (.im (.le .v0 (.n 13)) (.le (.a .v0 (.n 3)) (.n 60))) rfl hn)
  walk_at"B"
  exact ⟨rfl,rfl⟩
 ·walk_at"B"
  exact hc.use ht (fun _ e=>q1 e) fun _ _ _ _ hu=>by rw [hq] at hu; cases hu
 refine hc.use ht (fun hu=>by rw [hq] at hu; cases hu) fun Ta p e j _ hcl hp hj er hr=>?_
 have q2:=fun cl li co pl=>q2 Ta _ cl li co pl er hr
 rw [er] at hR
 clear q1
 have hjl:j < s.length:=(List.getElem?_eq_some_iff.mp hj).1
 have hfi:fI ((mvA s j).1:Int) ((mvA s j).2:Int) (plcs (1,1) s) 0=((0+j:Nat):Int):=fI_plcs s (1,1) j 0 hjl
 rw [hps,Nat.zero_add] at hfi
 have hnv:nodeV o (mvA s j) (lit "error") (.str [e]) []=.tup [.str (lit "error"),.str [e],shV o (mvA s j),.lst []]:=rfl
 have hget:RB[dn.length]?=some (nodeV o (mvA s j) (lit "error") (.str [e]) []):=by
  rw [← hR,List.getElem?_append_right (Qd _),Nat.sub_self]; rfl
 have hlt:dn.length < RB.length:=(List.getElem?_eq_some_iff.mp hget).1
 have hde:isD 64 (.tup [.str (lit "error"),.str [e]])=true:=by
  have h1:List.all RB (isD 63)=true:=hRB
  have h2:=Qr h1 _ (List.mem_of_getElem? hget)
  rw [hnv] at h2
  have h3:List.all [V.str (lit "error"),.str [e],shV o (mvA s j),.lst []] (isD 62)=true:=h2
  rw [List.all_cons,List.all_cons,Qc,Qc] at h3
  exact isD_two (isD_str h3.1) (isD_str h3.2.1)
 clear hps
 generalize toldL o (farP s) (List.drop (k+1) ts)=rs at hR q2
 refine Ss.nil ?_
 refine Ss.consK ?_
 refine S.assignK ?_ (fun _=>rfl)
 refine E.subD (x:=t.k) (ks:=closS) (p:=p) ?_
 refine E.call0 (by walk_at"d") (KF.keepE G.hK (by kernel_rfl)) (C40 G (d:=59) ⟨rfl,?_⟩)
 refine E.typ t ?_
 walk_at"B"
 refine subL hx hwl6 ⟨hxo,rfl,hcl,?_⟩
 rw [hp]
 walk_at"B"
 refine S.ifF ?_ ?_
 ·refine T.or2b false ?_ nff (fun _=>?_)
  ·walk_at"B"
   refine CB.len_lst (lt62' hRl) ?_
   walk_at"B"
   exact ⟨decide_eq_false (by exact ar2 (.im (.lt .v0 .v1) (.nt (.le .v1 .v0))) rfl hlt),rfl⟩
  ·walk_at"b"
   refine E.slice2 (a:=.str (lit "error")) (b:=.str [e]) (e:=shV o (mvA s j)) (vs:=[.lst []]) ?_
   walk_at"B"
   refine subL hget hRl ?_
   refine ⟨hnv,?_⟩
   walk_at"B"
   exact cmNe rfl hde ⟨rfl,rfl⟩
 walk_at"B"
 refine S.unpackK ["line","column"] (by repeat constructor) ?_
 walk_at"B"
 refine subL hget hRl ?_
 walk_at"B"
 refine subT2 ?_
 unfold shV
 walk_at"B"
 refine subT0 ?_
 walk_at"B"
 generalize hm:mvA s j=m at hfi
 refine E.to (.int (m.2:Int)) ?_ ?_
 ·refine E.ifeb (decide (m.1=o.1)) ?_ (fun h=>?_) (fun h=>?_)
  ·walk_at"B"
   refine ⟨?_,rfl⟩
   by_cases q:m.1=o.1
   ·rw [Qs q,q]; simp
   ·rw [decide_eq_false q]
    exact Qk (by omega)
  ·rw [if_pos (Qh h)]
   walk_at"B"
   refine subT1 ?_
   walk_at"B"
   exact ⟨congrArg V.int (by omega),rfl⟩
  ·rw [if_neg (of_decide_eq_false h)]
   walk_at"B"
   exact ⟨rfl,rfl⟩
 walk_at"B"
 refine S.ifF ?_ ?_
 ·walk_at"B"
  refine (C47 G (by exact R67 hpll hs) ?_).le (by walk_at"m")
  rw [show (m.1:Int) - (o.1:Int)+1+(o.1:Int) - 1=(m.1:Int) by omega,hfi]
  walk_at"B"
  refine sub_strA ?_ hj (by exact R14 hs)
  walk_at"B"
  refine ⟨?_,rfl⟩
  show (!(([e]:List Nat)==[e]))=false
  rw [beq_self_eq_true]; rfl
 walk_at"B"
 exact q2 _ _ _ _
theorem law_loop {pl0:List (Nat × Nat)} {lvr:List (List TT × Nat)} {kk no lv cl li co pl re:V} (hs:s.length≤114) (hps:plcs (1,1) s=pl0++[cm]) (hRB:isD 64 (.lst RB)=true) (hRl:RB.length≤1000000) (hCl:C.length≤1000) (hL:LvR 13 C lvr) (hJ:St s o cm 0 RB lvr) :
  Ss g Γ48 60 ((bodyAt 48).drop 14) (LW l tx kk (.str s) (.lst ((pl0++[cm]).map pV)) (pV (farP s)) ro cu (.lst C) no (pV o) at_ (.lst RB) (.int 0) lv cl li co pl re) H (fun r _ H'=>r=.ret (.bool true)∧H'=H):=by
 have hCl6:C.length≤1000000:=by exact R1 hCl
 unfold LW
 refine Ss.consK ?_
 refine S.mono (Q:=PLp l tx s o C RB (.lst ((pl0++[cm]).map pV)) ro cu at_ H) (S.for_ ?_) ?_
 ·walk_at"B"
  refine CB.len_lst (lt62' hCl6) ?_
  walk_at"B"
  refine CB.range ?_
  refine ⟨_,items_range hCl,JLp l tx s o cm C RB (.lst ((pl0++[cm]).map pV)) ro cu at_ H,?_,?_,?_⟩
  ·exact .mk 0 (dn:=[]) rfl hL rfl hJ
  ·intro v rest lo' H' J
   generalize hvr:v::rest=vr at J
   induction J with
   | @mk j Cr dn rem lvr kk no lv cl li co pl re hC hL hR hJ =>
   cases Cr with
   | nil=>cases hvr
   | cons x Cr =>
   rw [Qb,rgV_s] at hvr
   have hvr:=List.cons.inj hvr
   rw [hvr.1,hvr.2]
   clear hvr
   refine x02 (drop_get hC) fun hg hd=>?_
   refine hL.use nofun fun n ws ts k r' lv' e el hN hn hk hwl hL'=>?_
   have e:=List.cons.inj e
   rw [e.1] at hg
   rw [← e.2] at hL'
   clear e hL hC
   unfold LW
   repeat walk_at"g"
   refine Ss.consK ?_
   refine S.unpackK ["nodes","k"] (by repeat constructor) ?_
   walk_at"B"
   refine subL hg hCl6 ?_
   unfold lvV
   walk_at"B"
   refine hJ.use (fun ts' k' T r ej e er hc=>?_) fun i ej hc=>?_
   ·rw [el] at e
    cases e
    rw [ej] at hd ⊢
    rw [er] at hR
    refine S.ifF ?_ ?_
    ·walk_at"B"
     exact ⟨rfl,rfl⟩
    refine Ss.nil ?_
    refine law_rest G hN hn hwl hRB hRl hR fun re'=>?_
    exact .mk 1 hd hL' (by rw [Qf]; exact hR) (.succ hc)
   ·rw [ej] at hd ⊢
    rw [el] at hc
    refine x23 (hN.get hk) fun x t hx ht hX=>?_
    refine S.ifb true ?_ (fun _=>?_) ntf
    ·walk_at"B"
     refine ⟨Qs ?_,rfl⟩
     exact ar1 (.ilt .n0 (.a .v0 .n1)) rfl
    refine law_close G hs hps hX hn hwl hx ht hRB hRl hR hc (fun e=>?_) fun T v cl li co pl e hr=>?_
    ·rw [e,List.append_nil] at hR
     rw [hR]
     exact .mk
    ·rw [e] at hR
     rw [show dn.length+1=(dn++[v]).length from (Qg (as:=dn) (bs:=[v])).symm]
     refine law_rest G (s:=s) (o:=o) (k:=k+1) (dn:=dn++[v]) (T:=T) hN hn hwl hRB hRl (by rw [← hR]; simp) fun re'=>?_
     refine .mk (i+1+1) hd hL' (by rw [← hR]; simp) (.succ hr)
  ·intro lo' H' J
   generalize hvr:([]:List V)=vr at J
   induction J with
   | @mk j Cr dn rem lvr kk no lv cl li co pl re hC hL hR hJ =>
   cases Cr with
   | cons x Cr=>rw [Qb,rgV_s] at hvr; cases hvr
   | nil =>
   rw [hJ.fin hL,List.append_nil] at hR
   rw [hR]
   exact Ss.nil .mk
 ·intro r lo' H' P
  induction P with
  | @mk kk no lv cl li co pl re =>
  unfold LW
  try dsimp only
  walk_at"B"
  refine CB.len_lst (lt62' hRl) ?_
  walk_at"B"
  exact ⟨congrArg (fun b=>R.ret (.bool b)) (beq_self_eq_true _),rfl⟩
end
theorem norm_le (css:List Nat):(norm css).length≤css.length:=norm_len css
theorem toldL_len (o lim:Nat × Nat) (ts:List TT):(toldL o lim ts).length≤ts.length:=by
 induction ts with
 | nil=>exact Qd _
 | cons t r ih =>
  have:=tell1_len o lim t.p t.k t.a (toldL o lim t.ts)
  rw [toldL_cons,Qg,Qb]; exact ar3 (.im (.le .v0 .n1) (.im (.le .v1 .v2) (.le (.a .v0 .v1) (.a .v2 .n1)))) rfl this ih
noncomputable def lawB:List Stmt:=(bodyAt 48).drop 3
theorem law_body {w:World} {g:Gx} (G:GG w g) {l:Addr} {xs:List Value} {zs:List Int} {tx:List Nat} {u:V} {t1 t2 t3:Option Pos} (hB:g.B.IsList l xs.toArray) (hi:∀ M,IsAll M xs (zs.map V.int)) (hlen:xs.length≤63) (hl:tx.length≤114) (P:PlainF tx) (ht2:TabOk 5 t2) (ht3:TabOk 6 t3) :
  Ss g Γ48 60 lawB (LW l tx u .unset .unset .unset .unset .unset .unset .unset .unset .unset .unset .unset .unset .unset .unset .unset .unset .unset) (TabH t1 t2 t3) (fun r _ H'=>r=.ret (.bool true)∧∃ a b,TabOk 5 a∧TabOk 6 b∧H'=TabH t1 a b):=by
 have hsl:(norm tx).length≤114:=Nat.le_trans (norm_le tx) hl
 refine x12 (P.cm) fun xc hxc hcut=>?_
 have hpl:(plcs (1,1) (norm tx)).length=(norm tx).length:=plcs_len _ _
 have hplm:((plcs (1,1) (norm tx)).map pV).length≤1000000:=by rw [List.length_map]; exact ar2 (.im (.eq .v0 .v1) (.im (.le .v1 (.n 114)) (.le .v0 (.n 1000000)))) rfl hpl hsl
 refine Ss.consK ?_
 refine S.unpackK ["mended","places"] (by repeat constructor) ?_
 walk_at"B"
 refine (C41 G (by exact R68 hl) ?_).le (by walk_at"m")
 walk_at"B"
 refine CB.len_lst (lt62' hplm) ?_
 walk_at"B"
 refine (C31 G (M:=13) (t1:=t1) (by exact R68 hl) P.cnt ht2 ht3 fun vs a2 a3 hvs hvl ha2 ha3=>?_).le (by walk_at"m")
 clear ht2 ht3
 walk_at"B"
 refine E.lst ?_
 refine Es.nil ⟨Nat.zero_le _,?_⟩
 walk_at"B"
 refine (C45 G 14 13 (by decide) vs (told tx) hvs [] 0 (by decide) P.ok P.sz _ _ fun cs hcs hcl hcn=>?_).le (by walk_at"m")
 have hcn:=hcn P.ne rfl
 have hcsl:cs.length≤1000000:=by have:=P.sz; exact ar2 (.im (.le .v1 (.n 1000)) (.im (.le .v0 .v1) (.le .v0 (.n 1000000)))) rfl this hcl
 walk_at"B"
 refine CB.sumG hB hi ?_
 walk_at"B"
 refine CB.len_lst (lt62' hcsl) ?_
 walk_at"B"
 have hc0:0 < cs.length:=Qn hcn
 refine bm4 ?_ (by exact ar1 (.im (.lt .n0 .v0) (.nt (.ieq .v0 .n0))) rfl hc0)
 generalize zs.sum=sm
 have hf0:0≤sm.fmod (cs.length:Int):=Int.fmod_nonneg_of_pos _ (by exact R13 hc0)
 have hf1:sm.fmod (cs.length:Int) < (cs.length:Int):=Int.fmod_lt_of_pos _ (by exact R13 hc0)
 rw [show sm.fmod (cs.length:Int)=(((sm.fmod (cs.length:Int)).toNat:Nat):Int) from (Int.toNat_of_nonneg hf0).symm]
 have hj:(sm.fmod (cs.length:Int)).toNat < cs.length:=by omega
 generalize (sm.fmod (cs.length:Int)).toNat=j at hj
 refine x24 (hcs _ (List.getElem_mem hj)) fun LV lv hx hLl hLv hcIn=>?_
 have hcj:cs[j]?=some (.lst (LV++[])):=by rw [List.getElem?_eq_getElem hj,hx]
 rw [List.append_nil] at hcj
 refine subL hcj hcsl ?_
 clear hx
 walk_at"B"
 have hcf:=hcut lv hcIn
 induction hcf with
 | @mk ts k r t i Ta h hi' hp h1 h2 hc hokA hokB =>
 refine hLv.use2 fun n ws LV' e hN hM hk hwl hLv'=>?_
 subst e
 have hfl:(List.map pV (plcs (1,1) (norm tx))).length=(norm tx).length:=by rw [List.length_map,hpl]
 rw [hfl]
 refine x23 (hN.get hk) fun x t' hx ht' hxt=>?_
 rw [h] at ht'
 cases ht'
 have hxo:=hxt.no G
 have hLl6:(lvV ws k::LV').length≤1000000:=by rw [List.append_nil] at hLl; exact R1 hLl
 refine S.unpackK ["nodes","k"] (by repeat constructor) ?_
 walk_at"B"
 refine subL (i:=0) rfl hLl6 ?_
 unfold lvV
 walk_at"B"
 refine E.lin t ?_
 walk_at"B"
 refine subL hx (by exact R1 hwl) ⟨hxo,?_⟩
 walk_at"B"
 refine E.clm t ?_
 walk_at"B"
 refine subL hx (by exact R1 hwl) ⟨hxo,?_⟩
 walk_at"B"
 refine (C47 G (by exact R67 hpl hsl) ?_).le (by walk_at"m")
 have hfi:=fI_plcs (norm tx) (1,1) i 0 hi'
 rw [hp,hfi,Nat.zero_add]
 walk_at"B"
 have hsl6:(norm tx).length≤1000000:=by exact R14 hsl
 refine x02 (P.cnp i) fun hcnA hcnB=>?_
 refine S.if_ ?_
 refine T.or2b false ?_ nff (fun _=>?_)
 ·walk_at"B"
  exact ⟨decide_eq_false (by exact ar1 (.nt (.ilt .v0 .n0)) rfl),rfl⟩
 walk_at"B"
 rw [slc_to]
 refine (C31 G (M:=13) (t1:=t1) (by rw [Qm]; exact ar2 (.im (.le .v1 (.n 114)) (.le (.i .v0 .v1) (.n 600))) rfl hsl) hcnA ha2 ha3 fun va b2 b3 hva hval hb2 hb3=>?_).le (by walk_at"m")
 clear ha2 ha3
 walk_at"B"
 refine (C44 G 14 va _ hva (by exact R9 hval) (1,1) (farP (norm tx)) _ _ ?_).le (by walk_at"m")
 walk_at"B"
 refine (C44 G 14 vs (told tx) hvs (by exact R9 hvl) (1,1) (mvA (norm tx) i) _ _ ?_).le (by walk_at"m")
 have hdA:=isD_row hva hokA (1,1) (farP (norm tx))
 rw [← hp,← h1]
 generalize toldL (1,1) (farP (norm tx)) (told (List.take i (norm tx)))=ra at hdA
 refine cmNe rfl hdA ?_
 refine Ss.nil ?_
 walk_at"B"
 rw [slc_from]
 refine (C31 G (M:=13) (t1:=t1) (by rw [Qa]; exact ar2 (.im (.le .v0 (.n 114)) (.le (.s .v0 .v1) (.n 600))) rfl hsl) hcnB hb2 hb3 fun vb a2 a3 hvb hvbl ha2 ha3=>?_).le (by walk_at"m")
 clear hb2 hb3
 walk_at"B"
 refine (C44 G 14 vb _ hvb (by exact R9 hvbl) (1,1) (farP (norm tx)) _ _ ?_).le (by walk_at"m")
 repeat walk_at"g"
 refine Ss.consK ?_
 refine S.assignK ?_ (fun _=>rfl)
 refine E.int ?_
 repeat walk_at"g"
 have hdB:=isD_row hvb hokB (1,1) (farP (norm tx))
 have hlB:(toldL (1,1) (farP (norm tx)) (told (List.drop i (norm tx)))).length≤1000000:=Nat.le_trans (toldL_len _ _ _) (by rw [← hvb.len]; exact R9 hvbl)
 rw [h2,hp] at hdB hlB
 rw [h2,hp]
 rw [hp] at hc
 have hps:plcs (1,1) (norm tx)=plcs (1,1) xc++[mv (1,1) xc]:=by rw [hxc,plcs_app]; rfl
 rw [hps]
 refine (law_loop G hsl hps hdB hlB (by rw [List.append_nil] at hLl; exact hLl) hLv (.zero hc)).mono ?_
 rintro r lo' H' ⟨e1,e2⟩
 exact ⟨e1,_,_,ha2,ha3,e2⟩
end
noncomputable abbrev tabs0:List (Addr × Addr):=[(33,29),(40,36)]
theorem tabsIn0 (t1 t2 t3:Option Pos):TabsIn tabs0 (TabH t1 t2 t3):=by
 intro q hq
 simp only [List.mem_cons,List.not_mem_nil,or_false] at hq
 rcases hq with rfl | rfl
 ·exact ⟨t2,by simp⟩
 ·exact ⟨t3,by simp⟩
noncomputable def PlainAll:Prop:=∀ zs:List Int,zs.length≤63→PlainF (lawText zs)
noncomputable def lo48 (l:Addr):Loc:=[("script",.glo (.ref l)),("text",.unset),("k",.unset),("mended",.unset),("places",.unset),("far",.unset),("row",.unset),("cuts",.unset),("cut",.unset),("nodes",.unset),("start",.unset),("at",.unset),("tail",.unset),("used",.unset),("level",.unset),("closer",.unset),("line",.unset),("column",.unset),("place",.unset),("rest",.unset)]
theorem LAW {w:World} {g:Gx} (G:GG w g) (PL:PlainAll) {l:Addr} {xs:List Value} {zs:List Int} (hB:g.B.IsList l xs.toArray) (hi:∀ M,IsAll M xs (zs.map V.int)) (hlen:xs.length≤63) :
  Ss g Γ48 60 (bodyAt 48) (lo48 l) (TabH none none none) (fun r _ H'=>r=.ret (.bool true)∧TabsIn tabs0 H'):=by
 have hzl:xs.length=zs.length:=by have:=(hi (fun _ _=>False)).length; rw [List.length_map] at this; exact this
 rw [← List.take_append_drop 3 (bodyAt 48)]
 refine law_text G hB hi hlen fun u hl=>?_
 refine (law_body G hB hi hlen hl (PL zs (by exact ar2 (.im (.eq .v1 .v0) (.im (.le .v1 (.n 63)) (.le .v0 (.n 63)))) rfl hzl hlen)) (.inl rfl) (.inl rfl)).mono ?_
 rintro r lo' H' ⟨e,a,b,_,_,rfl⟩
 exact ⟨e,tabsIn0 none a b⟩
set_option tactic.hygienic true in
theorem ints_all {xs:List Value} {zs:List Int} (h:IntsAre xs zs) (M:Mem):IsAll M xs (zs.map V.int):=by
 induction h with
 | nil=>exact .nil
 | cons=>rename_i ih; exact .cons (.int _ _) ih
theorem locOk48 (l:Addr):LocOk Γ48.scope (lo48 l):=by
 have h:∀ x∈(["script","text","k","mended","places","far","row","cuts","cut","nodes","start","at","tail","used","level","closer","line","column","place","rest"]:List Str),Γ48.scope.names.lookup x=some .local∧(x==("__debug__":Str))=false:=by decide +kernel
 have nd:(["script","text","k","mended","places","far","row","cuts","cut","nodes","start","at","tail","used","level","closer","line","column","place","rest"]:List Str).Nodup:=by decide +kernel
 exact ⟨nd,fun p hp=>h p.1 (List.mem_map_of_mem (f:=(·.1)) hp)⟩
theorem lawAll {w:World} (PL:PlainAll) {K:Frag} (hK:KF K) {loose:List Str} {mean:ExcName→Option Value} {mg mb:Str→Option Value} {s₁ s:Shared} {L fa l:Addr} {m:Str→Option Value} {nm:Str} {cd:Value} {xs:List Value} {zs:List Int} {p:Program}
  {Q:Flow→Shared→Prop} {E':Value→Shared→Prop} (hT:TabsAt tabs0 s₁.heap) (X:K.In s₁.heap) (T:Top p loose mean mg mb s₁.heap) (hg:s₁.gens=#[]) (hgs:s.gens=s₁.gens) (hos:s.os=s₁.os) (htk:1≤s.toks)
  (F:Fr s₁.heap L s.heap m) (hm:m "script"=some (.ref l)) (hL:s₁.heap.IsList l xs.toArray) (hI:IntsAre xs zs) (hlen:xs.length≤63)
  (hQ:∀ s',(∀ b o,(ghostOf s₁.heap tabs0).get? b=some o→s'.heap.get? b=some o)→GrownAll tabs0 s'.heap→s'.os=s₁.os→AllBare s'.gens→Q (.ret (.bool true)) s') :
  wpAny (model Prg w) (callerA.deeper (envOf nm (scopeAt 48) L fa cd)) (execs (bodyAt 48) (envOf nm (scopeAt 48) L fa cd)) Q E' s:=by
 refine law_in (Γ:=Γ48) (d:=60) (K:=K) (lo:=lo48 l) hT X hK.no T hg hgs hos htk F (by decide) (by kernel_rfl) rfl rfl (by decide) (globs_of (by decide +kernel) (hK.pick X T [(true,5),(true,4),(true,1),(true,6),(false,31),(false,32),(false,37),(false,36),(false,41),(false,35),(false,38),(false,0)])) (locOk48 l) ?_ ?_ hQ
 ·intro q hq
  rcases Qi hq with rfl | hq
  ·exact .inr ⟨_,hm,fun M=>.glo _⟩
  ·left
   have:∀ q∈(lo48 l).tail,q.2=.unset:=by
    unfold lo48; simp
   exact this q hq
 ·intro g eg gok hcodes
  have G:GG w g:=⟨by rw [eg]; exact hK,by rw [eg],by rw [eg],gok,hcodes⟩
  refine LAW G PL (xs:=xs) (zs:=zs) ?_ (ints_all hI) hlen
  rw [eg]
  exact ghost_list hT hL
theorem tw_app {p:Nat→Bool} (v:List Nat):∀ u:List Nat,((u++v).takeWhile p).length≤u.length→u.takeWhile p=(u++v).takeWhile p:=by
 intro u
 induction u with
 | nil=>intro h; exact (Ql (Nat.le_zero.mp h)).symm
 | cons c t ih =>
  intro h
  rw [Qj,Qq] at h
  rw [Qj,Qq,Qq]
  cases hc:p c with
  | false=>rfl
  | true =>
   rw [hc,if_pos rfl] at h
   rw [if_pos rfl,if_pos rfl,ih (Nat.le_of_succ_le_succ h)]
theorem tw_mono {p:Nat→Bool} (v:List Nat):∀ u:List Nat,(u.takeWhile p).length≤((u++v).takeWhile p).length:=by
 intro u
 induction u with
 | nil=>exact Nat.zero_le _
 | cons c t ih =>
  rw [Qj,Qq,Qq]
  cases p c with
  | false=>exact Qd _
  | true=>exact Nat.succ_le_succ ih
theorem headP_lt {p:Nat→Bool} {u v:List Nat} {k:Nat} (h:k < u.length):headP p (u.drop k)=headP p ((u++v).drop k):=by
 rw [List.drop_append_of_le_length (Nat.le_of_lt h)]
 cases hd:u.drop k with
 | nil=>have:=List.drop_eq_nil_iff.mp hd; exact (R15 h this).elim
 | cons c t=>rfl
theorem headP_ge {p:Nat→Bool} {u:List Nat} {k:Nat} (h:u.length≤k):headP p (u.drop k)=false:=by
 rw [Qp h]; rfl
theorem headP_mono {p:Nat→Bool} {u v:List Nat} {k:Nat} (h:headP p (u.drop k)=true):headP p ((u++v).drop k)=true:=by
 by_cases hk:k < u.length
 ·rw [← headP_lt hk]; exact h
 ·rw [headP_ge (by exact ar2 (.im (.nt (.lt .v1 .v0)) (.le .v0 .v1)) rfl hk)] at h; cases h
theorem headP_no {p:Nat→Bool} {u v:List Nat} {k:Nat} (h:headP p ((u++v).drop k)=false):headP p (u.drop k)=false:=by
 cases hq:headP p (u.drop k) with
 | false=>rfl
 | true=>rw [headP_mono hq] at h; cases h
theorem hexRun_app {u v:List Nat} (h:(hexRun (u++v)).length≤u.length):hexRun u=hexRun (u++v):=by
 have h6:=hexRun_len (u++v)
 unfold hexRun at h h6 ⊢
 rw [List.take_append] at h h6 ⊢
 exact tw_app _ _ (by rw [Qm]; exact ar2 (.im (.le .v0 (.n 6)) (.im (.le .v0 .v1) (.le .v0 (.i (.n 6) .v1)))) rfl h6 h)
theorem esc_app {u v:List Nat} (hu:u≠[]) (h:(esc (u++v)).2≤u.length):esc u=esc (u++v):=by
 have hx:(hexRun (u++v)).length≤u.length:=by
  by_cases e:hexRun (u++v)=[]
  ·rw [e]; exact Nat.zero_le _
  ·unfold esc at h
   rw [if_neg e] at h
   dsimp only at h
   exact R4 h
 have hr:=hexRun_app hx
 unfold esc at h ⊢
 rw [hr]
 by_cases e:hexRun (u++v)=[]
 ·rw [if_pos e,if_pos e]
  cases u with
  | nil=>exact absurd rfl hu
  | cons c t=>rfl
 ·rw [if_neg e] at h
  rw [if_neg e,if_neg e]
  dsimp only at h
  congr 2
  cases hw:headP isWs ((u++v).drop (hexRun (u++v)).length) with
  | false=>rw [headP_no hw]
  | true =>
   rw [hw,if_pos rfl] at h
   rw [headP_lt (v:=v) (by omega),hw]
theorem esc_pos {r:List Nat} (h:r≠[]):1≤(esc r).2:=by
 unfold esc
 by_cases e:hexRun r=[]
 ·rw [if_pos e]
  cases r with
  | nil=>exact absurd rfl h
  | cons c t=>exact Qd _
 ·rw [if_neg e]
  have:=Qn e
  dsimp only; exact ar2 (.im (.lt .n0 .v0) (.le .n1 (.a .v0 .v1))) rfl this
theorem escOk_iff (c:Nat) (t:List Nat):escOk (c::t)=(c==92&&!(t.head?==some 10)):=by
 unfold escOk
 cases t with
 | nil=>cases h:c==92 with
  | false=>rw [show (List.take 1 [c]==[92])=(c==92) from beq_one c 92,h]; rfl
  | true=>have:=eq_of_beq h; subst this; rfl
 | cons d r =>
  rw [show (List.take 1 (c::d::r)==[92])=(c==92) from beq_one c 92]
  cases h:c==92 with
  | false=>rfl
  | true =>
   have:=eq_of_beq h; subst this
   show (true&&!([92,d]==[92,10]))=(true&&!(some d==some 10))
   congr 2
   by_cases hd:d=10
   ·subst hd; rfl
   ·rw [Qk fun e=>hd (by simpa using e),Qk fun e=>hd (Option.some.inj e)]
theorem head_app {u v:List Nat} (h:u≠[]):(u++v).head?=u.head?:=by
 cases u with
 | nil=>exact absurd rfl h
 | cons c t=>rfl
theorem drop_app {u v:List Nat} {k:Nat} (h:k≤u.length):(u++v).drop k=u.drop k++v:=List.drop_append_of_le_length h
theorem ident_app {v:List Nat} (hv:v≠[]):∀ (n:Nat) (u:List Nat),u.length≤n→(ident (u++v)).2≤u.length→(v.head?=some 10→u.drop (ident (u++v)).2≠[92])→ident u=ident (u++v):=by
 have nil:(ident v).2≤0→ident []=ident v:=fun h=>by
  cases v with
  | nil=>exact absurd rfl hv
  | cons c t =>
   rw [ident_cons] at h ⊢
   split at h
   ·simp at h
   ·rename_i h1
    split at h
    ·simp at h
    ·rename_i h2
     rw [if_neg h1,if_neg h2,ident_nil]
 intro n
 induction n with
 | zero =>
  intro u hu h _
  have:=Ql (Nat.le_zero.mp hu)
  subst this
  exact nil h
 | succ n ih =>
  intro u hu h hb
  cases u with
  | nil=>exact nil h
  | cons c t =>
  have ht:t.length≤n:=Nat.le_of_succ_le_succ hu
  rw [Qj,ident_cons] at h hb
  rw [Qj,ident_cons,ident_cons]
  by_cases h1:isNm c=true
  ·rw [if_pos h1] at h hb
   rw [if_pos h1,if_pos h1,ih t ht (Nat.le_of_succ_le_succ h) hb]
  rw [if_neg h1] at h hb
  rw [if_neg h1,if_neg h1]
  by_cases h2:escOk (c::(t++v))=true
  ·rw [if_pos h2] at h hb
   rw [if_pos h2]
   have hp:=esc_pos (r:=t++v) (by simp [hv])
   have htn:t≠[]:=by
    intro e; subst e
    simp only [List.length_cons,List.length_nil] at h
    exact R69 h hp
   have h3:escOk (c::t)=true:=by
    rw [escOk_iff,head_app htn] at h2
    rw [escOk_iff]; exact h2
   simp only [List.length_cons] at h
   have he:=esc_app (v:=v) htn (by exact R16 h)
   rw [if_pos h3,he]
   have hl:(esc (t++v)).2≤t.length:=by exact R16 h
   rw [drop_app hl] at h hb ⊢
   rw [ih (t.drop (esc (t++v)).2) (by rw [Qa]; exact R5 ht) (by rw [Qa]; exact R70 h) (fun e=>?_)]
   have:=hb e
   rw [Qe]
   rw [show (ident (t.drop (esc (t++v)).2++v)).2+(esc (t++v)).2+1=((esc (t++v)).2+(ident (t.drop (esc (t++v)).2++v)).2)+1 by exact ar2 (.eq (.a (.a .v0 .v1) .n1) (.a (.a .v1 .v0) .n1)) rfl,List.drop_succ_cons] at this
   exact this
  ·rw [if_neg h2] at h hb
   rw [if_neg h2,if_neg]
   intro h3
   rw [escOk_iff,Qc] at h3
   have hc:=eq_of_beq h3.1
   subst hc
   cases t with
   | cons d r=>exact h2 (by rw [escOk_iff,head_app (Qt _ _),Qc]; exact h3)
   | nil =>
    rw [escOk_iff] at h2
    have:v.head?=some 10:=by
     cases hq:v.head?==some 10 with
     | true=>exact eq_of_beq hq
     | false=>rw [List.nil_append,hq] at h2; exact absurd rfl h2
    exact hb this rfl
theorem ite_par {α:Type} {C:α→Prop} {b b':Bool} {x y x' y':α} (h1:b=true→C x→b'=true∧x'=x) (h2:b=false→C y→b'=false∧y'=y) (h:C (if b=true then x else y)):(if b'=true then x' else y')=(if b=true then x else y):=by
 cases hb:b with
 | true =>
  rw [hb,if_pos rfl] at h
  have:=h1 hb h
  rw [this.1,if_pos rfl,if_pos rfl,this.2]
 | false =>
  rw [hb,if_neg bn] at h
  have:=h2 hb h
  rw [this.1,if_neg bn,if_neg bn,this.2]
theorem ite_same {α:Type} {C:α→Prop} {b:Bool} {x y x' y':α} (h1:b=true→C x→x'=x) (h2:b=false→C y→y'=y):C (if b=true then x else y)→(if b=true then x' else y')=(if b=true then x else y) :=
 ite_par (fun e h=>⟨e,h1 e h⟩) (fun e h=>⟨e,h2 e h⟩)
theorem ite_no {α:Type} {C:α→Prop} {b:Bool} {x y:α} (h1:¬ C x) (h2:¬ C y):¬ C (if b=true then x else y):=by
 cases b
 ·exact h2
 ·exact h1
theorem beqn {w:List Nat} (h:w≠[]):(w==[])=false:=by
 cases w with
 | nil=>exact absurd rfl h
 | cons=>rfl
noncomputable def GQ (l:Nat) (x:QR):Prop:=x.st≠2∧x.n≤l∧(x.st=1→x.n < l)
theorem GQ.sub {l m k:Nat} {w:List Nat} {x:QR} (h:GQ l ⟨w,x.n+k,x.st⟩) (e:l=m+k):GQ m x:=by
 subst e
 exact ⟨h.1,Nat.le_of_add_le_add_right h.2.1,fun q=>Nat.lt_of_add_lt_add_right (h.2.2 q)⟩
theorem GQ.no {n:Nat} {w:List Nat} {s:Nat} (h:GQ 0 ⟨w,n+1,s⟩):False:=Nat.not_succ_le_zero _ h.2.1
theorem qstr_app {q:Nat} {v:List Nat} (hv:v≠[]):∀ (n:Nat) (u:List Nat),u.length≤n→GQ u.length (qstr q (u++v))→qstr q u=qstr q (u++v):=by
 have nil:GQ 0 (qstr q v)→qstr q []=qstr q v:=fun h=>by
  refine absurd h ?_
  clear h
  cases v with
  | nil=>exact absurd rfl hv
  | cons c t =>
   rw [qstr_cons]
   exact ite_no GQ.no (ite_no (ite_no GQ.no (ite_no GQ.no GQ.no)) (ite_no (fun h=>Nat.lt_irrefl _ (h.2.2 rfl)) GQ.no))
 intro n
 induction n with
 | zero =>
  intro u hu
  have:=Ql (Nat.le_zero.mp hu)
  subst this
  exact nil
 | succ n ih =>
  intro u hu
  cases u with
  | nil=>exact nil
  | cons c t =>
  have ht:t.length≤n:=Nat.le_of_succ_le_succ hu
  clear hu nil
  rw [Qj,qstr_cons,qstr_cons]
  refine ite_same (fun _ _=>rfl) (fun _=>ite_same (fun _=>?_) (fun _=>ite_same (fun _ _=>rfl) (fun _ h=>?_)))
  ·have hvt:t++v≠[]:=fun e=>hv (Qv e).2
   have hp:=esc_pos hvt
   rw [beqn hvt,if_neg bn]
   intro h
   have htn:t≠[]:=fun e=>by
    subst e
    exact absurd h (ite_no (fun h=>Nat.not_succ_le_zero _ (Nat.le_of_succ_le_succ h.2.1)) (fun h=>absurd (Nat.le_trans hp (Nat.le_trans (Nat.le_add_left _ _) (Nat.le_of_succ_le_succ h.2.1))) (by decide)))
   rw [beqn htn,if_neg bn]
   revert h
   rw [head_app htn]
   refine ite_same (fun _ h=>?_) (fun _ h=>?_)
   ·have hl:1≤t.length:=Qn htn
    rw [drop_app hl] at h ⊢
    rw [ih (t.drop 1) (by rw [Qa]; exact Nat.le_trans (Nat.sub_le _ _) ht) (h.sub (k:=2) (by rw [Qa,Qb]; omega))]
   ·have hl:(esc (t++v)).2≤t.length:=Nat.le_trans (Nat.le_add_left _ _) (Nat.le_of_succ_le_succ h.2.1)
    rw [esc_app htn hl]
    rw [drop_app hl] at h ⊢
    rw [ih (t.drop (esc (t++v)).2) (by rw [Qa]; exact Nat.le_trans (Nat.sub_le _ _) ht) (GQ.sub (k:=(esc (t++v)).2+1) h (by rw [Qa,Qb]; omega))]
  ·rw [ih t ht (h.sub (k:=1) rfl)]
theorem urlB_pos {r:List Nat} (h:r≠[]):1≤(urlB r).n:=by
 cases r with
 | nil=>exact absurd rfl h
 | cons c t =>
  rw [urlB_cons]
  split
  ·exact Qd _
  split
  ·exact Qd _
  split
  ·exact Nat.le_add_left _ _
  split
  ·exact Qd _
  ·exact Nat.le_add_left _ _
theorem urlB_app {v:List Nat} (hv:v≠[]):∀ (n:Nat) (u:List Nat),u.length≤n→(urlB (u++v)).st≠2→(urlB (u++v)).n≤u.length→urlB u=urlB (u++v):=by
 intro n
 induction n with
 | zero =>
  intro u hu h1 h2
  have:=Ql (Nat.le_zero.mp hu)
  subst this
  have:=urlB_pos hv
  exact absurd (Nat.le_trans this h2) (by decide)
 | succ n ih =>
  intro u hu h1 h2
  cases u with
  | nil =>
   have:=urlB_pos hv
   exact absurd (Nat.le_trans this h2) (by decide)
  | cons c t =>
  have ht:t.length≤n:=Nat.le_of_succ_le_succ hu
  rw [Qj,urlB_cons] at h1 h2
  rw [Qj,urlB_cons,urlB_cons]
  simp only [List.length_cons] at h2
  by_cases g1:(c==41)=true
  ·rw [if_pos g1,if_pos g1]
  rw [if_neg g1] at h1 h2
  rw [if_neg g1,if_neg g1]
  by_cases g2:isWs c=true
  ·rw [if_pos g2,if_pos g2]
  rw [if_neg g2] at h1 h2
  rw [if_neg g2,if_neg g2]
  have hvn:t++v≠[]:=by simp [hv]
  by_cases g3:escOk (c::(t++v))=true
  ·rw [if_pos g3] at h1 h2
   rw [if_pos g3]
   dsimp only at h1 h2
   have hp:=esc_pos hvn
   have htn:t≠[]:=by
    intro e; subst e
    simp only [List.length_nil] at h2
    exact R69 h2 hp
   rw [if_pos (by rw [escOk_iff,← head_app (v:=v) htn,← escOk_iff]; exact g3)]
   have hl:(esc (t++v)).2≤t.length:=by exact R16 h2
   rw [esc_app htn hl]
   rw [drop_app hl] at h1 h2 ⊢
   rw [ih (t.drop (esc (t++v)).2) (by rw [Qa]; exact R5 ht) h1 (by rw [Qa]; exact R70 h2)]
  rw [if_neg g3] at h1 h2
  rw [if_neg g3]
  by_cases g4:isBadU c=true
  ·rw [if_pos g4]
   have:escOk (c::t)=false:=by
    rw [escOk_iff]
    cases hc:c==92 with
    | false=>rfl
    | true=>have:=eq_of_beq hc; subst this; exact absurd g4 (by decide)
   rw [this,if_neg bn,if_pos g4]
  rw [if_neg g4] at h1 h2
  rw [if_neg g4]
  dsimp only at h1 h2
  have htn:t≠[]:=by
   intro e; subst e
   have:=urlB_pos hv
   simp only [List.length_nil,List.nil_append] at h2
   exact R71 h2 this
  rw [if_neg (by rw [escOk_iff,← head_app (v:=v) htn,← escOk_iff]; exact g3),if_neg g4,ih t ht h1 (by exact R8 h2)]
theorem urlRem_pos {r:List Nat} (h:r≠[]):1≤urlRem r:=by
 cases r with
 | nil=>exact absurd rfl h
 | cons c t =>
  cases t with
  | nil=>exact Qd _
  | cons e t =>
   rw [urlRem_cons]
   split
   ·exact Nat.le_add_left _ _
   split
   ·exact Qd _
   ·exact Nat.le_add_left _ _
theorem urlRem_app {v:List Nat} (hv:v≠[]):∀ (n:Nat) (u:List Nat),u.length≤n→urlRem (u++v)≤u.length→urlRem u=urlRem (u++v):=by
 intro n
 induction n with
 | zero =>
  intro u hu h2
  have:=Ql (Nat.le_zero.mp hu)
  subst this
  have:=urlRem_pos hv
  exact absurd (Nat.le_trans this h2) (by decide)
 | succ n ih =>
  intro u hu h2
  cases u with
  | nil =>
   have:=urlRem_pos hv
   exact absurd (Nat.le_trans this h2) (by decide)
  | cons c t =>
  cases t with
  | nil =>
   cases v with
   | nil=>exact absurd rfl hv
   | cons e v =>
    have h2:urlRem (c::e::v)≤1:=h2
    show 1=urlRem (c::e::v)
    have h3:=urlRem_pos (r:=c::e::v) (Qt _ _)
    exact ar1 (.im (.le .n1 .v0) (.im (.le .v0 .n1) (.eq .n1 .v0))) rfl h3 h2
  | cons e t =>
   have ht:t.length+1≤n:=Nat.le_of_succ_le_succ hu
   have h2:urlRem (c::e::(t++v))≤t.length+2:=h2
   show urlRem (c::e::t)=urlRem (c::e::(t++v))
   rw [urlRem_cons] at h2 ⊢
   rw [urlRem_cons]
   by_cases g1:(c==92&&e==41)=true
   ·rw [if_pos g1] at h2
    rw [if_pos g1,if_pos g1,ih t (by exact R3 ht) (by exact ar2 (.im (.le (.a .v0 (.n 2)) (.a .v1 (.n 2))) (.le .v0 .v1)) rfl h2)]
   rw [if_neg g1] at h2
   rw [if_neg g1,if_neg g1]
   by_cases g2:(c==41)=true
   ·rw [if_pos g2,if_pos g2]
   rw [if_neg g2] at h2
   rw [if_neg g2,if_neg g2]
   have:=ih (e::t) ht (by show urlRem (e::(t++v))≤t.length+1; exact ar2 (.im (.le (.a .v0 .n1) (.a .v1 (.n 2))) (.le .v0 (.a .v1 .n1))) rfl h2)
   rw [this]; rfl
theorem wsN_app {u v:List Nat} (h:wsN (u++v)≤u.length):wsN u=wsN (u++v):=by
 unfold wsN at h ⊢
 rw [tw_app v u h]
set_option tactic.hygienic true in
theorem urlR_ws {u v:List Nat} (h1:(urlR (u++v)).err≠1) (h2:(urlR (u++v)).n≤u.length):wsN (u++v) < u.length:=by
 unfold urlR at h1 h2
 cases hd:(u++v).drop (wsN (u++v)) with
 | nil=>rw [hd] at h1; exact absurd rfl h1
 | cons c t =>
  rw [hd] at h1 h2
  dsimp only at h1 h2
  split at h2
  ·exact h2
  ·have hp:=urlB_pos (r:=c::t) (Qt _ _)
   generalize urlB (c::t)=b at hp h2
   unfold urlT at h2
   split at h2
   ·dsimp only at h2; exact R17 h2 hp
   ·dsimp only at h2; exact R17 h2 hp
   ·split at h2
    ·dsimp only at h2; exact R72 h2 hp
    ·split at h2 <;> (dsimp only at h2; (first | exact ar4 (.im (.le (.a (.a (.a .v0 .v2) .v3) .n1) .v1) (.lt .v0 .v1)) rfl h2 | exact ar5 (.im (.le (.a (.a (.a .v0 .v2) .v3) .v4) .v1) (.im (.le .n1 .v2) (.lt .v0 .v1))) rfl h2 hp))
   ·dsimp only at h2; exact R72 h2 hp
set_option tactic.hygienic true in
theorem urlR_app {u v:List Nat} (hv:v≠[]) (h1:(urlR (u++v)).err≠1) (h2:(urlR (u++v)).n≤u.length):urlR u=urlR (u++v):=by
 have hw:=urlR_ws h1 h2
 have hws:=wsN_app (Nat.le_of_lt hw)
 unfold urlR at h1 h2 ⊢
 rw [hws]
 generalize wsN (u++v)=k at *
 rw [drop_app (Nat.le_of_lt hw)] at h1 h2 ⊢
 cases hd:u.drop k with
 | nil=>have:=List.drop_eq_nil_iff.mp hd; exact (R15 hw this).elim
 | cons c t =>
 have hl:u.length=k+(t.length+1):=by
  have:=congrArg List.length hd
  rw [Qa,Qb] at this; exact ar3 (.im (.eq (.s .v0 .v1) (.a .v2 .n1)) (.eq .v0 (.a .v1 (.a .v2 .n1)))) rfl this
 rw [hd,Qj] at h1 h2
 dsimp only at h1 h2
 rw [Qj]
 dsimp only
 by_cases g1:(c==41)=true
 ·rw [if_pos g1,if_pos g1]
 rw [if_neg g1] at h1 h2
 rw [if_neg g1,if_neg g1]
 have key:(urlB (c::(t++v))).st≠2∧(urlB (c::(t++v))).n≤t.length+1:=by
  generalize urlB (c::(t++v))=b at h1 h2
  unfold urlT at h1 h2
  split at h2
  ·rename_i e; rw [e]; dsimp only at h2; exact ⟨by decide,by exact ar4 (.im (.le (.a .v2 .v0) .v3) (.im (.eq .v3 (.a .v2 (.a .v1 .n1))) (.le .v0 (.a .v1 .n1)))) rfl h2 hl⟩
  ·rename_i e; rw [e] at h1; exact absurd rfl h1
  ·rename_i e
   rw [e]
   refine ⟨by decide,?_⟩
   split at h2
   ·dsimp only at h2; exact R73 h2 hl
   ·split at h2 <;> (dsimp only at h2; (first | exact ar5 (.im (.le (.a (.a (.a .v2 .v0) .v3) .n1) .v4) (.im (.eq .v4 (.a .v2 (.a .v1 .n1))) (.le .v0 (.a .v1 .n1)))) rfl h2 hl | exact ar6 (.im (.le (.a (.a (.a .v2 .v0) .v3) .v4) .v5) (.im (.eq .v5 (.a .v2 (.a .v1 .n1))) (.le .v0 (.a .v1 .n1)))) rfl h2 hl))
  ·rename_i e1 e2 e3
   exact ⟨e2,by dsimp only at h2; exact R73 h2 hl⟩
 have hB:=urlB_app hv _ (c::t) (Qd _) key.1 key.2
 rw [hB]
 have hB2:urlB (c::t++v)=urlB (c::(t++v)):=rfl
 rw [hB2]
 generalize urlB (c::(t++v))=b at h1 h2 key
 unfold urlT at h1 h2 ⊢
 have hdr:(c::(t++v)).drop b.n=(c::t).drop b.n++v:=drop_app (u:=c::t) key.2
 rw [hdr] at h1 h2 ⊢
 have hbl:((c::t).drop b.n).length=t.length+1 - b.n:=by rw [Qa,Qb]
 split at h2
 ·rfl
 ·rename_i e; rw [e] at h1; try exact absurd rfl h1
 ·rename_i e
  rw [e] at h1
  have hx:∀ m,(c::(t++v)).drop (b.n+m)=((c::t).drop b.n++v).drop m:=fun m=>by rw [← Qe,hdr]
  have hy:∀ m,(c::t).drop (b.n+m)=((c::t).drop b.n).drop m:=fun m=>by rw [← Qe]
  rw [hx] at h1 h2 ⊢
  rw [hy]
  generalize (c::t).drop b.n=z at h1 h2 hbl ⊢
  try dsimp only at h1 h2
  have hwz:wsN (z++v) < z.length:=by
   cases hd2:(z++v).drop (wsN (z++v)) with
   | nil=>rw [hd2] at h1; exact absurd rfl h1
   | cons e' t' =>
    rw [hd2] at h1 h2
    dsimp only at h1 h2
    split at h2
    ·dsimp only at h2; exact ar6 (.im (.le (.a (.a (.a .v2 .v3) .v0) .n1) .v4) (.im (.eq .v1 (.s (.a .v5 .n1) .v3)) (.im (.eq .v4 (.a .v2 (.a .v5 .n1))) (.lt .v0 .v1)))) rfl h2 hbl hl
    ·have:=urlRem_pos (r:=e'::t') (Qt _ _)
     dsimp only at h2; exact ar7 (.im (.le (.a (.a (.a .v2 .v3) .v0) .v4) .v5) (.im (.le .n1 .v4) (.im (.eq .v1 (.s (.a .v6 .n1) .v3)) (.im (.eq .v5 (.a .v2 (.a .v6 .n1))) (.lt .v0 .v1))))) rfl h2 this hbl hl
  rw [wsN_app (Nat.le_of_lt hwz)]
  generalize wsN (z++v)=m at *
  rw [drop_app (Nat.le_of_lt hwz)] at h1 h2 ⊢
  cases hd3:z.drop m with
  | nil=>have:=List.drop_eq_nil_iff.mp hd3; exact (R15 hwz this).elim
  | cons e' t' =>
   rw [hd3,Qj] at h1 h2
   rw [Qj]
   dsimp only at h1 h2 ⊢
   have hzl:=congrArg List.length hd3
   rw [Qa,Qb] at hzl
   by_cases g2:(e'==41)=true
   ·rw [if_pos g2,if_pos g2]
   ·rw [if_neg g2] at h2
    rw [if_neg g2,if_neg g2]
    dsimp only at h2
    rw [urlRem_app (v:=v) hv _ (e'::t') (Qd _) (by show urlRem (e'::(t'++v))≤t'.length+1; exact ar8 (.im (.le (.a (.a (.a .v2 .v3) .v4) .v0) .v5) (.im (.eq (.s .v6 .v4) (.a .v1 .n1)) (.im (.eq .v6 (.s (.a .v7 .n1) .v3)) (.im (.eq .v5 (.a .v2 (.a .v7 .n1))) (.le .v0 (.a .v1 .n1)))))) rfl h2 hzl hbl hl)]
    rfl
 ·rename_i e1 e2 e3
  dsimp only at h2
  rw [urlRem_app hv _ _ (Qd _) (by rw [hbl]; exact ar5 (.im (.le (.a (.a .v3 .v2) .v0) .v4) (.im (.eq .v4 (.a .v3 (.a .v1 .n1))) (.le .v0 (.s (.a .v1 .n1) .v2)))) rfl h2 hl)]
theorem comEnd_app {v:List Nat}:∀ (u:List Nat) (k:Nat),comEnd (u++v)=some k→k+2≤u.length→comEnd u=some k:=by
 intro u
 induction u with
 | nil=>intro k _ h; exact absurd h (by simp)
 | cons c t ih =>
  intro k h hk
  rw [Qj,comEnd] at h
  rw [comEnd]
  by_cases g:(c==42&&headP (·==47) (t++v))=true
  ·rw [if_pos g] at h
   cases h
   rw [if_pos]
   cases t with
   | nil=>simp at hk
   | cons d r=>exact g
  ·rw [if_neg g] at h
   rw [if_neg]
   ·cases hc:comEnd (t++v) with
    | none=>rw [hc] at h; cases h
    | some j =>
     rw [hc] at h
     cases h
     rw [ih j hc (by simp only [List.length_cons] at hk; exact ar2 (.im (.le (.a (.a .v0 .n1) (.n 2)) (.a .v1 .n1)) (.le (.a .v0 (.n 2)) .v1)) rfl hk)]
     rfl
   ·intro q
    rw [Qc] at q
    refine g ?_
    rw [Qc]
    exact ⟨q.1,headP_mono (k:=0) q.2⟩
theorem digs_app {u v:List Nat} (h:digs (u++v)≤u.length):digs u=digs (u++v):=by
 unfold digs at h ⊢
 rw [tw_app v u h]
theorem expo_app {u v:List Nat} (h:expo (u++v)≤u.length):expo u=expo (u++v):=by
 by_cases hE:headP isE (u++v)=true
 ·unfold expo at h ⊢
  rw [if_pos hE] at h
  rw [if_pos hE]
  generalize hz:(1+if headP isSg ((u++v).drop 1)=true then 1 else 0)=z at h
  by_cases hD:headP isDig ((u++v).drop z)=true
  ·rw [if_pos hD] at h
   rw [if_pos hD]
   have hdp:=digs_pos hD
   have hzu:z < u.length:=by exact R17 h hdp
   have h1:headP isE u=true:=by
    have:=headP_lt (p:=isE) (v:=v) (show 0 < u.length by exact ar4 (.im (.eq (.a .n1 .v1) .v2) (.im (.le (.a .v2 .v3) .v0) (.lt .n0 .v0))) rfl hz h)
    rw [List.drop_zero,List.drop_zero] at this
    rw [this]; exact hE
   have h2:(1+if headP isSg (u.drop 1)=true then 1 else 0)=z:=by
    rw [← hz]
    cases hs:headP isSg ((u++v).drop 1) with
    | false=>rw [headP_no hs]
    | true =>
     rw [hs,if_pos rfl] at hz
     rw [headP_lt (v:=v) (show 1 < u.length by exact ar3 (.im (.eq (.a .n1 .n1) .v1) (.im (.le (.a .v1 .v2) .v0) (.lt .n1 .v0))) rfl hz h),hs]
   rw [if_pos h1,h2,if_pos (by rw [headP_lt (v:=v) hzu]; exact hD)]
   rw [drop_app (Nat.le_of_lt hzu)] at h ⊢
   rw [digs_app (v:=v) (by rw [Qa]; exact ar3 (.im (.le (.a .v2 .v0) .v1) (.le .v0 (.s .v1 .v2))) rfl h)]
  ·rw [if_neg hD]
   by_cases h1:headP isE u=true
   ·rw [if_pos h1,if_neg]
    intro q
    have hsg:(1+if headP isSg (u.drop 1)=true then 1 else 0)=z:=by
     rw [← hz]
     cases hs:headP isSg ((u++v).drop 1) with
     | false=>rw [headP_no hs]
     | true =>
      by_cases hl:1 < u.length
      ·rw [headP_lt (v:=v) hl,hs]
      ·rw [headP_ge (by exact ar2 (.im (.nt (.lt .n1 .v0)) (.le .v0 (.a .n1 .v1))) rfl hl)] at q
       cases q
    rw [hsg] at q
    exact hD (headP_mono q)
   ·rw [if_neg h1]
 ·unfold expo
  rw [if_neg hE,if_neg]
  intro q
  exact hE (by have:=headP_mono (v:=v) (k:=0) (by rw [List.drop_zero]; exact q); rw [List.drop_zero] at this; exact this)
theorem and2_lt {p q:Nat→Bool} {u v:List Nat} {a b:Nat} (h:a < u.length) (h':b < u.length):(headP p (u.drop a)&&headP q (u.drop b))=(headP p ((u++v).drop a)&&headP q ((u++v).drop b)):=by
 rw [headP_lt (v:=v) h,headP_lt (v:=v) h']
theorem numEnd_some {u v:List Nat} {n:Nat} {b:Bool} (h:numEnd (u++v)=some (n,b)) (hn:n≤u.length):numEnd u=some (n,b):=by
 have hpos:=(numEnd_le h).1
 have hu:0 < u.length:=by exact ar2 (.im (.le .n1 .v1) (.im (.le .v1 .v0) (.lt .n0 .v0))) rfl hpos hn
 have h0:headP isSg u=headP isSg (u++v):=by
  have:=headP_lt (p:=isSg) (v:=v) hu
  rwa [List.drop_zero,List.drop_zero] at this
 unfold numEnd at h ⊢
 rw [h0]
 have hau:(if headP isSg (u++v)=true then 1 else 0)≤u.length:=by split <;> first | assumption | exact ar1 (.le .n0 .v0) rfl
 generalize (if headP isSg (u++v)=true then 1 else 0)=a at *
 dsimp only at h ⊢
 have hda:(u++v).drop a=u.drop a++v:=drop_app hau
 rw [hda] at h
 by_cases g:(headP (·==46) ((u++v).drop (a+digs (u.drop a++v)))&&headP isDig ((u++v).drop (a+digs (u.drop a++v)+1)))=true
 ·rw [if_pos g] at h
  have h:=Option.some.inj h
  have h1:=congrArg Prod.fst h
  dsimp only at h1
  have hd:digs (u.drop a)=digs (u.drop a++v):=digs_app (by rw [Qa]; exact ar6 (.im (.eq (.a (.a (.a (.a .v2 .v0) (.n 2)) .v3) .v4) .v5) (.im (.le .v5 .v1) (.le .v0 (.s .v1 .v2)))) rfl h1 hn)
  rw [hd]
  generalize a+digs (u.drop a++v)=m at *
  have hc:(u++v).drop (m+2)=u.drop (m+2)++v:=drop_app (by exact ar5 (.im (.eq (.a (.a (.a .v0 (.n 2)) .v2) .v3) .v4) (.im (.le .v4 .v1) (.le (.a .v0 (.n 2)) .v1))) rfl h1 hn)
  rw [hc] at h h1
  have hd2:digs (u.drop (m+2))=digs (u.drop (m+2)++v):=digs_app (by rw [Qa]; exact ar5 (.im (.eq (.a (.a (.a .v2 (.n 2)) .v0) .v3) .v4) (.im (.le .v4 .v1) (.le .v0 (.s .v1 (.a .v2 (.n 2)))))) rfl h1 hn)
  rw [if_pos ((and2_lt (v:=v) (by exact ar5 (.im (.eq (.a (.a (.a .v0 (.n 2)) .v2) .v3) .v4) (.im (.le .v4 .v1) (.lt .v0 .v1))) rfl h1 hn) (by exact ar5 (.im (.eq (.a (.a (.a .v0 (.n 2)) .v2) .v3) .v4) (.im (.le .v4 .v1) (.lt (.a .v0 .n1) .v1))) rfl h1 hn)).trans g),hd2]
  generalize m+2+digs (u.drop (m+2)++v)=k at *
  rw [drop_app (show k≤u.length by exact R74 h1 hn)] at h h1
  rw [expo_app (v:=v) (by rw [Qa]; exact R75 h1 hn),h]
 ·rw [if_neg g] at h
  split at h
  ·cases h
  ·rename_i hne
   have h:=Option.some.inj h
   have h1:=congrArg Prod.fst h
   dsimp only at h1
   have hd:digs (u.drop a)=digs (u.drop a++v):=digs_app (by rw [Qa]; exact ar5 (.im (.eq (.a (.a .v2 .v0) .v3) .v4) (.im (.le .v4 .v1) (.le .v0 (.s .v1 .v2)))) rfl h1 hn)
   rw [hd]
   generalize a+digs (u.drop a++v)=m at *
   rw [if_neg (fun q=>g (by rw [Qc] at q ⊢; exact ⟨headP_mono q.1,headP_mono q.2⟩)),if_neg hne]
   rw [drop_app (show m≤u.length by exact R74 h1 hn)] at h h1
   rw [expo_app (v:=v) (by rw [Qa]; exact R75 h1 hn),h]
theorem numEnd_none {u v:List Nat} (h:numEnd (u++v)=none):numEnd u=none:=by
 by_cases hu:0 < u.length
 ·have h0:headP isSg u=headP isSg (u++v):=by
   have:=headP_lt (p:=isSg) (v:=v) hu
   rwa [List.drop_zero,List.drop_zero] at this
  unfold numEnd at h ⊢
  rw [h0]
  have hau:(if headP isSg (u++v)=true then 1 else 0)≤u.length:=by split <;> first | assumption | exact ar1 (.le .n0 .v0) rfl
  generalize (if headP isSg (u++v)=true then 1 else 0)=a at *
  dsimp only at h ⊢
  rw [drop_app hau] at h
  have hmo:digs (u.drop a)≤digs (u.drop a++v):=tw_mono v _
  split at h
  ·cases h
  ·rename_i g
   split at h
   ·rename_i h2
    have hd:digs (u.drop a)=0:=by exact ar3 (.im (.eq (.a .v1 .v2) .v1) (.im (.le .v0 .v2) (.eq .v0 .n0))) rfl h2 hmo
    have hd2:digs (u.drop a++v)=0:=by exact ar2 (.im (.eq (.a .v1 .v0) .v1) (.eq .v0 .n0)) rfl h2
    rw [hd2] at g
    rw [hd,if_neg (fun q=>g (by rw [Qc] at q ⊢; exact ⟨headP_mono q.1,headP_mono q.2⟩)),if_pos (Nat.add_zero a)]
   ·cases h
 ·have:u=[]:=Ql (by exact ar1 (.im (.nt (.lt .n0 .v0)) (.eq .v0 .n0)) rfl hu)
  subst this
  rfl
theorem qRun_app {u v:List Nat} (hk:hexRun u=hexRun (u++v)) (hl:(hexRun (u++v)).length+(qRun (u++v)).length≤u.length):qRun u=qRun (u++v):=by
 have h6:=qRun_len (u++v)
 have hm:(qRun (u++v)).length≤((u.drop (hexRun (u++v)).length).take (6 - (hexRun (u++v)).length)).length:=by rw [Qm,Qa]; exact ar3 (.im (.le (.a .v1 .v0) (.n 6)) (.im (.le (.a .v1 .v0) .v2) (.le .v0 (.i (.s (.n 6) .v1) (.s .v2 .v1))))) rfl h6 hl
 have hkl:(hexRun (u++v)).length≤u.length:=by exact R4 hl
 unfold qRun at hm ⊢
 rw [hk]
 rw [drop_app hkl,List.take_append] at hm ⊢
 exact tw_app _ _ hm
theorem rng_app {u v:List Nat} (h:(rng (u++v)).n≤u.length):rng u=rng (u++v):=by
 have hx:(hexRun (u++v)).length≤u.length:=by
  unfold rng at h
  split at h
  ·dsimp only at h; exact R4 h
  split at h <;> (dsimp only at h; first | exact h | exact ar3 (.im (.le (.a (.a .v0 .n1) .v2) .v1) (.le .v0 .v1)) rfl h)
 have hk:=hexRun_app hx
 unfold rng at h ⊢
 by_cases g:qRun (u++v)=[]
 ·rw [if_neg (fun q=>q g)] at h
  have gu:qRun u=[]:=by rw [qRun_app hk (by rw [g]; exact hx),g]
  rw [if_neg (show ¬ qRun (u++v)≠[] from fun q=>q g),if_neg (show ¬ qRun u≠[] from fun q=>q gu),hk]
  generalize hk2:hexRun (u++v)=hr at *
  by_cases g2:(headP (·==45) ((u++v).drop hr.length)&&headP isHex ((u++v).drop (hr.length+1)))=true
  ·rw [if_pos g2] at h
   have g3:=Bool.and_eq_true_iff.mp g2
   have hne:=Qn (hexRun_ne g3.2)
   dsimp only at h
   rw [if_pos g2,if_pos ((and2_lt (v:=v) (by exact ar3 (.im (.le (.a (.a .v0 .n1) .v2) .v1) (.lt .v0 .v1)) rfl h) (by exact ar3 (.im (.le (.a (.a .v0 .n1) .v2) .v1) (.im (.lt .n0 .v2) (.lt (.a .v0 .n1) .v1))) rfl h hne)).trans g2)]
   rw [drop_app (show hr.length+1≤u.length by exact R18 h)] at h ⊢
   rw [hexRun_app (v:=v) (by rw [Qa]; exact ar3 (.im (.le (.a (.a .v2 .n1) .v0) .v1) (.le .v0 (.s .v1 (.a .v2 .n1)))) rfl h)]
  ·rw [if_neg g2,if_neg (fun q=>g2 (by rw [Qc] at q ⊢; exact ⟨headP_mono q.1,headP_mono q.2⟩))]
 ·rw [if_pos g] at h
  dsimp only at h
  have gu:=qRun_app hk h
  rw [if_pos (show qRun (u++v)≠[] from g),if_pos (show qRun u≠[] from by rw [gu]; exact g),gu,hk]
theorem rng_pos {r:List Nat} (h:headP (fun n=>isHex n||n==63) r=true):1≤(rng r).n:=by
 have h1:=(rng_ok r h).1
 have:(rng r).a.length≤(rng r).n:=by
  unfold rng
  split
  ·dsimp only; rw [Qg,List.length_replicate]; exact Qd _
  split <;> (dsimp only; (first | exact ar2 (.le .v0 (.a (.a .v0 .n1) .v1)) rfl | exact ar1 (.le .v0 .v0) rfl))
 have:=Qn h1.1
 exact ar2 (.im (.lt .n0 .v1) (.im (.le .v1 .v0) (.le .n1 .v0))) rfl this ‹_›
theorem ident_pos {r:List Nat} (h:identStart r=true):1≤(ident r).2:=by
 cases r with
 | nil=>cases h
 | cons c t =>
  rw [ident_cons]
  split
  ·exact Nat.le_add_left _ _
  ·rename_i h1
   split
   ·exact Nat.le_add_left _ _
   ·rename_i h2
    exfalso
    unfold identStart at h
    rw [Qu] at h
    rcases h with h | h
    ·exact h1 (by unfold isNS at h; unfold isNm; simp only [Bool.or_eq_true] at h ⊢; rcases h with ((h | h) | h) | h <;> simp [h])
    ·split at h
     ·rename_i h3
      have:=eq_of_beq h3; subst this
      exact h1 (by decide)
     ·exact h2 h
theorem dash_pos {r:List Nat} (h:(dashStart r||escOk r)=true):1≤(ident r).2:=by
 cases r with
 | nil=>cases h
 | cons c t =>
  rw [ident_cons]
  split
  ·exact Nat.le_add_left _ _
  ·rename_i h1
   split
   ·exact Nat.le_add_left _ _
   ·rename_i h2
    exfalso
    rw [Qu] at h
    rcases h with h | h
    ·have h:(isNS c||c==45)=true:=h
     refine h1 ?_
     unfold isNS at h
     unfold isNm
     simp only [Bool.or_eq_true] at h ⊢
     rcases h with (((h | h) | h) | h) | h <;> simp [h]
    ·exact h2 h
theorem identStart_app {u v:List Nat} (hv:v≠[]) (hF:identStart (u++v)=false→v.head?=some 10→u≠[92]∧u≠[45,92]) (hT:identStart (u++v)=true→(ident (u++v)).2≤u.length):identStart u=identStart (u++v):=by
 cases u with
 | nil =>
  cases h:identStart v with
  | false=>rw [List.nil_append,h]; rfl
  | true =>
   have h1:=ident_pos h
   have h2:=hT h
   exact absurd (Nat.le_trans h1 h2) (by decide)
 | cons c t =>
  cases hr:identStart (c::t++v) with
  | true =>
   have hl:=hT hr
   have hr:(isNS c||(if c==45 then dashStart (t++v)||escOk (t++v) else escOk (c::(t++v))))=true:=hr
   show (isNS c||(if c==45 then dashStart t||escOk t else escOk (c::t)))=true
   rw [Qu] at hr ⊢
   rcases hr with h | h
   ·exact .inl h
   ·right
    by_cases g:(c==45)=true
    ·rw [if_pos g] at h
     rw [if_pos g]
     have hc:=eq_of_beq g
     subst hc
     have hp:=dash_pos h
     rw [Qj,ident_cons,if_pos (by decide)] at hl
     dsimp only at hl
     simp only [List.length_cons] at hl
     cases t with
     | nil=>simp only [List.length_nil] at hl; exact (R71 hl hp).elim
     | cons d t =>
      rw [Qu] at h ⊢
      rcases h with h | h
      ·exact .inl h
      ·right
       rw [Qj,escOk_iff,Qc] at h
       rw [escOk_iff,Qc]
       refine ⟨h.1,?_⟩
       cases t with
       | nil=>rfl
       | cons e t=>exact h.2
    ·rw [if_neg g] at h
     rw [if_neg g]
     rw [escOk_iff,Qc] at h
     rw [escOk_iff,Qc]
     refine ⟨h.1,?_⟩
     cases t with
     | nil=>rfl
     | cons e t=>exact h.2
  | false =>
   have hb:=hF hr
   have hr:(isNS c||(if c==45 then dashStart (t++v)||escOk (t++v) else escOk (c::(t++v))))=false:=hr
   show (isNS c||(if c==45 then dashStart t||escOk t else escOk (c::t)))=false
   rw [Bool.or_eq_false_iff] at hr ⊢
   refine ⟨hr.1,?_⟩
   have hr2:=hr.2
   clear hr
   have key:∀ d t',escOk (d::(t'++v))=false→(v.head?=some 10→d::t'≠[92])→escOk (d::t')=false:=fun d t' h hq=>by
    rw [escOk_iff] at h ⊢
    cases t' with
    | cons e t'=>exact h
    | nil =>
     cases hd:d==92 with
     | false=>rfl
     | true =>
      rw [hd,Qo] at h
      have:v.head?=some 10:=by
       cases hx:v.head?==some 10 with
       | true=>exact eq_of_beq hx
       | false=>rw [List.nil_append,hx] at h; cases h
      exact absurd (by rw [eq_of_beq hd]) (hq this)
   by_cases g:(c==45)=true
   ·rw [if_pos g] at hr2
    rw [if_pos g]
    have hc:=eq_of_beq g
    subst hc
    rw [Bool.or_eq_false_iff] at hr2 ⊢
    cases t with
    | nil=>exact ⟨rfl,rfl⟩
    | cons d t=>exact ⟨hr2.1,key d t hr2.2 fun e q=>(hb e).2 (by rw [q])⟩
   ·rw [if_neg g] at hr2
    rw [if_neg g]
    exact key c t hr2 fun e q=>(hb e).1 q
noncomputable def TT.setP (pl:Nat × Nat):TT→TT | .mk _ k a ts=>.mk pl k a ts
noncomputable def Step.at (pl:Nat × Nat):Step→Step
 | .leaf ts n=>.leaf (ts.map (TT.setP pl)) n
 | .opn _ K N e n=>.opn pl K N e n
 | .cls=>.cls
 | .stop ts=>.stop (ts.map (TT.setP pl))
theorem ite_at {b:Bool} {pl:Nat × Nat} {x y x' y':Step} (h1:x=x'.at pl) (h2:y=y'.at pl):(if b=true then x else y)=(if b=true then x' else y').at pl:=by
 cases b
 ·exact h2
 ·exact h1
theorem strTs_at (pl pl0:Nat × Nat) (q:QR):strTs pl q=(strTs pl0 q).map (TT.setP pl):=by
 unfold strTs; split <;> rfl
theorem urlTs_at (pl pl0:Nat × Nat) (u:UR):urlTs pl u=(urlTs pl0 u).map (TT.setP pl):=by
 unfold urlTs
 rw [List.map_append]
 congr 1
 ·cases u.val <;> rfl
 ·split <;> rfl
theorem step_at (pl pl0:Nat × Nat) (ec:Option Nat) (c:Nat) (t:List Nat):step pl ec c t=(step pl0 ec c t).at pl:=by
 unfold step
 refine ite_at rfl (ite_at rfl (ite_at rfl (ite_at ?_ ?_)))
 ·unfold stepI
  refine ite_at (ite_at ?_ rfl) rfl
  exact congrArg (fun x=>Step.leaf x _) (urlTs_at _ _ _)
 ·cases numEnd (c::t) with
  | some x=>exact ite_at rfl (ite_at rfl rfl)
  | none =>
   unfold stepZ
   refine ite_at (ite_at rfl rfl) (ite_at (ite_at rfl rfl) (ite_at rfl (ite_at rfl (ite_at rfl (ite_at rfl (ite_at rfl (ite_at ?_ (ite_at ?_ (ite_at rfl (ite_at rfl (ite_at (ite_at rfl rfl) rfl)))))))))))
   ·exact congrArg (fun x=>Step.leaf x _) (strTs_at _ _ _)
   ·cases comEnd (t.drop 1) <;> rfl
theorem ite_ec {b:Bool} {x y x' y':Step} (h1:x≠.cls→x'=x) (h2:y≠.cls→y'=y) (h:(if b=true then x else y)≠.cls):(if b=true then x' else y')=(if b=true then x else y):=by
 cases b
 ·exact h2 h
 ·exact h1 h
theorem step_none {pl:Nat × Nat} {ec:Option Nat} {c:Nat} {t:List Nat} (h:step pl ec c t≠.cls):step pl none c t=step pl ec c t:=by
 revert h
 unfold step
 refine ite_ec (fun _=>rfl) (ite_ec (fun _=>rfl) (ite_ec (fun _=>rfl) (ite_ec (fun _=>rfl) ?_)))
 cases numEnd (c::t) with
 | some x=>exact fun _=>rfl
 | none =>
  unfold stepZ
  refine ite_ec (fun _=>rfl) (ite_ec (fun _=>rfl) (ite_ec (fun _=>rfl) (ite_ec (fun _=>rfl) (ite_ec (fun _=>rfl) ?_))))
  intro h
  have:(none==some c)=false:=rfl
  rw [this,if_neg bn]
  cases he:ec==some c with
  | true=>rw [he] at h; exact absurd rfl h
  | false=>rw [if_neg bn]
noncomputable def CT (u v:List Nat):Step→Prop
 | .leaf ts n=>n≤u.length∧ts.length=1∧(v.head?=some 10→u.drop n≠[92]∧u.drop n≠[45,92])∧(∀ t∈ts,t.k=lit "error"→t.a=.str (lit "bad-string")→n < u.length)
 | .opn _ K N _ n=>n≤u.length∧(K=lit "function"→isUrlV N=true→wsN ((u++v).drop n) < (u.drop n).length)
 | .cls=>True
 | .stop _=>False
theorem take_app {u v:List Nat} {n:Nat} (h:n≤u.length):(u++v).take n=u.take n:=List.take_append_of_le_length h
section
variable {v:List Nat} {c:Nat} {t:List Nat} {pl:Nat × Nat} {ec:Option Nat}
theorem head2 {p:Nat→Bool} (h:headP p (t++v)=true) (ht:t≠[]):headP p t=true:=by
 cases t with
 | nil=>exact absurd rfl ht
 | cons d t=>exact h
theorem head2F {p:Nat→Bool} (h:headP p (t++v)=false):headP p t=false:=by
 cases t with
 | nil=>rfl
 | cons d t=>exact h
theorem stepI_take (hv:v≠[]) (h:CT (c::t) v (stepI pl (ident (c::t++v)).1 (ident (c::t++v)).2 (c::t++v))):(ident (c::t++v)).2≤(c::t).length∧stepI pl (ident (c::t)).1 (ident (c::t)).2 (c::t)=stepI pl (ident (c::t++v)).1 (ident (c::t++v)).2 (c::t++v):=by
 have hn:(ident (c::t++v)).2≤(c::t).length∧(v.head?=some 10→(c::t).drop (ident (c::t++v)).2≠[92]):=by
  unfold stepI at h
  generalize (ident (c::t++v)).2=n at h
  generalize c::t=u at h
  cases g:headP (·==40) ((u++v).drop n) with
  | false =>
   rw [g,if_neg bn] at h
   exact ⟨h.1,fun e=>(h.2.2.1 e).1⟩
  | true =>
   rw [g,if_pos rfl] at h
   have h1:n+1≤u.length:=by
    split at h
    ·have:=h.1; exact R18 this
    ·exact h.1
   refine ⟨by exact R3 h1,fun _ e=>?_⟩
   rw [← headP_lt (by omega),e] at g
   cases g
 refine ⟨hn.1,?_⟩
 rw [ident_app hv _ _ (Qd _) hn.1 hn.2]
 revert h
 unfold stepI
 generalize (ident (c::t++v)).2=n at hn
 generalize (ident (c::t++v)).1=x
 generalize c::t=u at hn
 refine ite_par (fun g h=>?_) (fun g h=>⟨headP_no g,rfl⟩)
 have h1:n+1≤u.length:=by
  split at h
  ·have:=h.1; exact R18 this
  ·exact h.1
 refine ⟨by rw [headP_lt (v:=v) (by omega)]; exact g,?_⟩
 have hd:(u++v).drop (n+1)=u.drop (n+1)++v:=drop_app h1
 have hul:(u.drop (n+1)).length=u.length - (n+1):=Qa
 rw [hd] at h ⊢
 have key:isUrl x=true→wsN (u.drop (n+1)++v) < (u.drop (n+1)).length→(!headP isQt ((u.drop (n+1)).drop (wsN (u.drop (n+1)))))=!headP isQt ((u.drop (n+1)++v).drop (wsN (u.drop (n+1)++v))):=fun _ hw=>by
  rw [wsN_app (Nat.le_of_lt hw),headP_lt (v:=v) hw]
 revert h
 refine ite_par (fun g2 h=>?_) (fun g2 h=>?_)
 ·have hn2:=h.1
  have hurl:(urlR (u.drop (n+1)++v)).err≠1:=fun e=>by
   have:=h.2.1
   unfold urlTs at this
   rw [e] at this
   cases hval:(urlR (u.drop (n+1)++v)).val with
   | none=>have:=urlR_none hval; rw [this] at e; cases e
   | some y=>rw [hval] at this; simp at this
  have hle:(urlR (u.drop (n+1)++v)).n≤(u.drop (n+1)).length:=by exact ar4 (.im (.le (.a (.a .v2 .n1) .v0) .v3) (.im (.eq .v1 (.s .v3 (.a .v2 .n1))) (.le .v0 .v1))) rfl hn2 hul
  have hw:=urlR_ws hurl hle
  rw [Qc] at g2
  rw [key g2.1 hw,urlR_app hv hurl hle]
  exact ⟨by rw [Qc]; exact g2,rfl⟩
 ·refine ⟨?_,rfl⟩
  cases hx:isUrl x with
  | false=>rfl
  | true =>
   rw [hx,Qo] at g2
   have hw:=h.2 rfl hx
   rw [hd,] at hw
   rw [Qo,key hx hw]; exact g2
theorem stepN_take {n:Nat} {pn:Bool} (hv:v≠[]) (hn:numEnd (c::t++v)=some (n,pn)) (h:CT (c::t) v (stepN pl pn n (c::t++v))):n≤(c::t).length∧stepN pl pn n (c::t)=stepN pl pn n (c::t++v):=by
 generalize c::t=u at *
 have hnu:n≤u.length:=by
  unfold stepN at h
  split at h
  ·have:=h.1; exact R4 this
  split at h
  ·have:=h.1; exact R3 this
  ·exact h.1
 refine ⟨hnu,?_⟩
 have hd:(u++v).drop n=u.drop n++v:=drop_app hnu
 have hul:(u.drop n).length=u.length - n:=Qa
 have htk:u.take n=(u++v).take n:=(take_app hnu).symm
 revert h
 unfold stepN
 rw [hd,htk]
 refine ite_par (fun g h=>?_) (fun g h=>?_)
 ·have h1:=h.1
  have hi:(ident (u.drop n++v)).2≤(u.drop n).length:=by exact ar4 (.im (.le (.a .v2 .v0) .v3) (.im (.eq .v1 (.s .v3 .v2)) (.le .v0 .v1))) rfl h1 hul
  have e1:=identStart_app (u:=u.drop n) hv (fun e=>by rw [g] at e; cases e) (fun _=>hi)
  refine ⟨by rw [e1]; exact g,?_⟩
  have hb:=h.2.2.1
  rw [ident_app hv _ _ (Qd _) hi (fun e=>by rw [Qe]; exact (hb e).1)]
 ·have hF:v.head?=some 10→u.drop n≠[92]∧u.drop n≠[45,92]:=fun e=>by
   cases g2:headP (·==37) (u.drop n++v) with
   | false=>rw [g2,if_neg bn] at h; exact h.2.2.1 e
   | true =>
    refine ⟨fun q=>?_,fun q=>?_⟩ <;> (rw [q] at g2; cases g2)
  refine ⟨by rw [identStart_app (u:=u.drop n) hv (fun _=>hF) (fun e=>by rw [g] at e; cases e)]; exact g,?_⟩
  revert h
  refine ite_par (fun g2 h=>⟨?_,rfl⟩) (fun g2 h=>⟨head2F g2,rfl⟩)
  have:=h.1
  exact head2 g2 (fun q=>by rw [q] at hul; simp at hul; exact ar2 (.im (.le (.a .v0 .n1) .v1) (.im (.eq .n0 (.s .v1 .v0)) .ff)) rfl this hul)
theorem nm_pos {r:List Nat} (g:(headP isNm r||escOk r)=true):1≤(ident r).2:=by
 cases r with
 | nil=>cases g
 | cons d r =>
  have g:(isNm d||escOk (d::r))=true:=g
  rw [ident_cons]
  split
  ·exact Nat.le_add_left _ _
  ·rename_i g1
   rw [eq_false_of_ne_true g1,Bool.false_or] at g
   rw [if_pos g]; exact Nat.le_add_left _ _
theorem nm_esc {t v:List Nat} (htn:t≠[]) (g:(headP isNm (t++v)||escOk (t++v))=true):(escOk t=escOk (t++v)∨isNm (t.headD 0)=true)∧(headP isNm t||escOk t)=true:=by
 cases t with
 | nil=>exact absurd rfl htn
 | cons d r =>
  have g:(isNm d||escOk (d::(r++v)))=true:=g
  show (escOk (d::r)=escOk (d::(r++v))∨isNm d=true)∧(isNm d||escOk (d::r))=true
  cases hd:isNm d with
  | true=>exact ⟨.inr rfl,rfl⟩
  | false =>
   rw [hd,Bool.false_or] at g
   rw [g,Bool.false_or]
   have e:escOk (d::r)=true:=by
    rw [escOk_iff,Qc] at g ⊢
    refine ⟨g.1,?_⟩
    cases r with
    | nil=>rfl
    | cons e r=>exact g.2
   exact ⟨.inl e,e⟩
theorem esc_bs {v:List Nat} (q:v.head?=some 10):escOk ([92]++v)=false:=by rw [Qj,escOk_iff,List.nil_append,q]; rfl
theorem ident_ds {v:List Nat} (q:v.head?=some 10):(ident ([45,92]++v)).2=1:=by
 rw [Qj,ident_cons,if_pos (by decide),Qj,ident_cons,if_neg (by decide),if_neg]
 rw [← List.singleton_append,← Qf,List.append_nil,esc_bs q]; exact bn
theorem escOk_no {t v:List Nat} (g2:escOk (t++v)=false) (hb:v.head?=some 10→t≠[92]):escOk t=false:=by
 cases t with
 | nil=>rfl
 | cons d r =>
  rw [Qj,escOk_iff] at g2
  rw [escOk_iff]
  cases r with
  | cons e r=>exact g2
  | nil =>
   cases hd:d==92 with
   | false=>rfl
   | true =>
    rw [hd,Qo] at g2
    have:v.head?=some 10:=by
     cases hx:v.head?==some 10 with
     | true=>exact eq_of_beq hx
     | false=>rw [List.nil_append,hx] at g2; cases g2
    exact absurd (by rw [eq_of_beq hd]) (hb this)
theorem take3 {t v:List Nat} (g:((t++v).take 3==[33,45,45])=false):(t.take 3==[33,45,45])=false:=by
 cases hq:t.take 3==[33,45,45] with
 | false=>rfl
 | true =>
  have e:=eq_of_beq hq
  have hl:=congrArg List.length e
  rw [Qm] at hl
  have:3≤t.length:=by simp at hl; exact ar1 (.im (.eq (.i (.n 3) .v0) (.n 3)) (.le (.n 3) .v0)) rfl hl
  rw [take_app this,hq] at g; cases g
theorem stepZ_take (hv:v≠[]) (hb:v.head?=some 10→c::t≠[92]∧c::t≠[45,92]):CT (c::t) v (stepZ pl ec c (t++v))→stepZ pl ec c t=stepZ pl ec c (t++v):=by
 unfold stepZ
 refine ite_same (fun g=>?_) (fun _=>ite_same (fun g=>?_) (fun _=>ite_same (fun _ _=>rfl) (fun _=>ite_same (fun _ _=>rfl) (fun _=>ite_same (fun _ _=>rfl) (fun _=>ite_same (fun _ _=>rfl) (fun _=>ite_same (fun _ _=>rfl) (fun _=>ite_same (fun g h=>?_) (fun _=>ite_par (fun g h=>?_) (fun g=>?_)))))))))
 ·refine ite_par (fun g h=>?_) (fun g h=>?_)
  ·have h1:=h.1
   simp only [List.length_cons] at h1
   have hi:(ident (t++v)).2≤t.length:=by exact R19 h1
   have e1:=identStart_app (u:=t) hv (fun e=>by rw [g] at e; cases e) (fun _=>hi)
   refine ⟨by rw [e1]; exact g,?_⟩
   have hb:=h.2.2.1
   rw [Nat.add_comm,List.drop_succ_cons] at hb
   rw [ident_app hv _ _ (Qd _) hi (fun e=>(hb e).1)]
  ·have hb:=h.2.2.1
   exact ⟨by rw [identStart_app (u:=t) hv (fun _=>hb) (fun e=>by rw [g] at e; cases e)]; exact g,rfl⟩
 ·refine ite_par (fun g h=>?_) (fun g h=>?_)
  ·have h1:=h.1
   have hb:=h.2.2.1
   rw [Nat.add_comm,List.drop_succ_cons] at hb
   simp only [List.length_cons] at h1
   have hi:(ident (t++v)).2≤t.length:=by exact R19 h1
   have hid:=nm_pos g
   have htn:t≠[]:=List.length_pos_iff.mp (by exact ar2 (.im (.le (.a .n1 .v1) (.a .v0 .n1)) (.im (.le .n1 .v1) (.lt .n0 .v0))) rfl h1 hid)
   refine x02 (nm_esc htn g) fun hesc e1=>?_
   refine ⟨e1,?_⟩
   have e2:=identStart_app (u:=t) hv (fun e q=>⟨fun w=>?_,fun w=>?_⟩) (fun _=>hi)
   ·rw [ident_app hv _ _ (Qd _) hi (fun e=>(hb e).1),e2]
   ·rw [w] at g
    rw [esc_bs q] at g
    have g:(isNm 92||false)=true:=g
    exact absurd g (by decide)
   ·rw [w,ident_ds q] at hb
    exact (hb q).1 rfl
  ·have hb:=h.2.2.1
   refine ⟨?_,rfl⟩
   rw [Bool.or_eq_false_iff] at g ⊢
   exact ⟨head2F g.1,escOk_no g.2 fun e=>(hb e).1⟩
 ·have h1:=h.1
  simp only [List.length_cons] at h1
  have hs:(qstr c (t++v)).st≠2:=fun e=>by
   have:=h.2.1
   unfold strTs at this
   rw [e] at this
   cases this
  have hs1:(qstr c (t++v)).st=1→(qstr c (t++v)).n < t.length:=fun e=>by
   have:=h.2.2.2
   unfold strTs at this
   rw [e] at this
   have:=this _ (.head _) rfl rfl
   simp only [List.length_cons] at this
   exact ar2 (.im (.lt (.a .n1 .v0) (.a .v1 .n1)) (.lt .v0 .v1)) rfl this
  rw [qstr_app hv _ _ (Qd _) ⟨hs,by exact R19 h1,hs1⟩]
 ·rw [Qc] at g
  cases hc:comEnd ((t++v).drop 1) with
  | none=>rw [hc] at h; exact h.elim
  | some k =>
   rw [hc] at h
   have h1:=h.1
   simp only [List.length_cons] at h1
   have htn:t≠[]:=fun e=>by rw [e] at h1; simp only [List.length_nil] at h1; exact ar1 (.im (.le (.a .v0 (.n 4)) (.a .n0 .n1)) .ff) rfl h1
   have hl:1≤t.length:=Qn htn
   refine ⟨by rw [Qc]; exact ⟨g.1,head2 g.2 htn⟩,?_⟩
   rw [drop_app hl] at hc ⊢
   rw [comEnd_app _ _ hc (by rw [Qa]; exact ar2 (.im (.le (.a .v0 (.n 4)) (.a .v1 .n1)) (.le (.a .v0 (.n 2)) (.s .v1 .n1))) rfl h1)]
   dsimp only
   rw [take_app (by rw [Qa]; exact ar2 (.im (.le (.a .v0 (.n 4)) (.a .v1 .n1)) (.le .v0 (.s .v1 .n1))) rfl h1)]
 ·refine fun h=>⟨?_,?_⟩
  ·cases hc:c==47 with
   | false=>rfl
   | true=>rw [hc,Qo] at g; exact head2F g
  revert h
  refine ite_par (fun g h=>?_) (fun g=>?_)
  ·have h1:=h.1
   simp only [List.length_cons] at h1
   rw [take_app (by exact ar1 (.im (.le (.n 4) (.a .v0 .n1)) (.le (.n 3) .v0)) rfl h1)] at g
   exact ⟨g,rfl⟩
  refine fun h=>⟨?_,?_⟩
  ·cases hc:c==60 with
   | false=>rfl
   | true =>
    rw [hc,Qo] at g
    show (t.take 3==[33,45,45])=false
    exact take3 g
  revert h
  have two:∀ {k m:Nat} {x:List Nat},CT (c::t) v (.leaf [leafT pl "literal" x] 2)→headP (·==k) (t++v)=true→headP (·==k) t=true:=fun h g=>by
   have h1:=h.1
   simp only [List.length_cons] at h1
   exact head2 g (fun e=>by rw [e] at h1; simp at h1)
  refine ite_par (fun g h=>?_) (fun g h=>⟨?_,?_⟩)
  ·rw [Qc] at g
   exact ⟨by rw [Qc]; exact ⟨g.1,two (m:=0) h g.2⟩,rfl⟩
  ·cases hc:c==124 with
   | false=>rfl
   | true=>rw [hc,Qo] at g; exact head2F g
  revert h
  refine ite_same (fun _=>ite_par (fun g h=>⟨two (m:=0) h g,rfl⟩) (fun g h=>⟨head2F g,rfl⟩)) (fun _ _=>rfl)
theorem step_take (hv:v≠[]) (hb:v.head?=some 10→c::t≠[92]∧c::t≠[45,92]):CT (c::t) v (step pl ec c (t++v))→step pl ec c t=step pl ec c (t++v):=by
 unfold step
 refine ite_same (fun g h=>?_) (fun _=>ite_par (fun g h=>?_) (fun g h=>⟨?_,?_⟩))
 ·have h1:wsN (c::t++v)≤(c::t).length:=h.1
  have e:=wsN_app h1
  rw [← Qj,take_app h1,e]
 ·rw [Qc,Qc] at g
  have h1:=h.1
  have hp:=rng_pos g.2.2
  simp only [List.length_cons] at h1
  have hl:1≤t.length:=by exact ar2 (.im (.le (.a (.n 2) .v1) (.a .v0 .n1)) (.le .n1 .v0)) rfl h1
  rw [drop_app hl] at h1 g hp ⊢
  have htn:t≠[]:=List.length_pos_iff.mp hl
  have ht2:(t.drop 1).length=t.length - 1:=Qa
  refine ⟨by rw [Qc,Qc]; exact ⟨g.1,head2 g.2.1 htn,head2 g.2.2 (fun e=>by rw [e] at ht2; simp at ht2; exact ar2 (.im (.le (.a (.n 2) .v0) (.a .v1 .n1)) (.im (.eq .n0 (.s .v1 .n1)) (.im (.le .n1 .v0) .ff))) rfl h1 ht2 hp)⟩,?_⟩
  rw [rng_app (u:=t.drop 1) (v:=v) (by exact ar3 (.im (.le (.a (.n 2) .v0) (.a .v2 .n1)) (.im (.eq .v1 (.s .v2 .n1)) (.le .v0 .v1))) rfl h1 ht2)]
 ·cases hc:isUu c with
  | false=>rfl
  | true =>
   rw [hc,Qo] at g
   cases hq:headP (·==43) t&&headP (fun n=>isHex n||n==63) (t.drop 1) with
   | false=>rfl
   | true =>
    rw [Qc] at hq
    have h0:=headP_mono (v:=v) (k:=0) hq.1
    have h1:=headP_mono (v:=v) (k:=1) hq.2
    rw [List.drop_zero] at h0
    rw [h0,h1] at g; cases g
 revert h
 refine ite_par (fun g h=>?_) (fun g h=>⟨?_,?_⟩)
 ·have h1:=h.1
  rw [← Qj,take_app h1] at g
  exact ⟨g,rfl⟩
 ·cases hq:(c::t).take 3==[45,45,62] with
  | false=>rfl
  | true =>
   have e:=eq_of_beq hq
   have hl:=congrArg List.length e
   rw [Qm] at hl
   have:3≤(c::t).length:=by simp only [List.length_cons,List.length_nil] at hl ⊢; exact ar1 (.im (.eq (.i (.n 3) (.a .v0 .n1)) (.a (.a (.a .n0 .n1) .n1) .n1)) (.le (.n 3) (.a .v0 .n1))) rfl hl
   rw [← Qj,take_app this,hq] at g; cases g
 revert h
 rw [← Qj]
 refine ite_par (fun g h=>?_) (fun g h=>⟨?_,?_⟩)
 ·have q:=stepI_take hv h
  exact ⟨by rw [identStart_app hv (fun e=>by rw [g] at e; cases e) (fun _=>q.1)]; exact g,q.2⟩
 ·rw [identStart_app hv (fun _=>hb) (fun e=>by rw [g] at e; cases e)]; exact g
 revert h
 cases hn:numEnd (c::t++v) with
 | some x =>
  obtain ⟨n,pn⟩:=x
  intro h
  have q:=stepN_take hv hn h
  rw [numEnd_some hn q.1]
  exact q.2
 | none =>
  intro h
  rw [numEnd_none hn]
  exact stepZ_take hv hb h
end
noncomputable abbrev En (r:List Nat):Prop:=ENDT <:+ r
theorem En.len {r:List Nat} (h:En r):6≤r.length:=h.length_le
theorem En.tail {c:Nat} {t:List Nat} (h:En (c::t)) (hc:c≠10):En t:=by
 rcases List.suffix_cons_iff.mp h with e | h
 ·exact absurd (List.cons.inj e).1.symm hc
 ·exact h
theorem En.tail10 {t:List Nat} (h:En (10::t)):En t∨t=[10,41,42,47,44]:=by
 rcases List.suffix_cons_iff.mp h with e | h
 ·exact .inr (List.cons.inj e).2.symm
 ·exact .inl h
theorem En.drop {r:List Nat} {k:Nat} (h:En r) (hk:k+6≤r.length):En (r.drop k):=by
 obtain ⟨x,rfl⟩:=h
 have:k≤x.length:=by rw [Qg,show ENDT.length=6 from rfl] at hk; exact ar2 (.im (.le (.a .v0 (.n 6)) (.a .v1 (.n 6))) (.le .v0 .v1)) rfl hk
 rw [drop_app this]
 exact ⟨_,rfl⟩
theorem En.head {p:Nat→Bool} {r:List Nat} (h:En r) (hp:p 10=false) (hh:headP p r=true):En (r.drop 1):=by
 cases r with
 | nil=>cases hh
 | cons c t=>exact h.tail fun e=>by subst e; have hh:p 10=true:=hh; rw [hp] at hh; cases hh
theorem En.tw {p:Nat→Bool} (hp:p 10=false):∀ {r:List Nat},En r→(r.takeWhile p).length+6≤r.length:=by
 intro r
 induction r with
 | nil=>intro h; have:=h.len; simp at this
 | cons c t ih =>
  intro h
  rw [Qq]
  cases hc:p c with
  | false=>exact h.len
  | true =>
   have:=ih (h.tail fun e=>by subst e; rw [hp] at hc; cases hc)
   rw [if_pos rfl]
   simp only [List.length_cons]; exact ar2 (.im (.le (.a .v0 (.n 6)) .v1) (.le (.a (.a .v0 .n1) (.n 6)) (.a .v1 .n1))) rfl this
theorem En.hex {r:List Nat} (h:En r):(hexRun r).length+6≤r.length:=by
 have h1:=h.tw (p:=isHex) (by decide)
 have h2:=tw_mono (p:=isHex) (r.drop 6) (r.take 6)
 rw [List.take_append_drop] at h2
 unfold hexRun; exact ar3 (.im (.le (.a .v2 (.n 6)) .v1) (.im (.le .v0 .v2) (.le (.a .v0 (.n 6)) .v1))) rfl h1 h2
theorem En.esc {r:List Nat} (h:En r):En (r.drop (esc r).2)∨r.drop (Internal.esc r).2=[10,41,42,47,44]:=by
 have hx:=h.hex
 have hd:=h.drop hx
 unfold Internal.esc
 by_cases e:hexRun r=[]
 ·rw [if_pos e]
  cases r with
  | nil=>have:=h.len; simp at this
  | cons c t =>
   by_cases hc:c=10
   ·subst hc; exact h.tail10
   ·exact .inl (h.tail hc)
 ·rw [if_neg e]
  dsimp only
  cases hw:headP isWs (r.drop (hexRun r).length) with
  | false=>exact .inl hd
  | true =>
   rw [if_pos rfl,← Qe]
   generalize r.drop (hexRun r).length=z at hd hw
   cases z with
   | nil=>cases hw
   | cons c t =>
    by_cases hc:c=10
    ·subst hc; exact hd.tail10
    ·exact .inl (hd.tail hc)
theorem En.ident:∀ (n:Nat) (r:List Nat),r.length≤n→(En r∨r=[10,41,42,47,44])→(ident r).2+5≤r.length:=by
 intro n
 induction n with
 | zero =>
  intro r hr h
  have:=Ql (Nat.le_zero.mp hr)
  subst this
  rcases h with h | h
  ·have:=h.len; simp at this
  ·cases h
 | succ n ih =>
  intro r hr h
  cases r with
  | nil =>
   rcases h with h | h
   ·have:=h.len; simp at this
   ·cases h
  | cons c t =>
   have ht:t.length≤n:=Nat.le_of_succ_le_succ hr
   rw [ident_cons]
   by_cases h1:isNm c=true
   ·rw [if_pos h1]
    have hc:c≠10:=fun e=>by subst e; exact absurd h1 (by decide)
    have h:=h.elim id fun e=>absurd (List.cons.inj e).1 hc
    have:=ih t ht (.inl (h.tail hc))
    simp only [List.length_cons]; exact ar2 (.im (.le (.a .v0 (.n 5)) .v1) (.le (.a (.a .v0 .n1) (.n 5)) (.a .v1 .n1))) rfl this
   rw [if_neg h1]
   by_cases h2:escOk (c::t)=true
   ·rw [if_pos h2]
    rw [escOk_iff,Qc] at h2
    have hc:c≠10:=fun e=>by rw [e] at h2; exact absurd h2.1 (by decide)
    have h:=h.elim id fun e=>absurd (List.cons.inj e).1 hc
    have hE:=h.tail hc
    have:=ih (t.drop (Internal.esc t).2) (by rw [Qa]; exact R5 ht) hE.esc
    have h3:=esc_le t
    rw [Qa] at this
    simp only [List.length_cons]; exact ar3 (.im (.le (.a .v0 (.n 5)) (.s .v2 .v1)) (.le (.a (.a (.a .v0 .v1) .n1) (.n 5)) (.a .v2 .n1))) rfl this
   ·rw [if_neg h2]
    rcases h with h | h
    ·have:=h.len; dsimp only; exact ar1 (.im (.le (.n 6) .v0) (.le (.a .n0 (.n 5)) .v0)) rfl this
    ·rw [h]; decide
theorem En.qstr {q:Nat} (hq:q≠10):∀ (n:Nat) (r:List Nat),r.length≤n→(En r∨r=[10,41,42,47,44])→(qstr q r).st < 2∧(Internal.qstr q r).n+5≤r.length:=by
 intro n
 induction n with
 | zero =>
  intro r hr h
  have:=Ql (Nat.le_zero.mp hr)
  subst this
  rcases h with h | h
  ·have:=h.len; simp at this
  ·cases h
 | succ n ih =>
  intro r hr h
  cases r with
  | nil =>
   rcases h with h | h
   ·have:=h.len; simp at this
   ·cases h
  | cons c t =>
   have ht:t.length≤n:=Nat.le_of_succ_le_succ hr
   have h5:5≤(c::t).length:=by
    rcases h with h | h
    ·have:=h.len; exact R76 this
    ·rw [h]; decide
   rw [qstr_cons]
   by_cases g1:(c==q)=true
   ·rw [if_pos g1]
    have hc:c≠10:=fun e=>hq (by rw [← eq_of_beq g1]; exact e)
    have h:=h.elim id fun e=>absurd (List.cons.inj e).1 hc
    have:=(h.tail hc).len
    exact ⟨by decide,by simp only [List.length_cons]; exact ar1 (.im (.le (.n 6) .v0) (.le (.a .n1 (.n 5)) (.a .v0 .n1))) rfl this⟩
   rw [if_neg g1]
   by_cases g2:(c==92)=true
   ·rw [if_pos g2]
    have hc:c≠10:=fun e=>by subst e; exact absurd g2 (by decide)
    have h:=h.elim id fun e=>absurd (List.cons.inj e).1 hc
    have hE:=h.tail hc
    have hl:=hE.len
    rw [if_neg (by cases t with | nil=>simp at hl | cons=>exact bn)]
    by_cases g3:(t.head?==some 10)=true
    ·rw [if_pos g3]
     cases t with
     | nil=>simp at hl
     | cons d t =>
      have hd:d=10:=Option.some.inj (eq_of_beq g3)
      subst hd
      have:=ih t (by simp only [List.length_cons] at ht; exact R3 ht) hE.tail10
      simp only [List.drop_succ_cons,List.drop_zero,List.length_cons]
      exact ⟨this.1,by exact ar3 (.im (.an (.lt .v2 (.n 2)) (.le (.a .v0 (.n 5)) .v1)) (.le (.a (.a .v0 (.n 2)) (.n 5)) (.a (.a .v1 .n1) .n1))) rfl this⟩
    ·rw [if_neg g3]
     have:=ih (t.drop (Internal.esc t).2) (by rw [Qa]; exact R5 ht) hE.esc
     have h3:=esc_le t
     rw [Qa] at this
     exact ⟨this.1,by simp only [List.length_cons]; exact ar4 (.im (.an (.lt .v3 (.n 2)) (.le (.a .v0 (.n 5)) (.s .v2 .v1))) (.le (.a (.a (.a .v0 .v1) .n1) (.n 5)) (.a .v2 .n1))) rfl this⟩
   rw [if_neg g2]
   by_cases g3:(c==10)=true
   ·rw [if_pos g3]
    exact ⟨by decide,by dsimp only; omega⟩
   rw [if_neg g3]
   have hc:c≠10:=fun e=>g3 (by rw [e]; rfl)
   have h:=h.elim id fun e=>absurd (List.cons.inj e).1 hc
   have:=ih t ht (.inl (h.tail hc))
   exact ⟨this.1,by simp only [List.length_cons]; exact ar3 (.im (.an (.lt .v2 (.n 2)) (.le (.a .v0 (.n 5)) .v1)) (.le (.a (.a .v0 .n1) (.n 5)) (.a .v1 .n1))) rfl this⟩
theorem En.urlB:∀ (n:Nat) (r:List Nat),r.length≤n→(En r∨r=[10,41,42,47,44])→(urlB r).st≠2∧(Internal.urlB r).n+4≤r.length:=by
 intro n
 induction n with
 | zero =>
  intro r hr h
  have:=Ql (Nat.le_zero.mp hr)
  subst this
  rcases h with h | h
  ·have:=h.len; simp at this
  ·cases h
 | succ n ih =>
  intro r hr h
  cases r with
  | nil =>
   rcases h with h | h
   ·have:=h.len; simp at this
   ·cases h
  | cons c t =>
   have ht:t.length≤n:=Nat.le_of_succ_le_succ hr
   have h5:5≤(c::t).length:=by
    rcases h with h | h
    ·have:=h.len; exact R76 this
    ·rw [h]; decide
   rw [urlB_cons]
   split
   ·exact ⟨by decide,by dsimp only; omega⟩
   split
   ·exact ⟨by decide,by dsimp only; omega⟩
   rename_i g1 g2
   have hc:c≠10:=fun e=>by subst e; exact g2 (by decide)
   have h:=h.elim id fun e=>absurd (List.cons.inj e).1 hc
   have hE:=h.tail hc
   split
   ·have:=ih (t.drop (Internal.esc t).2) (by rw [Qa]; exact R5 ht) hE.esc
    have h3:=esc_le t
    rw [Qa] at this
    exact ⟨this.1,by simp only [List.length_cons]; exact ar4 (.im (.an (.nt (.eq .v3 (.n 2))) (.le (.a .v0 (.n 4)) (.s .v2 .v1))) (.le (.a (.a (.a .v0 .v1) .n1) (.n 4)) (.a .v2 .n1))) rfl this⟩
   split
   ·exact ⟨by decide,by dsimp only; omega⟩
   ·have:=ih t ht (.inl hE)
    exact ⟨this.1,by simp only [List.length_cons]; exact ar3 (.im (.an (.nt (.eq .v2 (.n 2))) (.le (.a .v0 (.n 4)) .v1)) (.le (.a (.a .v0 .n1) (.n 4)) (.a .v1 .n1))) rfl this⟩
noncomputable def Eu (r:List Nat):Prop:=En r∨r=[10,41,42,47,44]∨r=[41,42,47,44]
theorem Eu.len {r:List Nat} (h:Eu r):4≤r.length:=by
 rcases h with h | rfl | rfl
 ·have:=h.len; exact ar1 (.im (.le (.n 6) .v0) (.le (.n 4) .v0)) rfl this
 ·decide
 ·decide
theorem Eu.tail {c:Nat} {t:List Nat} (h:Eu (c::t)) (hc:c≠41):Eu t:=by
 rcases h with h | h | h
 ·by_cases e:c=10
  ·subst e
   rcases h.tail10 with h | h
   ·exact .inl h
   ·exact .inr (.inl h)
  ·exact .inl (h.tail e)
 ·exact .inr (.inr (List.cons.inj h).2)
 ·exact absurd (List.cons.inj h).1 hc
theorem Eu.drop {r:List Nat} {k:Nat} (h:Eu r) (hk:k+4≤r.length):Eu (r.drop k):=by
 rcases h with h | h | h
 ·obtain ⟨x,rfl⟩:=h
  rw [Qg,show ENDT.length=6 from rfl] at hk
  by_cases h1:k≤x.length
  ·rw [drop_app h1]; exact .inl ⟨_,rfl⟩
  ·obtain ⟨j,rfl⟩:∃ j,k=x.length+j:=⟨k - x.length,by exact ar2 (.im (.nt (.le .v0 .v1)) (.eq .v0 (.a .v1 (.s .v0 .v1)))) rfl h1⟩
   rw [← Qe,List.drop_left]
   have:j=1∨j=2:=by exact ar2 (.im (.le (.a (.a .v1 .v0) (.n 4)) (.a .v1 (.n 6))) (.im (.nt (.le (.a .v1 .v0) .v1)) (.or (.eq .v0 .n1) (.eq .v0 (.n 2))))) rfl hk h1
   rcases this with rfl | rfl
   ·exact .inr (.inl rfl)
   ·exact .inr (.inr rfl)
 ·subst h
  have:k=0∨k=1:=by simp at hk; exact ar1 (.im (.le .v0 .n1) (.or (.eq .v0 .n0) (.eq .v0 .n1))) rfl hk
  rcases this with rfl | rfl
  ·exact .inr (.inl rfl)
  ·exact .inr (.inr rfl)
 ·subst h
  have:k=0:=by simp at hk; omega
  subst this
  exact .inr (.inr rfl)
theorem Eu.ws {r:List Nat} (h:Eu r):wsN r+4≤r.length:=by
 induction r with
 | nil=>exact absurd h.len (by decide)
 | cons c t ih =>
  unfold wsN at ih ⊢
  rw [Qq]
  cases hc:isWs c with
  | false=>exact h.len
  | true =>
   have:=ih (h.tail fun e=>by subst e; exact absurd hc (by decide))
   rw [if_pos rfl]
   simp only [List.length_cons]; exact ar2 (.im (.le (.a .v0 (.n 4)) .v1) (.le (.a (.a .v0 .n1) (.n 4)) (.a .v1 .n1))) rfl this
theorem Eu.rem:∀ (n:Nat) (r:List Nat),r.length≤n→Eu r→urlRem r+3≤r.length:=by
 intro n
 induction n with
 | zero=>intro r hr h; have:=h.len; exact ar2 (.im (.le (.n 4) .v1) (.im (.le .v1 .n0) (.le (.a .v0 (.n 3)) .v1))) rfl this hr
 | succ n ih =>
  intro r hr h
  cases r with
  | nil=>exact absurd h.len (by decide)
  | cons c r =>
   cases r with
   | nil=>exact absurd h.len (by simp)
   | cons e t =>
    have hl:=h.len
    simp only [List.length_cons] at hr hl
    rw [urlRem_cons]
    by_cases g1:(c==92&&e==41)=true
    ·rw [if_pos g1]
     rw [Qc] at g1
     have hc:=eq_of_beq g1.1
     have he:=eq_of_beq g1.2
     subst hc; subst he
     have hE:En t:=by
      rcases h with h | h | h
      ·exact (h.tail (by decide)).tail (by decide)
      ·cases h
      ·cases h
     have:=ih t (by exact ar2 (.im (.le (.a (.a .v0 .n1) .n1) (.a .v1 .n1)) (.le .v0 .v1)) rfl hr) (.inl hE)
     simp only [List.length_cons]; exact ar2 (.im (.le (.a .v0 (.n 3)) .v1) (.le (.a (.a .v0 (.n 2)) (.n 3)) (.a (.a .v1 .n1) .n1))) rfl this
    rw [if_neg g1]
    by_cases g2:(c==41)=true
    ·rw [if_pos g2]; simp only [List.length_cons]; omega
    rw [if_neg g2]
    have:=ih (e::t) (by simp only [List.length_cons]; exact ar2 (.im (.le (.a (.a .v0 .n1) .n1) (.a .v1 .n1)) (.le (.a .v0 .n1) .v1)) rfl hr) (h.tail fun x=>g2 (by rw [x]; rfl))
    simp only [List.length_cons] at this ⊢; exact ar2 (.im (.le (.a .v0 (.n 3)) (.a .v1 .n1)) (.le (.a (.a .v0 .n1) (.n 3)) (.a (.a .v1 .n1) .n1))) rfl this
set_option tactic.hygienic true in
theorem En.urlR {r:List Nat} (h:En r):(urlR r).err≠1∧(Internal.urlR r).n+3≤r.length:=by
 have hu:Eu r:=.inl h
 have hw:=hu.ws
 have hd:=hu.drop hw
 have hdl:(r.drop (wsN r)).length=r.length - wsN r:=Qa
 unfold Internal.urlR
 generalize wsN r=k at *
 cases hz:r.drop k with
 | nil=>rw [hz] at hd; exact absurd hd.len (by decide)
 | cons c t =>
 rw [hz] at hd hdl
 dsimp only
 have hl:=hd.len
 split
 ·exact ⟨by dsimp only; decide,by dsimp only; omega⟩
 rename_i g
 have hB:(Internal.urlB (c::t)).st≠2∧(Internal.urlB (c::t)).n+4≤(c::t).length:=by
  rcases hd with hd | hd | hd
  ·exact En.urlB _ _ (Qd _) (.inl hd)
  ·exact En.urlB _ _ (Qd _) (.inr hd)
  ·exact absurd (by rw [(List.cons.inj hd).1]; rfl) g
 generalize Internal.urlB (c::t)=b at hB
 unfold urlT
 have hd2:=hd.drop hB.2
 have hd2l:((c::t).drop b.n).length=(c::t).length - b.n:=Qa
 split
 ·exact ⟨by dsimp only; decide,by dsimp only; exact ar5 (.im (.an (.nt (.eq .v3 (.n 2))) (.le (.a .v1 (.n 4)) .v4)) (.im (.eq .v4 (.s .v2 .v0)) (.le (.a (.a .v0 .v1) (.n 3)) .v2))) rfl hB hdl⟩
 ·rename_i e; exact absurd e hB.1
 ·rw [← Qe]
  generalize (c::t).drop b.n=z at hd2 hd2l
  have hw2:=hd2.ws
  have hd3:=hd2.drop hw2
  have hd3l:(z.drop (wsN z)).length=z.length - wsN z:=Qa
  cases hz2:z.drop (wsN z) with
  | nil=>rw [hz2] at hd3; exact absurd hd3.len (by decide)
  | cons e' t' =>
   rw [hz2] at hd3 hd3l
   dsimp only
   split
   ·exact ⟨by dsimp only; decide,by dsimp only; exact ar6 (.im (.le (.a .v2 (.n 4)) .v4) (.im (.eq .v5 (.s .v3 .v0)) (.im (.eq .v4 (.s .v5 .v1)) (.le (.a (.a (.a (.a .v0 .v1) .v2) .n1) (.n 3)) .v3)))) rfl hw2 hdl hd2l⟩
   ·have:=Eu.rem _ _ (Qd _) hd3
    exact ⟨by dsimp only; decide,by dsimp only; exact ar8 (.im (.le (.a .v3 (.n 3)) .v5) (.im (.eq .v6 (.s .v4 .v0)) (.im (.eq .v7 (.s .v6 .v1)) (.im (.eq .v5 (.s .v7 .v2)) (.le (.a (.a (.a (.a .v0 .v1) .v2) .v3) (.n 3)) .v4))))) rfl this hdl hd2l hd3l⟩
 ·have:=Eu.rem _ _ (Qd _) hd2
  exact ⟨by dsimp only; decide,by dsimp only; exact ar6 (.im (.le (.a .v2 (.n 3)) .v4) (.im (.eq .v5 (.s .v3 .v0)) (.im (.eq .v4 (.s .v5 .v1)) (.le (.a (.a (.a .v0 .v1) .v2) (.n 3)) .v3)))) rfl this hdl hd2l⟩
theorem comEnd_in:∀ {r:List Nat},[42,47,44] <:+ r→∃ k,comEnd r=some k∧k+3≤r.length:=by
 intro r
 induction r with
 | nil=>intro h; have:=h.length_le; simp at this
 | cons c t ih =>
  intro h
  rw [comEnd]
  have hl:=h.length_le
  split
  ·exact ⟨0,rfl,by simpa using hl⟩
  ·rename_i g
   rcases List.suffix_cons_iff.mp h with e | h
   ·refine x02 (List.cons.inj e) fun e1 e2=>?_
    subst e1; subst e2
    exact absurd rfl g
   ·refine x12 (ih h) fun k hk hkl=>?_
    exact ⟨k+1,by rw [hk]; rfl,by simp only [List.length_cons]; exact ar2 (.im (.le (.a .v0 (.n 3)) .v1) (.le (.a (.a .v0 .n1) (.n 3)) (.a .v1 .n1))) rfl hkl⟩
theorem En.expo {z:List Nat} (h:En z):expo z+6≤z.length:=by
 have hl:=h.len
 unfold Internal.expo
 split
 ·rename_i h1
  have e1:En (z.drop 1):=h.head (by decide) h1
  have l1:(z.drop 1).length=z.length - 1:=Qa
  have e2:En (z.drop (1+if headP isSg (z.drop 1)=true then 1 else 0)):=by
   split
   ·rename_i h2
    rw [← Qe]
    exact e1.head (by decide) h2
   ·exact e1
  generalize (1+if headP isSg (z.drop 1)=true then 1 else 0)=k at e2
  split
  ·have:=e2.tw (p:=isDig) (by decide)
   rw [Qa] at this
   unfold digs; exact ar3 (.im (.le (.a .v1 (.n 6)) (.s .v2 .v0)) (.le (.a (.a .v0 .v1) (.n 6)) .v2)) rfl this
  ·omega
 ·omega
theorem En.num {r:List Nat} {n:Nat} {b:Bool} (h:En r) (e:numEnd r=some (n,b)):n+6≤r.length:=by
 unfold numEnd at e
 have e1:En (r.drop (if headP isSg r=true then 1 else 0)):=by
  split
  ·rename_i h2; exact h.head (by decide) h2
  ·exact h
 generalize (if headP isSg r=true then 1 else 0)=a at e e1
 dsimp only at e
 have h1:=e1.tw (p:=isDig) (by decide)
 have e2:En (r.drop (a+digs (r.drop a))):=by
  rw [← Qe]; exact e1.drop h1
 generalize a+digs (r.drop a)=m at e e2
 split at e
 ·rename_i g
  rw [Qc] at g
  have e3:En (r.drop (m+1)):=by rw [← Qe]; exact e2.head (by decide) g.1
  have e4:En (r.drop (m+2)):=by
   have:=e3.head (p:=isDig) (by decide) g.2
   rw [Qe] at this; exact this
  have h2:=e4.tw (p:=isDig) (by decide)
  have e5:En (r.drop (m+2+digs (r.drop (m+2)))):=by rw [← Qe]; exact e4.drop h2
  generalize m+2+digs (r.drop (m+2))=k at e e5
  have h3:=e5.expo
  rw [Qa] at h3
  have:=congrArg Prod.fst (Option.some.inj e)
  dsimp only at this
  have h4:=e5.len
  rw [Qa] at h4
  exact R77 h3 this
 ·split at e
  ·cases e
  ·have h3:=e2.expo
   have h4:=e2.len
   rw [Qa] at h3 h4
   have:=congrArg Prod.fst (Option.some.inj e)
   dsimp only at this
   exact R77 h3 this
theorem En.rng {r:List Nat} (h:En r):(rng r).n+6≤r.length:=by
 have h1:=h.hex
 have e1:=h.drop h1
 unfold Internal.rng
 split
 ·have h2:=tw_mono (p:=(·==63)) ((r.drop (hexRun r).length).drop (6 - (hexRun r).length)) ((r.drop (hexRun r).length).take (6 - (hexRun r).length))
  rw [List.take_append_drop] at h2
  have h3:=e1.tw (p:=(·==63)) (by decide)
  rw [Qa] at h3
  unfold qRun; dsimp only; exact ar4 (.im (.le (.a .v3 (.n 6)) (.s .v2 .v0)) (.im (.le .v1 .v3) (.le (.a (.a .v0 .v1) (.n 6)) .v2))) rfl h3 h2
 split
 ·rename_i g
  rw [Qc] at g
  have e2:En (r.drop ((hexRun r).length+1)):=by
   rw [← Qe]; exact e1.head (by decide) g.1
  have h2:=e2.hex
  have h3:=e2.len
  rw [Qa] at h2 h3
  dsimp only; exact ar3 (.im (.le (.a .v1 (.n 6)) (.s .v2 (.a .v0 .n1))) (.le (.a (.a (.a .v0 .n1) .v1) (.n 6)) .v2)) rfl h2
 ·exact h1
theorem En.drop5 {r:List Nat} {k:Nat} (h:En r) (hk:k+5≤r.length):En (r.drop k)∨r.drop k=[10,41,42,47,44]:=by
 by_cases h6:k+6≤r.length
 ·exact .inl (h.drop h6)
 ·obtain ⟨x,rfl⟩:=h
  rw [Qg,show ENDT.length=6 from rfl] at h6 hk
  obtain rfl:k=x.length+1:=by exact ar2 (.im (.le (.a .v0 (.n 5)) (.a .v1 (.n 6))) (.im (.nt (.le (.a .v0 (.n 6)) (.a .v1 (.n 6)))) (.eq .v0 (.a .v1 .n1)))) rfl hk h6
  rw [← Qe,List.drop_left]
  exact .inr rfl
noncomputable def Rn (r:List Nat):Prop:=En r∨r <:+ ENDT
noncomputable def inE (c:Nat):Bool:=c==10||c==41||c==42||c==47||c==44
theorem Rn.cases {c:Nat} {t:List Nat} (h:Rn (c::t)):inE c=true∨En (c::t):=by
 rcases h with h | h
 ·exact .inr h
 ·left
  have:c∈ENDT:=h.mem (.head _)
  unfold ENDT at this
  unfold inE
  simp only [List.mem_cons,List.not_mem_nil,or_false] at this
  rcases this with rfl | rfl | rfl | rfl | rfl | rfl <;> rfl
theorem Rn.en {c:Nat} {t:List Nat} (h:Rn (c::t)) (hc:inE c=false):En (c::t)∧En t:=by
 have h:=h.cases.resolve_left fun e=>by rw [hc] at e; cases e
 exact ⟨h,h.tail fun e=>by subst e; cases hc⟩
theorem Rn.last {r:List Nat} (h:Rn r) (hr:r≠[]):[44] <:+ r:=by
 rcases h with h | h
 ·exact List.IsSuffix.trans ⟨[10,10,41,42,47],rfl⟩ h
 ·have h2:[44] <:+ ENDT:=⟨[10,10,41,42,47],rfl⟩
  refine List.suffix_of_suffix_length_le h2 h ?_
  exact Qn hr
theorem Rn.drop {r:List Nat} (h:Rn r) (k:Nat):Rn (r.drop k):=by
 have hs:r.drop k <:+ r:=List.drop_suffix k r
 rcases h with h | h
 ·exact (List.suffix_or_suffix_of_suffix h hs)
 ·exact .inr (hs.trans h)
theorem tw_lt {p:Nat→Bool} (hp:p 44=false):∀ {r:List Nat},[44] <:+ r→(r.takeWhile p).length < r.length:=by
 intro r
 induction r with
 | nil=>intro h; have:=h.length_le; simp at this
 | cons c t ih =>
  intro h
  rw [Qq]
  cases hc:p c with
  | false=>simp
  | true =>
   rcases List.suffix_cons_iff.mp h with e | h
   ·have:=(List.cons.inj e).1
    subst this; rw [hp] at hc; cases hc
   ·have:=ih h
    rw [if_pos rfl]; simp only [List.length_cons]; exact R78 this
noncomputable def StR (pl:Nat × Nat) (c:Nat) (t:List Nat):Step→Prop
 | .leaf ts n=>(∃ k a,ts=[.mk pl k a []])∧(n < t.length+1∨c::t=[44]∧n=1)
 | .opn P K N e n=>P=pl∧n < t.length+1∧isCl e=true∧∃ p,(closS.find? fun p=>p.1.cps.toList==K)=some p∧p.2.cps.toList=[e]
 | .cls=>True
 | .stop _=>False
theorem stR_ite {pl:Nat × Nat} {c:Nat} {t:List Nat} {b:Bool} {x y:Step} (h:b=true→StR pl c t x) (h':b=false→StR pl c t y):StR pl c t (if b=true then x else y):=by
 cases b
 ·exact h' rfl
 ·exact h rfl
theorem stR_leaf {pl:Nat × Nat} {c:Nat} {t:List Nat} {k:List Nat} {a:V} {n:Nat} (h:n < t.length+1):StR pl c t (.leaf [.mk pl k a []] n):=⟨⟨_,_,rfl⟩,.inl h⟩
theorem clo_fn:∃ p,(closS.find? fun p=>p.1.cps.toList==lit "function")=some p∧p.2.cps.toList=[41]:=⟨("function",")"),rfl,by decide +kernel⟩
theorem clo_pa:∃ p,(closS.find? fun p=>p.1.cps.toList==lit "() block")=some p∧p.2.cps.toList=[41]:=⟨("() block",")"),rfl,by decide +kernel⟩
theorem clo_sq:∃ p,(closS.find? fun p=>p.1.cps.toList==lit "[] block")=some p∧p.2.cps.toList=[93]:=⟨("[] block","]"),rfl,by decide +kernel⟩
theorem clo_cu:∃ p,(closS.find? fun p=>p.1.cps.toList==lit "{} block")=some p∧p.2.cps.toList=[125]:=⟨("{} block","}"),rfl,by decide +kernel⟩
theorem no_E {c:Nat} {p:Nat→Bool} (h:p c=true) (hp:[10,41,42,47,44].all (fun c=>!p c)=true):inE c=false:=by
 cases hc:inE c with
 | false=>rfl
 | true =>
  unfold inE at hc
  simp only [Bool.or_eq_true,beq_iff_eq] at hc
  simp only [List.all_cons,List.all_nil,Bool.and_true,Bool.and_eq_true,Bool.not_eq_true'] at hp
  rcases hc with (((rfl | rfl) | rfl) | rfl) | rfl <;> simp_all
theorem stepI_R {pl:Nat × Nat} {c:Nat} {t:List Nat} (hE:En (c::t)):StR pl c t (stepI pl (ident (c::t)).1 (ident (c::t)).2 (c::t)):=by
 have hi:=En.ident _ (c::t) (Qd _) (.inl hE)
 have hd:=hE.drop5 hi
 unfold stepI
 generalize (ident (c::t)).2=n at hi hd
 generalize (ident (c::t)).1=x
 have hl:(c::t).length=t.length+1:=rfl
 generalize c::t=r at hi hd hl
 refine stR_ite (fun g=>?_) (fun g=>stR_leaf (by exact ar3 (.im (.le (.a .v0 (.n 5)) .v2) (.im (.eq .v2 (.a .v1 .n1)) (.lt .v0 (.a .v1 .n1)))) rfl hi hl))
 have hd:=hd.resolve_right fun e=>by rw [e] at g; cases g
 have e1:En (r.drop (n+1)):=by rw [← Qe]; exact hd.head (by decide) g
 have h1:=e1.len
 rw [Qa] at h1
 refine stR_ite (fun g2=>?_) (fun g2=>⟨rfl,by exact ar3 (.im (.le (.a .v0 (.n 5)) .v2) (.im (.eq .v2 (.a .v1 .n1)) (.lt (.a .v0 .n1) (.a .v1 .n1)))) rfl hi hl,rfl,clo_fn⟩)
 have h2:=e1.urlR
 rw [Qa] at h2
 refine ⟨?_,.inl (by exact ar5 (.im (.an (.nt (.eq .v3 .n1)) (.le (.a .v1 (.n 3)) (.s .v4 (.a .v0 .n1)))) (.im (.eq .v4 (.a .v2 .n1)) (.lt (.a (.a .v0 .n1) .v1) (.a .v2 .n1)))) rfl h2 hl)⟩
 unfold urlTs
 cases hval:(urlR (r.drop (n+1))).val with
 | none=>rw [urlR_none hval]; exact ⟨_,_,rfl⟩
 | some y =>
  have h3:=(urlR_val hval).2
  rcases h3 with h3 | h3
  ·rw [h3]; exact ⟨_,_,rfl⟩
  ·exact absurd h3 h2.1
theorem stepN_R {pl:Nat × Nat} {c n:Nat} {t:List Nat} {pn:Bool} (hE:En (c::t)) (hn:numEnd (c::t)=some (n,pn)):StR pl c t (stepN pl pn n (c::t)):=by
 have h1:=hE.num hn
 have e1:=hE.drop h1
 have hl:(c::t).length=t.length+1:=rfl
 unfold stepN
 generalize c::t=r at h1 e1 hl
 refine stR_ite (fun g=>stR_leaf ?_) (fun g=>stR_ite (fun g=>stR_leaf (by exact ar3 (.im (.le (.a .v0 (.n 6)) .v2) (.im (.eq .v2 (.a .v1 .n1)) (.lt (.a .v0 .n1) (.a .v1 .n1)))) rfl h1 hl)) (fun g=>stR_leaf (by exact ar3 (.im (.le (.a .v0 (.n 6)) .v2) (.im (.eq .v2 (.a .v1 .n1)) (.lt .v0 (.a .v1 .n1)))) rfl h1 hl)))
 have:=En.ident _ (r.drop n) (Qd _) (.inl e1)
 rw [Qa] at this
 exact ar4 (.im (.le (.a .v1 (.n 5)) (.s .v3 .v0)) (.im (.eq .v3 (.a .v2 .n1)) (.lt (.a .v0 .v1) (.a .v2 .n1)))) rfl this hl
theorem end_no {r:List Nat} (h:(47::42::r) <:+ ENDT):False :=
 have no {k:Nat} {l:List Nat} (hk:(47==k)=false) (e:47::42::r=k::l):False:=by
  rw [← (List.cons.inj e).1] at hk; cases hk
 (List.suffix_cons_iff.mp h).elim (no rfl) fun h=>(List.suffix_cons_iff.mp h).elim (no rfl) fun h=>(List.suffix_cons_iff.mp h).elim (no rfl) fun h=>(List.suffix_cons_iff.mp h).elim (no rfl) fun h=>(List.suffix_cons_iff.mp h).elim (fun e=>absurd (List.cons.inj (List.cons.inj e).2).1 (by decide)) fun h=>(List.suffix_cons_iff.mp h).elim (no rfl) fun h=>absurd (List.suffix_nil.mp h) (Qt _ _)
theorem com_R {t:List Nat} (h:Rn (47::t)) (g:headP (·==42) t=true):[42,47,44] <:+ t.drop 1:=by
 rcases h with h | h
 ·have h1:=h.tail (by decide)
  have h2:=h1.head (p:=(·==42)) (by decide) g
  exact List.IsSuffix.trans ⟨[10,10,41],rfl⟩ h2
 ·exfalso
  cases t with
  | nil=>cases g
  | cons d r =>
   have hd:d=42:=eq_of_beq g
   rw [hd] at h
   exact end_no h
theorem two_R {c:Nat} {t:List Nat} (h:Rn (c::t)) (g2:headP (·==61) t=true):2 < t.length+1:=by
 cases t with
 | nil=>cases g2
 | cons d r =>
  cases r with
  | cons=>simp
  | nil =>
   have:=h.last (Qt _ _)
   have hd:d=61:=eq_of_beq g2
   rw [hd] at this
   rcases List.suffix_cons_iff.mp this with e | h3
   ·cases e
   ·have:=h3.eq_of_length rfl; cases this
theorem stepZ_R {pl:Nat × Nat} {ec:Option Nat} {c:Nat} {t:List Nat} (h:Rn (c::t)):StR pl c t (stepZ pl ec c t):=by
 have ht:c≠44→1 < t.length+1:=fun hc=>by
  cases t with
  | nil =>
   have:=(h.last (Qt _ _)).eq_of_length rfl
   exact absurd (List.cons.inj this).1.symm hc
  | cons=>simp
 have hne:∀ {k:Nat},(c==k)=true→inE k=false→En t:=fun g hk=>(h.en (by rw [eq_of_beq g]; exact hk)).2
 unfold stepZ
 refine stR_ite (fun g=>?_) (fun _=>stR_ite (fun g=>?_) (fun _=>stR_ite (fun g=>?_) (fun _=>stR_ite (fun g=>?_) (fun _=>stR_ite (fun g=>?_) (fun _=>stR_ite (fun g=>trivial) (fun _=>stR_ite (fun g=>?_) (fun _=>stR_ite (fun g=>?_) (fun _=>stR_ite (fun g=>?_) (fun _=>stR_ite (fun g=>?_) (fun _=>stR_ite (fun g=>?_) (fun _=>stR_ite (fun g=>?_) (fun _=>?_))))))))))))
 ·have hE:=hne g rfl
  have hl:=hE.len
  have:=En.ident _ t (Qd _) (.inl hE)
  exact stR_ite (fun _=>stR_leaf (by exact R79 this)) (fun _=>stR_leaf (by exact R6 hl))
 ·have hE:=hne g rfl
  have hl:=hE.len
  have:=En.ident _ t (Qd _) (.inl hE)
  exact stR_ite (fun _=>stR_leaf (by exact R79 this)) (fun _=>stR_leaf (by exact R6 hl))
 ·have hl:=(hne g rfl).len
  exact ⟨rfl,by exact R6 hl,rfl,clo_cu⟩
 ·have hl:=(hne g rfl).len
  exact ⟨rfl,by exact R6 hl,rfl,clo_sq⟩
 ·have hl:=(hne g rfl).len
  exact ⟨rfl,by exact R6 hl,rfl,clo_pa⟩
 ·exact stR_leaf (ht fun e=>by subst e; exact absurd g (by decide))
 ·have hE:=(h.en (no_E g (by decide))).2
  have h2:=En.qstr (q:=c) (fun e=>by subst e; exact absurd g (by decide)) _ t (Qd _) (.inl hE)
  refine ⟨?_,.inl (by exact ar3 (.im (.an (.lt .v2 (.n 2)) (.le (.a .v0 (.n 5)) .v1)) (.lt (.a .n1 .v0) (.a .v1 .n1))) rfl h2)⟩
  unfold strTs
  have h4:(qstr c t).st=0∨(qstr c t).st=1:=by exact ar3 (.im (.an (.lt .v0 (.n 2)) (.le (.a .v1 (.n 5)) .v2)) (.or (.eq .v0 .n0) (.eq .v0 .n1))) rfl h2
  rcases h4 with h4 | h4 <;> (rw [h4]; exact ⟨_,_,rfl⟩)
 ·rw [Qc] at g
  have hc:=eq_of_beq g.1
  subst hc
  have hs:=com_R h g.2
  refine x12 (comEnd_in hs) fun k hk hkl=>?_
  rw [hk]
  rw [Qa] at hkl
  exact stR_leaf (by exact ar2 (.im (.le (.a .v0 (.n 3)) (.s .v1 .n1)) (.lt (.a .v0 (.n 4)) (.a .v1 .n1))) rfl hkl)
 ·rw [Qc] at g
  have hl:=(hne g.1 rfl).len
  exact stR_leaf (by exact ar1 (.im (.le (.n 6) .v0) (.lt (.n 4) (.a .v0 .n1))) rfl hl)
 ·rw [Qc] at g
  have hl:=(hne g.1 rfl).len
  exact stR_leaf (by exact ar1 (.im (.le (.n 6) .v0) (.lt (.n 2) (.a .v0 .n1))) rfl hl)
 ·have hc:c≠44:=fun e=>by subst e; exact absurd g (by decide)
  have h1:=ht hc
  exact stR_ite (fun g2=>stR_leaf (two_R h g2)) (fun _=>stR_leaf h1)
 ·refine ⟨⟨_,_,rfl⟩,?_⟩
  cases t with
  | nil=>exact .inr ⟨((h.last (Qt _ _)).eq_of_length rfl).symm,rfl⟩
  | cons=>exact .inl (by simp)
theorem step_R {pl:Nat × Nat} {ec:Option Nat} {c:Nat} {t:List Nat} (h:Rn (c::t)):StR pl c t (step pl ec c t):=by
 unfold step
 refine stR_ite (fun g=>?_) (fun _=>stR_ite (fun g=>?_) (fun _=>stR_ite (fun g=>?_) (fun _=>stR_ite (fun g=>?_) (fun _=>?_))))
 ·exact stR_leaf (tw_lt (p:=isWs) (by decide) (h.last (Qt _ _)))
 ·rw [Qc,Qc] at g
  have h1:=(h.en (no_E g.1 (by decide))).2
  have h2:=h1.head (p:=(·==43)) (by decide) g.2.1
  have h3:=h2.rng
  rw [Qa] at h3
  exact stR_leaf (by exact ar2 (.im (.le (.a .v0 (.n 6)) (.s .v1 .n1)) (.lt (.a (.n 2) .v0) (.a .v1 .n1))) rfl h3)
 ·have hc:c=45:=(List.cons.inj (eq_of_beq g)).1
  have h1:=(h.en (by rw [hc]; rfl)).2.len
  exact stR_leaf (by exact ar1 (.im (.le (.n 6) .v0) (.lt (.n 3) (.a .v0 .n1))) rfl h1)
 ·refine stepI_R (h.en (no_E (p:=fun c=>isNS c||(c==45||c==92)) ?_ (by decide))).1
  unfold identStart at g
  rw [Qu] at g ⊢
  rcases g with g | g
  ·exact .inl g
  ·right
   by_cases g1:(c==45)=true
   ·rw [g1]; rfl
   ·rw [if_neg g1,escOk_iff,Qc] at g
    rw [g.1,Bool.or_true]
 ·cases hn:numEnd (c::t) with
  | none=>exact stepZ_R h
  | some x =>
   obtain ⟨n,pn⟩:=x
   refine stepN_R (h.en (no_E (p:=fun c=>isSg c||(isDig c||c==46)) ?_ (by decide))).1 hn
   cases hq:isSg c||(isDig c||c==46) with
   | true=>rfl
   | false =>
    exfalso
    rw [Bool.or_eq_false_iff,Bool.or_eq_false_iff] at hq
    have a0:headP isSg (c::t)=false:=hq.1
    have d0:digs (c::t)=0:=by rw [digs_cons,hq.2.1]; rfl
    have p0:headP (·==46) (c::t)=false:=hq.2.2
    unfold numEnd at hn
    rw [a0,if_neg bn] at hn
    dsimp only at hn
    rw [List.drop_zero,d0,Nat.add_zero,List.drop_zero,p0,Bool.false_and,if_neg bn,if_pos rfl] at hn
    cases hn
section
set_option genSizeOf false
set_option genInjectivity false
inductive RD:Nat × Nat→List Nat→Option Nat→List TT→Nat × Nat→List Nat→Prop
 | eof {pl:Nat × Nat} {ec:Option Nat}:RD pl [] ec [] pl []
 | cls {pl:Nat × Nat} {c:Nat} {t:List Nat} {ec:Option Nat} (h:step pl ec c t=.cls):RD pl (c::t) ec [] pl (c::t)
 | leaf {pl pl':Nat × Nat} {c n:Nat} {t r':List Nat} {ec:Option Nat} {ts us:List TT} (h:step pl ec c t=.leaf ts n) (r:RD (mv pl ((c::t).take n)) ((c::t).drop n) ec us pl' r'):RD pl (c::t) ec (ts++us) pl' r'
 | opnE {pl p1 P:Nat × Nat} {c n e:Nat} {t K:List Nat} {N:V} {ec:Option Nat} {us:List TT} (h:step pl ec c t=.opn P K N e n) (i:RD (mv pl ((c::t).take n)) ((c::t).drop n) (some e) us p1 []):RD pl (c::t) ec [.mk P K N us] p1 []
 | opnC {pl p1 P pl':Nat × Nat} {c n e c1:Nat} {t K t1 r':List Nat} {N:V} {ec:Option Nat} {us ws:List TT} (h:step pl ec c t=.opn P K N e n) (i:RD (mv pl ((c::t).take n)) ((c::t).drop n) (some e) us p1 (c1::t1)) (r:RD (mv p1 [c1]) t1 ec ws pl' r'):RD pl (c::t) ec (.mk P K N us::ws) pl' r'
theorem ite_cls {b:Bool} {x y:Step} {P:Prop} (h1:b=true→x=.cls→P) (h2:b=false→y=.cls→P):(if b=true then x else y)=.cls→P:=by
 cases b
 ·exact h2 rfl
 ·exact h1 rfl
noncomputable def isC:Step→Bool
 | .cls=>true
 | _=>false
theorem nc {s:Step} {P:Prop} (h:isC s=false) (e:s=.cls):P:=by subst e; cases h
theorem cls_ec {pl:Nat × Nat} {ec:Option Nat} {c:Nat} {t:List Nat}:step pl ec c t=.cls→ec=some c:=by
 unfold step
 refine ite_cls (fun _=>nc rfl) (fun _=>ite_cls (fun _=>nc rfl) (fun _=>ite_cls (fun _=>nc rfl) (fun _=>ite_cls (fun _=>?_) (fun _=>?_))))
 ·unfold stepI
  exact ite_cls (fun _=>ite_cls (fun _=>nc rfl) (fun _=>nc rfl)) (fun _=>nc rfl)
 cases numEnd (c::t) with
 | some x =>
  show stepN _ _ _ _=_→_
  unfold stepN
  exact ite_cls (fun _=>nc rfl) (fun _=>ite_cls (fun _=>nc rfl) (fun _=>nc rfl))
 | none =>
  show stepZ _ _ _ _=_→_
  unfold stepZ
  refine ite_cls (fun _=>ite_cls (fun _=>nc rfl) (fun _=>nc rfl)) (fun _=>ite_cls (fun _=>ite_cls (fun _=>nc rfl) (fun _=>nc rfl)) (fun _=>ite_cls (fun _=>nc rfl) (fun _=>ite_cls (fun _=>nc rfl) (fun _=>ite_cls (fun _=>nc rfl) (fun _=>ite_cls (fun g _=>eq_of_beq g) (fun _=>ite_cls (fun _=>nc rfl) (fun _=>ite_cls (fun _=>nc rfl) (fun _=>ite_cls (fun _=>?_) (fun _=>ite_cls (fun _=>nc rfl) (fun _=>ite_cls (fun _=>nc rfl) (fun _=>ite_cls (fun _=>ite_cls (fun _=>nc rfl) (fun _=>nc rfl)) (fun _=>nc rfl))))))))))))
  cases comEnd (t.drop 1)
  ·exact nc rfl
  ·exact nc rfl
theorem RD.endC {pl pl':Nat × Nat} {r r':List Nat} {ec:Option Nat} {ns:List TT} (h:RD pl r ec ns pl' r'):∀ c t,r'=c::t→step pl' ec c t=.cls∧ec=some c:=by
 induction h with
 | eof=>intro c t e; cases e
 | cls h=>intro c t e; cases e; exact ⟨h,cls_ec h⟩
 | leaf _ _ ih=>exact ih
 | opnE=>intro c t e; cases e
 | opnC _ _ _ _ ih=>exact ih
noncomputable def RunP (X:List TT) (cur:List TT) (st:List FT) (pl':Nat × Nat) (r':List Nat):Prop:=(r'=[]→X=closeT cur st)∧∀ c t f rest,r'=c::t→st=f::rest→∃ k',t.length≤k'∧X=Internal.run k' (mv pl' [c]) t (f.items++[.mk f.P f.K f.N cur]) f.ec rest
theorem drop_le {c n k:Nat} {t:List Nat} (hk:(c::t).length≤k+1) (h1:1≤n) (hn:n≤t.length+1):((c::t).drop n).length≤k:=by
 rw [Qb] at hk
 rw [Qa,Qb]; omega
theorem RD.run {pl pl':Nat × Nat} {r r':List Nat} {ec:Option Nat} {ns:List TT} (h:RD pl r ec ns pl' r'):∀ k cur st,r.length≤k→RunP (Internal.run k pl r cur ec st) (cur++ns) st pl' r':=by
 induction h with
 | eof=>intro k cur st hk; exact ⟨fun _=>(by rw [run_nil,List.append_nil]),fun c t f rest e=>nomatch e⟩
 | @cls pl c t ec h =>
  intro k cur st hk
  refine ⟨fun e=>(nomatch e),fun c' t' f rest e es=>?_⟩
  cases e; subst es
  cases k with
  | zero=>exact absurd hk (Nat.not_succ_le_zero _)
  | succ k=>exact ⟨k,Nat.le_of_succ_le_succ hk,by rw [run_cons,h,List.append_nil]⟩
 | @leaf pl pl' c n t r' ec ts us h r ih =>
  intro k cur st hk
  cases k with
  | zero=>exact absurd hk (Nat.not_succ_le_zero _)
  | succ k =>
  have hl:=step_le pl ec c t
  rw [h] at hl
  have:=ih k (cur++ts) st (drop_le hk hl.1 hl.2)
  rw [Qf] at this
  rw [run_cons,h]
  exact this
 | @opnE pl p1 P c n e t K N ec us h i ih =>
  intro k cur st hk
  cases k with
  | zero=>exact absurd hk (Nat.not_succ_le_zero _)
  | succ k =>
  have hl:=step_le pl ec c t
  rw [h] at hl
  have:=(ih k [] (⟨cur,P,K,N,ec⟩::st) (drop_le hk hl.1 hl.2.1)).1 rfl
  rw [run_cons,h]
  exact ⟨fun _=>this,fun c t f rest e=>nomatch e⟩
 | @opnC pl p1 P pl' c n e c1 t K t1 r' N ec us ws h i r ih ih2 =>
  intro k cur st hk
  cases k with
  | zero=>exact absurd hk (Nat.not_succ_le_zero _)
  | succ k =>
  have hl:=step_le pl ec c t
  rw [h] at hl
  refine x12 ((ih k [] (⟨cur,P,K,N,ec⟩::st) (drop_le hk hl.1 hl.2.1)).2 c1 t1 _ _ rfl rfl) fun k' hk' e1=>?_
  have:=ih2 k' (cur++[.mk P K N us]) st hk'
  rw [Qf] at this
  rw [run_cons,h]
  show RunP (Internal.run k _ _ [] (some e) _) _ _ _ _
  rw [e1]
  exact this
theorem RD.nilI {pl pl':Nat × Nat} {r r':List Nat} {ec:Option Nat} {ns:List TT} (h:RD pl r ec ns pl' r'):r=[]→ns=[]∧pl'=pl∧r'=[]:=by
 induction h using RD.casesOn with
 | eof=>exact fun _=>⟨rfl,rfl,rfl⟩
 | _=>exact nofun
theorem RD.leafI {pl pl':Nat × Nat} {r r':List Nat} {ec:Option Nat} {ns:List TT} (h:RD pl r ec ns pl' r'):∀ {c:Nat} {t:List Nat} {ts:List TT} {n:Nat},r=c::t→step pl ec c t=.leaf ts n→∃ us,ns=ts++us:=by
 induction h using RD.casesOn with
 | eof=>exact nofun
 | cls h=>intro c t ts n e k; cases e; rw [h] at k; cases k
 | leaf h=>intro c t ts n e k; cases e; rw [h] at k; cases k; exact ⟨_,rfl⟩
 | opnE h=>intro c t ts n e k; cases e; rw [h] at k; cases k
 | opnC h=>intro c t ts n e k; cases e; rw [h] at k; cases k
theorem RD.told {s:List Nat} {ns:List TT} {pl':Nat × Nat} (h:RD (1,1) (norm s) none ns pl' []):told s=ns:=(h.run _ [] [] (Qd _)).1 rfl
theorem RD.total:∀ (n:Nat) (r:List Nat),r.length≤n→Rn r→∀ pl ec,(∀ e,ec=some e→isCl e=true)→∃ ns pl' r',RD pl r ec ns pl' r'∧r'.length≤r.length∧Rn r':=by
 intro n
 induction n with
 | zero =>
  intro r hr hR pl ec _
  have:=Ql (Nat.le_zero.mp hr)
  subst this
  exact ⟨_,_,_,.eof,Qd _,hR⟩
 | succ n ih =>
  intro r hr hR pl ec hec
  cases r with
  | nil=>exact ⟨_,_,_,.eof,Qd _,hR⟩
  | cons c t =>
   have hs:=step_R (pl:=pl) (ec:=ec) hR
   have hl:=step_le pl ec c t
   have hr:t.length≤n:=Nat.le_of_succ_le_succ hr
   cases hst:step pl ec c t with
   | leaf ts k =>
    rw [hst] at hl
    have hl:1≤k∧k≤t.length+1:=hl
    refine x33 (ih ((c::t).drop k) (by rw [Qa,Qb]; exact ar3 (.im (.an (.le .n1 .v1) (.le .v1 (.a .v0 .n1))) (.im (.le .v0 .v2) (.le (.s (.a .v0 .n1) .v1) .v2))) rfl hl hr) (hR.drop k) (mv pl ((c::t).take k)) ec hec) fun ns pl' r' h1 h2 h3=>?_
    rw [Qa] at h2
    exact ⟨_,_,_,.leaf hst h1,by exact ar3 (.im (.le .v0 (.s .v1 .v2)) (.le .v0 .v1)) rfl h2,h3⟩
   | opn P K N e k =>
    rw [hst] at hl hs
    have hl:1≤k∧k≤t.length+1∧_:=hl
    have hs:P=pl∧k < t.length+1∧isCl e=true∧_:=hs
    refine x33 (ih ((c::t).drop k) (by rw [Qa,Qb]; omega) (hR.drop k) (mv pl ((c::t).take k)) (some e) (fun x hx=>by cases hx; exact hs.2.2.1)) fun us p1 r1 h1 h2 h3=>?_
    rw [Qa,Qb] at h2
    cases r1 with
    | nil=>exact ⟨_,_,_,.opnE hst h1,Nat.zero_le _,h3⟩
    | cons c1 t1 =>
     simp only [List.length_cons] at h2
     refine x33 (ih t1 (by exact ar4 (.im (.le (.a .v0 .n1) (.s (.a .v2 .n1) .v3)) (.im (.le .v2 .v1) (.le .v0 .v1))) rfl h2 hr) (h3.drop 1) (mv p1 [c1]) ec hec) fun ws pl' r' g1 g2 g3=>?_
     exact ⟨_,_,_,.opnC hst h1 g1,by simp only [List.length_cons]; exact ar4 (.im (.le (.a .v2 .n1) (.s (.a .v1 .n1) .v3)) (.im (.le .v0 .v2) (.le .v0 (.a .v1 .n1)))) rfl h2 g2,g3⟩
   | cls=>exact ⟨_,_,_,.cls hst,Qd _,hR⟩
   | stop ts=>rw [hst] at hs; exact hs.elim
theorem RD.top {r:List Nat} (hR:Rn r) (pl:Nat × Nat):∃ ns pl',RD pl r none ns pl' []:=by
 refine x33 (RD.total _ r (Qd _) hR pl none (fun e he=>nomatch he)) fun ns pl' r' h _ _=>?_
 cases r' with
 | nil=>exact ⟨_,_,h⟩
 | cons c t=>have:=(h.endC c t rfl).2; cases this
end
noncomputable def ple (p q:Nat × Nat):Prop:=p=q∨plt p q=true
theorem ple.refl (p:Nat × Nat):ple p p:=.inl rfl
theorem ple.trans {p q r:Nat × Nat} (h:ple p q) (h':ple q r):ple p r:=by
 rcases h with rfl | h
 ·exact h'
 ·rcases h' with rfl | h'
  ·exact .inr h
  ·exact .inr (plt_trans h h')
theorem ple.lt {p q r:Nat × Nat} (h:plt p q=true) (h':ple q r):plt p r=true:=by
 rcases h' with rfl | h'
 ·exact h
 ·exact plt_trans h h'
theorem ple.not {p q:Nat × Nat} (h:ple p q):plt q p=false:=by
 rcases h with rfl | h
 ·exact plt_irr _
 ·cases h2:plt q p with
  | false=>rfl
  | true=>have:=plt_trans h h2; rw [plt_irr] at this; cases this
theorem ple_mv (p:Nat × Nat) (x:List Nat):ple p (mv p x):=by
 cases x with
 | nil=>exact .inl rfl
 | cons c t=>exact .inr (plt_mv p _ (Qt _ _))
theorem RD.took {pl pl':Nat × Nat} {r r':List Nat} {ec:Option Nat} {ns:List TT} (h:RD pl r ec ns pl' r'):∃ x,r=x++r'∧pl'=mv pl x∧(ns≠[]→x≠[]):=by
 have tk:∀ (c n:Nat) (t:List Nat),1≤n→(c::t).take n≠[]:=fun c n t hn e=>by
  cases n with
  | zero=>cases hn
  | succ n=>cases e
 induction h with
 | eof=>exact ⟨[],rfl,rfl,fun h=>absurd rfl h⟩
 | cls=>exact ⟨[],rfl,rfl,fun h=>absurd rfl h⟩
 | @leaf pl pl' c n t r' ec ts us h r ih =>
  refine x13 (ih) fun x e1 e2 _=>?_
  have hl:=step_le pl ec c t
  rw [h] at hl
  exact ⟨(c::t).take n++x,by rw [Qf,← e1,List.take_append_drop],by rw [mv_app]; exact e2,fun _ e=>tk c n t hl.1 (Qv e).1⟩
 | @opnE pl p1 P c n e t K N ec us h i ih =>
  refine x13 (ih) fun x e1 e2 _=>?_
  have hl:=step_le pl ec c t
  rw [h] at hl
  exact ⟨(c::t).take n++x,by rw [Qf,← e1,List.take_append_drop],by rw [mv_app]; exact e2,fun _ e=>tk c n t hl.1 (Qv e).1⟩
 | @opnC pl p1 P pl' c n e c1 t K t1 r' N ec us ws h i r ih ih2 =>
  refine x13 (ih) fun x e1 e2 _=>?_
  refine x13 (ih2) fun y e3 e4 _=>?_
  have hl:=step_le pl ec c t
  rw [h] at hl
  refine ⟨(c::t).take n++(x++c1::y),?_,?_,fun _ e=>tk c n t hl.1 (Qv e).1⟩
  ·rw [Qf,Qf,Qj,← e3,← e1,List.take_append_drop]
  ·rw [mv_app,mv_app,← e2,e4]; rfl
section
variable {o:Nat × Nat}
theorem toldL_app (lim:Nat × Nat) (a b:List TT):toldL o lim (a++b)=toldL o lim a++toldL o lim b:=by
 induction a with
 | nil=>rfl
 | cons t a ih=>rw [Qj,toldL_cons,toldL_cons,ih,Qf]
theorem toldL_mk (lim p:Nat × Nat) (k:List Nat) (a:V) (ts r:List TT):toldL o lim (.mk p k a ts::r)=tell1 o lim p k a (toldL o lim ts)++toldL o lim r:=toldL_cons _ _ _ _
theorem RD.ge {pl pl':Nat × Nat} {r r':List Nat} {ec:Option Nat} {ns:List TT} (h:RD pl r ec ns pl' r') (hR:Rn r):∀ lim,ple lim pl→toldL o lim ns=[]:=by
 have t1:∀ {lim p:Nat × Nat} {k:List Nat} {a:V} {us:List V},ple lim p→tell1 o lim p k a us=[]:=fun hl=>by
  unfold tell1; rw [if_neg (nf hl.not)]
 induction h with
 | eof=>exact fun _ _=>rfl
 | cls=>exact fun _ _=>rfl
 | @leaf pl pl' c n t r' ec ts us h r ih =>
  intro lim hl
  have hs:=step_R (pl:=pl) (ec:=ec) hR
  rw [h] at hs
  obtain ⟨⟨k,a,rfl⟩,_⟩:=hs
  rw [List.singleton_append,toldL_mk,t1 hl,ih (hR.drop n) lim (hl.trans (ple_mv _ _))]
  rfl
 | @opnE pl p1 P c n e t K N ec us h i ih =>
  intro lim hl
  have hs:=step_R (pl:=pl) (ec:=ec) hR
  rw [h] at hs
  rw [hs.1,toldL_mk,t1 hl]; rfl
 | @opnC pl p1 P pl' c n e c1 t K t1' r' N ec us ws h i r ih ih2 =>
  intro lim hl
  have hs:=step_R (pl:=pl) (ec:=ec) hR
  rw [h] at hs
  refine x13 (i.took) fun x e1 e2 _=>?_
  have hR2:Rn t1':=by
   have:=(hR.drop n).drop (x.length+1)
   rw [e1,← Qe,List.drop_left] at this
   exact this
  rw [hs.1,toldL_mk,t1 hl,ih2 hR2 lim ?_]
  ·rfl
  ·refine hl.trans ((ple_mv pl ((c::t).take n)).trans ?_)
   rw [e2]
   exact (ple_mv _ x).trans (ple_mv _ _)
theorem RD.lt {pl pl':Nat × Nat} {r r':List Nat} {ec:Option Nat} {ns:List TT} (h:RD pl r ec ns pl' r') (hR:Rn r):∀ lim lim',ple pl' lim→ple pl' lim'→toldL o lim ns=toldL o lim' ns:=by
 have t1:∀ {lim p:Nat × Nat} {k:List Nat} {a:V} {us:List V},plt p lim=true→tell1 o lim p k a us=[nodeV o p k a us]:=fun hl=>by
  unfold tell1; rw [if_pos hl]
 have tk:∀ (pl:Nat × Nat) (c n:Nat) (t:List Nat),1≤n→plt pl (mv pl ((c::t).take n))=true:=fun pl c n t hn=>plt_mv _ _ (by
  cases n with
  | zero=>cases hn
  | succ n=>exact Qt _ _)
 induction h with
 | eof=>exact fun _ _ _ _=>rfl
 | cls=>exact fun _ _ _ _=>rfl
 | @leaf pl pl' c n t r' ec ts us h r ih =>
  intro lim lim' hl hl'
  have hs:=step_R (pl:=pl) (ec:=ec) hR
  have hn:=step_le pl ec c t
  rw [h] at hs hn
  obtain ⟨⟨k,a,rfl⟩,_⟩:=hs
  refine x13 (r.took) fun x _ e2 _=>?_
  have h1:plt pl pl'=true:=ple.lt (tk pl c n t hn.1) (by rw [e2]; exact ple_mv _ x)
  rw [List.singleton_append,toldL_mk,toldL_mk,t1 (ple.lt h1 hl),t1 (ple.lt h1 hl'),ih (hR.drop n) lim lim' hl hl']
  rfl
 | @opnE pl p1 P c n e t K N ec us h i ih =>
  intro lim lim' hl hl'
  have hs:=step_R (pl:=pl) (ec:=ec) hR
  have hn:=step_le pl ec c t
  rw [h] at hs hn
  refine x13 (i.took) fun x _ e2 _=>?_
  have h1:plt pl p1=true:=ple.lt (tk pl c n t hn.1) (by rw [e2]; exact ple_mv _ x)
  rw [hs.1,toldL_mk,toldL_mk,t1 (ple.lt h1 hl),t1 (ple.lt h1 hl'),ih (hR.drop n) lim lim' hl hl']
  rfl
 | @opnC pl p1 P pl' c n e c1 t K t1' r' N ec us ws h i r ih ih2 =>
  intro lim lim' hl hl'
  have hs:=step_R (pl:=pl) (ec:=ec) hR
  have hn:=step_le pl ec c t
  rw [h] at hs hn
  refine x13 (i.took) fun x e1 e2 _=>?_
  refine x13 (r.took) fun y _ e4 _=>?_
  have hR2:Rn t1':=by
   have:=(hR.drop n).drop (x.length+1)
   rw [e1,← Qe,List.drop_left] at this
   exact this
  have h2:ple p1 pl':=(ple_mv p1 [c1]).trans (by rw [e4]; exact ple_mv _ y)
  have h1:plt pl pl'=true:=ple.lt (tk pl c n t hn.1) (ple.trans (by rw [e2]; exact ple_mv _ x) h2)
  rw [hs.1,toldL_mk,toldL_mk,t1 (ple.lt h1 hl),t1 (ple.lt h1 hl'),ih (hR.drop n) lim lim' (h2.trans hl) (h2.trans hl'),ih2 hR2 lim lim' hl hl']
end
theorem ite_err {b:Bool} {x y x' y' L:Step} (h1:b=true→x=.cls→x'=L) (h2:b=false→y=.cls→y'=L) (h:(if b=true then x else y)=.cls):(if b=true then x' else y')=L:=by
 cases b
 ·exact h2 rfl h
 ·exact h1 rfl h
theorem step_err {pl:Nat × Nat} {ec:Option Nat} {c:Nat} {t:List Nat} (hc:isCl c=true):step pl ec c t=.cls→step pl none c t=.leaf [leafT pl "error" [c]] 1:=by
 unfold step
 refine ite_err (fun _=>nc rfl) (fun _=>ite_err (fun _=>nc rfl) (fun _=>ite_err (fun _=>nc rfl) (fun _=>ite_err (fun _=>?_) (fun _=>?_))))
 ·unfold stepI
  exact ite_err (fun _=>ite_err (fun _=>nc rfl) (fun _=>nc rfl)) (fun _=>nc rfl)
 cases numEnd (c::t) with
 | some x =>
  show stepN _ _ _ _=_→stepN _ _ _ _=_
  unfold stepN
  exact ite_err (fun _=>nc rfl) (fun _=>ite_err (fun _=>nc rfl) (fun _=>nc rfl))
 | none =>
  show stepZ _ _ _ _=_→stepZ _ _ _ _=_
  unfold stepZ
  refine ite_err (fun _=>ite_err (fun _=>nc rfl) (fun _=>nc rfl)) (fun _=>ite_err (fun _=>ite_err (fun _=>nc rfl) (fun _=>nc rfl)) (fun _=>ite_err (fun _=>nc rfl) (fun _=>ite_err (fun _=>nc rfl) (fun _=>ite_err (fun _=>nc rfl) (fun _ _=>?_)))))
  have:(none==some c)=false:=rfl
  rw [this,if_neg bn,if_pos hc]
theorem RD.sole {pl pl':Nat × Nat} {r r':List Nat} {ec:Option Nat} {ns:List TT} (h:RD pl r ec ns pl' r'):∀ {W:List TT} {plE:Nat × Nat},RD pl' r' none W plE []→RD pl r none (ns++W) plE []:=by
 induction h with
 | eof=>exact fun h=>h
 | cls=>exact fun h=>h
 | @leaf pl pl' c n t r' ec ts us h r ih =>
  intro W plE hW
  rw [Qf]
  exact .leaf ((step_none (by rw [h]; nofun)).trans h) (ih hW)
 | @opnE pl p1 P c n e t K N ec us h i ih =>
  intro W plE hW
  refine x03 (hW.nilI rfl) fun e1 e2 _=>?_
  rw [e1,e2]
  exact .opnE ((step_none (by rw [h]; nofun)).trans h) i
 | @opnC pl p1 P pl' c n e c1 t K t1 r' N ec us ws h i r ih ih2 =>
  intro W plE hW
  exact .opnC ((step_none (by rw [h]; nofun)).trans h) i (ih2 hW)
theorem RD.unc {cm:Nat × Nat} {pl pl':Nat × Nat} {r r':List Nat} {ec:Option Nat} {ns:List TT} (h:RD pl r ec ns pl' r') (hR:Rn r) (hec:∀ e,ec=some e→isCl e=true):∀ y,r=y++[44]→cm=mv pl y→(r'=[]→uncL cm ns=some true)∧(r'≠[]→uncL cm ns≠some true):=by
 induction h with
 | eof=>intro y e; cases y <;> cases e
 | cls=>exact fun y _ _=>⟨nofun,fun _=>nofun⟩
 | @leaf pl pl' c n t r' ec ts us h r ih =>
  intro y hy hcm
  have hs:=step_R (pl:=pl) (ec:=ec) hR
  have hn:=step_le pl ec c t
  rw [h] at hs hn
  obtain ⟨⟨k,a,rfl⟩,hs⟩:=hs
  have hn:1≤n∧n≤t.length+1:=hn
  have hyl:t.length+1=y.length+1:=by
   have:=congrArg List.length hy
   rw [Qg,Qb] at this; exact this
  rw [List.singleton_append,uncL_cons]
  have hu:∀ b,uncO cm (TT.mk pl k a []) b none=some (decide (pl=cm)||b):=fun _=>rfl
  have hub:uncT cm (TT.mk pl k a [])=false:=rfl
  rcases hs with hs | ⟨hs,rfl⟩
  ·have hny:n≤y.length:=by exact ar3 (.im (.eq (.a .v2 .n1) (.a .v1 .n1)) (.im (.lt .v0 (.a .v2 .n1)) (.le .v0 .v1))) rfl hyl hs
   have h1:=ih (hR.drop n) hec (y.drop n) (by rw [hy,drop_app hny]) (by rw [hcm,← mv_app,hy,take_app hny,List.take_append_drop])
   refine ⟨fun e=>by rw [h1.1 e]; rfl,fun e=>?_⟩
   have h2:=h1.2 e
   cases hul:uncL cm us with
   | some b=>rw [hul] at h2; exact h2
   | none =>
    rw [hub,hu,Bool.or_false]
    have hyn:y≠[]:=fun e=>by rw [e] at hny; simp at hny; exact R80 hn hny
    have:=plt_mv pl y hyn
    rw [← hcm] at this
    have hne:¬ pl=cm:=fun e=>by rw [e,plt_irr] at this; cases this
    rw [decide_eq_false hne]
    nofun
  ·have hd:(c::t).drop 1=[]:=by rw [hs]; rfl
   rw [hd] at r
   have hyn:y=[]:=by
    have:=congrArg List.length hs
    rw [Qb] at this
    have h44:t.length+1=1:=this
    exact Ql (by exact ar2 (.im (.eq (.a .v1 .n1) (.a .v0 .n1)) (.im (.eq (.a .v1 .n1) .n1) (.eq .v0 .n0))) rfl hyl h44)
   subst hyn
   refine x03 (r.nilI rfl) fun e1 _ e3=>?_
   refine ⟨fun _=>?_,fun e=>absurd e3 e⟩
   have:pl=cm:=hcm.symm
   rw [e1]
   show some (decide (pl=cm)||_)=_
   rw [Qs this]; rfl
 | @opnE pl p1 P c n e t K N ec us h i ih =>
  intro y hy hcm
  have hs:=step_R (pl:=pl) (ec:=ec) hR
  rw [h] at hs
  have hs:P=pl∧n < t.length+1∧isCl e=true∧_:=hs
  have hyl:t.length+1=y.length+1:=by
   have:=congrArg List.length hy
   rw [Qg,Qb] at this; exact this
  have hny:n≤y.length:=by omega
  have h1:=(ih (hR.drop n) (fun e' he=>by cases he; exact hs.2.2.1) (y.drop n) (by rw [hy,drop_app hny]) (by rw [hcm,← mv_app,hy,take_app hny,List.take_append_drop])).1 rfl
  refine ⟨fun _=>?_,fun e=>absurd rfl e⟩
  rw [uncL_cons,uncT_mk]
  show some (_||(uncL cm us).getD false)=_
  rw [h1,Option.getD_some,Bool.or_true]
 | @opnC pl p1 P pl' c n e c1 t K t1 r' N ec us ws h i r ih ih2 =>
  intro y hy hcm
  have hs:=step_R (pl:=pl) (ec:=ec) hR
  rw [h] at hs
  have hs:P=pl∧n < t.length+1∧isCl e=true∧_:=hs
  have hyl:t.length+1=y.length+1:=by
   have:=congrArg List.length hy
   rw [Qg,Qb] at this; exact this
  have hny:n≤y.length:=by omega
  have hyd:(c::t).drop n=y.drop n++[44]:=by rw [hy,drop_app hny]
  have hcm2:cm=mv (mv pl ((c::t).take n)) (y.drop n):=by rw [hcm,← mv_app,hy,take_app hny,List.take_append_drop]
  have h1:=(ih (hR.drop n) (fun e' he=>by cases he; exact hs.2.2.1) (y.drop n) hyd hcm2).2 (Qt _ _)
  refine x13 (i.took) fun x e1 e2 _=>?_
  have hc1:c1≠44:=fun q=>by
   have:=(i.endC _ _ rfl).2
   cases this
   subst q
   exact absurd hs.2.2.1 (by decide)
  -- the text behind the block
  have hsuf:∃ y2,t1=y2++[44]∧y.drop n=x++c1::y2:=by
   rw [hyd] at e1
   have hl:[44] <:+ c1::t1:=by
    have a1:[44] <:+ y.drop n++[44]:=⟨_,rfl⟩
    have a2:(c1::t1) <:+ y.drop n++[44]:=⟨x,e1.symm⟩
    exact List.suffix_of_suffix_length_le a1 a2 (by simp)
   rcases List.suffix_cons_iff.mp hl with q | ⟨y2,q⟩
   ·exact absurd (List.cons.inj q).1.symm hc1
   ·refine ⟨y2,q.symm,?_⟩
    rw [← q,← Qj,← Qf] at e1
    exact List.append_cancel_right e1
  refine x12 (hsuf) fun y2 q1 q2=>?_
  have hR2:Rn t1:=by
   have:=(hR.drop n).drop (x.length+1)
   rw [e1,← Qe,List.drop_left] at this
   exact this
  have h2:=ih2 hR2 hec y2 q1 (by rw [hcm2,q2,mv_app,← e2]; rfl)
  rw [uncL_cons]
  refine ⟨fun e=>by rw [h2.1 e]; rfl,fun e=>?_⟩
  have h3:=h2.2 e
  cases hul:uncL cm ws with
  | some b=>rw [hul] at h3; exact h3
  | none =>
   rw [uncT_mk]
   show some (decide (P=cm)||(uncL cm us).getD false)≠some true
   have hyn:y≠[]:=fun e=>by
    rw [e] at q2
    have:=congrArg List.length q2
    rw [Qg,Qb] at this
    simp at this
   have:=plt_mv pl y hyn
   rw [← hcm] at this
   have hne:¬ P=cm:=fun e=>by rw [hs.1] at e; rw [e,plt_irr] at this; cases this
   rw [decide_eq_false hne,Bool.false_or]
   cases hui:uncL cm us with
   | none=>nofun
   | some b=>rw [hui] at h1; cases b; nofun; exact absurd rfl h1
section
set_option genSizeOf false
set_option genInjectivity false
theorem split_cons {c n:Nat} {t u' v:List Nat} (hn:1≤n) (hl:n≤t.length+1) (h:(c::t).drop n=u'++v):∃ tu,t=tu++v∧(c::t).take n=(c::tu).take n∧(c::tu).drop n=u'∧n≤(c::tu).length∧c::tu=(c::t).take n++u':=by
 cases n with
 | zero=>cases hn
 | succ m =>
  have hm:(t.take m).length=m:=by rw [Qm]; exact ar2 (.im (.le (.a .v0 .n1) (.a .v1 .n1)) (.eq (.i .v0 .v1) .v0)) rfl hl
  rw [List.drop_succ_cons] at h
  refine ⟨t.take m++u',?_,?_,?_,?_,rfl⟩
  ·rw [Qf,← h,List.take_append_drop]
  ·rw [List.take_succ_cons,List.take_succ_cons,List.take_append_of_le_length (by exact ar2 (.im (.eq .v1 .v0) (.le .v0 .v1)) rfl hm),List.take_take,Nat.min_self]
  ·rw [List.drop_succ_cons]
   exact List.drop_left' hm
  ·rw [Qb,Qg]; exact ar3 (.im (.eq .v1 .v0) (.le (.a .v0 .n1) (.a (.a .v1 .v2) .n1))) rfl hm
theorem nb_cl {u:List Nat} {c1:Nat} (h:c1∈u) (hc:isCl c1=true):u≠[92]∧u≠[45,92]:=by
 refine ⟨fun e=>?_,fun e=>?_⟩
 ·subst e
  rw [List.mem_singleton.mp h] at hc
  exact absurd hc (by decide)
 ·subst e
  rcases Qi h with h | h
  ·rw [h] at hc; exact absurd hc (by decide)
  ·rw [List.mem_singleton.mp h] at hc; exact absurd hc (by decide)
theorem ws_cl {u v:List Nat} {c1:Nat} (hc:isCl c1=true):c1∈u→wsN (u++v) < u.length:=by
 have hw:isWs c1=false:=by
  cases h:isWs c1 with
  | false=>rfl
  | true =>
   unfold isWs at h
   simp only [Bool.or_eq_true,beq_iff_eq] at h
   rcases h with (rfl | rfl) | rfl <;> exact absurd hc (by decide)
 unfold wsN
 induction u with
 | nil=>intro h; cases h
 | cons d u ih =>
  intro h
  rw [Qj,Qq]
  cases hd:isWs d with
  | false=>simp
  | true =>
   rw [if_pos rfl]
   rcases Qi h with h | h
   ·subst h; rw [hw] at hd; cases hd
   ·have:=ih h
    simp only [List.length_cons]; exact R78 this
theorem RD.cut {pl pl':Nat × Nat} {r r':List Nat} {ec:Option Nat} {ns:List TT} (h:RD pl r ec ns pl' r') (hR:Rn r) (hec:∀ e,ec=some e→isCl e=true):∀ c1 w v,v≠[]→r'=c1::(w++v)→∃ u,r=u++v∧c1∈u∧isCl c1=true∧RD pl u ec ns pl' (c1::w):=by
 induction h with
 | eof=>intro c1 w v hv e; cases e
 | @cls pl c t ec h =>
  intro c1 w v hv e
  cases e
  have hc:=hec _ (cls_ec h)
  refine ⟨c::w,rfl,.head _,hc,.cls ?_⟩
  have:=step_take (pl:=pl) (ec:=ec) (c:=c) (t:=w) hv (fun _=>nb_cl (.head _) hc) (by rw [h]; trivial)
  rw [this]; exact h
 | @leaf pl pl' c n t r' ec ts us h r ih =>
  intro c1 w v hv e
  have hs:=step_R (pl:=pl) (ec:=ec) hR
  have hn:=step_le pl ec c t
  rw [h] at hs hn
  obtain ⟨⟨k,a,hts⟩,_⟩:=hs
  refine x14 (ih (hR.drop n) hec c1 w v hv e) fun u' e1 e2 hc e3=>?_
  refine x15 (split_cons hn.1 hn.2 e1) fun tu q1 q2 q3 q4 q5=>?_
  subst q1
  have hmem:c1∈c::tu:=by rw [q5]; exact Qw _ e2
  refine ⟨c::tu,rfl,hmem,hc,.leaf (ts:=ts) (n:=n) ?_ (by rw [← q2,q3]; exact e3)⟩
  have:=step_take (pl:=pl) (ec:=ec) (c:=c) (t:=tu) hv (fun _=>nb_cl hmem hc) (by
   rw [h]
   refine ⟨q4,by rw [hts]; rfl,fun _=>by rw [q3]; exact nb_cl e2 hc,fun x hx _ _=>?_⟩
   have:0 < u'.length:=List.length_pos_of_mem e2
   rw [← q3,Qa] at this
   exact ar2 (.im (.lt .n0 (.s .v1 .v0)) (.lt .v0 .v1)) rfl this)
  rw [this]; exact h
 | opnE=>intro c1 w v hv e; cases e
 | @opnC pl p1 P pl' c n e c2 t K t1 r' N ec us ws h i r ih ih2 =>
  intro c1 w v hv e'
  have hs:=step_R (pl:=pl) (ec:=ec) hR
  have hn:=step_le pl ec c t
  rw [h] at hs hn
  have hs:P=pl∧n < t.length+1∧isCl e=true∧_:=hs
  have hn:1≤n∧n≤t.length+1∧_:=hn
  refine x13 (i.took) fun x e1 e2 _=>?_
  have hR2:Rn t1:=by
   have:=(hR.drop n).drop (x.length+1)
   rw [e1,← Qe,List.drop_left] at this
   exact this
  refine x14 (ih2 hR2 hec c1 w v hv e') fun u2 f1 f2 hc1 f3=>?_
  refine x14 (ih (hR.drop n) (fun y hy=>by cases hy; exact hs.2.2.1) c2 u2 v hv (by rw [f1])) fun u1 g1 g2 hc2 g3=>?_
  refine x15 (split_cons hn.1 hn.2.1 g1) fun tu q1 q2 q3 q4 q5=>?_
  subst q1
  have hmem:c2∈c::tu:=by rw [q5]; exact Qw _ g2
  -- the last sign is in it too
  have hmem1:c1∈c::tu:=by
   refine x13 (g3.took) fun y h1 _ _=>?_
   rw [q5,h1]
   exact Qw _ (Qw _ (.tail _ f2))
  refine ⟨c::tu,rfl,hmem1,hc1,.opnC (n:=n) (e:=e) ?_ (by rw [← q2,q3]; exact g3) f3⟩
  have:=step_take (pl:=pl) (ec:=ec) (c:=c) (t:=tu) hv (fun _=>nb_cl hmem hc2) (by
   rw [h]
   refine ⟨q4,fun _ _=>?_⟩
   rw [drop_app q4,q3]
   exact ws_cl hc2 g2)
  rw [this]; exact h
theorem CutIn.ne {ts:List TT} {c:Nat} {lv:List (List TT × Nat)} (h:CutIn ts c lv):ts≠[]:=by
 cases h with
 | here h=>intro e; rw [e] at h; cases h
 | deep h=>intro e; rw [e] at h; cases h
inductive LvAt (L:List TT) (k:Nat) (t:TT):Bool→List (List TT × Nat)→Prop
 | here (h:BareOk L k):LvAt L k t true [(L,k)]
 | deep {lv:List (List TT × Nat)} (h:CutIn t.ts (near t) lv):LvAt L k t false (lv++[(L,k)])
theorem CutIn.at {L:List TT} {c:Nat} {lv:List (List TT × Nat)} (h:CutIn L c lv):∃ k t b,L[k]?=some t∧LvAt L k t b lv∧(b=true→c≤k):=by
 cases h with
 | here h hc hb=>exact ⟨_,_,true,List.getElem?_eq_getElem h,.here hb,fun _=>hc⟩
 | deep h r=>exact ⟨_,_,false,h,.deep r,nofun⟩
inductive Chn0 (s:List Nat) (o cm:Nat × Nat):List V→List (List TT × Nat)→Prop
 | mk {ts:List TT} {k:Nat} {t:TT} {T:List V} {r:List (List TT × Nat)} (h:ts[k]?=some t) (hp:t.p=o) (hc:Chn s o cm T r):Chn0 s o cm (toldL o (farP s) (ts.drop k)++T) ((ts,k)::r)
inductive CC (s:List Nat) (cm pl:Nat × Nat) (r:List Nat) (ec:Option Nat) (ns:List TT) (pl':Nat × Nat) (r':List Nat) (i:Nat) (b:Bool) (lv:List (List TT × Nat)):Prop
 | mk (u v v':List Nat) (q:Nat × Nat) (ns':List TT) (hr:r=u++v) (hv:v=v'++r') (hv':v'≠[]) (hq:q=mv pl u) (he:pl'=mv q v')
   (hz:u=[]→i=0∧b=true) (hN:∀ c t n ts,r=c::t→step pl ec c t=.leaf ts n→1≤i→n≤u.length∧(n=u.length→i=1∧b=true))
   (hC:v.head?=some 10→u≠[92]∧u≠[45,92]) (hp:RD pl u ec ns' q []) (ht:∀ o lim,ple q lim→toldL o q ns=toldL o lim ns')
   (hS:∀ W1 plE lvo,RD pl' r' none W1 plE []→Chn s q cm (toldL q (farP s) W1) lvo→∃ W plE',RD q v none W plE' []∧Chn0 s q cm (toldL q (farP s) W) (lv++lvo)):CC s cm pl r ec ns pl' r' i b lv
theorem RD.here0 {s:List Nat} {cm pl pl':Nat × Nat} {r r':List Nat} {ec:Option Nat} {ns L pre:List TT} {t:TT} (h:RD pl r ec ns pl' r') (hR:Rn r) (hL:L=pre++ns) (h0:ns[0]?=some t) (hp:t.p=pl):CC s cm pl r ec ns pl' r' 0 true [(L,pre.length)]:=by
 refine x13 (h.took) fun x e1 e2 e3=>?_
 refine .mk [] r x pl [] rfl e1 (e3 fun e=>by rw [e] at h0; cases h0) rfl e2 (fun _=>⟨rfl,rfl⟩) (fun _ _ _ _ _ _ h=>absurd h (by decide)) (fun _=>⟨nofun,nofun⟩) .eof (fun o lim _=>h.ge hR pl (.refl _)) fun W1 plE lvo hW hc=>?_
 refine ⟨_,_,h.sole hW,?_⟩
 rw [toldL_app]
 have hd:L.drop pre.length=ns:=by rw [hL,List.drop_left]
 have:=Chn0.mk (ts:=L) (k:=pre.length) (t:=t) (by rw [hL,List.getElem?_append_right (Qd _),Nat.sub_self]; exact h0) hp hc
 rw [hd] at this
 exact this
theorem step_bs (pl:Nat × Nat) (ec:Option Nat) (t:List Nat) (h:ec≠some 92):step pl ec 92 (10::t)=.leaf [leafT pl "literal" [92]] 1:=by
 have hn:numEnd (92::10::t)=none:=rfl
 have hi:identStart (92::10::t)=false:=by
  show (isNS 92||escOk (92::10::t))=false
  rw [escOk_iff]; rfl
 unfold step
 refine (if_neg (fun h=>bn h)).trans ((if_neg (fun h=>bn h)).trans ((if_neg (fun h=>bn h)).trans ?_))
 rw [hi,if_neg bn,hn]
 have he:(ec==some 92)=false:=Qk h
 show stepZ _ _ _ _=_
 unfold stepZ
 rw [he]
 rfl
theorem step_ds (pl:Nat × Nat) (ec:Option Nat) (t:List Nat) (h:ec≠some 45):step pl ec 45 (92::10::t)=.leaf [leafT pl "literal" [45]] 1:=by
 have hn:numEnd (45::92::10::t)=none:=rfl
 have hi:identStart (45::92::10::t)=false:=by
  show (isNS 45||(dashStart (92::10::t)||escOk (92::10::t)))=false
  rw [escOk_iff]; rfl
 unfold step
 refine (if_neg (fun h=>bn h)).trans ((if_neg (fun h=>bn h)).trans ((if_neg (fun h=>bn h)).trans ?_))
 rw [hi,if_neg bn,hn]
 have he:(ec==some 45)=false:=Qk h
 show stepZ _ _ _ _=_
 unfold stepZ
 rw [he]
 rfl
theorem step_ws (pl:Nat × Nat) (ec:Option Nat) {c:Nat} {t:List Nat} (h:isWs c=true):step pl ec c t=.leaf [leafT pl "whitespace" ((c::t).take (wsN (c::t)))] (wsN (c::t)):=by
 unfold step; rw [if_pos h]
end
theorem opn_near {pl1 P p1:Nat × Nat} {r1 r1' u1 v K:List Nat} {N:V} {e:Nat} {us:List TT} {k':Nat} {t':TT} {b':Bool} {lv':List (List TT × Nat)} (i:RD pl1 r1 (some e) us p1 r1') (ht:us[k']?=some t') (hL:LvAt us k' t' b' lv') (hb:b'=true→near (.mk P K N us)≤k') (hr:r1=u1++v)
  (hz:u1=[]→k'=0∧b'=true) (hN:∀ c t n ts,r1=c::t→step pl1 (some e) c t=.leaf ts n→1≤k'→n≤u1.length∧(n=u1.length→k'=1∧b'=true)) (hk:K=lit "function") (hu:isUrlV N=true):wsN (u1++v) < u1.length:=by
 rw [← hr]
 have hnr:near (.mk P K N us)=if isW us then 2 else 1:=by
  show (if (K==lit "function"&&isUrlV N)=true then _ else _)=_
  rw [hk,hu,beq_self_eq_true,Qo,if_pos rfl]
  rfl
 rw [hnr] at hb
 have h1:u1≠[]:=fun q=>by
  refine x02 (hz q) fun q1 q2=>?_
  have:=hb q2
  rw [q1] at this
  split at this <;> (first | exact ar 0 [] (.im (.le (.n 2) .n0) .ff) rfl this | exact ar 0 [] (.im (.le .n1 .n0) .ff) rfl this)
 cases r1 with
 | nil=>exact absurd (Qv hr.symm).1 h1
 | cons c t =>
  cases hw:isWs c with
  | false =>
   have:wsN (c::t)=0:=by unfold wsN; rw [Qq,if_neg (nf hw)]; rfl
   rw [this]
   exact Qn h1
  | true =>
   have hst:=step_ws pl1 (some e) (t:=t) hw
   have hus:∃ us',us=leafT pl1 "whitespace" ((c::t).take (wsN (c::t)))::us':=i.leafI rfl hst
   refine x11 (hus) fun us' hus=>?_
   have hisW:isW us=true:=by rw [hus]; show (lit "whitespace"==lit "whitespace")=true; exact beq_self_eq_true _
   rw [hisW,if_pos rfl] at hb
   have hk1:1≤k':=by
    cases k' with
    | succ=>exact Nat.le_add_left _ _
    | zero =>
     rw [hus] at ht
     cases ht
     cases hL with
     | here=>exact absurd (hb rfl) (by decide)
     | deep h=>exact absurd rfl h.ne
   refine x02 (hN c t _ _ rfl hst hk1) fun q1 q2=>?_
   rcases Nat.lt_or_eq_of_le q1 with q | q
   ·exact q
   ·refine x02 (q2 q) fun q3 q4=>?_
    have:=hb q4
    exact ar3 (.im (.le (.n 2) .v2) (.im (.eq .v2 .n1) (.lt .v0 .v1))) rfl this q3
theorem far_lt {s:List Nat} {j:Nat} (h:j < s.length):plt (mvA s j) (farP s)=true:=by
 have e:=mv_line (s.take j) 1 1
 have h2:(s.take j).count 10≤j:=Nat.le_trans List.count_le_length (by rw [Qm]; exact ar2 (.le (.i .v0 .v1) .v0) rfl)
 unfold plt
 rw [Qs (by show (mv (1,1) (s.take j)).1 < s.length+1; rw [e]; exact ar3 (.im (.lt .v2 .v1) (.im (.le .v0 .v2) (.lt (.a .n1 .v0) (.a .v1 .n1)))) rfl h h2)]
 rfl
theorem nb_op {c n:Nat} {tu v:List Nat} (h1:1≤n) (hl:n≤(c::tu).length) (h:(c::(tu++v))[n - 1]?.any isOp=true):c::tu≠[92]∧c::tu≠[45,92]:=by
 have h:(c::tu)[n - 1]?.any isOp=true:=by
  rw [← Qj,List.getElem?_append_left (by exact ar2 (.im (.le .n1 .v0) (.im (.le .v0 .v1) (.lt (.s .v0 .n1) .v1))) rfl h1 hl)] at h; exact h
 refine ⟨fun e=>?_,fun e=>?_⟩
 ·rw [e] at h hl
  have:n=1:=by simp at hl; exact ar1 (.im (.le .n1 .v0) (.im (.le .v0 .n1) (.eq .v0 .n1))) rfl h1 hl
  subst this
  exact absurd h (by decide)
 ·rw [e] at h hl
  have:n=1∨n=2:=by simp at hl; exact ar1 (.im (.le .n1 .v0) (.im (.le .v0 (.n 2)) (.or (.eq .v0 .n1) (.eq .v0 (.n 2))))) rfl h1 hl
  rcases this with rfl | rfl <;> exact absurd h (by decide)
theorem opn_leaf {A:Prop} {pl P:Nat × Nat} {c n e:Nat} {t K:List Nat} {N:V} {ec:Option Nat} {c' n':Nat} {t':List Nat} {ts':List TT} (h:step pl ec c t=.opn P K N e n) (e1:c::t=c'::t') (e2:step pl ec c' t'=.leaf ts' n'):A:=by
 cases e1; rw [h] at e2; cases e2
theorem opn_cut {Pr:Prop} {s:List Nat} {cm pl p1 P:Nat × Nat} {c n e:Nat} {t K r1:List Nat} {N:V} {ec:Option Nat} {us:List TT} {k':Nat} {t':TT} {b':Bool} {lv':List (List TT × Nat)} (h:step pl ec c t=.opn P K N e n) (hP:P=pl) (hn1:1≤n) (hn2:n≤t.length+1) (hn3:(c::t)[n - 1]?.any isOp=true) (i:RD (mv pl ((c::t).take n)) ((c::t).drop n) (some e) us p1 r1) (g1:us[k']?=some t') (g2:LvAt us k' t' b' lv') (g3:b'=true→near (.mk P K N us)≤k') (key:CC s cm (mv pl ((c::t).take n)) ((c::t).drop n) (some e) us p1 r1 k' b' lv')
  (f:∀ tu v v' q ns1,t=tu++v→v=v'++r1→v'≠[]→q=mv pl (c::tu)→p1=mv q v'→(c::tu≠[92]∧c::tu≠[45,92])→ple (mv pl ((c::t).take n)) q→RD pl (c::tu) ec [.mk P K N ns1] q []→(∀ o lim,ple q lim→toldL o q [.mk P K N us]=toldL o lim [.mk P K N ns1])→(∀ W1 plE lvo,RD p1 r1 none W1 plE []→Chn s q cm (toldL q (farP s) W1) lvo→∃ W plE',RD q v none W plE' []∧Chn0 s q cm (toldL q (farP s) W) (lv'++lvo))→Pr):Pr:=by
 induction key using CC.casesOn with
 | mk u1 v v' q ns1 hr' hv hv' hq he hz' hN' hC' hp' ht' hS' =>
 refine x15 (split_cons hn1 hn2 hr') fun tu q1 q2 q3 q4 q5=>?_
 have hvn:v≠[]:=fun e=>by rw [e] at hv; exact hv' (Qv hv.symm).1
 have hop:=nb_op (v:=v) hn1 q4 (by rw [← q1]; exact hn3)
 have hpq:ple (mv pl ((c::t).take n)) q:=by rw [hq]; exact ple_mv _ _
 have hlt:∀ lim,ple q lim→plt P lim=true:=fun lim hl=>by
  rw [hP]
  refine ple.lt (plt_mv pl ((c::t).take n) ?_) (hpq.trans hl)
  intro e
  have:=congrArg List.length e
  rw [Qm,Qb] at this
  simp at this; omega
 refine f tu v v' q ns1 q1 hv hv' (by rw [hq,← mv_app,q5]) he hop hpq (.opnE (n:=n) (e:=e) ?_ (by rw [← q2,q3]; exact hp')) (fun o lim hl=>?_) hS'
 ·rw [q1] at h
  have:=step_take (pl:=pl) (ec:=ec) (c:=c) (t:=tu) hvn (fun _=>hop) (by
   rw [h]
   refine ⟨q4,fun hk hu=>?_⟩
   rw [drop_app q4,q3]
   exact opn_near i g1 g2 g3 hr' hz' hN' hk hu)
  rw [this]; exact h
 ·rw [toldL_mk,toldL_mk,ht' o lim hl]
  unfold tell1
  rw [if_pos (hlt q (.refl q)),if_pos (hlt lim hl)]
  rfl
theorem LvAt.bare {L:List TT} {k:Nat} {t:TT} {b:Bool} {lv:List (List TT × Nat)} (h:LvAt L k t b lv):b=true→BareOk L k:=by
 induction h using LvAt.casesOn with
 | here h=>exact fun _=>h
 | deep=>exact nofun
theorem leaf_bs {pl:Nat × Nat} {ec:Option Nat} {c n:Nat} {tu v:List Nat} {ts:List TT} (hec:∀ e,ec=some e→isCl e=true) (h:step pl ec c (tu++v)=.leaf ts n) (hv:v.head?=some 10) (hb:(c::tu).length=n→ts≠[leafT pl "literal" [92]]) (hC:(c::tu).drop n≠[92]):c::tu≠[92]∧c::tu≠[45,92]:=by
 cases v with
 | nil=>cases hv
 | cons x w =>
 have hx:x=10:=Option.some.inj hv
 subst hx
 refine ⟨fun q=>?_,fun q=>?_⟩
 ·have hc:=List.cons.inj q
  rw [hc.1,hc.2,List.nil_append,step_bs _ _ _ (fun e=>by have:=hec _ e; exact absurd this (by decide))] at h
  have h:=Step.leaf.inj h
  exact hb (by rw [q]; exact h.2) h.1.symm
 ·have hc:=List.cons.inj q
  rw [hc.1,hc.2,List.singleton_append,step_ds _ _ _ (fun e=>by have:=hec _ e; exact absurd this (by decide))] at h
  exact hC (by rw [q,← (Step.leaf.inj h).2]; rfl)
theorem RD.main {s xc:List Nat} {cm:Nat × Nat} (hx:s=xc++[44]) (hcm:cm=mv (1,1) xc) {pl pl':Nat × Nat} {r r':List Nat} {ec:Option Nat} {ns:List TT} (h:RD pl r ec ns pl' r') :
  Rn r→(∀ e,ec=some e→isCl e=true)→∀ z,s=z++r→pl=mv (1,1) z→∀ L pre i t b lv,L=pre++ns→ns[i]?=some t→LvAt L (pre.length+i) t b lv→CC s cm pl r ec ns pl' r' i b lv:=by
 have cmy:∀ {z r:List Nat} {pl:Nat × Nat},s=z++r→r≠[]→pl=mv (1,1) z→Rn r→∃ y,r=y++[44]∧cm=mv pl y:=by
  intro z r pl hs hr hpl hR
  obtain ⟨y,hy⟩:=hR.last hr
  refine ⟨y,hy.symm,?_⟩
  rw [hpl,← mv_app,hcm]
  congr 1
  rw [hs,← hy,← Qf] at hx
  exact (List.append_cancel_right hx).symm
 induction h with
 | eof=>intro _ _ _ _ _ L pre i t b lv _ ht; cases ht
 | cls=>intro _ _ _ _ _ L pre i t b lv _ ht; cases ht
 | @leaf pl pl' c n t r' ec ts us h r ih =>
  intro hR hec z hz hpl L pre i t0 b lv hL ht hLv
  have hs:=step_R (pl:=pl) (ec:=ec) hR
  have hn:=step_le pl ec c t
  have hall:RD pl (c::t) ec (ts++us) pl' r':=.leaf h r
  rw [h] at hs hn
  have hn:1≤n∧n≤t.length+1:=hn
  obtain ⟨⟨k,a,hts⟩,_⟩:=hs
  cases i with
  | zero =>
   have ht0:(TT.mk pl k a [])=t0:=by rw [hts] at ht; exact Option.some.inj ht
   induction hLv using LvAt.casesOn with
   | here hb=>exact hall.here0 hR hL ht (by rw [← ht0]; rfl)
   | deep hd=>rw [← ht0] at hd; exact absurd rfl hd.ne
  | succ i =>
   have hL2:L=(pre++ts)++us:=by rw [Qf]; exact hL
   have htl:ts.length=1:=by rw [hts]; rfl
   have hidx:(pre++ts).length+i=pre.length+(i+1):=by rw [Qg,htl]; exact R0
   have ht2:us[i]?=some t0:=by rw [hts] at ht; exact ht
   have key:=ih (hR.drop n) hec (z++(c::t).take n) (by rw [Qf,List.take_append_drop]; exact hz) (by rw [mv_app,← hpl]) L (pre++ts) i t0 b lv hL2 ht2 (by rw [hidx]; exact hLv)
   obtain ⟨u',v,v',q,ns',hr',hv,hv',hq,he,hz',hN',hC',hp',ht',hS'⟩:=key
   refine x15 (split_cons hn.1 hn.2 hr') fun tu q1 q2 q3 q4 q5=>?_
   have hvn:v≠[]:=fun e=>by rw [e] at hv; exact hv' (Qv hv.symm).1
   have hun:(c::tu).length=n+u'.length:=by
    rw [q5,Qg,q2,Qm]; exact ar3 (.im (.le .v0 .v1) (.eq (.a (.i .v0 .v1) .v2) (.a .v0 .v2))) rfl q4
   -- the node before the cut
   have hbare:u'=[]→i=0∧b=true∧BareOk L (pre.length+1):=fun e=>by
    refine x02 (hz' e) fun e1 e2=>?_
    have:=hLv.bare e2
    rw [e1] at this
    exact ⟨e1,e2,this⟩
   have hprev:L[pre.length+1 - 1]?=some (TT.mk pl k a []):=by
    rw [hL,hts,Nat.add_sub_cancel,List.getElem?_append_right (Qd _),Nat.sub_self]; rfl
   have hC:v.head?=some 10→c::tu≠[92]∧c::tu≠[45,92]:=fun e=>leaf_bs hec (by rw [← q1]; exact h) e (fun hl e2=>by
    refine x03 (hbare (Ql (by omega))) fun _ _ hb=>?_
    rw [hts] at e2
    have e3:=TT.mk.inj (List.cons.inj e2).1
    exact (hb _ (Nat.succ_pos _) hprev).1 ⟨e3.2.1,e3.2.2.1⟩) (by rw [q3]; exact (hC' e).1)
   have hstep:step pl ec c tu=.leaf ts n:=by
    rw [q1] at h
    have:=step_take (pl:=pl) (ec:=ec) (c:=c) (t:=tu) hvn hC (by
     rw [h]
     refine ⟨q4,htl,fun e=>by rw [q3]; exact hC' e,fun x hx hk ha=>?_⟩
     rw [hts] at hx
     have hx:=List.mem_singleton.mp hx
     subst hx
     by_cases hu0:u'=[]
     ·refine x03 (hbare hu0) fun _ _ hb=>?_
      exact absurd ⟨hk,ha⟩ (hb _ (by exact ar1 (.lt .n0 (.a .v0 .n1)) rfl) hprev).2
     ·have:=Qn hu0
      exact ar3 (.im (.lt .n0 .v2) (.im (.eq .v1 (.a .v0 .v2)) (.lt .v0 .v1))) rfl this hun)
    rw [this]; exact h
   have hlt:∀ lim,ple q lim→plt pl lim=true:=fun lim hl=>by
    refine ple.lt (plt_mv pl ((c::t).take n) ?_) (ple.trans (by rw [hq]; exact ple_mv _ _) hl)
    intro e
    have:=congrArg List.length e
    rw [Qm,Qb] at this
    simp at this; exact R80 hn this
   refine .mk (c::tu) v v' q (ts++ns') (by rw [q1]; rfl) hv hv' (by rw [hq,← mv_app,q5]) he nofun (fun c' t' n' ts' e1 e2 _=>?_) hC (.leaf hstep (by rw [← q2,q3]; exact hp')) (fun o lim hl=>?_) hS'
   ·cases e1
    rw [h] at e2
    have:=(Step.leaf.inj e2).2
    subst this
    refine ⟨q4,fun e=>?_⟩
    refine x03 (hbare (Ql (by exact ar3 (.im (.eq .v1 (.a .v2 .v0)) (.im (.eq .v2 .v1) (.eq .v0 .n0))) rfl hun e))) fun e1 e2 _=>?_
    exact ⟨by exact ar1 (.im (.eq .v0 .n0) (.eq (.a .v0 .n1) .n1)) rfl e1,e2⟩
   ·rw [toldL_app,toldL_app,ht' o lim hl,hts,toldL_mk,toldL_mk]
    unfold tell1
    rw [if_pos (hlt q (.refl q)),if_pos (hlt lim hl)]
    rfl
 | @opnE pl p1 P c n e t K N ec us h i ih =>
  intro hR hec z hz hpl L pre i0 t0 b lv hL ht hLv
  have hs:=step_R (pl:=pl) (ec:=ec) hR
  have hn:=step_le pl ec c t
  have hall:RD pl (c::t) ec [.mk P K N us] p1 []:=.opnE h i
  rw [h] at hs hn
  have hs:P=pl∧n < t.length+1∧isCl e=true∧_:=hs
  have hn:1≤n∧n≤t.length+1∧_:=hn
  cases i0 with
  | succ i0=>cases ht
  | zero =>
  have ht0:TT.mk P K N us=t0:=Option.some.inj ht
  subst ht0
  have hLk:L[pre.length]?=some (TT.mk P K N us):=by rw [hL,List.getElem?_append_right (Qd _),Nat.sub_self]; rfl
  rw [Nat.add_zero] at hLv
  induction hLv using LvAt.casesOn with
  | here hb=>exact hall.here0 hR hL ht hs.1
  | @deep lv' hd =>
  refine x33 (hd.at) fun k' t' b' g1 g2 g3=>?_
  have hec':∀ x,some e=some x→isCl x=true:=fun x hx=>by cases hx; exact hs.2.2.1
  have hz2:s=(z++(c::t).take n)++(c::t).drop n:=by rw [Qf,List.take_append_drop]; exact hz
  refine opn_cut h hs.1 hn.1 hn.2.1 hn.2.2 i g1 g2 g3 (ih (hR.drop n) hec' (z++(c::t).take n) hz2 (by rw [mv_app,← hpl]) us [] k' t' b' lv' rfl g1 (by rw [List.length_nil,Nat.zero_add]; exact g2)) fun tu v v' q ns1 q1 hv hv' hq he hop hpq hrd ht' hS'=>?_
  refine .mk (c::tu) v v' q [.mk P K N ns1] (by rw [q1]; rfl) hv hv' hq he nofun (fun _ _ _ _ e1 e2 _=>opn_leaf h e1 e2) (fun _=>hop) hrd ht' fun W1 plE lvo hW hc=>?_
  have hdn:(c::t).drop n≠[]:=fun e=>by
   have:=List.drop_eq_nil_iff.mp e
   rw [Qb] at this; omega
  refine x12 (cmy hz2 hdn (by rw [mv_app,← hpl]) (hR.drop n)) fun y hy1 hy2=>?_
  have hun:=(i.unc (hR.drop n) hec' y hy1 hy2).1 rfl
  refine x22 (hS' [] p1 ((L,pre.length)::lvo) .eof (.brk hLk (by rw [uncT_mk]; show (uncL cm us).getD false=true; rw [hun]; rfl))) fun W plE' w1 w2=>?_
  exact ⟨W,plE',w1,by rw [Qf]; exact w2⟩
 | @opnC pl p1 P pl' c n e c1 t K t1 r' N ec us ws h i r ih ih2 =>
  intro hR hec z hz hpl L pre i0 t0 b lv hL ht hLv
  have hs:=step_R (pl:=pl) (ec:=ec) hR
  have hn:=step_le pl ec c t
  have hall:RD pl (c::t) ec (.mk P K N us::ws) pl' r':=.opnC h i r
  rw [h] at hs hn
  have hs:P=pl∧n < t.length+1∧isCl e=true∧∃ p,(closS.find? fun p=>p.1.cps.toList==K)=some p∧p.2.cps.toList=[e]:=hs
  have hn:1≤n∧n≤t.length+1∧_:=hn
  have hec':∀ x,some e=some x→isCl x=true:=fun x hx=>by cases hx; exact hs.2.2.1
  have hz2:s=(z++(c::t).take n)++(c::t).drop n:=by rw [Qf,List.take_append_drop]; exact hz
  refine x13 (i.took) fun x e1 e2 _=>?_
  refine x13 (r.took) fun y0 e3 e4 _=>?_
  refine x02 (i.endC c1 t1 rfl) fun hcls hce=>?_
  have hce:e=c1:=Option.some.inj hce
  subst hce
  have hR2:Rn t1:=by
   have:=(hR.drop n).drop (x.length+1)
   rw [e1,← Qe,List.drop_left] at this
   exact this
  have hplt:∀ q lim,ple (mv pl ((c::t).take n)) q→ple q lim→plt P lim=true:=fun q lim h1 hl=>by
   rw [hs.1]
   refine ple.lt (plt_mv pl ((c::t).take n) ?_) (h1.trans hl)
   intro e
   have:=congrArg List.length e
   rw [Qm,Qb] at this
   simp at this; omega
  -- where the block's end stands
  have hj:s=(z++(c::t).take n++x)++e::t1:=by rw [hz2,e1]; simp
  have hp1:p1=mvA s (z++(c::t).take n++x).length:=by
   show p1=mv (1,1) (s.take _)
   rw [hj,List.take_left,mv_app,mv_app,← hpl]; exact e2
  cases i0 with
  | succ i0 =>
   have hL2:L=(pre++[TT.mk P K N us])++ws:=by rw [Qf]; exact hL
   have hidx:(pre++[TT.mk P K N us]).length+i0=pre.length+(i0+1):=by rw [Qg,List.length_singleton]; exact R0
   obtain ⟨u2,v,v',q,ns2,hr',hv,hv',hq,he,hz',hN',hC',hp',ht',hS'⟩:=ih2 hR2 hec (z++(c::t).take n++x++[e]) (by rw [hj]; simp) (by rw [mv_app,mv_app,mv_app,← hpl,← e2]) L (pre++[TT.mk P K N us]) i0 t0 b lv hL2 ht (by rw [hidx]; exact hLv)
   have hvn:v≠[]:=fun e=>by rw [e] at hv; exact hv' (Qv hv.symm).1
   refine x14 (i.cut (hR.drop n) hec' e u2 v hvn (by rw [hr'])) fun u1 f1 f2 f3 f4=>?_
   refine x15 (split_cons hn.1 hn.2.1 f1) fun tu q1 q2 q3 q4 q5=>?_
   have hmem:e∈c::tu:=by rw [q5]; exact Qw _ f2
   have hstep:step pl ec c tu=.opn P K N e n:=by
    rw [q1] at h
    have:=step_take (pl:=pl) (ec:=ec) (c:=c) (t:=tu) hvn (fun _=>nb_cl hmem f3) (by
     rw [h]
     refine ⟨q4,fun _ _=>?_⟩
     rw [drop_app q4,q3]
     exact ws_cl f3 f2)
    rw [this]; exact h
   have hp1q:ple p1 q:=(ple_mv p1 [e]).trans (by rw [hq]; exact ple_mv _ _)
   have hpq:ple (mv pl ((c::t).take n)) q:=(show ple _ p1 by rw [e2]; exact ple_mv _ _).trans hp1q
   refine .mk (c::tu) v v' q (.mk P K N us::ns2) (by rw [q1]; rfl) hv hv' ?_ he nofun (fun _ _ _ _ e1 e2 _=>opn_leaf h e1 e2) (fun _=>nb_cl hmem f3) (.opnC hstep (by rw [← q2,q3]; exact f4) hp') (fun o lim hl=>?_) hS'
   ·refine x13 (f4.took) fun x' d1 d2 _=>?_
    rw [hq,q5,mv_app,d1,mv_app,← d2]; rfl
   ·rw [toldL_mk,toldL_mk,ht' o lim hl,i.lt (hR.drop n) q lim hp1q (hp1q.trans hl)]
    unfold tell1
    rw [if_pos (hplt q q hpq (.refl q)),if_pos (hplt q lim hpq hl)]
  | zero =>
  have ht0:TT.mk P K N us=t0:=Option.some.inj ht
  subst ht0
  have hLk:L[pre.length]?=some (TT.mk P K N us):=by rw [hL,List.getElem?_append_right (Qd _),Nat.sub_self]; rfl
  have hLd:L.drop (pre.length+1)=ws:=by rw [hL,← Qe,List.drop_left]; rfl
  rw [Nat.add_zero] at hLv
  induction hLv using LvAt.casesOn with
  | here hb=>exact hall.here0 hR hL ht hs.1
  | @deep lv' hd =>
  refine x33 (hd.at) fun k' t' b' g1 g2 g3=>?_
  refine opn_cut h hs.1 hn.1 hn.2.1 hn.2.2 i g1 g2 g3 (ih (hR.drop n) hec' (z++(c::t).take n) hz2 (by rw [mv_app,← hpl]) us [] k' t' b' lv' rfl g1 (by rw [List.length_nil,Nat.zero_add]; exact g2)) fun tu v v' q ns1 q1 hv hv' hq he hop hpq hrd ht' hS'=>?_
  refine .mk (c::tu) v (v'++e::y0) q [.mk P K N ns1] (by rw [q1]; rfl) (by rw [hv,e3]; simp) (by simp) hq (by rw [e4,he,mv_app]; rfl) nofun (fun _ _ _ _ e1 e2 _=>opn_leaf h e1 e2) (fun _=>hop) hrd (fun o lim hl=>?_) fun W1 plE lvo hW hc=>?_
  ·show toldL o q ([.mk P K N us]++ws)=_
   rw [toldL_app,r.ge hR2 q ((show ple q p1 by rw [he]; exact ple_mv _ _).trans (ple_mv _ _)),List.append_nil]
   exact ht' o lim hl
  ·have hdn:(c::t).drop n≠[]:=fun e=>by
    have:=List.drop_eq_nil_iff.mp e
    rw [Qb] at this; omega
   refine x12 (cmy hz2 hdn (by rw [mv_app,← hpl]) (hR.drop n)) fun y hy1 hy2=>?_
   have hun:=(i.unc (hR.drop n) hec' y hy1 hy2).2 (Qt _ _)
   have hrs:RD p1 (e::t1) none ([leafT p1 "error" [e]]++(ws++W1)) plE []:=.leaf (n:=1) (step_err hs.2.2.1 hcls) (r.sole hW)
   refine x12 (hs.2.2.2) fun p hp3 hp4=>?_
   have hjl:(z++(c::t).take n++x).length < s.length:=by
    have:=congrArg List.length hj
    rw [Qg (bs:=e::t1),Qb] at this; exact ar3 (.im (.eq .v1 (.a .v0 (.a .v2 .n1))) (.lt .v0 .v1)) rfl this
   have hch:Chn s q cm (toldL q (farP s) ([leafT p1 "error" [e]]++(ws++W1))) ((L,pre.length)::lvo):=by
    have:=Chn.cls (s:=s) (o:=q) (cm:=cm) (ts:=L) (k:=pre.length) (lv:=lvo) (T:=toldL q (farP s) W1) (p:=p) (e:=e) (j:=(z++(c::t).take n++x).length) hLk (by
     rw [uncT_mk]
     show (uncL cm us).getD false=false
     cases hu:uncL cm us with
     | none=>rfl
     | some b=>cases b with
      | false=>rfl
      | true=>exact absurd hu hun) hp3 hp4 (by
     have:=congrArg (·[(z++(c::t).take n++x).length]?) hj
     rw [this,List.getElem?_append_right (Qd _)]
     simp) hc
    rw [hLd,← hp1] at this
    rw [List.singleton_append,toldL_mk,toldL_app]
    unfold tell1
    rw [hp1,if_pos (far_lt hjl),← hp1]
    exact this
   refine x22 (hS' _ _ ((L,pre.length)::lvo) hrs hch) fun W plE' w1 w2=>?_
   exact ⟨W,plE',w1,by rw [Qf]; exact w2⟩
noncomputable def okText (s:List Nat):Prop:=∀ c∈s,c < 1114112
theorem esc_ok {r:List Nat} (h:okText r):(esc r).1 < 1114112:=by
 unfold esc
 split
 ·cases r with
  | nil=>decide
  | cons c t=>exact h c (.head _)
 ·dsimp only
  split <;> first | decide | exact ar1 (.im (.an (.lt .n0 .v0) (.le .v0 (.n 1114111))) (.lt .v0 (.n 1114112))) rfl ‹_›
theorem okText_drop {a:List Nat} (h:okText a) (n:Nat):okText (a.drop n):=fun c hc=>h c (List.mem_of_mem_drop hc)
theorem okText_take {a:List Nat} (h:okText a) (n:Nat):okText (a.take n):=fun c hc=>h c (List.mem_of_mem_take hc)
theorem ident_ok':∀ (n:Nat) (r:List Nat),r.length≤n→okText r→okText (ident r).1
 | _,[],_,_=>fun c hc=>by rw [ident_nil] at hc; simp at hc
 | 0,_::_,h,_=>by simp at h
 | n+1,c::t,h,hr=>by
  have ht:t.length≤n:=by simpa using h
  have hrt:okText t:=fun d hd=>hr d (.tail _ hd)
  rw [ident_cons]
  split
  ·intro d hd
   rcases Qi hd with rfl | hd
   ·exact hr _ (.head _)
   ·exact ident_ok' n t ht hrt d hd
  ·split
   ·intro d hd
    rcases Qi hd with rfl | hd
    ·exact esc_ok hrt
    ·exact ident_ok' n _ (by rw [Qa]; exact AR.h210 _ _ _ ht) (okText_drop hrt _) d hd
   ·intro d hd; simp at hd
theorem ident_ok (r:List Nat) (h:okText r):okText (ident r).1:=ident_ok' _ r (Qd _) h
theorem qstr_ok (q:Nat):∀ (n:Nat) (r:List Nat),r.length≤n→okText r→okText (qstr q r).val
 | _,[],_,_=>fun c hc=>by rw [qstr_nil] at hc; simp at hc
 | 0,_::_,h,_=>by simp at h
 | n+1,c::t,h,hr=>by
  have ht:t.length≤n:=by simpa using h
  have hrt:okText t:=fun d hd=>hr d (.tail _ hd)
  rw [qstr_cons]
  split
  ·intro d hd; simp at hd
  split
  ·split
   ·intro d hd; simp at hd
   split
   ·exact qstr_ok q n _ (by rw [Qa]; exact R29 ht) (okText_drop hrt _)
   ·intro d hd
    rcases Qi hd with rfl | hd
    ·exact esc_ok hrt
    ·exact qstr_ok q n _ (by rw [Qa]; exact AR.h210 _ _ _ ht) (okText_drop hrt _) d hd
  split
  ·intro d hd; simp at hd
  ·intro d hd
   rcases Qi hd with rfl | hd
   ·exact hr _ (.head _)
   ·exact qstr_ok q n t ht hrt d hd
theorem urlB_ok:∀ (n:Nat) (r:List Nat),r.length≤n→okText r→okText (urlB r).val
 | _,[],_,_=>fun c hc=>by rw [urlB_nil] at hc; simp at hc
 | 0,_::_,h,_=>by simp at h
 | n+1,c::t,h,hr=>by
  have ht:t.length≤n:=by simpa using h
  have hrt:okText t:=fun d hd=>hr d (.tail _ hd)
  rw [urlB_cons]
  split
  ·intro d hd; simp at hd
  split
  ·intro d hd; simp at hd
  split
  ·intro d hd
   rcases Qi hd with rfl | hd
   ·exact esc_ok hrt
   ·exact urlB_ok n _ (by rw [Qa]; exact AR.h210 _ _ _ ht) (okText_drop hrt _) d hd
  split
  ·intro d hd; simp at hd
  ·intro d hd
   rcases Qi hd with rfl | hd
   ·exact hr _ (.head _)
   ·exact urlB_ok n t ht hrt d hd
set_option tactic.hygienic true in
theorem urlR_ok {r v:List Nat} (h:okText r) (e:(urlR r).val=some v):okText v:=by
 unfold urlR at e
 split at e
 ·cases e; intro d hd; simp at hd
 ·rename_i c t hd
  have hb:=urlB_ok _ (c::t) (Qd _) (by rw [← hd]; exact okText_drop h _)
  split at e
  ·cases e; intro d hd; simp at hd
  ·generalize urlB (c::t)=b at e hb
   unfold urlT at e
   split at e
   ·cases e; exact hb
   ·cases e; exact hb
   ·split at e
    ·cases e; exact hb
    ·split at e
     ·cases e; exact hb
     ·cases e
   ·cases e
theorem mend_ok {s:List Nat} (h:okText s):∀ b,okText (mend b s):=by
 induction s with
 | nil=>intro b c hc; simp [mend] at hc
 | cons d t ih =>
  intro b
  have ih:=ih fun c hc=>h c (.tail _ hc)
  rw [mend]
  split
  ·intro c hc
   rcases Qi hc with rfl | hc
   ·decide
   ·exact ih _ c hc
  split
  ·intro c hc
   rcases Qi hc with rfl | hc
   ·decide
   ·exact ih _ c hc
  split
  ·intro c hc
   rcases Qi hc with rfl | hc
   ·exact h c (.head _)
   ·exact ih _ c hc
  ·exact ih _
theorem mend_cnt (s:List Nat):∀ b,cnt (mend b s)≤cnt s:=by
 induction s with
 | nil=>intro b; simp [mend]
 | cons d t ih =>
  intro b
  have h1:cnt t≤cnt (d::t):=by unfold cnt; rw [List.countP_cons]; exact R10
  rw [mend]
  split
  ·have:=ih false
   have e:cnt (65533::mend false t)=cnt (mend false t):=by unfold cnt; rw [List.countP_cons_of_neg (by decide)]
   rw [e]; exact AR.h442 _ _ _ this h1
  split
  ·have:=ih (d==13)
   have e:cnt (10::mend (d==13) t)=cnt (mend (d==13) t):=by unfold cnt; rw [List.countP_cons_of_neg (by decide)]
   rw [e]; exact AR.h442 _ _ _ this h1
  split
  ·have:=ih false
   unfold cnt at this ⊢
   rw [List.countP_cons,List.countP_cons]; exact ar3 (.im (.le .v0 .v2) (.le (.a .v0 .v1) (.a .v2 .v1))) rfl this
  ·have:=ih false
   exact AR.h442 _ _ _ this h1
noncomputable def clean (s:List Nat):Prop:=∀ c∈s,c≠0∧c≠13∧c≠12
theorem mend_clean:∀ (s:List Nat),clean s→mend false s=s
 | [],_=>rfl
 | c::t,h=>by
  have hc:=h c (.head _)
  have ih:=mend_clean t fun d hd=>h d (.tail _ hd)
  have e0:(c==0)=false:=Qk hc.1
  have e13:(c==13)=false:=Qk hc.2.1
  have e12:(c==12)=false:=Qk hc.2.2
  rw [mend,e0,e13,e12,ih]
  simp
set_option tactic.hygienic true in
theorem clean_mend:∀ (b:Bool) (s:List Nat),clean (mend b s)
 | _,[]=>fun c hc=>by simp [mend] at hc
 | b,c::t=>by
  have h1:=clean_mend false t
  have h2:=clean_mend (c==13) t
  rw [mend]
  split
  ·intro d hd
   rcases Qi hd with rfl | hd
   ·decide
   ·exact h1 d hd
  split
  ·intro d hd
   rcases Qi hd with rfl | hd
   ·decide
   ·exact h2 d hd
  split
  ·rename_i a1 a2 a3
   intro d hd
   rcases Qi hd with rfl | hd
   ·simp at a1 a2
    exact ⟨a1,a2.1,a2.2⟩
   ·exact h1 d hd
  ·exact h1
theorem isD_ok {n:Nat} {s:List Nat} (h:okText s):isD n (.str s)=true:=by
 have:s.all (· < 0x110000)=true:=List.all_eq_true.mpr fun c hc=>Qs (h c hc)
 cases n <;> exact this
theorem isD_lit {n:Nat} {x:String} (h:(lit x).all (· < 0x110000)=true):isD n (.str (lit x))=true:=by cases n <;> exact h
theorem ok_one {pl:Nat × Nat} {k:String} {a:V} (hk:(lit k).all (· < 0x110000)=true) (ha:isD 8 a=true):okL [.mk pl (lit k) a []]=true:=by
 rw [okL_cons,okT_eq]
 show (isD 8 a&&(isD 8 (.str (lit k))&&true)&&true)=true
 rw [ha,isD_lit hk]; rfl
theorem ok_leaf {pl:Nat × Nat} {k:String} {v:List Nat} (hk:(lit k).all (· < 0x110000)=true) (hv:okText v):okL [leafT pl k v]=true:=ok_one hk (isD_ok hv)
theorem ok_tup {l:List V} (h:l.all (isD 7)=true):isD 8 (.tup l)=true:=h
noncomputable def StepD:Step→Prop
 | .leaf ts _=>okL ts=true
 | .opn _ K N _ _=>isD 8 N=true∧isD 8 (.str K)=true
 | .cls=>True
 | .stop ts=>True
theorem stepD_ite {b:Bool} {x y:Step} (h:b=true→StepD x) (h':b=false→StepD y):StepD (if b=true then x else y):=by
 cases b with
 | true=>exact h rfl
 | false=>exact h' rfl
theorem ok_lits {l:List Nat} (h:l.all (· < 1114112)=true):okText l:=fun c hc=>Qh (Qr h c hc)
theorem ok_iv {b:Bool} {t:List Nat} {n:Nat}:isD n (intV b t)=true:=by
 unfold intV
 cases b with
 | false=>cases n <;> rfl
 | true =>
  show isD n (match PySem.intText? (S' t) with | some z=>V.int z | Option.none=>V.none)=true
  cases PySem.intText? (S' t) <;> (cases n <;> rfl)
theorem step_D {pl:Nat × Nat} {ec:Option Nat} {c:Nat} {t:List Nat} (h:okText (c::t)):StepD (step pl ec c t):=by
 have ht:okText t:=fun d hd=>h d (.tail _ hd)
 have hc:okText [c]:=fun d hd=>by rw [List.mem_singleton.mp hd]; exact h c (.head _)
 unfold step
 refine stepD_ite (fun _=>ok_leaf (by decide +kernel) (okText_take h _)) (fun _=>stepD_ite (fun _=>ok_one (by decide +kernel) rfl) (fun _=>stepD_ite (fun _=>ok_leaf (by decide +kernel) (ok_lits rfl)) (fun _=>stepD_ite (fun _=>?_) (fun _=>?_))))
 ·have hv:=ident_ok _ h
  unfold stepI
  refine stepD_ite (fun _=>stepD_ite (fun _=>?_) (fun _=>⟨isD_ok hv,isD_lit (by decide +kernel)⟩)) (fun _=>ok_leaf (by decide +kernel) hv)
  have hu:=@urlR_ok ((c::t).drop ((ident (c::t)).2+1))
  generalize urlR ((c::t).drop ((ident (c::t)).2+1))=U at *
  show okL (urlTs pl U)=true
  have h2:okL (match U.err with | 0=>[] | 1=>[leafT pl "error" (lit "eof-in-url")] | _=>[leafT pl "error" (lit "bad-url")])=true:=by
   split
   ·rfl
   ·exact ok_leaf (by decide +kernel) (ok_lits (by decide +kernel))
   ·exact ok_leaf (by decide +kernel) (ok_lits (by decide +kernel))
  unfold urlTs
  cases hval:U.val with
  | none=>exact h2
  | some v =>
   show okL ([leafT pl "url" v]++_)=true
   rw [List.singleton_append,okL_cons]
   have:=ok_leaf (pl:=pl) (k:="url") (by decide +kernel) (hu (okText_drop h _) hval)
   rw [okL_cons] at this
   rw [(Bool.and_eq_true_iff.mp this).1]
   exact h2
 cases hn:numEnd (c::t) with
 | some x =>
  obtain ⟨n,b⟩:=x
  show StepD (stepN pl b n (c::t))
  unfold stepN
  have h1:isD 7 (.str ((c::t).take n))=true:=isD_ok (okText_take h _)
  have h2:isD 7 (intV b ((c::t).take n))=true:=ok_iv
  have h3:isD 7 (.str (ident ((c::t).drop n)).1)=true:=isD_ok (ident_ok _ (okText_drop h _))
  have h4:isD 8 (.tup [.str ((c::t).take n),intV b ((c::t).take n)])=true:=ok_tup (by rw [List.all_cons,List.all_cons,h1,h2]; rfl)
  refine stepD_ite (fun _=>ok_one (by decide +kernel) (ok_tup (by rw [List.all_cons,List.all_cons,List.all_cons,h1,h2,h3]; rfl))) (fun _=>stepD_ite (fun _=>ok_one (by decide +kernel) h4) (fun _=>ok_one (by decide +kernel) h4))
 | none =>
  show StepD (stepZ pl ec c t)
  unfold stepZ
  refine stepD_ite (fun _=>stepD_ite (fun _=>ok_leaf (by decide +kernel) (ident_ok _ ht)) (fun _=>ok_leaf (by decide +kernel) (ok_lits rfl))) (fun _=>?_)
  refine stepD_ite (fun _=>stepD_ite (fun _=>ok_one (by decide +kernel) (ok_tup (by rw [List.all_cons,List.all_cons,isD_ok (ident_ok _ ht)]; rfl))) (fun _=>ok_leaf (by decide +kernel) (ok_lits rfl))) (fun _=>?_)
  refine stepD_ite (fun _=>⟨rfl,isD_lit (by decide +kernel)⟩) (fun _=>stepD_ite (fun _=>⟨rfl,isD_lit (by decide +kernel)⟩) (fun _=>stepD_ite (fun _=>⟨rfl,isD_lit (by decide +kernel)⟩) (fun _=>stepD_ite (fun _=>trivial) (fun _=>stepD_ite (fun _=>ok_leaf (by decide +kernel) hc) (fun _=>stepD_ite (fun _=>?_) (fun _=>stepD_ite (fun _=>?_) (fun _=>?_)))))))
  ·have hq:=qstr_ok c _ t (Qd _) ht
   show okL (strTs pl (qstr c t))=true
   unfold strTs
   split
   ·exact ok_leaf (by decide +kernel) hq
   ·exact ok_leaf (by decide +kernel) (ok_lits (by decide +kernel))
   ·rw [okL_cons]
    have h1:=ok_leaf (pl:=pl) (k:="string") (by decide +kernel) hq
    have h2:=ok_leaf (pl:=pl) (k:="error") (v:=lit "eof-in-string") (by decide +kernel) (ok_lits (by decide +kernel))
    rw [okL_cons] at h1
    rw [(Bool.and_eq_true_iff.mp h1).1]
    exact h2
  ·cases comEnd (t.drop 1) with
   | none=>trivial
   | some k=>exact ok_leaf (by decide +kernel) (okText_take (okText_drop ht _) _)
  refine stepD_ite (fun _=>ok_leaf (by decide +kernel) (ok_lits rfl)) (fun _=>stepD_ite (fun _=>ok_leaf (by decide +kernel) (ok_lits rfl)) (fun _=>stepD_ite (fun _=>stepD_ite (fun _=>ok_leaf (by decide +kernel) (fun d hd=>?_)) (fun _=>ok_leaf (by decide +kernel) hc)) (fun _=>ok_leaf (by decide +kernel) hc)))
  rcases Qi hd with rfl | hd
  ·exact h _ (.head _)
  ·rw [List.mem_singleton.mp hd]; decide
theorem okL_app (a b:List TT):okL (a++b)=(okL a&&okL b):=by
 induction a with
 | nil=>rfl
 | cons t a ih=>rw [Qj,okL_cons,okL_cons,ih,Bool.and_assoc]
theorem RD.ok {pl pl':Nat × Nat} {r r':List Nat} {ec:Option Nat} {ns:List TT} (h:RD pl r ec ns pl' r'):okText r→okL ns=true:=by
 induction h with
 | eof=>exact fun _=>rfl
 | cls=>exact fun _=>rfl
 | @leaf pl pl' c n t r' ec ts us h r ih =>
  intro hk
  have hs:=step_D (pl:=pl) (ec:=ec) hk
  rw [h] at hs
  rw [okL_app,show okL ts=true from hs,ih (okText_drop hk n)]; rfl
 | @opnE pl p1 P c n e t K N ec us h i ih =>
  intro hk
  have hs:=step_D (pl:=pl) (ec:=ec) hk
  rw [h] at hs
  rw [okL_cons,okT_eq]
  show (isD 8 N&&(isD 8 (.str K)&&okL us)&&true)=true
  rw [hs.1,hs.2,ih (okText_drop hk n)]; rfl
 | @opnC pl p1 P pl' c n e c1 t K t1 r' N ec us ws h i r ih ih2 =>
  intro hk
  have hs:=step_D (pl:=pl) (ec:=ec) hk
  rw [h] at hs
  refine x13 (i.took) fun x e1 _ _=>?_
  have hk2:okText t1:=by
   have:=okText_drop (okText_drop hk n) (x.length+1)
   rw [e1,← Qe,List.drop_left] at this
   exact this
  rw [okL_cons,okT_eq]
  show (isD 8 N&&(isD 8 (.str K)&&okL us)&&okL ws)=true
  rw [hs.1,hs.2,ih (okText_drop hk n),ih2 hk2]; rfl
theorem szL_app (a b:List TT):szL (a++b)=szL a+szL b:=by
 induction a with
 | nil=>rw [szL_nil,Nat.zero_add]; rfl
 | cons t a ih=>rw [Qj,szL_cons,szL_cons,ih]; exact ar3 (.eq (.a (.a .v0 .n1) (.a .v1 .v2)) (.a (.a (.a .v0 .n1) .v1) .v2)) rfl
theorem RD.sz {pl pl':Nat × Nat} {r r':List Nat} {ec:Option Nat} {ns:List TT} (h:RD pl r ec ns pl' r'):Rn r→szL ns+r'.length≤r.length:=by
 induction h with
 | eof=>exact fun _=>Qd _
 | cls=>exact fun _=>Nat.le_of_eq (Nat.zero_add _)
 | @leaf pl pl' c n t r' ec ts us h r ih =>
  intro hR
  have hs:=step_R (pl:=pl) (ec:=ec) hR
  have hn:=step_le pl ec c t
  rw [h] at hs hn
  obtain ⟨⟨k,a,rfl⟩,_⟩:=hs
  have h1:=ih (hR.drop n)
  have hn:1≤n∧n≤t.length+1:=hn
  rw [Qa] at h1
  rw [szL_app]
  have:szL [TT.mk pl k a []]=1:=rfl
  rw [this]
  simp only [List.length_cons] at h1 ⊢; exact ar4 (.im (.an (.le .n1 .v3) (.le .v3 (.a .v2 .n1))) (.im (.le (.a .v0 .v1) (.s (.a .v2 .n1) .v3)) (.le (.a (.a .n1 .v0) .v1) (.a .v2 .n1)))) rfl hn h1
 | @opnE pl p1 P c n e t K N ec us h i ih =>
  intro hR
  have hn:=step_le pl ec c t
  rw [h] at hn
  have h1:=ih (hR.drop n)
  have hn:1≤n∧n≤t.length+1∧_:=hn
  rw [Qa] at h1
  rw [szL_cons]
  show szL us+1+szL []+_≤_
  rw [szL_nil]
  simp only [List.length_cons] at h1 ⊢; omega
 | @opnC pl p1 P pl' c n e c1 t K t1 r' N ec us ws h i r ih ih2 =>
  intro hR
  have hn:=step_le pl ec c t
  rw [h] at hn
  have h1:=ih (hR.drop n)
  refine x13 (i.took) fun x e1 _ _=>?_
  have hR2:Rn t1:=by
   have:=(hR.drop n).drop (x.length+1)
   rw [e1,← Qe,List.drop_left] at this
   exact this
  have h2:=ih2 hR2
  have hn:1≤n∧n≤t.length+1∧_:=hn
  rw [Qa] at h1
  rw [szL_cons]
  show szL us+1+szL ws+_≤_
  simp only [List.length_cons] at h1 ⊢; exact ar6 (.im (.le (.a .v0 (.a .v4 .n1)) (.s (.a .v3 .n1) .v5)) (.im (.le (.a .v1 .v2) .v4) (.le (.a (.a (.a .v0 .n1) .v1) .v2) (.a .v3 .n1)))) rfl h1 h2
structure SR (o p p2:Nat × Nat):Prop where
 l:p.1+1=p2.1+o.1
 c1:p.1=o.1→p.2+1=p2.2+o.2
 c2:p.1≠o.1→p.2=p2.2
 le:o.1≤p.1
 pos:1≤o.1
theorem SR.mv1 {o p p2:Nat × Nat} (h:SR o p p2) (c:Nat):SR o (mv p [c]) (mv p2 [c]):=by
 obtain ⟨h1,h2,h3,h4,h5⟩:=h
 show SR o (if c==10 then (p.1+1,1) else (p.1,p.2+1)) (if c==10 then (p2.1+1,1) else (p2.1,p2.2+1))
 split
 ·exact ⟨by dsimp only; exact R81 h1,fun e=>by dsimp only at e; exact ar5 (.im (.eq (.a .v3 .n1) .v4) (.im (.le .v4 .v3) (.eq (.a .v0 .n1) (.a .v1 .v2)))) rfl e h4,fun _=>rfl,by dsimp only; exact ar3 (.im (.eq (.a .v1 .n1) (.a .v2 .v0)) (.le .v0 (.a .v1 .n1))) rfl h1,h5⟩
 ·exact ⟨h1,fun e=>by have:=h2 e; dsimp only; exact R81 this,fun e=>by have:=h3 e; dsimp only; exact ar2 (.im (.eq .v0 .v1) (.eq (.a .v0 .n1) (.a .v1 .n1))) rfl this,h4,h5⟩
theorem SR.mv {o:Nat × Nat}:∀ (x:List Nat) {p p2:Nat × Nat},SR o p p2→SR o (mv p x) (Internal.mv p2 x)
 | [],_,_,h=>h
 | c::x,_,_,h=>SR.mv x (h.mv1 c)
theorem SR.sh {o p p2:Nat × Nat} (h:SR o p p2):shV (1,1) p2=shV o p:=by
 obtain ⟨h1,h2,h3,h4,h5⟩:=h
 unfold shV
 congr 2
 ·congr 1; dsimp only; omega
 ·congr 2
  by_cases e:p.1=o.1
  ·have:=h2 e
   rw [if_pos e,if_pos (show p2.1=1 by exact ar3 (.im (.eq (.a .v1 .n1) (.a .v0 .v2)) (.im (.eq .v1 .v2) (.eq .v0 .n1))) rfl h1 e)]
   dsimp only; omega
  ·have:=h3 e
   rw [if_neg e,if_neg (show ¬ p2.1=1 by exact ar3 (.im (.eq (.a .v1 .n1) (.a .v0 .v2)) (.im (.nt (.eq .v1 .v2)) (.nt (.eq .v0 .n1)))) rfl h1 e),this]
theorem ple_line {p q:Nat × Nat} (h:ple p q):p.1≤q.1:=by
 rcases h with rfl | h
 ·exact Qd _
 ·unfold plt at h
  simp only [Bool.or_eq_true,Bool.and_eq_true,decide_eq_true_eq,beq_iff_eq] at h
  exact ar4 (.im (.or (.lt .v0 .v1) (.an (.eq .v0 .v1) (.lt .v2 .v3))) (.le .v0 .v1)) rfl h
theorem SR.told {o p p2 far:Nat × Nat} (h:SR o p p2) (hf:p.1 < far.1) (k:List Nat) (a:V) (us:List V):tell1 (1,1) far p2 k a us=tell1 o far p k a us:=by
 have h1:plt p far=true:=by unfold plt; rw [Qs hf]; rfl
 have h2:plt p2 far=true:=by
  have:=h.l; have:=h.pos
  unfold plt; rw [Qs (show p2.1 < far.1 by exact ar4 (.im (.eq (.a .v2 .n1) (.a .v0 .v3)) (.im (.le .n1 .v3) (.im (.lt .v2 .v1) (.lt .v0 .v1)))) rfl ‹_› this hf)]; rfl
 unfold tell1 nodeV
 rw [if_pos h1,if_pos h2,h.sh]
theorem RD.shift {far o:Nat × Nat} {pl pl':Nat × Nat} {r r':List Nat} {ec:Option Nat} {ns:List TT} (h:RD pl r ec ns pl' r'):Rn r→pl'.1 < far.1→∀ pl2,SR o pl pl2→∃ ns2 pl2',RD pl2 r ec ns2 pl2' r'∧SR o pl' pl2'∧toldL (1,1) far ns2=toldL o far ns:=by
 induction h with
 | eof=>exact fun _ _ pl2 h=>⟨[],pl2,.eof,h,rfl⟩
 | @cls pl c t ec h =>
  intro _ _ pl2 hs
  exact ⟨[],pl2,.cls (by rw [step_at pl2 pl,h]; rfl),hs,rfl⟩
 | @leaf pl pl' c n t r' ec ts us h r ih =>
  intro hR hf pl2 hs
  have h2:=step_R (pl:=pl) (ec:=ec) hR
  have hst:step pl2 ec c t=(Step.leaf ts n).at pl2:=by rw [step_at pl2 pl,h]
  rw [h] at h2
  obtain ⟨⟨k,a,rfl⟩,_⟩:=h2
  refine x23 (ih (hR.drop n) hf _ (SR.mv ((c::t).take n) hs)) fun ns2 pl2' g1 g2 g3=>?_
  have hle:ple pl pl':=by
   refine x13 (r.took) fun x _ e2 _=>?_
   exact (ple_mv pl _).trans (by rw [e2]; exact ple_mv _ _)
  refine ⟨[.mk pl2 k a []]++ns2,pl2',.leaf (show step pl2 ec c t=.leaf [.mk pl2 k a []] n from hst) g1,g2,?_⟩
  rw [toldL_app,toldL_app,g3,toldL_mk,toldL_mk,hs.told (Nat.lt_of_le_of_lt (ple_line hle) hf)]
  rfl
 | @opnE pl p1 P c n e t K N ec us h i ih =>
  intro hR hf pl2 hs
  have h2:=step_R (pl:=pl) (ec:=ec) hR
  have hst:step pl2 ec c t=(Step.opn P K N e n).at pl2:=by rw [step_at pl2 pl,h]
  rw [h] at h2
  refine x23 (ih (hR.drop n) hf _ (SR.mv ((c::t).take n) hs)) fun ns2 pl2' g1 g2 g3=>?_
  have hle:ple pl p1:=by
   refine x13 (i.took) fun x _ e2 _=>?_
   exact (ple_mv pl _).trans (by rw [e2]; exact ple_mv _ _)
  refine ⟨[.mk pl2 K N ns2],pl2',.opnE hst g1,g2,?_⟩
  rw [toldL_mk,toldL_mk,g3,h2.1,hs.told (Nat.lt_of_le_of_lt (ple_line hle) hf)]
  rfl
 | @opnC pl p1 P pl' c n e c1 t K t1 r' N ec us ws h i r ih ih2 =>
  intro hR hf pl2 hs
  have h2:=step_R (pl:=pl) (ec:=ec) hR
  have hst:step pl2 ec c t=(Step.opn P K N e n).at pl2:=by rw [step_at pl2 pl,h]
  rw [h] at h2
  refine x13 (i.took) fun x e1 e2 _=>?_
  refine x13 (r.took) fun y _ e4 _=>?_
  have hR2:Rn t1:=by
   have:=(hR.drop n).drop (x.length+1)
   rw [e1,← Qe,List.drop_left] at this
   exact this
  have hp1:ple p1 pl':=(ple_mv p1 [c1]).trans (by rw [e4]; exact ple_mv _ _)
  have hle:ple pl pl':=(ple_mv pl _).trans (ple.trans (by rw [e2]; exact ple_mv _ _) hp1)
  refine x23 (ih (hR.drop n) (Nat.lt_of_le_of_lt (ple_line hp1) hf) _ (SR.mv ((c::t).take n) hs)) fun ns2 pl2' g1 g2 g3=>?_
  refine x23 (ih2 hR2 hf _ (g2.mv1 c1)) fun ws2 pl3' k1 k2 k3=>?_
  refine ⟨.mk pl2 K N ns2::ws2,pl3',.opnC hst g1 k1,k2,?_⟩
  rw [toldL_mk,toldL_mk,g3,k3,h2.1,hs.told (Nat.lt_of_le_of_lt (ple_line hle) hf)]
theorem mend_end:∀ (x:List Nat) (b:Bool),∃ y,(if b=true then 10::mend b (x++ENDT) else mend b (x++ENDT))=y++ENDT:=by
 intro x
 induction x with
 | nil =>
  intro b
  cases b
  ·exact ⟨[],by decide⟩
  ·exact ⟨[],by decide⟩
 | cons c x ih =>
  intro b
  rw [Qj]
  cases hd:c==10&&b with
  | true =>
   rw [Qc] at hd
   have hc:=eq_of_beq hd.1
   subst hc
   rw [hd.2,if_pos rfl,mend_drop]
   refine x11 (ih false) fun y hy=>?_
   exact ⟨10::y,congrArg (10::·) hy⟩
  | false =>
   rw [mend_keep _ hd]
   have key:∃ y,fixc c::mend (c==13) (x++ENDT)=y++ENDT:=by
    cases h13:c==13 with
    | true =>
     have hc:=eq_of_beq h13
     subst hc
     exact ih true
    | false =>
     refine x11 (ih false) fun y hy=>?_
     exact ⟨fixc c::y,congrArg (fixc c::·) hy⟩
   refine x11 (key) fun y hy=>?_
   rw [hy]
   cases b
   ·exact ⟨y,rfl⟩
   ·exact ⟨10::y,rfl⟩
theorem piece_mem (i:Int):pieceAt i=[]∨pieceAt i∈pieces:=by
 unfold pieceAt
 rw [List.getD_eq_getElem?_getD]
 cases h:pieces[(i.fmod 64).toNat]? with
 | none=>exact .inl rfl
 | some p=>exact .inr (List.mem_of_getElem? h)
theorem txF_ok:∀ (zs:List Int) (k:Nat),okText (txF k zs)∧cnt (txF k zs)≤zs.length
 | [],_=>⟨nmm,Qd _⟩
 | z::r,k=>by
  have ih:=txF_ok r (k+1)
  have hp:pieces.all (fun p=>p.all (· < 1114112)&&decide (cnt p≤1))=true:=by decide +kernel
  have h1:okText (pieceAt (z+7 * (k:Int)))∧cnt (pieceAt (z+7 * (k:Int)))≤1:=by
   rcases piece_mem (z+7 * (k:Int)) with e | e
   ·rw [e]; exact ⟨nmm,Nat.zero_le _⟩
   ·have:=Qr hp _ e
    rw [Qc] at this
    exact ⟨ok_lits this.1,Qh this.2⟩
  refine ⟨fun c hc=>?_,?_⟩
  ·rcases List.mem_append.mp hc with hc | hc
   ·exact h1.1 c hc
   ·exact ih.1 c hc
  ·show cnt (pieceAt _++txF (k+1) r)≤_
   unfold cnt at *
   rw [List.countP_append,Qb]
   omega
theorem plainAll:PlainAll:=by
 intro zs hz
 have hok:okText (lawText zs):=fun c hc=>by
  rcases List.mem_append.mp hc with hc | hc
  ·exact (txF_ok _ _).1 c hc
  ·exact ok_lits (l:=ENDT) rfl c hc
 have hcn:cnt (lawText zs)≤12:=by
  have h1:=(txF_ok (zs.take 12) 0).2
  unfold lawText
  unfold cnt at h1 ⊢
  rw [List.countP_append,show ENDT.countP isOp=0 from rfl]
  rw [Qm] at h1
  exact ar2 (.im (.le .v0 (.i (.n 12) .v1)) (.le (.a .v0 .n0) (.n 12))) rfl h1
 have hen:∃ y,norm (lawText zs)=y++ENDT:=by rw [norm_eq]; exact mend_end _ false
 have hlen:(lawText zs).length≤114:=by
  have:=tx_len (zs.take 12) 0
  rw [Qm] at this
  unfold lawText
  rw [Qg,show ENDT.length=6 from rfl]; exact R65 this
 have hnl:=norm_le (lawText zs)
 have hcl:clean (norm (lawText zs)):=by rw [norm_eq]; exact clean_mend _ _
 have hokn:okText (norm (lawText zs)):=by rw [norm_eq]; exact mend_ok hok _
 have hcnn:cnt (norm (lawText zs))≤12:=by rw [norm_eq]; exact Nat.le_trans (mend_cnt _ _) hcn
 obtain ⟨ns,plE,hRD⟩:=RD.top (r:=norm (lawText zs)) (.inl (by obtain ⟨y,e⟩:=hen; rw [e]; exact ⟨y,rfl⟩)) (1,1)
 have htold:told (lawText zs)=ns:=hRD.told
 generalize hs:norm (lawText zs)=s at *
 refine x11 (hen) fun y hy=>?_
 have hR:Rn s:=.inl (by rw [hy]; exact ⟨y,rfl⟩)
 have hxc:s=(y++[10,10,41,42,47])++[44]:=by rw [hy,Qf]; rfl
 have hsn:s≠[]:=by rw [hxc]; simp
 have hun:=(hRD.unc hR (fun e he=>nomatch he) _ hxc rfl).1 rfl
 have hsz:=hRD.sz hR
 have hcT:∀ i,norm (s.take i)=s.take i:=fun i=>by rw [norm_eq]; exact mend_clean _ fun c hc=>hcl c (List.mem_of_mem_take hc)
 have hcD:∀ i,norm (s.drop i)=s.drop i:=fun i=>by rw [norm_eq]; exact mend_clean _ fun c hc=>hcl c (List.mem_of_mem_drop hc)
 have hsl:s.length≤114:=Nat.le_trans hnl hlen
 have hnsn:ns≠[]:=fun e=>by rw [e] at hun; cases hun
 refine ⟨by rw [hs]; exact ar1 (.im (.le .v0 (.n 12)) (.lt .v0 (.n 13))) rfl hcnn,⟨_,by rw [hs]; exact hxc,fun lv hlv=>?_⟩,by rw [htold]; exact hRD.ok hokn,by rw [htold]; exact ar4 (.im (.le (.a .v0 .v1) .v2) (.im (.le .v3 (.n 114)) (.im (.le .v2 .v3) (.le .v0 (.n 1000))))) rfl hsz hlen hnl,by rw [htold]; exact hnsn,fun i=>?_⟩
 ·rw [hs,htold]
  rw [htold] at hlv
  refine x33 (hlv.at) fun k t b ht hLv _=>?_
  have key:=RD.main hxc rfl hRD hR (fun e he=>nomatch he) [] rfl rfl ns [] k t b lv rfl ht (by rw [List.length_nil,Nat.zero_add]; exact hLv)
  induction key with
  | mk u v v' q ns' hr hv hv' hq he hz hN hC hp hT hS =>
  have hvn:v≠[]:=fun e=>by rw [e] at hv; exact hv' (Qv hv.symm).1
  have hu:s.take u.length=u:=by rw [hr,List.take_left]
  have hd:s.drop u.length=v:=by rw [hr,List.drop_left]
  have hul:u.length < s.length:=by
   have:=Qn hvn
   rw [hr,Qg]; exact ar2 (.im (.lt .n0 .v1) (.lt .v0 (.a .v0 .v1))) rfl this
  have hqa:q=mvA s u.length:=by show q=mv (1,1) (s.take u.length); rw [hu]; exact hq
  have hnu:norm u=u:=by have:=hcT u.length; rw [hu] at this; exact this
  have hnv:norm v=v:=by have:=hcD u.length; rw [hd] at this; exact this
  have htu:told u=ns':=RD.told (pl':=q) (by rw [hnu]; exact hp)
  have hRv:Rn v:=by have:=hR.drop u.length; rw [hd] at this; exact this
  refine x22 (hS [] plE [] .eof .nil) fun W plE' hW hc0=>?_
  refine x13 (hW.took) fun x hx1 hx2 _=>?_
  have hl2:plE'.1 < (farP s).1:=by
   have e1:plE'=mv (1,1) s:=by rw [hx2,hq,← mv_app,hr,hx1,List.append_nil]
   have e2:=mv_line s 1 1
   rw [e1,e2]
   show 1+s.count 10 < s.length+1
   have h3:s.count 10 < s.length:=by
    rw [hxc,List.count_append]
    have:=List.count_le_length (a:=10) (l:=y++[10,10,41,42,47])
    rw [Qg]
    show _+0 < _+1
    exact ar2 (.im (.le .v0 .v1) (.lt (.a .v0 .n0) (.a .v1 .n1))) rfl this
   exact ar2 (.im (.lt .v0 .v1) (.lt (.a .n1 .v0) (.a .v1 .n1))) rfl h3
  have hq1:1≤q.1:=by rw [hq,mv_line u 1 1]; exact ar1 (.le .n1 (.a .n1 .v0)) rfl
  refine x23 (hW.shift hRv hl2 (1,1) ⟨Nat.add_comm _ _,fun _=>Nat.add_comm _ _,fun h=>absurd rfl h,Qd _,hq1⟩) fun W2 plE2 g1 _ g3=>?_
  have htv:told v=W2:=RD.told (pl':=plE2) (by rw [hnv]; exact g1)
  rw [List.append_nil] at hc0
  generalize hZ:toldL q (farP s) W=Z at hc0
  induction hc0 with
  | @mk ts k2 t2 T r hk2 hp2 hch =>
  subst hp2
  refine .mk hk2 hul hqa ?_ ?_ hch ?_ ?_
  ·rw [hu,htu]
   exact (hT (1,1) (farP s) (by rw [hqa]; exact .inr (far_lt hul))).symm
  ·rw [hd,htv,g3]; exact hZ
  ·rw [hu,htu]
   exact hp.ok (by rw [← hu]; exact okText_take hokn _)
  ·rw [hd,htv]
   exact g1.ok (by rw [← hd]; exact okText_drop hokn _)
 ·rw [hs,hcT,hcD]
  have h1:=cnt_drop s i
  have h2:Internal.cnt (s.take i)≤Internal.cnt s:=by
   unfold Internal.cnt; exact List.Sublist.countP_le (List.take_sublist i s)
  exact ⟨by exact R82 hcnn h2,by exact R82 hcnn h1⟩
end Internal
open Mine.Internal
theorem u:True:=⟨⟩
abbrev U:=True
namespace main
theorem tw10988349151246609537:U:=u
theorem tw13962693860625380366:U:=u
theorem tw2852251193174398662:U:=u
theorem tw4917070330192852093:U:=u
theorem tw11273777480241942364:U:=u
theorem tw8260724100714396741:U:=u
theorem tw11692516046256081784:U:=u
theorem tw11156056980113079860:U:=u
theorem tw5638201095994319732:U:=u
theorem tw14080665800827857628:U:=u
theorem tw14864641218109852296:U:=u
theorem tw8090509862211737132:U:=u
theorem tw13626721169425172152:U:=u
theorem tw7083192437325867461:U:=u
theorem tw3305931106042330821:U:=u
theorem tw15491723280356408159:U:=u
theorem tw15023316991559800185:U:=u
theorem tw18431692314602308842:U:=u
theorem tw10876375607700338302:U:=u
theorem tw12747388180105724736:U:=u
theorem tw11735423636902730196:U:=u
theorem tw796168687070700412:U:=u
theorem tw5418533224930618480:U:=u
theorem tw17695171507069755227:U:=u
theorem tw15510692781650021527:U:=u
theorem tw17292155258170135553:U:=u
theorem tw4544244032028310869:U:=u
theorem tw1390771862084280389:U:=u
theorem tw8905464785575363620:U:=u
theorem tw5585478044538960755:U:=u
theorem tw5181119749688162637:U:=u
theorem tw15365013842991253249:U:=u
theorem tw4573282807186111410:U:=u
theorem tw471287901995484742:U:=u
theorem tw13974046611088194958:U:=u
theorem tw12872379398031375081:U:=u
theorem tw8930851030842425676:U:=u
theorem tw15616401959046598769:U:=u
theorem tw16452447596832230105:U:=u
theorem tw2744014450722944760:U:=u
theorem tw5665406974723832613:U:=u
theorem tw7624122152786673341:U:=u
theorem tw8440099810896429113:U:=u
theorem tw9274054859765456524:U:=u
theorem tw3958507339218470045:U:=u
theorem tw14216407083858561409:U:=u
theorem tw4650958065196391918:U:=u
theorem tw31828345220925962:U:=u
theorem tw18287795668848337631:U:=u
theorem tw365850788961202214:U:=u
theorem tw5240779543111244032:U:=u
theorem tw14457758005677747962:U:=u
theorem tw16035907590883218939:U:=u
theorem tw14539993770535171780:U:=u
theorem tw1099256609624015869:U:=u
theorem tw7113585516715319716:U:=u
theorem tw8546124895413445307:U:=u
theorem tw5842977544298395883:U:=u
theorem tw17708487481403421675:U:=u
theorem tw6361450105264607166:U:=u
theorem tw3864431920445960829:U:=u
theorem tw1429040668314091153:U:=u
theorem tw17146568849442343683:U:=u
theorem tw17170547521421431960:U:=u
theorem tw15624239662980076321:U:=u
theorem tw11239335112260394413:U:=u
theorem tw3911810758690780188:U:=u
theorem tw917386388269078853:U:=u
theorem tw8905992674379837232:U:=u
theorem tw12093647306153771053:U:=u
theorem tw3864827586467847463:U:=u
theorem tw14722489848711283861:U:=u
theorem tw9394770849952503311:U:=u
theorem tw5532463470591059822:U:=u
theorem tw4637267157515435788:U:=u
theorem tw3045742163950154196:U:=u
theorem tw6697339332421208802:U:=u
theorem tw2173562974560187446:U:=u
theorem tw17147588175821073265:U:=u
theorem tw10450603732522932521:U:=u
theorem tw4423423576564373014:U:=u
theorem tw11399646045708457374:U:=u
theorem tw12987577155417789579:U:=u
theorem tw11041547156204584376:U:=u
theorem tw9483120023164983764:U:=u
theorem tw1826329307503635854:U:=u
theorem tw1678875084529416142:U:=u
theorem tw1545906260438175962:U:=u
theorem tw244467455267321384:U:=u
theorem tw15737690656516749961:U:=u
theorem tw12623159325031504133:U:=u
theorem tw11020365191643786025:U:=u
theorem tw10140136200207757160:U:=u
theorem tw1677766988990989824:U:=u
theorem tw17958375852430007124:U:=u
theorem tw8844999433837080629:U:=u
theorem tw11135027115929721415:U:=u
theorem tw2629084897520917108:U:=u
theorem tw6741292078354696603:U:=u
theorem tw15970538086172389420:U:=u
theorem tw4413345314126155841:U:=u
theorem tw3748114642381145586:U:=u
theorem tw5127751686995613262:U:=u
theorem tw6557543464795787104:U:=u
theorem tw13803360072150633466:U:=u
theorem tw15683502518078909336:U:=u
theorem tw765107192605250810:U:=u
theorem tw12273490649430754879:U:=u
theorem tw4433583912937229259:U:=u
theorem tw10877679251791092727:U:=u
theorem tw6690441779611380620:U:=u
theorem tw7273056430967151046:U:=u
theorem tw5995161000843957690:U:=u
theorem tw1519992759497675636:U:=u
theorem tw7647378279178456250:U:=u
theorem tw5061512775090418087:U:=u
theorem tw1253437644075932092:U:=u
theorem tw7298748307773712898:U:=u
theorem tw10094358506670053839:U:=u
theorem tw16757190730947197508:U:=u
theorem tw14492832472218066102:U:=u
theorem tw4009796111205994722:U:=u
theorem tw9155575984036265788:U:=u
theorem tw8118072479153026202:U:=u
theorem tw6044114016751833949:U:=u
theorem tw14666387041718499266:U:=u
theorem tw13406003279186336099:U:=u
theorem tw918671981122897330:U:=u
theorem tw2402762420636078793:U:=u
theorem tw6334894449686545209:U:=u
theorem tw1178595665728414349:U:=u
theorem tw2538046985915079169:U:=u
theorem tw4324958949535026087:U:=u
theorem tw6161133996638707016:U:=u
theorem tw5623159541915647742:U:=u
theorem tw13995172100960836882:U:=u
theorem tw11101190512080308003:U:=u
theorem tw13110970153573199417:U:=u
theorem tw9942282790977331292:U:=u
theorem tw10298723112805639129:U:=u
theorem tw8650628079126297760:U:=u
theorem tw13313126695403321540:U:=u
theorem tw11716418206903941319:U:=u
theorem tw13838900630717943254:U:=u
theorem tw10924716458440934090:U:=u
theorem tw1084220662915027778:U:=u
theorem tw1469836325065767749:U:=u
theorem tw15350898050860989542:U:=u
theorem tw5790326737455844299:U:=u
theorem tw5921134243170700561:U:=u
theorem tw10652611922669240339:U:=u
theorem tw13132915859168520264:U:=u
theorem tw161903638078081290:U:=u
theorem tw16187894506366716058:U:=u
theorem tw16544489699163171333:U:=u
theorem tw6910295442248876197:U:=u
theorem tw17236958762192778904:U:=u
theorem tw10238671024203754992:U:=u
theorem tw13347406073615853072:U:=u
theorem tw962032349192862916:U:=u
theorem tw12361340156312767134:U:=u
theorem tw7308723440029596264:U:=u
theorem tw8502009786194526861:U:=u
theorem tw5517759331935216279:U:=u
theorem tw17297283025540448806:U:=u
theorem tw14771111431291430275:U:=u
theorem tw5518243967957118194:U:=u
theorem tw13355152605343272895:U:=u
theorem tw8748973510418095054:U:=u
theorem tw16572128252103988241:U:=u
theorem tw6660377722381337597:U:=u
theorem tw13148611719377898607:U:=u
theorem tw4812270449578504274:U:=u
theorem tw10047389527955405517:U:=u
theorem tw13547569757486424058:U:=u
theorem tw1496695287857109588:U:=u
theorem tw11531331273489700057:U:=u
theorem tw9848185148710128376:U:=u
theorem tw12646911602827044314:U:=u
theorem tw7332552209862256014:U:=u
theorem tw18403998269306519403:U:=u
theorem tw2714283472998740243:U:=u
theorem tw10453263994017694363:U:=u
theorem tw10642606787283503386:U:=u
theorem tw820145642477177705:U:=u
theorem tw16819838333489098493:U:=u
theorem tw7904437144335635152:U:=u
theorem tw15991044622763254686:U:=u
theorem tw16656740534632174751:U:=u
theorem tw11967333016625521393:U:=u
theorem tw11225645599760410699:U:=u
theorem tw12431561837914552411:U:=u
theorem tw12594366453804578888:U:=u
theorem tw221909299271738847:U:=u
theorem tw8436210846270712021:U:=u
theorem tw9361300454564663673:U:=u
theorem tw12608185968620612914:U:=u
theorem tw7237411587787531456:U:=u
theorem tw5450094653865882931:U:=u
theorem tw12564604832814323664:U:=u
theorem tw17438294365789470252:U:=u
theorem tw452746233719593009:U:=u
theorem tw4585930131862741453:U:=u
theorem tw3298483428156984901:U:=u
theorem tw6385024630547198690:U:=u
theorem tw16965079339398995527:U:=u
theorem tw9303439499767911484:U:=u
theorem tw14798791472264738832:U:=u
theorem tw13465503431842376007:U:=u
theorem tw10609540516017602915:U:=u
theorem tw6886502059237256666:U:=u
theorem tw4924694640843408985:U:=u
theorem tw1027651156746619712:U:=u
theorem tw4072190877284726289:U:=u
theorem tw13693970394777133609:U:=u
theorem tw10564528347858357063:U:=u
theorem tw1632041292262086317:U:=u
theorem tw9189880136782149556:U:=u
theorem tw2729793432009153956:U:=u
theorem tw14235155234550121937:U:=u
theorem tw14313897822631088780:U:=u
theorem tw15062679425460387418:U:=u
theorem tw15474953400610940701:U:=u
theorem tw9369988214560726041:U:=u
theorem tw16451033083921036709:U:=u
theorem tw9121559901702372667:U:=u
theorem tw18218335207050127959:U:=u
theorem tw8610315236036937458:U:=u
theorem tw8207831470162742035:U:=u
theorem tw15225127925928830808:U:=u
theorem tw17336282652733537790:U:=u
theorem tw1980160206288974728:U:=u
theorem tw453184122279072053:U:=u
theorem tw10199874654664476236:U:=u
theorem tw2456247091588846565:U:=u
theorem tw8466321980469482115:U:=u
theorem tw11049269918873537771:U:=u
theorem tw6112859857366181021:U:=u
theorem tw1777545030009416734:U:=u
theorem tw11646826074482590764:U:=u
theorem tw3491332818749588091:U:=u
theorem tw16844846013681443199:U:=u
theorem tw7074144079889050967:U:=u
theorem tw9175052073728820173:U:=u
theorem tw1270039299266317192:U:=u
theorem tw8947760058931562597:U:=u
theorem tw12463224122652932544:U:=u
theorem tw18421580907717582127:U:=u
theorem tw18425317256667529438:U:=u
theorem tw12343854547171428336:U:=u
theorem tw14027531716089632829:U:=u
theorem tw9957550378297406723:U:=u
theorem tw10123989817122485451:U:=u
theorem tw7698036289167662538:U:=u
theorem tw16320215318167395912:U:=u
theorem tw341453280667917650:U:=u
theorem tw12784055721772562989:U:=u
theorem tw12139096438432415106:U:=u
theorem tw17057053908230417247:U:=u
theorem tw4766233809647381661:U:=u
theorem tw7943094425149488825:U:=u
theorem tw799486724532869496:U:=u
theorem tw10169072693733980587:U:=u
theorem tw6981815665589151136:U:=u
theorem tw11251407683458634364:U:=u
theorem tw16641786646906312760:U:=u
theorem tw10231336680788121439:U:=u
theorem tw3613476055612923068:U:=u
theorem tw14060465935940456498:U:=u
theorem tw10669944970481658594:U:=u
theorem tw9897820754763898449:U:=u
theorem tw16480584520131690045:U:=u
theorem tw13597483153833180358:U:=u
theorem tw3464709057266567092:U:=u
theorem tw13224007501803129859:U:=u
theorem tw9515011664573035354:U:=u
theorem tw6663778134991626487:U:=u
theorem tw15438212644395081984:U:=u
theorem tw11962923498438245051:U:=u
theorem tw17456035664235451855:U:=u
theorem tw7623511443260959870:U:=u
theorem tw12450111651097656602:U:=u
theorem tw4491334807805099456:U:=u
theorem tw11218778669853930896:U:=u
theorem tw7165207203227711834:U:=u
theorem tw9392487213469676918:U:=u
theorem tw7699798408344515789:U:=u
theorem tw7929128423345735474:U:=u
theorem tw12751799325998411230:U:=u
theorem tw16826212616301561204:U:=u
theorem tw12992176717851604617:U:=u
theorem tw17906638245316424091:U:=u
theorem tw10876229203375891673:U:=u
theorem tw11261727412033496967:U:=u
theorem tw5436791530062809996:U:=u
theorem tw3454311308915712629:U:=u
theorem tw12885673836220544336:U:=u
theorem tw9268297945177815525:U:=u
theorem tw18165044119631177899:U:=u
theorem tw18031918436515192882:U:=u
theorem tw9302470337196694018:U:=u
theorem tw9069182735580402390:U:=u
theorem tw12909650291622432550:U:=u
theorem tw17268439761433841065:U:=u
theorem tw8729708805864041840:U:=u
theorem tw2583023086579268501:U:=u
theorem tw1151946252083901208:U:=u
theorem tw5871769198996169552:U:=u
theorem tw7214478077546791972:U:=u
theorem tw15955573374722617477:U:=u
theorem tw9265829497004654079:U:=u
theorem tw12941917028564957548:U:=u
theorem tw15387884906608193903:U:=u
theorem tw1098248734344127483:U:=u
theorem tw7186131708394509389:U:=u
theorem tw7268301785047649679:U:=u
theorem tw7054876372555587774:U:=u
theorem tw3934531018447913466:U:=u
theorem tw2110754180369666209:U:=u
theorem tw545269030811804461:U:=u
theorem tw8265370782698574782:U:=u
theorem tw2007339730380871907:U:=u
theorem tw14562738103837258888:U:=u
theorem tw14406990849044604362:U:=u
theorem tw16629339528299215175:U:=u
theorem tw11092141859048813250:U:=u
theorem tw3557749057250611081:U:=u
theorem tw10750994468655217958:U:=u
theorem tw17431719831054627609:U:=u
theorem tw6584820252761975732:U:=u
theorem tw1645717771770832407:U:=u
theorem tw5400957986263281647:U:=u
theorem tw834873547066669988:U:=u
theorem tw14439473939278146460:U:=u
theorem tw15549530580466165023:U:=u
theorem tw3867218068155391060:U:=u
theorem tw2750411421705246143:U:=u
theorem tw6222487380544312443:U:=u
theorem tw1628013610222277130:U:=u
theorem tw5837888446457221635:U:=u
theorem tw3796207824708393856:U:=u
theorem tw17864028415675338326:U:=u
theorem tw11221353774195762014:U:=u
theorem tw12922898485456448571:U:=u
theorem tw6785657489111691699:U:=u
theorem tw12519306246395310219:U:=u
theorem tw9670510015898674028:U:=u
theorem tw3137596982192898869:U:=u
theorem tw13590572293223372214:U:=u
theorem tw1130211791997205004:U:=u
theorem tw16778611742570070204:U:=u
theorem tw17450470499104002142:U:=u
theorem tw6912675738884088206:U:=u
theorem tw10204856939554784155:U:=u
theorem tw451873465583785326:U:=u
theorem tw18332899500509843999:U:=u
theorem tw1409966394225722968:U:=u
theorem tw13116522157475607773:U:=u
theorem tw5243159528196176124:U:=u
theorem tw4638281056170512193:U:=u
theorem tw15356762974548107741:U:=u
theorem tw3370190323706015969:U:=u
theorem tw13503263706703578961:U:=u
theorem tw10334261112615635914:U:=u
theorem tw2164743871083121425:U:=u
theorem tw12483276189755474720:U:=u
theorem tw1587290215689348708:U:=u
theorem tw833945537157984683:U:=u
theorem tw18344032359734412310:U:=u
theorem tw5240536507193477226:U:=u
theorem tw4297412468100583042:U:=u
theorem tw3160845607165458772:U:=u
theorem tw3829396358689915599:U:=u
theorem tw5309058905264134205:U:=u
theorem tw18120430973489738927:U:=u
theorem tw13876859957761632879:U:=u
theorem tw8627561154394265716:U:=u
theorem tw10455743928339290457:U:=u
theorem tw3583811862363856187:U:=u
theorem tw14064073609400967072:U:=u
theorem tw12518504611687188807:U:=u
theorem tw12431731261707249289:U:=u
theorem tw8478376212529829071:U:=u
theorem tw11544348965984651327:U:=u
theorem tw16135426469972691074:U:=u
theorem tw5677329702179833609:U:=u
theorem tw10363585996791799541:U:=u
theorem tw11501822485730972192:U:=u
theorem tw13972245371655741198:U:=u
theorem tw11311155076762098589:U:=u
theorem tw9681375758050803366:U:=u
theorem tw3466206800631347469:U:=u
theorem tw11120327062377616369:U:=u
theorem tw18302796317244248524:U:=u
theorem tw12543713266681445118:U:=u
theorem tw3706830351922483016:U:=u
theorem tw13350764725976880583:U:=u
theorem tw18178676814319149831:U:=u
theorem tw9417822746687237092:U:=u
theorem tw12885385263037960081:U:=u
theorem tw4139100593308808776:U:=u
theorem tw4500915450034043215:U:=u
theorem tw13110577991587790113:U:=u
theorem tw10953687544409504101:U:=u
theorem tw1156462466702112376:U:=u
theorem tw3562595001068472590:U:=u
theorem tw15928290008803537013:U:=u
theorem tw2496676261509829067:U:=u
theorem tw6635558491612396129:U:=u
theorem tw5396188567872606041:U:=u
theorem tw14168887731352723522:U:=u
theorem tw15622959790217612890:U:=u
theorem tw16022572192331126682:U:=u
theorem tw13402765919934010277:U:=u
theorem tw4310270188432123100:U:=u
theorem tw10234815189450012239:U:=u
theorem tw2724176850512262202:U:=u
theorem tw17477492558424962760:U:=u
theorem tw12170992721606120685:U:=u
theorem tw17128291446047057950:U:=u
theorem tw17679725944135375923:U:=u
theorem tw15270170921892066516:U:=u
theorem tw9368617206455126095:U:=u
theorem tw8475525182357872103:U:=u
theorem tw6508729118710982530:U:=u
theorem tw2702614204127132176:U:=u
theorem tw17510229520200029679:U:=u
theorem tw3905226178654972811:U:=u
theorem tw14907226015203709474:U:=u
theorem tw330327031418712150:U:=u
theorem tw1886080085820668685:U:=u
theorem tw13989496423458381343:U:=u
theorem tw104360540948158410:U:=u
theorem tw17403364634526059139:U:=u
theorem tw1198661942849946583:U:=u
theorem tw4674596521558634119:U:=u
theorem tw15734660467963936456:U:=u
theorem tw5102693214775723256:U:=u
theorem tw3960113756560652017:U:=u
theorem tw6674893403203295414:U:=u
theorem tw16689149305811164139:U:=u
theorem tw4749052000479324790:U:=u
theorem tw490501491073077365:U:=u
theorem tw6702130215012162313:U:=u
theorem tw8046773169563483271:U:=u
theorem tw11982392923317675503:U:=u
theorem tw3370842686811476594:U:=u
theorem tw6565609875121592624:U:=u
theorem tw13154001654789283132:U:=u
theorem tw854977524454699277:U:=u
theorem tw16923884221124529275:U:=u
theorem tw8652556701797213591:U:=u
theorem tw17223442867436993403:U:=u
theorem tw12455012482086183272:U:=u
theorem tw15303317825217679618:U:=u
theorem tw12839114828313443825:U:=u
theorem tw10149618387772673413:U:=u
theorem tw16519101796099990279:U:=u
theorem tw9656510801202774680:U:=u
theorem tw869908214046079982:U:=u
theorem tw18325589031809861271:U:=u
theorem tw1242282695825638017:U:=u
theorem tw7751025194823839400:U:=u
theorem tw16950194794029067938:U:=u
theorem tw11409991511011244131:U:=u
theorem tw7624293977416268664:U:=u
theorem tw2544328076492683441:U:=u
theorem tw2019394398466159022:U:=u
theorem tw52199770228462824:U:=u
theorem tw17871620999419790863:U:=u
theorem tw5287059835090251167:U:=u
theorem tw9976160756891316704:U:=u
theorem tw3314904115985164895:U:=u
theorem tw48596604365144762:U:=u
theorem tw1439166485080882:U:=u
theorem tw3333744540012665435:U:=u
theorem tw4330594992337426955:U:=u
theorem tw4044139247061151142:U:=u
theorem tw961187720498965250:U:=u
theorem tw6907636171062424033:U:=u
theorem tw6862492499505807319:U:=u
theorem tw8879939841973710529:U:=u
theorem tw14640416626631428029:U:=u
theorem tw223528310411579522:U:=u
theorem tw13219505800766818778:U:=u
theorem tw17353955331779342651:U:=u
theorem tw14814594519894181452:U:=u
theorem tw14618997812475977823:U:=u
theorem tw15595112118272840620:U:=u
theorem tw9360745474812902239:U:=u
theorem tw7411558596216406370:U:=u
theorem tw10417382306151645146:U:=u
theorem tw9964214247947446159:U:=u
theorem tw10707853282979444102:U:=u
theorem tw2895952525429962455:U:=u
theorem tw12670839924663504800:U:=u
theorem tw2759098988195820126:U:=u
theorem tw14759895335926876869:U:=u
theorem tw16676564476587882173:U:=u
theorem tw6418098437765475518:U:=u
theorem tw4039676971129161736:U:=u
theorem tw13187166440333854079:U:=u
theorem tw11710404883906591787:U:=u
theorem tw15514936471743626214:U:=u
theorem tw10982014176374687213:U:=u
theorem tw33456957511925785:U:=u
theorem tw6237627108579964202:U:=u
theorem tw4261964983698606537:U:=u
theorem tw1236483940969888574:U:=u
theorem tw5613160597433933154:U:=u
theorem tw14909365282108701170:U:=u
theorem tw4839478117068044826:U:=u
theorem tw9730157408454304684:U:=u
theorem tw17052023290607921161:U:=u
theorem tw17413556829735388813:U:=u
theorem tw4946776927847147119:U:=u
theorem tw65644731488775911:U:=u
theorem tw9558744834307401277:U:=u
theorem tw11003572833241299968:U:=u
theorem tw3626430660855392483:U:=u
theorem tw12027323910402764344:U:=u
theorem tw4156125974679941130:U:=u
theorem tw16305672181175384284:U:=u
theorem tw6788530277367551627:U:=u
theorem tw12927740378394474205:U:=u
theorem tw11785714552879321826:U:=u
theorem tw18063282731904131703:U:=u
theorem tw12702744160499308131:U:=u
theorem tw16251939892948500945:U:=u
theorem tw358491910552652209:U:=u
theorem tw16008252555379753968:U:=u
theorem tw4490809748136132443:U:=u
theorem tw15136431859952498927:U:=u
theorem tw1092785777240315536:U:=u
theorem tw13724616953566380437:U:=u
theorem tw588950844065142505:U:=u
theorem tw12277023271486646383:U:=u
theorem tw9272984997812220495:U:=u
theorem tw12675357926760492328:U:=u
theorem tw9573086628692744296:U:=u
theorem tw11403970630465759474:U:=u
theorem tw13591255225166038476:U:=u
theorem tw6657087868060814:U:=u
theorem tw907572574359809234:U:=u
theorem tw14859100970857779836:U:=u
theorem tw8467378866343419333:U:=u
theorem tw6368324255471102079:U:=u
theorem tw9470667924834194258:U:=u
theorem tw15079240505294077160:U:=u
theorem tw4189750870438640210:U:=u
theorem tw13777938177461255882:U:=u
theorem tw16952715711813285254:U:=u
theorem tw8952462522180670554:U:=u
theorem tw16049902774474827687:U:=u
theorem tw302440914744352476:U:=u
theorem tw5363903885879670357:U:=u
theorem tw9903775340124721222:U:=u
theorem tw5312173547345733522:U:=u
theorem tw6455149578367423246:U:=u
theorem tw18418235949754561950:U:=u
theorem tw14390754486103292620:U:=u
theorem tw8484041278411425421:U:=u
theorem tw17298425922696826006:U:=u
theorem tw2647654807098235363:U:=u
theorem tw3343439749351644125:U:=u
theorem tw9376575566392132001:U:=u
theorem tw2195194259037543316:U:=u
theorem tw17201416709059790184:U:=u
theorem tw10159738436595150677:U:=u
theorem tw12732289081945773324:U:=u
theorem tw16193401482309157537:U:=u
theorem tw2524017781993486291:U:=u
theorem tw12748397558918655664:U:=u
theorem tw10625486282989778954:U:=u
theorem tw6880717277089553138:U:=u
theorem tw13113777628852026922:U:=u
theorem tw13270728482189477470:U:=u
theorem tw9508770018378322450:U:=u
theorem tw10283388844273144081:U:=u
theorem tw7871135400657621354:U:=u
theorem tw2279707942289718827:U:=u
theorem tw5571399437266216444:U:=u
theorem tw15465920861327815835:U:=u
theorem tw12057704586751987240:U:=u
theorem tw10463206416058312583:U:=u
theorem tw15060185592220127646:U:=u
theorem tw5378808338967829844:U:=u
theorem tw15109750227778091905:U:=u
theorem tw4817600198373253283:U:=u
theorem tw7235775444256392728:U:=u
theorem tw1118068078248606362:U:=u
theorem tw11086099901593105684:U:=u
theorem tw17737603089517620647:U:=u
theorem tw10864377008497418100:U:=u
theorem tw9381277316556691805:U:=u
theorem tw9840939614602229412:U:=u
theorem tw387501639795913443:U:=u
theorem tw11410963132546700228:U:=u
theorem tw11181722664286889309:U:=u
theorem tw6788695710022549768:U:=u
theorem tw11403851563620829512:U:=u
theorem tw15017983477296125989:U:=u
theorem tw1504049600530537962:U:=u
theorem tw16959884160788844718:U:=u
theorem tw2341703837736514645:U:=u
theorem tw645136716886899192:U:=u
theorem tw7846812961960373227:U:=u
theorem tw3635900802997115186:U:=u
theorem tw18315214858253571532:U:=u
theorem tw11487549891475536569:U:=u
theorem tw14792103822371098674:U:=u
theorem tw8557395850702784662:U:=u
theorem tw6542085627976250192:U:=u
theorem tw6541472054586571296:U:=u
theorem tw2427681307422652563:U:=u
theorem tw15410482203810522393:U:=u
theorem tw18385570937342765463:U:=u
theorem tw8127475511531132179:U:=u
theorem tw1850612553970854742:U:=u
theorem tw1985303169890630295:U:=u
theorem tw6214117541549086881:U:=u
theorem tw13227692790652741651:U:=u
theorem tw4365514962571936147:U:=u
theorem tw6639522245352263942:U:=u
theorem tw4038153913678941442:U:=u
theorem tw5160751907100791332:U:=u
theorem tw10821422270917381399:U:=u
theorem tw4760565928005411242:U:=u
theorem tw12077450504624328385:U:=u
theorem tw2433702464844828792:U:=u
theorem tw6862268138105152660:U:=u
theorem tw16320729459185622934:U:=u
theorem tw10665469846841522134:U:=u
theorem tw8809968196449919288:U:=u
theorem tw4333880214566435006:U:=u
theorem tw1150287232629052791:U:=u
theorem tw16765925921980633802:U:=u
theorem tw8079908401900000222:U:=u
theorem tw14218914174604095658:U:=u
theorem tw17974016328880235120:U:=u
theorem tw16153842264607907944:U:=u
theorem tw6087835443962453003:U:=u
theorem tw1615045767204293396:U:=u
theorem tw16046730324260685337:U:=u
theorem tw3394367416137920725:U:=u
theorem tw7761410557224570781:U:=u
theorem tw15643365686152983790:U:=u
theorem tw10825838108423173272:U:=u
theorem tw1519927702969063271:U:=u
theorem tw7153082081811710619:U:=u
theorem tw10652863235454686790:U:=u
theorem tw2287757881348798766:U:=u
theorem tw3234112476842188716:U:=u
theorem tw12014785543569010823:U:=u
theorem tw11595355409239048105:U:=u
theorem tw2190695567426971638:U:=u
theorem tw16357356043003861740:U:=u
theorem tw18134284020713443437:U:=u
theorem tw9391614825396419720:U:=u
theorem tw18442785490491869365:U:=u
theorem tw1714950047550659301:U:=u
theorem tw7691172733374981047:U:=u
theorem tw372505627349444580:U:=u
theorem tw4475767826048309731:U:=u
theorem tw17290568124846718506:U:=u
theorem tw12205347405646519318:U:=u
theorem tw8834365191522931223:U:=u
theorem tw1261021989165538067:U:=u
theorem tw10391951854915411234:U:=u
theorem tw6183352029847204284:U:=u
theorem tw14788915703135433725:U:=u
theorem tw3627144658338631552:U:=u
theorem tw1157997071576566072:U:=u
theorem tw17402982504261768225:U:=u
theorem tw8707812797481193996:U:=u
theorem tw14639212616227390028:U:=u
theorem tw6162249291895867263:U:=u
theorem tw2821470743931037460:U:=u
theorem tw15768048840197415361:U:=u
theorem tw6053611964639427726:U:=u
theorem tw17091655785135471103:U:=u
theorem tw12222963475772708484:U:=u
theorem tw14364048958407549093:U:=u
theorem tw7514964652732493775:U:=u
theorem tw12692632004510240207:U:=u
theorem tw785246043732427063:U:=u
theorem tw6545385358150927430:U:=u
theorem tw17495560712657236704:U:=u
theorem tw2225956059507018244:U:=u
theorem tw3299218664060906527:U:=u
theorem tw7332330508316399935:U:=u
theorem tw8663697691656813868:U:=u
theorem tw6511744376749373798:U:=u
theorem tw17725498274588495791:U:=u
theorem tw15467891735981029475:U:=u
theorem tw3543165509663861734:U:=u
theorem tw10210597933619972095:U:=u
theorem tw2906824675625879941:U:=u
theorem tw832900586485598795:U:=u
theorem tw12915833801598196605:U:=u
theorem tw5665735395497279834:U:=u
theorem tw17699438841360665129:U:=u
theorem tw18392154025008590481:U:=u
theorem tw3994622017586750766:U:=u
theorem tw17118054049896295152:U:=u
theorem tw11767166046437846497:U:=u
theorem tw15131278010643852716:U:=u
theorem tw7173623326730630234:U:=u
theorem tw13642826006792871662:U:=u
theorem tw2900998541784483753:U:=u
theorem tw4681395471914393968:U:=u
theorem tw4088224383575840552:U:=u
theorem tw12900284412222446716:U:=u
theorem tw9808303207383738048:U:=u
theorem tw6596593509180878263:U:=u
theorem tw12224774223927477439:U:=u
theorem tw9682133043923132273:U:=u
theorem tw4990475226369331113:U:=u
theorem tw4605139254293405059:U:=u
theorem tw8496349624203035976:U:=u
theorem tw16817993663026736274:U:=u
theorem tw8323696390020096311:U:=u
theorem tw8228058824784995430:U:=u
theorem tw10044588960856096794:U:=u
theorem tw5649967823195072380:U:=u
theorem tw15485851114877660061:U:=u
theorem tw892681787802806017:U:=u
theorem tw8249873531624179374:U:=u
theorem tw14097447854668400296:U:=u
theorem tw2238316416991798583:U:=u
theorem tw15554039934745177238:U:=u
theorem tw13797323745857372409:U:=u
theorem tw5203219222101121401:U:=u
theorem tw4126091431370883743:U:=u
theorem tw17767330081159143506:U:=u
theorem tw7108953243070827183:U:=u
theorem tw5831584030425509755:U:=u
theorem tw5396361742852586263:U:=u
end main
set_option Elab.async true
set_option tactic.hygienic true in
set_option maxHeartbeats 8000000 in
theorem main:PySem.Challenge.rw_te0061_01.Holds:=by
 w_on
 o_law
 k_head
 (case hw=>w_witness2)
 k_fill
 intro w s₀ s₁ mg mb G Y fa o pm cd doc dV kV ho hd hcd hD hmg hg args vals as hpre hlay hrd hwl hlo
 have KX:=kIn_of Y
 refine Ground.open G ?_
 intro T B D TE TW
 have hKF:KF (main.heap_1_39 w.params):={
   keepB:=by kernel_rfl,globB:=by kernel_rfl,bltB:=by kernel_rfl,clsB:=by kernel_rfl,setB:=by kernel_rfl,slotB:=by kernel_rfl,typB:=by kernel_rfl,cm:=by kernel_rfl,no:=by kernel_rfl,rep:=by kernel_rfl,
   dig:=⟨_,_,rfl,fun M=>by
    repeat (first | exact IsAll.nil | refine IsAll.cons (.str _ _ rfl) ?_)⟩,
   sig:=⟨_,_,rfl,fun M=>by
    repeat (first | exact IsAll.nil | refine IsAll.cons (.str _ _ rfl) ?_)⟩,
   fn:=fm ⟨.p (rfl:List.lookup 34 (main.heap_1_39 w.params)=some _) (by kernel_rfl) (.inr rfl) (fun s X _=>BindsTo.of_eq rfl),
    fm ⟨.p (rfl:List.lookup 41 (main.heap_1_39 w.params)=some _) (by kernel_rfl) (.inr rfl) (fun s X _=>BindsTo.of_eq rfl),
    fm ⟨.p (rfl:List.lookup 26 (main.heap_1_39 w.params)=some _) (by kernel_rfl) (.inl rfl) (fun s X _=>BindsTo.of_eq rfl),
    fm ⟨.p (rfl:List.lookup 613 (main.heap_1_39 w.params)=some _) (by kernel_rfl) (.inl rfl) (fun s X _ _=>BindsTo.of_eq rfl),
    fm ⟨.p (rfl:List.lookup 620 (main.heap_1_39 w.params)=some _) (by kernel_rfl) (.inl rfl) (fun s X _ _=>BindsTo.of_eq rfl),
    fm ⟨.p (rfl:List.lookup 628 (main.heap_1_39 w.params)=some _) (by kernel_rfl) (.inl rfl) (fun s X _=>BindsTo.of_defaults rfl (X _ _ rfl) rfl rfl rfl),
    fm ⟨.p (rfl:List.lookup 635 (main.heap_1_39 w.params)=some _) (by kernel_rfl) (.inl rfl) (fun s X _ _=>BindsTo.of_eq rfl),
    fm ⟨.p (rfl:List.lookup 642 (main.heap_1_39 w.params)=some _) (by kernel_rfl) (.inl rfl) (fun s X _ _=>BindsTo.of_eq rfl),
    fm ⟨.p (rfl:List.lookup 649 (main.heap_1_39 w.params)=some _) (by kernel_rfl) (.inl rfl) (fun s X _ _=>BindsTo.of_eq rfl),
    fm ⟨.p (rfl:List.lookup 656 (main.heap_1_39 w.params)=some _) (by kernel_rfl) (.inl rfl) (fun s X _ _=>BindsTo.of_eq rfl),
    fm ⟨.p (rfl:List.lookup 663 (main.heap_1_39 w.params)=some _) (by kernel_rfl) (.inl rfl) (fun s X _ _=>BindsTo.of_eq rfl),
    fm ⟨.p (rfl:List.lookup 670 (main.heap_1_39 w.params)=some _) (by kernel_rfl) (.inl rfl) (fun s X _ _=>BindsTo.of_eq rfl),
    fm ⟨.p (rfl:List.lookup 677 (main.heap_1_39 w.params)=some _) (by kernel_rfl) (.inl rfl) (fun s X _ _=>BindsTo.of_eq rfl),
    fm ⟨.p (rfl:List.lookup 685 (main.heap_1_39 w.params)=some _) (by kernel_rfl) (.inl rfl) (fun s X=>BindsTo.of_eq rfl),
    fm ⟨.p (rfl:List.lookup 692 (main.heap_1_39 w.params)=some _) (by kernel_rfl) (.inl rfl) (fun s X _=>BindsTo.of_eq rfl),
    fm ⟨.p (rfl:List.lookup 699 (main.heap_1_39 w.params)=some _) (by kernel_rfl) (.inl rfl) (fun s X _=>BindsTo.of_eq rfl),
    fm ⟨.p (rfl:List.lookup 706 (main.heap_1_39 w.params)=some _) (by kernel_rfl) (.inl rfl) (fun s X _=>BindsTo.of_eq rfl),
    fm ⟨.p (rfl:List.lookup 713 (main.heap_1_39 w.params)=some _) (by kernel_rfl) (.inl rfl) (fun s X _ _ _=>BindsTo.of_eq rfl),
    fm ⟨.p (rfl:List.lookup 720 (main.heap_1_39 w.params)=some _) (by kernel_rfl) (.inl rfl) (fun s X _ _ _=>BindsTo.of_eq rfl),
    fm ⟨.p (rfl:List.lookup 727 (main.heap_1_39 w.params)=some _) (by kernel_rfl) (.inl rfl) (fun s X _ _=>BindsTo.of_eq rfl),
    fm ⟨.p (rfl:List.lookup 734 (main.heap_1_39 w.params)=some _) (by kernel_rfl) (.inl rfl) (fun s X _ _=>BindsTo.of_eq rfl),
    fm ⟨.p (rfl:List.lookup 56 (main.heap_1_39 w.params)=some _) (by kernel_rfl) (.inl rfl) (fun s X _ _ _=>BindsTo.of_eq rfl),
    fm ⟨.p (rfl:List.lookup 93 (main.heap_1_39 w.params)=some _) (by kernel_rfl) (.inl rfl) (fun s X _ _ _ _ _=>BindsTo.of_eq rfl),
    fm ⟨.p (rfl:List.lookup 123 (main.heap_1_39 w.params)=some _) (by kernel_rfl) (.inl rfl) (fun s X _ _ _ _=>BindsTo.of_eq rfl),
    fm ⟨.p (rfl:List.lookup 152 (main.heap_1_39 w.params)=some _) (by kernel_rfl) (.inl rfl) (fun s X _ _ _ _=>BindsTo.of_eq rfl),
    fm ⟨.p (rfl:List.lookup 181 (main.heap_1_39 w.params)=some _) (by kernel_rfl) (.inl rfl) (fun s X _ _ _ _=>BindsTo.of_eq rfl),
    fm ⟨.p (rfl:List.lookup 224 (main.heap_1_39 w.params)=some _) (by kernel_rfl) (.inl rfl) (fun s X _ _ _ _=>BindsTo.of_eq rfl),
    fm ⟨.p (rfl:List.lookup 254 (main.heap_1_39 w.params)=some _) (by kernel_rfl) (.inl rfl) (fun s X _ _ _ _=>BindsTo.of_eq rfl),
    fm ⟨.p (rfl:List.lookup 284 (main.heap_1_39 w.params)=some _) (by kernel_rfl) (.inl rfl) (fun s X _ _ _ _ _=>BindsTo.of_eq rfl),
    fm ⟨.p (rfl:List.lookup 314 (main.heap_1_39 w.params)=some _) (by kernel_rfl) (.inl rfl) (fun s X _ _ _ _ _=>BindsTo.of_eq rfl),
    fm ⟨.p (rfl:List.lookup 344 (main.heap_1_39 w.params)=some _) (by kernel_rfl) (.inl rfl) (fun s X _ _ _ _ _=>BindsTo.of_eq rfl),
    fm ⟨.p (rfl:List.lookup 374 (main.heap_1_39 w.params)=some _) (by kernel_rfl) (.inl rfl) (fun s X _ _ _ _ _=>BindsTo.of_eq rfl),
    fm ⟨.p (rfl:List.lookup 404 (main.heap_1_39 w.params)=some _) (by kernel_rfl) (.inl rfl) (fun s X _ _ _ _ _ _=>BindsTo.of_eq rfl),
    fm ⟨.p (rfl:List.lookup 436 (main.heap_1_39 w.params)=some _) (by kernel_rfl) (.inl rfl) (fun s X _ _ _ _ _ _=>BindsTo.of_eq rfl),
    fm ⟨.p (rfl:List.lookup 468 (main.heap_1_39 w.params)=some _) (by kernel_rfl) (.inl rfl) (fun s X _ _ _ _ _ _ _=>BindsTo.of_eq rfl),
    fm ⟨.p (rfl:List.lookup 502 (main.heap_1_39 w.params)=some _) (by kernel_rfl) (.inl rfl) (fun s X _ _ _ _=>BindsTo.of_eq rfl),
    fm ⟨.p (rfl:List.lookup 531 (main.heap_1_39 w.params)=some _) (by kernel_rfl) (.inl rfl) (fun s X _ _ _ _=>BindsTo.of_eq rfl),
    fm ⟨.p (rfl:List.lookup 560 (main.heap_1_39 w.params)=some _) (by kernel_rfl) (.inl rfl) (fun s X _ _ _ _=>BindsTo.of_eq rfl),
    fm ⟨.p (rfl:List.lookup 589 (main.heap_1_39 w.params)=some _) (by kernel_rfl) (.inl rfl) (fun s X _ _ _ _ _=>BindsTo.of_eq rfl),
    fun _ h=>nomatch h⟩⟩⟩⟩⟩⟩⟩⟩⟩⟩⟩⟩⟩⟩⟩⟩⟩⟩⟩⟩⟩⟩⟩⟩⟩⟩⟩⟩⟩⟩⟩⟩⟩⟩⟩⟩⟩⟩⟩ }
 have hT:TabsAt tabs0 s₁.heap:=List.forall_mem_cons.mpr ⟨tab_of (x:="serialize_string_value") (c:=33) (P:=29) T KX rfl (by kernel_rfl),List.forall_mem_cons.mpr ⟨tab_of (x:="serialize_url") (c:=40) (P:=36) T KX rfl (by kernel_rfl),fun _ h=>nomatch h⟩⟩
 clear B D TE TW hmg
 wrow_args hpre hlay hrd hwl hlo
 all_goals (first | refine callC_kw (enter_call ?_) | refine enter_call ?_ | refine callC_kw (enter_callW ?_) | refine enter_callW ?_ | w_how)
 w_top on
 w_call any ho hd hcd hD T F
 rename_i zs hs0 hlay0 hL1 hr1 hl2 w4 w3 l vs w0 hL ra w1 r0 hI hr hcond1 hcond0 h₁ N0
 refine lawAll plainAll hKF (l:=l) (xs:=vs) (zs:=zs) hT KX T hg rfl rfl ?_ F rfl hL hI ?_ ?_
 ·show 1≤s₁.toks+1
  exact Nat.le_add_left _ _
 ·have:=hI.length
  omega
 ·intro s' k hgr hos hgs
  refine post_true hT ?_ ?_ k hgr hos hgs
  ·intro cls; rfl
  ·first | kernel_rfl | (generalize ([ofPy (PyData.list (List.map PyData.int zs))]:List WData)=as; kernel_rfl)
set_option Elab.async false
end Mine
theorem PySem.Challenge.cw_te0061_01_holds : PySem.Challenge.rw_te0061_01.Holds :=
 Mine.main
