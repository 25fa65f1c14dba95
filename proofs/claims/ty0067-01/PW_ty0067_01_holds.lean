import PyProof.Rows.All
import Wide.All
import OpenK.AllK
import Wide.FinOn
import PyProof.SetKind
import PyProof.DictStraight
import PyProof.DictWalks
import PyProof.CollectWalk
import PyProof.FactsAll.set_1
import PyProof.MeetsSeq3
import PyProof.GenQ
import PyProof.ForAny
import PyProof.StrCalls2
import PyProof.MeetsStr3
import PyProof.MeetsStr4
import PyProof.StrLawsIdx
import PyProof.StrLawsFrom
import PyProof.IsiH_list
import KE.KPairComp
import PyProof.DictCompW
import KE.KItemsList
import KE.KExtendNil
import PyProof.StrLawsNeg
import PyProof.StrBlock
import KE.KxSplit
import KE.KTops
import PySem.Challenge.RW_ty0067_01
open PySem PySem.W PyProof.Rows PySem.Challenge
open PySem.Str (ofString)
set_option Elab.async false
set_option maxRecDepth 100000
set_option linter.all false
set_option rowWalk.seconds 0
namespace Mine.hx
noncomputable def tw12491842878602944270:PySem.Program:=PySem.Challenge.pw_ty0067_01
theorem te12491842878602944270:PySem.Challenge.pw_ty0067_01=tw12491842878602944270:=rfl
end Mine.hx
set_option Elab.async true in
theorem Mine.hx:PySem.Challenge.pw_ty0067_01.modules.isEmpty=true:=by k_qdec
theorem Mine.hw:PySem.Challenge.pw_ty0067_01.modules.isEmpty=true:=Mine.hx
set_option maxHeartbeats 8000000 in
open_top hd for PySem.Challenge.rw_ty0067_01
set_option maxHeartbeats 8000000
open PySem.Calls
local macro_rules | `(tactic| k_all) => `(tactic| walk_at "k_all")
local macro_rules | `(tactic| size_fits) => `(tactic| walk_at "size_fits")
local macro_rules | `(tactic| k_ne) => `(tactic| walk_at "k_ne")
local macro_rules | `(tactic| omega) => `(tactic| walk_at "omega")
local macro_rules | `(tactic| ktr_room) => `(tactic| walk_at "ktr_room")
local macro_rules | `(tactic| ktr_units) => `(tactic| walk_at "ktr_units")
local macro_rules | `(tactic| walk_at $s:str) => `(tactic| k_extra $s)
namespace Mine
set_option genSizeOf false in
set_option genInjectivity false in
inductive NE where
 |n (k:Nat)
 |v (i:Nat)
 |a (x y:NE)
 |m (k:Nat) (x:NE)
noncomputable def oH:List Nat->Nat->Nat
 |[],_=>0
 |x::_,0=>x
 |_::r,i+1=>oH r i
noncomputable def NE.e (c:List Nat):NE->Nat
 | .n k=>k
 | .v i=>oH c i
 | .a x y=>x.e c+y.e c
 | .m k x=>k*x.e c
noncomputable def pE:List Nat->List Nat->List Nat
 |[],r=>r
 |x::l,[]=>x::l
 |x::l,y::r=>(x+y)::pE l r
noncomputable def unit:Nat->List Nat
 |0=>[1]
 |i+1=>0::unit i
noncomputable def oS (k:Nat):List Nat->List Nat
 |[]=>[]
 |x::l=>(k*x)::oS k l
noncomputable def NE.l:NE->List Nat
 | .n k=>[k]
 | .v i=>0::unit i
 | .a x y=>pE x.l y.l
 | .m k x=>oS k x.l
noncomputable def ec:List Nat->List Nat->Nat
 |[],_=>0
 |x::l,c=>x*c.headD 0+ec l c.tail
noncomputable def lP:List Nat->List Nat->Bool
 |_,[]=>true
 |[],y::r=>Nat.beq y 0 && lP [] r
 |x::l,y::r=>Nat.ble y x && lP l r
noncomputable def dr:List Nat->List Nat->Bool
 |x::l,y::r=>Nat.blt y x && lP l r
 |x::_,[]=>Nat.blt 0 x
 |[],_=>false
noncomputable abbrev aa:NE:= .v 0
noncomputable abbrev aq:NE:= .a (.v 0) (.n 1)
noncomputable abbrev ab:NE:= .v 1
noncomputable abbrev aD:NE:= .a (.v 1) (.n 1)
noncomputable abbrev ae:NE:= .v 2
noncomputable abbrev bn:NE:= .a (.v 2) (.n 1)
noncomputable abbrev av:NE:= .v 3
noncomputable abbrev bB:NE:= .a (.v 3) (.n 1)
noncomputable abbrev aJ:NE:= .v 4
noncomputable abbrev dc:NE:= .a (.v 4) (.n 1)
noncomputable abbrev bG:NE:= .v 5
noncomputable abbrev fv:NE:= .a (.v 5) (.n 1)
noncomputable abbrev dW:NE:= .v 6
noncomputable abbrev lB:NE:= .a (.v 6) (.n 1)
noncomputable abbrev im:NE:= .v 7
noncomputable abbrev lA:NE:= .a (.v 7) (.n 1)
noncomputable abbrev lz:NE:= .v 8
noncomputable abbrev Jk:NE:= .a (.v 8) (.n 1)
noncomputable abbrev Je:NE:= .v 9
noncomputable abbrev Jj:NE:= .a (.v 9) (.n 1)
noncomputable abbrev Ji:NE:= .v 10
noncomputable abbrev Jo:NE:= .a (.v 10) (.n 1)
noncomputable abbrev Jh:NE:= .v 11
noncomputable abbrev Jn:NE:= .a (.v 11) (.n 1)
noncomputable abbrev Jg:NE:= .v 12
noncomputable abbrev Jm:NE:= .a (.v 12) (.n 1)
noncomputable abbrev Jf:NE:= .v 13
noncomputable abbrev Jl:NE:= .a (.v 13) (.n 1)
noncomputable abbrev aK:NE:= .n 0
noncomputable abbrev ai:NE:= .n 1
theorem t7:∀(l r c:List Nat),ec (pE l r) c=ec l c+ec r c
 |[],_,_=>(Nat.zero_add _).symm
 |_::_,[],_=>rfl
 |x::l,y::r,c=>(congrArg (fun z=>(x+y)*c.headD 0+z) (t7 l r c.tail)).trans (by rw [Nat.add_mul];exact Nat.add_add_add_comm _ _ _ _)
theorem tZ (k:Nat):∀(l c:List Nat),ec (oS k l) c=k*ec l c
 |[],_=>rfl
 |x::l,c=>(congrArg (fun z=>k*x*c.headD 0+z) (tZ k l c.tail)).trans (by rw [Nat.mul_assoc,<-Nat.mul_add];rfl)
theorem o9:∀(i:Nat) (c:List Nat),ec (unit i) c=oH c i
 |0,[]=>rfl
 |0,x::_=>Nat.one_mul x
 |i+1,[]=>(Nat.zero_add _).trans (o9 i [])
 |i+1,x::c=>(congrArg (·+ec (unit i) c) (Nat.zero_mul x)).trans ((Nat.zero_add _).trans (o9 i c))
theorem gK (c:List Nat):∀x:NE,x.e c=ec x.l (1::c)
 | .n k=>(Nat.mul_one k).symm
 | .v i=>((Nat.zero_add _).trans (o9 i c)).symm
 | .a x y=>(congr (congrArg HAdd.hAdd (gK c x)) (gK c y)).trans (t7 _ _ _).symm
 | .m k x=>(congrArg (k * ·) (gK c x)).trans (tZ k _ _).symm
theorem pd:∀(l r c:List Nat),lP l r=true->ec r c<=ec l c
 |_,[],c,_=>Nat.zero_le _
 |[],y::r,c,h=>by
  replace h:=Bool.and_eq_true_iff.mp h;have:=pd [] r c.tail h.2;have z:=Nat.eq_of_beq_eq_true h.1;subst z;show 0*c.headD 0+ec r c.tail<=_;rw [Nat.zero_mul,Nat.zero_add];exact this
 |x::l,y::r,c,h=>by
  replace h:=Bool.and_eq_true_iff.mp h;exact Nat.add_le_add (Nat.mul_le_mul_right _ (Nat.le_of_ble_eq_true h.1)) (pd l r c.tail h.2)
theorem t8 (c:List Nat):∀(l r:List Nat),dr l r=true->ec r (1::c)<ec l (1::c)
 |[],_,h=>nomatch h
 |x::l,[],h=>by
  have:=Nat.le_of_ble_eq_true h;exact Nat.lt_of_lt_of_le this (Nat.le_trans (Nat.le_of_eq (Nat.mul_one x).symm) (Nat.le_add_right _ _))
 |x::l,y::r,h=>by
  replace h:=Bool.and_eq_true_iff.mp h;have h1:=Nat.le_of_ble_eq_true h.1;have h2:=pd l r c h.2;exact Nat.add_lt_add_of_lt_of_le (show y*1<x*1 by rw [Nat.mul_one,Nat.mul_one];exact h1) h2
theorem ea {c:List Nat} {L R e f:NE} (h:L.e c<=R.e c) (ck:dr ((f.a (.n 1)).a L).l (e.a R).l=true):e.e c<=f.e c:=by
 have:=t8 c _ _ ck;rw [<-gK,<-gK] at this;exact Nat.le_of_lt_succ (Nat.lt_of_add_lt_add_right (Nat.lt_of_lt_of_le this (Nat.add_le_add_left h _)))
theorem bt (c:List Nat) (e f:NE) (ck:dr (f.a (.n 1)).l e.l=true):e.e c<=f.e c:=by
 have:=t8 c _ _ ck;rw [<-gK,<-gK] at this;exact Nat.le_of_lt_succ this
theorem aw (c:List Nat) (e f e1 f1:NE) (h1:e1.e c<=f1.e c) (ck:dr ((f.a (.n 1)).a e1).l (e.a f1).l=true):e.e c<=f.e c:=ea (L:=e1) (R:=f1) h1 ck
theorem aA (c:List Nat) (e f e1 f1 e2 f2:NE) (h1:e1.e c<=f1.e c) (h2:e2.e c<=f2.e c) (ck:dr ((f.a (.n 1)).a (e1.a e2)).l (e.a (f1.a f2)).l=true):e.e c<=f.e c:=ea (L:=(e1.a e2)) (R:=(f1.a f2)) (Nat.add_le_add h1 h2) ck
theorem bp (c:List Nat) (e f e1 f1 e2 f2 e3 f3:NE) (h1:e1.e c<=f1.e c) (h2:e2.e c<=f2.e c) (h3:e3.e c<=f3.e c) (ck:dr ((f.a (.n 1)).a (e1.a (e2.a e3))).l (e.a (f1.a (f2.a f3))).l=true):e.e c<=f.e c:=ea (L:=(e1.a (e2.a e3))) (R:=(f1.a (f2.a f3))) (Nat.add_le_add h1 (Nat.add_le_add h2 h3)) ck
theorem cS (c:List Nat) (e f e1 f1 e2 f2 e3 f3 e4 f4:NE) (h1:e1.e c<=f1.e c) (h2:e2.e c<=f2.e c) (h3:e3.e c<=f3.e c) (h4:e4.e c<=f4.e c) (ck:dr ((f.a (.n 1)).a (e1.a (e2.a (e3.a e4)))).l (e.a (f1.a (f2.a (f3.a f4)))).l=true):e.e c<=f.e c:=ea (L:=(e1.a (e2.a (e3.a e4)))) (R:=(f1.a (f2.a (f3.a f4)))) (Nat.add_le_add h1 (Nat.add_le_add h2 (Nat.add_le_add h3 h4))) ck
theorem gG (c:List Nat) (e f e1 f1 e2 f2 e3 f3 e4 f4 e5 f5:NE) (h1:e1.e c<=f1.e c) (h2:e2.e c<=f2.e c) (h3:e3.e c<=f3.e c) (h4:e4.e c<=f4.e c) (h5:e5.e c<=f5.e c) (ck:dr ((f.a (.n 1)).a (e1.a (e2.a (e3.a (e4.a e5))))).l (e.a (f1.a (f2.a (f3.a (f4.a f5))))).l=true):e.e c<=f.e c:=ea (L:=(e1.a (e2.a (e3.a (e4.a e5))))) (R:=(f1.a (f2.a (f3.a (f4.a f5))))) (Nat.add_le_add h1 (Nat.add_le_add h2 (Nat.add_le_add h3 (Nat.add_le_add h4 h5)))) ck
theorem lJ (c:List Nat) (e f e1 f1 e2 f2 e3 f3 e4 f4 e5 f5 e6 f6:NE) (h1:e1.e c<=f1.e c) (h2:e2.e c<=f2.e c) (h3:e3.e c<=f3.e c) (h4:e4.e c<=f4.e c) (h5:e5.e c<=f5.e c) (h6:e6.e c<=f6.e c) (ck:dr ((f.a (.n 1)).a (e1.a (e2.a (e3.a (e4.a (e5.a e6)))))).l (e.a (f1.a (f2.a (f3.a (f4.a (f5.a f6)))))).l=true):e.e c<=f.e c:=ea (L:=(e1.a (e2.a (e3.a (e4.a (e5.a e6)))))) (R:=(f1.a (f2.a (f3.a (f4.a (f5.a f6)))))) (Nat.add_le_add h1 (Nat.add_le_add h2 (Nat.add_le_add h3 (Nat.add_le_add h4 (Nat.add_le_add h5 h6))))) ck
theorem sS (c:List Nat) (e f e1 f1 e2 f2 e3 f3 e4 f4 e5 f5 e6 f6 e7 f7:NE) (h1:e1.e c<=f1.e c) (h2:e2.e c<=f2.e c) (h3:e3.e c<=f3.e c) (h4:e4.e c<=f4.e c) (h5:e5.e c<=f5.e c) (h6:e6.e c<=f6.e c) (h7:e7.e c<=f7.e c) (ck:dr ((f.a (.n 1)).a (e1.a (e2.a (e3.a (e4.a (e5.a (e6.a e7))))))).l (e.a (f1.a (f2.a (f3.a (f4.a (f5.a (f6.a f7))))))).l=true):e.e c<=f.e c:=ea (L:=(e1.a (e2.a (e3.a (e4.a (e5.a (e6.a e7))))))) (R:=(f1.a (f2.a (f3.a (f4.a (f5.a (f6.a f7))))))) (Nat.add_le_add h1 (Nat.add_le_add h2 (Nat.add_le_add h3 (Nat.add_le_add h4 (Nat.add_le_add h5 (Nat.add_le_add h6 h7)))))) ck
theorem Gs (c:List Nat) (e f e1 f1 e2 f2 e3 f3 e4 f4 e5 f5 e6 f6 e7 f7 e8 f8:NE) (h1:e1.e c<=f1.e c) (h2:e2.e c<=f2.e c) (h3:e3.e c<=f3.e c) (h4:e4.e c<=f4.e c) (h5:e5.e c<=f5.e c) (h6:e6.e c<=f6.e c) (h7:e7.e c<=f7.e c) (h8:e8.e c<=f8.e c) (ck:dr ((f.a (.n 1)).a (e1.a (e2.a (e3.a (e4.a (e5.a (e6.a (e7.a e8)))))))).l (e.a (f1.a (f2.a (f3.a (f4.a (f5.a (f6.a (f7.a f8)))))))).l=true):e.e c<=f.e c:=ea (L:=(e1.a (e2.a (e3.a (e4.a (e5.a (e6.a (e7.a e8)))))))) (R:=(f1.a (f2.a (f3.a (f4.a (f5.a (f6.a (f7.a f8)))))))) (Nat.add_le_add h1 (Nat.add_le_add h2 (Nat.add_le_add h3 (Nat.add_le_add h4 (Nat.add_le_add h5 (Nat.add_le_add h6 (Nat.add_le_add h7 h8))))))) ck
theorem Jq (c:List Nat) (e f e1 f1 e2 f2 e3 f3 e4 f4 e5 f5 e6 f6 e7 f7 e8 f8 e9 f9:NE) (h1:e1.e c<=f1.e c) (h2:e2.e c<=f2.e c) (h3:e3.e c<=f3.e c) (h4:e4.e c<=f4.e c) (h5:e5.e c<=f5.e c) (h6:e6.e c<=f6.e c) (h7:e7.e c<=f7.e c) (h8:e8.e c<=f8.e c) (h9:e9.e c<=f9.e c) (ck:dr ((f.a (.n 1)).a (e1.a (e2.a (e3.a (e4.a (e5.a (e6.a (e7.a (e8.a e9))))))))).l (e.a (f1.a (f2.a (f3.a (f4.a (f5.a (f6.a (f7.a (f8.a f9))))))))).l=true):e.e c<=f.e c:=ea (L:=(e1.a (e2.a (e3.a (e4.a (e5.a (e6.a (e7.a (e8.a e9))))))))) (R:=(f1.a (f2.a (f3.a (f4.a (f5.a (f6.a (f7.a (f8.a f9))))))))) (Nat.add_le_add h1 (Nat.add_le_add h2 (Nat.add_le_add h3 (Nat.add_le_add h4 (Nat.add_le_add h5 (Nat.add_le_add h6 (Nat.add_le_add h7 (Nat.add_le_add h8 h9)))))))) ck
theorem Jv (c:List Nat) (e f e1 f1 e2 f2 e3 f3 e4 f4 e5 f5 e6 f6 e7 f7 e8 f8 e9 f9 L7 Ma:NE) (h1:e1.e c<=f1.e c) (h2:e2.e c<=f2.e c) (h3:e3.e c<=f3.e c) (h4:e4.e c<=f4.e c) (h5:e5.e c<=f5.e c) (h6:e6.e c<=f6.e c) (h7:e7.e c<=f7.e c) (h8:e8.e c<=f8.e c) (h9:e9.e c<=f9.e c) (Ol:L7.e c<=Ma.e c) (ck:dr ((f.a (.n 1)).a (e1.a (e2.a (e3.a (e4.a (e5.a (e6.a (e7.a (e8.a (e9.a L7)))))))))).l (e.a (f1.a (f2.a (f3.a (f4.a (f5.a (f6.a (f7.a (f8.a (f9.a Ma)))))))))).l=true):e.e c<=f.e c:=ea (L:=(e1.a (e2.a (e3.a (e4.a (e5.a (e6.a (e7.a (e8.a (e9.a L7)))))))))) (R:=(f1.a (f2.a (f3.a (f4.a (f5.a (f6.a (f7.a (f8.a (f9.a Ma)))))))))) (Nat.add_le_add h1 (Nat.add_le_add h2 (Nat.add_le_add h3 (Nat.add_le_add h4 (Nat.add_le_add h5 (Nat.add_le_add h6 (Nat.add_le_add h7 (Nat.add_le_add h8 (Nat.add_le_add h9 Ol))))))))) ck
theorem Ju (c:List Nat) (e f e1 f1 e2 f2 e3 f3 e4 f4 e5 f5 e6 f6 e7 f7 e8 f8 e9 f9 L7 Ma MU M0:NE) (h1:e1.e c<=f1.e c) (h2:e2.e c<=f2.e c) (h3:e3.e c<=f3.e c) (h4:e4.e c<=f4.e c) (h5:e5.e c<=f5.e c) (h6:e6.e c<=f6.e c) (h7:e7.e c<=f7.e c) (h8:e8.e c<=f8.e c) (h9:e9.e c<=f9.e c) (Ol:L7.e c<=Ma.e c) (NY:MU.e c<=M0.e c) (ck:dr ((f.a (.n 1)).a (e1.a (e2.a (e3.a (e4.a (e5.a (e6.a (e7.a (e8.a (e9.a (L7.a MU))))))))))).l (e.a (f1.a (f2.a (f3.a (f4.a (f5.a (f6.a (f7.a (f8.a (f9.a (Ma.a M0))))))))))).l=true):e.e c<=f.e c:=ea (L:=(e1.a (e2.a (e3.a (e4.a (e5.a (e6.a (e7.a (e8.a (e9.a (L7.a MU))))))))))) (R:=(f1.a (f2.a (f3.a (f4.a (f5.a (f6.a (f7.a (f8.a (f9.a (Ma.a M0))))))))))) (Nat.add_le_add h1 (Nat.add_le_add h2 (Nat.add_le_add h3 (Nat.add_le_add h4 (Nat.add_le_add h5 (Nat.add_le_add h6 (Nat.add_le_add h7 (Nat.add_le_add h8 (Nat.add_le_add h9 (Nat.add_le_add Ol NY)))))))))) ck
theorem Jt (c:List Nat) (e f e1 f1 e2 f2 e3 f3 e4 f4 e5 f5 e6 f6 e7 f7 e8 f8 e9 f9 L7 Ma MU M0 Ow OP:NE) (h1:e1.e c<=f1.e c) (h2:e2.e c<=f2.e c) (h3:e3.e c<=f3.e c) (h4:e4.e c<=f4.e c) (h5:e5.e c<=f5.e c) (h6:e6.e c<=f6.e c) (h7:e7.e c<=f7.e c) (h8:e8.e c<=f8.e c) (h9:e9.e c<=f9.e c) (Ol:L7.e c<=Ma.e c) (NY:MU.e c<=M0.e c) (QX:Ow.e c<=OP.e c) (ck:dr ((f.a (.n 1)).a (e1.a (e2.a (e3.a (e4.a (e5.a (e6.a (e7.a (e8.a (e9.a (L7.a (MU.a Ow)))))))))))).l (e.a (f1.a (f2.a (f3.a (f4.a (f5.a (f6.a (f7.a (f8.a (f9.a (Ma.a (M0.a OP)))))))))))).l=true):e.e c<=f.e c:=ea (L:=(e1.a (e2.a (e3.a (e4.a (e5.a (e6.a (e7.a (e8.a (e9.a (L7.a (MU.a Ow)))))))))))) (R:=(f1.a (f2.a (f3.a (f4.a (f5.a (f6.a (f7.a (f8.a (f9.a (Ma.a (M0.a OP)))))))))))) (Nat.add_le_add h1 (Nat.add_le_add h2 (Nat.add_le_add h3 (Nat.add_le_add h4 (Nat.add_le_add h5 (Nat.add_le_add h6 (Nat.add_le_add h7 (Nat.add_le_add h8 (Nat.add_le_add h9 (Nat.add_le_add Ol (Nat.add_le_add NY QX))))))))))) ck
theorem Js (c:List Nat) (e f e1 f1 e2 f2 e3 f3 e4 f4 e5 f5 e6 f6 e7 f7 e8 f8 e9 f9 L7 Ma MU M0 Ow OP Ql Q_:NE) (h1:e1.e c<=f1.e c) (h2:e2.e c<=f2.e c) (h3:e3.e c<=f3.e c) (h4:e4.e c<=f4.e c) (h5:e5.e c<=f5.e c) (h6:e6.e c<=f6.e c) (h7:e7.e c<=f7.e c) (h8:e8.e c<=f8.e c) (h9:e9.e c<=f9.e c) (Ol:L7.e c<=Ma.e c) (NY:MU.e c<=M0.e c) (QX:Ow.e c<=OP.e c) (W_:Ql.e c<=Q_.e c) (ck:dr ((f.a (.n 1)).a (e1.a (e2.a (e3.a (e4.a (e5.a (e6.a (e7.a (e8.a (e9.a (L7.a (MU.a (Ow.a Ql))))))))))))).l (e.a (f1.a (f2.a (f3.a (f4.a (f5.a (f6.a (f7.a (f8.a (f9.a (Ma.a (M0.a (OP.a Q_))))))))))))).l=true):e.e c<=f.e c:=ea (L:=(e1.a (e2.a (e3.a (e4.a (e5.a (e6.a (e7.a (e8.a (e9.a (L7.a (MU.a (Ow.a Ql))))))))))))) (R:=(f1.a (f2.a (f3.a (f4.a (f5.a (f6.a (f7.a (f8.a (f9.a (Ma.a (M0.a (OP.a Q_))))))))))))) (Nat.add_le_add h1 (Nat.add_le_add h2 (Nat.add_le_add h3 (Nat.add_le_add h4 (Nat.add_le_add h5 (Nat.add_le_add h6 (Nat.add_le_add h7 (Nat.add_le_add h8 (Nat.add_le_add h9 (Nat.add_le_add Ol (Nat.add_le_add NY (Nat.add_le_add QX W_)))))))))))) ck
theorem Jr (c:List Nat) (e f e1 f1 e2 f2 e3 f3 e4 f4 e5 f5 e6 f6 e7 f7 e8 f8 e9 f9 L7 Ma MU M0 Ow OP Ql Q_ Va Vx:NE) (h1:e1.e c<=f1.e c) (h2:e2.e c<=f2.e c) (h3:e3.e c<=f3.e c) (h4:e4.e c<=f4.e c) (h5:e5.e c<=f5.e c) (h6:e6.e c<=f6.e c) (h7:e7.e c<=f7.e c) (h8:e8.e c<=f8.e c) (h9:e9.e c<=f9.e c) (Ol:L7.e c<=Ma.e c) (NY:MU.e c<=M0.e c) (QX:Ow.e c<=OP.e c) (W_:Ql.e c<=Q_.e c) (h14:Va.e c<=Vx.e c) (ck:dr ((f.a (.n 1)).a (e1.a (e2.a (e3.a (e4.a (e5.a (e6.a (e7.a (e8.a (e9.a (L7.a (MU.a (Ow.a (Ql.a Va)))))))))))))).l (e.a (f1.a (f2.a (f3.a (f4.a (f5.a (f6.a (f7.a (f8.a (f9.a (Ma.a (M0.a (OP.a (Q_.a Vx)))))))))))))).l=true):e.e c<=f.e c:=ea (L:=(e1.a (e2.a (e3.a (e4.a (e5.a (e6.a (e7.a (e8.a (e9.a (L7.a (MU.a (Ow.a (Ql.a Va)))))))))))))) (R:=(f1.a (f2.a (f3.a (f4.a (f5.a (f6.a (f7.a (f8.a (f9.a (Ma.a (M0.a (OP.a (Q_.a Vx)))))))))))))) (Nat.add_le_add h1 (Nat.add_le_add h2 (Nat.add_le_add h3 (Nat.add_le_add h4 (Nat.add_le_add h5 (Nat.add_le_add h6 (Nat.add_le_add h7 (Nat.add_le_add h8 (Nat.add_le_add h9 (Nat.add_le_add Ol (Nat.add_le_add NY (Nat.add_le_add QX (Nat.add_le_add W_ h14))))))))))))) ck
theorem az {a b:Nat} (h:a=b):a<=b:=h▸Nat.le_refl a
theorem aF {a b:Nat} (h:a=b):b<=a:=h▸Nat.le_refl a
theorem bg (x y:Nat):x<=x - y+y:=Nat.sub_le_iff_le_add.mp (Nat.le_refl _)
theorem dM {x y:Nat} (h:x<=y):x - y<=0:=Nat.le_of_eq (Nat.sub_eq_zero_of_le h)
theorem bb {x y:Nat} (h:y<=x):x - y+y<=x:=Nat.le_of_eq (Nat.sub_add_cancel h)
theorem cf {G:Prop} (h:1<=0):G:=absurd h (Nat.not_succ_le_zero 0)
theorem aY {a b:Nat} (h:a<=b) (k:b<=a):a=b:=Nat.le_antisymm h k
theorem dZ {a b:Nat} (h:a<b):a≠b:=Nat.ne_of_lt h
theorem cQ {a b:Nat} (h:b<a):a≠b:=Nat.ne_of_gt h
theorem eQ {x y:Nat} (h:x<=y):x<=min x y:=Nat.le_min.mpr ⟨Nat.le_refl x,h⟩
theorem iq {x y:Nat} (h:y<=x):y<=min x y:=Nat.le_min.mpr ⟨h,Nat.le_refl y⟩
theorem sH {x y:Nat} (h:y<=x):max x y<=x:=Nat.max_le.mpr ⟨Nat.le_refl x,h⟩
theorem sG {x y:Nat} (h:x<=y):max x y<=y:=Nat.max_le.mpr ⟨h,Nat.le_refl y⟩
theorem jo {a:Nat} (h:a<9223372036854775808):(a:Int)<2 ^ 63:=Int.lt_of_lt_of_le (Int.ofNat_lt.mpr h) (by decide)
theorem jn {a:Nat} (h:a<9223372036854775808):(a:Int)<9223372036854775808:=Int.ofNat_lt.mpr h
theorem sJ {a:Nat} (h:a<4611686018427387904):(a:Int)<2 ^ 62:=Int.lt_of_lt_of_le (Int.ofNat_lt.mpr h) (by decide)
section
variable {a0 a1 a2 a3 a4 a5 a6 a7 a8 a9 SA Sd a12 a13 a14 a15 a16 a17 a18 a19:Nat} {x0 x1 x2 x3 x4 x5 x6 x7 x8:Int}
theorem nB {a b:Int} {A B:Nat} (h:a.natAbs<=A) (k:b.natAbs<=B):(a+b).natAbs<=A+B:=Nat.le_trans (Int.natAbs_add_le a b) (Nat.add_le_add h k)
theorem nP {x:Int} (h:0<=x) (k:x<=4294967296):x.natAbs<=4294967296:=Int.ofNat_le.mp (Int.natAbs_of_nonneg h▸k)
theorem nD {N k:Nat}:∀{x:Int},x.natAbs<=(k+1)*N->(x / ((k+1:Nat):Int)).natAbs<=N
 | .ofNat _,h=>Nat.div_le_of_le_mul h
 | .negSucc _,h=>Nat.div_lt_of_lt_mul h
theorem q1:(min 3 a0)<=3:=aw [a0,min 3 a0] ab (.n 3) ab (.n 3) (Nat.min_le_left 3 a0) rfl
theorem q2 (h0:a0=a1) (h1:a1<=3):a0<=100000:=aA [a0,a1] aa (.n 100000) aa ab ab (.n 3) (az h0) h1 rfl
theorem q3 (h0:a0<a2) (h1:a2=a1):a0<a1:=aA [a0,a1,a2] aq ab aq ae ae ab h0 (az h1) rfl
theorem q4 (h0:a0=a1) (h1:a1<=3):3+a0<=16777216:=aA [a0,a1] (.a (.n 3) aa) (.n 16777216) aa ab ab (.n 3) (az h0) h1 rfl
theorem q5 (h0:¬(a1<a0)):a0<=a1:=aw [a0,a1] aa ab aa ab (Nat.le_of_not_lt h0) rfl
theorem q6 (h0:a0 - a1=0):a0 - a1=0:=aY (aw [a0,a1,a0 - a1] ae aK ae aK (az h0) rfl) (bt [a0,a1,a0 - a1] aK ae rfl)
theorem q7 (h0:a3+1+20<a2) (h1:a0=a3+1) (h2:a1<=20):a0+a1<a2:=bp [a0,a1,a2,a3] (.a (.a aa ab) ai) ae (.a (.a bB (.n 20)) ai) ae aa bB ab (.n 20) h0 (az h1) h2 rfl
theorem q8 (h0:a3+100+1000<a2) (h1:a0<=a3+100) (h2:a1<=1000):a0+a1<a2:=bp [a0,a1,a2,a3] (.a (.a aa ab) ai) ae (.a (.a (.a av (.n 100)) (.n 1000)) ai) ae aa (.a av (.n 100)) ab (.n 1000) h0 h1 h2 rfl
theorem q9 (h0:a0=a1) (h1:a1<=6):a0<=100000:=aA [a0,a1] aa (.n 100000) aa ab ab (.n 6) (az h0) h1 rfl
theorem fJ (h0:a0<=10000):a0+2<=16777216:=aw [a0] (.a aa (.n 2)) (.n 16777216) aa (.n 10000) h0 rfl
theorem jb (h0:a1+1+1+1<a2) (h1:a2<a3) (h2:a3<a4) (h3:a4<a5) (h4:a5<a6) (h5:a7<a0) (h6:a6<a7):a0≠a1+1+1+1:=cQ (sS [a0,a1,a2,a3,a4,a5,a6,a7] (.a (.a (.a aD ai) ai) ai) aa (.a (.a (.a aD ai) ai) ai) ae bn av bB aJ dc bG fv dW lA aa lB im h0 h1 h2 h3 h4 h5 h6 rfl)
theorem fZ (h0:a0<=1000):a0<=16777216:=aw [a0] aa (.n 16777216) aa (.n 1000) h0 rfl
theorem ja (h0:a0+1<=2000):a0+1<=16777216:=aw [a0] aq (.n 16777216) aq (.n 2000) h0 rfl
theorem hZ (h0:a0<a2) (h1:a3=a4+1) (h2:a5=a6+1) (h3:a2=a4) (h4:a3=a6) (h5:a5=a1):a0≠a1:=dZ (lJ [a0,a1,a2,a3,a4,a5,a6] aq ab aq ae dc av lB bG ae aJ av dW bG ab h0 (aF h1) (aF h2) (az h3) (az h4) (az h5) rfl)
theorem i7 (h0:a2=a0+1) (h1:a3=a4+1) (h2:a2=a4) (h3:a3=a1):a0≠a1:=dZ (cS [a0,a1,a2,a3,a4] aq ab aq ae dc av ae aJ av ab (aF h0) (aF h1) (az h2) (az h3) rfl)
theorem i6 (h0:a2=a0+1) (h1:a2=a1):a0≠a1:=dZ (aA [a0,a1,a2] aq ab aq ae ae ab (aF h0) (az h1) rfl)
theorem nX (h0:a1<a0):a0≠a1:=cQ (aw [a0,a1] aD aa aD aa h0 rfl)
theorem nW (h0:a1<a2) (h1:a3=a2+1) (h2:a4=a5+1) (h3:a3=a5) (h4:a4=a0):a0≠a1:=cQ (gG [a0,a1,a2,a3,a4,a5] aD aa aD ae bn av fv aJ av bG aJ aa h0 (aF h1) (aF h2) (az h3) (az h4) rfl)
theorem nV (h0:a1<a2) (h1:a3=a2+1) (h2:a3=a0):a0≠a1:=cQ (bp [a0,a1,a2,a3] aD aa aD ae bn av av aa h0 (aF h1) (az h2) rfl)
theorem nU (h0:a2=a1+1) (h1:a2=a0):a0≠a1:=cQ (aA [a0,a1,a2] aD aa aD ae ae aa (aF h0) (az h1) rfl)
theorem nO (h0:a0<a4) (h1:a5=a1+1) (h2:a6=a3+1) (h3:a4=a1) (h4:a5=a3) (h5:a6=a2):a0≠a1/\a0≠a2/\a0≠a3:=⟨dZ (aA [a0,a1,a2,a3,a4,a5,a6] aq ab aq aJ aJ ab h0 (az h3) rfl),⟨dZ (lJ [a0,a1,a2,a3,a4,a5,a6] aq ae aq aJ aD bG bB dW aJ ab bG av dW ae h0 (aF h1) (aF h2) (az h3) (az h4) (az h5) rfl),dZ (cS [a0,a1,a2,a3,a4,a5,a6] aq av aq aJ aD bG aJ ab bG av h0 (aF h1) (az h3) (az h4) rfl)⟩⟩
theorem i0 (h0:a1<a0):a0 - (a1+1)<a0 - a1:=aA [a0,a1,a0 - (a1+1),a0 - a1] bn av aa (.a av ab) (.a ae aD) aa (bg a0 a1) (bb (x:=a0) (y:=(a1+1)) (aw [a0,a1,a0 - (a1+1),a0 - a1] aD aa aD aa h0 rfl)) rfl
theorem nM (h0:a1<a2) (h1:a2<=100000) (h2:a0<=a1):a0<=16777216:=bp [a0,a1,a2] aa (.n 16777216) aD ae ae (.n 100000) aa ab h0 h1 h2 rfl
theorem gw (h0:a2=a0+1) (h1:a2=a1):a0<=a1:=aA [a0,a1,a2] aa ab aq ae ae ab (aF h0) (az h1) rfl
theorem nL (h0:a2=a0+1) (h1:a3=a4+1) (h2:a2=a4) (h3:a3=a1):a0<=a1:=cS [a0,a1,a2,a3,a4] aa ab aq ae dc av ae aJ av ab (aF h0) (aF h1) (az h2) (az h3) rfl
theorem Cy (h0:a0<a2) (h1:a3=a4+1) (h2:a5=a6+1) (h3:a1=a7+1) (h4:a2=a4) (h5:a3=a6) (h6:a5=a7):a0≠a1:=dZ (sS [a0,a1,a2,a3,a4,a5,a6,a7] aq ab aq ae dc av lB bG lA ab ae aJ av dW bG im h0 (aF h1) (aF h2) (aF h3) (az h4) (az h5) (az h6) rfl)
theorem Co (h0:a1<a2) (h1:a3=a2+1) (h2:a4=a5+1) (h3:a0=a6+1) (h4:a3=a5) (h5:a4=a6):a0≠a1:=cQ (lJ [a0,a1,a2,a3,a4,a5,a6] aD aa aD ae bn av fv aJ lB aa av bG aJ dW h0 (aF h1) (aF h2) (aF h3) (az h4) (az h5) rfl)
theorem Ci (h0:a2=a1+1) (h1:a3=a4+1) (h2:a0=a5+1) (h3:a2=a4) (h4:a3=a5):a0≠a1:=cQ (gG [a0,a1,a2,a3,a4,a5] aD aa aD ae dc av fv aa ae aJ av bG (aF h0) (aF h1) (aF h2) (az h3) (az h4) rfl)
theorem Ce (h0:a2=a1+1) (h1:a0=a3+1) (h2:a2=a3):a0≠a1:=cQ (bp [a0,a1,a2,a3] aD aa aD ae bB aa ae av (aF h0) (aF h1) (az h2) rfl)
theorem Ca (h0:a0=a1+1):a0≠a1:=cQ (aw [a0,a1] aD aa aD aa (aF h0) rfl)
theorem B0 (h0:a2=a0+1) (h1:a3=a4+1) (h2:a1=a5+1) (h3:a2=a4) (h4:a3=a5):a0<=a1:=gG [a0,a1,a2,a3,a4,a5] aa ab aq ae dc av fv ab ae aJ av bG (aF h0) (aF h1) (aF h2) (az h3) (az h4) rfl
theorem rk (h0:¬(a0<16)):a0 / 16<a0:=Nat.div_lt_self (Nat.lt_of_lt_of_le (by decide) (Nat.le_of_not_lt h0)) (by decide)
theorem BE:a0 % 16<16:=Nat.mod_lt _ (by decide)
theorem Bt (h0:a0 % 16=a1 % 16) (h1:a0 / 16=a1 / 16):a0=a1:=by rw [<-Nat.div_add_mod a0 16,h0,h1,Nat.div_add_mod]
theorem Bj (h0:(Int.natAbs x0)=(Int.natAbs x1)) (h1:x0<0) (h2:x1<0):x0=x1:=by
 rw [<-Int.neg_neg x0,<-Int.ofNat_natAbs_of_nonpos (Int.le_of_lt h1),h0,Int.ofNat_natAbs_of_nonpos (Int.le_of_lt h2),Int.neg_neg]
theorem Ba (h0:(Int.natAbs x0)=(Int.natAbs x1)) (h1:¬(x0<0)) (h2:¬(x1<0)):x0=x1:=by
 rw [<-Int.natAbs_of_nonneg (Int.not_lt.mp h1),h0,Int.natAbs_of_nonneg (Int.not_lt.mp h2)]
theorem AR (h0:(0:Int)<x0) (h1:x0<4294967296) (h2:x0=x1 / 4294967296*4294967296):False:=by omega
theorem AH (h0:a0<=32):a0<=32:=aw [a0] aa (.n 32) aa (.n 32) h0 rfl
theorem Aw (h0:a0≠0) (h1:a0<=32):(1:Nat)<=a0/\a0<=33:=⟨aw [a0] ai aa ai aa (Nat.pos_of_ne_zero h0) rfl,aw [a0] aa (.n 33) aa (.n 32) h1 rfl⟩
theorem rb (h0:a0<32):a0<=100:=aw [a0] aa (.n 100) aq (.n 32) h0 rfl
theorem Af (h0:x0<12) (h1:a1<=5):(Int.toNat (x0+4*(a1:Int)))<=32:=Int.toNat_le_toNat (Int.add_le_add (Int.le_of_lt h0) (Int.mul_le_mul_of_nonneg_left (Int.ofNat_le.mpr h1) (by decide)))
theorem qW (h0:(Int.natAbs x0)<2 ^ 64):(Int.natAbs (x0 / 64))<2 ^ 59:=Nat.lt_of_le_of_lt (nD (k:=63) (N:=2 ^ 58) (Nat.le_of_lt h0)) (by decide)
theorem zM (h0:(Int.natAbs x0)<2 ^ 64) (h1:(0:Int)<=x1) (h2:(0:Int)<=x2) (h3:(0:Int)<=x3) (h4:(0:Int)<=x4) (h5:(0:Int)<=x5) (h6:(0:Int)<=x6) (h7:x1<=4294967296) (h8:x2<=4294967296) (h9:x3<=4294967296) (Ol:x4<=4294967296) (NY:x5<=4294967296) (QX:x6<=4294967296):(Int.natAbs (x0 / 64*4294967296+x1+x2+x3+x4+x5+x6))<2 ^ 92:=
 Nat.lt_of_le_of_lt (nB (nB (nB (nB (nB (nB (by rw [Int.natAbs_mul];exact Nat.mul_le_mul_right _ (Nat.le_of_lt (qW h0))) (nP h1 h7)) (nP h2 h8)) (nP h3 h9)) (nP h4 Ol)) (nP h5 NY)) (nP h6 QX)) (by decide)
theorem hV (h0:a0<=a2) (h1:a2<=a1):a0<=a1:=aA [a0,a1,a2] aa ab aa ae ae ab h0 h1 rfl
theorem zn (h0:¬(a1<a0)):a0+(a1 - a0)=a1:=aY (aw [a0,a1,a1 - a0] (.a aa ae) ab (.a ae aa) ab (bb (x:=a1) (y:=a0) (aw [a0,a1,a1 - a0] aa ab aa ab (Nat.le_of_not_lt h0) rfl)) rfl) (aw [a0,a1,a1 - a0] ab (.a aa ae) ab (.a ae aa) (bg a1 a0) rfl)
theorem ze (h0:a0 - a1=a2+(a3+(0+1))):a0 - a1=a2+(a3+1):=aY (aw [a0,a1,a2,a3,a0 - a1] aJ (.a ae bB) aJ (.a ae (.a av (.a aK ai))) (az h0) rfl) (aw [a0,a1,a2,a3,a0 - a1] (.a ae bB) aJ (.a ae (.a av (.a aK ai))) aJ (aF h0) rfl)
theorem zd (h0:a0<a1):a0+(a1 - a0)=a1:=aY (aw [a0,a1,a1 - a0] (.a aa ae) ab (.a ae aa) ab (bb (x:=a1) (y:=a0) (aw [a0,a1,a1 - a0] aa ab aq ab h0 rfl)) rfl) (aw [a0,a1,a1 - a0] ab (.a aa ae) ab (.a ae aa) (bg a1 a0) rfl)
theorem zb (h0:a0<a1+a2) (h1:a1<a0):a0 - a1<a2:=aA [a0,a1,a2,a0 - a1] bB ae aq (.a ab ae) (.a av ab) aa h0 (bb (x:=a0) (y:=a1) (aw [a0,a1,a2,a0 - a1] ab aa aD aa h1 rfl)) rfl
theorem za (h0:a1<a0):a0 - a1=a0 - a1 - 1+1:=aY (aw [a0,a1,a0 - a1,a0 - a1 - 1] ae bB ae bB (bg (a0 - a1) 1) rfl) (aw [a0,a1,a0 - a1,a0 - a1 - 1] bB ae bB ae (bb (x:=(a0 - a1)) (y:=1) (aA [a0,a1,a0 - a1,a0 - a1 - 1] ai ae aD aa aa (.a ae ab) h0 (bg a0 a1) rfl)) rfl)
theorem nE (h0:a2 - a0=a1+(a3+1)):a0+a1<=a2:=(Nat.le_total a0 a2).elim (fun z0=>aA [a0,a1,a2,a3,a2 - a0] (.a aa ab) ae (.a ab bB) aJ (.a aJ aa) ae (aF h0) (bb z0) rfl) fun z0=>cf (aA [a0,a1,a2,a3,a2 - a0] ai aK (.a ab bB) aJ aJ aK (aF h0) (dM z0) rfl)
theorem yZ (h0:a2<a0+a1):¬(a0+a1<=a2):=fun h=>cf (aA [a0,a1,a2] ai aK bn (.a aa ab) (.a aa ab) ae h0 h rfl)
theorem qS (h0:a0<=a1):a0<=a1+a2:=aw [a0,a1,a2] aa (.a ab ae) aa ab h0 rfl
theorem yY:a0+1+1+1=2+(a0+1):=aY (bt [a0] (.a (.a aq ai) ai) (.a (.n 2) aq) rfl) (bt [a0] (.a (.n 2) aq) (.a (.a aq ai) ai) rfl)
theorem yX:(0:Nat)<=2:=bt [] aK (.n 2) rfl
theorem yW (h0:a0=2+a1):(2:Nat)<=a0:=aw [a0,a1] (.n 2) aa (.a (.n 2) ab) aa (aF h0) rfl
theorem yV (h0:a0<2):a0=0\/a0=1:=Nat.le_one_iff_eq_zero_or_eq_one.mp (Nat.le_of_lt_succ h0)
theorem yU:a0+(a1+1+1+1)=a0+a1+3:=aY (bt [a0,a1] (.a aa (.a (.a aD ai) ai)) (.a (.a aa ab) (.n 3)) rfl) (bt [a0,a1] (.a (.a aa ab) (.n 3)) (.a aa (.a (.a aD ai) ai)) rfl)
theorem yT (h0:a0=6+a2) (h1:a1<=60) (h2:a2<=63):a0+a1+4<=140:=bp [a0,a1,a2] (.a (.a aa ab) (.n 4)) (.n 140) aa (.a (.n 6) ae) ab (.n 60) ae (.n 63) (az h0) h1 h2 rfl
theorem yS (h0:a0=a2+2) (h1:a1=0) (h2:a2<=63):a0+a1+4<=140:=bp [a0,a1,a2] (.a (.a aa ab) (.n 4)) (.n 140) aa (.a ae (.n 2)) ab aK ae (.n 63) (az h0) (az h1) h2 rfl
theorem fo (h0:a0<=60):a0<100:=aw [a0] aq (.n 100) aa (.n 60) h0 rfl
theorem yR (h0:(1:Nat)<=a2/\a2<=33) (h1:a0=a3) (h2:a1=a2) (h3:a3<=33):(1:Nat)<=a0+a1/\a0+a1<=66:=⟨aA [a0,a1,a2,a3] ai (.a aa ab) ai ae ae ab h0.1 (aF h2) rfl,cS [a0,a1,a2,a3] (.a aa ab) (.n 66) ae (.n 33) aa av ab ae av (.n 33) h0.2 (az h1) (az h2) h3 rfl⟩
theorem qR (h0:a1<=a2*a3) (h1:a0<=a2):a0+a1<=a2*a3+a2:=aA [a0,a1,a2,a3,a2*a3] (.a aa ab) (.a aJ ae) ab aJ aa ae h0 h1 rfl
theorem yQ (h0:a0<=140*a1) (h1:a1<=66):a0<=9240:=aA [a0,a1] aa (.n 9240) aa (.m 140 ab) (.m 140 ab) (.m 140 (.n 66)) h0 (Nat.mul_le_mul_left 140 h1) rfl
theorem yP (h0:a0<=9240):2+(a0+1)<=9243:=aw [a0] (.a (.n 2) aq) (.n 9243) aa (.n 9240) h0 rfl
theorem yO (h0:a2<=a3+a4+(a1*a5+a1)):a0+(a1+a2)<=a0+(a3+a4)+(a1*a5+a1+a1):=aw [a0,a1,a2,a3,a4,a5,a1*a5] (.a aa (.a ab ae)) (.a (.a aa (.a av aJ)) (.a (.a dW ab) ab)) ae (.a (.a av aJ) (.a dW ab)) h0 rfl
theorem yN (h0:a0=3) (h1:a1<=a2+3*a3) (h2:a3<=66) (h3:a2<=9240):a0+a1+a0<=10000:=cS [a0,a1,a2,a3] (.a (.a aa ab) aa) (.n 10000) (.m 2 aa) (.m 2 (.n 3)) ab (.a ae (.m 3 av)) (.m 3 av) (.m 3 (.n 66)) ae (.n 9240) (Nat.mul_le_mul_left 2 (az h0)) h1 (Nat.mul_le_mul_left 3 h2) h3 rfl
theorem yM (h0:a1=3) (h1:a0=3):0+a0<=a1+a2+a1:=aA [a0,a1,a2] (.a aK aa) (.a (.a ab ae) ab) (.n 3) ab aa (.n 3) (aF h0) (az h1) rfl
theorem yL (h0:a1=a2) (h1:a3<=60*a1) (h2:a0<=a3+2*a1) (h3:a2<=33):a0<=10000:=cS [a0,a1,a2,a3] aa (.n 10000) (.m 62 ab) (.m 62 ae) av (.m 60 ab) aa (.a av (.m 2 ab)) (.m 62 ae) (.m 62 (.n 33)) (Nat.mul_le_mul_left 62 (az h0)) h1 h2 (Nat.mul_le_mul_left 62 h3) rfl
theorem yK (h0:a0<=a2*a3) (h1:a1<=a2):a0+a1<=a2*a3+a2:=aA [a0,a1,a2,a3,a2*a3] (.a aa ab) (.a aJ ae) aa aJ ab ae h0 h1 rfl
theorem yJ (h0:a1<=a2):(min a0 a1)<=a2:=aA [a0,a1,a2,min a0 a1] av ae ab ae av ab h0 (Nat.min_le_right a0 a1) rfl
theorem yI:(min (a0+1) (a1+1))=(min a0 a1)+1:=(Nat.le_total (a1+1) (a0+1)).elim (fun z0=>aY (aA [a0,a1,min (a0+1) (a1+1),min a0 a1] ae bB ae aD ab av (Nat.min_le_right (a0+1) (a1+1)) (iq (x:=a0) (y:=a1) (aA [a0,a1,min (a0+1) (a1+1),min a0 a1] ab aa ae aq aD ae (Nat.min_le_left (a0+1) (a1+1)) (iq z0) rfl)) rfl) (aA [a0,a1,min (a0+1) (a1+1),min a0 a1] bB ae av ab aD ae (Nat.min_le_right a0 a1) (iq z0) rfl)) fun z0=>aY (aA [a0,a1,min (a0+1) (a1+1),min a0 a1] ae bB ae aq aa av (Nat.min_le_left (a0+1) (a1+1)) (eQ (x:=a0) (y:=a1) (aA [a0,a1,min (a0+1) (a1+1),min a0 a1] aa ab ae aD aq ae (Nat.min_le_right (a0+1) (a1+1)) (eQ z0) rfl)) rfl) (aA [a0,a1,min (a0+1) (a1+1),min a0 a1] bB ae av aa aq ae (Nat.min_le_left a0 a1) (eQ z0) rfl)
theorem yH:(min (a0+2) (a1+2))=(min a0 a1)+2:=(Nat.le_total (a1+2) (a0+2)).elim (fun z0=>aY (aA [a0,a1,min (a0+2) (a1+2),min a0 a1] ae (.a av (.n 2)) ae (.a ab (.n 2)) ab av (Nat.min_le_right (a0+2) (a1+2)) (iq (x:=a0) (y:=a1) (aA [a0,a1,min (a0+2) (a1+2),min a0 a1] ab aa ae (.a aa (.n 2)) (.a ab (.n 2)) ae (Nat.min_le_left (a0+2) (a1+2)) (iq z0) rfl)) rfl) (aA [a0,a1,min (a0+2) (a1+2),min a0 a1] (.a av (.n 2)) ae av ab (.a ab (.n 2)) ae (Nat.min_le_right a0 a1) (iq z0) rfl)) fun z0=>aY (aA [a0,a1,min (a0+2) (a1+2),min a0 a1] ae (.a av (.n 2)) ae (.a aa (.n 2)) aa av (Nat.min_le_left (a0+2) (a1+2)) (eQ (x:=a0) (y:=a1) (aA [a0,a1,min (a0+2) (a1+2),min a0 a1] aa ab ae (.a ab (.n 2)) (.a aa (.n 2)) ae (Nat.min_le_right (a0+2) (a1+2)) (eQ z0) rfl)) rfl) (aA [a0,a1,min (a0+2) (a1+2),min a0 a1] (.a av (.n 2)) ae av aa (.a aa (.n 2)) ae (Nat.min_le_left a0 a1) (eQ z0) rfl)
theorem yG (h0:a0<=(min a1 a2)):a0+1<=a1+1:=aA [a0,a1,a2,min a1 a2] aq aD aa av av ab h0 (Nat.min_le_left a1 a2) rfl
theorem yF (h0:a0<=(min a1 a2)):a0<=a1:=aA [a0,a1,a2,min a1 a2] aa ab aa av av ab h0 (Nat.min_le_left a1 a2) rfl
theorem yE (h0:a0<=(min a2 a1)):a0<=a1:=aA [a0,a1,a2,min a2 a1] aa ab aa av av ab h0 (Nat.min_le_right a2 a1) rfl
theorem yD (h0:a0<=a1):a0<=a1+66:=aw [a0,a1] aa (.a ab (.n 66)) aa ab h0 rfl
theorem yC (h0:a1<=66) (h1:a0<=a2):a0+a1<=a2+66:=aA [a0,a1,a2] (.a aa ab) (.a ae (.n 66)) ab (.n 66) aa ae h0 h1 rfl
theorem yB:a0+1<=a0+1:=bt [a0] aq aq rfl
theorem yA (h0:a0<=a1):a0<=a1:=aw [a0,a1] aa ab aa ab h0 rfl
theorem yz (h0:a0<=a1):a0+1<=a1+1:=aw [a0,a1] aq aD aa ab h0 rfl
theorem yy (h0:a0<=a1+(0+1)) (h1:¬(a0<=a1)):a0=a1+1:=aY (aw [a0,a1] aa aD aa (.a ab (.a aK ai)) h0 rfl) (aw [a0,a1] aD aa aD aa (Nat.lt_of_not_le h1) rfl)
theorem yx (h0:a1=a2+1) (h1:a0<=33*a1) (h2:a3<=6) (h3:a2<=a3):a0<=900:=cS [a0,a1,a2,a3] aa (.n 900) (.m 33 ab) (.m 33 bn) aa (.m 33 ab) (.m 33 av) (.m 33 (.n 6)) (.m 33 ae) (.m 33 av) (Nat.mul_le_mul_left 33 (az h0)) h1 (Nat.mul_le_mul_left 33 h2) (Nat.mul_le_mul_left 33 h3) rfl
theorem qQ (h0:a1<=a3) (h1:a0<=a2):a0+a1<=a2+a3:=aA [a0,a1,a2,a3] (.a aa ab) (.a ae av) ab av aa ae h0 h1 rfl
theorem yw (h0:a0=a1) (h1:a1<=9240):a0<=10000:=aA [a0,a1] aa (.n 10000) aa ab ab (.n 9240) (az h0) h1 rfl
theorem yv (h0:a2=1) (h1:a0=2) (h2:a1=a3) (h3:a3<=9240):a0+a1+a2<=10000:=cS [a0,a1,a2,a3] (.a (.a aa ab) ae) (.n 10000) ae ai aa (.n 2) ab av av (.n 9240) (az h0) (az h1) (az h2) h3 rfl
theorem qP (h0:a0<=10000*a1) (h1:a2<=100) (h2:a1<=a2):a0+a1<=1048576:=bp [a0,a1,a2] (.a aa ab) (.n 1048576) aa (.m 10000 ab) (.m 10001 ae) (.m 10001 (.n 100)) (.m 10001 ab) (.m 10001 ae) h0 (Nat.mul_le_mul_left 10001 h1) (Nat.mul_le_mul_left 10001 h2) rfl
theorem qO (h0:a0 - a1=0) (h1:¬(a0<a1)):a0=a1:=aY (aA [a0,a1,a0 - a1] aa ab ae aK aa (.a ae ab) (az h0) (bg a0 a1) rfl) (aw [a0,a1,a0 - a1] ab aa ab aa (Nat.le_of_not_lt h1) rfl)
theorem ny (h0:a1=a0):a0<=a1:=aw [a0,a1] aa ab aa ab (aF h0) rfl
theorem yu (h0:a0<=1000):a0<2 ^ 62:=aw [a0] aq (.n 4611686018427387904) aa (.n 1000) h0 rfl
theorem yt (h0:a0=a1+0):a0<=a1:=aw [a0,a1] aa ab aa (.a ab aK) (az h0) rfl
theorem qN (h0:a1=a0+(a2+1)):a0<a1:=aw [a0,a1,a2] aq ab (.a aa bn) ab (aF h0) rfl
theorem yq (h0:a0=a1+(a2+1)):a0 - 1 - a1=a2:=aY (bp [a0,a1,a2,a0 - 1 - a1,a0 - 1] av ae aa (.a ab bn) (.a av ab) aJ dc aa (az h0) (bb (x:=(a0 - 1)) (y:=a1) (aA [a0,a1,a2,a0 - 1 - a1,a0 - 1] ab aJ (.a ab bn) aa aa dc (aF h0) (bg a0 1) rfl)) (bb (x:=a0) (y:=1) (aw [a0,a1,a2,a0 - 1 - a1,a0 - 1] ai aa (.a ab bn) aa (aF h0) rfl)) rfl) (bp [a0,a1,a2,a0 - 1 - a1,a0 - 1] ae av (.a ab bn) aa aJ (.a av ab) aa dc (aF h0) (bg (a0 - 1) a1) (bg a0 1) rfl)
theorem yp (h0:a0=a1+(a2+1)):a0=a1+1+a2:=aY (aw [a0,a1,a2] aa (.a aD ae) aa (.a ab bn) (az h0) rfl) (aw [a0,a1,a2] (.a aD ae) aa (.a ab bn) aa (aF h0) rfl)
theorem yo:a0<=a0+(a1 - 1 - a2):=bt [a0,a1,a2,a1 - 1 - a2,a1 - 1] aa (.a aa av) rfl
theorem yn:a0+(a1 - 1 - a2) - a0=a1 - 1 - a2:=aY (aw [a0,a1,a2,a0+(a1 - 1 - a2) - a0,a1 - 1 - a2,a1 - 1] av aJ (.a av aa) (.a aa aJ) (bb (x:=(a0+(a1 - 1 - a2))) (y:=a0) (bt [a0,a1,a2,a0+(a1 - 1 - a2) - a0,a1 - 1 - a2,a1 - 1] aa (.a aa aJ) rfl)) rfl) (aw [a0,a1,a2,a0+(a1 - 1 - a2) - a0,a1 - 1 - a2,a1 - 1] aJ av (.a aa aJ) (.a av aa) (bg (a0+(a1 - 1 - a2)) a0) rfl)
theorem qM (h0:a1<a0):a0 - 1 - a1<a0:=aA [a0,a1,a0 - 1 - a1,a0 - 1] bn aa ae av bB aa (Nat.sub_le (a0 - 1) a1) (bb (x:=a0) (y:=1) (aw [a0,a1,a0 - 1 - a1,a0 - 1] ai aa aD aa h0 rfl)) rfl
theorem ym (h0:a1<a0):a0 - 1 - (a0 - 1 - a1)=a1:=aY (aA [a0,a1,a0 - 1 - (a0 - 1 - a1),a0 - 1,a0 - 1 - a1] ae ab av (.a aJ ab) (.a ae aJ) av (bg (a0 - 1) a1) (bb (x:=(a0 - 1)) (y:=(a0 - 1 - a1)) (aw [a0,a1,a0 - 1 - (a0 - 1 - a1),a0 - 1,a0 - 1 - a1] aJ av aJ av (Nat.sub_le (a0 - 1) a1) rfl)) rfl) (aA [a0,a1,a0 - 1 - (a0 - 1 - a1),a0 - 1,a0 - 1 - a1] ab ae av (.a ae aJ) (.a aJ ab) av (bg (a0 - 1) (a0 - 1 - a1)) (bb (x:=(a0 - 1)) (y:=a1) (aA [a0,a1,a0 - 1 - (a0 - 1 - a1),a0 - 1,a0 - 1 - a1] ab av aD aa aa bB h0 (bg a0 1) rfl)) rfl)
theorem yl (h0:a0+1<=a2) (h1:a2=a1):a0<a1:=aA [a0,a1,a2] aq ab aq ae ae ab h0 (az h1) rfl
theorem yk (h0:a2=a0):a0 - 1 - a1=a2 - (a1+1):=(Nat.le_total a1 (a0 - 1)).elim (fun z0=>(Nat.le_total (a1+1) a2).elim (fun z1=>aY (cS [a0,a1,a2,a0 - 1 - a1,a2 - (a1+1),a0 - 1] av aJ aa ae ae (.a aJ aD) (.a av ab) bG fv aa (aF h0) (bg a2 (a1+1)) (bb z0) (bb (x:=a0) (y:=1) (aA [a0,a1,a2,a0 - 1 - a1,a2 - (a1+1),a0 - 1] ai aa ae aa (.a aJ aD) ae (az h0) (bb z1) rfl)) rfl) (cS [a0,a1,a2,a0 - 1 - a1,a2 - (a1+1),a0 - 1] aJ av ae aa bG (.a av ab) aa fv (.a aJ aD) ae (az h0) (bg (a0 - 1) a1) (bg a0 1) (bb z1) rfl)) fun z1=>(Nat.le_total 1 a0).elim (fun z2=>aY (cS [a0,a1,a2,a0 - 1 - a1,a2 - (a1+1),a0 - 1] av aJ aa ae ae (.a aJ aD) (.a av ab) bG fv aa (aF h0) (bg a2 (a1+1)) (bb z0) (bb z2) rfl) (aw [a0,a1,a2,a0 - 1 - a1,a2 - (a1+1),a0 - 1] aJ av aJ aK (dM z1) rfl)) fun z2=>aY (aA [a0,a1,a2,a0 - 1 - a1,a2 - (a1+1),a0 - 1] av aJ av bG bG aK (Nat.sub_le (a0 - 1) a1) (dM z2) rfl) (aw [a0,a1,a2,a0 - 1 - a1,a2 - (a1+1),a0 - 1] aJ av aJ aK (dM z1) rfl)) fun z0=>aY (aw [a0,a1,a2,a0 - 1 - a1,a2 - (a1+1),a0 - 1] av aJ av aK (dM z0) rfl) (aw [a0,a1,a2,a0 - 1 - a1,a2 - (a1+1),a0 - 1] aJ av aJ aK (dM (x:=a2) (y:=(a1+1)) (cS [a0,a1,a2,a0 - 1 - a1,a2 - (a1+1),a0 - 1] ae aD ae aa bG (.a av ab) aa fv av aK (az h0) (bg (a0 - 1) a1) (bg a0 1) (dM z0) rfl)) rfl)
theorem oj (h0:a1+1<=a0):a0 - (a1+1)+1=a0 - a1:=aY (aA [a0,a1,a0 - (a1+1),a0 - a1] bn av aa (.a av ab) (.a ae aD) aa (bg a0 a1) (bb (x:=a0) (y:=(a1+1)) (aw [a0,a1,a0 - (a1+1),a0 - a1] aD aa aD aa h0 rfl)) rfl) (aA [a0,a1,a0 - (a1+1),a0 - a1] av bn aa (.a ae aD) (.a av ab) aa (bg a0 (a1+1)) (bb (x:=a0) (y:=a1) (aw [a0,a1,a0 - (a1+1),a0 - a1] ab aa aD aa h0 rfl)) rfl)
theorem oi (h0:a1 - (a0+1)+1=a1 - a0):a0<=a1:=(Nat.le_total (a0+1) a1).elim (fun z0=>aw [a0,a1,a1 - (a0+1),a1 - a0] aa ab (.a ae aq) ab (bb z0) rfl) fun z0=>(Nat.le_total a0 a1).elim (fun z1=>aw [a0,a1,a1 - (a0+1),a1 - a0] aa ab (.a av aa) ab (bb z1) rfl) fun z1=>cf (aA [a0,a1,a1 - (a0+1),a1 - a0] ai aK bn av av aK (az h0) (dM z1) rfl)
theorem og (h0:a0=a1+1):a0=a1+1:=aY (aw [a0,a1] aa aD aa aD (az h0) rfl) (aw [a0,a1] aD aa aD aa (aF h0) rfl)
theorem lj:a0<=a0+1:=bt [a0] aa aq rfl
theorem EO (h0:a1=a0+1):a0+1<=a1:=aw [a0,a1] aq ab aq ab (aF h0) rfl
theorem EN (h0:a1=a2) (h1:a0=a1) (h2:a2<=100000):(a0:Int)<2 ^ 63:=jo (bp [a0,a1,a2] aq (.n 9223372036854775808) ab ae aa ab ae (.n 100000) (az h0) (az h1) h2 rfl)
theorem rS (h0:a0<6):a0<=6:=aw [a0] aa (.n 6) aq (.n 6) h0 rfl
theorem rR (h0:a2=a1+1) (h1:a0=a2):a0=a1+1:=aY (aA [a0,a1,a2] aa aD ae aD aa ae (az h0) (az h1) rfl) (aA [a0,a1,a2] aD aa aD ae ae aa (aF h0) (aF h1) rfl)
theorem rQ (h0:a2=a1+2) (h1:a3=a2) (h2:a0=a3):a0=a1+2:=aY (bp [a0,a1,a2,a3] aa (.a ab (.n 2)) ae (.a ab (.n 2)) av ae aa av (az h0) (az h1) (az h2) rfl) (bp [a0,a1,a2,a3] (.a ab (.n 2)) aa (.a ab (.n 2)) ae ae av av aa (aF h0) (aF h1) (aF h2) rfl)
theorem rP (h0:a0=a1):a0=a1:=aY (aw [a0,a1] aa ab aa ab (az h0) rfl) (aw [a0,a1] ab aa ab aa (aF h0) rfl)
theorem EM (h0:a1<6) (h1:a0<=a1):a0<=20:=aA [a0,a1] aa (.n 20) aD (.n 6) aa ab h0 h1 rfl
theorem rO (h0:a1<6) (h1:a0=a2) (h2:a2<=8*a1):a0<=100:=bp [a0,a1,a2] aa (.n 100) (.m 8 aD) (.m 8 (.n 6)) aa ae ae (.m 8 ab) (Nat.mul_le_mul_left 8 h0) (az h1) h2 rfl
theorem rN (h0:a0<=900):a0<1000:=aw [a0] aq (.n 1000) aa (.n 900) h0 rfl
theorem EL (h0:a0+a2=a1):a0<=a1:=aw [a0,a1,a2] aa ab (.a aa ae) ab (az h0) rfl
theorem EK (h0:a2=a1+2) (h1:a0=a2):a0=a1+2:=aY (aA [a0,a1,a2] aa (.a ab (.n 2)) ae (.a ab (.n 2)) aa ae (az h0) (az h1) rfl) (aA [a0,a1,a2] (.a ab (.n 2)) aa (.a ab (.n 2)) ae ae aa (aF h0) (aF h1) rfl)
theorem gx (h0:a1=a2+2) (h1:a0<=a2):a0+1<a1:=aA [a0,a1,a2] (.a aq ai) ab (.a ae (.n 2)) ab aa ae (aF h0) h1 rfl
theorem oe (h0:a1=a2+1) (h1:a0<=a2):a0<a1:=aA [a0,a1,a2] aq ab bn ab aa ae (aF h0) h1 rfl
theorem EJ (h0:a1=a2+1) (h1:a0<=a2):(min a0 a1)=a0:=aY (aw [a0,a1,a2,min a0 a1] av aa av aa (Nat.min_le_left a0 a1) rfl) (aw [a0,a1,a2,min a0 a1] aa av aa av (eQ (x:=a0) (y:=a1) (aA [a0,a1,a2,min a0 a1] aa ab bn ab aa ae (aF h0) h1 rfl)) rfl)
theorem EI (h0:a2=a3+1) (h1:a1=a2) (h2:a0<=a3):(min (a0+1) a1)=a0+1:=aY (aw [a0,a1,a2,a3,min (a0+1) a1] aJ aq aJ aq (Nat.min_le_left (a0+1) a1) rfl) (aw [a0,a1,a2,a3,min (a0+1) a1] aq aJ aq aJ (eQ (x:=(a0+1)) (y:=a1) (bp [a0,a1,a2,a3,min (a0+1) a1] aq ab bB ae ae ab aa av (aF h0) (aF h1) h2 rfl)) rfl)
theorem EH (h0:a0<=a1):(min a0 a1)=a0:=aY (aw [a0,a1,min a0 a1] ae aa ae aa (Nat.min_le_left a0 a1) rfl) (aw [a0,a1,min a0 a1] aa ae aa ae (eQ (x:=a0) (y:=a1) (aw [a0,a1,min a0 a1] aa ab aa ab h0 rfl)) rfl)
theorem EG (h0:a1<6) (h1:a0<=10+66*a1):a0<=500:=aA [a0,a1] aa (.n 500) (.m 66 aD) (.m 66 (.n 6)) aa (.a (.n 10) (.m 66 ab)) (Nat.mul_le_mul_left 66 h0) h1 rfl
theorem rM (h0:a0<=33) (h1:a1<=33):a0+a1<=66:=aA [a0,a1] (.a aa ab) (.n 66) aa (.n 33) ab (.n 33) h0 h1 rfl
theorem EF (h0:a1+a2=a3) (h1:a4<6) (h2:a0=a5+a2) (h3:a5<=8*a4) (h4:a3<=a4):a0<=1000:=gG [a0,a1,a2,a3,a4,a5] aa (.n 1000) (.a ab ae) av (.m 9 dc) (.m 9 (.n 6)) aa (.a bG ae) bG (.m 8 aJ) av aJ (az h0) (Nat.mul_le_mul_left 9 h1) (az h2) h3 h4 rfl
theorem EE (h0:a1<6) (h1:a2=a3+2) (h2:a0=a2) (h3:a3<=a1):a0<=900:=cS [a0,a1,a2,a3] aa (.n 900) aD (.n 6) ae (.a av (.n 2)) aa ae av ab h0 (az h1) (az h2) h3 rfl
theorem ED (h0:a1<6) (h1:a0=a2+1) (h2:a3=a2) (h3:a3<=a1):a0<=900:=cS [a0,a1,a2,a3] aa (.n 900) aD (.n 6) aa bn ae av av ab h0 (az h1) (aF h2) h3 rfl
theorem EC (h0:a1<6) (h1:a0=a2) (h2:a3=a2) (h3:a3<=a1):a0<=900:=cS [a0,a1,a2,a3] aa (.n 900) aD (.n 6) aa ae ae av av ab h0 (az h1) (aF h2) h3 rfl
theorem EB (h0:a0<6):10+66*a0+66<=100000:=aw [a0] (.a (.a (.n 10) (.m 66 aa)) (.n 66)) (.n 100000) (.m 66 aq) (.m 66 (.n 6)) (Nat.mul_le_mul_left 66 h0) rfl
theorem EA (h0:(Int.natAbs x0)<2 ^ 92):(Int.natAbs (x0 / 4294967296))<2 ^ 64:=Nat.lt_of_le_of_lt (nD (k:=4294967295) (N:=2 ^ 60) (Nat.le_of_lt h0)) (by decide)
theorem Ez (h0:a0<=33):a0<=1000:=aw [a0] aa (.n 1000) aa (.n 33) h0 rfl
theorem oa (h0:a0<=33):a0<=40:=aw [a0] aa (.n 40) aa (.n 33) h0 rfl
theorem Ey (h0:a1<6) (h1:a0<=a1):a0<=10:=aA [a0,a1] aa (.n 10) aD (.n 6) aa ab h0 h1 rfl
theorem rL (h0:a1+a2=a3) (h1:a4<6) (h2:a0=a5+a2) (h3:a5<=8*a4) (h4:a3<=a4):a0<=200:=gG [a0,a1,a2,a3,a4,a5] aa (.n 200) (.a ab ae) av (.m 9 dc) (.m 9 (.n 6)) aa (.a bG ae) bG (.m 8 aJ) av aJ (az h0) (Nat.mul_le_mul_left 9 h1) (az h2) h3 h4 rfl
theorem Ex (h0:a1<6) (h1:a0=a2) (h2:a2<=a1):a0<=20:=bp [a0,a1,a2] aa (.n 20) aD (.n 6) aa ae ae ab h0 (az h1) h2 rfl
theorem Ew (h0:a1<6) (h1:a0=a2) (h2:a2=a1):a0<=20:=bp [a0,a1,a2] aa (.n 20) aD (.n 6) aa ae ae ab h0 (az h1) (az h2) rfl
theorem Ev:10+66*(a0+1)=10+66*a0+66:=aY (bt [a0] (.a (.n 10) (.m 66 aq)) (.a (.a (.n 10) (.m 66 aa)) (.n 66)) rfl) (bt [a0] (.a (.a (.n 10) (.m 66 aa)) (.n 66)) (.a (.n 10) (.m 66 aq)) rfl)
theorem Eu (h0:a1+a0=a2) (h1:a3<6) (h2:a2<=a3):a0<=5:=bp [a0,a1,a2,a3] aa (.n 5) (.a ab aa) ae bB (.n 6) ae av (az h0) h1 h2 rfl
theorem Et:8*(a0+1)=8*a0+5+3:=aY (bt [a0] (.m 8 aq) (.a (.a (.m 8 aa) (.n 5)) (.n 3)) rfl) (bt [a0] (.a (.a (.m 8 aa) (.n 5)) (.n 3)) (.m 8 aq) rfl)
theorem Es (h0:a0=a2) (h1:a1=a2):a0=a1:=aY (aA [a0,a1,a2] aa ab aa ae ae ab (az h0) (aF h1) rfl) (aA [a0,a1,a2] ab aa ae aa ab ae (aF h0) (az h1) rfl)
theorem Er (h0:a0=a1) (h1:a1<=6):(a0:Int)<9223372036854775808:=jn (aA [a0,a1] aq (.n 9223372036854775808) aa ab ab (.n 6) (az h0) h1 rfl)
theorem rK:(a0:Int)=0+(a0:Int):=by lia
theorem Ep (h0:a0<=6):(a0:Int)<2 ^ 62:=sJ (aw [a0] aq (.n 4611686018427387904) aa (.n 6) h0 rfl)
theorem Eo (h0:(0:Int)<=x0):((-2 ^ 63):Int)<=x0:=by lia
theorem En (h0:x0<1000):x0<2 ^ 63:=Int.lt_trans h0 (by decide)
theorem Em (h0:(0:Int)<=x0):¬(x0<0):=by lia
theorem El (h0:(Int.toNat x0)<a1):x0<(a1:Int):=Int.lt_of_le_of_lt (Int.self_le_toNat x0) (Int.ofNat_lt.mpr h0)
theorem Ek (h0:a0<=a1+3*a2) (h1:a2<=66) (h2:a1<=9240):a0<=10000:=bp [a0,a1,a2] aa (.n 10000) aa (.a ab (.m 3 ae)) (.m 3 ae) (.m 3 (.n 66)) ab (.n 9240) h0 (Nat.mul_le_mul_left 3 h1) h2 rfl
theorem Ej (h0:a1<=66) (h1:a0<=9240):a0+a1<=1048576:=aA [a0,a1] (.a aa ab) (.n 1048576) ab (.n 66) aa (.n 9240) h0 h1 rfl
theorem nZ (h0:a0=a1) (h1:a1<=33):a0<=100000:=aA [a0,a1] aa (.n 100000) aa ab ab (.n 33) (az h0) h1 rfl
theorem Ei (h0:a2=a3) (h1:a4=a5) (h2:a3<=33) (h3:a5<=33) (h4:a0<=a2) (h5:a1<=a4):a0+a1<=1000000:=lJ [a0,a1,a2,a3,a4,a5] (.a aa ab) (.n 1000000) ae av aJ bG av (.n 33) bG (.n 33) aa ae ab aJ (az h0) (az h1) h2 h3 h4 h5 rfl
theorem Eh (h0:a0<=10000):a0<=1000000:=aw [a0] aa (.n 1000000) aa (.n 10000) h0 rfl
theorem Eg (h0:a0<=9243):a0<=1000000:=aw [a0] aa (.n 1000000) aa (.n 9243) h0 rfl
theorem Ef (h0:a0<=66):a0<=200:=aw [a0] aa (.n 200) aa (.n 66) h0 rfl
theorem Ee (h0:(0:Int)<=x0) (h1:x0<2 ^ 64):(Int.natAbs (x0 - 2 ^ 63))<=2 ^ 63:=by lia
theorem Ed:3+(min 3 a0)<=6:=aw [a0,min 3 a0] (.a (.n 3) ab) (.n 6) ab (.n 3) (Nat.min_le_left 3 a0) rfl
theorem Ec (h0:(Int.natAbs x0)<=2 ^ 63):(Int.natAbs (x0 / 3+21))<2 ^ 64:=Nat.lt_of_le_of_lt (nB (nD (k:=2) (N:=2 ^ 62) (Nat.le_trans h0 (by decide))) (Nat.le_refl 21)) (by decide)
theorem Eb (h0:a0+1+1+1+1+1+1<a1):a0+1<a1:=aw [a0,a1] (.a aq ai) ab (.a (.a (.a (.a (.a (.a aq ai) ai) ai) ai) ai) ai) ab h0 rfl
theorem Ea (h0:a0+1+1+1+1+1+1<a1):a0+1+1<a1:=aw [a0,a1] (.a (.a aq ai) ai) ab (.a (.a (.a (.a (.a (.a aq ai) ai) ai) ai) ai) ai) ab h0 rfl
theorem D9 (h0:a0+1+1+1+1+1+1<a1):a0+1+1+1<a1:=aw [a0,a1] (.a (.a (.a aq ai) ai) ai) ab (.a (.a (.a (.a (.a (.a aq ai) ai) ai) ai) ai) ai) ab h0 rfl
theorem D7 (h0:a0+1+1+1+1+1+1<a1):a0+1+1+1+1<a1:=aw [a0,a1] (.a (.a (.a (.a aq ai) ai) ai) ai) ab (.a (.a (.a (.a (.a (.a aq ai) ai) ai) ai) ai) ai) ab h0 rfl
theorem D0 (h0:a0+1+1+1+1+1+1<a1):a0+1+1+1+1+1<a1:=aw [a0,a1] (.a (.a (.a (.a (.a aq ai) ai) ai) ai) ai) ab (.a (.a (.a (.a (.a (.a aq ai) ai) ai) ai) ai) ai) ab h0 rfl
theorem DZ (h0:a1+1+1+1+1+1+1<a0) (h1:(123:Nat)<a1):(123:Nat)<a0:=aA [a0,a1] (.a (.n 123) ai) aa (.a (.a (.a (.a (.a (.a aD ai) ai) ai) ai) ai) ai) aa (.a (.n 123) ai) ab h0 h1 rfl
theorem DY (h0:a0<a1) (h1:a1<a2) (h2:a0=a2):False:=cf (bp [a0,a1,a2] ai aK aq ab aD ae ae aa h0 h1 (aF h2) rfl)
theorem DX (h0:a0<a1) (h1:a0=a2) (h2:a1=a2):False:=cf (bp [a0,a1,a2] ai aK aq ab ae aa ab ae h0 (aF h1) (az h2) rfl)
theorem nY (h0:a0<a1) (h1:a1<a0):False:=cf (aA [a0,a1] ai aK aq ab aD aa h0 h1 rfl)
theorem rJ (h0:a0<a1) (h1:a1=a0):False:=cf (aA [a0,a1] ai aK aq ab ab aa h0 (az h1) rfl)
theorem DW (h0:a0<a1) (h1:a0=a1):False:=cf (aA [a0,a1] ai aK aq ab ab aa h0 (aF h1) rfl)
theorem DV (h0:(123:Nat)<a0):(a0+1+1+1≠a0+1/\a0+1+1+1≠a0+1+1)/\(a0+1+1+1+1≠a0+1/\a0+1+1+1+1≠a0+1+1)/\(a0+1+1+1+1+1≠a0+1/\a0+1+1+1+1+1≠a0+1+1)/\(a0+1+1+1+1+1+1≠a0+1/\a0+1+1+1+1+1+1≠a0+1+1)/\(123:Nat)≠a0+1/\(123:Nat)≠a0+1+1:=⟨⟨cQ (bt [a0] (.a aq ai) (.a (.a aq ai) ai) rfl),cQ (bt [a0] (.a (.a aq ai) ai) (.a (.a aq ai) ai) rfl)⟩,⟨⟨cQ (bt [a0] (.a aq ai) (.a (.a (.a aq ai) ai) ai) rfl),cQ (bt [a0] (.a (.a aq ai) ai) (.a (.a (.a aq ai) ai) ai) rfl)⟩,⟨⟨cQ (bt [a0] (.a aq ai) (.a (.a (.a (.a aq ai) ai) ai) ai) rfl),cQ (bt [a0] (.a (.a aq ai) ai) (.a (.a (.a (.a aq ai) ai) ai) ai) rfl)⟩,⟨⟨cQ (bt [a0] (.a aq ai) (.a (.a (.a (.a (.a aq ai) ai) ai) ai) ai) rfl),cQ (bt [a0] (.a (.a aq ai) ai) (.a (.a (.a (.a (.a aq ai) ai) ai) ai) ai) rfl)⟩,⟨dZ (aw [a0] (.a (.n 123) ai) aq (.a (.n 123) ai) aa h0 rfl),dZ (aw [a0] (.a (.n 123) ai) (.a aq ai) (.a (.n 123) ai) aa h0 rfl)⟩⟩⟩⟩⟩
theorem DU (h0:(123:Nat)<a0):a0+1≠a0+1+1+1/\a0+1+1≠a0+1+1+1/\a0+1+1+1+1≠a0+1+1+1/\a0+1+1+1+1+1≠a0+1+1+1/\a0+1+1+1+1+1+1≠a0+1+1+1/\(123:Nat)≠a0+1+1+1:=⟨dZ (bt [a0] (.a aq ai) (.a (.a aq ai) ai) rfl),⟨dZ (bt [a0] (.a (.a aq ai) ai) (.a (.a aq ai) ai) rfl),⟨cQ (bt [a0] (.a (.a (.a aq ai) ai) ai) (.a (.a (.a aq ai) ai) ai) rfl),⟨cQ (bt [a0] (.a (.a (.a aq ai) ai) ai) (.a (.a (.a (.a aq ai) ai) ai) ai) rfl),⟨cQ (bt [a0] (.a (.a (.a aq ai) ai) ai) (.a (.a (.a (.a (.a aq ai) ai) ai) ai) ai) rfl),dZ (aw [a0] (.a (.n 123) ai) (.a (.a aq ai) ai) (.a (.n 123) ai) aa h0 rfl)⟩⟩⟩⟩⟩
theorem DT (h0:a0+1+1+1+1+1+1<a1) (h1:a0+1+1+1+1+1+1=a1):False:=cf (aA [a0,a1] ai aK (.a (.a (.a (.a (.a (.a aq ai) ai) ai) ai) ai) ai) ab ab (.a (.a (.a (.a (.a aq ai) ai) ai) ai) ai) h0 (aF h1) rfl)
theorem DS (h0:a0+1+1+1+1+1+1=a0+1):False:=cf (aw [a0] ai aK (.a (.a (.a (.a (.a aq ai) ai) ai) ai) ai) aq (az h0) rfl)
theorem DR (h0:a0+1+1+1+1+1+1=a0+1+1):False:=cf (aw [a0] ai aK (.a (.a (.a (.a (.a aq ai) ai) ai) ai) ai) (.a aq ai) (az h0) rfl)
theorem DQ (h0:a0+1+1+1+1+1+1=a0+1+1+1):False:=cf (aw [a0] ai aK (.a (.a (.a (.a (.a aq ai) ai) ai) ai) ai) (.a (.a aq ai) ai) (az h0) rfl)
theorem DP (h0:a0+1+1+1+1+1+1=a0+1+1+1+1):False:=cf (aw [a0] ai aK (.a (.a (.a (.a (.a aq ai) ai) ai) ai) ai) (.a (.a (.a aq ai) ai) ai) (az h0) rfl)
theorem DO (h0:a0+1+1+1+1+1+1=a0+1+1+1+1+1):False:=cf (aw [a0] ai aK (.a (.a (.a (.a (.a aq ai) ai) ai) ai) ai) (.a (.a (.a (.a aq ai) ai) ai) ai) (az h0) rfl)
theorem DN (h0:a0+1+1+1+1+1+1=123) (h1:(123:Nat)<a0):False:=cf (aA [a0] ai aK (.a (.a (.a (.a (.a aq ai) ai) ai) ai) ai) (.n 123) (.a (.n 123) ai) aa (az h0) h1 rfl)
theorem DM (h0:a1<=6) (h1:a0<=a1):a0<=20:=aA [a0,a1] aa (.n 20) ab (.n 6) aa ab h0 h1 rfl
theorem rI (h0:a0=a1) (h1:a1<=8*a2) (h2:a2<=6):a0<=100:=bp [a0,a1,a2] aa (.n 100) aa ab ab (.m 8 ae) (.m 8 ae) (.m 8 (.n 6)) (az h0) h1 (Nat.mul_le_mul_left 8 h2) rfl
theorem DK (h0:a1+a0=a2) (h1:a3<=6) (h2:a2<=a3):a0<=6:=bp [a0,a1,a2,a3] aa (.n 6) (.a ab aa) ae av (.n 6) ae av (az h0) h1 h2 rfl
theorem DJ (h0:a0<=6):8*a0+6<=100:=aw [a0] (.a (.m 8 aa) (.n 6)) (.n 100) (.m 8 aa) (.m 8 (.n 6)) (Nat.mul_le_mul_left 8 h0) rfl
theorem DI (h0:a0=a1) (h1:a1<=6):a0<=20:=aA [a0,a1] aa (.n 20) aa ab ab (.n 6) (az h0) h1 rfl
theorem DH (h0:¬(((63:Nat):Int)<(a0:Int))):a0<=63:=Nat.le_of_not_lt fun h=>h0 (Int.ofNat_lt.mpr h)
theorem DG:a0<=a1+a0:=bt [a0,a1] aa (.a ab aa) rfl
theorem DF (h0:(0:Int)<=x0):x0=0+((Int.toNat x0:Nat):Int):=((Int.zero_add _).trans (Int.toNat_of_nonneg h0)).symm
theorem DE (h0:x0<3):x0<2 ^ 62:=Int.lt_trans h0 (by decide)
theorem li (h0:a0=a1+1):a0<=a1+1:=aw [a0,a1] aa aD aa aD (az h0) rfl
theorem rH (h0:a0=a1+2):a0<=a1+2:=aw [a0,a1] aa (.a ab (.n 2)) aa (.a ab (.n 2)) (az h0) rfl
theorem DD (h0:a0=a1):a0<=a1:=aw [a0,a1] aa ab aa ab (az h0) rfl
theorem rG:(0:Int)<=(a0:Int):=Int.natCast_nonneg _
theorem DC (h0:a0<1000000):(a0:Int)<2 ^ 63:=jo (aw [a0] aq (.n 9223372036854775808) aq (.n 1000000) h0 rfl)
theorem DB (h0:a1<a0):(a0:Int)≠0:=by lia
theorem DA (h0:(a0:Int)≠0):(0:Nat)<a0:=Nat.pos_of_ne_zero fun h=>h0 (by rw [h];rfl)
theorem rF (h0:a0<a1) (h1:a1<=6):a0<1000000:=aA [a0,a1] aq (.n 1000000) aq ab ab (.n 6) h0 h1 rfl
theorem Dz (h0:a0=a2) (h1:a1=a3) (h2:a2<=33) (h3:a3<=33):a0+a1<=16777216:=cS [a0,a1,a2,a3] (.a aa ab) (.n 16777216) aa ae ab av ae (.n 33) av (.n 33) (az h0) (az h1) h2 h3 rfl
theorem Dy (h0:a0=a1+(min a2 a3)) (h1:a1<=500) (h2:a3<=66):a0<=1000:=cS [a0,a1,a2,a3,min a2 a3] aa (.n 1000) aa (.a ab aJ) ab (.n 500) av (.n 66) aJ av (az h0) h1 h2 (Nat.min_le_right a2 a3) rfl
theorem Dx (h0:a0<=1000):(a0:Int)<9223372036854775808:=jn (aw [a0] aq (.n 9223372036854775808) aa (.n 1000) h0 rfl)
theorem i5 (h0:a0<6):a0<1000000:=aw [a0] aq (.n 1000000) aq (.n 6) h0 rfl
theorem rE (h0:a0=(min a1 a2)):a0<=a1:=aA [a0,a1,a2,min a1 a2] aa ab aa av av ab (az h0) (Nat.min_le_left a1 a2) rfl
theorem lh (h0:a0<(min a2 a1)):a0<a1:=aA [a0,a1,a2,min a2 a1] aq ab aq av av ab h0 (Nat.min_le_right a2 a1) rfl
theorem i4 (h0:a0<(min a1 a2)):a0<a1:=aA [a0,a1,a2,min a1 a2] aq ab aq av av ab h0 (Nat.min_le_left a1 a2) rfl
theorem Dw (h0:a0<=1000):a0<=1000:=aw [a0] aa (.n 1000) aa (.n 1000) h0 rfl
theorem Dv (h0:a1<=900) (h1:a0<=a1):a0<=100000:=aA [a0,a1] aa (.n 100000) ab (.n 900) aa ab h0 h1 rfl
theorem Du (h0:a0=a1) (h1:a1=a2) (h2:a2<=1000):(a0:Int)<9223372036854775808:=jn (bp [a0,a1,a2] aq (.n 9223372036854775808) aa ab ab ae ae (.n 1000) (az h0) (az h1) h2 rfl)
theorem Dt (h0:a0=a1) (h1:a1<=1000):(a0:Int)<9223372036854775808:=jn (aA [a0,a1] aq (.n 9223372036854775808) aa ab ab (.n 1000) (az h0) h1 rfl)
theorem Ds (h0:a0=a2) (h1:a2=a3) (h2:a1=a3):a0=a1:=aY (bp [a0,a1,a2,a3] aa ab aa ae ae av av ab (az h0) (az h1) (aF h2) rfl) (bp [a0,a1,a2,a3] ab aa ae aa av ae ab av (aF h0) (aF h1) (az h2) rfl)
theorem nR (h0:a0=a1) (h1:a1<=40):a0<=100000:=aA [a0,a1] aa (.n 100000) aa ab ab (.n 40) (az h0) h1 rfl
theorem Dr (h0:a0=a1) (h1:a1<=10):a0<=100000:=aA [a0,a1] aa (.n 100000) aa ab ab (.n 10) (az h0) h1 rfl
theorem Dq (h0:a0=a1) (h1:a1<=40):a0<=16777216:=aA [a0,a1] aa (.n 16777216) aa ab ab (.n 40) (az h0) h1 rfl
theorem Dp (h0:a0<a1) (h1:a1<=40):a0<1000000:=aA [a0,a1] aq (.n 1000000) aq ab ab (.n 40) h0 h1 rfl
theorem Do (h0:a1<=100) (h1:a0<=100000):a0+a1<=1048576:=aA [a0,a1] (.a aa ab) (.n 1048576) ab (.n 100) aa (.n 100000) h0 h1 rfl
theorem nQ:¬((a0:Int)<0):=by lia
theorem Dm:(min (Int.toNat (a0:Int)) (a0+a1))=a0:=Nat.min_eq_left (Nat.le_add_right _ _)
theorem Dl:a0<=a1+a0 - a1:=aw [a0,a1,a1+a0 - a1] aa ae (.a ab aa) (.a ae ab) (bg (a1+a0) a1) rfl
theorem Dk (h0:a1=a2) (h1:a2<=10) (h2:a0<=200):a0+a1<=16777216:=bp [a0,a1,a2] (.a aa ab) (.n 16777216) ab ae ae (.n 10) aa (.n 200) (az h0) h1 h2 rfl
theorem Dj (h0:a1<=10) (h1:a0<=100000):a0+a1<=1048576:=aA [a0,a1] (.a aa ab) (.n 1048576) ab (.n 10) aa (.n 100000) h0 h1 rfl
theorem Di (h0:a0=a1) (h1:a1<=20):(a0:Int)<9223372036854775808:=jn (aA [a0,a1] aq (.n 9223372036854775808) aa ab ab (.n 20) (az h0) h1 rfl)
theorem Dh (h0:a0<=20):(a0:Int)<2 ^ 62:=sJ (aw [a0] aq (.n 4611686018427387904) aa (.n 20) h0 rfl)
theorem Dg (h0:a0+a1=a2) (h1:a1=a2):a0=0:=aY (aA [a0,a1,a2] aa aK (.a aa ab) ae ae ab (az h0) (aF h1) rfl) (bt [a0,a1,a2] aK aa rfl)
theorem Df (h0:a0+a1=a2) (h1:a3<a2) (h2:a1=a3):a0=a0 - 1+1:=aY (aw [a0,a1,a2,a3,a0 - 1] aa dc aa dc (bg a0 1) rfl) (aw [a0,a1,a2,a3,a0 - 1] dc aa dc aa (bb (x:=a0) (y:=1) (bp [a0,a1,a2,a3,a0 - 1] ai aa ae (.a aa ab) bB ae ab av (aF h0) h1 (az h2) rfl)) rfl)
theorem hW (h0:a0+1+a2=a3) (h1:a1=a3+1):a0+1<a1:=aA [a0,a1,a2,a3] (.a aq ai) ab (.a aq ae) av bB ab (az h0) (aF h1) rfl
theorem nN (h0:a0+1+a2=a3) (h1:a1=a3+2):a0+2<a1:=aA [a0,a1,a2,a3] (.a (.a aa (.n 2)) ai) ab (.a aq ae) av (.a av (.n 2)) ab (az h0) (aF h1) rfl
theorem De (h0:a1<1000) (h1:a1=a2+a0):a0<1000:=aA [a0,a1,a2] aq (.n 1000) aD (.n 1000) (.a ae aa) ab h0 (aF h1) rfl
theorem Dc (h0:a1+1+a2=a3) (h1:a0=a4+a2) (h2:a5=a4) (h3:a5<=100) (h4:a3<=20):a0<=1000:=gG [a0,a1,a2,a3,a4,a5] aa (.n 1000) (.a aD ae) av aa (.a aJ ae) aJ bG bG (.n 100) av (.n 20) (az h0) (az h1) (aF h2) h3 h4 rfl
theorem rD (h0:a1=a2+1) (h1:a2<=20):(min (a0+1) a1)<=1000:=bp [a0,a1,a2,min (a0+1) a1] av (.n 1000) ab bn ae (.n 20) av ab (az h0) h1 (Nat.min_le_right (a0+1) a1) rfl
theorem Db (h0:a1=a2+2) (h1:a2<=20):(min (a0+2) a1)<=1000:=bp [a0,a1,a2,min (a0+2) a1] av (.n 1000) ab (.a ae (.n 2)) ae (.n 20) av ab (az h0) h1 (Nat.min_le_right (a0+2) a1) rfl
theorem Da (h0:a1<1000) (h1:a0<=a1):a0<=100000:=aA [a0,a1] aa (.n 100000) aD (.n 1000) aa ab h0 h1 rfl
theorem C9 (h0:a1+1+a2=a3) (h1:a0=a4+a2) (h2:a5=a4) (h3:a5<=100) (h4:a3<=20):a0<=200:=gG [a0,a1,a2,a3,a4,a5] aa (.n 200) (.a aD ae) av aa (.a aJ ae) aJ bG bG (.n 100) av (.n 20) (az h0) (az h1) (aF h2) h3 h4 rfl
theorem C8 (h0:a0=a1):a0+1=a1+1:=aY (aw [a0,a1] aq aD aa ab (az h0) rfl) (aw [a0,a1] aD aq ab aa (aF h0) rfl)
theorem C7 (h0:a0+1+a1=a2):a0+(a1+1)=a2:=aY (aw [a0,a1,a2] (.a aa aD) ae (.a aq ab) ae (az h0) rfl) (aw [a0,a1,a2] ae (.a aa aD) ae (.a aq ab) (aF h0) rfl)
theorem C6:x0=x0 / 2*2+x0 % 2:=by lia
theorem C5 (h0:x0 % 2=0):x0 / 2*2=x0:=by lia
theorem C4 (h0:x0 % 2=1):x0 / 2*2=x0 - 1:=by lia
theorem C3:x0+x1 - 2*x1=x0 - x1:=by lia
theorem C1 (h0:(Int.natAbs x1)<2 ^ 100) (h1:x0+x2=x1) (h2:(0:Int)<=x2) (h3:x2<x3) (h4:x3<=2 ^ 32):(Int.natAbs x0)<2 ^ 200:=by
 rw [<-Int.add_neg_cancel_right x0 x2,h1];exact Nat.lt_of_le_of_lt (nB (Nat.le_of_lt h0) (by rw [Int.natAbs_neg];exact nP h2 (Int.le_of_lt (Int.lt_of_lt_of_le h3 h4)))) (by decide)
theorem C0 (h0:a1=2) (h1:a2=a3) (h2:a0<=1) (h3:a3<=50):a0+a1+a2<=53:=cS [a0,a1,a2,a3] (.a (.a aa ab) ae) (.n 53) ab (.n 2) ae av aa ai av (.n 50) (az h0) (az h1) h2 h3 rfl
theorem CZ (h0:a0<=100):a0<200:=aw [a0] aq (.n 200) aa (.n 100) h0 rfl
theorem CY (h0:a0+1<=32):a0<=32:=aw [a0] aa (.n 32) aq (.n 32) h0 rfl
theorem CX (h0:a0+1<=32):a0<=100:=aw [a0] aa (.n 100) aq (.n 32) h0 rfl
theorem CW (h0:a0<=60*a2) (h1:a1<=60) (h2:a3<=a2):a0+a1<=60*(a2+1)/\a3<=a2:=⟨aA [a0,a1,a2,a3] (.a aa ab) (.m 60 bn) aa (.m 60 ae) ab (.n 60) h0 h1 rfl,aw [a0,a1,a2,a3] av ae av ae h2 rfl⟩
theorem CV (h0:a0<=60*a1) (h1:a2<=a1):a0<=60*(a1+1)/\a2<=a1+1:=⟨aw [a0,a1,a2] aa (.m 60 aD) aa (.m 60 ab) h0 rfl,aw [a0,a1,a2] ae aD ae ab h1 rfl⟩
theorem CU (h0:(1:Int)<=x0) (h1:x1=x2*4294967296) (h2:x1=x0) (h3:x0<=512):False:=by omega
theorem CT (h0:x0=0):x0 - 0=0:=by lia
theorem CS (h0:a0<32):a0+1+(31 - a0)=32:=aY (aw [a0,31 - a0] (.a aq ab) (.n 32) (.a ab aa) (.n 31) (bb (x:=31) (y:=a0) (aw [a0,31 - a0] aa (.n 31) aq (.n 32) h0 rfl)) rfl) (aw [a0,31 - a0] (.n 32) (.a aq ab) (.n 31) (.a ab aa) (bg 31 a0) rfl)
theorem CR:x0 - 0=x0:=by lia
theorem CQ:(Int.toNat (max 0 (a0:Int)))=a0:=by rw [Int.max_eq_right (Int.natCast_nonneg _)];rfl
theorem CP (h0:a0=a1+2):(-(a0:Int))<=(-1):=Int.neg_le_neg (Int.ofNat_le.mpr (by rw [h0];exact Nat.succ_le_succ (Nat.zero_le _)))
theorem CO (h0:a0=a1+2):(Int.toNat ((-1)+(a0:Int)))=a1+1:=by subst h0;exact congrArg Int.toNat ((Int.add_comm _ _).trans (Int.add_neg_cancel_right ((a1+1:Nat):Int) 1))
theorem CN (h0:a0=a1) (h1:a1<=1000000):(a0:Int)<2 ^ 63:=jo (aA [a0,a1] aq (.n 9223372036854775808) aa ab ab (.n 1000000) (az h0) h1 rfl)
theorem CM (h0:a0<=1000000):a0+2<=16777216:=aw [a0] (.a aa (.n 2)) (.n 16777216) aa (.n 1000000) h0 rfl
theorem CK (h0:a0=a1+(0+1)+1):a0=a1+2:=aY (aw [a0,a1] aa (.a ab (.n 2)) aa (.a (.a ab (.a aK ai)) ai) (az h0) rfl) (aw [a0,a1] (.a ab (.n 2)) aa (.a (.a ab (.a aK ai)) ai) aa (aF h0) rfl)
theorem CJ:¬((0:Int)>(a0:Int)):=by lia
theorem CI (h0:a0<a2) (h1:a2=a1+(0+1)+1):a0<a1+(0+1)+1:=aA [a0,a1,a2] aq (.a (.a ab (.a aK ai)) ai) aq ae ae (.a (.a ab (.a aK ai)) ai) h0 (az h1) rfl
theorem CH:a0<=a1\/a1<a0:=(Nat.lt_or_ge a1 a0).symm
theorem CG (h0:a1=a0+(0+1)+1):a0+(0+1)+1<=a1:=aw [a0,a1] (.a (.a aa (.a aK ai)) ai) ab (.a (.a aa (.a aK ai)) ai) ab (aF h0) rfl
theorem CF (h0:a0<=1000):a0<=1000000:=aw [a0] aa (.n 1000000) aa (.n 1000) h0 rfl
theorem CE (h0:a0<32):a0<=32:=aw [a0] aa (.n 32) aq (.n 32) h0 rfl
theorem CC (h0:a2<32) (h1:a0<=60*a2) (h2:a1<=a2):a0+a1<=1048576:=bp [a0,a1,a2] (.a aa ab) (.n 1048576) (.m 61 bn) (.m 61 (.n 32)) aa (.m 60 ae) ab ae (Nat.mul_le_mul_left 61 h0) h1 h2 rfl
theorem CB (h0:a3<32) (h1:a0<=60*a3) (h2:a1<=60) (h3:a2<=a3):a0+a1+(a2+(0+1))<=1048576:=cS [a0,a1,a2,a3] (.a (.a aa ab) (.a ae (.a aK ai))) (.n 1048576) (.m 61 bB) (.m 61 (.n 32)) aa (.m 60 av) ab (.n 60) ae av (Nat.mul_le_mul_left 61 h0) h1 h2 h3 rfl
theorem CA (h0:a0<=60*32) (h1:a2<=32) (h2:a1<=53):a0+a1+(a2+(0+1))<=1048576:=bp [a0,a1,a2] (.a (.a aa ab) (.a ae (.a aK ai))) (.n 1048576) aa (.m 60 (.n 32)) ae (.n 32) ab (.n 53) h0 h1 h2 rfl
theorem rC (h0:a1+1<=a0):a0 - (a1+1)<a0:=aw [a0,a1,a0 - (a1+1)] bn aa (.a ae aD) aa (bb (x:=a0) (y:=(a1+1)) (aw [a0,a1,a0 - (a1+1)] aD aa aD aa h0 rfl)) rfl
theorem Cz (h0:((-2 ^ 62):Int)<=x0) (h1:x1<2 ^ 62) (h2:x1=x0+(a2:Int)):(((((-9223372036854775808):Int)<=x0/\x0<9223372036854775808)/\((-9223372036854775808):Int)<=x1/\x1<9223372036854775808)/\(a2:Int)<9223372036854775808)/\(a2=0\/((-9223372036854775808):Int)<=x1/\x1<9223372036854775808):=have g:x0<=x1:=h2▸Int.le_add_of_nonneg_right (Int.natCast_nonneg a2)
 ⟨⟨⟨⟨Int.le_trans (by decide) h0,Int.lt_of_le_of_lt g (Int.lt_trans h1 (by decide))⟩,Int.le_trans (by decide) (Int.le_trans h0 g),Int.lt_trans h1 (by decide)⟩,Int.lt_of_add_lt_add_left (a:=x0) (Int.lt_of_lt_of_le (Int.lt_of_lt_of_le (h2▸h1) (by decide:(2:Int) ^ 62<= -2 ^ 62+9223372036854775808)) (Int.add_le_add_right h0 _))⟩, .inr ⟨Int.le_trans (by decide) (Int.le_trans h0 g),Int.lt_trans h1 (by decide)⟩⟩
theorem Cx (h0:a1<a0):(0:Int)<(a0:Int) - (a1:Int):=Int.sub_pos_of_lt (Int.ofNat_lt.mpr h0)
theorem Cw:x0+(a1:Int)+1=x0+((a1+1:Nat):Int):=by lia
theorem Cv:(a0:Int) - (a1:Int) - 1=(a0:Int) - ((a1+1:Nat):Int):=by lia
theorem Cu:(a0:Int) - (a0:Int)<=0:=by lia
theorem Cs (h0:a1=2) (h1:a2=a3) (h2:a0<=1) (h3:a3<=50):a0+a1+a2<=16777216:=cS [a0,a1,a2,a3] (.a (.a aa ab) ae) (.n 16777216) ab (.n 2) ae av aa ai av (.n 50) (az h0) (az h1) h2 h3 rfl
theorem Cr:(1:Int)<=(a0:Int)+1:=by lia
theorem Cq:(Int.toNat ((-1)+((a0:Int)+1)))=a0:=congrArg Int.toNat ((Int.add_comm _ _).trans (Int.add_neg_cancel_right (a0:Int) 1))
theorem rB (h0:(2:Nat)<=a0):(1:Nat)<=a0:=aw [a0] ai aa (.n 2) aa h0 rfl
theorem lg (h0:¬(a0<2)):(2:Nat)<=a0:=aw [a0] (.n 2) aa (.n 2) aa (Nat.le_of_not_lt h0) rfl
theorem Cp (h0:a0+a1<=1000000):a0+a1<=16777216:=aw [a0,a1] (.a aa ab) (.n 16777216) (.a aa ab) (.n 1000000) h0 rfl
theorem rA (h0:a0+a1<=1000000):a0<=16777216:=aw [a0,a1] aa (.n 16777216) (.a aa ab) (.n 1000000) h0 rfl
theorem rz (h0:a0+a1<=1000000):a0+a1<=16777216+1:=aw [a0,a1] (.a aa ab) (.a (.n 16777216) ai) (.a aa ab) (.n 1000000) h0 rfl
theorem Cn:(-((a0+1:Nat):Int))<=(-1):=by lia
theorem Cm:(Int.toNat ((-1)+((a0+1:Nat):Int) - 0))=a0:=by lia
theorem ry (h0:a0<=40):a0<=100000:=aw [a0] aa (.n 100000) aa (.n 40) h0 rfl
theorem lf (h0:a0<=500):a0<=1000:=aw [a0] aa (.n 1000) aa (.n 500) h0 rfl
theorem lc (h0:a0=a1) (h1:a1<=40):a0<64:=aA [a0,a1] aq (.n 64) aa ab ab (.n 40) (az h0) h1 rfl
theorem rx (h0:a0=a1) (h1:a1=a2) (h2:a2<=40):a0<=100000:=bp [a0,a1,a2] aa (.n 100000) aa ab ab ae ae (.n 40) (az h0) (az h1) h2 rfl
theorem Ck (h0:a2=a3) (h1:a3=a4) (h2:a0=a2) (h3:a5=a6) (h4:a6=a7) (h5:a1=a5) (h6:a4<=40) (h7:a7<=40):a0+a1<=1000000:=Gs [a0,a1,a2,a3,a4,a5,a6,a7] (.a aa ab) (.n 1000000) ae av av aJ aa ae bG dW dW im ab bG aJ (.n 40) im (.n 40) (az h0) (az h1) (az h2) (az h3) (az h4) (az h5) h6 h7 rfl
theorem Cj:a0+1+1 - a0 - 1=1:=aY (aA [a0,a0+1+1 - a0 - 1,a0+1+1 - a0] ab ai aD ae (.a ae aa) (.a aq ai) (bb (x:=(a0+1+1 - a0)) (y:=1) (aw [a0,a0+1+1 - a0 - 1,a0+1+1 - a0] ai ae (.a aq ai) (.a ae aa) (bg (a0+1+1) a0) rfl)) (bb (x:=(a0+1+1)) (y:=a0) (bt [a0,a0+1+1 - a0 - 1,a0+1+1 - a0] aa (.a aq ai) rfl)) rfl) (aA [a0,a0+1+1 - a0 - 1,a0+1+1 - a0] ai ab ae aD (.a aq ai) (.a ae aa) (bg (a0+1+1 - a0) 1) (bg (a0+1+1) a0) rfl)
theorem Ch:(1:Nat)<=a0+2:=bt [a0] ai (.a aa (.n 2)) rfl
theorem Cg:a0+2 - a0 - 1=1:=aY (aA [a0,a0+2 - a0 - 1,a0+2 - a0] ab ai aD ae (.a ae aa) (.a aa (.n 2)) (bb (x:=(a0+2 - a0)) (y:=1) (aw [a0,a0+2 - a0 - 1,a0+2 - a0] ai ae (.a aa (.n 2)) (.a ae aa) (bg (a0+2) a0) rfl)) (bb (x:=(a0+2)) (y:=a0) (bt [a0,a0+2 - a0 - 1,a0+2 - a0] aa (.a aa (.n 2)) rfl)) rfl) (aA [a0,a0+2 - a0 - 1,a0+2 - a0] ai ab ae aD (.a aa (.n 2)) (.a ae aa) (bg (a0+2 - a0) 1) (bg (a0+2) a0) rfl)
theorem rv (h0:a0+0=a1):a0<=a1:=aw [a0,a1] aa ab (.a aa aK) ab (az h0) rfl
theorem Cf (h0:a2+0=a3) (h1:a2<a3):a0<a1:=cf (aA [a0,a1,a2,a3] ai aK av (.a ae aK) bn av (aF h0) h1 rfl)
theorem fY (h0:a0+(a2+1)=a1):a0<a1:=aw [a0,a1,a2] aq ab (.a aa bn) ab (az h0) rfl
theorem iZ (h0:a0+(a2+1)=a1):a0 - 1<a1:=aA [a0,a1,a2,a0 - 1] bB ab (.a aa bn) ab av aa (az h0) (Nat.sub_le a0 1) rfl
theorem ru (h0:(1:Nat)<=a0):a0≠a0 - 1:=cQ (aw [a0,a0 - 1] aD aa aD aa (bb (x:=a0) (y:=1) (aw [a0,a0 - 1] ai aa ai aa h0 rfl)) rfl)
theorem rt (h0:a0+(a2+1)=a1):a0<=a1:=aw [a0,a1,a2] aa ab (.a aa bn) ab (az h0) rfl
theorem rq (h0:(1:Nat)<=a0) (h1:a0=a0 - 1):False:=cf (aA [a0,a0 - 1] ai aK aa ab aD aa (az h1) (bb (x:=a0) (y:=1) (aw [a0,a0 - 1] ai aa ai aa h0 rfl)) rfl)
theorem nK:(1:Nat)<=a0+1:=bt [a0] ai aq rfl
theorem kZ (h0:a0+(a1+1)=a2):a0+1+a1=a2:=aY (aw [a0,a1,a2] (.a aq ab) ae (.a aa aD) ae (az h0) rfl) (aw [a0,a1,a2] ae (.a aq ab) ae (.a aa aD) (aF h0) rfl)
theorem nJ (h0:a0+1<=a1):a0<=a1:=aw [a0,a1] aa ab aq ab h0 rfl
theorem nH (h0:a0<a1+1) (h1:¬(a0<a1)):a0=a1:=aY (aw [a0,a1] aa ab aq aD h0 rfl) (aw [a0,a1] ab aa ab aa (Nat.le_of_not_lt h1) rfl)
theorem nG (h0:a1≠a0) (h1:¬(a1<a0)):a0<a1:=Nat.lt_of_le_of_ne (Nat.le_of_not_lt h1) (Ne.symm h0)
theorem rp (h0:a0<a1) (h1:¬(a0=a1 - 1)):a0<a1 - 1:=Nat.lt_of_le_of_ne (Nat.le_sub_one_of_lt h0) h1
theorem ro (h0:(1:Nat)<=a0):a0 - 1<a0:=aw [a0,a0 - 1] aD aa aD aa (bb (x:=a0) (y:=1) (aw [a0,a0 - 1] ai aa ai aa h0 rfl)) rfl
theorem rn (h0:a0<a2) (h1:¬(a1<a2)):a0<a1:=aA [a0,a1,a2] aq ab aq ae ae ab h0 (Nat.le_of_not_lt h1) rfl
theorem Cd (h0:a0<a1):a0<a1:=aw [a0,a1] aq ab aq ab h0 rfl
theorem Cc (h0:a0<a2) (h1:a2<a1):a0<a1:=aA [a0,a1,a2] aq ab aq ae bn ab h0 h1 rfl
theorem Cb (h0:(1:Nat)<=a0):a0 - 1≠a0:=dZ (aw [a0,a0 - 1] aD aa aD aa (bb (x:=a0) (y:=1) (aw [a0,a0 - 1] ai aa ai aa h0 rfl)) rfl)
theorem nF (h0:a0<=a1):a0+(a1 - a0)=a1:=aY (aw [a0,a1,a1 - a0] (.a aa ae) ab (.a ae aa) ab (bb (x:=a1) (y:=a0) (aw [a0,a1,a1 - a0] aa ab aa ab h0 rfl)) rfl) (aw [a0,a1,a1 - a0] ab (.a aa ae) ab (.a ae aa) (bg a1 a0) rfl)
theorem B9 (h0:a0<a2) (h1:a2<a1):(0:Nat)<=a0/\a0<a1:=⟨bt [a0,a1,a2] aK aa rfl,aA [a0,a1,a2] aq ab aq ae bn ab h0 h1 rfl⟩
theorem B8 (h0:a0<a1):(0:Nat)<=a0/\a0<a1:=⟨bt [a0,a1] aK aa rfl,aw [a0,a1] aq ab aq ab h0 rfl⟩
theorem B7 (h0:a2<a1) (h1:a1<a0):0+a0 - 1 - a1<0+a0 - 1 - a2:=bp [a0,a1,a2,0+a0 - 1 - a1,0+a0 - 1 - a2,0+a0 - 1] bB aJ bn ab bG (.a aJ ae) (.a av ab) bG h0 (bg (0+a0 - 1) a2) (bb (x:=(0+a0 - 1)) (y:=a1) (aA [a0,a1,a2,0+a0 - 1 - a1,0+a0 - 1 - a2,0+a0 - 1] ab bG aD aa (.a aK aa) fv h1 (bg (0+a0) 1) rfl)) rfl
theorem B6 (h0:a2<a0):0+a0 - 1 - a1<a0:=(Nat.le_total a1 (0+a0 - 1)).elim (fun z0=>aA [a0,a1,a2,0+a0 - 1 - a1,0+a0 - 1] bB aa av aJ dc (.a aK aa) (Nat.sub_le (0+a0 - 1) a1) (bb (x:=(0+a0)) (y:=1) (aw [a0,a1,a2,0+a0 - 1 - a1,0+a0 - 1] ai (.a aK aa) bn aa h0 rfl)) rfl) fun z0=>aA [a0,a1,a2,0+a0 - 1 - a1,0+a0 - 1] bB aa bn aa av aK h0 (dM z0) rfl
theorem B5 (h0:a0+1<=a1):a0+1+(a1 - (a0+1))=a1:=aY (aw [a0,a1,a1 - (a0+1)] (.a aq ae) ab (.a ae aq) ab (bb (x:=a1) (y:=(a0+1)) (aw [a0,a1,a1 - (a0+1)] aq ab aq ab h0 rfl)) rfl) (aw [a0,a1,a1 - (a0+1)] ab (.a aq ae) ab (.a ae aq) (bg a1 (a0+1)) rfl)
theorem B4 (h0:a1+1<=a0):(1:Nat)<=a0:=aw [a0,a1] ai aa aD aa h0 rfl
theorem B3 (h0:(1:Nat)<=a0):1+(a0 - 1)=a0:=aY (aw [a0,a0 - 1] (.a ai ab) aa aD aa (bb (x:=a0) (y:=1) (aw [a0,a0 - 1] ai aa ai aa h0 rfl)) rfl) (aw [a0,a0 - 1] aa (.a ai ab) aa aD (bg a0 1) rfl)
theorem rm (h0:a2<1) (h1:a3<a2):a0<a1:=cf (aA [a0,a1,a2,a3] ai aK bn ai bB ae h0 h1 rfl)
theorem B1 (h0:(1:Nat)<=a0):(0:Nat)<a0:=aw [a0] (.a aK ai) aa ai aa h0 rfl
theorem BZ (h0:(1:Nat)<=a0) (h1:a0<=a1):a0 - 1<a1:=aA [a0,a1,a0 - 1] bn ab aa ab bn aa h1 (bb (x:=a0) (y:=1) (aw [a0,a1,a0 - 1] ai aa ai aa h0 rfl)) rfl
theorem BY (h0:a0>1):(0:Nat)≠a0 - 1:=dZ (aA [a0,a0 - 1] (.a aK ai) ab (.a ai ai) aa aa aD h0 (bg a0 1) rfl)
theorem BX (h0:a0>1):(0:Nat)<a0 - 1:=aA [a0,a0 - 1] (.a aK ai) ab (.a ai ai) aa aa aD h0 (bg a0 1) rfl
theorem BW (h0:a0>1):a0 - 1<a0:=aw [a0,a0 - 1] aD aa aD aa (bb (x:=a0) (y:=1) (aw [a0,a0 - 1] ai aa (.a ai ai) aa h0 rfl)) rfl
theorem BV (h0:(1:Nat)<=a0) (h1:¬(a0>1)):a0=1:=Nat.le_antisymm (Nat.le_of_not_lt h1) h0
theorem BU (h0:(1:Nat)<=a0) (h1:¬((1:Nat)=a0)):(1+1:Nat)<=a0:=Nat.lt_of_le_of_ne h0 h1
theorem BT (h0:a1<1+1) (h1:a0<a1):a0=0:=aY (aA [a0,a1] aa aK aD (.a ai ai) aq ab h0 h1 rfl) (bt [a0,a1] aK aa rfl)
theorem BS (h0:(0:Nat)<a0) (h1:a0<1+1):a0=1:=aY (aw [a0] aa ai aq (.a ai ai) h1 rfl) (aw [a0] ai aa (.a aK ai) aa h0 rfl)
theorem BR (h0:(1:Nat)<=a0) (h1:¬((1:Nat)=a0)):(1:Nat)<a0:=by lia
theorem BQ (h0:a0 - a2<=0) (h1:a2<=a1):a0<=a1:=bp [a0,a1,a2,a0 - a2] aa ab av aK ae ab aa (.a av ae) h0 h1 (bg a0 a2) rfl
theorem BP (h0:a2<=a1) (h1:a2>=a0):a0<=a1:=aA [a0,a1,a2] aa ab ae ab aa ae h0 h1 rfl
theorem rj (h0:a3<a2) (h1:a0<=a1) (h2:a1<=a3):(a0+a1) / 2<a2:=Nat.div_lt_of_lt_mul (by rw [Nat.two_mul];exact Nat.add_lt_add (Nat.lt_of_le_of_lt (Nat.le_trans h1 h2) h0) (Nat.lt_of_le_of_lt h2 h0))
theorem BO (h0:a2<=a0) (h1:¬(a1>=a2)):a0≠(a1+a2) / 2:=fun h=>Nat.not_lt.mpr h0 (h▸Nat.div_lt_of_lt_mul (by rw [Nat.two_mul];exact Nat.add_lt_add_right (Nat.not_le.mp h1) _))
theorem BN (h0:¬(a0>=a1)):a0<=(a0+a1) / 2:=(Nat.le_div_iff_mul_le (by decide)).mpr (by rw [Nat.mul_two];exact Nat.add_le_add_left (Nat.le_of_lt (Nat.not_le.mp h0)) _)
theorem BM (h0:a0<=a1) (h1:a1<=a2):(a0+a1) / 2<=a2:=Nat.div_le_of_le_mul (by rw [Nat.two_mul];exact Nat.add_le_add (Nat.le_trans h0 h1) h1)
theorem BL (h0:a1 - a0<=a2+1):(a0+a1) / 2 - a0<=a2:=Nat.sub_le_of_le_add (Nat.le_of_lt_succ (Nat.div_lt_of_lt_mul (aw [a0,a1,a2] (.a (.a aa ab) ai) (.m 2 (.a (.a ae aa) ai)) ab (.a (.a ae ai) aa) (Nat.le_add_of_sub_le h0) rfl)))
theorem BK (h0:(a0+a1) / 2<=a2) (h1:¬(a2=(a0+a1) / 2)):(a0+a1) / 2<a2:=Nat.lt_of_le_of_ne h0 (Ne.symm h1)
theorem BJ (h0:a0=(a1+a2) / 2) (h1:a2<=a0) (h2:¬(a1>=a2)):False:=Nat.not_lt.mpr h1 (h0▸Nat.div_lt_of_lt_mul (by rw [Nat.two_mul];exact Nat.add_lt_add_right (Nat.not_le.mp h2) _))
theorem BH (h0:¬(a0>=a1)):(a0+a1) / 2+1<=a1:=Nat.div_lt_of_lt_mul (by rw [Nat.two_mul];exact Nat.add_lt_add_right (Nat.not_le.mp h0) _)
theorem BF (h0:a0 - a1<=a2+1):a0 - ((a1+a0) / 2+1)<=a2:=Nat.sub_le_of_le_add (Nat.le_of_mul_le_mul_left (aA [a0,a1,a2,(a1+a0) / 2] (.m 2 aa) (.m 2 (.a ae (.a av (.n 1)))) aa (.a (.a ae ai) ab) (.a (.a ab aa) ai) (.m 2 (.a av ai)) (Nat.le_add_of_sub_le h0) (Nat.lt_mul_div_succ (a1+a0) (by decide)) rfl) (by decide))
theorem BD (h0:a0<(a1+a2) / 2+1) (h1:¬(a0=(a1+a2) / 2)):a0<(a1+a2) / 2:=Nat.lt_of_le_of_ne (Nat.le_of_lt_succ h0) h1
theorem BC (h0:a1<=a2) (h1:¬(a0>=a1)):(a0+a1) / 2<a2:=Nat.div_lt_of_lt_mul (by rw [Nat.two_mul];exact Nat.add_lt_add_of_lt_of_le (Nat.lt_of_lt_of_le (Nat.not_le.mp h1) h0) h0)
theorem BA:(0:Nat)<=a0:=bt [a0] aK aa rfl
theorem Bz:a0 - 0<=a0:=aw [a0,a0 - 0] ab aa ab aa (Nat.sub_le a0 0) rfl
theorem By (h0:a2<0):a0<a1:=cf (aw [a0,a1,a2] ai aK bn aK h0 rfl)
theorem Bx (h0:a2<a3) (h1:a3<=a2):a0<a1:=cf (aA [a0,a1,a2,a3] ai aK bn av av ae h0 h1 rfl)
theorem ri:a0 - a1<=a0:=aw [a0,a1,a0 - a1] ae aa ae aa (Nat.sub_le a0 a1) rfl
theorem Bw (h0:a1<=a0):a0 - (a0 - a1)=a1:=aY (aA [a0,a1,a0 - (a0 - a1),a0 - a1] ae ab aa (.a av ab) (.a ae av) aa (bg a0 a1) (bb (x:=a0) (y:=(a0 - a1)) (aw [a0,a1,a0 - (a0 - a1),a0 - a1] av aa av aa (Nat.sub_le a0 a1) rfl)) rfl) (aA [a0,a1,a0 - (a0 - a1),a0 - a1] ab ae aa (.a ae av) (.a av ab) aa (bg a0 (a0 - a1)) (bb (x:=a0) (y:=a1) (aw [a0,a1,a0 - (a0 - a1),a0 - a1] ab aa ab aa h0 rfl)) rfl)
theorem Bv (h0:a2<a0) (h1:a2=a1):¬(a0=a1):=fun h=>cf (bp [a0,a1,a2] ai aK bn aa ab ae aa ab h0 (aF h1) (az h) rfl)
theorem Bu (h0:a1<a2+1) (h1:a3<a1) (h2:a3=a0):a0<a1/\a1<=a2:=⟨aA [a0,a1,a2,a3] aq ab bB ab aa av h1 (aF h2) rfl,aw [a0,a1,a2,a3] ab ae aD bn h0 rfl⟩
theorem Bs (h0:a2<a1) (h1:a2=a0):a0<=a1 - 1:=bp [a0,a1,a2,a1 - 1] aa av bn ab aa ae ab bB h0 (aF h1) (bg a1 1) rfl
theorem rh (h0:a0<a1+1) (h1:a2<a0):a0 - 1<a1:=aA [a0,a1,a2,a0 - 1] bB ab aq aD bB aa h0 (bb (x:=a0) (y:=1) (aw [a0,a1,a2,a0 - 1] ai aa bn aa h1 rfl)) rfl
theorem Br (h0:a1<a3) (h1:a3=a0):¬(a0<a1/\a1<=a2):=fun h=>cf (bp [a0,a1,a2,a3] ai aK aD av av aa aq ab h0 (az h1) h.1 rfl)
theorem Bq (h0:a1<a2+1) (h1:a3<a1) (h2:a0<a3):a0<a1/\a1<=a2:=⟨aA [a0,a1,a2,a3] aq ab bB ab aq av h1 h2 rfl,aw [a0,a1,a2,a3] ab ae aD bn h0 rfl⟩
theorem Bp (h0:a0<a1) (h1:a2<a0):a0 - 1<a1 - 1:=bp [a0,a1,a2,a0 - 1,a1 - 1] bB aJ aq ab ab dc bB aa h0 (bg a1 1) (bb (x:=a0) (y:=1) (aw [a0,a1,a2,a0 - 1,a1 - 1] ai aa bn aa h1 rfl)) rfl
theorem Bo (h0:a0<a1) (h1:a2<a1) (h2:a1<=a3) (h3:¬(a2<a0/\a0<=a3)) (h4:¬(a0=a2)):a0<a1 - 1:=
 Nat.lt_of_lt_of_le (Nat.lt_of_le_of_ne (Nat.le_of_not_lt fun h=>h3 ⟨h,Nat.le_trans (Nat.le_of_lt h0) h2⟩) h4) (Nat.le_sub_one_of_lt h1)
theorem Bn (h0:a2<a0) (h1:a0<=a1):a0 - 1<a1:=aA [a0,a1,a2,a0 - 1] bB ab aa ab bB aa h1 (bb (x:=a0) (y:=1) (aw [a0,a1,a2,a0 - 1] ai aa bn aa h0 rfl)) rfl
theorem Bm (h0:a1 - (a1 - a2)=a2) (h1:a0<a1+1) (h2:¬(a2<a0/\a0<=a1)) (h3:¬(a0=a2)):a0<a1:=Nat.lt_of_lt_of_le (Nat.lt_of_le_of_ne (Nat.le_of_not_lt fun h=>h2 ⟨h,Nat.le_of_lt_succ h1⟩) h3) (Nat.le_trans (Nat.le_of_eq h0.symm) (Nat.sub_le _ _))
theorem Bl (h0:a0<a1):(max a0 1)+(a1 - (max a0 1))=a1:=(Nat.le_total 1 a0).elim (fun z0=>aY (aw [a0,a1,max a0 1,a1 - (max a0 1)] (.a ae av) ab (.a av ae) ab (bb (x:=a1) (y:=(max a0 1)) (aA [a0,a1,max a0 1,a1 - (max a0 1)] ae ab aq ab ae aa h0 (sH z0) rfl)) rfl) (aw [a0,a1,max a0 1,a1 - (max a0 1)] ab (.a ae av) ab (.a av ae) (bg a1 (max a0 1)) rfl)) fun z0=>aY (aw [a0,a1,max a0 1,a1 - (max a0 1)] (.a ae av) ab (.a av ae) ab (bb (x:=a1) (y:=(max a0 1)) (aA [a0,a1,max a0 1,a1 - (max a0 1)] ae ab aq ab ae ai h0 (sG z0) rfl)) rfl) (aw [a0,a1,max a0 1,a1 - (max a0 1)] ab (.a ae av) ab (.a av ae) (bg a1 (max a0 1)) rfl)
theorem Bk (h0:¬((1:Nat)<=a0)):a0<=1:=aw [a0] aa ai aq ai (Nat.lt_of_not_le h0) rfl
theorem Bi (h0:a0<=a1) (h1:¬(a0<a1)):a0=a1:=aY (aw [a0,a1] aa ab aa ab h0 rfl) (aw [a0,a1] ab aa ab aa (Nat.le_of_not_lt h1) rfl)
theorem kY (h0:a0<2):a0<=16777216:=aw [a0] aa (.n 16777216) aq (.n 2) h0 rfl
theorem Bh (h0:a0<2):a0<2:=aw [a0] aq (.n 2) aq (.n 2) h0 rfl
theorem Bg (h0:a0<2):a0<=16777216+1:=aw [a0] aa (.a (.n 16777216) ai) aq (.n 2) h0 rfl
theorem Bf (h0:(1:Nat)<=a1) (h1:a0=a1):(0:Nat)<a0:=aA [a0,a1] (.a aK ai) aa ai ab ab aa h0 (aF h1) rfl
theorem rg (h0:¬(a0<2)):(1:Nat)<=a0:=aw [a0] ai aa (.n 2) aa (Nat.le_of_not_lt h0) rfl
theorem Be (h0:a0=a1) (h1:a1<=1000):a0<=16777216:=aA [a0,a1] aa (.n 16777216) aa ab ab (.n 1000) (az h0) h1 rfl
theorem Bd (h0:a1+1<=1000) (h1:a0=a1):a0<4096:=aA [a0,a1] aq (.n 4096) aD (.n 1000) aa ab h0 (az h1) rfl
theorem Bc (h0:a1+1<=1000) (h1:a0=a1):a0<=999:=aA [a0,a1] aa (.n 999) aD (.n 1000) aa ab h0 (az h1) rfl
theorem Bb (h0:a0*2<=a1) (h1:a1<=(max (a0*2) (2*a2))) (h2:a0<=a2):a0<=a1/\a1<=(max a0 (2*a2)):=
 ⟨Nat.le_trans (Nat.le_mul_of_pos_right _ (by decide)) h0,Nat.le_trans h1 (Nat.max_le.mpr ⟨Nat.le_trans (by rw [Nat.mul_comm];exact Nat.mul_le_mul_left 2 h2) (Nat.le_max_right _ _),Nat.le_max_right _ _⟩)⟩
theorem AZ:a0<=a0/\a0<=(max a0 (2*a1)):=⟨bt [a0,a1,max a0 (2*a1)] aa aa rfl,aw [a0,a1,max a0 (2*a1)] aa ae aa ae (Nat.le_max_left a0 (2*a1)) rfl⟩
theorem AY (h0:a1<=a0):a0+1 - a1=a0 - a1+1:=aY (aA [a0,a1,a0+1 - a1,a0 - a1] ae bB aa (.a av ab) (.a ae ab) aq (bg a0 a1) (bb (x:=(a0+1)) (y:=a1) (aw [a0,a1,a0+1 - a1,a0 - a1] ab aq ab aa h0 rfl)) rfl) (aA [a0,a1,a0+1 - a1,a0 - a1] bB ae aq (.a ae ab) (.a av ab) aa (bg (a0+1) a1) (bb (x:=a0) (y:=a1) (aw [a0,a1,a0+1 - a1,a0 - a1] ab aa ab aa h0 rfl)) rfl)
theorem rf (h0:a0<=a1):a0<a1+1:=aw [a0,a1] aq aD aa ab h0 rfl
theorem AX (h0:a1 - 1=a0) (h1:(8:Nat)<=a1):(7:Nat)<=a0:=bp [a0,a1,a1 - 1] (.n 7) aa ae aa (.n 8) ab ab bn (az h0) h1 (bg a1 1) rfl
theorem AW:a0+1>0:=bt [a0] (.a aK ai) aq rfl
theorem AV (h0:a0<a1+1):a0<=a1:=aw [a0,a1] aa ab aq aD h0 rfl
theorem re (h0:a0<a1):¬(a0=a1):=fun h=>cf (aA [a0,a1] ai aK aq ab ab aa h0 (aF h) rfl)
theorem AU (h0:a0<a1+1) (h1:¬(a0=a1)):a0<a1:=by lia
theorem AT (h0:¬(a1=a0)):¬(a0=a1):=by lia
theorem AS (h0:(7:Nat)<=a0):(1:Nat)<=a0:=aw [a0] ai aa (.n 7) aa h0 rfl
theorem AQ (h0:a0=1) (h1:a1<=1000):(a0+a1)*2<=3000:=by subst h0;exact Nat.le_trans (Nat.mul_le_mul_right 2 (Nat.add_le_add_left h1 1)) (by decide)
theorem AP (h0:a0<=(max 8 (2*a1))) (h1:a1<=3000):a0<=6000:=(Nat.le_total (2*a1) 8).elim (fun z0=>aA [a0,a1,max 8 (2*a1)] aa (.n 6000) aa ae ae (.n 8) h0 (sH z0) rfl) fun z0=>bp [a0,a1,max 8 (2*a1)] aa (.n 6000) aa ae (.m 2 ab) (.m 2 (.n 3000)) ae (.m 2 ab) h0 (Nat.mul_le_mul_left 2 h1) (sG z0) rfl
theorem AO (h0:a0<=6000):¬(a0>16777216):=fun h=>cf (aA [a0] ai aK aa (.n 6000) (.a (.n 16777216) ai) aa h0 h rfl)
theorem AN:(1:Nat)<=16777216:=bt [] ai (.n 16777216) rfl
theorem rd (h0:a0=a1+1):a0 - 1=a1:=aY (aA [a0,a1,a0 - 1] ae ab aa aD bn aa (az h0) (bb (x:=a0) (y:=1) (aw [a0,a1,a0 - 1] ai aa aD aa (aF h0) rfl)) rfl) (aA [a0,a1,a0 - 1] ab ae aD aa aa bn (aF h0) (bg a0 1) rfl)
theorem AM (h0:a1+1<=a0):a0 - a1=a0 - a1 - 1+1:=aY (aw [a0,a1,a0 - a1,a0 - a1 - 1] ae bB ae bB (bg (a0 - a1) 1) rfl) (aw [a0,a1,a0 - a1,a0 - a1 - 1] bB ae bB ae (bb (x:=(a0 - a1)) (y:=1) (aA [a0,a1,a0 - a1,a0 - a1 - 1] ai ae aD aa aa (.a ae ab) h0 (bg a0 a1) rfl)) rfl)
theorem AL (h0:a0 - a1=a2+1):a0 - (a1+1)=a2:=(Nat.le_total a1 a0).elim (fun z0=>aY (bp [a0,a1,a2,a0 - a1,a0 - (a1+1)] aJ ae av bn aa (.a av ab) (.a aJ aD) aa (az h0) (bg a0 a1) (bb (x:=a0) (y:=(a1+1)) (aA [a0,a1,a2,a0 - a1,a0 - (a1+1)] aD aa bn av (.a av ab) aa (aF h0) (bb z0) rfl)) rfl) (bp [a0,a1,a2,a0 - a1,a0 - (a1+1)] ae aJ bn av aa (.a aJ aD) (.a av ab) aa (aF h0) (bg a0 (a1+1)) (bb z0) rfl)) fun z0=>aY (cf (aA [a0,a1,a2,a0 - a1,a0 - (a1+1)] ai aK bn av av aK (aF h0) (dM z0) rfl)) (aA [a0,a1,a2,a0 - a1,a0 - (a1+1)] ae aJ bn av av aK (aF h0) (dM z0) rfl)
theorem AK:a0+(a1+1)=a0+1+a1:=aY (bt [a0,a1] (.a aa aD) (.a aq ab) rfl) (bt [a0,a1] (.a aq ab) (.a aa aD) rfl)
theorem AJ (h0:a0+0=a1):a0=a1:=aY (aw [a0,a1] aa ab (.a aa aK) ab (az h0) rfl) (aw [a0,a1] ab aa ab (.a aa aK) (aF h0) rfl)
theorem AI (h0:a1<=500):(min a0 a1)+1+1<=1000:=aA [a0,a1,min a0 a1] (.a bn ai) (.n 1000) ab (.n 500) ae ab h0 (Nat.min_le_right a0 a1) rfl
theorem AG (h0:a0=a1) (h1:a1<=500):a0<=1000:=aA [a0,a1] aa (.n 1000) aa ab ab (.n 500) (az h0) h1 rfl
theorem AF (h0:a0=a1+1):(0:Nat)<a0:=aw [a0,a1] (.a aK ai) aa aD aa (aF h0) rfl
theorem AE (h0:a0<a2) (h1:a2=a3) (h2:a1=a3):a0<a1:=bp [a0,a1,a2,a3] aq ab aq ae ae av av ab h0 (az h1) (aF h2) rfl
theorem AD (h0:a1=a2) (h1:a0=a2):a0<=a1:=aA [a0,a1,a2] aa ab ae ab aa ae (aF h0) (az h1) rfl
theorem AC (h0:(2:Nat)<=a1) (h1:a0=a1):a0>1:=aA [a0,a1] (.a ai ai) aa (.n 2) ab ab aa h0 (aF h1) rfl
theorem AB (h0:a1=a2) (h1:a0=a1) (h2:a2<=1000):a0<=16777216:=bp [a0,a1,a2] aa (.n 16777216) ab ae aa ab ae (.n 1000) (az h0) (az h1) h2 rfl
theorem AA (h0:a0<60):a0<=1000:=aw [a0] aa (.n 1000) aq (.n 60) h0 rfl
theorem Az (h0:a1<60) (h1:a0=a1):a0<=16777216:=aA [a0,a1] aa (.n 16777216) aD (.n 60) aa ab h0 (az h1) rfl
theorem Ay (h0:(2:Nat)<=a1) (h1:a0=a1):(2:Nat)<=a0:=aA [a0,a1] (.n 2) aa (.n 2) ab ab aa h0 (aF h1) rfl
theorem Ax (h0:a1<60) (h1:a0=a1):a0<64:=aA [a0,a1] aq (.n 64) aD (.n 60) aa ab h0 (az h1) rfl
theorem Av (h0:(2:Nat)<=a1) (h1:a2=a1) (h2:a0=a2):(2:Nat)<=a0:=bp [a0,a1,a2] (.n 2) aa (.n 2) ab ab ae ae aa h0 (aF h1) (aF h2) rfl
theorem Au (h0:a0+10<a1):a0+1+1<a1:=aw [a0,a1] (.a (.a aq ai) ai) ab (.a (.a aa (.n 10)) ai) ab h0 rfl
theorem rc (h0:a0=a1+3) (h1:a0=1):False:=cf (aA [a0,a1] ai aK (.a ab (.n 3)) aa aa ai (aF h0) (az h1) rfl)
theorem At:1+(a0+2) - 2=1+a0:=aY (aw [a0,1+(a0+2) - 2] ab (.a ai aa) (.a ab (.n 2)) (.a ai (.a aa (.n 2))) (bb (x:=(1+(a0+2))) (y:=2) (bt [a0,1+(a0+2) - 2] (.n 2) (.a ai (.a aa (.n 2))) rfl)) rfl) (aw [a0,1+(a0+2) - 2] (.a ai aa) ab (.a ai (.a aa (.n 2))) (.a ab (.n 2)) (bg (1+(a0+2)) 2) rfl)
theorem As (h0:a0<=1) (h1:a1<=a2):a0+a1<=a2+1:=aA [a0,a1,a2] (.a aa ab) bn aa ai ab ae h0 h1 rfl
theorem Ar (h0:a0<=33):a0<=500:=aw [a0] aa (.n 500) aa (.n 33) h0 rfl
theorem Aq (h0:a0≠a1):a0≠a1:=by omega
theorem Ap (h0:(1:Nat)<=a0):(2:Nat)<=a0+1:=aw [a0] (.n 2) aq ai aa h0 rfl
theorem Ao (h0:a0<=33):a0+1<60:=aw [a0] (.a aq ai) (.n 60) aa (.n 33) h0 rfl
theorem An (h0:a0<=500):a0+3<=16777216:=aw [a0] (.a aa (.n 3)) (.n 16777216) aa (.n 500) h0 rfl
theorem Am (h0:a0=a1) (h1:a1<=33):a0<=49:=aA [a0,a1] aa (.n 49) aa ab ab (.n 33) (az h0) h1 rfl
theorem Al (h0:a1=a2) (h1:a2<=33):(min a0 (a1+1))<=50:=bp [a0,a1,a2,min a0 (a1+1)] av (.n 50) ab ae ae (.n 33) av aD (az h0) h1 (Nat.min_le_right a0 (a1+1)) rfl
theorem Ak (h0:a0=a1) (h1:a1<=33):a0+1<=40:=aA [a0,a1] aq (.n 40) aa ab ab (.n 33) (az h0) h1 rfl
theorem ra (h0:a0<=900):a0<=1000:=aw [a0] aa (.n 1000) aa (.n 900) h0 rfl
theorem Aj (h0:a0<=500):a0<10 ^ 3:=aw [a0] aq (.n 1000) aa (.n 500) h0 rfl
theorem Ai (h0:a0<=3):a0<=400:=aw [a0] aa (.n 400) aa (.n 3) h0 rfl
theorem Ah (h0:a0=a1+a2+a3) (h1:a1=1) (h2:a2<=400) (h3:a3<=500):(1:Nat)<=a0/\a0<=1000:=⟨aA [a0,a1,a2,a3] ai aa (.a (.a ab ae) av) aa ai ab (aF h0) (aF h1) rfl,cS [a0,a1,a2,a3] aa (.n 1000) aa (.a (.a ab ae) av) ab ai ae (.n 400) av (.n 500) (az h0) (az h1) h2 h3 rfl⟩
theorem Ag (h0:a0+1<a1+1):a0<a1:=aw [a0,a1] aq ab (.a aq ai) aD h0 rfl
theorem q0 (h0:a0<=50):(a0:Int)<2 ^ 63:=jo (aw [a0] aq (.n 9223372036854775808) aa (.n 50) h0 rfl)
theorem qZ (h0:a0<=50) (h1:a1<=900):a0+a1<1000:=aA [a0,a1] (.a (.a aa ab) ai) (.n 1000) aa (.n 50) ab (.n 900) h0 h1 rfl
theorem Ae (h0:a0<=50):a0<=1000:=aw [a0] aa (.n 1000) aa (.n 50) h0 rfl
theorem qY (h0:a0<a2) (h1:a1=a2):a0<a1:=aA [a0,a1,a2] aq ab aq ae ae ab h0 (aF h1) rfl
theorem Ad (h0:a0=a2) (h1:¬(a1<a2)):a0<=a1:=aA [a0,a1,a2] aa ab aa ae ae ab (az h0) (Nat.le_of_not_lt h1) rfl
theorem Ac (h0:a1=a0) (h1:a1<=50):a0<=100000:=aA [a0,a1] aa (.n 100000) aa ab ab (.n 50) (aF h0) h1 rfl
theorem Ab (h0:a0 - a1=a2+(a3+a4)) (h1:(1:Nat)<=a3):a0+1 - a1=a2+(1+(a3 - 1+(a0+1 - (a1+a2+a3)))):=(Nat.le_total a1 a0).elim (fun z0=>aY (bp [a0,a1,a2,a3,a4,a0 - a1,a0+1 - a1,a3 - 1,a0+1 - (a1+a2+a3)] dW (.a ae (.a ai (.a im lz))) av lA aq (.a lz (.a (.a ab ae) av)) (.a dW ab) aq (bg a3 1) (bg (a0+1) (a1+a2+a3)) (bb (x:=(a0+1)) (y:=a1) (aw [a0,a1,a2,a3,a4,a0 - a1,a0+1 - a1,a3 - 1,a0+1 - (a1+a2+a3)] ab aq (.a bG ab) aa (bb z0) rfl)) rfl) (bp [a0,a1,a2,a3,a4,a0 - a1,a0+1 - a1,a3 - 1,a0+1 - (a1+a2+a3)] (.a ae (.a ai (.a im lz))) dW aq (.a dW ab) lA av (.a lz (.a (.a ab ae) av)) aq (bg (a0+1) a1) (bb (x:=a3) (y:=1) (aw [a0,a1,a2,a3,a4,a0 - a1,a0+1 - a1,a3 - 1,a0+1 - (a1+a2+a3)] ai av ai av h1 rfl)) (bb (x:=(a0+1)) (y:=(a1+a2+a3)) (aA [a0,a1,a2,a3,a4,a0 - a1,a0+1 - a1,a3 - 1,a0+1 - (a1+a2+a3)] (.a (.a ab ae) av) aq (.a ae (.a av aJ)) bG (.a bG ab) aa (aF h0) (bb z0) rfl)) rfl)) fun z0=>aY (cf (bp [a0,a1,a2,a3,a4,a0 - a1,a0+1 - a1,a3 - 1,a0+1 - (a1+a2+a3)] ai aK (.a ae (.a av aJ)) bG ai av bG aK (aF h0) h1 (dM z0) rfl)) (cf (bp [a0,a1,a2,a3,a4,a0 - a1,a0+1 - a1,a3 - 1,a0+1 - (a1+a2+a3)] ai aK (.a ae (.a av aJ)) bG ai av bG aK (aF h0) h1 (dM z0) rfl))
theorem Aa (h0:(1:Nat)<=a2):a0+a1+1+(a2 - 1)=a0+a1+a2:=aY (aw [a0,a1,a2,a2 - 1] (.a (.a (.a aa ab) ai) av) (.a (.a aa ab) ae) bB ae (bb (x:=a2) (y:=1) (aw [a0,a1,a2,a2 - 1] ai ae ai ae h0 rfl)) rfl) (aw [a0,a1,a2,a2 - 1] (.a (.a aa ab) ae) (.a (.a (.a aa ab) ai) av) ae bB (bg a2 1) rfl)
theorem zZ (h0:a2<=a1) (h1:a0<=a2):a0<a1+1:=aA [a0,a1,a2] aq aD ae ab aa ae h0 h1 rfl
theorem zY:a0<=a0+a1:=bt [a0,a1] aa (.a aa ab) rfl
theorem qX (h0:a3 - a0=a1+(a2+a4)) (h1:(1:Nat)<=a2):a0+a1+a2<=a3:=(Nat.le_total a0 a3).elim (fun z0=>aA [a0,a1,a2,a3,a4,a3 - a0] (.a (.a aa ab) ae) av (.a ab (.a ae aJ)) bG (.a bG aa) av (aF h0) (bb z0) rfl) fun z0=>cf (bp [a0,a1,a2,a3,a4,a3 - a0] ai aK (.a ab (.a ae aJ)) bG ai ae bG aK (aF h0) h1 (dM z0) rfl)
theorem zX (h0:(1:Nat)<=a3) (h1:a0<=a1):a0+1<=a1+a2+a3:=aA [a0,a1,a2,a3] aq (.a (.a ab ae) av) ai av aa ab h0 h1 rfl
theorem zW (h0:a0+a1+1<=a3) (h1:a3<a0+a1+1+(a2 - 1)):¬(a0+a1+a2<=a3):=fun h=>cf (bp [a0,a1,a2,a3,a2 - 1] ai aK bB (.a (.a (.a aa ab) ai) aJ) dc ae (.a (.a aa ab) ae) av h1 (bb (x:=a2) (y:=1) (bp [a0,a1,a2,a3,a2 - 1] ai ae (.a (.a aa ab) ai) av bB (.a (.a (.a aa ab) ai) aJ) aJ ae h0 h1 (Nat.sub_le a2 1) rfl)) h rfl)
theorem zV (h0:a0<a1+a2) (h1:a1<=a0):a0 - a1<a2:=aA [a0,a1,a2,a0 - a1] bB ae aq (.a ab ae) (.a av ab) aa h0 (bb (x:=a0) (y:=a1) (aw [a0,a1,a2,a0 - a1] ab aa ab aa h1 rfl)) rfl
theorem zU (h0:a1 - a2=a0):a0<=a1 - a2:=aw [a0,a1,a2,a1 - a2] aa av aa av (aF h0) rfl
theorem zT (h0:a3 - a0=a1+(a2+a4)) (h1:a0<=a3):a0+a1+a2<=a3:=aA [a0,a1,a2,a3,a4,a3 - a0] (.a (.a aa ab) ae) av (.a ab (.a ae aJ)) bG (.a bG aa) av (aF h0) (bb (x:=a3) (y:=a0) (aw [a0,a1,a2,a3,a4,a3 - a0] aa av aa av h1 rfl)) rfl
theorem zS:a0+a1 - a0=a1:=aY (aw [a0,a1,a0+a1 - a0] ae ab (.a ae aa) (.a aa ab) (bb (x:=(a0+a1)) (y:=a0) (bt [a0,a1,a0+a1 - a0] aa (.a aa ab) rfl)) rfl) (aw [a0,a1,a0+a1 - a0] ab ae (.a aa ab) (.a ae aa) (bg (a0+a1) a0) rfl)
theorem zQ (h0:a0=a2+(a1+a3)):¬(a0<a1):=fun h=>cf (aA [a0,a1,a2,a3] ai aK (.a ae (.a ab av)) aa aq ab (aF h0) h rfl)
theorem zP (h0:a0+a3<=a2):a0<a1+(a2+1 - a1):=aA [a0,a1,a2,a3,a2+1 - a1] aq (.a ab aJ) (.a aa av) ae bn (.a aJ ab) h0 (bg (a2+1) a1) rfl
theorem zO (h0:a3+a1<=a2) (h1:a0<a3):a0+a1<=a2:=aA [a0,a1,a2,a3] (.a aa ab) ae (.a av ab) ae aq av h0 h1 rfl
theorem qV (h0:a0<=1000000):(a0:Int)<2 ^ 63:=jo (aw [a0] aq (.n 9223372036854775808) aa (.n 1000000) h0 rfl)
theorem zN (h0:a0<=1000000):¬((a0:Int)>=2 ^ 63):=by lia
theorem zL (h0:(1:Nat)<=a0):¬(a0=0):=fun h=>cf (aA [a0] ai aK ai aa aa aK h0 (az h) rfl)
theorem zJ (h0:a0<64):a0<=16777216:=aw [a0] aa (.n 16777216) aq (.n 64) h0 rfl
theorem zH (h0:a1<64) (h1:a0=a1):a0<64:=aA [a0,a1] aq (.n 64) aD (.n 64) aa ab h0 (az h1) rfl
theorem zG (h0:a0=1) (h1:a4=1) (h2:a2=2):a0+a1+a2+a3+a4=a1+a3+4:=aY (bp [a0,a1,a2,a3,a4] (.a (.a (.a (.a aa ab) ae) av) aJ) (.a (.a ab av) (.n 4)) aa ai aJ ai ae (.n 2) (az h0) (az h1) (az h2) rfl) (bp [a0,a1,a2,a3,a4] (.a (.a ab av) (.n 4)) (.a (.a (.a (.a aa ab) ae) av) aJ) ai aa ai aJ (.n 2) ae (aF h0) (aF h1) (aF h2) rfl)
theorem zF (h0:a0<=100):a0<=1000000:=aw [a0] aa (.n 1000000) aa (.n 100) h0 rfl
theorem zE (h0:a0<=100):a0<=100000:=aw [a0] aa (.n 100000) aa (.n 100) h0 rfl
theorem zB (h0:a0<=2000) (h1:a1<=2000):a0+a1+4<=4004:=aA [a0,a1] (.a (.a aa ab) (.n 4)) (.n 4004) aa (.n 2000) ab (.n 2000) h0 h1 rfl
theorem zA (h0:a0<=4004*a1) (h1:a1<=100):a0+a1<=1048576:=aA [a0,a1] (.a aa ab) (.n 1048576) aa (.m 4004 ab) (.m 4005 ab) (.m 4005 (.n 100)) h0 (Nat.mul_le_mul_left 4005 h1) rfl
theorem zz (h0:(0:Nat)=a0) (h1:(1:Nat)<=a0):False:=cf (aA [a0] ai aK aa aK ai aa (aF h0) h1 rfl)
theorem zy (h0:a0<=40):a0<=1000000:=aw [a0] aa (.n 1000000) aa (.n 40) h0 rfl
theorem zx (h0:a0<=500):a0<=2000:=aw [a0] aa (.n 2000) aa (.n 500) h0 rfl
theorem zw (h0:a0=6) (h1:a1<=1000):a0+a1<=2000:=aA [a0,a1] (.a aa ab) (.n 2000) aa (.n 6) ab (.n 1000) (az h0) h1 rfl
theorem zv:1+(a0+2)=a0+3:=aY (bt [a0] (.a ai (.a aa (.n 2))) (.a aa (.n 3)) rfl) (bt [a0] (.a aa (.n 3)) (.a ai (.a aa (.n 2))) rfl)
theorem qU:(1:Int)<=((a0+3:Nat):Int):=by lia
theorem zu:((a0+3:Nat):Int) - 1=((a0+2:Nat):Int):=by lia
theorem zt (h0:a0<=1000):a0+3<=16777216:=aw [a0] (.a aa (.n 3)) (.n 16777216) aa (.n 1000) h0 rfl
theorem zr (h0:a0<=1000):a0+2<=16777216:=aw [a0] (.a aa (.n 2)) (.n 16777216) aa (.n 1000) h0 rfl
theorem zq (h0:a0<a1):(min (a0+1) a1) - a0=1:=(Nat.le_total a0 (min (a0+1) a1)).elim (fun z0=>aY (aA [a0,a1,(min (a0+1) a1) - a0,min (a0+1) a1] ae ai av aq (.a ae aa) av (Nat.min_le_left (a0+1) a1) (bb z0) rfl) (aA [a0,a1,(min (a0+1) a1) - a0,min (a0+1) a1] ai ae av (.a ae aa) aq av (bg (min (a0+1) a1) a0) (eQ (x:=(a0+1)) (y:=a1) (aw [a0,a1,(min (a0+1) a1) - a0,min (a0+1) a1] aq ab aq ab h0 rfl)) rfl)) fun z0=>aY (aw [a0,a1,(min (a0+1) a1) - a0,min (a0+1) a1] ae ai ae aK (dM z0) rfl) (aA [a0,a1,(min (a0+1) a1) - a0,min (a0+1) a1] ai ae av (.a ae aa) aq av (bg (min (a0+1) a1) a0) (eQ (x:=(a0+1)) (y:=a1) (aw [a0,a1,(min (a0+1) a1) - a0,min (a0+1) a1] aq ab aq ab h0 rfl)) rfl)
theorem zp:a0+3+1 - 0=a0+1+3:=aY (aw [a0,a0+3+1 - 0] ab (.a aq (.n 3)) ab (.a (.a aa (.n 3)) ai) (Nat.sub_le (a0+3+1) 0) rfl) (aw [a0,a0+3+1 - 0] (.a aq (.n 3)) ab (.a (.a aa (.n 3)) ai) (.a ab aK) (bg (a0+3+1) 0) rfl)
theorem zo (h0:a0<a1+1):a0<1+a1:=aw [a0,a1] aq (.a ai ab) aq aD h0 rfl
theorem zm:1+a0<=a0+1:=bt [a0] (.a ai aa) aq rfl
theorem zl:a0+1 - (1+a0)=0:=aY (aw [a0,a0+1 - (1+a0)] ab aK (.a ab (.a ai aa)) aq (bb (x:=(a0+1)) (y:=(1+a0)) (bt [a0,a0+1 - (1+a0)] (.a ai aa) aq rfl)) rfl) (bt [a0,a0+1 - (1+a0)] aK ab rfl)
theorem zk:¬(a0+3<1):=fun h=>cf (aw [a0] ai aK (.a (.a aa (.n 3)) ai) ai h rfl)
theorem qT:1+a0=a0+1:=aY (bt [a0] (.a ai aa) aq rfl) (bt [a0] aq (.a ai aa) rfl)
theorem zj (h0:a0=a1+1):a0<=a1+2:=aw [a0,a1] aa (.a ab (.n 2)) aa aD (az h0) rfl
theorem zi:a0+2 - (a0+1)=1:=aY (aw [a0,a0+2 - (a0+1)] ab ai (.a ab aq) (.a aa (.n 2)) (bb (x:=(a0+2)) (y:=(a0+1)) (bt [a0,a0+2 - (a0+1)] aq (.a aa (.n 2)) rfl)) rfl) (aw [a0,a0+2 - (a0+1)] ai ab (.a aa (.n 2)) (.a ab aq) (bg (a0+2) (a0+1)) rfl)
theorem zh:a0+3 - (a0+1)=2:=aY (aw [a0,a0+3 - (a0+1)] ab (.n 2) (.a ab aq) (.a aa (.n 3)) (bb (x:=(a0+3)) (y:=(a0+1)) (bt [a0,a0+3 - (a0+1)] aq (.a aa (.n 3)) rfl)) rfl) (aw [a0,a0+3 - (a0+1)] (.n 2) ab (.a aa (.n 3)) (.a ab aq) (bg (a0+3) (a0+1)) rfl)
theorem zf (h0:a0<=900):a0<=16777216:=aw [a0] aa (.n 16777216) aa (.n 900) h0 rfl
end
theorem I4:True:=by w_top off;trivial
universe u v u1 u2 u3 u4 u5 u6
theorem ak {A0 A1 G:Prop} (h:A0/\A1) (k:A0->A1->G):G:=k h.1 h.2
theorem aI {A0 A1 A2 G:Prop} (h:A0/\A1/\A2) (k:A0->A1->A2->G):G:=k h.1 h.2.1 h.2.2
theorem bO {A0 A1 A2 A3 G:Prop} (h:A0/\A1/\A2/\A3) (k:A0->A1->A2->A3->G):G:=k h.1 h.2.1 h.2.2.1 h.2.2.2
theorem bv {A0 A1 A2 A3 A4 G:Prop} (h:A0/\A1/\A2/\A3/\A4) (k:A0->A1->A2->A3->A4->G):G:=k h.1 h.2.1 h.2.2.1 h.2.2.2.1 h.2.2.2.2
theorem dI {A0 A1 A2 A3 A4 A5 G:Prop} (h:A0/\A1/\A2/\A3/\A4/\A5) (k:A0->A1->A2->A3->A4->A5->G):G:=k h.1 h.2.1 h.2.2.1 h.2.2.2.1 h.2.2.2.2.1 h.2.2.2.2.2
theorem ef {A0 A1 A2 A3 A4 A5 A6 G:Prop} (h:A0/\A1/\A2/\A3/\A4/\A5/\A6) (k:A0->A1->A2->A3->A4->A5->A6->G):G:=k h.1 h.2.1 h.2.2.1 h.2.2.2.1 h.2.2.2.2.1 h.2.2.2.2.2.1 h.2.2.2.2.2.2
theorem fe {A0 A1 A2 A3 A4 A5 A6 A7 G:Prop} (h:A0/\A1/\A2/\A3/\A4/\A5/\A6/\A7) (k:A0->A1->A2->A3->A4->A5->A6->A7->G):G:=k h.1 h.2.1 h.2.2.1 h.2.2.2.1 h.2.2.2.2.1 h.2.2.2.2.2.1 h.2.2.2.2.2.2.1 h.2.2.2.2.2.2.2
theorem fb {A0 A1 A2 A3 A4 A5 A6 A7 A8 G:Prop} (h:A0/\A1/\A2/\A3/\A4/\A5/\A6/\A7/\A8) (k:A0->A1->A2->A3->A4->A5->A6->A7->A8->G):G:=k h.1 h.2.1 h.2.2.1 h.2.2.2.1 h.2.2.2.2.1 h.2.2.2.2.2.1 h.2.2.2.2.2.2.1 h.2.2.2.2.2.2.2.1 h.2.2.2.2.2.2.2.2
theorem eF {A0 A1 A2 A3 A4 A5 A6 A7 A8 A9 G:Prop} (h:A0/\A1/\A2/\A3/\A4/\A5/\A6/\A7/\A8/\A9) (k:A0->A1->A2->A3->A4->A5->A6->A7->A8->A9->G):G:=k h.1 h.2.1 h.2.2.1 h.2.2.2.1 h.2.2.2.2.1 h.2.2.2.2.2.1 h.2.2.2.2.2.2.1 h.2.2.2.2.2.2.2.1 h.2.2.2.2.2.2.2.2.1 h.2.2.2.2.2.2.2.2.2
theorem gT {A0 A1 A2 A3 A4 A5 A6 A7 A8 A9 q_ G:Prop} (h:A0/\A1/\A2/\A3/\A4/\A5/\A6/\A7/\A8/\A9/\q_) (k:A0->A1->A2->A3->A4->A5->A6->A7->A8->A9->q_->G):G:=k h.1 h.2.1 h.2.2.1 h.2.2.2.1 h.2.2.2.2.1 h.2.2.2.2.2.1 h.2.2.2.2.2.2.1 h.2.2.2.2.2.2.2.1 h.2.2.2.2.2.2.2.2.1 h.2.2.2.2.2.2.2.2.2.1 h.2.2.2.2.2.2.2.2.2.2
theorem fD {A0 A1 A2 A3 A4 A5 A6 A7 A8 A9 q_ y_ G:Prop} (h:A0/\A1/\A2/\A3/\A4/\A5/\A6/\A7/\A8/\A9/\q_/\y_) (k:A0->A1->A2->A3->A4->A5->A6->A7->A8->A9->q_->y_->G):G:=k h.1 h.2.1 h.2.2.1 h.2.2.2.1 h.2.2.2.2.1 h.2.2.2.2.2.1 h.2.2.2.2.2.2.1 h.2.2.2.2.2.2.2.1 h.2.2.2.2.2.2.2.2.1 h.2.2.2.2.2.2.2.2.2.1 h.2.2.2.2.2.2.2.2.2.2.1 h.2.2.2.2.2.2.2.2.2.2.2
theorem ma {A0 A1 A2 A3 A4 A5 A6 A7 A8 A9 q_ y_ KT G:Prop} (h:A0/\A1/\A2/\A3/\A4/\A5/\A6/\A7/\A8/\A9/\q_/\y_/\KT) (k:A0->A1->A2->A3->A4->A5->A6->A7->A8->A9->q_->y_->KT->G):G:=k h.1 h.2.1 h.2.2.1 h.2.2.2.1 h.2.2.2.2.1 h.2.2.2.2.2.1 h.2.2.2.2.2.2.1 h.2.2.2.2.2.2.2.1 h.2.2.2.2.2.2.2.2.1 h.2.2.2.2.2.2.2.2.2.1 h.2.2.2.2.2.2.2.2.2.2.1 h.2.2.2.2.2.2.2.2.2.2.2.1 h.2.2.2.2.2.2.2.2.2.2.2.2
theorem pC {A0 A1 A2 A3 A4 A5 A6 A7 A8 A9 q_ y_ KT L2 G:Prop} (h:A0/\A1/\A2/\A3/\A4/\A5/\A6/\A7/\A8/\A9/\q_/\y_/\KT/\L2) (k:A0->A1->A2->A3->A4->A5->A6->A7->A8->A9->q_->y_->KT->L2->G):G:=k h.1 h.2.1 h.2.2.1 h.2.2.2.1 h.2.2.2.2.1 h.2.2.2.2.2.1 h.2.2.2.2.2.2.1 h.2.2.2.2.2.2.2.1 h.2.2.2.2.2.2.2.2.1 h.2.2.2.2.2.2.2.2.2.1 h.2.2.2.2.2.2.2.2.2.2.1 h.2.2.2.2.2.2.2.2.2.2.2.1 h.2.2.2.2.2.2.2.2.2.2.2.2.1 h.2.2.2.2.2.2.2.2.2.2.2.2.2
theorem Kx {A0 A1 A2 A3 A4 A5 A6 A7 A8 A9 q_ y_ KT L2 NA G:Prop} (h:A0/\A1/\A2/\A3/\A4/\A5/\A6/\A7/\A8/\A9/\q_/\y_/\KT/\L2/\NA) (k:A0->A1->A2->A3->A4->A5->A6->A7->A8->A9->q_->y_->KT->L2->NA->G):G:=k h.1 h.2.1 h.2.2.1 h.2.2.2.1 h.2.2.2.2.1 h.2.2.2.2.2.1 h.2.2.2.2.2.2.1 h.2.2.2.2.2.2.2.1 h.2.2.2.2.2.2.2.2.1 h.2.2.2.2.2.2.2.2.2.1 h.2.2.2.2.2.2.2.2.2.2.1 h.2.2.2.2.2.2.2.2.2.2.2.1 h.2.2.2.2.2.2.2.2.2.2.2.2.1 h.2.2.2.2.2.2.2.2.2.2.2.2.2.1 h.2.2.2.2.2.2.2.2.2.2.2.2.2.2
theorem Kw {A0 A1 A2 A3 A4 A5 A6 A7 A8 A9 q_ y_ KT L2 NA Rf G:Prop} (h:A0/\A1/\A2/\A3/\A4/\A5/\A6/\A7/\A8/\A9/\q_/\y_/\KT/\L2/\NA/\Rf) (k:A0->A1->A2->A3->A4->A5->A6->A7->A8->A9->q_->y_->KT->L2->NA->Rf->G):G:=k h.1 h.2.1 h.2.2.1 h.2.2.2.1 h.2.2.2.2.1 h.2.2.2.2.2.1 h.2.2.2.2.2.2.1 h.2.2.2.2.2.2.2.1 h.2.2.2.2.2.2.2.2.1 h.2.2.2.2.2.2.2.2.2.1 h.2.2.2.2.2.2.2.2.2.2.1 h.2.2.2.2.2.2.2.2.2.2.2.1 h.2.2.2.2.2.2.2.2.2.2.2.2.1 h.2.2.2.2.2.2.2.2.2.2.2.2.2.1 h.2.2.2.2.2.2.2.2.2.2.2.2.2.2.1 h.2.2.2.2.2.2.2.2.2.2.2.2.2.2.2
theorem am {T0:Sort u} {P:T0->Prop} {G:Prop} (h:∃x0,P x0) (k:∀x0,P x0->G):G:=h.elim k
theorem bl {T0:Sort u} {T1:Sort v} {P:T0->T1->Prop} {G:Prop} (h:∃x0 x1,P x0 x1) (k:∀x0 x1,P x0 x1->G):G:=h.elim fun x0 h=>h.elim (k x0)
theorem aW {T0:Sort u} {T1:Sort v} {T2:Sort u1} {P:T0->T1->T2->Prop} {G:Prop} (h:∃x0 x1 x2,P x0 x1 x2) (k:∀x0 x1 x2,P x0 x1 x2->G):G:=h.elim fun x0 h=>h.elim fun x1 h=>h.elim (k x0 x1)
theorem dU {T0:Sort u} {T1:Sort v} {T2:Sort u1} {T3:Sort u2} {P:T0->T1->T2->T3->Prop} {G:Prop} (h:∃x0 x1 x2 x3,P x0 x1 x2 x3) (k:∀x0 x1 x2 x3,P x0 x1 x2 x3->G):G:=h.elim fun x0 h=>h.elim fun x1 h=>h.elim fun x2 h=>h.elim (k x0 x1 x2)
theorem dT {T0:Sort u} {T1:Sort v} {T2:Sort u1} {T3:Sort u2} {T4:Sort u3} {P:T0->T1->T2->T3->T4->Prop} {G:Prop} (h:∃x0 x1 x2 x3 x4,P x0 x1 x2 x3 x4) (k:∀x0 x1 x2 x3 x4,P x0 x1 x2 x3 x4->G):G:=h.elim fun x0 h=>h.elim fun x1 h=>h.elim fun x2 h=>h.elim fun x3 h=>h.elim (k x0 x1 x2 x3)
theorem pW {T0:Sort u} {T1:Sort v} {T2:Sort u1} {T3:Sort u2} {T4:Sort u3} {T5:Sort u4} {P:T0->T1->T2->T3->T4->T5->Prop} {G:Prop} (h:∃x0 x1 x2 x3 x4 x5,P x0 x1 x2 x3 x4 x5) (k:∀x0 x1 x2 x3 x4 x5,P x0 x1 x2 x3 x4 x5->G):G:=h.elim fun x0 h=>h.elim fun x1 h=>h.elim fun x2 h=>h.elim fun x3 h=>h.elim fun x4 h=>h.elim (k x0 x1 x2 x3 x4)
theorem pV {T0:Sort u} {T1:Sort v} {T2:Sort u1} {T3:Sort u2} {T4:Sort u3} {T5:Sort u4} {T6:Sort u5} {P:T0->T1->T2->T3->T4->T5->T6->Prop} {G:Prop} (h:∃x0 x1 x2 x3 x4 x5 x6,P x0 x1 x2 x3 x4 x5 x6) (k:∀x0 x1 x2 x3 x4 x5 x6,P x0 x1 x2 x3 x4 x5 x6->G):G:=h.elim fun x0 h=>h.elim fun x1 h=>h.elim fun x2 h=>h.elim fun x3 h=>h.elim fun x4 h=>h.elim fun x5 h=>h.elim (k x0 x1 x2 x3 x4 x5)
theorem fV {T0:Sort u} {T1:Sort v} {T2:Sort u1} {T3:Sort u2} {T4:Sort u3} {T5:Sort u4} {T6:Sort u5} {T7:Sort u6} {P:T0->T1->T2->T3->T4->T5->T6->T7->Prop} {G:Prop} (h:∃x0 x1 x2 x3 x4 x5 x6 x7,P x0 x1 x2 x3 x4 x5 x6 x7) (k:∀x0 x1 x2 x3 x4 x5 x6 x7,P x0 x1 x2 x3 x4 x5 x6 x7->G):G:=h.elim fun x0 h=>h.elim fun x1 h=>h.elim fun x2 h=>h.elim fun x3 h=>h.elim fun x4 h=>h.elim fun x5 h=>h.elim fun x6 h=>h.elim (k x0 x1 x2 x3 x4 x5 x6)
theorem fh {T:Sort u} {S:T->Sort v} {P:(x:T)->S x->Prop} {G:Prop} (h:∃x y,P x y) (k:∀x y,P x y->G):G:=h.elim fun x h=>h.elim (k x)
theorem bJ {α:Type} {B:List α} {a:α} (i:Nat) (h:B[i]?=some a):a∈B:=List.mem_of_getElem? h
theorem bI {α:Type} {B C:List α} {a:α} (m:Nat) (e:B.drop m=C) (h:a∈C):a∈B:=List.mem_of_mem_drop (i:=m) (e▸h)
theorem cz {α:Type} {A B:List α} (ix:List Nat) (h:ix.map (B[·]?)=A.map some):∀p∈A,p∈B:=fun p hp=>by
 have h1:some p∈A.map some:=List.mem_map_of_mem hp;rw [<-h] at h1;obtain ⟨i,_,e⟩:=List.mem_map.mp h1;exact List.mem_of_getElem? e
theorem mY {α:Type} {A B:List α} (ix:List Nat) {T:List α} (h:ix.map (B[·]?)=(A.take ix.length).map some) (e:A.drop ix.length=T) (t:∀p∈T,p∈B):∀p∈A,p∈B:=fun p hp=>by
 subst e;rw [<-List.take_append_drop ix.length A] at hp;exact (List.mem_append.mp hp).elim (cz ix h p) (t p)
theorem cv {α:Type} {A B:List α} (ix:List Nat) (m:Nat) (h:ix.map (B[·]?)=(A.take ix.length).map some) (t:A.drop ix.length=B.drop m):∀p∈A,p∈B:=mY ix h t fun _ hp=>List.mem_of_mem_drop (i:=m) hp
theorem wO {α:Type} {A C B:List α} (h:∀p∈A,p∈B) (k:∀p∈C,p∈B):∀p∈A++C,p∈B:=fun p hp=>(List.mem_append.mp hp).elim (h p) (k p)
theorem Kr {α:Type} {B:List α} {a b:α} (e:a=b) (h:b∈B):a∈B:=e▸h
theorem gh {a n:Nat} (h:a<=n):a<=n:=h
theorem kM {a m:Nat} (h:a<=m) (e:Nat.ble m 16777216=true):a<=sizeLine:=by rw [sizeLine_eq];exact Nat.le_trans h (Nat.le_of_ble_eq_true e)
theorem qr {α:Type} {a:List α} {m:Nat} (h:a.length<=m) (e:Nat.ble m 16777216=true):a.toArray.size<=sizeLine:=kM h e
theorem Gd {a b:Str} {m k:Nat} (h:a.length<=m) (j:b.length<=k):(a++b).length<=m+k:=by rw [Str.length_append];exact Nat.add_le_add h j
theorem Gc {α:Type} {a:List α} {x:α} {m:Nat} (h:a.length<=m):(a++[x]).length<=m+1:=by rw [List.length_append];exact Nat.add_le_add_right h 1
theorem qL {a k n:Nat} (h:a+k<n):a<n:=Nat.lt_of_le_of_lt (Nat.le_add_right a k) h
theorem np {a b k n:Nat} (h:a+k<n) (e:Nat.ble b k=true):a+b<n:=Nat.lt_of_le_of_lt (Nat.add_le_add_left (Nat.le_of_ble_eq_true e) a) h
theorem yb {a b c k n:Nat} (h:a+k<n) (e:Nat.ble (b+c) k=true):a+b+c<n:=by rw [Nat.add_assoc];exact np h e
theorem ct0 {c i n:Nat} (h:c<=i) (j:i<n) (k:n<1000):c<4096:=Nat.lt_trans (Nat.lt_of_le_of_lt h (Nat.lt_trans j k)) (by decide)
theorem H5 {c i n:Nat} (h:c<=i) (j:i<n) (k:n<1000):c+1<4096:=Nat.lt_trans (Nat.succ_lt_succ (Nat.lt_of_le_of_lt h (Nat.lt_trans j k))) (by decide)
theorem H4 {c n:Nat} (h:c<=n) (k:n<1000):c<4096:=Nat.lt_trans (Nat.lt_of_le_of_lt h k) (by decide)
theorem GR {n:Nat} (h:n<=1000):(n:Int)<9223372036854775808:=Int.ofNat_lt.mpr (Nat.lt_of_le_of_lt h (by decide))
theorem EQ (n:Nat):(0:Int)<=2 ^ n:=Int.pow_nonneg (by decide)
theorem sF {x:Int} {n:Nat} (h:x.natAbs<2 ^ n):x<2 ^ n:=Int.lt_of_le_of_lt Int.le_natAbs (by exact_mod_cast h)
theorem Fp {x:Int} {n:Nat} (h:x.natAbs<2 ^ n): -2 ^ n<x:=by have:=sF (x:= -x) (by rw [Int.natAbs_neg];exact h);exact Int.neg_lt_of_neg_lt this
theorem to {n m:Nat} {N:Int} (h:n<=m) (e:(m:Int)<N):(n:Int)<N:=Int.lt_of_le_of_lt (Int.ofNat_le.mpr h) e
theorem GQ {n m:Nat} {N:Int} (h:n<=m) (e:(m:Int)<N):¬((n:Int)>=N):=Int.not_le.mpr (to h e)
theorem GP {n:Nat} {N:Int} (e:N<0):N<(n:Int):=Int.lt_of_lt_of_le e (Int.natCast_nonneg n)
theorem s0 (n:Nat):(0:Int)<=0+(n:Int):=Int.le_trans (Int.natCast_nonneg n) (Int.le_of_eq (Int.zero_add _).symm)
theorem FW {a b:Nat} (h:a<b):a≠b+1:=Nat.ne_of_lt (Nat.lt_succ_of_lt h)
theorem FX {a b:Nat} (h:a<b):a≠b+1+1:=Nat.ne_of_lt (Nat.lt_succ_of_lt (Nat.lt_succ_of_lt h))
theorem wH {α:Type} {A B:List α} (n:Nat) {q:α} (h:q∈A) (h1:∀p∈A.take n,p∈B) (h2:∀p∈A.drop n,p∈B):q∈B:=(List.mem_append.mp (show q∈A.take n++A.drop n from (List.take_append_drop n A).symm▸h)).elim (h1 q) (h2 q)
theorem Gt {k:Int} (h:k<0+((Int.toNat (32 - 0):Nat):Int)):k<=1000000:=Int.le_of_lt (Int.lt_trans h (by decide))
theorem gS:Str.empty.length<=0:=Nat.le_refl _
theorem gL {α:Type}:([]:List α).length<=0:=Nat.le_refl _
theorem gA {α:Type}:(#[]:Array α).size<=sizeLine:=Nat.zero_le _
theorem gN:0<=sizeLine:=Nat.zero_le _
noncomputable def bw:World:={draws:=fun _ _=>0,params:={strHash:=fun _=>0,shareClass:=fun _=>0,mergeTok:=fun _=>0,idOf:=fun _=>0,idOfShared:=fun _ _=>0,followText:=fun _=>false,idOfImm:=fun _=>0}}
theorem gE {A B G:Prop} (h:A->G) (k:B->G):A\/B->G:=fun x=>x.elim h k
noncomputable def NI (a:Nat):List Nat->Prop
 |[]=>True
 |[x]=>¬a=x
 |x::y::r=>¬a=x/\NI a (y::r)
theorem dh {a:Nat}:∀{l:List Nat},a∉l->NI a l
 |[],_=>trivial
 |[_],h=>fun e=>h (e▸ .head _)
 |_::_::_,h=>⟨fun e=>h (e▸ .head _),dh fun m=>h (.tail _ m)⟩
theorem bZ {a:Nat}:∀{l:List Nat},NI a l->a∉l
 |[],_=>List.not_mem_nil
 |[_],h=>fun m=>h (List.mem_singleton.mp m)
 |_::_::_,h=>fun m=>(List.mem_cons.mp m).elim h.1 (bZ h.2)
noncomputable def ND:List Nat->Prop
 |[]=>True
 |x::r=>NI x r/\ND r
theorem fw:∀{l:List Nat},l.Nodup->ND l
 |[],_=>trivial
 |_::_,h=>⟨dh (List.nodup_cons.mp h).1,fw (List.nodup_cons.mp h).2⟩
theorem ip:∀{l:List Nat},ND l->l.Nodup
 |[],_=>List.nodup_nil
 |_::_,h=>List.nodup_cons.mpr ⟨bZ h.1,ip h.2⟩
noncomputable def FC {α:Type} (P:α->Prop):List α->Prop
 |[]=>True
 |x::r=>P x/\FC P r
theorem cj {α:Type} {P:α->Prop}:∀{l:List α},(∀z∈l,P z)->FC P l
 |[],_=>trivial
 |_::_,h=>⟨h _ (.head _),cj fun z m=>h z (.tail _ m)⟩
theorem cu {α:Type} {P:α->Prop}:∀{l:List α},FC P l->∀z∈l,P z
 |[],_=>fun _ m=>nomatch m
 |_::_,h=>fun _ m=>(List.mem_cons.mp m).elim (fun e=>e▸h.1) (cu h.2 _)
theorem Kt {α:Type} {P:α->Prop} {l t:List α} (h:FC P l) (k:∀z∈t,P z):∀z∈l++t,P z:=fun z m=>(List.mem_append.mp m).elim (cu h z) (k z)
noncomputable def FA {α:Type} (P:α->Prop):List α->Prop
 |[]=>True
 |[x]=>P x
 |x::y::r=>P x/\FA P (y::r)
theorem gJ {α:Type} {P:α->Prop}:∀{l:List α},(∀z∈l,P z)->FA P l
 |[],_=>trivial
 |[_],h=>h _ (.head _)
 |_::_::_,h=>⟨h _ (.head _),gJ fun z m=>h z (.tail _ m)⟩
theorem jB {α:Type} {P:α->Prop}:∀{l:List α},FA P l->∀z∈l,P z
 |[],_=>fun _ m=>nomatch m
 |[_],h=>fun _ m=>List.mem_singleton.mp m▸h
 |_::_::_,h=>fun _ m=>(List.mem_cons.mp m).elim (fun e=>e▸h.1) (jB h.2 _)
theorem FU {R:Prop} {a b:Nat} (h:a<b/\R):a≠b:=Nat.ne_of_lt h.1
theorem Hd {R:Prop} {a b:Nat} (h:b<a/\R):a≠b:=Nat.ne_of_gt h.1
theorem FT {A0 R:Prop} {a b:Nat} (h:A0/\a<b/\R):a≠b:=Nat.ne_of_lt h.2.1
theorem Hc {A0 R:Prop} {a b:Nat} (h:A0/\b<a/\R):a≠b:=Nat.ne_of_gt h.2.1
theorem FK {A0 A1 R:Prop} {a b:Nat} (h:A0/\A1/\a<b/\R):a≠b:=Nat.ne_of_lt h.2.2.1
theorem G4 {A0 A1 R:Prop} {a b:Nat} (h:A0/\A1/\b<a/\R):a≠b:=Nat.ne_of_gt h.2.2.1
theorem FJ {A0 A1 A2 R:Prop} {a b:Nat} (h:A0/\A1/\A2/\a<b/\R):a≠b:=Nat.ne_of_lt h.2.2.2.1
theorem G3 {A0 A1 A2 R:Prop} {a b:Nat} (h:A0/\A1/\A2/\b<a/\R):a≠b:=Nat.ne_of_gt h.2.2.2.1
theorem FH {A0 A1 A2 A3 R:Prop} {a b:Nat} (h:A0/\A1/\A2/\A3/\a<b/\R):a≠b:=Nat.ne_of_lt h.2.2.2.2.1
theorem G0 {A0 A1 A2 A3 R:Prop} {a b:Nat} (h:A0/\A1/\A2/\A3/\b<a/\R):a≠b:=Nat.ne_of_gt h.2.2.2.2.1
theorem FE {A0 A1 A2 A3 A4 R:Prop} {a b:Nat} (h:A0/\A1/\A2/\A3/\A4/\a<b/\R):a≠b:=Nat.ne_of_lt h.2.2.2.2.2.1
theorem GZ {A0 A1 A2 A3 A4 R:Prop} {a b:Nat} (h:A0/\A1/\A2/\A3/\A4/\b<a/\R):a≠b:=Nat.ne_of_gt h.2.2.2.2.2.1
theorem FB {A0 A1 A2 A3 A4 A5 R:Prop} {a b:Nat} (h:A0/\A1/\A2/\A3/\A4/\A5/\a<b/\R):a≠b:=Nat.ne_of_lt h.2.2.2.2.2.2.1
theorem GY {A0 A1 A2 A3 A4 A5 R:Prop} {a b:Nat} (h:A0/\A1/\A2/\A3/\A4/\A5/\b<a/\R):a≠b:=Nat.ne_of_gt h.2.2.2.2.2.2.1
theorem Fz {A0 A1 A2 A3 A4 A5 A6 R:Prop} {a b:Nat} (h:A0/\A1/\A2/\A3/\A4/\A5/\A6/\a<b/\R):a≠b:=Nat.ne_of_lt h.2.2.2.2.2.2.2.1
theorem GX {A0 A1 A2 A3 A4 A5 A6 R:Prop} {a b:Nat} (h:A0/\A1/\A2/\A3/\A4/\A5/\A6/\b<a/\R):a≠b:=Nat.ne_of_gt h.2.2.2.2.2.2.2.1
theorem Fy {A0 A1 A2 A3 A4 A5 A6 A7 R:Prop} {a b:Nat} (h:A0/\A1/\A2/\A3/\A4/\A5/\A6/\A7/\a<b/\R):a≠b:=Nat.ne_of_lt h.2.2.2.2.2.2.2.2.1
theorem GW {A0 A1 A2 A3 A4 A5 A6 A7 R:Prop} {a b:Nat} (h:A0/\A1/\A2/\A3/\A4/\A5/\A6/\A7/\b<a/\R):a≠b:=Nat.ne_of_gt h.2.2.2.2.2.2.2.2.1
theorem Fx {A0 A1 A2 A3 A4 A5 A6 A7 A8 R:Prop} {a b:Nat} (h:A0/\A1/\A2/\A3/\A4/\A5/\A6/\A7/\A8/\a<b/\R):a≠b:=Nat.ne_of_lt h.2.2.2.2.2.2.2.2.2.1
theorem GV {A0 A1 A2 A3 A4 A5 A6 A7 A8 R:Prop} {a b:Nat} (h:A0/\A1/\A2/\A3/\A4/\A5/\A6/\A7/\A8/\b<a/\R):a≠b:=Nat.ne_of_gt h.2.2.2.2.2.2.2.2.2.1
theorem FS {A0 A1 A2 A3 A4 A5 A6 A7 A8 A9 R:Prop} {a b:Nat} (h:A0/\A1/\A2/\A3/\A4/\A5/\A6/\A7/\A8/\A9/\a<b/\R):a≠b:=Nat.ne_of_lt h.2.2.2.2.2.2.2.2.2.2.1
theorem Hb {A0 A1 A2 A3 A4 A5 A6 A7 A8 A9 R:Prop} {a b:Nat} (h:A0/\A1/\A2/\A3/\A4/\A5/\A6/\A7/\A8/\A9/\b<a/\R):a≠b:=Nat.ne_of_gt h.2.2.2.2.2.2.2.2.2.2.1
theorem FR {A0 A1 A2 A3 A4 A5 A6 A7 A8 A9 q_ R:Prop} {a b:Nat} (h:A0/\A1/\A2/\A3/\A4/\A5/\A6/\A7/\A8/\A9/\q_/\a<b/\R):a≠b:=Nat.ne_of_lt h.2.2.2.2.2.2.2.2.2.2.2.1
theorem Ha {A0 A1 A2 A3 A4 A5 A6 A7 A8 A9 q_ R:Prop} {a b:Nat} (h:A0/\A1/\A2/\A3/\A4/\A5/\A6/\A7/\A8/\A9/\q_/\b<a/\R):a≠b:=Nat.ne_of_gt h.2.2.2.2.2.2.2.2.2.2.2.1
theorem FQ {A0 A1 A2 A3 A4 A5 A6 A7 A8 A9 q_ y_ R:Prop} {a b:Nat} (h:A0/\A1/\A2/\A3/\A4/\A5/\A6/\A7/\A8/\A9/\q_/\y_/\a<b/\R):a≠b:=Nat.ne_of_lt h.2.2.2.2.2.2.2.2.2.2.2.2.1
theorem G9 {A0 A1 A2 A3 A4 A5 A6 A7 A8 A9 q_ y_ R:Prop} {a b:Nat} (h:A0/\A1/\A2/\A3/\A4/\A5/\A6/\A7/\A8/\A9/\q_/\y_/\b<a/\R):a≠b:=Nat.ne_of_gt h.2.2.2.2.2.2.2.2.2.2.2.2.1
theorem FP {A0 A1 A2 A3 A4 A5 A6 A7 A8 A9 q_ y_ KT R:Prop} {a b:Nat} (h:A0/\A1/\A2/\A3/\A4/\A5/\A6/\A7/\A8/\A9/\q_/\y_/\KT/\a<b/\R):a≠b:=Nat.ne_of_lt h.2.2.2.2.2.2.2.2.2.2.2.2.2.1
theorem G8 {A0 A1 A2 A3 A4 A5 A6 A7 A8 A9 q_ y_ KT R:Prop} {a b:Nat} (h:A0/\A1/\A2/\A3/\A4/\A5/\A6/\A7/\A8/\A9/\q_/\y_/\KT/\b<a/\R):a≠b:=Nat.ne_of_gt h.2.2.2.2.2.2.2.2.2.2.2.2.2.1
theorem FO {A0 A1 A2 A3 A4 A5 A6 A7 A8 A9 q_ y_ KT L2 R:Prop} {a b:Nat} (h:A0/\A1/\A2/\A3/\A4/\A5/\A6/\A7/\A8/\A9/\q_/\y_/\KT/\L2/\a<b/\R):a≠b:=Nat.ne_of_lt h.2.2.2.2.2.2.2.2.2.2.2.2.2.2.1
theorem G7 {A0 A1 A2 A3 A4 A5 A6 A7 A8 A9 q_ y_ KT L2 R:Prop} {a b:Nat} (h:A0/\A1/\A2/\A3/\A4/\A5/\A6/\A7/\A8/\A9/\q_/\y_/\KT/\L2/\b<a/\R):a≠b:=Nat.ne_of_gt h.2.2.2.2.2.2.2.2.2.2.2.2.2.2.1
theorem FN {A0 A1 A2 A3 A4 A5 A6 A7 A8 A9 q_ y_ KT L2 NA R:Prop} {a b:Nat} (h:A0/\A1/\A2/\A3/\A4/\A5/\A6/\A7/\A8/\A9/\q_/\y_/\KT/\L2/\NA/\a<b/\R):a≠b:=Nat.ne_of_lt h.2.2.2.2.2.2.2.2.2.2.2.2.2.2.2.1
theorem G6 {A0 A1 A2 A3 A4 A5 A6 A7 A8 A9 q_ y_ KT L2 NA R:Prop} {a b:Nat} (h:A0/\A1/\A2/\A3/\A4/\A5/\A6/\A7/\A8/\A9/\q_/\y_/\KT/\L2/\NA/\b<a/\R):a≠b:=Nat.ne_of_gt h.2.2.2.2.2.2.2.2.2.2.2.2.2.2.2.1
theorem FM {A0 A1 A2 A3 A4 A5 A6 A7 A8 A9 q_ y_ KT L2 NA Rf R:Prop} {a b:Nat} (h:A0/\A1/\A2/\A3/\A4/\A5/\A6/\A7/\A8/\A9/\q_/\y_/\KT/\L2/\NA/\Rf/\a<b/\R):a≠b:=Nat.ne_of_lt h.2.2.2.2.2.2.2.2.2.2.2.2.2.2.2.2.1
theorem G5 {A0 A1 A2 A3 A4 A5 A6 A7 A8 A9 q_ y_ KT L2 NA Rf R:Prop} {a b:Nat} (h:A0/\A1/\A2/\A3/\A4/\A5/\A6/\A7/\A8/\A9/\q_/\y_/\KT/\L2/\NA/\Rf/\b<a/\R):a≠b:=Nat.ne_of_gt h.2.2.2.2.2.2.2.2.2.2.2.2.2.2.2.2.1
theorem r7 {α:Type} (P:α->Prop) (a:α):Nonempty {x // P x->∀y,P y}:=(Classical.em (∀y,P y)).elim (fun h=>⟨⟨a,fun _=>h⟩⟩) fun h=>(Classical.not_forall.mp h).elim fun x hx=>⟨⟨x,fun k=>absurd k hx⟩⟩
noncomputable def bA {α:Type} (P:α->Prop) (a:α):α:=(Classical.choice (r7 P a)).1
theorem eA {α:Type} {P:α->Prop} (a:α) (h:P (bA P a)) (x:α):P x:=(Classical.choice (r7 P a)).2 h x
theorem aB {α:Type} {a b:α} {l:List α} (h:a∈b::l):a=b\/a∈l:=List.mem_cons.mp h
theorem aE {α:Type} {a:α} {s t:List α} (h:a∈s++t):a∈s\/a∈t:=List.mem_append.mp h
theorem br {α:Type} {a b:α} (h:a∈[b]):a=b:=List.mem_singleton.mp h
theorem aP {α β:Type} {b:β} {l:List α} {f:α->β} (h:b∈l.map f):∃a,a∈l/\f a=b:=List.mem_map.mp h
theorem aQ {α:Type} {p:α->Prop} {a:α} {l:List α} (h:p a/\∀x,x∈l->p x):∀x,x∈a::l->p x:=List.forall_mem_cons.mpr h
theorem aL {α:Type} {a:α} {s:List α} (t:List α) (h:a∈s):a∈s++t:=List.mem_append_left t h
theorem ay {α:Type} {a:α} (s:List α) {t:List α} (h:a∈t):a∈s++t:=List.mem_append_right s h
section
variable {T0 T1 T2:Type} (R:T0->T1->T2->Prop)
noncomputable abbrev gO (t:(T0×T1×T2)):Prop:=R t.1 t.2.1 t.2.2
noncomputable def jH:Prop:=∀x0 x1 x2,R x0 x1 x2
theorem lq {a c:(T0×T1×T2)} (e:c=bA (gO R) a) (h:gO R c):jH R:=fun x0 x1 x2=>eA (P:=gO R) a (e▸h) (x0,x1,x2)
end
section
variable {T0 T1 T2 T3 T4 T5:Type} (R:T0->T1->T2->T3->T4->T5->Prop)
noncomputable abbrev jF (t:(T0×T1×T2×T3×T4×T5)):Prop:=R t.1 t.2.1 t.2.2.1 t.2.2.2.1 t.2.2.2.2.1 t.2.2.2.2.2
noncomputable def pA:Prop:=∀x0 x1 x2 x3 x4 x5,R x0 x1 x2 x3 x4 x5
theorem rY {a c:(T0×T1×T2×T3×T4×T5)} (e:c=bA (jF R) a) (h:jF R c):pA R:=fun x0 x1 x2 x3 x4 x5=>eA (P:=jF R) a (e▸h) (x0,x1,x2,x3,x4,x5)
end
section
variable {T0 T1 T2 T3 T4 T5 T6 T7 T8:Type} (R:T0->T1->T2->T3->T4->T5->T6->T7->T8->Prop)
noncomputable abbrev jE (t:(T0×T1×T2×T3×T4×T5×T6×T7)×T8):Prop:=R t.1.1 t.1.2.1 t.1.2.2.1 t.1.2.2.2.1 t.1.2.2.2.2.1 t.1.2.2.2.2.2.1 t.1.2.2.2.2.2.2.1 t.1.2.2.2.2.2.2.2 t.2
noncomputable def lX:Prop:=∀x0 x1 x2 x3 x4 x5 x6 x7 x8,R x0 x1 x2 x3 x4 x5 x6 x7 x8
theorem ot {a c:(T0×T1×T2×T3×T4×T5×T6×T7)×T8} (e:c=bA (jE R) a) (h:jE R c):lX R:=fun x0 x1 x2 x3 x4 x5 x6 x7 x8=>eA (P:=jE R) a (e▸h) ((x0,x1,x2,x3,x4,x5,x6,x7),x8)
end
section
variable {T0 T1 T2 T3 T4 T5 T6 T7 T8 T9 KZ KS KR K7 KV K_ KQ:Type} (R:T0->T1->T2->T3->T4->T5->T6->T7->T8->T9->KZ->KS->KR->K7->KV->K_->KQ->Prop)
noncomputable abbrev gQ (t:(T0×T1×T2×T3×T4×T5×T6×T7)×(T8×T9×KZ×KS×KR×K7×KV×K_)×KQ):Prop:=R t.1.1 t.1.2.1 t.1.2.2.1 t.1.2.2.2.1 t.1.2.2.2.2.1 t.1.2.2.2.2.2.1 t.1.2.2.2.2.2.2.1 t.1.2.2.2.2.2.2.2 t.2.1.1 t.2.1.2.1 t.2.1.2.2.1 t.2.1.2.2.2.1 t.2.1.2.2.2.2.1 t.2.1.2.2.2.2.2.1 t.2.1.2.2.2.2.2.2.1 t.2.1.2.2.2.2.2.2.2 t.2.2
noncomputable def eE:Prop:=∀x0 x1 x2 x3 x4 x5 x6 x7 x8 x9 K5 Lc KW KY K8 Ld K1,R x0 x1 x2 x3 x4 x5 x6 x7 x8 x9 K5 Lc KW KY K8 Ld K1
theorem eO {a c:(T0×T1×T2×T3×T4×T5×T6×T7)×(T8×T9×KZ×KS×KR×K7×KV×K_)×KQ} (e:c=bA (gQ R) a) (h:gQ R c):eE R:=fun x0 x1 x2 x3 x4 x5 x6 x7 x8 x9 K5 Lc KW KY K8 Ld K1=>eA (P:=gQ R) a (e▸h) ((x0,x1,x2,x3,x4,x5,x6,x7),(x8,x9,K5,Lc,KW,KY,K8,Ld),K1)
end
section
variable {T0 T1 T2 T3 T4 T5 T6 T7 T8 T9 KZ KS KR K7 KV K_ KQ LD LN LI:Type} (R:T0->T1->T2->T3->T4->T5->T6->T7->T8->T9->KZ->KS->KR->K7->KV->K_->KQ->LD->LN->LI->Prop)
noncomputable abbrev gP (t:(T0×T1×T2×T3×T4×T5×T6×T7)×(T8×T9×KZ×KS×KR×K7×KV×K_)×(KQ×LD×LN×LI)):Prop:=R t.1.1 t.1.2.1 t.1.2.2.1 t.1.2.2.2.1 t.1.2.2.2.2.1 t.1.2.2.2.2.2.1 t.1.2.2.2.2.2.2.1 t.1.2.2.2.2.2.2.2 t.2.1.1 t.2.1.2.1 t.2.1.2.2.1 t.2.1.2.2.2.1 t.2.1.2.2.2.2.1 t.2.1.2.2.2.2.2.1 t.2.1.2.2.2.2.2.2.1 t.2.1.2.2.2.2.2.2.2 t.2.2.1 t.2.2.2.1 t.2.2.2.2.1 t.2.2.2.2.2
noncomputable def gl:Prop:=∀x0 x1 x2 x3 x4 x5 x6 x7 x8 x9 K5 Lc KW KY K8 Ld K1 LO LK LL,R x0 x1 x2 x3 x4 x5 x6 x7 x8 x9 K5 Lc KW KY K8 Ld K1 LO LK LL
theorem gB {a c:(T0×T1×T2×T3×T4×T5×T6×T7)×(T8×T9×KZ×KS×KR×K7×KV×K_)×(KQ×LD×LN×LI)} (e:c=bA (gP R) a) (h:gP R c):gl R:=fun x0 x1 x2 x3 x4 x5 x6 x7 x8 x9 K5 Lc KW KY K8 Ld K1 LO LK LL=>eA (P:=gP R) a (e▸h) ((x0,x1,x2,x3,x4,x5,x6,x7),(x8,x9,K5,Lc,KW,KY,K8,Ld),(K1,LO,LK,LL))
end
section
variable {T0 T1 T2 T3 T4 T5 T6 T7 T8 T9 KZ KS KR K7 KV K_ KQ LD LN LI L_ L5 Mb:Type} (R:T0->T1->T2->T3->T4->T5->T6->T7->T8->T9->KZ->KS->KR->K7->KV->K_->KQ->LD->LN->LI->L_->L5->Mb->Prop)
noncomputable abbrev gk (t:(T0×T1×T2×T3×T4×T5×T6×T7)×(T8×T9×KZ×KS×KR×K7×KV×K_)×(KQ×LD×LN×LI×L_×L5×Mb)):Prop:=R t.1.1 t.1.2.1 t.1.2.2.1 t.1.2.2.2.1 t.1.2.2.2.2.1 t.1.2.2.2.2.2.1 t.1.2.2.2.2.2.2.1 t.1.2.2.2.2.2.2.2 t.2.1.1 t.2.1.2.1 t.2.1.2.2.1 t.2.1.2.2.2.1 t.2.1.2.2.2.2.1 t.2.1.2.2.2.2.2.1 t.2.1.2.2.2.2.2.2.1 t.2.1.2.2.2.2.2.2.2 t.2.2.1 t.2.2.2.1 t.2.2.2.2.1 t.2.2.2.2.2.1 t.2.2.2.2.2.2.1 t.2.2.2.2.2.2.2.1 t.2.2.2.2.2.2.2.2
noncomputable def eZ:Prop:=∀x0 x1 x2 x3 x4 x5 x6 x7 x8 x9 K5 Lc KW KY K8 Ld K1 LO LK LL L3 L9 L8,R x0 x1 x2 x3 x4 x5 x6 x7 x8 x9 K5 Lc KW KY K8 Ld K1 LO LK LL L3 L9 L8
theorem fp {a c:(T0×T1×T2×T3×T4×T5×T6×T7)×(T8×T9×KZ×KS×KR×K7×KV×K_)×(KQ×LD×LN×LI×L_×L5×Mb)} (e:c=bA (gk R) a) (h:gk R c):eZ R:=fun x0 x1 x2 x3 x4 x5 x6 x7 x8 x9 K5 Lc KW KY K8 Ld K1 LO LK LL L3 L9 L8=>eA (P:=gk R) a (e▸h) ((x0,x1,x2,x3,x4,x5,x6,x7),(x8,x9,K5,Lc,KW,KY,K8,Ld),(K1,LO,LK,LL,L3,L9,L8))
end
section
variable {T0 T1 T2 T3 T4 T5 T6 T7 T8 T9 KZ KS KR K7 KV K_ KQ LD LN LI L_ L5 Mb MX M4 MY ML MK M_ M8 MZ MG:Type} (R:T0->T1->T2->T3->T4->T5->T6->T7->T8->T9->KZ->KS->KR->K7->KV->K_->KQ->LD->LN->LI->L_->L5->Mb->MX->M4->MY->ML->MK->M_->M8->MZ->MG->Prop)
noncomputable abbrev gj (t:(T0×T1×T2×T3×T4×T5×T6×T7)×(T8×T9×KZ×KS×KR×K7×KV×K_)×(KQ×LD×LN×LI×L_×L5×Mb×MX)×(M4×MY×ML×MK×M_×M8×MZ×MG)):Prop:=R t.1.1 t.1.2.1 t.1.2.2.1 t.1.2.2.2.1 t.1.2.2.2.2.1 t.1.2.2.2.2.2.1 t.1.2.2.2.2.2.2.1 t.1.2.2.2.2.2.2.2 t.2.1.1 t.2.1.2.1 t.2.1.2.2.1 t.2.1.2.2.2.1 t.2.1.2.2.2.2.1 t.2.1.2.2.2.2.2.1 t.2.1.2.2.2.2.2.2.1 t.2.1.2.2.2.2.2.2.2 t.2.2.1.1 t.2.2.1.2.1 t.2.2.1.2.2.1 t.2.2.1.2.2.2.1 t.2.2.1.2.2.2.2.1 t.2.2.1.2.2.2.2.2.1 t.2.2.1.2.2.2.2.2.2.1 t.2.2.1.2.2.2.2.2.2.2 t.2.2.2.1 t.2.2.2.2.1 t.2.2.2.2.2.1 t.2.2.2.2.2.2.1 t.2.2.2.2.2.2.2.1 t.2.2.2.2.2.2.2.2.1 t.2.2.2.2.2.2.2.2.2.1 t.2.2.2.2.2.2.2.2.2.2
noncomputable def gR:Prop:=∀x0 x1 x2 x3 x4 x5 x6 x7 x8 x9 K5 Lc KW KY K8 Ld K1 LO LK LL L3 L9 L8 M7 MJ M2 MQ MN MR MO MM M1,R x0 x1 x2 x3 x4 x5 x6 x7 x8 x9 K5 Lc KW KY K8 Ld K1 LO LK LL L3 L9 L8 M7 MJ M2 MQ MN MR MO MM M1
theorem ii {a c:(T0×T1×T2×T3×T4×T5×T6×T7)×(T8×T9×KZ×KS×KR×K7×KV×K_)×(KQ×LD×LN×LI×L_×L5×Mb×MX)×(M4×MY×ML×MK×M_×M8×MZ×MG)} (e:c=bA (gj R) a) (h:gj R c):gR R:=fun x0 x1 x2 x3 x4 x5 x6 x7 x8 x9 K5 Lc KW KY K8 Ld K1 LO LK LL L3 L9 L8 M7 MJ M2 MQ MN MR MO MM M1=>eA (P:=gj R) a (e▸h) ((x0,x1,x2,x3,x4,x5,x6,x7),(x8,x9,K5,Lc,KW,KY,K8,Ld),(K1,LO,LK,LL,L3,L9,L8,M7),(MJ,M2,MQ,MN,MR,MO,MM,M1))
end
section
variable {T0 T1 T2 T3 T4 T5 T6 T7 T8 T9 KZ KS KR K7 KV K_ KQ LD LN LI L_ L5 Mb MX M4 MY ML MK M_ M8 MZ MG Ou OA ON OC OI OJ Oz Om:Type} (R:T0->T1->T2->T3->T4->T5->T6->T7->T8->T9->KZ->KS->KR->K7->KV->K_->KQ->LD->LN->LI->L_->L5->Mb->MX->M4->MY->ML->MK->M_->M8->MZ->MG->Ou->OA->ON->OC->OI->OJ->Oz->Om->Prop)
noncomputable abbrev iD (t:(T0×T1×T2×T3×T4×T5×T6×T7)×(T8×T9×KZ×KS×KR×K7×KV×K_)×(KQ×LD×LN×LI×L_×L5×Mb×MX)×(M4×MY×ML×MK×M_×M8×MZ×MG)×(Ou×OA×ON×OC×OI×OJ×Oz×Om)):Prop:=R t.1.1 t.1.2.1 t.1.2.2.1 t.1.2.2.2.1 t.1.2.2.2.2.1 t.1.2.2.2.2.2.1 t.1.2.2.2.2.2.2.1 t.1.2.2.2.2.2.2.2 t.2.1.1 t.2.1.2.1 t.2.1.2.2.1 t.2.1.2.2.2.1 t.2.1.2.2.2.2.1 t.2.1.2.2.2.2.2.1 t.2.1.2.2.2.2.2.2.1 t.2.1.2.2.2.2.2.2.2 t.2.2.1.1 t.2.2.1.2.1 t.2.2.1.2.2.1 t.2.2.1.2.2.2.1 t.2.2.1.2.2.2.2.1 t.2.2.1.2.2.2.2.2.1 t.2.2.1.2.2.2.2.2.2.1 t.2.2.1.2.2.2.2.2.2.2 t.2.2.2.1.1 t.2.2.2.1.2.1 t.2.2.2.1.2.2.1 t.2.2.2.1.2.2.2.1 t.2.2.2.1.2.2.2.2.1 t.2.2.2.1.2.2.2.2.2.1 t.2.2.2.1.2.2.2.2.2.2.1 t.2.2.2.1.2.2.2.2.2.2.2 t.2.2.2.2.1 t.2.2.2.2.2.1 t.2.2.2.2.2.2.1 t.2.2.2.2.2.2.2.1 t.2.2.2.2.2.2.2.2.1 t.2.2.2.2.2.2.2.2.2.1 t.2.2.2.2.2.2.2.2.2.2.1 t.2.2.2.2.2.2.2.2.2.2.2
noncomputable def jG:Prop:=∀x0 x1 x2 x3 x4 x5 x6 x7 x8 x9 K5 Lc KW KY K8 Ld K1 LO LK LL L3 L9 L8 M7 MJ M2 MQ MN MR MO MM M1 OL Oc On Ov Oj OE Od Op,R x0 x1 x2 x3 x4 x5 x6 x7 x8 x9 K5 Lc KW KY K8 Ld K1 LO LK LL L3 L9 L8 M7 MJ M2 MQ MN MR MO MM M1 OL Oc On Ov Oj OE Od Op
theorem lm {a c:(T0×T1×T2×T3×T4×T5×T6×T7)×(T8×T9×KZ×KS×KR×K7×KV×K_)×(KQ×LD×LN×LI×L_×L5×Mb×MX)×(M4×MY×ML×MK×M_×M8×MZ×MG)×(Ou×OA×ON×OC×OI×OJ×Oz×Om)} (e:c=bA (iD R) a) (h:iD R c):jG R:=fun x0 x1 x2 x3 x4 x5 x6 x7 x8 x9 K5 Lc KW KY K8 Ld K1 LO LK LL L3 L9 L8 M7 MJ M2 MQ MN MR MO MM M1 OL Oc On Ov Oj OE Od Op=>eA (P:=iD R) a (e▸h) ((x0,x1,x2,x3,x4,x5,x6,x7),(x8,x9,K5,Lc,KW,KY,K8,Ld),(K1,LO,LK,LL,L3,L9,L8,M7),(MJ,M2,MQ,MN,MR,MO,MM,M1),(OL,Oc,On,Ov,Oj,OE,Od,Op))
end
section
variable {T0 T1 T2 T3 T4 T5 T6 T7 T8 T9 KZ KS KR K7 KV K_ KQ LD LN LI L_ L5 Mb MX M4 MY ML MK M_ M8 MZ MG Ou OA ON OC OI OJ Oz Om Q9 Qt QQ Rb QE Q4 QA Q1:Type} (R:T0->T1->T2->T3->T4->T5->T6->T7->T8->T9->KZ->KS->KR->K7->KV->K_->KQ->LD->LN->LI->L_->L5->Mb->MX->M4->MY->ML->MK->M_->M8->MZ->MG->Ou->OA->ON->OC->OI->OJ->Oz->Om->Q9->Qt->QQ->Rb->QE->Q4->QA->Q1->Prop)
noncomputable abbrev iC (t:(T0×T1×T2×T3×T4×T5×T6×T7)×(T8×T9×KZ×KS×KR×K7×KV×K_)×(KQ×LD×LN×LI×L_×L5×Mb×MX)×(M4×MY×ML×MK×M_×M8×MZ×MG)×(Ou×OA×ON×OC×OI×OJ×Oz×Om)×(Q9×Qt×QQ×Rb×QE×Q4×QA×Q1)):Prop:=R t.1.1 t.1.2.1 t.1.2.2.1 t.1.2.2.2.1 t.1.2.2.2.2.1 t.1.2.2.2.2.2.1 t.1.2.2.2.2.2.2.1 t.1.2.2.2.2.2.2.2 t.2.1.1 t.2.1.2.1 t.2.1.2.2.1 t.2.1.2.2.2.1 t.2.1.2.2.2.2.1 t.2.1.2.2.2.2.2.1 t.2.1.2.2.2.2.2.2.1 t.2.1.2.2.2.2.2.2.2 t.2.2.1.1 t.2.2.1.2.1 t.2.2.1.2.2.1 t.2.2.1.2.2.2.1 t.2.2.1.2.2.2.2.1 t.2.2.1.2.2.2.2.2.1 t.2.2.1.2.2.2.2.2.2.1 t.2.2.1.2.2.2.2.2.2.2 t.2.2.2.1.1 t.2.2.2.1.2.1 t.2.2.2.1.2.2.1 t.2.2.2.1.2.2.2.1 t.2.2.2.1.2.2.2.2.1 t.2.2.2.1.2.2.2.2.2.1 t.2.2.2.1.2.2.2.2.2.2.1 t.2.2.2.1.2.2.2.2.2.2.2 t.2.2.2.2.1.1 t.2.2.2.2.1.2.1 t.2.2.2.2.1.2.2.1 t.2.2.2.2.1.2.2.2.1 t.2.2.2.2.1.2.2.2.2.1 t.2.2.2.2.1.2.2.2.2.2.1 t.2.2.2.2.1.2.2.2.2.2.2.1 t.2.2.2.2.1.2.2.2.2.2.2.2 t.2.2.2.2.2.1 t.2.2.2.2.2.2.1 t.2.2.2.2.2.2.2.1 t.2.2.2.2.2.2.2.2.1 t.2.2.2.2.2.2.2.2.2.1 t.2.2.2.2.2.2.2.2.2.2.1 t.2.2.2.2.2.2.2.2.2.2.2.1 t.2.2.2.2.2.2.2.2.2.2.2.2
noncomputable def lZ:Prop:=∀x0 x1 x2 x3 x4 x5 x6 x7 x8 x9 K5 Lc KW KY K8 Ld K1 LO LK LL L3 L9 L8 M7 MJ M2 MQ MN MR MO MM M1 OL Oc On Ov Oj OE Od Op QG Q7 QV QN QK Qo Qu Qz,R x0 x1 x2 x3 x4 x5 x6 x7 x8 x9 K5 Lc KW KY K8 Ld K1 LO LK LL L3 L9 L8 M7 MJ M2 MQ MN MR MO MM M1 OL Oc On Ov Oj OE Od Op QG Q7 QV QN QK Qo Qu Qz
theorem oz {a c:(T0×T1×T2×T3×T4×T5×T6×T7)×(T8×T9×KZ×KS×KR×K7×KV×K_)×(KQ×LD×LN×LI×L_×L5×Mb×MX)×(M4×MY×ML×MK×M_×M8×MZ×MG)×(Ou×OA×ON×OC×OI×OJ×Oz×Om)×(Q9×Qt×QQ×Rb×QE×Q4×QA×Q1)} (e:c=bA (iC R) a) (h:iC R c):lZ R:=fun x0 x1 x2 x3 x4 x5 x6 x7 x8 x9 K5 Lc KW KY K8 Ld K1 LO LK LL L3 L9 L8 M7 MJ M2 MQ MN MR MO MM M1 OL Oc On Ov Oj OE Od Op QG Q7 QV QN QK Qo Qu Qz=>eA (P:=iC R) a (e▸h) ((x0,x1,x2,x3,x4,x5,x6,x7),(x8,x9,K5,Lc,KW,KY,K8,Ld),(K1,LO,LK,LL,L3,L9,L8,M7),(MJ,M2,MQ,MN,MR,MO,MM,M1),(OL,Oc,On,Ov,Oj,OE,Od,Op),(QG,Q7,QV,QN,QK,Qo,Qu,Qz))
end
section
variable {T0 T1 T2 T3 T4 T5 T6 T7 T8 T9 KZ KS KR K7 KV K_ KQ LD LN LI L_ L5 Mb MX M4 MY ML MK M_ M8 MZ MG Ou OA ON OC OI OJ Oz Om Q9 Qt QQ Rb QE Q4 QA Q1 Wh Vf VY V4 U0 VO VV Vu:Type} (R:T0->T1->T2->T3->T4->T5->T6->T7->T8->T9->KZ->KS->KR->K7->KV->K_->KQ->LD->LN->LI->L_->L5->Mb->MX->M4->MY->ML->MK->M_->M8->MZ->MG->Ou->OA->ON->OC->OI->OJ->Oz->Om->Q9->Qt->QQ->Rb->QE->Q4->QA->Q1->Wh->Vf->VY->V4->U0->VO->VV->Vu->Prop)
noncomputable abbrev iB (t:(T0×T1×T2×T3×T4×T5×T6×T7)×(T8×T9×KZ×KS×KR×K7×KV×K_)×(KQ×LD×LN×LI×L_×L5×Mb×MX)×(M4×MY×ML×MK×M_×M8×MZ×MG)×(Ou×OA×ON×OC×OI×OJ×Oz×Om)×(Q9×Qt×QQ×Rb×QE×Q4×QA×Q1)×(Wh×Vf×VY×V4×U0×VO×VV×Vu)):Prop:=R t.1.1 t.1.2.1 t.1.2.2.1 t.1.2.2.2.1 t.1.2.2.2.2.1 t.1.2.2.2.2.2.1 t.1.2.2.2.2.2.2.1 t.1.2.2.2.2.2.2.2 t.2.1.1 t.2.1.2.1 t.2.1.2.2.1 t.2.1.2.2.2.1 t.2.1.2.2.2.2.1 t.2.1.2.2.2.2.2.1 t.2.1.2.2.2.2.2.2.1 t.2.1.2.2.2.2.2.2.2 t.2.2.1.1 t.2.2.1.2.1 t.2.2.1.2.2.1 t.2.2.1.2.2.2.1 t.2.2.1.2.2.2.2.1 t.2.2.1.2.2.2.2.2.1 t.2.2.1.2.2.2.2.2.2.1 t.2.2.1.2.2.2.2.2.2.2 t.2.2.2.1.1 t.2.2.2.1.2.1 t.2.2.2.1.2.2.1 t.2.2.2.1.2.2.2.1 t.2.2.2.1.2.2.2.2.1 t.2.2.2.1.2.2.2.2.2.1 t.2.2.2.1.2.2.2.2.2.2.1 t.2.2.2.1.2.2.2.2.2.2.2 t.2.2.2.2.1.1 t.2.2.2.2.1.2.1 t.2.2.2.2.1.2.2.1 t.2.2.2.2.1.2.2.2.1 t.2.2.2.2.1.2.2.2.2.1 t.2.2.2.2.1.2.2.2.2.2.1 t.2.2.2.2.1.2.2.2.2.2.2.1 t.2.2.2.2.1.2.2.2.2.2.2.2 t.2.2.2.2.2.1.1 t.2.2.2.2.2.1.2.1 t.2.2.2.2.2.1.2.2.1 t.2.2.2.2.2.1.2.2.2.1 t.2.2.2.2.2.1.2.2.2.2.1 t.2.2.2.2.2.1.2.2.2.2.2.1 t.2.2.2.2.2.1.2.2.2.2.2.2.1 t.2.2.2.2.2.1.2.2.2.2.2.2.2 t.2.2.2.2.2.2.1 t.2.2.2.2.2.2.2.1 t.2.2.2.2.2.2.2.2.1 t.2.2.2.2.2.2.2.2.2.1 t.2.2.2.2.2.2.2.2.2.2.1 t.2.2.2.2.2.2.2.2.2.2.2.1 t.2.2.2.2.2.2.2.2.2.2.2.2.1 t.2.2.2.2.2.2.2.2.2.2.2.2.2
noncomputable def lY:Prop:=∀x0 x1 x2 x3 x4 x5 x6 x7 x8 x9 K5 Lc KW KY K8 Ld K1 LO LK LL L3 L9 L8 M7 MJ M2 MQ MN MR MO MM M1 OL Oc On Ov Oj OE Od Op QG Q7 QV QN QK Qo Qu Qz Wx Vk WJ VP WP Vr W6 Vc,R x0 x1 x2 x3 x4 x5 x6 x7 x8 x9 K5 Lc KW KY K8 Ld K1 LO LK LL L3 L9 L8 M7 MJ M2 MQ MN MR MO MM M1 OL Oc On Ov Oj OE Od Op QG Q7 QV QN QK Qo Qu Qz Wx Vk WJ VP WP Vr W6 Vc
theorem ov {a c:(T0×T1×T2×T3×T4×T5×T6×T7)×(T8×T9×KZ×KS×KR×K7×KV×K_)×(KQ×LD×LN×LI×L_×L5×Mb×MX)×(M4×MY×ML×MK×M_×M8×MZ×MG)×(Ou×OA×ON×OC×OI×OJ×Oz×Om)×(Q9×Qt×QQ×Rb×QE×Q4×QA×Q1)×(Wh×Vf×VY×V4×U0×VO×VV×Vu)} (e:c=bA (iB R) a) (h:iB R c):lY R:=fun x0 x1 x2 x3 x4 x5 x6 x7 x8 x9 K5 Lc KW KY K8 Ld K1 LO LK LL L3 L9 L8 M7 MJ M2 MQ MN MR MO MM M1 OL Oc On Ov Oj OE Od Op QG Q7 QV QN QK Qo Qu Qz Wx Vk WJ VP WP Vr W6 Vc=>eA (P:=iB R) a (e▸h) ((x0,x1,x2,x3,x4,x5,x6,x7),(x8,x9,K5,Lc,KW,KY,K8,Ld),(K1,LO,LK,LL,L3,L9,L8,M7),(MJ,M2,MQ,MN,MR,MO,MM,M1),(OL,Oc,On,Ov,Oj,OE,Od,Op),(QG,Q7,QV,QN,QK,Qo,Qu,Qz),(Wx,Vk,WJ,VP,WP,Vr,W6,Vc))
end
noncomputable def flagTab:List (Int×Str):=[(1,ofString "OPTIMIZED"),(2,ofString "NEWLOCALS"),(4,ofString "VARARGS"),(8,ofString "VARKEYWORDS"),(16,ofString "NESTED"),(32,ofString "GENERATOR"),(64,ofString "NOFREE"),(128,ofString "COROUTINE"),(256,ofString "ITERABLE_COROUTINE"),(512,ofString "ASYNC_GENERATOR")]
noncomputable def eY (k:Int) (x:Str):List (Int×Str)->Str
 |[]=>x
 |p::r=>if k=p.1 then p.2 else eY k x r
noncomputable def eW (k:Int) (x:Str):Str:=eY k x flagTab
noncomputable def dF (p:Int):Str:=baseText "0x" 16 p
noncomputable def aV (p:Int):Str:=eW p (dF p)
noncomputable def df (n:Int) (i:Nat):Bool:=decide (n / 2 ^ i % 2=1)
noncomputable def cN (n:Int) (i:Nat):List Nat:=(List.range i).filter (df n)
noncomputable def bS (n:Int) (i:Nat):Int:=n / 2 ^ i*2 ^ i
noncomputable def cI (i:Nat):Int:=2 ^ i
noncomputable def cL (n:Int):List Int:=(cN n 32).map cI++(if bS n 32≠0\/cN n 32=[] then [bS n 32] else [])
noncomputable def bR (n:Int):List Str:=(cL n).map aV
noncomputable def cG (n:Int) (i:Nat):List Str:=(cN n i).map fun j=>aV (cI j)
theorem lH (n:Int) (i:Nat):cN n (i+1)=cN n i++if df n i then [i] else []:=by
 unfold cN;rw [List.range_succ,List.filter_append];simp [List.filter_cons]
theorem oV {n:Int} {i:Nat} (h:df n i=true):cG n (i+1)=cG n i++[aV (cI i)]:=by
 unfold cG;rw [lH,if_pos h];simp
theorem oW {n:Int} {i:Nat} (h:df n i=false):cG n (i+1)=cG n i:=by
 unfold cG;rw [lH,if_neg (by simp [h])];simp
theorem fH (i:Nat):(0:Int)<2 ^ i:=kbt_pos i
theorem pu (n:Int) (i:Nat):Builtin.bitAnd (bS n i) (2 ^ i)=if df n i then 2 ^ i else 0:=by
 rw [kbt_bit]
 have h:bS n i / 2 ^ i=n / 2 ^ i:=by
  unfold bS;exact Int.mul_ediv_cancel _ (Int.ne_of_gt (fH i))
 rw [h];unfold df;have h2:=Int.emod_two_eq (n / 2 ^ i)
 revert h2;refine gE (fun h2=>?_) fun h2=>?_<;>simp [h2]
theorem po (n:Int) (i:Nat):bS n (i+1)=bS n i - if df n i then 2 ^ i else 0:=by
 unfold bS df
 have e:(2:Int) ^ (i+1)=2 ^ i*2:=by rw [Int.pow_succ]
 rw [e,<-Int.ediv_ediv_of_nonneg (Int.le_of_lt (fH i))];generalize n / 2 ^ i=q;have h:=Int.emod_two_eq q
 have hq:q=q / 2*2+q % 2:=by exact C6
 revert h;refine gE (fun h=>?_) fun h=>?_
 ·simp only [h,decide_eq_true_eq]
  have:q / 2*2=q:=by exact C5 h
  rw [Int.mul_comm (2 ^ i) 2,<-Int.mul_assoc,this];simp
 ·simp only [h,decide_true,if_true]
  have:q / 2*2=q - 1:=by exact C4 h
  rw [Int.mul_comm (2 ^ i) 2,<-Int.mul_assoc,this,Int.sub_mul,Int.one_mul]
theorem mC {n:Int} {i:Nat} (h:df n i=true):Builtin.bitXor (bS n i) (2 ^ i)=bS n (i+1):=by
 rw [bitXor_and,pu,po,if_pos h];exact C3
theorem Ie (n:Int):bS n 0=n:=by unfold bS;simp
theorem uq (n:Int) (i:Nat) (h:n.natAbs<2 ^ 100) (hi:i<=32):(bS n i).natAbs<2 ^ 200:=by
 unfold bS;have h1:=Int.emod_nonneg n (Int.ne_of_gt (fH i));have h2:=Int.emod_lt_of_pos n (fH i);have h3:=Int.mul_ediv_add_emod n (2 ^ i);rw [Int.mul_comm] at h3
 have h4:(2:Int) ^ i<=2 ^ 32:=by
  have:=Nat.pow_le_pow_right (by decide:0<2) hi
  exact_mod_cast this
 generalize n / 2 ^ i*2 ^ i=q at *;generalize (2:Int) ^ i=z at *
 have e:(2:Nat) ^ 100<2 ^ 200:=by decide
 have e1:(2:Nat) ^ 100+2 ^ 32<2 ^ 200:=by decide
 have e2:(2:Int) ^ 32=((2 ^ 32:Nat):Int):=by norm_cast
 exact C1 h h3 h1 h2 h4
theorem lowW_nil {n:Int} {i:Nat}:cG n i=[]↔cN n i=[]:=by unfold cG;simp
theorem tO {k:Int} {x:Str} (hx:x.length<=60):∀{l:List (Int×Str)},(∀p∈l,p.2.length<=60)->(eY k x l).length<=60
 |[],_=>hx
 |p::r,h=>by
  unfold eY
  split
  ·exact h p (.head _)
  ·exact tO hx fun q hq=>h q (.tail _ hq)
theorem Hs:∀p∈flagTab,p.2.length<=60:=by decide+kernel
theorem ty {i:Int} (h:i.natAbs<2 ^ 200):(dF i).length<=53:=by
 have h1:i.natAbs<16 ^ 50:=by
  have e:(16:Nat) ^ 50=2 ^ 200:=by decide
  rw [e];exact h
 have h2:=toDigits_len_pow (by decide:2<=16) (by decide:1<=50) h1;unfold dF baseText;rw [Str.length_append,Str.length_append];have h5:(ofString (String.ofList (Nat.toDigits 16 i.natAbs))).length=(Nat.toDigits 16 i.natAbs).length:=ofString_ofList_length ..
 have h3:(ofString (if i<0 then "-" else "")).length<=1:=by
  split<;>(rw [PyProof.Rows.ofString_len];decide)
 have h4:(ofString "0x").length=2:=by rw [PyProof.Rows.ofString_len];rfl
 exact C0 h4 h5 h3 h2
theorem dm {p:Int} (h:p.natAbs<2 ^ 200):(aV p).length<=60:=tO (Nat.le_trans (ty h) (by decide)) Hs
theorem oo {i:Nat} (hi:i<=100):(cI i).natAbs<2 ^ 200:=by
 unfold cI
 have h:((2:Int) ^ i).natAbs=2 ^ i:=by rw [Int.natAbs_pow];rfl
 rw [h];exact Nat.pow_lt_pow_right (by decide) (CZ hi)
theorem mX (l:List Str) (x:Str):((l++[x]).map (·.length)).sum=(l.map (·.length)).sum+x.length:=by simp
theorem oU (n:Int):∀i,i<=32->((cG n i).map (·.length)).sum<=60*i/\(cG n i).length<=i
 |0,_=>by simp [cG,cN]
 |i+1,h=>by
  have ih:=oU n i (CY h)
  cases hb:df n i with
  |true=>
   rw [oV hb,mX,List.length_append];have:=dm (oo (CX h:i<=100));simp;exact CW ih.1 this ih.2
  |false=>rw [oW hb];exact CV ih.1 ih.2
theorem tN {k:Int} {x:Str}:∀{l:List (Int×Str)},(∀p∈l,k≠p.1)->eY k x l=x
 |[],_=>rfl
 |p::r,h=>by
  unfold eY;rw [if_neg (h p (.head _))];exact tN fun q hq=>h q (.tail _ hq)
theorem Ht:∀p∈flagTab,1<=p.1/\p.1<=512:=by decide+kernel
theorem vX (n:Int):aV (bS n 32)=dF (bS n 32):=by
 refine tN fun p hp e=>?_;have h:=Ht p hp;have e2:bS n 32=n / 2 ^ 32*4294967296:=rfl;exact CU h.1 e2 e h.2
theorem vV {n:Int} (h:cG n 32=[]\/bS n 32≠0):cG n 32++[dF (bS n 32)]=bR n:=by
 have h':bS n 32≠0\/cN n 32=[]:=h.symm.imp id lowW_nil.mp;unfold bR cL;rw [if_pos h',List.map_append];simp only [List.map_map,List.map_cons,List.map_nil,vX];rfl
theorem sM {n:Int} {i:Nat} (h:bS n i=0):∀k,cN n (i+k)=cN n i/\bS n (i+k)=0
 |0=>⟨rfl,h⟩
 |k+1=>by
  have ih:=sM h k
  have hq:n / 2 ^ (i+k)=0:=by
   have:=ih.2;unfold bS at this;refine Or.elim (Int.mul_eq_zero.mp this) (fun e=>?_) fun e=>?_
   ·exact e
   ·exact absurd e (Int.ne_of_gt (fH _))
  have hb:df n (i+k)=false:=by unfold df;rw [hq];rfl
  refine ⟨?_,?_⟩
  ·rw [<-Nat.add_assoc,lH,if_neg (by simp [hb]),List.append_nil];exact ih.1
  ·rw [<-Nat.add_assoc,po,if_neg (by simp [hb])];have:=ih.2;exact CT this
theorem vW {n:Int} {i:Nat} (hi:i<32) (hb:df n i=true) (h:bS n (i+1)=0):cG n i++[aV (cI i)]=bR n:=by
 refine ak (sM h (31 - i)) fun h1 h2=>?_
 have e:i+1+(31 - i)=32:=by exact CS hi
 rw [e] at h1 h2;rw [<-oV hb]
 have dR:cN n (i+1)≠[]:=by rw [lH,if_pos hb];simp
 unfold bR cL cG;rw [h1,h2,if_neg (by simp [dR]),List.append_nil,List.map_map];rfl
theorem ut {n:Int} {i:Nat} (h:Builtin.bitAnd (bS n i) (cI i)≠0):df n i=true:=by
 cases hb:df n i with
 |true=>rfl
 |false=>rw [show cI i=2 ^ i from rfl,pu,hb] at h;exact absurd rfl h
theorem IA {n:Int} {i:Nat} (h:Builtin.bitAnd (bS n i) (cI i)=0):df n i=false:=by
 cases hb:df n i with
 |false=>rfl
 |true=>rw [show cI i=2 ^ i from rfl,pu,hb] at h;exact absurd h (Int.ne_of_gt (fH i))
theorem uo {n:Int} {i:Nat} (hb:df n i=false):bS n (i+1)=bS n i:=by rw [po,if_neg (by simp [hb])];exact CR
theorem tI {α β:Type} (p:α->Prop) [DecidablePred p] (f:α->β):∀(ks:List α) (fm:List β),ks.foldl (fun l k=>if p k then l++[f k] else l) fm=fm++(ks.filter fun k=>decide (p k)).map f
 |[],fm=>by simp
 |k::r,fm=>by
  rw [List.foldl_cons,tI p f r]
  by_cases h:p k<;>simp [h]
theorem lN (n:Int) (i:Nat):n.fdiv (2 ^ i)=n / 2 ^ i:=Int.fdiv_eq_ediv_of_nonneg n (Int.le_of_lt (fH i))
theorem oE (n:Int):List.foldl (fun l' k'=>if Builtin.bitAnd (n.fdiv (2 ^ k'.toNat)) 1=1 then l'++[2 ^ k'.toNat] else l') ([]:List Int) (rangeKs 0 (32 - 0:Int).toNat)=(cN n 32).map cI:=by
 rw [tI (fun k:Int=>Builtin.bitAnd (n.fdiv (2 ^ k.toNat)) 1=1) (fun k:Int=>(2:Int) ^ k.toNat),List.nil_append];unfold rangeKs cN;have QT:(32 - 0:Int).toNat=32:=rfl;rw [QT,List.filter_map,List.map_map]
 have h1:((fun k:Int=>decide (Builtin.bitAnd (n.fdiv (2 ^ k.toNat)) 1=1)) ∘ fun i:Nat=>(0:Int)+(i:Int))=df n:=by
  funext i
  simp only [Function.comp,Int.zero_add,Int.toNat_natCast,bitAnd_m1,lN];rfl
 have h2:((fun k:Int=>(2:Int) ^ k.toNat) ∘ fun i:Nat=>(0:Int)+(i:Int))=cI:=by
  funext i
  simp only [Function.comp,Int.zero_add,Int.toNat_natCast];rfl
 rw [h1,h2]
theorem pF (n:Int):n.fdiv (2 ^ Int.toNat 32)*2 ^ Int.toNat 32=bS n 32:=by rw [lN];rfl
theorem sc {n:Int} (h:bS n 32≠0\/cN n 32=[]):(cN n 32).map cI++[bS n 32]=cL n:=by unfold cL;rw [if_pos h]
theorem E1 {n:Int} (h:¬(bS n 32≠0\/cN n 32=[])):(cN n 32).map cI=cL n:=by unfold cL;rw [if_neg h,List.append_nil]
section
variable {n:Nat} {r:Nat->Nat} {I:Shared->Prop} {KP:Nat->Nat->(Bool->Shared->Prop)->Shared->Prop}
noncomputable def PermN (n:Nat) (p:Array Nat):Prop:=p.size=n/\p.toList.Perm (List.range n)
noncomputable def RK (r:Nat->Nat) (p:Array Nat) (i:Nat):Nat:=r (p.getD i 0)
noncomputable def fT (n:Nat) (r:Nat->Nat) (I:Shared->Prop) (KP:Nat->Nat->(Bool->Shared->Prop)->Shared->Prop):Prop:=
 ∀i j (C:Bool->Shared->Prop) s,i<n->j<n->i≠j->I s->(∀s',I s'->C (decide (r i<r j)) s')->KP i j C s
theorem PermN.lt {p:Array Nat} (h:PermN n p) {i:Nat} (hi:i<n):p.getD i 0<n:=by
 have hs:i<p.size:=by rw [h.1];exact hi
 have:p.getD i 0=p[i]:=by simp [Array.getD,hs]
 rw [this]
 have hm:p[i]∈p.toList:=by simp
 simpa using (h.2.mem_iff.mp hm)
theorem PermN.inj {p:Array Nat} (h:PermN n p) (hr:∀i j,i<n->j<n->r i=r j->i=j) {i j:Nat} (hi:i<n) (hj:j<n) (e:RK r p i=RK r p j):i=j:=by
 have hs:i<p.size:=by rw [h.1];exact hi
 have ht:j<p.size:=by rw [h.1];exact hj
 have e1:=hr _ _ (h.lt hi) (h.lt hj) e
 have a1:p.getD i 0=p[i]:=by simp [Array.getD,hs]
 have a2:p.getD j 0=p[j]:=by simp [Array.getD,ht]
 rw [a1,a2] at e1;have nd:p.toList.Nodup:=h.2.nodup_iff.mpr List.nodup_range
 have:p.toList[i]'(by simpa using hs)=p.toList[j]'(by simpa using ht):=by simpa using e1
 rw [List.nodup_iff_pairwise_ne,List.pairwise_iff_getElem] at nd
 rcases Nat.lt_trichotomy i j with q|q|q
 ·exact absurd this (nd i j _ _ q)
 ·exact q
 ·exact absurd this.symm (nd j i _ _ q)
theorem PermN.rev {p:Array Nat} (h:PermN n p) (i j:Nat):PermN n (kas_rev p i j):=⟨(mirror_size ..).trans h.1,(Array.perm_iff_toList_perm.mp (mirror_perm _ _ _ _)).trans h.2⟩
theorem PermN.bub {p:Array Nat} (h:PermN n p) (i j:Nat):PermN n (bubble p i j):=⟨(bubble_size ..).trans h.1,(Array.perm_iff_toList_perm.mp (bubble_perm _ _ _)).trans h.2⟩
theorem jw {p q:Array Nat} {i j:Nat} (h:p[i]?=q[j]?):p.getD i 0=q.getD j 0:=by
 rw [Array.getD_eq_getD_getElem?,Array.getD_eq_getD_getElem?,h]
theorem uy {p:Array Nat} {i j:Nat} (hj:j<=p.size) (k:Nat):RK r (kas_rev p i j) k=if i<=k/\k<j then RK r p (i+j - 1 - k) else RK r p k:=by
 have e:=getElem?_mirror_all (xs:=p) (i:=i) hj k;unfold RK kas_rev
 split
 ·rw [if_pos (by assumption)] at e;rw [jw e]
 ·rw [if_neg (by assumption)] at e;rw [jw e]
theorem uz {p:Array Nat} {NU d:Nat} (hs:NU<p.size) (hd:d<=NU) (k:Nat):RK r (bubble p NU d) k=if k=NU - d then RK r p NU else if NU - d<k/\k<=NU then RK r p (k - 1) else RK r p k:=by
 have e:=getElem?_bubble hs d hd k
 by_cases h1:k=NU - d
 ·rw [if_pos h1] at e ⊢;exact congrArg r (jw e)
 ·rw [if_neg h1] at e ⊢
  by_cases h2:NU - d<k/\k<=NU
  ·rw [if_pos h2] at e ⊢;exact congrArg r (jw e)
  ·rw [if_neg h2] at e ⊢;exact congrArg r (jw e)
noncomputable def Up (r:Nat->Nat) (p:Array Nat) (k:Nat):Prop:=∀i j,i<j->j<k->RK r p i<RK r p j
noncomputable def Dn (r:Nat->Nat) (p:Array Nat) (k:Nat):Prop:=∀i j,i<j->j<k->RK r p j<RK r p i
theorem PermN.ne {p:Array Nat} (h:PermN n p) {i j:Nat} (hi:i<n) (hj:j<n) (e:i≠j):p.getD i 0≠p.getD j 0:=fun q=>e (h.inj (r:=id) (fun _ _ _ _ q=>q) hi hj q)
theorem iS {α:Type} {p:Array Nat} {i j:Nat} {k:Bool->KasT α} {Q:α->Shared->Prop} {s:Shared} (hc:fT n r I KP) (h:PermN n p) (hi:i<n) (hj:j<n) (iF:i≠j) (hI:I s)
  (hk:∀s',I s'->(k (decide (RK r p i<RK r p j))).kasWp KP Q s'):(KasT.ask (p.getD i 0) (p.getD j 0) k).kasWp KP Q s:=
 hc _ _ _ _ (h.lt hi) (h.lt hj) (h.ne hi hj iF) hI hk
theorem mI (hc:fT n r I KP) (hr:∀i j,i<n->j<n->r i=r j->i=j) {p:Array Nat} (h:PermN n p) {Q:Nat->Shared->Prop}:∀(f m:Nat) (s:Shared),I s->1<=m->m+f=n->Up r p m->
  (∀m' s',I s'->m<=m'->m'<=n->Up r p m'->(m'<n->RK r p m'<RK r p (m' - 1))->Q m' s')->(kas_asc p f m).kasWp KP Q s
 |0,m,s,hI,h1,e,hu,k=>k m s hI (Nat.le_refl _) (rv e) hu (fun q=>by exact Cf e q)
 |f+1,m,s,hI,h1,e,hu,k=>by
  refine iS hc h (fY e) (iZ e) (ru h1) hI fun s' tA=>?_
  by_cases bW:RK r p m<RK r p (m - 1)
  ·rw [decide_eq_true bW,if_pos rfl]
   exact k m s' tA (Nat.le_refl _) (rt e) hu fun _=>bW
  ·rw [decide_eq_false bW,if_neg (by decide)]
   have dR:RK r p m≠RK r p (m - 1):=fun q=>by
    have:=h.inj hr (fY e) (iZ e) q;exact rq h1 this
   refine mI hc hr h f (m+1) s' tA (nK) (kZ e) ?_ fun m' r_ Ph O9 QJ Pz hl'=>k m' r_ Ph (nJ O9) QJ Pz hl';intros i j iF hj
   by_cases NS:j<m
   ·exact hu i j iF NS
   ·obtain rfl:j=m:=by exact nH hj NS
    by_cases SF:i=j - 1
    ·subst SF;exact nG dR bW
    ·have:=hu i (j - 1) (rp iF SF) (ro h1)
     exact rn this bW
theorem qf (hc:fT n r I KP) (hr:∀i j,i<n->j<n->r i=r j->i=j) {p:Array Nat} (h:PermN n p) {Q:Array Nat×Nat×Nat->Shared->Prop}:∀(f m:Nat) (s:Shared),I s->1<=m->m+f=n->Dn r p m->
  (∀m' s',I s'->m<=m'->m'<=n->Dn r p m'->Q (p,m',0) s')->(kas_desc f p m 0).kasWp KP Q s
 |0,m,s,hI,h1,e,hu,k=>k m s hI (Nat.le_refl _) (rv e) hu
 |f+1,m,s,hI,h1,e,hu,k=>by
  refine iS hc h (fY e) (iZ e) (ru h1) hI fun s' tA=>?_
  by_cases bW:RK r p m<RK r p (m - 1)
  ·rw [decide_eq_true bW,if_pos rfl,if_neg (by decide)]
   refine qf hc hr h f (m+1) s' tA (nK) (kZ e) ?_ fun m' r_ Ph O9 QJ Pz=>k m' r_ Ph (nJ O9) QJ Pz;intros i j iF hj
   by_cases NS:j<m
   ·exact hu i j iF NS
   ·obtain rfl:j=m:=by exact nH hj NS
    by_cases SF:i=j - 1
    ·subst SF;exact Cd bW
    ·have:=hu i (j - 1) (rp iF SF) (ro h1)
     exact Cc bW this
  ·rw [decide_eq_false bW,if_neg (by decide)]
   have dR:RK r p m≠RK r p (m - 1):=fun q=>by
    have:=h.inj hr (fY e) (iZ e) q;exact rq h1 this
   refine iS hc h (iZ e) (fY e) (Cb h1) tA fun r_ Ph=>?_;rw [decide_eq_true (nG dR bW),if_pos rfl];exact k m r_ Ph (Nat.le_refl _) (rt e) hu
theorem vY (hc:fT n r I KP) (hr:∀i j,i<n->j<n->r i=r j->i=j) {p:Array Nat} (h:PermN n p) {Q:Nat×Array Nat->Shared->Prop} {m:Nat} {s:Shared} (hI:I s) (h1:1<=m) (hm:m<=n) (hu:Dn r p m)
  (k:∀m' p' s',I s'->m'<=n->PermN n p'->Up r p' m'->Q (m',p') s'):(kas_tail3 m n p).kasWp KP Q s:=by
 unfold kas_tail3;rw [KasT.kasWp_bind]
 have hj:m<=p.size:=by rw [h.1];exact hm
 refine mI hc hr (h.rev 0 m) _ m s hI h1 (nF hm) ?_ fun m' s' tA _ h2 Pz _=>k m' _ s' tA h2 (h.rev 0 m) Pz;intros i j iF LG;rw [uy hj,uy hj,if_pos (B9 iF LG),if_pos (B8 LG)];exact hu _ _ (B7 iF LG) (B6 LG)
theorem wf (hc:fT n r I KP) (hr:∀i j,i<n->j<n->r i=r j->i=j) {p:Array Nat} (h:PermN n p) {Q:Nat×Array Nat->Shared->Prop} {m:Nat} {s:Shared} (hI:I s) (hm:m+1<=n) (hu:Dn r p (m+1))
  (k:∀m' p' s',I s'->m'<=n->PermN n p'->Up r p' m'->Q (m',p') s'):(kas_descPart m n p).kasWp KP Q s:=by
 unfold kas_descPart;rw [KasT.kasWp_bind];refine qf hc hr h _ (m+1) s hI (nK) (B5 hm) hu fun m' s' tA h1 h2 Pz=>?_;rw [if_neg (by show ¬0>0;decide)];show (kas_tail3 m' n p).kasWp KP Q s';exact vY hc hr h tA (B4 h1) h2 Pz k
theorem wg (hc:fT n r I KP) (hr:∀i j,i<n->j<n->r i=r j->i=j) {p:Array Nat} (h:PermN n p) {Q:Nat×Array Nat->Shared->Prop} {s:Shared} (hI:I s) (hn:1<=n)
  (k:∀m' p' s',I s'->m'<=n->PermN n p'->Up r p' m'->Q (m',p') s'):(kas_count n p).kasWp KP Q s:=by
 unfold kas_count;rw [KasT.kasWp_bind];refine mI hc hr h _ 1 s hI (Nat.le_refl _) (B3 hn) (fun i j iF hj=>by exact rm hj iF) fun m s' tA h1 h2 hu hl=>?_
 by_cases e:m=n
 ·rw [if_pos (by simpa using e)]
  exact k m p s' tA h2 h hu
 ·rw [if_neg (by simpa using e)]
  by_cases O9:m>1
  ·rw [if_pos O9]
   refine iS hc h (B1 hn) (BZ h1 h2) (BY O9) tA fun r_ Ph=>?_;rw [decide_eq_true (hu 0 (m - 1) (BX O9) (BW O9)),if_pos rfl];exact k m p r_ Ph h2 h hu
  ·rw [if_neg O9]
   obtain rfl:m=1:=by exact BV h1 O9
   refine wf hc hr h tA (BU h2 e) ?_ k;intros i j iF hj
   obtain rfl:i=0:=by exact BT hj iF
   obtain rfl:j=1:=by exact BS iF hj
   exact hl (BR h2 e)
theorem mG (hc:fT n r I KP) (hr:∀i j,i<n->j<n->r i=r j->i=j) {p:Array Nat} (h:PermN n p) {m:Nat} (hm:m<n) {Q:Nat->Shared->Prop}:∀(f a b:Nat) (s:Shared),I s->a<=b->b<=m->b - a<=f->Up r p m->
  (∀i,i<a->RK r p i<RK r p m)->(∀i,b<=i->i<m->RK r p m<RK r p i)->(∀l s',I s'->l<=m->(∀i,i<l->RK r p i<RK r p m)->(∀i,l<=i->i<m->RK r p m<RK r p i)->Q l s')->(kas_place p m f a b).kasWp KP Q s
 |0,a,b,s,hI,Ll,hb,hf,hu,ha,LQ,k=>k a s hI (hV Ll hb) ha (fun i h1 h2=>LQ i (BQ hf h1) h2)
 |f+1,a,b,s,hI,Ll,hb,hf,hu,ha,LQ,k=>by
  show (if a>=b then KasT.ret a else .ask (p.getD m 0) (p.getD ((a+b) / 2) 0) fun c=>if c=true then kas_place p m f a ((a+b) / 2) else kas_place p m f ((a+b) / 2+1) b).kasWp KP Q s
  by_cases M3:a>=b
  ·rw [if_pos M3]
   exact k a s hI (hV Ll hb) ha (fun i h1 h2=>LQ i (BP h1 M3) h2)
  ·rw [if_neg M3]
   refine iS hc h hm (rj hm Ll hb) (BO hb M3) hI fun s' tA=>?_
   by_cases bW:RK r p m<RK r p ((a+b) / 2)
   ·rw [decide_eq_true bW,if_pos rfl]
    refine mG hc hr h hm f a ((a+b) / 2) s' tA (BN M3) (BM Ll hb) (BL hf) hu ha (fun i h1 h2=>?_) k
    by_cases e:i=(a+b) / 2
    ·rw [e];exact bW
    ·exact Nat.lt_trans bW (hu _ _ (BK h1 e) h2)
   ·rw [decide_eq_false bW,if_neg (by decide)]
    have dR:RK r p m≠RK r p ((a+b) / 2):=fun q=>by
     have:=h.inj hr hm (rj hm Ll hb) q;exact BJ this hb M3
    refine mG hc hr h hm f ((a+b) / 2+1) b s' tA (BH M3) hb (BF hf) hu (fun i h1=>?_) LQ k
    by_cases e:i=(a+b) / 2
    ·rw [e];exact nG dR bW
    ·have:=hu i ((a+b) / 2) (BD h1 e) (BC hb M3)
     exact rn this bW
theorem qg (hc:fT n r I KP) (hr:∀i j,i<n->j<n->r i=r j->i=j) {Q:Array Nat->Shared->Prop}:∀(f m:Nat) (p:Array Nat) (s:Shared),I s->PermN n p->m+f=n->Up r p m->
  (∀p' s',I s'->PermN n p'->Up r p' n->Q p' s')->(kas_bin f p m).kasWp KP Q s
 |0,m,p,s,hI,h,e,hu,k=>k p s hI h (by rw [<-e];exact hu)
 |f+1,m,p,s,hI,h,e,hu,k=>by
  show ((kas_place p m m 0 m).bind fun l=>kas_bin f (bubble p m (m - l)) (m+1)).kasWp KP Q s;rw [KasT.kasWp_bind];refine mG hc hr h (fY e) m 0 m s hI (BA) (Nat.le_refl _) (Bz) hu (fun i hi=>by exact By hi) (fun i h1 h2=>by exact Bx h2 h1) fun l s' tA hl h1 h2=>?_;refine qg hc hr f (m+1) _ s' tA (h.bub _ _) (kZ e) ?_ k
  have hs:m<p.size:=by rw [h.1];exact fY e
  intros i j iF hj;rw [uz hs (ri),uz hs (ri)]
  have e1:m - (m - l)=l:=by exact Bw hl
  rw [e1]
  by_cases fW:i=l
  ·rw [if_pos fW,if_neg (Bv iF fW),if_pos (Bu hj iF fW)]
   exact h2 _ (Bs iF fW) (rh hj iF)
  ·rw [if_neg fW]
   by_cases OM:j=l
   ·rw [if_pos OM,if_neg (Br iF OM)]
    exact h1 _ (q3 iF OM)
   ·rw [if_neg OM]
    by_cases LV:l<i/\i<=m
    ·rw [if_pos LV,if_pos (Bq hj iF LV.1)]
     exact hu _ _ (Bp iF LV.1) (rh hj iF)
    ·rw [if_neg LV]
     by_cases LG:l<j/\j<=m
     ·rw [if_pos LG]
      exact hu _ _ (Bo iF LG.1 LG.2 LV fW) (Bn LG.1 LG.2)
     ·rw [if_neg LG]
      exact hu _ _ iF (Bm e1 hj LG OM)
theorem vZ (hc:fT n r I KP) (hr:∀i j,i<n->j<n->r i=r j->i=j) (hn:1<=n) {Q:Array Nat->Shared->Prop} {s:Shared} (hI:I s)
  (k:∀p' s',I s'->p'.toList.Perm (List.range n)->(p'.toList.map r).Pairwise (·< ·)->Q p' s'):(kas_sort n).kasWp KP Q s:=by
 have h0:PermN n (List.toArray (List.range n)):=⟨by simp,by simp⟩
 have fin:∀p' s',I s'->PermN n p'->Up r p' n->Q p' s':=fun p' s' tA hp hu=>by
  refine k p' s' tA hp.2 ?_;rw [List.pairwise_iff_getElem];intros i j hi hj iF;simp only [List.length_map,Array.length_toList] at hi hj;have h:=hu i j iF (by rw [<-hp.1];exact hj);unfold RK at h
  simpa [Array.getD,hi,hj] using h
 unfold kas_sort;rw [KasT.kasWp_bind];refine wg hc hr h0 hI hn fun m p s' tA hm hp hu=>?_
 by_cases bW:m<n
 ·rw [if_pos bW]
  refine qg hc hr _ _ p s' tA hp (Bl bW) ?_ fin
  by_cases h1:1<=m
  ·rw [Nat.max_eq_left h1];exact hu
  ·rw [Nat.max_eq_right (Bk h1)]
   intros i j iF hj;exact rm hj iF
 ·rw [if_neg bW]
  have e:m=n:=by exact Bi hm bW
  subst e;exact fin p s' tA hp hu
end
noncomputable abbrev be (a b:PySem.Str):Prop:=a.cps.toList<b.cps.toList
theorem nc (a:PySem.Str):¬be a a:=List.lt_irrefl _
theorem qD {a b c:PySem.Str} (h:be a b) (k:be b c):be a c:=List.lt_trans h k
theorem kR {a b:PySem.Str} (h:be a b):¬be b a:=fun k=>nc a (qD h k)
theorem xj {a b:PySem.Str} (h:a≠b):be a b\/be b a:=by
 by_cases h1:be a b
 ·exact .inl h1
 ·by_cases h2:be b a
  ·exact .inr h2
  ·exact absurd (Str.ext' (Array.toList_inj.mp (List.le_antisymm (List.not_lt.mp h2) (List.not_lt.mp h1)))) h
theorem xf {a b:List PySem.Str} (hp:a.Perm b) (ha:a.Pairwise be) (hb:b.Pairwise be):a=b:=
 List.Perm.eq_of_pairwise (le:=be) (fun x y _ _ h k=>absurd k (kR h)) ha hb hp
theorem Fb {a:List PySem.Str} (ha:a.Pairwise be):a.Nodup:=List.nodup_iff_pairwise_ne.mpr (List.Pairwise.imp (fun {x y} (h:be x y) (e:x=y)=>nc y (by rw [e] at h;exact h)) ha)
section
variable {n:Nat} {I:Shared->Prop} {KP:Nat->Nat->(Bool->Shared->Prop)->Shared->Prop}
theorem mF {f:Nat->PySem.Str} {L:List PySem.Str} (hp:L.Perm ((List.range n).map f)) (hL:L.Pairwise be) (hn:1<=n)
  (hc:∀i j (C:Bool->Shared->Prop) s,i<n->j<n->f i≠f j->I s->(∀s',I s'->C (decide (be (f i) (f j))) s')->KP i j C s) {Q:Array Nat->Shared->Prop} {s:Shared} (hI:I s)
  (k:∀p' s',I s'->p'.toList.Perm (List.range n)->p'.toList.map f=L->Q p' s'):(kas_sort n).kasWp KP Q s:=by
 have nd:((List.range n).map f).Nodup:=hp.nodup_iff.mp (Fb hL)
 have VH:∀i j,i<n->j<n->f i=f j->i=j:=fun i j hi hj e=>by
  rw [List.nodup_iff_pairwise_ne,List.pairwise_iff_getElem] at nd
  rcases Nat.lt_trichotomy i j with q|q|q
  ·exact absurd (by rw [List.getElem_map,List.getElem_map,List.getElem_range,List.getElem_range];exact e) (nd i j (by simpa using hi) (by simpa using hj) q)
  ·exact q
  ·exact absurd (by rw [List.getElem_map,List.getElem_map,List.getElem_range,List.getElem_range];exact e.symm) (nd j i (by simpa using hj) (by simpa using hi) q)
 have LC:∀i,i<n->f i∈L:=fun i hi=>hp.mem_iff.mpr (List.mem_map_of_mem (List.mem_range.mpr hi));have Md:∀i (hi:i<n),∃h,L[L.idxOf (f i)]'h=f i:=fun i hi=>⟨List.idxOf_lt_length_of_mem (LC i hi),List.getElem_idxOf _⟩
 have bW:∀i j,i<n->j<n->(L.idxOf (f i)<L.idxOf (f j)↔be (f i) (f j)):=fun i j hi hj=>by
  refine am (Md i hi) fun a1 a2=>?_;refine am (Md j hj) fun b1 b2=>?_;rw [List.pairwise_iff_getElem] at hL;constructor
  ·intro q
   have:=hL _ _ a1 b1 q
   rwa [a2,b2] at this
  ·intro q
   rcases Nat.lt_trichotomy (L.idxOf (f i)) (L.idxOf (f j)) with z|z|z
   ·exact z
   ·have e:f i=f j:=by
     rw [<-a2,<-b2]
     congr 1
    exact absurd (e▸q) (nc _)
   ·have:=hL _ _ b1 a1 z
    rw [a2,b2] at this;exact absurd q (kR this)
 refine vZ (r:=fun i=>L.idxOf (f i)) (fun i j C s hi hj iF hI h=>hc i j C s hi hj (fun e=>iF (VH i j hi hj e)) hI fun s' tA=>?_) (fun i j hi hj e=>?_) hn hI fun p s' tA hpp Rq=>?_
 ·have:=h s' tA
  rwa [show decide (L.idxOf (f i)<L.idxOf (f j))=decide (be (f i) (f j)) from decide_eq_decide.mpr (bW i j hi hj)] at this
 ·refine am (Md i hi) fun a1 a2=>?_
  refine am (Md j hj) fun b1 b2=>?_;refine VH i j hi hj ?_;rw [<-a2,<-b2]
  congr 1
 ·refine k p s' tA hpp (xf ((hpp.map f).trans hp.symm) ?_ hL)
  rw [List.pairwise_map] at Rq ⊢;refine List.Pairwise.imp_of_mem (fun {a b} ha hb h=>?_) Rq;exact (bW a b (List.mem_range.mp (hpp.mem_iff.mp ha)) (List.mem_range.mp (hpp.mem_iff.mp hb))).mp h
end
noncomputable abbrev dQ:=List (Addr×Obj)
section
variable {prog:Program} {w:World} {A:Around} {E:Value->Shared->Prop} {s:Shared} {h₀:Heap} {L a kS:Addr} {m:PySem.Str->Option Value} {news:dQ} {vs ks:List Value} {κ:SortKind}
theorem qG {n:Nat} {P:PySem.Fin->Shared->Prop} (F:Fr h₀ L s.heap m) (N:News h₀ L s.heap news) (ho:s.heap.get? a=some (seqObj "list" vs.toArray n)) (Vp:a≠L) (V8:h₀.get? a=none) (Yl:∀p∈news,p.1≠a)
  (h2:vs.length<2) (h:∀c h',Fr h₀ L h' m->News h₀ L h' ((a,seqObj "list" vs.toArray c)::news)->P (.done (.ret .none)) {s with heap:=h'}):
  wpAny (model prog w) A (Builtin.«list.sort» ⟨[.ref a],[]⟩) P E s:=by
 have s1:=Heap.SameBut.update s.heap a (Obj.mapSeq fun _=>(#[]:Array Value));obtain ⟨e1,OV⟩:∃e1,(s.heap.update a (Obj.mapSeq fun _=>(#[]:Array Value))).get? a=some (seqObj "list" #[] e1):=⟨_,get?_update_seq ho fun _=>#[]⟩;have F3:Fr h₀ L (((s.heap.update a (Obj.mapSeq fun _=>(#[]:Array Value))).push (seqObj "tuple" vs.toArray 0)).push (seqObj "list" #[] 0)) m:=((kas_fr F s1 Vp V8).push _).push _
 have N2:News h₀ L (((s.heap.update a (Obj.mapSeq fun _=>(#[]:Array Value))).push (seqObj "tuple" vs.toArray 0)).push (seqObj "list" #[] 0)) news:=
  (kas_news N s1 Yl).grown fun b x e=>Heap.get?_push_of_some _ (Heap.get?_push_of_some _ e)
 have SO:(((s.heap.update a (Obj.mapSeq fun _=>(#[]:Array Value))).push (seqObj "tuple" vs.toArray 0)).push (seqObj "list" #[] 0)).get? a=some (seqObj "list" #[] e1):=Heap.get?_push_of_some _ (Heap.get?_push_of_some _ OV);rw [list_sort_plain];refine wpAny_bind (listItems_at ho rfl ?_);refine wpAny_bind (listUpdate_at ho rfl ?_ (by rw [List.size_toArray,sizeLine_eq];exact kY h2) (Nat.zero_le _));refine wpAny_bind (seqEpoch_at OV rfl ?_);refine wpAny_bind (wpAny_newTuple ?_ (by show vs.length<=_;rw [sizeLine_eq];exact kY h2));refine wpAny_bind (wpAny_newList ?_ (Nat.zero_le _));refine wpAny_holding ?_;show wpAny (model prog w) A _ P E {s with heap:=((s.heap.update a (Obj.mapSeq fun _=>(#[]:Array Value))).push (seqObj "tuple" vs.toArray 0)).push (seqObj "list" #[] 0)};dsimp only
 have St:vs.toArray.size<2:=by rw [List.size_toArray];exact Bh h2
 rw [if_pos St,if_pos St];refine wpAny_bind (wpAny_pure ?_);rw [StateT.run_pure];refine wpAny_bind (wpAny_pure ?_);dsimp only
 have Nm:(arrOf (SortSt.mk' general' (vs.toArray.zip vs.toArray) #[] 7 none)).map (·.2)=vs.toArray:=by
  show (vs.toArray.zip vs.toArray).map (·.2)=_;apply Array.toList_inj.mp;rw [Array.toList_map,Array.toList_zip];exact List.map_snd_zip (Nat.le_refl _)
 rw [Nm];refine wpAny_bind (seqEpoch_at SO rfl ?_);refine wpAny_bind (listUpdate_at SO rfl ?_ (Nat.zero_le _) (by rw [List.size_toArray,sizeLine_eq];exact Bg h2));simp only [bne_self_eq_false,Bool.false_eq_true,if_false];obtain ⟨c2,O7⟩:∃c2,((((s.heap.update a (Obj.mapSeq fun _=>(#[]:Array Value))).push (seqObj "tuple" vs.toArray 0)).push (seqObj "list" #[] 0)).update a (Obj.mapSeq fun _=>vs.toArray)).get? a=some (seqObj "list" vs.toArray c2):=⟨_,get?_update_seq SO fun _=>vs.toArray⟩;have s2:=Heap.SameBut.update (((s.heap.update a (Obj.mapSeq fun _=>(#[]:Array Value))).push (seqObj "tuple" vs.toArray 0)).push (seqObj "list" #[] 0)) a (Obj.mapSeq fun _=>vs.toArray);refine wpAny_pure (h c2 _ (kas_fr F3 s2 Vp V8) fun p hp=>?_)
 rcases aB hp with rfl|hp
 ·exact ⟨O7,Vp,V8⟩
 ·exact ⟨s2.extBut _ _ (Yl p hp) (N2 p hp).1,(N p hp).2⟩
theorem qC {l:Addr} {Q:Value->Shared->Prop} (F:Fr h₀ L s.heap m) (N:News h₀ L s.heap news) (hl:s.heap.IsList l vs.toArray) (h2:vs.length<2)
  (h:∀D c h',Fr h₀ L h' m->News h₀ L h' ((D,seqObj "list" vs.toArray c)::news)->(∀q∈news,q.1<D)->Q (.ref D) {s with heap:=h'}):
  wpAny (model prog w) A (call (.builtin "sorted") [.ref l]) Q E s:=by
 refine Calls.call_function_entry kind_sorted plain_sorted entry_sorted (args_sorted1 _) ?_;unfold Builtin.«sorted»;refine wpAny_bind (m:=checkCount "sorted" 1 1 _) (wpAny_pure ?_);refine wpAny_bind (collect_list hl ?_ (by rw [sizeLine_eq];exact kY h2));refine wpAny_bind (wpAny_newList ?_ (by rw [sizeLine_eq];exact kY h2))
 have hsz:((s.heap.push (seqObj "list" #[] 0)).update s.heap.objs.size (Obj.mapSeq (·++vs.toArray))).objs.size=s.heap.objs.size+1:=by
  rw [Heap.size_update,size_push']
 have hoL:(((s.heap.push (seqObj "list" #[] 0)).update s.heap.objs.size (Obj.mapSeq (·++vs.toArray))).push (seqObj "list" vs.toArray 0)).get? (s.heap.objs.size+1)=some (seqObj "list" vs.toArray 0):=by
  rw [<-hsz];exact Heap.get?_push_size _ rfl
 have keep:∀b o,s.heap.get? b=some o->(((s.heap.push (seqObj "list" #[] 0)).update s.heap.objs.size (Obj.mapSeq (·++vs.toArray))).push (seqObj "list" vs.toArray 0)).get? b=some o:=fun b o q=>by
  have bW:b<s.heap.objs.size:=Heap.lt_size q;rw [Heap.get?_push_ne _ _ _ (by rw [hsz];exact Nat.ne_of_lt (Nat.lt_succ_of_lt bW)),Heap.get?_update_ne _ _ _ _ (Nat.ne_of_lt bW),Heap.get?_push_ne _ _ _ (Nat.ne_of_lt bW)];exact q
 have hL:L<s.heap.objs.size:=F.ns.lt;show wpAny _ _ _ _ _ {s with heap:=((s.heap.push (seqObj "list" #[] 0)).update s.heap.objs.size (Obj.mapSeq (·++vs.toArray))).push (seqObj "list" vs.toArray 0)};rw [hsz];refine wpAny_bind (wpAny_holding (wpAny_call_entry slot_list_sort ⟨_,hoL,rfl⟩ entry_list_sort ?body (args_list_sort _)))
 case body=>
  refine qG (s:={s with heap:=((s.heap.push (seqObj "list" #[] 0)).update s.heap.objs.size (Obj.mapSeq (·++vs.toArray))).push (seqObj "list" vs.toArray 0)})
   (F.kept keep) (N.grown keep) hoL (Nat.ne_of_gt (Nat.lt_succ_of_lt hL)) (Heap.get?_none_of_le (Nat.le_trans F.above (Nat.le_succ_of_le (Nat.le_of_lt hL))))
   (fun p hp=>Nat.ne_of_lt (Nat.lt_succ_of_lt (Heap.lt_size (N p hp).1))) h2 fun e1 h' F' N'=>?_
  exact ⟨_,rfl,wpAny_pure ⟨_,rfl,h _ e1 h' F' N' fun q hq=>Nat.lt_succ_of_lt (Heap.lt_size (N q hq).1)⟩⟩
noncomputable def pG (news:dQ) (vs:List Value) (f:Nat->PySem.Str):Prop:=∀i,i<vs.length->∃a o xs n t,vs.getD i .none= .ref a/\(a,o)∈news/\o.cls= .type "tuple"/\o.data= .seq xs n/\xs[0]?=some (.str (f i) t)
noncomputable def iG (vs:List Value) (f:Nat->PySem.Str) (T:List PySem.Str) (out:List Value):Prop:=∃p:List Nat,p.Perm (List.range vs.length)/\out=p.map (fun i=>vs.getD i .none)/\p.map f=T
theorem sY {h:Heap}:∀(vs:List Value) (f:Nat->PySem.Str),(∀i,i<vs.length->∃a o xs n t,vs.getD i .none= .ref a/\h.get? a=some o/\o.cls= .type "tuple"/\o.data= .seq xs n/\xs[0]?=some (.str (f i) t))->
  ∃fs,KatTups h vs fs/\fs.length=vs.length/\∀v∈fs,∃x t,v= .str x t
 |[],_,_=>⟨[],trivial,rfl,fun _ h=>nomatch h⟩
 |v::vs,f,hh=>by
  refine dT (hh 0 (by simp)) fun a o xs n t aj=>?_;refine bv aj fun e g1 g2 g3 g4=>?_
  obtain ⟨fs,i1,i2,i3⟩:=sY vs (fun i=>f (i+1)) fun i hi=>by
   refine dT (hh (i+1) (by simpa using hi)) fun a o xs n t aj=>?_;refine bv aj fun e g1 g2 g3 g4=>?_;exact ⟨a,o,xs,n,t,by simpa using e,g1,g2,g3,g4⟩
  refine ⟨.str (f 0) t::fs,⟨⟨a,o,xs,n,by simpa using e,g1,g2,g3,g4⟩,i1⟩,by simp [i2],fun v hv=>?_⟩
  rcases aB hv with rfl|hv
  ·exact ⟨_,_,rfl⟩
  ·exact i3 v hv
theorem qj {f:Nat->PySem.Str} {T:List PySem.Str} {Q:Array Nat->Shared->Prop} (N:News h₀ L s.heap news) (ht:pG news vs f) (hT:T.Perm ((List.range vs.length).map f)) (hs:T.Pairwise be) (h1:1<=vs.length)
  (k:∀p:Array Nat,p.toList.Perm (List.range vs.length)->p.toList.map f=T->Q p s):
  wpAny (model prog w) A (keyKind' vs.toArray) (fun κ s'=>(kas_sort vs.length).kasWp (kas_ask prog w A κ vs) Q s') (fun _ _=>False) s:=by
 have hh:∀i,i<vs.length->∃a o xs n t,vs.getD i .none= .ref a/\s.heap.get? a=some o/\o.cls= .type "tuple"/\o.data= .seq xs n/\xs[0]?=some (.str (f i) t):=fun i hi=>by
  refine dT (ht i hi) fun a o xs n t aj=>?_;refine bv aj fun e g1 g2 g3 g4=>?_;exact ⟨a,o,xs,n,t,e,(N _ g1).1,g2,g3,g4⟩
 refine am (sY vs f hh) fun fs aj=>?_;refine aI aj fun k1 k2 k3=>?_;refine kat_kind (T:= .type "str") k1 (Bf h1 k2) (fun v hv=>?_) (by decide) ?_
 ·refine bl (k3 v hv) fun x t aj=>?_;subst aj
  exact Looks.of_pure rfl
 ·rw [show (Value.type "str" != Value.type "tuple")=true by decide]
  refine mF (f:=f) (L:=T) (I:=(·=s)) hT hs h1 (fun i j C s' hi hj dR hI hC=>?_) rfl fun p s' hI hp hm=>by rw [hI];exact k p hp hm
  subst hI;refine dT (hh i hi) fun a o xs n t aj=>?_;refine bv aj fun e g1 g2 g3 g4=>?_;refine dT (hh j hj) fun b o' ys n' t' aj=>?_;refine bv aj fun e' VZ YB U5 QM=>?_;show wpAny (model prog w) A (keyLt' (tuples' true) (vs.getD i Value.none) (vs.getD j Value.none)) C (fun _ _=>False) s';rw [e,e'];refine kat_lt g1 g3 VZ U5 ?_
  obtain ⟨xr,hx⟩:∃xr,xs.toList= .str (f i) t::xr:=by
   rw [<-Array.getElem?_toList] at g4
   cases hq:xs.toList with
   |nil=>rw [hq] at g4;cases g4
   |cons c r=>rw [hq] at g4;cases g4;exact ⟨r,rfl⟩
  obtain ⟨yr,hy⟩:∃yr,ys.toList= .str (f j) t'::yr:=by
   rw [<-Array.getElem?_toList] at QM
   cases hq:ys.toList with
   |nil=>rw [hq] at QM;cases QM
   |cons c r=>rw [hq] at QM;cases QM;exact ⟨r,rfl⟩
  rw [hx,hy,List.zip_cons_cons];refine kat_cons (wpAny_eqBool_str ?_);rw [decide_eq_false dR];exact kat_no (oneLt_str (hC _ rfl))
theorem xc {l:Addr} {f:Nat->PySem.Str} {T:List PySem.Str} {Q:Value->Shared->Prop} (F:Fr h₀ L s.heap m) (N:News h₀ L s.heap news) (hl:s.heap.IsList l vs.toArray) (MC:vs.length<64) (ht:pG news vs f) (hT:T.Perm ((List.range vs.length).map f)) (hs:T.Pairwise be)
  (h:∀D out c h' tk,Fr h₀ L h' m->News h₀ L h' ((D,listOf (List.toArray out) c)::news)->(∀q∈news,q.1<D)->iG vs f T out->Q (.ref D) {s with heap:=h',toks:=tk}):
  wpAny (model prog w) A (call (.builtin "sorted") [.ref l]) Q E s:=by
 by_cases h2:vs.length<2
 ·refine qC F N hl h2 fun D c h' F' N' l1=>h D vs c h' s.toks F' N' l1 ⟨List.range vs.length,List.Perm.refl _,?_,?_⟩
  ·apply List.ext_getElem (by simp)
   intros i h1 h2;simp [h1]
  ·have:(List.range vs.length).map f=T:=by
    match hn:vs.length,h2,hT with
    |0,_,hT=>rw [List.range_zero,List.map_nil] at hT ⊢;exact (List.perm_nil.mp hT).symm
    |1,_,hT=>exact (List.perm_singleton.mp hT).symm
   exact this
 ·refine kat_sorted F N hl (lg h2) MC fun D e1 h' F' N' l1=>?_
  refine qj (s:={s with heap:=h'}) N' (fun i hi=>?_) hT hs (rg h2) fun p hp hm=>?_
  ·refine dT (ht i hi) fun a o xs n t aj=>?_;refine aI aj fun e g1 g2=>?_
   exact ⟨a,o,xs,n,t,e, .tail _ g1,g2⟩
  ·exact KasFin.intro F' N' (.head fun q hq=>Nat.ne_of_lt (l1 q hq)) fun Lp c Q8 Lk=>h D _ c Lp s.toks Q8 Lk l1 ⟨p.toList,hp,rfl,hm⟩
theorem sL {D:Addr} {n:Nat} {g:Obj->dQ} {f:Nat->PySem.Str} {T:List PySem.Str} {Q:Value->Shared->Prop} (F:Fr h₀ L s.heap m) (N:News h₀ L s.heap news) (U:UpdF D (listOf vs.toArray n) news g) (MC:vs.length<64) (ht:pG news vs f) (hg:∀o a b,(a,b)∈news->b.cls= .type "tuple"->(a,b)∈g o)
  (hT:T.Perm ((List.range vs.length).map f)) (hs:T.Pairwise be)
  (h:∀out c h' tk,Fr h₀ L h' m->News h₀ L h' (g (listOf (List.toArray out) c))->iG vs f T out->Q .none {s with heap:=h',toks:=tk}):
  wpAny (model prog w) A (call (.builtin "list.sort") [.ref D]) Q E s:=by
 by_cases h2:vs.length<2
 ·refine bl U.split fun LW post aj=>?_;refine bO aj fun e0 hgg x1 x2=>?_
  rw [e0] at N;have nz:=N (D,listOf vs.toArray n) (ay _ (.head _));have uR:News h₀ L s.heap (LW++post):=fun p hp=>N p ((aE hp).elim (fun q=>aL _ q) fun q=>ay _ (.tail _ q))
  have Nm:iG vs f T vs:=⟨List.range vs.length,List.Perm.refl _,by
   apply List.ext_getElem (by simp);intros i h1 h2
   simp [h1],by
   match hn:vs.length,h2,hT with
   |0,_,hT=>rw [List.range_zero,List.map_nil] at hT ⊢;exact (List.perm_nil.mp hT).symm
   |1,_,hT=>exact (List.perm_singleton.mp hT).symm⟩
  refine wpAny_call_entry slot_list_sort ⟨_,nz.1,rfl⟩ entry_list_sort (qG (news:=LW++post) F uR nz.1 nz.2.1 nz.2.2 (fun p hp=>(aE hp).elim (x1 p) (x2 p)) h2 fun c h' F' N'=>?_) (args_list_sort _);refine ⟨_,rfl,h vs c h' s.toks F' ?_ Nm⟩;rw [hgg];intro p hp;refine Or.elim (aE hp) (fun hp=>?_) fun hp=>?_
  ·exact N' p (.tail _ (aL _ hp))
  ·rcases aB hp with rfl|hp
   ·exact N' _ (.head _)
   ·exact N' p (.tail _ (ay _ hp))
 ·have U2:∀e1,UpdF D (seqObj "list" #[] e1) (g (seqObj "list" #[] e1)) g:=fun e1=>by
   have go:∀{l:dQ} {g:Obj->dQ} {o o':Obj},UpdF D o l g->UpdF D o' (g o') g:=by
    intros l g o o' U
    induction U with
    |head hr=>exact .head hr
    |tail hp _ ih=>exact .tail hp ih
   exact go U
  refine kat_lsort F N U (by simp) (lg h2) MC fun e1 h' F' N'=>?_;refine qj (s:={s with heap:=h'}) N' (fun i hi=>?_) hT hs (rg h2) fun p hp hm=>?_
  ·refine dT (ht i hi) fun a o xs n t aj=>?_;refine bO aj fun e g1 g2 g3=>?_
   exact ⟨a,o,xs,n,t,e,hg _ _ _ g1 g2,g2,g3⟩
  ·exact KasFin.intro F' N' (U2 e1) fun Lp c Q8 Lk=>h _ c Lp s.toks Q8 Lk ⟨p.toList,hp,rfl,hm⟩
end
noncomputable def dP (prog:Program) (w:World) (o:Obj) (xs:List PySem.Str):Prop:=
 o.ExactSet/\∃es ep t,o.data= .set es ep t/\ElemsOf (PySem.strKind prog w) es.toList/\(es.toList.map fun e=>strOf e.2).Perm xs/\t.fits es.size=true/\(xs≠[]->t.plain=false)
theorem wV {prog:Program} {w:World} (led:Bool):dP prog w {cls:= .type "set",dict:=none,data:= .set #[] 0 (.fresh 0 0 led)} []:=
 ⟨⟨rfl,rfl,rfl⟩,#[],0,_,rfl,fun e he=>by simp at he,by simp,by rfl,fun h=>absurd rfl h⟩
theorem yd {t:SetTable} {es:Array (Int×Value)} {k:Nat} (h:t.plain=false):(relayAll t es k).2.1.plain=false:=by
 unfold relayAll
 split
 ·rename_i t' order he
  have ht:t'.plain=t.plain:=by
   unfold SetTable.relaid SetTable.laid at he;simp only [Option.bind_eq_bind,Option.bind_eq_some_iff] at he;refine am he fun _ aj=>?_;clear he;refine ak aj fun _ he=>?_;clear aj;simp only [Option.pure_def,Option.some.injEq,Prod.mk.injEq] at he;rw [<-he.1]
  dsimp only
  split
  ·rw [ht];exact h
  ·rfl
 ·rfl
section
variable {prog:Program} {w:World} {A:Around} {E:Value->Shared->Prop} {s:Shared}
theorem GJ {k:PySem.Str} {v:Value} (h:(PySem.strKind prog w).is k v=true):strOf v=k:=by
 refine am (Value.isStrOf_shape h) fun t aj=>?_;subst aj;rfl
theorem wU {es:List (Int×Value)} {xs:List PySem.Str} {x:PySem.Str} (hp:(es.map fun e=>strOf e.2).Perm xs) (hx:x∉xs):es.findIdx? (fun e=>(PySem.strKind prog w).is x e.2)=none:=by
 rw [List.findIdx?_eq_none_iff];intro e he
 cases hq:(PySem.strKind prog w).is x e.2 with
 |false=>rfl
 |true=>exact absurd (hp.mem_iff.mp (List.mem_map.mpr ⟨e,he,GJ hq⟩)) hx
theorem om {h:Heap} {a:Addr} {o:Obj} {es es':Array (Int×Value)} {ep:Nat} {t t':SetTable} {xs:List PySem.Str} (ho:h.get? a=some o) (hex:o.ExactSet) (hd:o.data= .set es ep t)
  (Pn:ElemsOf (PySem.strKind prog w) es'.toList) (hp:(es'.toList.map fun e=>strOf e.2).Perm xs) (hf:t'.fits es'.size=true) (I_:t'.plain=false):
  (h.update a (Obj.putSet es' t')).get? a=some {o with data:= .set es' (ep+1) t'}/\dP prog w {o with data:= .set es' (ep+1) t'} xs:=by
 have hg:(h.update a (Obj.putSet es' t')).get? a=some {o with data:= .set es' (ep+1) t'}:=by
  have:=Heap.get?_update_self (Obj.putSet es' t') ho (by rw [putSet_of es' t' hd];rfl);rw [putSet_of es' t' hd] at this;exact this
 exact ⟨hg,hex,es',ep+1,t',rfl,Pn,hp,hf,fun _=>I_⟩
theorem qA {g:Bool->Sem Unit} (hg:∀(b:Bool) (s₁:Shared) (Q':Unit->Shared->Prop),Q' () s₁->wpAny (model prog w) A (g b) Q' E s₁)
  {a:Addr} {o:Obj} {es:Array (Int×Value)} {ep:Nat} {t:SetTable} (ho:s.heap.get? a=some o) (hex:o.ExactSet) (hd:o.data= .set es ep t)
  {Lj:Array (Int×Value)} {t2:SetTable} {xs:List PySem.Str} (QW:ElemsOf (PySem.strKind prog w) Lj.toList) (OY:(Lj.toList.map fun e=>strOf e.2).Perm xs)
  (Sg:Lj.size<=1000) (hf2:t2.fits Lj.size=true) (I_:t2.plain=false) {Qj:Bool} {R:Option Bool->Shared->Prop}
  (h:∀o' h',Heap.SameBut a s.heap h'->h'.get? a=some o'->dP prog w o' xs->R (some true) {s with heap:=h'}):
  wpAny (model prog w) A (do
    storeSet a Lj t2
    if (!Qj && t2.tooFull)=true then do
      g (relayAll t2 Lj (SetTable.grown Lj.size)).2.2
      storeSet a (relayAll t2 Lj (SetTable.grown Lj.size)).1 (relayAll t2 Lj (SetTable.grown Lj.size)).2.1
      pure (some true)
     else pure (some true)) R E s:=by
 refine wpAny_bind (wpAny_storeSet_of ho hd ?_ (by rw [sizeLine_eq];exact fZ Sg));refine ak (om ho hex hd QW OY hf2 I_) fun OV U3=>?_;have RL:=Heap.SameBut.update s.heap a (Obj.putSet Lj t2)
 split
 ·have hp:=relayAll_perm t2 Lj (SetTable.grown Lj.size)
  have MV:=relayAll_fits t2 Lj (SetTable.grown Lj.size);have Rq:=yd (es:=Lj) (k:=SetTable.grown Lj.size) I_;generalize Qg:relayAll t2 Lj (SetTable.grown Lj.size)=Rl at hp MV Rq ⊢;obtain ⟨es2,t3,aab⟩:=Rl;dsimp only at hp MV Rq ⊢
  have hsz:es2.size=Lj.size:=by rw [<-Array.length_toList,hp.length_eq,Array.length_toList]
  refine wpAny_bind (hg _ _ _ ?_);refine wpAny_bind (wpAny_storeSet_of OV rfl ?_ (by rw [sizeLine_eq];exact Be hsz Sg));refine ak (om (xs:=xs) OV hex rfl (QW.perm hp) ((hp.map _).trans OY) MV Rq) fun WY Ue=>?_;exact wpAny_pure (h _ _ (RL.trans (Heap.SameBut.update _ a _)) WY Ue)
 ·exact wpAny_pure (h _ _ RL OV U3)
theorem nb {a:Addr} {o:Obj} {xs:List PySem.Str} {x:PySem.Str} {tk:Tok} {Q:Bool->Shared->Prop} (ho:s.heap.get? a=some o) (hS:dP prog w o xs) (hx:x∉xs) (h_:xs.length+1<=1000)
  (h:∀o' h' k,Heap.SameBut a s.heap h'->h'.get? a=some o'->dP prog w o' (x::xs)->Q true {s with heap:=h',toks:=k}):
  wpAny (model prog w) A (setAddHashed a (.str x tk) (hashStr w x)) Q E s:=by
 revert ho hS hx h_ h;revert prog w A E s a o xs x tk Q;refine' no_implicit_lambda% ((?zpad:∀(_ _ _ _ _ _:Nat),_) 0 0 0 0 0 0);refine' no_implicit_lambda% (eO ?zR (a:=((0,0,0,0,0,0,default,bw),(callerA,fun _ _=>True,{},0,default,[],Str.empty,0),fun _ _=>True)) rfl (no_implicit_lambda% ((?zg:eE ?zR) 0 0 0 0 0 0 _ _ _ _ _ _ _ _ _ _ _)));intros _ _ _ _ _ _ prog w A E s a o xs x tk Q;intros ho hS hx h_ h;refine ak hS fun hex aj=>?_;clear hS;refine aW aj fun es ep t aZ=>?_;clear aj;refine bv aZ fun hd Pn hp hf I_=>?_;clear aZ;have VK:(PySem.strKind prog w).is x (.str x tk)=true:=strKind_is _ _ _ _;have Sz:(Value.str x tk).scannable=true:=rfl
 have ba:es.size=xs.length:=by rw [<-Array.length_toList,<-List.length_map (f:=fun e:Int×Value=>strOf e.2),hp.length_eq]
 unfold setAddHashed setAddHashedIn;refine wpAny_holding (wpAny_bind (wpAny_setState_of ho hd hf ?_));dsimp only;rw [byScan_of Sz (by show es.size<4096;exact Bd h_ ba) Pn];simp only [↓reduceIte];unfold setAddByScan;refine wpAny_bind ?_;refine wpAny_bind (wpAny_rule ?_);refine wpAny_bind (wpAny_setScan_of (knd:=PySem.strKind prog w) VK ho hd hf Pn ?_);rw [wU hp hx];dsimp only
 have hgw:∀(b:Bool) {s₁:Shared} {Q':Unit->Shared->Prop},Q' () s₁->wpAny (model prog w) A (match b with|true=>rule "set.scan.the-table-gave-way"|false=>pure ()) Q' E s₁:=
  fun b s₁ Q' hq=>by cases b<;>first|exact wpAny_pure hq|exact wpAny_rule hq
 have Lh:=layNew_perm t es (hashStr w x) (.str x tk);have Qc:=layNew_fits t es (hashStr w x) (.str x tk);show wpAny _ _ (have q:=layNew t es (hashStr w x) (.str x tk);_) _ _ _;generalize hL:layNew t es (hashStr w x) (.str x tk)=Ly at Lh Qc ⊢;obtain ⟨Lj,t1,Qj,gave⟩:=Ly;dsimp only at Lh Qc ⊢;rw [Array.toList_push] at Lh;have QW:ElemsOf (PySem.strKind prog w) Lj.toList:=(Pn.push VK Sz).perm Lh
 have OY:(Lj.toList.map fun e=>strOf e.2).Perm (x::xs):=by
  refine (Lh.map _).trans ?_;rw [List.map_append];exact List.perm_append_comm.trans (List.Perm.cons _ hp)
 have Sg:Lj.size<=1000:=by rw [<-Array.length_toList,Lh.length_eq,List.length_append,Array.length_toList];simp;exact Bc h_ ba
 refine wpAny_bind (hgw _ ?_);have Vt:∀o' h',Heap.SameBut a s.heap h'->h'.get? a=some o'->dP prog w o' (x::xs)->Q true {s with heap:=h'}:=fun o' h' a b c=>h o' h' s.toks a b c
 split
 ·refine wpAny_bind ?_
  rw [hashByValue_scannable 8 Sz];refine wpAny_pure ?_;refine qA ?_ ho hex hd QW OY Sg ?_ ?_ ?_
  ·intros b s₁ Q' hq;cases b<;>first|exact wpAny_pure hq|exact wpAny_rule hq
  ·exact SetTable.fits_plain_off Qc
  ·rfl
  ·intros o' h' Mx hg My;dsimp only;exact wpAny_pure (Vt o' h' Mx hg My)
 ·rename_i YY
  refine wpAny_bind (wpAny_pure ?_);simp only [↓reduceIte];refine qA ?_ ho hex hd QW OY Sg Qc (by simpa using YY) ?_
  ·intros b s₁ Q' hq;cases b<;>first|exact wpAny_pure hq|exact wpAny_rule hq
  ·intros o' h' Mx hg My;dsimp only;exact wpAny_pure (Vt o' h' Mx hg My)
end
theorem nh (n:Nat):∀(f s:Nat),s<=SetTable.sizeAbove.go n f s/\SetTable.sizeAbove.go n f s<=max s (2*n)
 |0,s=>⟨Nat.le_refl _,Nat.le_max_left ..⟩
 |f+1,s=>by
  show s<=(if s<=n then SetTable.sizeAbove.go n f (s*2) else s)/\(if s<=n then SetTable.sizeAbove.go n f (s*2) else s)<=_
  by_cases h:s<=n
  ·rw [if_pos h]
   have:=nh n f (s*2);exact Bb this.1 this.2 h
  ·rw [if_neg h]
   exact AZ
theorem tK {α β:Type} {f g:α->Option β}:∀{l:List α},(∀x∈l,f x=g x)->l.filterMap f=l.filterMap g
 |[],_=>rfl
 |a::r,h=>by rw [List.filterMap_cons,List.filterMap_cons,h a (.head _),tK fun x hx=>h x (.tail _ hx)]
theorem Hn {mask f i p:Nat} (hi:i<=mask):SetTable.layClean.free mask (Array.replicate (mask+1) none) (f+1) i p=some i:=by
 show (match (List.range (SetTable.runEnd mask i+1 - i)).find? fun k=>((Array.replicate (mask+1) (none:Option Nat)).getD (i+k) (some 0)).isNone with
  |some k=>some (i+k)
  |none=>_)=_
 have hr:i<=SetTable.runEnd mask i:=by unfold SetTable.runEnd;split<;>lia
 obtain ⟨c,hc⟩:∃c,SetTable.runEnd mask i+1 - i=c+1:=⟨SetTable.runEnd mask i - i,by exact AY hr⟩;rw [hc,List.range_succ_eq_map,List.find?_cons]
 have h0:((Array.replicate (mask+1) (none:Option Nat)).getD (i+0) (some 0)).isNone=true:=by
  rw [Array.getD_eq_getD_getElem?];simp [show i<mask+1 by exact rf hi]
 rw [h0];rfl
theorem ye (t:SetTable) (h:Int) (LB:Nat):∃t',t.relaid #[h] LB=some (t',#[0])/\t'.fits 1=true/\t'.plain=t.plain:=by
 have hs:=(nh LB 64 8).1;have MS:8<=SetTable.sizeAbove LB:=hs;generalize hm:SetTable.sizeAbove LB - 1=mask
 have Xh:7<=mask:=by exact AX hm MS
 have hb:SetTable.bits h % (mask+1)<=mask:=by have:=Nat.mod_lt (SetTable.bits h) (show mask+1>0 by exact AW);exact AV this
 generalize hbb:SetTable.bits h % (mask+1)=b at hb
 have ZZ:SetTable.layClean mask #[h]=some ((Array.replicate (mask+1) none).setIfInBounds b (some 0)):=by
  unfold SetTable.layClean;simp only [List.foldl_toArray',List.foldl_cons,List.foldl_nil];rw [show SetTable.turns mask=(mask+14)+1 from rfl];simp [hbb,Hn hb]
 have Xl:(List.range (mask+1)).filterMap (fun j=>(((Array.replicate (mask+1) (none:Option Nat)).setIfInBounds b (some 0)).getD j none).map (j,·))=[(b,0)]:=by
  have e:∀j∈List.range (mask+1),(((Array.replicate (mask+1) (none:Option Nat)).setIfInBounds b (some 0)).getD j none).map (j,·)=if j=b then some (b,0) else none:=fun j hj=>by
   have LG:=List.mem_range.mp hj;rw [Array.getD_eq_getD_getElem?,Array.getElem?_setIfInBounds]
   by_cases q:b=j
   ·subst q;simp [LG]
   ·rw [if_neg q,if_neg (Ne.symm q)]
    simp [LG]
  rw [tK e]
  have go:∀n,b<n->(List.range n).filterMap (fun j=>if j=b then some (b,0) else none)=[(b,0)]:=by
   intro n
   induction n with
   |zero=>intro h;lia
   |succ n ih=>
    intro h;rw [List.range_succ,List.filterMap_append]
    by_cases q:b=n
    ·subst q
     have:(List.range b).filterMap (fun j=>if j=b then some (b,0) else none)=[]:=by
      rw [List.filterMap_eq_nil_iff];intro j hj;have:=List.mem_range.mp hj;rw [if_neg (re this)]
     rw [this];simp
    ·rw [ih (AU h q)]
     simp [show ¬n=b by exact AT q]
  exact go _ (rf hb)
 refine ⟨{mask,place:=#[b],dummies:=#[],finger:=t.finger,led:=t.led,moves:=t.movedTo mask,plain:=t.plain},?_,?_,rfl⟩
 ·unfold SetTable.relaid SetTable.laid
  rw [hm,ZZ];simp only [Option.bind_eq_bind,Option.bind_some,Xl];rfl
 ·simp [SetTable.fits,SetTable.fill];exact AS Xh
section
variable {prog:Program} {w:World} {A:Around} {E:Value->Shared->Prop} {s:Shared}
theorem xn {a:Addr} {o:Obj} {x:PySem.Str} {n:Nat} {Q:Unit->Shared->Prop} (ho:s.heap.get? a=some o) (hS:dP prog w o [x]) (hn:n<=1000)
  (h:∀o' h',Heap.SameBut a s.heap h'->h'.get? a=some o'->dP prog w o' [x]->Q () {s with heap:=h'}):wpAny (model prog w) A (setRoomFor a n) Q E s:=by
 have My:=hS;refine ak hS fun hex aj=>?_;clear hS;refine aW aj fun es ep t aZ=>?_;refine bv aZ fun hd Pn hp hf I_=>?_
 have ba:es.size=1:=by rw [<-Array.length_toList,<-List.length_map (f:=fun e:Int×Value=>strOf e.2),hp.length_eq];rfl
 unfold setRoomFor;refine wpAny_bind (wpAny_setState_of ho hd hf ?_);dsimp only
 cases hr:t.roomFor n with
 |none=>
  have e:s={s with heap:=s.heap}:=by cases s;rfl
  refine wpAny_pure ?_;rw [e];exact h o s.heap (Heap.SameBut.refl a s.heap) ho My
 |some LB=>
  have hw:LB<=3000:=by
   unfold SetTable.roomFor at hr
   split at hr
   ·simp only [SetTable.fits,Bool.and_eq_true,beq_iff_eq] at hf
    cases hr
    rw [hf.1];exact AQ ba hn
   ·cases hr
  dsimp only;unfold setRelay;refine wpAny_bind (wpAny_setState_of ho hd hf ?_);dsimp only
  have XK:SetTable.sizeAbove LB<=6000:=by
   have h2:=(nh LB 64 8).2;have h3:SetTable.sizeAbove LB<=max 8 (2*LB):=h2;exact AP h3 hw
  rw [if_neg (by rw [sizeLine_eq];exact AO XK)]
  obtain ⟨e0,rfl⟩:∃e0,es=#[e0]:=⟨es[0],by
   apply Array.ext (by simp [ba]);intros i h1 h2
   simp at h2;subst h2;simp⟩
  refine am (ye t e0.1 LB) fun t' aj=>?_;refine aI aj fun VE hf' Mh=>?_;rw [show (#[e0].map (·.1))=#[e0.1] by simp,VE];refine wpAny_bind (wpAny_of_eq (a:=(#[e0],t')) ?_ ?_)
  ·rfl
  ·dsimp only
   refine wpAny_storeSet_of ho hd ?_ (by show 1<=_;rw [sizeLine_eq];exact AN);refine ak (om (prog:=prog) (w:=w) (xs:=[x]) (es':=#[e0]) (t':=t') ho hex hd Pn hp hf' (by rw [Mh];exact I_ (by simp))) fun g1 g2=>?_;exact h _ _ (Heap.SameBut.update _ a _) g1 g2
end
section
variable {prog:Program} {w:World} {M:Model} {A:Around} {E:Value->Shared->Prop} {s:Shared}
theorem vQ {NU:Source} {n:Nat} {Q:Nat->Shared->Prop} (hn:n≠0) (h:∀i d,i<n->Q i {s with drawn:=d}):wpAny M A (choose NU n) Q E s:=
 fun _ _ _=>⟨hn,h _ _ (Nat.mod_lt _ (Nat.pos_of_ne_zero hn))⟩
theorem oA {α:Type}:∀(l:List α) (i:Nat) (h:i<l.length),(l[i]::l.eraseIdx i).Perm l
 |[],i,h=>by simp at h
 |a::r,0,_=>List.Perm.refl _
 |a::r,i+1,h=>by
  simp only [List.getElem_cons_succ,List.eraseIdx_cons_succ];exact (List.Perm.swap a _ _).trans (List.Perm.cons a (oA r i (by simpa using h)))
theorem pY {α:Type}:∀(n:Nat) (xs:List α) (s:Shared) {Q:List α->Shared->Prop},xs.length=n->(∀ys d,ys.Perm xs->Q ys {s with drawn:=d})->wpAny M A (drawOrder n xs) Q E s
 |0,xs,s,Q,hn,h=>by
  obtain rfl:=List.length_eq_zero_iff.mp hn
  have:s={s with drawn:=s.drawn}:=by cases s;rfl
  rw [this];exact wpAny_pure (h [] s.drawn (List.Perm.refl _))
 |n+1,xs,s,Q,hn,h=>by
  match xs,hn,h with
  |x::r,hn,h=>
   show wpAny M A (do
    let i <-choose .order (x::r).length
    match (x::r)[i]? with
    |some y=>return y::(<-drawOrder n ((x::r).eraseIdx i))
    |none=>unsupported "internal:drawOrder") Q E s
   refine wpAny_bind (vQ (by simp) fun i d hi=>?_);rw [List.getElem?_eq_getElem hi];dsimp only;refine wpAny_bind (pY n ((x::r).eraseIdx i) _ (by rw [List.length_eraseIdx,if_pos hi];exact rd hn) fun ys d' hp=>?_);refine wpAny_pure (h _ d' ?_);exact (List.Perm.cons _ hp).trans (oA _ i hi)
theorem pX {α:Type} {f:α->PUnit->Sem (ForInStep PUnit)} (I:Nat->Shared->Prop):∀(l:List α) (i:Nat) (s:Shared),I i s->
  (∀j x s,i<=j->l[j - i]?=some x->I j s->wpAny M A (f x PUnit.unit) (fun st s'=>st= .yield PUnit.unit/\I (j+1) s') E s)->wpAny M A (forIn l PUnit.unit f) (fun _ s'=>I (i+l.length) s') E s
 |[],i,s,h,_=>by
  rw [List.forIn_nil];exact wpAny_pure h
 |x::r,i,s,h,hf=>by
  rw [List.forIn_cons];refine wpAny_bind (wpAny_mono (hf i x s (Nat.le_refl _) (by simp) h) (fun st s' h'=>?_) fun _ _ e=>e);have XY:=h';clear h';refine ak XY fun aj h'=>?_;clear XY;subst aj
  have:=pX I r (i+1) s' h' fun j y s hj hy hI=>hf j y s (nJ hj) (by
   obtain ⟨k,hk⟩:∃k,j - i=k+1:=⟨j - i - 1,by exact AM hj⟩;rw [hk,List.getElem?_cons_succ];rw [show j - (i+1)=k by exact AL hk] at hy
   exact hy) hI
  rw [List.length_cons,show i+(r.length+1)=i+1+r.length by exact AK];exact this
theorem I6 {α:Type} {t:Sem α} {Q:α->Shared->Prop} (h:wpAny M A t Q E {s with toks:=s.toks}):wpAny M A t Q E s:=h
end
section
variable {prog:Program} {w:World} {A:Around} {E:Value->Shared->Prop} {s:Shared}
theorem wM:isSubtype (.type "dict") (.type "set")=pure false:=by rw [isSubtype_type];kernel_rfl
theorem wN:isSubtype (.type "dict") (.type "frozenset")=pure false:=by rw [isSubtype_type];kernel_rfl
theorem E4 {knd:PySem.KeyKind prog w PySem.Str} {es:List DictEntry} {kvs:List (PySem.Str×Value)} (h:Pairs knd es kvs):∀(i:Nat) (kv:PySem.Str×Value),kvs[i]?=some kv->∃e,es[i]?=some e/\knd.is kv.1 e.key=true/\e∈es:=by
 induction h with
 |nil=>intros i kv h;simp at h
 | @cons e kv es kvs h1 h2 _ ih=>
  intros i TZ h
  cases i with
  |zero=>simp at h;subst h;exact ⟨e,by simp,h1, .head _⟩
  |succ i=>refine am (ih i TZ (by simpa using h)) fun e' aj=>?_;refine aI aj fun a b c=>?_;exact ⟨e',by simpa using a,b, .tail _ c⟩
theorem oq:plainId "set.update.loop"=true:=by decide+kernel
theorem tS:entryFor table "set.update.loop"=some Builtin.«set.update.loop»:=entryFor_of_tree (by kernel_rfl)
noncomputable def iH (prog:Program) (w:World) (s:Shared) (S:Addr) (xs:List PySem.Str) (s':Shared):Prop:=
 ∃LM h' tk,s'={s with heap:=h',toks:=tk}/\(∀b o,b≠S->s.heap.get? b=some o->h'.get? b=some o)/\h'.get? S=some LM/\dP prog w LM xs
theorem GB {S:Addr} {xs:List PySem.Str} {x:PySem.Str} {t:Tok} {s':Shared} {Q:Bool->Shared->Prop} (h:iH prog w s S xs s') (hx:x∉xs) (hl:xs.length+1<=1000) (k:∀r_,iH prog w s S (x::xs) r_->Q true r_):
  wpAny (model prog w) A (setAddHashed S (.str x t) (hashStr w x)) Q E s':=by
 refine aW h fun LM h' tk aj=>?_;clear h;refine bO aj fun aZ hk hS hs=>?_;subst aZ;refine nb hS hs hx hl fun Rk Lp RO Mx hg MS=>?_;exact k _ ⟨Rk,Lp,RO,rfl,fun b o hb e=>Mx.extBut b o hb (hk b o hb e),hg,MS⟩
theorem qi {S D I:Addr} {ks:List PySem.Str} {ep:Nat} {kvs:List (PySem.Str×Value)} {x:PySem.Str} {R:Result->Shared->Prop} (hh:A.handled=none) (MH:S≠I) (Sk:D≠I) (OH:S≠D)
  (p_:kvs.map (·.1)=ks) (Oy:∀i k,ks[i]?=some k->k∉(ks.take i).reverse++[x]) (PG:∀i k,ks[i]?=some k->k::((ks.take i).reverse++[x])=(ks.take (i+1)).reverse++[x]) (bW:∀i,((ks.take i).reverse++[x]).length+1<=1000)
  (k:∀s',iH prog w s S ((ks.take kvs.length).reverse++[x]) s'->R (.ok (.ret .none)) s'):
  ∀(n i:Nat) (s':Shared),i+n=kvs.length->s'.heap.IsKeyIter I D i kvs.length ep->s'.heap.DictAt (PySem.strKind prog w) D kvs ep->iH prog w s S ((ks.take i).reverse++[x]) s'->(s.heap.get? I=none)->
   codeAny (model prog w) A (.builtin "set.update.loop" ⟨[.ref S, .ref I],[]⟩) R s'
 |0,i,s',hn,hI,hD,hJ,KJ=>by
  obtain rfl:i=kvs.length:=by exact AJ hn
  refine codeAny_builtin tS ?_;rw [Around.under_plainId oq _];show wpAny _ A.in1 (pyNext (.ref I) >>= _) _ _ s';refine wpAny_bind ((Walks.dictKeys (A:=A.in1) hh I D Sk kvs ep).done s' _ _ ⟨hI,hD⟩ fun h' tk hk=>?_);refine aW hJ fun LM aT iO aj=>?_;clear hJ;refine bO aj fun aZ eJ hS hs=>?_;subst aZ;refine wpAny_pure (k _ ⟨LM,h',tk,rfl,fun b o hb e=>hk b o (fun q=>?_) (eJ b o hb e),hk S _ (by simpa using MH) hS,hs⟩);rw [br q,KJ] at e;cases e
 |n+1,i,s',hn,hI,hD,hJ,KJ=>by
  refine codeAny_builtin tS ?_;rw [Around.under_plainId oq _];show wpAny _ A.in1 (pyNext (.ref I) >>= _) _ _ s';refine wpAny_bind ((Walks.dictKeys (A:=A.in1) hh I D Sk kvs ep).item i s' _ _ (fY hn) ⟨hI,hD⟩ fun v h' tk hv hst hk=>?_);refine bl hv fun kk y aj=>?_;clear hv;refine ak aj fun hy hv=>?_;refine am (Value.isStrOf_shape hv) fun t aj=>?_;subst aj
  have Yi:ks[i]?=some kk:=by rw [<-p_,List.getElem?_map,hy];rfl
  have Lv:iH prog w s S ((ks.take i).reverse++[x]) {s' with heap:=h',toks:=tk}:=by
   refine aW hJ fun LM aT iO aj=>?_;clear hJ;refine bO aj fun aZ eJ hS hs=>?_;subst aZ;refine ⟨LM,h',tk,rfl,fun b o hb e=>hk b o (fun q=>?_) (eJ b o hb e),hk S _ (by simpa using MH) hS,hs⟩;rw [br q,KJ] at e;cases e
  dsimp only;refine wpAny_bind (wpAny_holding ?_);unfold setAdd;refine wpAny_holding (wpAny_bind (wpAny_pyHash_str ?_));refine aW Lv fun LM aT iO aj=>?_;clear Lv;refine bO aj fun pS eJ hS hs=>?_;have hh':h'=aT:=congrArg Shared.heap pS;subst hh';refine nb (s:=_) hS hs (Oy i kk Yi) (bW i) fun Rk Lp RO Mx hg MS=>?_;refine wpAny_pure ⟨plainId_quiet oq _,qi (ep:=ep) hh MH Sk OH p_ Oy PG bW k n (i+1) _ (kZ hn) ?_ ?_ ?_ KJ⟩
  ·exact hst.1.at fun o e=>Mx.extBut _ _ (Ne.symm MH) e
  ·exact hst.2.at' fun o e=>Mx.extBut _ _ (Ne.symm OH) e
  ·rw [PG i kk Yi] at MS
   refine ⟨Rk,Lp,RO,?_,fun b o hb e=>Mx.extBut b o hb (eJ b o hb e),hg,MS⟩;have e2:=congrArg (fun q:Shared=>({q with heap:=Lp,toks:=RO}:Shared)) pS;exact e2
theorem wT {S D:Addr} {os od:Obj} {x:PySem.Str} {kvs:List (PySem.Str×Value)} {Q:Unit->Shared->Prop} (hh:A.handled=none) (hS:s.heap.get? S=some os) (hs:dP prog w os [x]) (hD:s.heap.get? D=some od) (hd:od.IsDictOf (PySem.strKind prog w) kvs) (hx:x∉kvs.map (·.1)) (ba:kvs.length<=500)
  (t_:(D == sysModules)=false) (OH:S≠D)
  (h:∀LM h' tk ys,(∀b o,b≠S->s.heap.get? b=some o->h'.get? b=some o)->h'.get? S=some LM->dP prog w LM ys->ys.Perm (x::kvs.map (·.1))->Q () {s with heap:=h',toks:=tk}):wpAny (model prog w) A (setDisplayStar S (.ref D)) Q E s:=by
 revert hh hS hs hD hd hx ba t_ OH h;revert prog w A E s S D os od x kvs Q;refine' no_implicit_lambda% ((?zpad:∀(_ _ _ _ _:Nat),_) 0 0 0 0 0);refine' no_implicit_lambda% (eO ?zR (a:=((0,0,0,0,0,default,bw,callerA),(fun _ _=>True,{},0,0,default,default,Str.empty,[]),fun _ _=>True)) rfl (no_implicit_lambda% ((?zg:eE ?zR) 0 0 0 0 0 _ _ _ _ _ _ _ _ _ _ _ _)));intros _ _ _ _ _ prog w A E s S D os od x kvs Q;intros hh hS hs hD hd hx ba t_ OH h;have hd':=hd;refine bl hd fun es ep aj=>?_;clear hd;refine bv aj fun hex PJ hk hp Nd=>?_;have hT:s.TypeIs (.ref D) "dict":=⟨od,hD,hex.1⟩;unfold setDisplayStar;dsimp only;refine wpAny_bind (wpAny_isInstance hT wM ?_);rw [if_neg (by decide)];refine wpAny_bind (wpAny_isInstance hT wN ?_);refine wpAny_bind (wpAny_askSetting ?_);dsimp only
 have Xc:∀i,i<kvs.length->∃(e:DictEntry) (k:PySem.Str) (t:Tok),es[i]?=some e/\e.key= .str k t/\e.hash=hashStr w k/\(kvs.map (·.1))[i]?=some k:=fun i hi=>by
  refine am (E4 hp i kvs[i] (List.getElem?_eq_getElem hi)) fun e aj=>?_;refine aI aj fun a b c=>?_;refine am (hk e (by simpa using c)) fun k aj=>?_;refine ak aj fun k1 k2=>?_;have ek:=(PySem.strKind prog w).inj _ _ _ k1 b;subst ek;refine am (Value.isStrOf_shape b) fun t ht=>?_;exact ⟨e,_,t,by simpa using a,ht,k2,by simp [hi]⟩
 have hsz:es.size=kvs.length:=by rw [<-Array.length_toList];exact hp.length
 have Oy:∀i k,(kvs.map (·.1))[i]?=some k->k∉((kvs.map (·.1)).take i).reverse++[x]:=fun i k hk hm=>by
  refine am (List.getElem?_eq_some_iff.mp hk) fun hi hk=>?_;refine Or.elim (aE hm) (fun hm=>?_) fun hm=>?_
  ·rw [List.mem_reverse] at hm
   refine fh (List.getElem_of_mem hm) fun j hj e=>?_;rw [List.getElem_take] at e;rw [List.nodup_iff_pairwise_ne,List.pairwise_iff_getElem] at Nd;rw [List.length_take] at hj;exact Nd j i (lh hj) hi (i4 hj) (e.trans hk.symm)
  ·rw [List.mem_singleton] at hm
   subst hm;subst hk;exact hx (List.getElem_mem _)
 have PG:∀i k,(kvs.map (·.1))[i]?=some k->k::(((kvs.map (·.1)).take i).reverse++[x])=((kvs.map (·.1)).take (i+1)).reverse++[x]:=fun i k hk=>by
  rw [List.take_add_one,hk];simp
 have RW:(((kvs.map (·.1)).take kvs.length).reverse++[x]).Perm (x::kvs.map (·.1)):=by
  rw [List.take_of_length_le (by simp)];exact List.perm_append_comm.trans (List.Perm.cons _ (List.reverse_perm _))
 have bW:∀i,(((kvs.map (·.1)).take i).reverse++[x]).length+1<=1000:=fun i=>by
  rw [List.length_append,List.length_reverse,List.length_take,List.length_map,List.length_singleton];exact AI ba
 by_cases K4:w.params.followText "set-display-star-reads-storage"=true
 ·rw [show (if (model prog w).w.params.followText "set-display-star-reads-storage"=true then Value.none else Value.ref D)=Value.none from if_pos K4]
  dsimp only;refine wpAny_bind (wpAny_pyIter_dict (knd:=PySem.strKind prog w) (kvs:=kvs) (ep:=ep) t_ ⟨od,es,hD,hex,PJ,hk,hp,Nd⟩ ?_);have Y5:=Heap.lt_size hS;have YV:=Heap.lt_size hD;refine wpAny_bind (wpAny_runValue (qi (s:=s) (ep:=ep) (kvs:=kvs) (x:=x) hh (Nat.ne_of_lt Y5) (Nat.ne_of_lt YV) OH rfl Oy PG bW (fun s' hJ=>?_) kvs.length 0 _ (Nat.zero_add _) ?_ ?_ ?_ ?_))
  ·refine aW hJ fun LM h' tk aj=>?_;clear hJ;refine bO aj fun aZ a b c=>?_;subst aZ
   exact wpAny_pure (h LM h' tk _ a b c RW)
  ·exact ⟨_,Heap.get?_push_size _ rfl,rfl,rfl⟩
  ·exact ⟨od,es,Heap.get?_push_of_some _ hD,hex,PJ,hk,hp,Nd⟩
  ·exact ⟨os,_,s.toks,rfl,fun b o _ e=>Heap.get?_push_of_some _ e,Heap.get?_push_of_some _ hS,by simpa using hs⟩
  ·exact Heap.get?_none_of_le (Nat.le_refl _)
 ·rw [show (if (model prog w).w.params.followText "set-display-star-reads-storage"=true then Value.none else Value.ref D)=Value.ref D from if_neg K4]
  dsimp only;rw [if_neg (by decide)];refine wpAny_bind (wpAny_typeOf hT ?_);rw [if_pos (by decide)];refine wpAny_bind (wpAny_rule ?_);rw [if_neg (by rw [t_];decide)];refine wpAny_bind (wpAny_dictEpoch hD PJ ?_);refine wpAny_bind (wpAny_dictEntries hD PJ ?_);refine wpAny_bind (xn hS hs (AG hsz ba) fun Z5 h1 RL U3 hs1=>?_);simp only [Std.Legacy.Range.forIn_eq_forIn_range'];refine wpAny_bind (wpAny_mono (pX (fun j s'=>iH prog w s S (((kvs.map (·.1)).take j).reverse++[x]) s') _ 0 _ ⟨Z5,h1,s.toks,rfl,fun b o hb e=>RL.extBut b o hb e,U3,by simpa using hs1⟩ (fun j y s' _ hy hJ=>?_)) (fun _ s' hJ=>?_) fun _ _ e=>e)
  ·have TL:[:es.size].size=kvs.length:=by rw [<-hsz];simp [Std.Legacy.Range.size]
   rw [TL,Nat.sub_zero] at hy;refine am (List.getElem?_eq_some_iff.mp hy) fun hj hyj=>?_;rw [List.length_range'] at hj
   have ey:y=j:=by rw [<-hyj];simp
   subst ey;refine aW (Xc y hj) fun e k t aj=>?_;refine bO aj fun he hk1 Rt Pq=>?_;refine aW hJ fun LM h' tk aj=>?_;clear hJ;refine bO aj fun aZ a b c=>?_;subst aZ;refine wpAny_bind (wpAny_dictEntries (a D od (Ne.symm OH) hD) PJ ?_);rw [he];dsimp only;rw [hk1,Rt];refine wpAny_bind (wpAny_holding (wpAny_bind (GB (s:=s) ⟨LM,h',tk,rfl,a,b,c⟩ (Oy y k Pq) (bW y) fun r_ Lv=>wpAny_pure ?_)));refine aW Lv fun Z2 h2 QB aj=>?_;clear Lv;refine bO aj fun aZ a2 b2 c2=>?_;subst aZ;refine wpAny_bind (wpAny_dictEpoch (a2 D od (Ne.symm OH) hD) PJ ?_);rw [if_neg (by simp)];refine wpAny_pure ⟨rfl,Z2,h2,QB,rfl,a2,b2,?_⟩;rw [<-PG y k Pq];exact c2
  ·refine aW hJ fun LM h' tk aj=>?_;clear hJ;refine bO aj fun aZ a b c=>?_;subst aZ
   have TL:0+(List.range' 0 [:es.size].size).length=kvs.length:=by rw [<-hsz];simp [Std.Legacy.Range.size]
   rw [TL] at c;exact wpAny_pure (h LM h' tk _ a b c RW)
end
theorem slot_si_next:Slot "set_iterator" "__next__" "set_iterator.__next__":=
 .of (owner:="set_iterator") (n:="__next__") (by rw [typeLookup_type,builtinLookup_eq_fast];kernel_rfl) (by decide+kernel) (by decide+kernel) (by decide+kernel)
  (by first|exact .inl (by decide+kernel)|exact .inr (by decide+kernel)) (by rw [isSubtype_type];kernel_rfl)
theorem qE:Slot "set_iterator" "__iter__" "set_iterator.__iter__":=
 .of (owner:="set_iterator") (n:="__iter__") (by rw [typeLookup_type,builtinLookup_eq_fast];kernel_rfl) (by decide+kernel) (by decide+kernel) (by decide+kernel)
  (by first|exact .inl (by decide+kernel)|exact .inr (by decide+kernel)) (by rw [isSubtype_type];kernel_rfl)
theorem tT:entryFor table "set_iterator.__next__"=some Builtin.«set_iterator.__next__»:=entryFor_of_tree (by kernel_rfl)
theorem Hw:entryFor table "set_iterator.__iter__"=some Builtin.«dict_keyiterator.__iter__»:=
 entryFor_alias (id':="dict_keyiterator.__iter__") (by rw [fastTable_eq_tree];kernel_rfl) (by first|rfl|decide+kernel) (by decide+kernel) (by rw [fastTable_eq_tree];kernel_rfl)
theorem Hx:entryFor table "set.__iter__"=some Builtin.«frozenset.__iter__»:=
 entryFor_alias (id':="frozenset.__iter__") (by rw [fastTable_eq_tree];kernel_rfl) (by first|rfl|decide+kernel) (by decide+kernel) (by rw [fastTable_eq_tree];kernel_rfl)
theorem uw (a:Value):argsOk "set_iterator.__next__" ⟨[a],[]⟩:=by unfold argsOk;kernel_rfl
theorem IM (a:Value):argsOk "set_iterator.__iter__" ⟨[a],[]⟩:=by unfold argsOk;kernel_rfl
theorem xp:typeLookup (.type "set") "__len__"=pure (some (.builtin "set.__len__")):=by rw [typeLookup_type,builtinLookup_eq_fast];kernel_rfl
theorem wI:isSubtype (.type "set") (.type "set")=pure true:=by rw [isSubtype_type];kernel_rfl
theorem rZ {α:Type} (nx:Nat->Nat):∀(f k:Nat) (l:List α) (out:Array α),l.length=f->(pickOrder.go nx f k l out).toList.Perm (out.toList++l)
 |0,k,l,out,h=>by
  obtain rfl:=List.length_eq_zero_iff.mp h;show out.toList.Perm _;rw [List.append_nil]
 |f+1,k,l,out,h=>by
  have hi:nx k % l.length<l.length:=Nat.mod_lt _ (AF h)
  show (match l[nx k % l.length]? with
   |some x=>pickOrder.go nx f (k+1) (l.eraseIdx (nx k % l.length)) (out.push x)
   |none=>out).toList.Perm _
  rw [List.getElem?_eq_getElem hi];dsimp only;refine (rZ nx f (k+1) _ _ (by rw [List.length_eraseIdx,if_pos hi];exact rd h)).trans ?_;rw [Array.toList_push,List.append_assoc];exact List.Perm.append_left _ (oA l _ hi)
theorem E0 {α:Type} (nx:Nat->Nat) (xs:Array α):(pickOrder nx xs).toList.Perm xs.toList:=by
 have:=rZ nx xs.size 0 xs.toList #[] (by simp);simp only [List.nil_append] at this;exact this
section
variable {prog:Program} {w:World} {A:Around} {E:Value->Shared->Prop} {s:Shared}
theorem mH {Q:Bool->Shared->Prop} (h:Q (w.params.followText "set-order") s):wpAny (model prog w) A setsByText Q E s:=by
 unfold setsByText;exact wpAny_bind (wpAny_askSetting (wpAny_pure h))
theorem we {a:Addr} {o:Obj} {es:Array (Int×Value)} {ep:Nat} {t:SetTable} {Q:Bool->Shared->Prop} (ho:s.heap.get? a=some o) (hd:o.data= .set es ep t) (hf:t.fits es.size=true)
  (h:Q (!w.params.followText "set-order" && (!t.plain && decide (es.size>1))) s):wpAny (model prog w) A (setDrawn a) Q E s:=by
 unfold setDrawn;refine wpAny_bind (wpAny_setState_of ho hd hf ?_);dsimp only;exact wpAny_bind (mH (wpAny_pure h))
noncomputable def eH (w:World) (es:Array (Int×Value)) (ep:Nat) (t:SetTable) (os:Obj) (I S T:Addr) (order:List Value) (i:Nat) (h:Heap):Prop:=
 h.get? S=some os/\os.data= .set es ep t/\t.fits es.size=true/\order.length=es.size/\
 ((w.params.followText "set-order"=true/\order=(pickOrder (w.params.setOrder S ep) es).toList.map (·.2)/\∃k:Int,h.get? I=some {cls:= .type "set_iterator",data:= .fields #[.int k 0, .int i 0, .ref S, .int es.size 0, .int ep 0]})\/
  (w.params.followText "set-order"=false/\∃(places:List Nat) (n:Nat),h.get? T=some {cls:= .type "tuple",data:= .seq (places.map fun p:Nat=>rawInt p).toArray n}/\T≠I/\(∀(j p:Nat),places[j]?=some p->∃e:Int×Value,es[p]?=some e/\order[j]?=some e.2)/\places.length=es.size/\
   h.get? I=some {cls:= .type "set_iterator",data:= .fields #[.ref T, .int i 0, .ref S, .int es.size 0, .int ep 0]}))
theorem nj {es:Array (Int×Value)} {ep:Nat} {t:SetTable} {os:Obj} {I S T:Addr} {order:List Value} {i:Nat} (h:eH w es ep t os I S T order i s.heap):s.TypeIs (.ref I) "set_iterator":=by
 refine bv h fun _ _ _ _ aj=>?_;clear h;obtain ⟨_,_,k,h⟩|⟨_,pl,n,_,_,_,_,h⟩:=aj
 ·exact ⟨_,h,rfl⟩
 ·exact ⟨_,h,rfl⟩
theorem iR {a:Addr} {o:Obj} {es:Array (Int×Value)} {ep:Nat} {t:SetTable} {Q:Array (Int×Value)->Shared->Prop} (ho:s.heap.get? a=some o) (hd:o.data= .set es ep t) (hf:t.fits es.size=true) (h:Q es s):wpAny (model prog w) A (setEntries a) Q E s:=by
 unfold setEntries;exact wpAny_bind (wpAny_setState_of ho hd hf (wpAny_pure h))
theorem wb {a:Addr} {o:Obj} {es:Array (Int×Value)} {ep:Nat} {t:SetTable} {Q:Array (Int×Value)->Shared->Prop} (ho:s.heap.get? a=some o) (hd:o.data= .set es ep t) (hf:t.fits es.size=true) (K4:w.params.followText "set-order"=true)
  (h:Q (pickOrder (w.params.setOrder a ep) es) s):wpAny (model prog w) A (setWalk a) Q E s:=by
 unfold setWalk;refine wpAny_bind (wpAny_setState_of ho hd hf ?_);dsimp only;refine wpAny_bind (mH ?_);rw [if_pos K4];exact wpAny_bind (wpAny_askSetting (wpAny_pure h))
theorem qd {a:Addr} {o:Obj} {es:Array (Int×Value)} {ep Wm given:Nat} {t:SetTable} {Q:Option (Value×Nat)->Shared->Prop} (ho:s.heap.get? a=some o) (hd:o.data= .set es ep t) (hf:t.fits es.size=true) (K4:w.params.followText "set-order"=true)
  (h:Q (((pickOrder (w.params.setOrder a ep) es)[given]?).map fun e=>(e.2,Wm)) s):wpAny (model prog w) A (setNext a Wm given ep) Q E s:=by
 unfold setNext;refine wpAny_bind (wpAny_setState_of ho hd hf ?_);dsimp only;refine wpAny_bind (mH ?_);rw [if_pos K4,if_neg (by simp)];exact wpAny_bind (wb ho hd hf K4 (wpAny_pure h))
theorem wc {a:Addr} {o:Obj} {es:Array (Int×Value)} {ep place:Nat} {t:SetTable} {e:Int×Value} {Q:Value->Shared->Prop} (ho:s.heap.get? a=some o) (hd:o.data= .set es ep t) (hf:t.fits es.size=true) (he:es[place]?=some e)
  (h:Q e.2 s):wpAny (model prog w) A (setNextDrawn a place ep) Q E s:=by
 unfold setNextDrawn;refine wpAny_bind (wpAny_setState_of ho hd hf ?_);dsimp only;rw [if_neg (by simp),he];exact wpAny_pure h
theorem xo {es:Array (Int×Value)} {ep:Nat} {t:SetTable} {os:Obj} {I S T:Addr} {order:List Value} {i:Nat} {v:Value} {Q:Option Value->Shared->Prop} (MH:S≠I) (h:eH w es ep t os I S T order i s.heap) (hv:order[i]?=some v)
  (k:∀h',Heap.SameBut I s.heap h'->eH w es ep t os I S T order (i+1) h'->Q (some v) {s with heap:=h'}):wpAny (model prog w) A (pyNext (.ref I)) Q E s:=by
 revert MH h hv k;revert prog w A E s es ep t os I S T order i v Q;refine' no_implicit_lambda% ((?zpad:∀(_:Nat),_) 0);refine' no_implicit_lambda% (eO ?zR (a:=((0,default,bw,callerA,fun _ _=>True,{},#[],0),(default,default,0,0,0,[],0,Value.none),fun _ _=>True)) rfl (no_implicit_lambda% ((?zg:eE ?zR) 0 _ _ _ _ _ _ _ _ _ _ _ _ _ _ _ _)));intros _ prog w A E s es ep t os I S T order i v Q;intros MH h hv k;have hT:=nj h;refine bv h fun hS hd hf ba hI=>?_;clear h;unfold pyNext;refine wpAny_bind (wpAny_attempt (wpAny_callSpecial?_slot (name:=ofString "__next__") hT slot_si_next (wpAny_call_entry slot_si_next hT tT ?_ (uw _))));unfold Builtin.«set_iterator.__next__»;refine wpAny_bind (wpAny_of_eq (a:=(.ref I,[])) (by rfl) ?_);dsimp only
 rcases hI with ⟨K4,ho,kk,hI⟩|⟨K4,places,n,PV,Q5,I_,Na,hI⟩
 ·refine wpAny_bind (wpAny_fieldsOf hI rfl ?_)
  show wpAny _ _ (setEntries S >>= _) _ _ _;refine wpAny_bind (iR hS hd hf ?_);rw [if_neg (by simp)];show wpAny _ _ (setNext S kk.toNat ((i:Nat):Int).toNat ((ep:Nat):Int).toNat >>= _) _ _ _;rw [Int.toNat_natCast,Int.toNat_natCast];refine wpAny_bind (qd hS hd hf K4 ?_)
  have he:((pickOrder (w.params.setOrder S ep) es)[i]?).map (fun e=>(e.2,kk.toNat))=some (v,kk.toNat):=by
   rw [ho,List.getElem?_map,Array.getElem?_toList] at hv
   cases hq:(pickOrder (w.params.setOrder S ep) es)[i]? with
   |none=>rw [hq] at hv;cases hv
   |some e=>rw [hq] at hv;cases hv;rfl
  rw [he];dsimp only;refine wpAny_bind (wpAny_setField_rec hI (by simp) fun aT jO s₁=>?_);refine wpAny_bind (wpAny_setField_rec jO (by simp) fun bP jN aG=>?_);refine wpAny_pure ⟨_,rfl,wpAny_pure (k bP (s₁.trans aG) ⟨?_,hd,hf,ba, .inl ⟨K4,ho,((kk.toNat:Nat):Int),?_⟩⟩)⟩
  ·exact (s₁.trans aG).extBut _ _ MH hS
  ·rw [jN];simp [rawInt]
 ·refine wpAny_bind (wpAny_fieldsOf hI rfl ?_)
  show wpAny _ _ (setEntries S >>= _) _ _ _;refine wpAny_bind (iR hS hd hf ?_);rw [if_neg (by simp)];show wpAny _ _ (seqItems? (.ref T) >>= _) _ _ _;refine wpAny_bind (wpAny_seqItems PV rfl ?_);have hi:i<order.length:=(List.getElem?_eq_some_iff.mp hv).1;have Pb:places[i]?=some places[i]:=List.getElem?_eq_getElem (AE hi ba Na);refine am (I_ i _ Pb) fun e aj=>?_;refine ak aj fun he Xu=>?_;rw [hv] at Xu
  cases Xu
  have e_:(places.map fun p:Nat=>rawInt p).toArray[(((i:Nat):Int)).toNat]?=some (.int ((places[i]:Nat):Int) 0):=by
   rw [Int.toNat_natCast,List.getElem?_toArray,List.getElem?_map,Pb];rfl
  dsimp only;rw [e_];show wpAny _ _ (setNextDrawn S ((places[i]:Nat):Int).toNat ((ep:Nat):Int).toNat >>= _) _ _ _;rw [Int.toNat_natCast,Int.toNat_natCast];refine wpAny_bind (wc hS hd hf he ?_);refine wpAny_bind (wpAny_setField_rec hI (by simp) fun bP jN aG=>?_);refine wpAny_pure ⟨_,rfl,wpAny_pure (k bP aG ⟨aG.extBut _ _ MH hS,hd,hf,ba, .inr ⟨K4,places,n,aG.extBut _ _ Q5 PV,Q5,I_,Na,?_⟩⟩)⟩;rw [jN];simp [rawInt]
end
section
variable {prog:Program} {w:World} {A:Around} {E:Value->Shared->Prop} {s:Shared}
theorem xu {es:Array (Int×Value)} {ep:Nat} {t:SetTable} {os:Obj} {I S T:Addr} {order:List Value} {Q:Option Value->Shared->Prop} (hh:A.handled=none) (MH:S≠I) (h:eH w es ep t os I S T order order.length s.heap)
  (k:∀h',Heap.ExtBut I s.heap h'->Q none {s with heap:=h'}):wpAny (model prog w) A (pyNext (.ref I)) Q E s:=by
 revert hh MH h k;revert prog w A E s es ep t os I S T order Q;refine' no_implicit_lambda% ((?zpad:∀(_ _ _:Nat),_) 0 0 0);refine' no_implicit_lambda% (eO ?zR (a:=((0,0,0,default,bw,callerA,fun _ _=>True,{}),(#[],0,default,default,0,0,0,[]),fun _ _=>True)) rfl (no_implicit_lambda% ((?zg:eE ?zR) 0 0 0 _ _ _ _ _ _ _ _ _ _ _ _ _ _)));intros _ _ _ prog w A E s es ep t os I S T order Q;intros hh MH h k;have hT:=nj h;refine bv h fun hS hd hf ba hI=>?_;clear h;unfold pyNext;refine wpAny_bind (wpAny_attempt (wpAny_callSpecial?_slot (name:=ofString "__next__") hT slot_si_next (wpAny_call_entry slot_si_next hT tT ?_ (uw _))));unfold Builtin.«set_iterator.__next__»;refine wpAny_bind (wpAny_of_eq (a:=(.ref I,[])) (by rfl) ?_);dsimp only
 rcases hI with ⟨K4,ho,kk,hI⟩|⟨K4,places,n,PV,Q5,I_,Na,hI⟩
 ·refine wpAny_bind (wpAny_fieldsOf hI rfl ?_)
  show wpAny _ _ (setEntries S >>= _) _ _ _;refine wpAny_bind (iR hS hd hf ?_);rw [if_neg (by simp)];show wpAny _ _ (setNext S kk.toNat ((order.length:Nat):Int).toNat ((ep:Nat):Int).toNat >>= _) _ _ _;rw [Int.toNat_natCast,Int.toNat_natCast];refine wpAny_bind (qd hS hd hf K4 ?_)
  have he:((pickOrder (w.params.setOrder S ep) es)[order.length]?).map (fun e=>(e.2,kk.toNat))=none:=by
   rw [Option.map_eq_none_iff,Array.getElem?_eq_none_iff]
   have:order.length=(pickOrder (w.params.setOrder S ep) es).size:=by rw [ho];simp
   exact ny this
  rw [he];dsimp only;refine wpAny_bind (wpAny_setField_rec hI (by simp) fun aT jO s₁=>?_);show wpAny _ _ (newExc (.type "StopIteration") [] >>= _) _ _ _;refine wpAny_bind ?_;simp only [newExc,newTuple];refine wpAny_bind (wpAny_newObj_type ?_ (by size_fits));refine wpAny_bind (m:=firstArgMember _ _) (wpAny_of_eq (a:=Value.none) (by first|rfl|(simp only [firstArgMember];rfl)) ?_);refine wpAny_newObj_type ?_ (by size_fits);simp only [raiseNew];refine wpAny_bind (wpAny_handled ?_);rw [show A.in1.handled=none from hh];refine wpAny_bind (wpAny_pure (wpAny_throw ?_));refine wpAny_bind (wpAny_isInstance (T:="StopIteration") (b:=true) ⟨_,Heap.get?_push_size _ rfl,rfl⟩ isSubtype_stop ?_);exact wpAny_pure (k _ ((s₁.extBut.push _).push _))
 ·refine wpAny_bind (wpAny_fieldsOf hI rfl ?_)
  show wpAny _ _ (setEntries S >>= _) _ _ _;refine wpAny_bind (iR hS hd hf ?_);rw [if_neg (by simp)];show wpAny _ _ (seqItems? (.ref T) >>= _) _ _ _;refine wpAny_bind (wpAny_seqItems PV rfl ?_)
  have e_:(places.map fun p:Nat=>rawInt p).toArray[(((order.length:Nat):Int)).toNat]?=none:=by
   rw [Int.toNat_natCast,List.getElem?_toArray,List.getElem?_eq_none_iff,List.length_map];exact AD ba Na
  dsimp only;rw [e_];dsimp only;refine wpAny_bind (wpAny_setField_rec hI (by simp) fun aT jO s₁=>?_);refine wpAny_bind (wpAny_setField_rec jO (by simp) fun bP jN aG=>?_);show wpAny _ _ (newExc (.type "StopIteration") [] >>= _) _ _ _;refine wpAny_bind ?_;simp only [newExc,newTuple];refine wpAny_bind (wpAny_newObj_type ?_ (by size_fits));refine wpAny_bind (m:=firstArgMember _ _) (wpAny_of_eq (a:=Value.none) (by first|rfl|(simp only [firstArgMember];rfl)) ?_);refine wpAny_newObj_type ?_ (by size_fits);simp only [raiseNew];refine wpAny_bind (wpAny_handled ?_);rw [show A.in1.handled=none from hh];refine wpAny_bind (wpAny_pure (wpAny_throw ?_));refine wpAny_bind (wpAny_isInstance (T:="StopIteration") (b:=true) ⟨_,Heap.get?_push_size _ rfl,rfl⟩ isSubtype_stop ?_);exact wpAny_pure (k _ (((s₁.trans aG).extBut.push _).push _))
theorem xm {es:Array (Int×Value)} {ep:Nat} {t:SetTable} {os:Obj} {I S T:Addr} {order:List Value} {i:Nat} {Q:Value->Shared->Prop} (h:eH w es ep t os I S T order i s.heap) (k:Q (.ref I) s):wpAny (model prog w) A (pyIter (.ref I)) Q E s:=by
 have hT:=nj h;refine wpAny_pyIter_slot hT qE (wpAny_call_entry qE hT Hw ?_ (IM _));show wpAny _ _ (ret (.ref I)) _ _ s;exact wpAny_pure ⟨_,rfl,"set_iterator",_,hT,slot_si_next.lookup,k⟩
theorem I9 {es:Array (Int×Value)} {ep:Nat} {t:SetTable} {os:Obj} {I S T:Addr} {order:List Value} {i:Nat} {h h':Heap} (x:eH w es ep t os I S T order i h) (hk:∀b o,h.get? b=some o->h'.get? b=some o):eH w es ep t os I S T order i h':=by
 refine bv x fun hS hd hf ba aj=>?_;clear x;obtain ⟨K4,ho,kk,hI⟩|⟨K4,places,n,PV,Q5,I_,Na,hI⟩:=aj
 ·exact ⟨hk _ _ hS,hd,hf,ba, .inl ⟨K4,ho,kk,hk _ _ hI⟩⟩
 ·exact ⟨hk _ _ hS,hd,hf,ba, .inr ⟨K4,places,n,hk _ _ PV,Q5,I_,Na,hk _ _ hI⟩⟩
theorem wa {a:Addr} {o:Obj} {es:Array (Int×Value)} {ep:Nat} {t:SetTable} {Q:Nat->Shared->Prop} (ho:s.heap.get? a=some o) (hd:o.data= .set es ep t) (hf:t.fits es.size=true) (h:Q es.size s):wpAny (model prog w) A (Builtin.Frozenset.sizeOf a) Q E s:=by
 unfold Builtin.Frozenset.sizeOf;exact wpAny_bind (iR ho hd hf (wpAny_pure h))
theorem xq {S:Addr} {os:Obj} {xs:List PySem.Str} {Q:Value->Shared->Prop} (hS:s.heap.get? S=some os) (hs:dP prog w os xs) (h2:2<=xs.length) (MC:xs.length<=1000)
  (k:∀es ep t order I T h' d,h'.get? I≠none->(∀b o,s.heap.get? b=some o->h'.get? b=some o)->s.heap.get? I=none->(s.heap.get? T=none\/T=S)->eH w es ep t os I S T order 0 h'->order.length=xs.length->(order.map strOf).Perm xs->(∀v∈order,∃x t,v= .str x t)->Q (.ref I) {s with heap:=h',drawn:=d}):
  wpAny (model prog w) A (pyIter (.ref S)) Q E s:=by
 refine ak hs fun hex aj=>?_;clear hs;refine aW aj fun es ep t aZ=>?_;refine bv aZ fun hd Pn hp hf I_=>?_;have hT:s.TypeIs (.ref S) "set":=⟨os,hS,hex.1⟩
 have ba:es.size=xs.length:=by rw [<-Array.length_toList,<-List.length_map (f:=fun e:Int×Value=>strOf e.2),hp.length_eq]
 have QP:t.plain=false:=I_ (by intro e;rw [e] at h2;simp at h2)
 have Pg:∀e∈es.toList,∃x tk,e.2= .str x tk:=fun e he=>by
  refine ak (Pn e he) fun aj _=>?_;refine am aj fun kk aZ=>?_;refine ak aZ fun hk _=>?_;refine am (Value.isStrOf_shape hk) fun tk ht=>?_;exact ⟨_,tk,ht⟩
 refine wpAny_pyIter_slot hT F.slot_set_iter (wpAny_call_entry F.slot_set_iter hT Hx ?_ (F.args_set_iter_1 _));unfold Builtin.«frozenset.__iter__»;refine wpAny_bind (wpAny_of_eq (a:=S) (by rfl) ?_);refine wpAny_bind (wa hS hd hf ?_);refine wpAny_bind (we hS hd hf ?_);have Wn:∀a:Addr,a=s.heap.objs.size->s.heap.get? a=none:=fun a e=>Heap.get?_none_of_le (Nat.le_of_eq e.symm)
 by_cases K4:w.params.followText "set-order"=true
 ·rw [K4]
  simp only [Bool.not_true,Bool.false_and,Bool.false_eq_true,if_false];refine wpAny_bind (wpAny_pure ?_);refine wpAny_bind (wpAny_setEpoch_of hS hd hf ?_);refine wpAny_bind (wpAny_newObj_type ?_ (by size_fits));have TQ:=E0 (w.params.setOrder S ep) es
  have e:s={s with drawn:=s.drawn}:=by cases s;rfl
  refine wpAny_pure ⟨_,rfl,"set_iterator",_,⟨_,Heap.get?_push_size _ rfl,rfl⟩,slot_si_next.lookup,?_⟩;refine k es ep t ((pickOrder (w.params.setOrder S ep) es).toList.map (·.2)) s.heap.objs.size S _ s.drawn ?_ (fun b o e=>Heap.get?_push_of_some _ e) (Wn _ rfl) (.inr rfl) ⟨Heap.get?_push_of_some _ hS,hd,hf,?_, .inl ⟨K4,rfl,0,Heap.get?_push_size _ rfl⟩⟩ ?_ ?_ ?_
  ·rw [Heap.get?_push_size _ rfl];simp
  ·rw [List.length_map,TQ.length_eq,Array.length_toList]
  ·rw [List.length_map,TQ.length_eq,Array.length_toList,ba]
  ·rw [List.map_map];exact (TQ.map _).trans hp
  ·intro v hv
   refine am (aP hv) fun e aj=>?_;refine ak aj fun he aZ=>?_;subst aZ;exact Pg e (TQ.mem_iff.mp he)
 ·have WQ:w.params.followText "set-order"=false:=by simpa using K4
  rw [WQ,QP];have h1:decide (es.size>1)=true:=decide_eq_true (AC h2 ba);simp only [Bool.not_false,Bool.true_and,h1,if_true];refine wpAny_bind (pY es.size (List.range es.size) s (by simp) fun ys d f_=>?_)
  have lG:ys.length=es.size:=by rw [f_.length_eq];simp
  refine wpAny_bind (wpAny_newTuple ?_ (by rw [List.length_map,sizeLine_eq];exact AB ba lG MC));refine wpAny_bind (wpAny_setEpoch_of (Heap.get?_push_of_some _ hS) hd hf ?_);refine wpAny_bind (wpAny_newObj_type ?_ (by size_fits));refine wpAny_pure ⟨_,rfl,"set_iterator",_,⟨_,Heap.get?_push_size _ rfl,rfl⟩,slot_si_next.lookup,?_⟩
  have Y8:∀j p,ys[j]?=some p->∃e:Int×Value,es[p]?=some e/\(ys.map fun p=>(es.getD p (0, .none)).2)[j]?=some e.2:=fun j p hj=>by
   have Mh:p<es.size:=by
    have:=f_.mem_iff.mp (List.mem_of_getElem? hj)
    simpa using this
   refine ⟨es[p],Array.getElem?_eq_getElem Mh,?_⟩;rw [List.getElem?_map,hj];simp [Array.getD,Mh]
  have Lh:(ys.map fun p=>(es.getD p (0, .none)).2).Perm (es.toList.map (·.2)):=by
   refine (f_.map _).trans (List.Perm.of_eq ?_);apply List.ext_getElem (by simp);intros i h1 h2;simp at h1;simp [Array.getD,h1]
  refine k es ep t (ys.map fun p=>(es.getD p (0, .none)).2) _ s.heap.objs.size _ d ?_ (fun b o e=>Heap.get?_push_of_some _ (Heap.get?_push_of_some _ e)) (Heap.get?_none_of_le (by rw [size_push'];exact Nat.le_succ _)) (.inl (Wn _ rfl)) ⟨Heap.get?_push_of_some _ (Heap.get?_push_of_some _ hS),hd,hf,?_, .inr ⟨WQ,ys,0,?_,(by rw [size_push'];exact Nat.ne_of_lt (Nat.lt_succ_self _)),Y8,lG,?_⟩⟩ ?_ ?_ ?_
  ·rw [Heap.get?_push_size _ rfl];simp
  ·rw [List.length_map,lG]
  ·exact Heap.get?_push_of_some _ (Heap.get?_push_size _ rfl)
  ·exact Heap.get?_push_size _ rfl
  ·rw [List.length_map,lG,ba]
  ·refine (Lh.map strOf).trans ?_
   rw [List.map_map];exact hp
  ·intro v hv
   refine am (aP (Lh.mem_iff.mp hv)) fun e aj=>?_;refine ak aj fun he aZ=>?_;subst aZ;exact Pg e he
end
section
variable {prog:Program} {w:World} {A:Around} {E:Value->Shared->Prop} {s:Shared}
theorem qH {es:Array (Int×Value)} {ep:Nat} {t:SetTable} {os:Obj} {I S T:Addr} {order:List Value} {i:Nat} {h h':Heap} (x:eH w es ep t os I S T order i h) (hk:∀b∈[I,S,T],∀o,h.get? b=some o->h'.get? b=some o):eH w es ep t os I S T order i h':=by
 refine bv x fun hS hd hf ba aj=>?_;clear x;obtain ⟨K4,ho,kk,hI⟩|⟨K4,places,n,PV,Q5,I_,Na,hI⟩:=aj
 ·exact ⟨hk S (by simp) _ hS,hd,hf,ba, .inl ⟨K4,ho,kk,hk I (by simp) _ hI⟩⟩
 ·exact ⟨hk S (by simp) _ hS,hd,hf,ba, .inr ⟨K4,places,n,hk T (by simp) _ PV,Q5,I_,Na,hk I (by simp) _ hI⟩⟩
theorem xw {es:Array (Int×Value)} {ep:Nat} {t:SetTable} {os:Obj} {I S T:Addr} {order:List Value} (hh:A.handled=none) (MH:S≠I):
  Walks prog w A I [I,S,T] [I] order.length (fun i v=>order[i]?=some v) (fun i h=>eH w es ep t os I S T order i h) where
 sub:=fun b hb=>by simp at hb;simp [hb]
 frame:=fun _ _ _ st hk=>qH st hk
 item:=fun i s Q E hi st hQ=>xo MH st (List.getElem?_eq_getElem hi) fun h' hs st'=>hQ _ h' s.toks (List.getElem?_eq_getElem hi) st' fun b o hb e=>hs.extBut b o (by simpa using hb) e
 done:=fun s Q E st hQ=>xu hh MH st fun h' he=>hQ h' s.toks fun b o hb e=>he b o (by simpa using hb) e
 self:=fun _ _ _ _ st hQ=>xm st hQ
theorem GD {order:List Value} {fm:Array Value} (h:ItemsOf (fun i v=>order[i]?=some v) fm order.length):fm.toList=order:=by
 apply List.ext_getElem (by simpa using h.1);intros i h1 h2;have:=h.2 i fm[i] (by simp);have this:order[i]?=some fm[i]:=this;rw [List.getElem?_eq_getElem h2] at this
 simpa using (Option.some.inj this).symm
theorem Ia {S:Addr} {os:Obj} {xs:List PySem.Str} {Q:List Value->Shared->Prop} (hh:A.handled=none) (hS:s.heap.get? S=some os) (hs:dP prog w os xs) (h2:2<=xs.length) (MC:xs.length<=1000)
  (k:∀order h' d tk,(∀b o,s.heap.get? b=some o->h'.get? b=some o)->order.length=xs.length->(order.map strOf).Perm xs->(∀v∈order,∃x t,v= .str x t)->Q order {s with heap:=h',drawn:=d,toks:=tk}):
  wpAny (model prog w) A (collect (.ref S)) Q E s:=by
 revert hh hS hs h2 MC k;revert prog w A E s S os xs Q;refine' no_implicit_lambda% (ot ?zR (a:=((default,bw,callerA,fun _ _=>True,{},0,default,[]),fun _ _=>True)) rfl (no_implicit_lambda% ((?zg:lX ?zR) _ _ _ _ _ _ _ _ _)));intros prog w A E s S os xs Q;intros hh hS hs h2 MC k;have hex:=hs.1;unfold collect;refine wpAny_bind (wpAny_runValue (codeAny_builtin F.entry_proto_collect ?_));rw [Around.under_plainId F.plain_proto_collect _];show wpAny _ A.in1 (newList [] >>= fun l=>again (.builtin "list.__iadd__" ⟨[l, .ref S],[]⟩)) _ _ s;refine wpAny_bind (wpAny_newObj_type ?_);refine wpAny_pure ⟨plainId_quiet F.plain_list_iadd _,codeAny_builtin F.entry_list_iadd ?_⟩;rw [Around.under_plainId F.plain_list_iadd _];generalize hD:s.heap.objs.size=D
 have V0:D≠S:=by rw [<-hD];exact Nat.ne_of_gt (Heap.lt_size hS)
 generalize hH:s.heap.push {cls:= .type "list",dict:=none,data:= .seq ([]:List Value).toArray}=H
 have SN:H.get? D=some {cls:= .type "list",dict:=none,data:= .seq ([]:List Value).toArray}:=by rw [<-hH,<-hD];exact Heap.get?_push_size _ rfl
 have RZ:∀b o,s.heap.get? b=some o->H.get? b=some o:=fun b o e=>by rw [<-hH];exact Heap.get?_push_of_some _ e
 have RD:=RZ _ _ hS;have hT:({s with heap:=H}:Shared).TypeIs (.ref S) "set":=⟨os,RD,hex.1⟩;show wpAny _ A.in1 (Builtin.List.listExtendWith (.ref D) (.ref S) (.ref D)) _ _ {s with heap:=H};unfold Builtin.List.listExtendWith;refine wpAny_bind (wpAny_typeOf hT ?_)
 have h1:Builtin.List.listSameRef (.ref D) (.ref S)=false:=by simp [Builtin.List.listSameRef,V0]
 have QJ:(Value.type "set" == Value.type "list")=false:=by decide
 have h3:(Value.type "set" == Value.type "tuple")=false:=by decide
 simp only [h1,QJ,h3,Bool.or_false,Bool.false_eq_true,if_false];refine wpAny_bind (xq RD hs h2 MC fun es ep t order I T h' d hI hk KJ hT0 hst ba Lh Pg=>?_)
 have ZV:S≠I:=fun e=>by rw [<-e,RD] at KJ;cases KJ
 have Sk:D≠I:=fun e=>by rw [<-e,SN] at KJ;cases KJ
 have VJ:({s with heap:=h',drawn:=d}:Shared).TypeIs (.ref S) "set":=⟨os,hk _ _ RD,hex.1⟩;refine wpAny_bind (wpAny_holding ?_);unfold Builtin.List.listLengthHint;refine wpAny_bind (wpAny_specialOf VJ xp ?_)
 wp_delta
 refine wpAny_bind (wpAny_isInstance (T:="set") (b:=true) VJ wI ?_);show wpAny _ A.in1 (typeOf (Value.ref S) >>= _) _ _ _;refine wpAny_bind (wpAny_typeOf VJ ?_);refine wpAny_pure ?_;rw [if_pos (by decide)];refine wpAny_bind (wpAny_rule ?_);refine wpAny_bind ?_;have X6:=hk _ _ SN;show wpAny _ A.in1 (updateSeq D (·.push .none) >>= fun _=>updateSeq D (·.pop)) _ _ _;refine wpAny_bind (wpAny_updateSeq X6 rfl ?_);have jM:=Heap.get?_update_self (Obj.mapSeq (·.push Value.none)) X6 rfl;refine wpAny_updateSeq jM rfl ?_;have uK:=Heap.get?_update_self (Obj.mapSeq (·.pop)) jM rfl
 have Xp:∀b o,b≠D->h'.get? b=some o->((h'.update D (Obj.mapSeq (·.push Value.none))).update D (Obj.mapSeq (·.pop))).get? b=some o:=
  fun b o hb e=>(Heap.get?_update_other _ _ (Ne.symm hb)).trans ((Heap.get?_update_other _ _ (Ne.symm hb)).trans e)
 have ZW:D≠T:=by
  revert hT0;refine gE (fun e=>?_) fun e=>?_
  ·intro q;rw [<-q,SN] at e;cases e
  ·rw [e];exact V0
 have Yr:D∉[I,S,T]:=by
  intro q;simp only [List.mem_cons,List.not_mem_nil,or_false] at q
  rcases q with q|q|q
  ·exact Sk q
  ·exact V0 q
  ·exact ZW q
 have Zb:eH w es ep t os I S T order 0 ((h'.update D (Obj.mapSeq (·.push Value.none))).update D (Obj.mapSeq (·.pop))):=qH hst fun b hb o e=>Xp b o (fun q=>Yr (q▸hb)) e;have Vy:D=s.heap.objs.size:=hD.symm;refine wpAny_pure ⟨plainId_quiet F.plain_extend_loop _,codeAny_extend_loopS (xw (A:=A.in1) hh ZV).toS (by rw [ba,sizeLine_eq];exact fZ MC) D Yr _ order.length 0 _ _ _ rfl (Nat.zero_le _) Zb uK (ItemsOf.nil _) fun s' ZI c' hm My Sa=>?_⟩;show wpAny _ A (load D >>= _) _ _ s';refine wpAny_bind (wpAny_load My ?_);refine wpAny_pure ?_;show Q ZI.toList s';rw [GD Sa]
 have e:s'={s with heap:=s'.heap,drawn:=d,toks:=s'.toks}:=by
  obtain ⟨h1,g1,d1,t1,o1⟩:=s';have a1:=hm.gens;have a2:=hm.drawn;have a3:=hm.os;dsimp only at a1 a2 a3 ⊢;rw [a1,a2,a3]
 rw [e];refine k order s'.heap d s'.toks (fun b o eb=>?_) ba Lh Pg
 have Yq:b≠D:=by rw [Vy];exact Nat.ne_of_lt (Heap.lt_size eb)
 have hbI:b≠I:=fun q=>by rw [<-q,RZ _ _ eb] at KJ;cases KJ
 refine hm.heap b o (fun q=>?_) (Xp b o Yq (hk _ _ (RZ _ _ eb)));refine Or.elim (aB q) (fun q=>?_) fun q=>?_
 ·exact Yq q
 ·exact hbI (br q)
end
theorem wL:isSubtype (.type "list") (.type "list")=pure true:=by rw [isSubtype_type];kernel_rfl
section
variable {prog:Program} {w:World} {A:Around} {E:Value->Shared->Prop} {s:Shared} {h₀:Heap} {L:Addr} {m:PySem.Str->Option Value} {news:dQ}
theorem FV {x y:Addr} {ox oy:Obj} {xs ys:Array Value} {n k:Nat} {p q:PySem.Str} {t u:Tok} {Q:Bool->Shared->Prop} (hx:s.heap.get? x=some ox) (cx:ox.cls= .type "list") (dx:ox.data= .seq xs n) (px:xs[0]?=some (.str p t))
  (hy:s.heap.get? y=some oy) (cy:oy.cls= .type "list") (dy:oy.data= .seq ys k) (py:ys[0]?=some (.str q u)) (dR:p≠q) (hu:A.units<cLine) (h:Q (decide (be p q)) s):wpAny (model prog w) A (oneLt' true (.ref x) (.ref y)) Q E s:=by
 have hT:s.TypeIs (.ref x) "list":=⟨_,hx,cx⟩;have hTy:s.TypeIs (.ref y) "list":=⟨_,hy,cy⟩;rw [oneLt'_eq];simp only [if_true];refine wpAny_bind (wpAny_cRoomFor hu ?_);refine wpAny_bind (wpAny_callSpecialIfBound?_slot (name:=ofString "__lt__") hT F.slot_list_lt (wpAny_call (codeAny_call_builtin F.slot_list_lt.plain F.entry_list_lt (F.slot_list_lt.check _ _ _ _ _ _ _ _ hT (F.args_list_lt_2 _ _) ?_))));unfold Builtin.«list.__lt__»;show wpAny _ _ (slotArgs "__lt__" 1 _ >>= _) _ _ _;refine wpAny_bind (wpAny_of_eq (a:=(.ref x,[.ref y])) (by rfl) ?_);dsimp only;refine wpAny_bind (wpAny_isInstance hTy wL ?_);rw [if_neg (by decide),if_neg (by decide)];refine wpAny_pure ⟨plainId_quiet PySem.MeetsSeq3.plain_eq_loop _,codeAny_builtin PySem.MeetsSeq3.entry_eq_loop ?_⟩;unfold Builtin.«list.__eq__.loop»;show wpAny _ _ (Builtin.List.listItems (.ref x) >>= _) _ _ _;refine wpAny_bind (listItems_at hx dx (wpAny_bind (listItems_at hy dy ?_)));have e0:((0:Int)).toNat=0:=rfl;rw [e0,px,py];dsimp only;refine wpAny_bind (wpAny_eqBool_str ?_);rw [decide_eq_false dR,if_neg (by decide)];refine wpAny_bind (listItems_at hx dx (wpAny_bind (listItems_at hy dy ?_)));rw [px,py];dsimp only;refine wpAny_bind (m:=richCompare .Lt (.str p t) (.str q u)) (PyProof.Rows.lt_str ?_);refine wpAny_pure ?_;exact wpAny_truthy_bool h
noncomputable def gU (led:dQ) (ks:List Value) (fs:List PySem.Str):Prop:=ks.length=fs.length/\∀i,i<ks.length->∃a o xs n t,ks.getD i .none= .ref a/\(a,o)∈led/\o.cls= .type "list"/\o.data= .seq xs n/\xs[0]?=some (.str (fs.getD i Str.empty) t)
theorem Gv {ks:List Value} {fs:List PySem.Str} {T:List PySem.Str} {Q:Array Nat->Shared->Prop} (N:News h₀ L s.heap news) (hk:gU news ks fs) (hT:T.Perm fs) (hs:T.Pairwise be) (h2:2<=ks.length) (hu:A.units<cLine)
  (k:∀p:Array Nat,p.toList.Perm (List.range ks.length)->p.toList.map (fun i=>fs.getD i Str.empty)=T->Q p s):
  wpAny (model prog w) A (keyKind' ks.toArray) (fun κ s'=>(kas_sort ks.length).kasWp (kas_ask prog w A κ ks) Q s') (fun _ _=>False) s:=by
 have hh:∀i,i<ks.length->∃a o xs n t,ks.getD i .none= .ref a/\s.heap.get? a=some o/\o.cls= .type "list"/\o.data= .seq xs n/\xs[0]?=some (.str (fs.getD i Str.empty) t):=fun i hi=>by
  refine dT (hk.2 i hi) fun a o xs n t aj=>?_;refine aI aj fun e g1 g2=>?_;exact ⟨a,o,xs,n,t,e,(N _ g1).1,g2⟩
 refine kas_kind (T:= .type "list") h2 (fun v hv=>?_) (by decide) (by decide) ?_
 ·refine fh (List.getElem_of_mem hv) fun i hi aj=>?_;subst aj
  refine dT (hh i hi) fun a o xs n t aj=>?_;refine bv aj fun e g1 g2 g3 g4=>?_
  have e':ks[i]= .ref a:=by rw [<-e];simp [hi]
  rw [e',<-g2];exact (Looks.ld g1).andThen .now
 ·have hmap:(List.range ks.length).map (fun i=>fs.getD i Str.empty)=fs:=by
   apply List.ext_getElem (by simp [hk.1]);intros i h1 h2;simp [h2]
  refine mF (f:=fun i=>fs.getD i Str.empty) (L:=T) (I:=(·=s)) (by rw [hmap];exact hT) hs (rB h2) (fun i j C s' hi hj dR hI hC=>?_) rfl fun p s' hI hp hm=>by rw [hI];exact k p hp hm
  subst hI;refine dT (hh i hi) fun a o xs n t aj=>?_;refine bv aj fun e g1 g2 g3 g4=>?_;refine dT (hh j hj) fun b o' ys n' t' aj=>?_;refine bv aj fun e' VZ YB U5 QM=>?_;show wpAny (model prog w) A (keyLt' oneType' (ks.getD i Value.none) (ks.getD j Value.none)) C (fun _ _=>False) s';rw [e,e',keyLt'_oneType];exact FV g1 g2 g3 g4 VZ YB U5 QM dR hu (hC _ rfl)
end
noncomputable def Out (s s':Shared):Prop:=s'.os=s.os/\s'.gens=s.gens
theorem Out.refl {s:Shared}:Out s s:=⟨rfl,rfl⟩
theorem Out.trans {s s' r_:Shared} (x:Out s s') (y:Out s' r_):Out s r_:=⟨y.1.trans x.1,y.2.trans x.2⟩
noncomputable def uA (h₀:Heap) (L:Addr) (m:PySem.Str->Option Value) (led:dQ) (x:PySem.Str) (s':Shared) (v:Value) (r_:Shared):Prop:=
 ∃a o its n tk,v= .ref a/\Fr h₀ L r_.heap m/\News h₀ L r_.heap ((a,o)::led)/\(∀p∈led, @Ne Nat p.1 a)/\o.cls= .type "list"/\o.data= .seq its n/\its[0]?=some (.str x tk)/\Out s' r_
section
variable {prog:Program} {w:World} {A:Around} {E:Value->Shared->Prop} {s:Shared} {h₀:Heap} {L:Addr} {m:PySem.Str->Option Value} {news:dQ}
theorem Gy {led:dQ} {ks:List Value} {fs:List PySem.Str} {a:Addr} {o:Obj} {its:Array Value} {n:Nat} {x:PySem.Str} {t:Tok} (h:gU led ks fs) (hc:o.cls= .type "list") (hd:o.data= .seq its n) (hx:its[0]?=some (.str x t)):
  gU ((a,o)::led) (ks++[.ref a]) (fs++[x]):=by
 refine ⟨by simp [h.1],fun i hi=>?_⟩
 by_cases h1:i<ks.length
 ·refine dT (h.2 i h1) fun a' o' xs n' t' aj=>?_;refine bv aj fun e g1 g2 g3 g4=>?_
  refine ⟨a',o',xs,n',t',?_, .tail _ g1,g2,g3,?_⟩
  ·rw [<-e,List.getD_eq_getElem?_getD,List.getD_eq_getElem?_getD,List.getElem?_append_left h1]
  ·rw [g4,List.getD_eq_getElem?_getD,List.getD_eq_getElem?_getD,List.getElem?_append_left (h.1▸h1)]
 ·have LV:i=ks.length:=by simp at hi;exact nH hi h1
  subst LV;refine ⟨a,o,its,n,t,by simp, .head _,hc,hd,?_⟩;rw [hx];simp [h.1]
theorem Gz {led dq:dQ} {ks:List Value} {fs:List PySem.Str} (h:gU led ks fs) (hs:∀p∈led,p∈dq):gU dq ks fs:=
 ⟨h.1,fun i hi=>by refine dT (h.2 i hi) fun a o xs n t aj=>?_;refine aI aj fun e g1 g2=>?_;exact ⟨a,o,xs,n,t,e,hs _ g1,g2⟩⟩
theorem sX {f:PySem.Str->PySem.Str} {lam:Value} {kS D:Addr} {e1:Nat} {xs:List PySem.Str} {vs:List Value} {Fin:List Value->Nat->Shared->Prop} (Ry: @Ne Nat kS D) (PE:∀p∈news, @Ne Nat p.1 kS/\ @Ne Nat p.1 D)
  (OU:∀x t (s':Shared) (led:dQ),x∈xs->Fr h₀ L s'.heap m->News h₀ L s'.heap (led++news)->Out s s'->wpAny (model prog w) A (call lam [.str x t]) (uA h₀ L m (led++news) (f x) s') (fun _ _=>False) s') (Ng:∀v∈vs,∃x t,v= .str x t/\x∈xs)
  (fin:∀ks e (s':Shared) own,Out s s'->Fr h₀ L s'.heap m->News h₀ L s'.heap ((kS,seqObj "list" (List.toArray ks) e)::(D,seqObj "list" #[] e1)::(own++news))->(∀p∈own, @Ne Nat p.1 kS/\ @Ne Nat p.1 D)->gU own ks (vs.map fun v=>f (strOf v))->Fin ks e s'):
  ∀(r done:List Value) (ks:List Value) (e:Nat) (s':Shared) (own:dQ),done++r=vs->Out s s'->Fr h₀ L s'.heap m->News h₀ L s'.heap ((kS,seqObj "list" (List.toArray ks) e)::(D,seqObj "list" #[] e1)::(own++news))->(∀p∈own, @Ne Nat p.1 kS/\ @Ne Nat p.1 D)->
   gU own ks (done.map fun v=>f (strOf v))->KatKeys prog w A h₀ L m kS lam Fin r ks e s'
 |[],done,ks,e,s',own,hd,hO,F,N,off,hK=>by
  rw [List.append_nil] at hd;subst hd;exact KatKeys.nil (fin ks e s' own hO F N off hK)
 |v::r,done,ks,e,s',own,hd,hO,F,N,off,hK=>by
  refine bl (Ng v (by rw [<-hd];simp)) fun x t aj=>?_;refine ak aj fun aZ hx=>?_;subst aZ;refine KatKeys.cons (wpAny_mono (OU x t s' ((kS,seqObj "list" (List.toArray ks) e)::(D,seqObj "list" #[] e1)::own) hx F (by simpa using N) hO) (fun w' r_ hq=>?_) fun _ _ q=>q);refine dT hq fun a o its n tk aj=>?_;clear hq;refine fe aj fun aZ F' N' MV hc OK hi Pu=>?_;subst aZ;have YE: @Ne Nat kS a:=MV (kS,seqObj "list" (List.toArray ks) e) (by simp);have haD: @Ne Nat D a:=MV (D,seqObj "list" #[] e1) (by simp);refine KatBack.intro (e:=e) F' N' (.tail (Ne.symm YE) (.head fun p hp=>?_)) fun h' c Q8 Lk=>?_
  ·rcases aB hp with rfl|hp
   ·exact Ne.symm Ry
   ·refine Or.elim (aE hp) (fun hp=>?_) fun hp=>?_
    ·exact (off p hp).1
    ·exact (PE p hp).1
  ·have N3:News h₀ L h' ((a,o)::(kS,seqObj "list" (List.toArray (ks++[Value.ref a])) c)::(D,seqObj "list" #[] e1)::(own++news)):=Lk
   refine sX Ry PE OU Ng fin r (done++[.str x t]) (ks++[.ref a]) c {r_ with heap:=h'} ((a,o)::own) (by simpa using hd) (hO.trans ⟨Pu.1,Pu.2⟩) Q8 (fun p hp=>N3 p ?_) (fun p hp=>?_) ?_
   ·simp only [List.mem_cons,List.mem_append,List.cons_append] at hp ⊢
    rcases hp with h|h|h|h|h
    ·exact .inr (.inl h)
    ·exact .inr (.inr (.inl h))
    ·exact .inl h
    ·exact .inr (.inr (.inr (.inl h)))
    ·exact .inr (.inr (.inr (.inr h)))
   ·rcases aB hp with rfl|hp
    ·exact ⟨Ne.symm YE,Ne.symm haD⟩
    ·exact off p hp
   ·rw [List.map_append]
    exact Gy hK hc OK hi
theorem xe {f:PySem.Str->PySem.Str} {lam:Value} {S:Addr} {os:Obj} {xs T:List PySem.Str} {kw:List (PySem.Str×Value)} {Q:Value->Shared->Prop} (hh:A.handled=none) (hu:A.units+10<cLine) (F:Fr h₀ L s.heap m) (N:News h₀ L s.heap news) (hS:(S,os)∈news) (hs:dP prog w os xs) (h2:2<=xs.length) (MC:xs.length<60)
  (hT:T.Perm (xs.map f)) (Z7:T.Pairwise be)
  (ZU:argsOk "sorted" ⟨[.ref S],kw⟩) (VC:∀x,argsOk "list.sort" ⟨[.ref x],kw⟩) (ht:∀x,Builtin.«list.sort» ⟨[.ref x],kw⟩=ksk_tree x lam false)
  (OU:∀x t (s':Shared) (led:dQ),x∈xs->Fr h₀ L s'.heap m->News h₀ L s'.heap (led++news)->Out s s'->wpAny (model prog w) A.in1.in1 (call lam [.str x t]) (uA h₀ L m (led++news) (f x) s') (fun _ _=>False) s')
  (k:∀D out c (s':Shared),Fr h₀ L s'.heap m->News h₀ L s'.heap ((D,listOf (List.toArray out) c)::news)->(∀p∈news, @Ne Nat p.1 D)->(∀v∈out,∃x t,v= .str x t)->(out.map strOf).Perm xs->(out.map fun v=>f (strOf v))=T->Out s s'->Q (.ref D) s'):
  wpAny (model prog w) A (call (.builtin "sorted") [.ref S] kw) Q E s:=by
 refine call_function_entry_kw kind_sorted plain_sorted entry_sorted ZU ?_;unfold Builtin.«sorted»;refine wpAny_bind (m:=checkCount "sorted" 1 1 _) (wpAny_pure ?_);refine wpAny_bind (Ia hh (N _ hS).1 hs h2 (AA MC) fun order aT uN iO keep ba Lh Pg=>?_);have aU:Fr h₀ L aT m:=F.kept keep;have aN:News h₀ L aT news:=N.grown keep;refine wpAny_bind (wpAny_newList ?_ (by rw [sizeLine_eq];exact Az MC ba));have hoL:(aT.push (seqObj "list" order.toArray 0)).get? aT.objs.size=some (seqObj "list" order.toArray 0):=Heap.get?_push_size _ rfl;have hL:L<aT.objs.size:=aU.ns.lt;refine wpAny_bind (wpAny_holding (wpAny_call_entry_kw slot_list_sort ⟨_,hoL,rfl⟩ entry_list_sort ?body (VC _)))
 case body=>
  have VE:=ht aT.objs.size;show wpAny (model prog w) A.in1.in1 (Builtin.«list.sort» ⟨[.ref aT.objs.size],kw⟩) _ _ _;rw [VE]
  refine kat_keyed (s:={s with heap:=aT.push (seqObj "list" order.toArray 0),drawn:=uN,toks:=iO}) (aU.push _) (aN.grown fun b o e=>Heap.get?_push_of_some _ e) hoL (Nat.ne_of_gt hL) (Heap.get?_none_of_le (Nat.le_trans aU.above (Nat.le_of_lt hL)))
   (fun p hp=>Nat.ne_of_lt (Heap.lt_size (aN p hp).1)) (Ay h2 ba) (Ax MC ba) fun kS e1 h' F' N' l0 l1=>?_
  have Ry: @Ne Nat kS aT.objs.size:=Nat.ne_of_gt l0;have PE:∀p∈news, @Ne Nat p.1 kS/\ @Ne Nat p.1 aT.objs.size:=fun p hp=>⟨Nat.ne_of_lt (l1 p hp),Nat.ne_of_lt (Heap.lt_size (aN p hp).1)⟩;refine sX (s:=s) (f:=f) (xs:=xs) (vs:=order) Ry PE OU (fun v hv=>?_) (fun ks e s' own hO F2 N2 off hK=>?_) order [] [] 0 _ [] (by simp) ⟨rfl,rfl⟩ F' (by simpa using N') (fun _ h=>nomatch h) ⟨rfl,fun i hi=>by simp at hi⟩
  ·refine bl (Pg v hv) fun x t aj=>?_;subst aj
   exact ⟨x,t,rfl,Lh.mem_iff.mp (List.mem_map.mpr ⟨_,hv,rfl⟩)⟩
  ·have PD:ks.length=order.length:=by rw [hK.1];simp
   have Wd:T.Perm (order.map fun v=>f (strOf v)):=hT.trans (by
    have:=Lh.symm.map f
    rwa [List.map_map] at this)
   rw [<-PD];have Zh:∀l:List Value,katRev false l=l:=fun l=>rfl;simp only [Zh];refine Gv (s:=s') (fs:=order.map fun v=>f (strOf v)) (T:=T) N2 (Gz hK fun p hp=>by simp [hp]) Wd Z7 (Av h2 ba PD) (by show A.units+1+1 < _;exact Au hu) fun p hp hm=>?_;refine KatFin.intro (e:=e) F2 N2 (.head fun q hq=>?_) fun h3 c3 F3 N3=>?_
   ·rcases aB hq with rfl|hq
    ·exact Ne.symm Ry
    ·refine Or.elim (aE hq) (fun hq=>?_) fun hq=>?_
     ·exact (off q hq).1
     ·exact (PE q hq).1
   ·refine KasFin.intro F3 N3 (.tail Ry (.head fun q hq=>?_)) fun h4 c4 F4 N4=>?_
    ·refine Or.elim (aE hq) (fun hq=>?_) fun hq=>?_
     ·exact (off q hq).2
     ·exact (PE q hq).2
    ·have LC:∀i∈p.toList,i<order.length:=fun i hi=>by
      have:=List.mem_range.mp (hp.mem_iff.mp hi);exact q3 this PD
     have hmap:∀{β:Type} (g:Value->β),((p.toList.map fun i=>order.getD i Value.none).map g).Perm (order.map g):=fun g=>by
      refine List.Perm.map g ?_;refine (hp.map _).trans (List.Perm.of_eq ?_);apply List.ext_getElem (by simp [PD]);intros i h1 h2;simp [h2]
     refine ⟨_,rfl,wpAny_pure ⟨_,rfl,k aT.objs.size (p.toList.map fun i=>order.getD i Value.none) c4 {s' with heap:=h4} F4 (fun q hq=>N4 q ?_) (fun q hq=>(PE q hq).2) (fun v hv=>?_) ((hmap strOf).trans Lh) ?_ hO⟩⟩
     ·rcases aB hq with rfl|hq
      ·simp
      ·simp [hq]
     ·refine am (aP hv) fun i aj=>?_;refine ak aj fun hi aZ=>?_;subst aZ
      have hl:=LC i hi
      have e:order.getD i Value.none=order[i]:=by simp [hl]
      rw [e];exact Pg _ (List.getElem_mem _)
     ·rw [List.map_map,<-hm]
      apply List.map_congr_left;intro i hi;have hl:=LC i hi;simp [hl]
end
section
variable {prog:Program} {w:World} {A:Around} {E:Value->Shared->Prop} {s:Shared} {h₀:Heap} {L:Addr} {m:PySem.Str->Option Value} {news:dQ} {K:Frag}
theorem xv {e1 e2:Expr} {p2:Pos} {env:Env} {k:Nat} {pos:Pos} {x:PySem.Str} {t:Tok} {D:Addr} {od:Obj} {kvs:List (PySem.Str×Value)} {Q:Value->Shared->Prop} (hh:A.handled=none) (F:Fr h₀ L s.heap m) (N:News h₀ L s.heap news) (X:K.In h₀) (hc:kdsCode K env.code=true) (hk:k=0)
  (OY:kdsPlain e1=true) (h1:∀(s':Shared) (Q:Value->Shared->Prop),Fr h₀ L s'.heap m->Q (.str x t) s'->wpAny (model prog w) A (eval e1 env) Q E s') (h2:∀(s':Shared) (Q:Value->Shared->Prop),Fr h₀ L s'.heap m->Q (.ref D) s'->wpAny (model prog w) A (eval e2 env) Q E s')
  (hD:(D,od)∈news) (hd:od.IsDictOf (PySem.strKind prog w) kvs) (hx:x∉kvs.map (·.1)) (ba:kvs.length<=500) (t_:(D == sysModules)=false)
  (h:∀S LM ys (s':Shared),Fr h₀ L s'.heap m->News h₀ L s'.heap ((S,LM)::news)->(∀p∈news, @Ne Nat p.1 S)->dP prog w LM ys->ys.Perm (x::kvs.map (·.1))->Out s s'->Q (.ref S) s'):
  wpAny (model prog w) A (eval (.Set [e1, .Starred e2 p2] k pos) env) Q E s:=by
 revert hh F N X hc hk OY h1 h2 hD hd hx ba t_ h;revert prog w A E s h₀ L m news K e1 e2 p2 env k pos x t D od kvs Q;refine' no_implicit_lambda% ((?zpad:∀(_:Nat),_) 0);refine' no_implicit_lambda% (fp ?zR (a:=((0,default,bw,callerA,fun _ _=>True,{},{},0),(fun _=>none,default,default,default,default,default,default,0),(default,Str.empty,0,0,default,[],fun _ _=>True))) rfl (no_implicit_lambda% ((?zg:eZ ?zR) 0 _ _ _ _ _ _ _ _ _ _ _ _ _ _ _ _ _ _ _ _ _ _)));intros _ prog w A E s h₀ L m news K e1 e2 p2 env k pos x t D od kvs Q;intros hh F N X hc hk OY h1 h2 hD hd hx ba t_ h;subst hk;rw [arm_eval_Set];refine wpAny_bind (wpAny_standAt ?_);refine wpAny_bind (kds_main (X.keeps F.keep) hc fun b=>?_)
 have Xj:starEach [e1, .Starred e2 p2] env=[(false,eval e1 env),(true,eval e2 env)]:=by
  cases e1<;>first|rfl|exact absurd OY (by simp [kdsPlain])
 rw [Xj];have Xm:displayRoad 0 [e1, .Starred e2 p2]= .oneByOne:=rfl;rw [Xm];unfold setDisplay;rw [if_neg (by decide)];refine wpAny_bind (wpAny_newSet_of (knd:=PySem.strKind prog w) fun led _=>?_);dsimp only;generalize hS:s.heap.objs.size=S;generalize hH:s.heap.push {cls:= .type "set",dict:=none,data:= .set #[] 0 (.fresh 0 0 led)}=H
 have RD:H.get? S=some {cls:= .type "set",dict:=none,data:= .set #[] 0 (.fresh 0 0 led)}:=by rw [<-hH,<-hS];exact Heap.get?_push_size _ rfl
 have F1:Fr h₀ L H m:=by rw [<-hH];exact F.push _
 have N1:News h₀ L H ((S,{cls:= .type "set",dict:=none,data:= .set #[] 0 (.fresh 0 0 led)})::news):=by rw [<-hH,<-hS];exact News.push F N _
 have dR:∀p∈news, @Ne Nat p.1 S:=fun p hp=>by rw [<-hS];exact Nat.ne_of_lt (Heap.lt_size (N p hp).1)
 have US:S≠L:=(N1 _ (.head _)).2.1;have PC:h₀.get? S=none:=(N1 _ (.head _)).2.2;have SN:H.get? D=some od:=(N1 _ (.tail _ hD)).1;have OH:S≠D:=Ne.symm (dR _ hD);refine wpAny_bind (wpAny_holding ?_);refine wpAny_bind ?_
 show wpAny (model prog w) A (evalAll [(do
                 let v <-eval e1 env
                 standAt pos
                 pure v)]) _ E _
 show wpAny (model prog w) A ((eval e1 env >>= fun v=>standAt pos >>= fun _=>pure v) >>= fun v=>holding [v] (evalAll []) >>= fun r=>pure (v::r)) _ E _;refine wpAny_bind (wpAny_bind (h1 _ _ F1 ?_));refine wpAny_bind (wpAny_standAt (wpAny_pure ?_));refine wpAny_bind (wpAny_holding (wpAny_pure (wpAny_pure ?_)));refine wpAny_bind (wpAny_holding ?_);rw [List.forIn_cons];refine wpAny_bind (wpAny_bind ?_);unfold setAdd;refine wpAny_bind (wpAny_holding (wpAny_bind (wpAny_pyHash_str ?_)));refine nb (xs:=[]) RD (wV led) (by simp) (by simp) fun o2 QJ QB Tz hg2 hs2=>?_;refine wpAny_pure ?_;dsimp only;rw [List.forIn_nil];refine wpAny_pure ?_;rw [if_neg (by decide)];refine wpAny_pure ?_;refine wpAny_bind ?_
 show wpAny (model prog w) A (forIn [(true,(do
                 let v <-eval e2 env
                 standAt pos
                 pure v))] PUnit.unit _) _ E _
 rw [List.forIn_cons];have F2:Fr h₀ L QJ m:=F1.change Tz US PC;refine wpAny_bind (wpAny_bind (wpAny_bind (h2 _ _ F2 ?_)));refine wpAny_bind (wpAny_standAt (wpAny_pure ?_));dsimp only;rw [if_pos rfl];refine wpAny_bind (wpAny_holding (wT (kvs:=kvs) hh hg2 hs2 (Tz.extBut _ _ (Ne.symm OH) SN) hd hx ba t_ OH fun LM h3 tk ys Pq hg3 hs3 hp3=>?_));refine wpAny_pure ?_;dsimp only;rw [List.forIn_nil];refine wpAny_pure (wpAny_pure ?_);refine wpAny_pure ?_;refine h S LM ys _ ⟨F2.ns.at' fun o e=>Pq _ o (Ne.symm US) e,fun b o e=>Pq b o (fun q=>by rw [q,PC] at e;cases e) (F2.keep b o e),F2.above⟩ (fun p hp=>?_) dR hs3 hp3 ⟨rfl,rfl⟩
 rcases aB hp with rfl|hp
 ·exact ⟨hg3,US,PC⟩
 ·have z:=N1 p (.tail _ hp)
  exact ⟨Pq _ _ (dR p hp) (Tz.extBut _ _ (dR p hp) z.1),z.2⟩
end
local macro_rules | `(tactic| k_lt $h) => `(tactic| (replace $h := allLt_of $h; dsimp only [AllLt] at $h:ident))
noncomputable abbrev ax:=List (Addr×Obj)
noncomputable def Kept (as:List Addr) (h h':Heap):Prop:=∀b o,b∉as->h.get? b=some o->h'.get? b=some o
theorem Kept.trans {as:List Addr} {h h' Lp:Heap} (x:Kept as h h') (y:Kept as h' Lp):Kept as h Lp:=fun b o hb e=>y b o hb (x b o hb e)
theorem Kept.refl {as:List Addr} {h:Heap}:Kept as h h:=fun _ _ _ e=>e
theorem Kept.mono {as bs:List Addr} {h h':Heap} (x:Kept as h h') (hs:∀a∈as,a∈bs):Kept bs h h':=fun b o hb e=>x b o (fun q=>hb (hs _ q)) e
theorem Kept.list {as:List Addr} {h h':Heap} {l:Addr} {vs:Array Value} (x:Kept as h h') (hl:l∉as) (e:h.IsList l vs):h'.IsList l vs:=e.at fun o q=>x l o hl q
noncomputable def SameF (o:OsState) (g:Array GenState) (o':OsState) (g':Array GenState):Prop:=o'=o/\(AllBare g->AllBare g')
theorem SameF.refl {o:OsState} {g:Array GenState}:SameF o g o g:=⟨rfl,id⟩
theorem SameF.trans {o o' Rk:OsState} {g g' Yt:Array GenState} (x:SameF o g o' g') (y:SameF o' g' Rk Yt):SameF o g Rk Yt:=⟨y.1.trans x.1,fun h=>y.2 (x.2 h)⟩
noncomputable abbrev aM (s s':Shared):Prop:=SameF s.os s.gens s'.os s'.gens
structure Ret (P:Prop):Prop where
 out:P
noncomputable abbrev iK:=(h₀:Heap)->(L:Addr)->(m:Str->Option Value)->Shared->(Value->Shared->Prop)->Prop
theorem r8 {α β γ:Type} {R:α->β->γ->Prop} (a:α×β×γ) (h:R (bA (fun t=>R t.1 t.2.1 t.2.2) a).1 (bA (fun t=>R t.1 t.2.1 t.2.2) a).2.1 (bA (fun t=>R t.1 t.2.1 t.2.2) a).2.2) (x:α) (y:β) (z:γ):R x y z:=eA (P:=fun t=>R t.1 t.2.1 t.2.2) a h (x,y,z)
noncomputable def iJ (w:World) (D U:Nat) (f:Addr) (vs:List Value) (kw:List (Str×Value)) (led:ax) (P:Heap->Prop) (C:iK) (p:Program) (a_:List Str) (bz:ExcName->Option Value) (mg:Str->Option Value) (mb:Str->Option Value) (dp:Nat) (un:Nat) (gd:Option (List Code)) (cn:Str) (cs:Scope) (a:Addr) (fM:Value) (cl:List (Str×Addr)) (c_:List Env) (cW:Around) (fR:Heap) (h₀:Heap) (L:Addr) (m:Str->Option Value) (s:Shared) (Q:Value->Shared->Prop) (E:Value->Shared->Prop):Prop:=
 Below cW fR c_ h₀->Fr h₀ L s.heap m->(hd.heap_39 w.params).In h₀->News h₀ L s.heap led->Top p a_ bz mg mb h₀->cs.kind= .function->P s.heap->dp+D<recursionLimit->un+U<cLine->Ret (C h₀ L m s Q)->
   codeAny (model rw_ty0067_01.row.prog w) (ktrTop dp un gd cn cs L a fM cl c_) (.call (.ref f) ⟨vs,kw⟩) (fun r s'=>match r with| .ok (.ret v)=>Q v s'| .ok _=>False| .error e=>E e s') s
noncomputable abbrev uC:Type:=(Program)×(List Str)×(ExcName->Option Value)×(Str->Option Value)×(Str->Option Value)×(Nat)×(Nat)×(Option (List Code))×(Str)×(Scope)×(Addr)×(Value)×(List (Str×Addr))×(List Env)×(Around)×(Heap)×(Heap)×(Addr)×(Str->Option Value)×(Shared)×(Value->Shared->Prop)×(Value->Shared->Prop)
noncomputable def uB (w:World) (D U:Nat) (f:Addr) (vs:List Value) (kw:List (Str×Value)) (led:ax) (P:Heap->Prop) (C:iK) (z:uC):Prop:=iJ w D U f vs kw led P C z.1 z.2.1 z.2.2.1 z.2.2.2.1 z.2.2.2.2.1 z.2.2.2.2.2.1 z.2.2.2.2.2.2.1 z.2.2.2.2.2.2.2.1 z.2.2.2.2.2.2.2.2.1 z.2.2.2.2.2.2.2.2.2.1 z.2.2.2.2.2.2.2.2.2.2.1 z.2.2.2.2.2.2.2.2.2.2.2.1 z.2.2.2.2.2.2.2.2.2.2.2.2.1 z.2.2.2.2.2.2.2.2.2.2.2.2.2.1 z.2.2.2.2.2.2.2.2.2.2.2.2.2.2.1 z.2.2.2.2.2.2.2.2.2.2.2.2.2.2.2.1 z.2.2.2.2.2.2.2.2.2.2.2.2.2.2.2.2.1 z.2.2.2.2.2.2.2.2.2.2.2.2.2.2.2.2.2.1 z.2.2.2.2.2.2.2.2.2.2.2.2.2.2.2.2.2.2.1 z.2.2.2.2.2.2.2.2.2.2.2.2.2.2.2.2.2.2.2.1 z.2.2.2.2.2.2.2.2.2.2.2.2.2.2.2.2.2.2.2.2.1 z.2.2.2.2.2.2.2.2.2.2.2.2.2.2.2.2.2.2.2.2.2
noncomputable def Ct (w:World) (D U:Nat) (f:Addr) (vs:List Value) (kw:List (Str×Value)) (led:ax) (P:Heap->Prop) (C:iK):Prop:=
 ∀(p:Program) (a_:List Str) (bz:ExcName->Option Value) (mg:Str->Option Value) (mb:Str->Option Value) (dp:Nat) (un:Nat) (gd:Option (List Code)) (cn:Str) (cs:Scope) (a:Addr) (fM:Value) (cl:List (Str×Addr)) (c_:List Env) (cW:Around) (fR:Heap) (h₀:Heap) (L:Addr) (m:Str->Option Value) (s:Shared) (Q:Value->Shared->Prop) (E:Value->Shared->Prop),iJ w D U f vs kw led P C p a_ bz mg mb dp un gd cn cs a fM cl c_ cW fR h₀ L m s Q E
theorem Ct.of {w:World} {D U:Nat} {f:Addr} {vs:List Value} {kw:List (Str×Value)} {led:ax} {P:Heap->Prop} {C:iK} {c:uC} (hc:c=bA (uB w D U f vs kw led P C) (default,[],fun _=>none,fun _=>none,fun _=>none,0,0,none,default,default,0,default,[],[],callerA,default,default,0,fun _=>none,{},fun _ _=>True,fun _ _=>True)) (h:iJ w D U f vs kw led P C c.1 c.2.1 c.2.2.1 c.2.2.2.1 c.2.2.2.2.1 c.2.2.2.2.2.1 c.2.2.2.2.2.2.1 c.2.2.2.2.2.2.2.1 c.2.2.2.2.2.2.2.2.1 c.2.2.2.2.2.2.2.2.2.1 c.2.2.2.2.2.2.2.2.2.2.1 c.2.2.2.2.2.2.2.2.2.2.2.1 c.2.2.2.2.2.2.2.2.2.2.2.2.1 c.2.2.2.2.2.2.2.2.2.2.2.2.2.1 c.2.2.2.2.2.2.2.2.2.2.2.2.2.2.1 c.2.2.2.2.2.2.2.2.2.2.2.2.2.2.2.1 c.2.2.2.2.2.2.2.2.2.2.2.2.2.2.2.2.1 c.2.2.2.2.2.2.2.2.2.2.2.2.2.2.2.2.2.1 c.2.2.2.2.2.2.2.2.2.2.2.2.2.2.2.2.2.2.1 c.2.2.2.2.2.2.2.2.2.2.2.2.2.2.2.2.2.2.2.1 c.2.2.2.2.2.2.2.2.2.2.2.2.2.2.2.2.2.2.2.2.1 c.2.2.2.2.2.2.2.2.2.2.2.2.2.2.2.2.2.2.2.2.2):Ct w D U f vs kw led P C:=by
 subst hc;exact fun p a_ bz mg mb dp un gd cn cs a fM cl c_ cW fR h₀ L m s Q E=>eA (P:=uB w D U f vs kw led P C) _ h (p,a_,bz,mg,mb,dp,un,gd,cn,cs,a,fM,cl,c_,cW,fR,h₀,L,m,s,Q,E)
noncomputable abbrev dj (as:List Addr) (dq:ax) (h₀:Heap) (L:Addr) (m:Str->Option Value) (s:Shared) (R:Shared->Prop):Prop:=
 ∀s',Fr h₀ L s'.heap m->News h₀ L s'.heap dq->Kept as s.heap s'.heap->aM s s'->R s'
section
variable {prog:Program} {w:World} {cW A:Around} {s:Shared} {fR h₀:Heap} {c_:List Env} {L:Addr} {m mg mb:Str->Option Value} {env:Env} {news:List (Addr×Obj)} {K:Frag} {p:Program} {a_:List Str} {bz:ExcName->Option Value}
 {R:Result->Shared->Prop} {name qual:Str} {params:Arguments} {body:List Stmt} {scope:Scope} {dV kV gF pm cA ct oc:Value} {an od:Option Addr} {l_:Array (Option Value)} {f:Addr} {args:Args} {binds:List (Str×Value)}
theorem se (B:Below cW fR c_ h₀) (F:Fr h₀ L s.heap m) (cZ:K.In h₀) (N:News h₀ L s.heap news) (T:Top p a_ bz mg mb h₀) (hA:A.frames=some (env::c_)) (hf:env.frame=some L) (Vs:env.scope.kind= .function)
  (ho:K.lookup f=some ⟨oc,od, .func (fnOf name qual params body scope dV kV gF pm an cA ct),l_⟩) (Pa:codeIn K cA qual=true) (h_:A.depth<recursionLimit)
  (Pj:BindsTo s (fnOf name qual params body scope dV kV gF pm an cA ct) args binds) (TF:∀y∈binds,scope.names.lookup y.1=some .local)
  (h:∀g L' aT,Fr h₀ L g m->Fr g L' aT (fun y=>binds.reverse.lookup y)->News g L' aT news->Below A fR (env::c_) g->K.In g->Top p a_ bz mg mb g->Kept (news.map (·.1)) s.heap g->(∀p∈news,p.1<L')->
   wpAny (model prog w) (A.deeper (envOf qual scope L' f cA)) (execs body (envOf qual scope L' f cA))
    (fun fl s'=>LeaveK h₀ L m g R (match fl with| .ret v=>v|_=> .none) s')
    (fun e s'=>wpAny (model prog w) (A.deeper (envOf qual scope L' f cA)) (leaving (envOf qual scope L' f cA) e) (fun _ r_=>R (.error e) r_) (fun e' r_=>R (.error e') r_) s')
    {s with heap:=aT,toks:=s.toks+binds.length})
  (SC:scope.isCoroutine=false) (Ot:scope.isGenerator=false) (hk:scope.kind= .function)
  (hcell:∀x∈scope.names,x.2≠ .cell):codeAny (model prog w) A (.call (.ref f) args) R s:=by
 refine bO (groundX (R:=R) B F N hA hf Vs) fun FG BG st lv=>?_;refine codeAny_call_def (fd:=fnX name qual params body scope [] dV kV gF pm an cA ct) (body:=body) (binds:=binds) h_ (F.keep _ _ (cZ _ _ ho)) rfl (T.nolimit.keeps F.keep) (codeRec_of (cZ.keeps F.keep) Pa) rfl Pj hcell TF (fun aT Py eJ=>?_) SC Ot hk
 exact wpAny_mono (h _ s.heap.objs.size aT FG ⟨Py,fun b o e=>eJ b o (of_hideAll _ e),Nat.le_of_eq (hideAll_size _ _)⟩
  (fun p hp=>⟨eJ _ _ (N p hp).1,Nat.ne_of_lt (Heap.lt_size (N p hp).1),hideAll_none _ (List.mem_map_of_mem hp)⟩) BG (cZ.keeps st) (T.keeps st) (fun b o hb e=>hideAll_get _ e hb) (fun p hp=>Heap.lt_size (N p hp).1)) (fun fl s' hl=>lv _ _ hl) fun _ _ y=>y
theorem sd (B:Below cW fR c_ h₀) (F:Fr h₀ L s.heap m) (cZ:K.In h₀) (N:News h₀ L s.heap news) (T:Top p a_ bz mg mb h₀) (hA:A.frames=some (env::c_)) (hf:env.frame=some L) (Vs:env.scope.kind= .function)
  (ho:K.lookup f=some ⟨oc,od, .func (fnOf name qual params body scope dV kV gF pm an cA ct),l_⟩) (Pa:codeIn K cA qual=true) (h_:A.depth<recursionLimit)
  (Pj:BindsTo s (fnOf name qual params body scope dV kV gF pm an cA ct) args binds) (d_:(binds.all fun y=>scope.names.lookup y.1 == some .local || scope.names.lookup y.1 == some .cell)=true)
  (Nd:((cellsFrom 0 scope.names []).map (·.1)).Nodup)
  (h:∀g L' aT tk cells,Fr h₀ L g m->Fr g L' aT (bindL (envOfC qual scope L' f cA).kindOf binds fun _=>none)->News g L' aT (cells++news)->
   CellsAre (bindC (envOfC qual scope L' f cA).kindOf binds fun _=>none) (cellsFrom (L'+1) scope.names []) cells->Below A fR (env::c_) g->K.In g->Top p a_ bz mg mb g->Kept (news.map (·.1)) s.heap g->(∀p∈news,p.1<L')->
   wpAny (model prog w) (A.deeper (envOfC qual scope L' f cA)) (execs body (envOfC qual scope L' f cA))
    (fun fl s'=>LeaveK h₀ L m g R (match fl with| .ret v=>v|_=> .none) s')
    (fun e s'=>wpAny (model prog w) (A.deeper (envOfC qual scope L' f cA)) (leaving (envOfC qual scope L' f cA) e) (fun _ r_=>R (.error e) r_) (fun e' r_=>R (.error e') r_) s')
    {s with heap:=aT,toks:=tk})
  (SC:scope.isCoroutine=false) (Ot:scope.isGenerator=false) (hk:scope.kind= .function):codeAny (model prog w) A (.call (.ref f) args) R s:=by
 refine bO (groundX (R:=R) B F N hA hf Vs) fun FG BG st lv=>?_;have Tu:=T.nolimit;refine codeAny_call_function h_ (F.keep _ _ (cZ _ _ ho)) rfl SC Ot rfl (codeRec_of (cZ.keeps F.keep) Pa) (Pj _ _ _ _ ?_);refine wpAny_newFunctionEnv_cells hk (kindsX d_ _) fun aad he s' x=>?_;subst he;refine ⟨(Tu.keeps F.keep).keeps x.toInCall.keep,codeAny_func ?_⟩;refine bl x.done fun aT tk aj=>?_;refine ak aj fun aZ _=>?_;subst aZ;have eJ:=x.toInCall.keep;refine am (Cl.news (h₀:=s.heap) (Nat.le_refl _) fun n c hm=>⟨x.cell n c (lookup_of_mem_nodup (cellsFrom_names scope.names 0 (s.heap.objs.size+1) [] [] rfl▸Nd) hm),x.above n c hm⟩) fun cells aj=>?_;refine ak aj fun NC Y=>?_;refine wpAny_mono (h _ s.heap.objs.size aT tk cells FG ⟨x.toInCall.ns,fun b o e=>eJ b o (of_hideAll _ e),Nat.le_of_eq (hideAll_size _ _)⟩ (fun p hp=>?_) Y BG (cZ.keeps st) (T.keeps st) (fun b o hb e=>hideAll_get _ e hb) (fun p hp=>Heap.lt_size (N p hp).1)) (fun fl s' hl=>lv _ _ hl) fun _ _ y=>y;refine Or.elim (aE hp) (fun hp=>?_) fun hp=>?_
 ·refine ⟨(NC p hp).1,(NC p hp).2.1,?_⟩
  cases q:(hideAll s.heap (news.map (·.1))).get? p.1 with
  |none=>rfl
  |some o=>have:=of_hideAll _ q;rw [(NC p hp).2.2] at this;cases this
 ·exact ⟨eJ _ _ (N p hp).1,Nat.ne_of_lt (Heap.lt_size (N p hp).1),hideAll_none _ (List.mem_map_of_mem hp)⟩
end
noncomputable def cp (P:Params) (x:String) (t:Tok) (v:Value):DictEntry:=⟨PyData.keyHash P (ofString x), .str (ofString x) t,v⟩
set_option genSizeOf false in
set_option genInjectivity false in
structure WS where
 write:Addr
 data:Addr
 decl:Addr
 nss:Addr
 pmap:Addr
 pres:Addr
 tk:Nat->Tok
set_option genSizeOf false in
set_option genInjectivity false in
structure WN where
 n:Nat
 seen:Bool
 done:Bool
noncomputable abbrev ci (P:Params) (x:WS) (seen done:Bool):List DictEntry:=
 [cp P "_write" (x.tk 0) (.ref x.write),cp P "_data" (x.tk 1) (.ref x.data),cp P "_with_comments" (x.tk 2) (.bool false),cp P "_strip_text" (x.tk 3) (.bool false),
  cp P "_exclude_attrs" (x.tk 4) .none,cp P "_exclude_tags" (x.tk 5) .none,cp P "_rewrite_prefixes" (x.tk 6) (.bool false),cp P "_qname_aware_tags" (x.tk 7) .none,
  cp P "_find_qname_aware_attrs" (x.tk 8) .none,cp P "_declared_ns_stack" (x.tk 9) (.ref x.decl),cp P "_ns_stack" (x.tk 10) (.ref x.nss),cp P "_prefix_map" (x.tk 11) (.ref x.pmap),
  cp P "_preserve_space" (x.tk 12) (.ref x.pres),cp P "_pending_start" (x.tk 13) .none,cp P "_root_seen" (x.tk 14) (.bool seen),cp P "_root_done" (x.tk 15) (.bool done),cp P "_ignored_depth" (x.tk 16) (.int 0 (x.tk 17))]
noncomputable abbrev W0 (P:Params) (W d:Addr) (n:WN) (n1:Nat) (x:WS) (rest:ax):ax:=(W,instObj 150 d)::(d,dictOf (ci P x n.seen n.done) n.n)::(x.data,listOf #[] n1)::rest
theorem Kq:True:=by
 (k_with "part"=>(first|(refine' se ?k1pp ?k2pp ?k3pp ?k4pp ?k5pp ?kApp ?kFpp ?kKpp ?k6pp ?k7pp ?k8pp ?k9pp ?kBpp ?_ ?c2pp ?c3pp ?c4pp ?c5pp;(case kApp=>exact rfl);(case kFpp=>exact rfl);(case kKpp=>assumption);(case k1pp=>k_asm);(case k2pp=>k_asm);(case k3pp=>k_asm);(case k4pp=>k_asm);(case k5pp=>k_asm);(case k6pp=>k_is);(case k7pp=>k_is);(case k8pp=>ktr_room);(case k9pp=>first|exact BindsTo.of_eq rfl|exact binds_K (by k_in) rfl (by k_is) rfl rfl rfl);(case c5pp=>decide);(case kBpp=>exact locs rfl);(case c2pp=>exact rfl);(case c3pp=>exact rfl);(case c4pp=>exact rfl);k_whole;intros TH Ts TK R_ S8 NM Pf Te Tp RQ Mr;(try k_lt Mr);(try dsimp only);(try k_lift Pf);(try k_fold))|(refine' sd ?k1pp ?k2pp ?k3pp ?k4pp ?k5pp ?kApp ?kFpp ?kKpp ?k6pp ?k7pp ?k8pp ?k9pp ?kBpp ?kDpp ?_ ?c2pp ?c3pp ?c4pp;(case kApp=>exact rfl);(case kFpp=>exact rfl);(case kKpp=>assumption);(case k1pp=>k_asm);(case k2pp=>k_asm);(case k3pp=>k_asm);(case k4pp=>k_asm);(case k5pp=>k_asm);(case k6pp=>k_is);(case k7pp=>k_is);(case k8pp=>ktr_room);(case k9pp=>first|exact BindsTo.of_eq rfl|exact binds_K (by k_in) rfl (by k_is) rfl rfl rfl);(case kBpp=>exact rfl);(case kDpp=>decide+kernel);(case c2pp=>exact rfl);(case c3pp=>exact rfl);(case c4pp=>exact rfl);k_whole;intros TH Ts TK _ _ R_ S8 NM TB Pf Te Tp RQ Mr;(try k_lt Mr);k_cells TB;(try simp only [List.cons_append,List.nil_append] at NM);(try dsimp only);(try k_lift Pf);(try k_fold))))
 (k_with "ct0"=>((unfold Ct iJ;k_fill;intros;k_dflt walk_at "part")))
 (k_with "partS"=>(first|(refine' se ?k1pp ?k2pp ?k3pp ?k4pp ?k5pp ?kApp ?kFpp ?kKpp ?k6pp ?k7pp ?k8pp ?k9pp ?kBpp ?_ ?c2pp ?c3pp ?c4pp ?c5pp;(case kApp=>exact rfl);(case kFpp=>exact rfl);(case kKpp=>assumption);(case k1pp=>k_asm);(case k2pp=>k_asm);(case k3pp=>k_asm);(case k4pp=>k_asm);(case k5pp=>k_asm);(case k6pp=>k_is);(case k7pp=>k_is);(case k8pp=>ktr_room);(case k9pp=>first|exact BindsTo.of_eq rfl|exact binds_K (by k_in) rfl (by k_is) rfl rfl rfl);(case c5pp=>decide);(case kBpp=>exact locs rfl);(case c2pp=>exact rfl);(case c3pp=>exact rfl);(case c4pp=>exact rfl);k_whole;refine' r8 (R:=?Rppp) (default,0,default) ((?zppp:∀(x:Heap) (y:Addr) (z:Heap),?Rppp x y z) _ _ _);intros TH Ts TK R_ S8 NM Pf Te Tp RQ Mr;(try k_lt Mr);(try dsimp only);(try k_lift Pf);(try k_fold))|(refine' sd ?k1pp ?k2pp ?k3pp ?k4pp ?k5pp ?kApp ?kFpp ?kKpp ?k6pp ?k7pp ?k8pp ?k9pp ?kBpp ?kDpp ?_ ?c2pp ?c3pp ?c4pp;(case kApp=>exact rfl);(case kFpp=>exact rfl);(case kKpp=>assumption);(case k1pp=>k_asm);(case k2pp=>k_asm);(case k3pp=>k_asm);(case k4pp=>k_asm);(case k5pp=>k_asm);(case k6pp=>k_is);(case k7pp=>k_is);(case k8pp=>ktr_room);(case k9pp=>first|exact BindsTo.of_eq rfl|exact binds_K (by k_in) rfl (by k_is) rfl rfl rfl);(case kBpp=>exact rfl);(case kDpp=>decide+kernel);(case c2pp=>exact rfl);(case c3pp=>exact rfl);(case c4pp=>exact rfl);k_whole;refine' r8 (R:=?Rppp) (default,0,default) ((?zppp:∀(x:Heap) (y:Addr) (z:Heap),?Rppp x y z) _ _ _);intros TH Ts TK _ _ R_ S8 NM TB Pf Te Tp RQ Mr;(try k_lt Mr);k_cells TB;(try simp only [List.cons_append,List.nil_append] at NM);(try dsimp only);(try k_lift Pf);(try k_fold))))
 (k_with "ctS"=>((refine' Ct.of rfl ((?ctzpp:∀(p:Program) (a_:List Str) (bz:ExcName->Option Value) (mg:Str->Option Value) (mb:Str->Option Value) (dp:Nat) (un:Nat) (gd:Option (List Code)) (cn:Str) (cs:Scope) (a:Addr) (fM:Value) (cl:List (Str×Addr)) (c_:List Env) (cW:Around) (fR:Heap) (h₀:Heap) (L:Addr) (m:Str->Option Value) (s:Shared) (Q:Value->Shared->Prop) (E:Value->Shared->Prop),iJ _ _ _ _ _ _ _ _ _ p a_ bz mg mb dp un gd cn cs a fM cl c_ cW fR h₀ L m s Q E) _ _ _ _ _ _ _ _ _ _ _ _ _ _ _ _ _ _ _ _ _ _);intros;unfold iJ;k_fill;intros;k_dflt walk_at "partS")))
 trivial
theorem iw {as:List Addr} {g h:Heap} {L:Addr} {m:Str->Option Value} (F:Fr g L h m):Kept as g h:=fun b o _ e=>F.keep b o e
noncomputable def eg (prog:Program) (w:World) (A:Around) (env:Env) (bi:Expr) (body cH:List Stmt) (Q:Flow->Shared->Prop) (E:Value->Shared->Prop) (it:Value) (s:Shared):Prop:=
 codeAny (model prog w) A (.forLoop bi it body cH env) (fun r s'=>match r with| .ok f=>Q f s'| .error e=>cameBackBy (model prog w) A env E e s') s
theorem iI {prog:Program} {w:World} {A:Around} {env:Env} {E:Value->Shared->Prop} {s:Shared} {bi iter:Expr} {body cH:List Stmt} {pos:Pos} {Q:Flow->Shared->Prop}
  (h:wpAny (model prog w) A (eval iter env) (fun x s₁=>wpAny (model prog w) A (pyIter x) (eg prog w A env bi body cH Q E) E s₁) E s)
  (hs:∀x,foldedSetIterable iter env x=pure x:=by intro _;rfl):
  wpAny (model prog w) A (exec (.For bi iter body cH pos) env) Q E s:=wpAny_For h hs
noncomputable def LoopEnd (h₀:Heap) (L I:Addr) (o:Obj) (J:(Str->Option Value)->ax->Prop) (s aG:Shared):Prop:=
 ∃m' news',Fr h₀ L aG.heap m'/\News h₀ L aG.heap ((I,o)::news')/\(∀p∈news',p.1≠I)/\J m' news'/\aM s aG
noncomputable def TurnEnd (h₀:Heap) (L I:Addr) (o:Obj) (J:(Str->Option Value)->ax->Prop) (s:Shared) (Q:Flow->Shared->Prop) (f:Flow) (aG:Shared):Prop:=
 match f with
 | .ret v=>Q (.ret v) aG
 | .brk=>Q .next aG
 |_=>LoopEnd h₀ L I o J s aG
theorem LoopEnd.intro {h₀:Heap} {L I:Addr} {o:Obj} {J:(Str->Option Value)->ax->Prop} {s aG:Shared} {m':Str->Option Value} {news':ax} (F:Fr h₀ L aG.heap m') (N:News h₀ L aG.heap ((I,o)::news')) (hI:∀p∈news',p.1≠I) (hS:aM s aG) (hJ:J m' news'):LoopEnd h₀ L I o J s aG:=⟨m',news',F,N,hI,hJ,hS⟩
noncomputable def bd:Value->Shared->Prop:=fun _ _=>False
section
variable {prog:Program} {w:World} {A:Around} {env:Env} {E:Value->Shared->Prop} {s:Shared} {h₀:Heap} {m:Str->Option Value} {news:ax} {bi:Expr} {body cH:List Stmt} {Q:Flow->Shared->Prop}
theorem sN {I:Addr} {fE:Obj} {Ob:Nat->Obj->Prop} {It:Nat->Value->Prop} {n:Nat} (Inv:Nat->(Str->Option Value)->ax->Prop)
  (F:Fr h₀ env.locals s.heap m) (N:News h₀ env.locals s.heap ((I,fE)::news)) (hI:∀p∈news,p.1≠I) (hO:Ob 0 fE) (h0:Inv 0 m news)
  (next:∀i o aC ao (s₁:Shared) (Q:Option Value->Shared->Prop) E,i<n->Ob i o->Inv i aC ao->Fr h₀ env.locals s₁.heap aC->News h₀ env.locals s₁.heap ((I,o)::ao)->(∀v o' h' NV,It i v->Ob (i+1) o'->h'.get? I=some o'->Heap.SameBut I s₁.heap h'->Q (some v) {s₁ with heap:=h',toks:=NV})->wpAny (model prog w) A (pyNext (.ref I)) Q E s₁)
  (last:∀o aC ao (s₁:Shared) (Q:Option Value->Shared->Prop) E,Ob n o->Inv n aC ao->Fr h₀ env.locals s₁.heap aC->News h₀ env.locals s₁.heap ((I,o)::ao)->(∀h',Heap.ExtBut I s₁.heap h'->Q none {s₁ with heap:=h'})->wpAny (model prog w) A (pyNext (.ref I)) Q E s₁)
  (turn:∀i v o aC ao (s₁:Shared),i<n->It i v->Inv i aC ao->Fr h₀ env.locals s₁.heap aC->News h₀ env.locals s₁.heap ((I,o)::ao)->(∀p∈ao,p.1≠I)->aM s s₁->
   wpAny (model prog w) A (assign bi env v) (fun _ aG=>wpAny (model prog w) A (execs body env) (TurnEnd h₀ env.locals I o (Inv (i+1)) s Q) bd aG) bd s₁)
  (done:∀aC ao s₁,Inv n aC ao->Fr h₀ env.locals s₁.heap aC->News h₀ env.locals s₁.heap ao->aM s s₁->wpAny (model prog w) A (execs cH env) Q bd s₁)
  (ht:∀v,letOwnedTupleGo bi (.ref I) v=pure ():=by intro _;rfl):eg prog w A env bi body cH Q E (.ref I) s:=by
 revert F N hI hO h0 next last turn done ht;revert prog w A env E s h₀ m news bi body cH Q I fE Ob It n Inv;refine' no_implicit_lambda% ((?zpad:∀(_:Nat),_) 0);refine' no_implicit_lambda% (gB ?zR (a:=((0,default,bw,callerA,default,fun _ _=>True,{},{}),(fun _=>none,[],default,[],[],fun _ _=>True,0,default),(fun _ _=>True,fun _ _=>True,0,fun _ _ _=>True))) rfl (no_implicit_lambda% ((?zg:gl ?zR) 0 _ _ _ _ _ _ _ _ _ _ _ _ _ _ _ _ _ _ _)));intros _ prog w A env E s h₀ m news bi body cH Q I fE Ob It n Inv;intros F N hI hO h0 next last turn done ht;unfold eg;refine codeAny_forLoop (fun k s₁=>k<=n/\∃o aC ao,Ob (n - k) o/\Inv (n - k) aC ao/\Fr h₀ env.locals s₁.heap aC/\News h₀ env.locals s₁.heap ((I,o)::ao)/\(∀p∈ao,p.1≠I)/\aM s s₁) ?_ n ⟨Nat.le_refl _,fE,m,news,by rw [Nat.sub_self];exact hO,by rw [Nat.sub_self];exact h0,F,N,hI,SameF.refl⟩ ht;intros k s₁ aj;refine ak aj fun hk aZ=>?_;refine aW aZ fun o aC ao bU=>?_;refine dI bU fun gr hJ aU aN dA hS=>?_;have QH:I≠env.locals:=(aN _ (.head _)).2.1;have KJ:h₀.get? I=none:=(aN _ (.head _)).2.2
 cases k with
 |zero=>
  rw [Nat.sub_zero] at hJ gr;refine last o aC ao s₁ _ _ gr hJ aU aN fun h' hx=>?_;refine wpAny_mono (done aC ao {s₁ with heap:=h'} hJ ⟨aU.ns.at' fun o e=>hx _ o (Ne.symm QH) e,fun b o e=>hx b o (fun q=>by rw [q,KJ] at e;cases e) (aU.keep b o e),aU.above⟩ (fun p hp=>⟨hx _ _ (dA p hp) (aN p (.tail _ hp)).1,(aN p (.tail _ hp)).2⟩) hS) (fun f bh h=>h) fun _ _ h=>h.elim
 |succ k=>
  have hi:n - (k+1)<n:=by exact rC hk
  have e1:n - (k+1)+1=n - k:=by exact oj hk
  refine next _ o aC ao s₁ _ _ hi gr hJ aU aN fun v o' h' NV hv Pu tA hs=>?_;have bV:Fr h₀ env.locals h' aC:=⟨aU.ns.sameBut hs (Ne.symm QH),fun b o e=>hs.extBut b o (fun q=>by rw [q,KJ] at e;cases e) (aU.keep b o e),aU.above⟩
  have ce:News h₀ env.locals h' ((I,o')::ao):=fun p hp=>by
   rcases aB hp with rfl|hp
   ·exact ⟨tA,QH,KJ⟩
   ·exact ⟨hs.extBut _ _ (dA p hp) (aN p (.tail _ hp)).1,(aN p (.tail _ hp)).2⟩
  refine wpAny_mono (turn _ v o' aC ao {s₁ with heap:=h',toks:=NV} hi hv hJ bV ce dA hS) (fun _ aG bP=>wpAny_mono bP (fun f bh bu=>?_) fun _ _ h=>h.elim) fun _ _ h=>h.elim
  have fin:LoopEnd h₀ env.locals I o' (Inv (n - (k+1)+1)) s bh->∃m,m<k+1/\(m<=n/\∃o aC ao,Ob (n - m) o/\Inv (n - m) aC ao/\Fr h₀ env.locals bh.heap aC/\News h₀ env.locals bh.heap ((I,o)::ao)/\(∀p∈ao,p.1≠I)/\aM s bh):=by
   intro aj;refine bl aj fun m' news' aZ=>?_;refine bv aZ fun F' N' tA Lv My=>?_;rw [e1] at Lv Pu;exact ⟨k,Nat.lt_succ_self _,by exact oi e1,o',m',news',Pu,Lv,F',N',tA,My⟩
  cases f with
  |next=>exact fin bu
  |cont=>exact fin bu
  |brk=>exact bu
  |ret v=>exact bu
theorem jp {r:Addr} {a b:Int} {t u v:Tok} {n:Nat} (Inv:Nat->(Str->Option Value)->ax->Prop) (hr:IsRange s.heap r a b 1 t u v) (F:Fr h₀ env.locals s.heap m) (N:News h₀ env.locals s.heap news) (hh:A.handled=none)
  (hn:b=a+n) (ha: -(2 ^ 62)<=a) (hb:b<2 ^ 62) (h0:Inv 0 m news)
  (turn:∀i tk aC ao I o (s₁:Shared),i<n->Inv i aC ao->Fr h₀ env.locals s₁.heap aC->News h₀ env.locals s₁.heap ((I,o)::ao)->(∀p∈ao,p.1≠I)->aM s s₁->
   wpAny (model prog w) A (assign bi env (.int (a+i) tk)) (fun _ aG=>wpAny (model prog w) A (execs body env) (TurnEnd h₀ env.locals I o (Inv (i+1)) s Q) bd aG) bd s₁)
  (done:∀aC ao (s₁:Shared),Inv n aC ao->Fr h₀ env.locals s₁.heap aC->News h₀ env.locals s₁.heap ao->aM s s₁->wpAny (model prog w) A (execs cH env) Q bd s₁)
  (ht:∀it v,letOwnedTupleGo bi it v=pure ():=by intro _ _;rfl):wpAny (model prog w) A (pyIter (.ref r)) (eg prog w A env bi body cH Q E) E s:=by
 have hsz:Builtin.Range.rangeSize a b 1=n:=by
  unfold Builtin.Range.rangeSize;simp;lia
 refine wpAny_pyIter_range hr ?_ ?_
 ·unfold Builtin.Range.small
  rw [hsz];simp [Builtin.Range.rangeFitsLong];exact Cz ha hb hn
 ·rw [hsz]
  have hI:∀p∈news,p.1≠s.heap.objs.size:=fun p hp=>Nat.ne_of_lt (Heap.lt_size (N p hp).1);refine sN (I:=s.heap.objs.size) (Ob:=fun i o=>o=itR (a+(i:Nat)) (n - (i:Nat))) (It:=fun i v=>∃tk,v= .int (a+i) tk) (n:=n) Inv (F.push _) (m:=m) (news:=news) (News.push F N _) hI ?_ h0 ?_ ?_ ?_ ?_ (ht _)
  ·simp [itR]
  ·intros i o aC ao s₁ Q' E' hi aj;subst aj;intros hJ aU aN k
   refine wpAny_pyNext_range_item (x:=a+(i:Nat)) (left:=n - (i:Nat)) (step:=1) (aN _ (.head _)).1 (Cx hi) fun h' e_ hs=>?_;refine k _ _ _ _ ⟨_,rfl⟩ rfl ?_ hs
   have e1:a+(i:Int)+1=a+((i+1:Nat):Int):=by exact Cw
   have e2:(n:Int) - (i:Int) - 1=n - ((i+1:Nat):Int):=by exact Cv
   rw [e1,e2] at e_;exact e_
  ·intros o aC ao s₁ Q' E' aj;subst aj;intros hJ aU aN k
   exact wpAny_pyNext_range_end (x:=a+(n:Nat)) (left:=n - (n:Nat)) (step:=1) hh (aN _ (.head _)).1 (Cu) fun h' hx=>k h' hx
  ·intros i v o aC ao s₁ hi aj;refine am aj fun tk aZ=>?_;subst aZ;intros hJ aU aN dA hS
   exact turn i tk aC ao _ o s₁ hi hJ aU aN dA hS
  ·exact done
theorem lI {l:Addr} {vs:List Value} (Inv:Nat->(Str->Option Value)->ax->Prop) (F:Fr h₀ env.locals s.heap m) (N:News h₀ env.locals s.heap news) (hh:A.handled=none)
  (hl:∀i aC ao (s₁:Shared),Inv i aC ao->Fr h₀ env.locals s₁.heap aC->News h₀ env.locals s₁.heap ao->s₁.heap.IsList l vs.toArray) (h0:Inv 0 m news)
  (turn:∀i v aC ao I o (s₁:Shared),vs[i]?=some v->Inv i aC ao->Fr h₀ env.locals s₁.heap aC->News h₀ env.locals s₁.heap ((I,o)::ao)->(∀p∈ao,p.1≠I)->aM s s₁->
   wpAny (model prog w) A (assign bi env v) (fun _ aG=>wpAny (model prog w) A (execs body env) (TurnEnd h₀ env.locals I o (Inv (i+1)) s Q) bd aG) bd s₁)
  (done:∀aC ao (s₁:Shared),Inv vs.length aC ao->Fr h₀ env.locals s₁.heap aC->News h₀ env.locals s₁.heap ao->aM s s₁->wpAny (model prog w) A (execs cH env) Q bd s₁)
  (ht:∀I v,letOwnedTupleGo bi I v=pure ():=by intro _ _;rfl):wpAny (model prog w) A (pyIter (.ref l)) (eg prog w A env bi body cH Q E) E s:=by
 have Oa:=hl _ _ _ _ h0 F N;refine wpAny_pyIter_list Oa ?_;have hI:∀p∈news,p.1≠s.heap.objs.size:=fun p hp=>Nat.ne_of_lt (Heap.lt_size (N p hp).1);refine sN (I:=s.heap.objs.size) (Ob:=fun i o=>o.cls= .type "list_iterator"/\o.data= .fields #[.ref l, .int i 0]) (It:=fun i v=>vs[i]?=some v) (n:=vs.length) Inv (F.push _) (m:=m) (news:=news) (News.push F N _) hI ⟨rfl,rfl⟩ h0 ?_ ?_ ?_ done (ht _)
 ·intros i o aC ao s₁ Q' E' hi hO hJ aU aN k
  have hx:vs[i]?=some vs[i]:=List.getElem?_eq_getElem hi;refine wpAny_pyNext_list_item (i:=i) (x:=vs[i]) ⟨_,(aN _ (.head _)).1,hO⟩ (hl i aC ao s₁ hJ aU fun p hp=>aN p (.tail _ hp)) (by simpa using hx) fun h' e_ hs=>?_;refine am e_ fun o' aj=>?_;clear e_;refine ak aj fun ho hc=>?_;exact k _ o' _ s₁.toks hx hc ho hs
 ·intros o aC ao s₁ Q' E' hO hJ aU aN k
  exact wpAny_pyNext_list_end (i:=vs.length) hh ⟨_,(aN _ (.head _)).1,hO⟩ (hl _ aC ao s₁ hJ aU fun p hp=>aN p (.tail _ hp)) (by simp) fun h' hx=>k h' hx
 ·intros i v o aC ao s₁ hi hv hJ aU aN dA hS
  exact turn i v aC ao _ o s₁ hv hJ aU aN dA hS
end
theorem Kf:True:=by
 (k_with "exec For"=>((k_dflt (refine iI ?_))))
 (k_with "exec For Name Call cons nil"=>((k_dflt (refine iI ?_))))
 (k_with "exec For Name Call cons cons"=>((k_dflt (refine iI ?_))))
 (k_with "exec For Name Name cons nil"=>((k_dflt (refine iI ?_))))
 (k_with "exec For Name BinOp cons nil"=>((k_dflt (refine iI ?_))))
 (k_with "exec For Tuple Call cons nil"=>((k_dflt (refine iI ?_))))
 trivial
theorem Gb {M:Model} {A:Around} {E:Value->Shared->Prop} {s:Shared} {h₀:Heap} {L a:Addr} {m:Str->Option Value} {cn:Str} {cs:Scope} {fM:Value} {cl:List (Str×Addr)} {x:Str} {v:Value} {Q:Value->Shared->Prop} (F:Fr h₀ L s.heap m) (hv:m x=some v) (h:Q v s)
  (hk:cs.kind= .function:=by rfl) (hx:(envX cn cs L a fM cl).kindOf x=some .local:=by rfl):
  wpAny M A (loadName (envX cn cs L a fM cl) x) Q E s:=wpAny_loadName_local hk hx F.ns hv h
theorem Fo {M:Model} {A:Around} {E:Value->Shared->Prop} {s:Shared} {h₀:Heap} {L a:Addr} {m:Str->Option Value} {cn:Str} {cs:Scope} {fM:Value} {cl:List (Str×Addr)} {x:Str} {pos:Pos} {v:Value} {Q:Value->Shared->Prop}
  (hk:cs.kind= .function) (hx:(envX cn cs L a fM cl).kindOf x=some .local) (hd:(x == ("__debug__":Str))=false) (F:Fr h₀ L s.heap m) (hv:m x=some v) (h:Q v s):
  wpAny M A (eval (.Name x pos) (envX cn cs L a fM cl)) Q E s:=nameX_L F hv h hk hx hd
theorem J4:True:=by
 (k_with "eval Name"=>((k_here;k_dflt (refine' Fo (by rfl) (by kernel_rfl!) (by decide) (by k_asm) (by first|with_reducible assumption|rfl|assumption) ?_;k_whole))))
 (k_with "loadName"=>((k_here;k_dflt (refine' Gb (by k_asm) (by assumption) ?_ (by rfl) (by rfl);k_whole))))
 (k_with "callWith"=>((k_here;(with_reducible show wpAny _ _ (callWith _ (Value.builtin _) (_::_) (backTo _ (starEach (_::_) _)) []) _ _ _);k_dflt (refine callWith_method1 ?_))))
 (k_with "assign Name"=>((k_here;refine wpAny_assign_Name ?_)))
 (k_with "TurnEnd"=>((dsimp only [TurnEnd])))
 trivial
theorem JT:True:=by
 (k_with "same"=>(first|exact SameF.refl|assumption|((try dsimp only);first|exact SameF.refl|assumption|(refine SameF.trans ?_ (by assumption);walk_at "same"))))
 (k_with "back"=>(((rename Ret _=>Zw);refine Zw.out ?_ ?_ ?_ ?_ ?_)))
 trivial
theorem JG:True:=by
 (k_with "loopend"=>((refine' LoopEnd.intro (by assumption) (by assumption) (by first|assumption|k_all) (by walk_at "same") ?_)))
 trivial
theorem GS {i:Int} (h:i.natAbs<2 ^ 200):(baseText "0x" 16 i).length<=sizeLine:=by
 have h1:i.natAbs<16 ^ 50:=by
  have e:(16:Nat) ^ 50=2 ^ 200:=by decide
  rw [e];exact h
 have h2:=toDigits_len_pow (by decide:2<=16) (by decide:1<=50) h1;unfold baseText;rw [Str.length_append,Str.length_append,sizeLine_eq];have h5:(ofString (String.ofList (Nat.toDigits 16 i.natAbs))).length=(Nat.toDigits 16 i.natAbs).length:=ofString_ofList_length ..
 have h3:(ofString (if i<0 then "-" else "")).length<=1:=by
  split<;>(rw [PyProof.Rows.ofString_len];decide)
 have h4:(ofString "0x").length=2:=by rw [PyProof.Rows.ofString_len];rfl
 exact Cs h4 h5 h3 h2
theorem Jz:True:=by
 (k_with "size_fits"=>(with_reducible exact GS (by assumption)))
 trivial
theorem Jy:True:=by
 (k_with "lenb"=>((with_reducible first|(apply gh (n:=1000);assumption)|(apply gh (n:=2000);assumption)|(apply gh (n:=500);assumption)|(apply gh (n:=200);assumption)|(apply gh (n:=100);assumption)|(apply gh (n:=63);assumption)|(apply gh (n:=40);assumption)|(apply gh (n:=20);assumption)|((fail_if_success exact gS);(apply Gd);walk_at "lenb";walk_at "lenb")|((fail_if_success exact gL);(apply Gc);walk_at "lenb")|exact Nat.le_refl _)))
 (k_with "size_fits"=>((with_reducible first|assumption|decide+kernel|((fail_if_success exact gA);(apply qr);walk_at "lenb";decide+kernel)|((fail_if_success first|exact gN|exact gA|exact gL|exact gS);(apply kM);walk_at "lenb";decide+kernel))))
 (k_with "omega"=>((with_reducible first|assumption|exact Nat.zero_le _|decide+kernel|exact EQ _|exact Nat.le_refl _|exact Nat.le_succ _|(apply np;assumption;decide+kernel)|(apply yb;assumption;decide+kernel)|(apply qL;assumption)|(apply ct0;assumption;assumption;assumption)|(apply H5;assumption;assumption;assumption)|(apply H4;assumption;assumption)|(apply GR;assumption)|(apply sF;assumption)|(apply Fp;assumption)|exact Int.natCast_nonneg _|exact s0 _|(apply GP;decide+kernel)|(apply to;walk_at "lenb";decide+kernel)|(apply GQ;walk_at "lenb";decide+kernel))))
 (k_with "ktr_room"=>(first|exact qL (by with_reducible assumption:_+_ < recursionLimit)|exact np (b:=1) (by with_reducible assumption:_+_ < recursionLimit) (by decide+kernel)))
 (k_with "ktr_units"=>(fail))
 (k_with "cj"=>((with_reducible (apply And.left;(first|assumption|(apply And.right;(first|assumption|(apply And.right;(first|assumption|(apply And.right;(first|assumption|(apply And.right;(first|assumption|(apply And.right;(first|assumption|(apply And.right;(first|assumption|(apply And.right;(first|assumption|(apply And.right;(first|assumption|(apply And.right;(first|assumption|(apply And.right;(first|assumption|(apply And.right;(first|assumption|(apply And.right;(first|assumption|(apply And.right;(first|assumption|(apply And.right;(first|assumption|(apply And.right;assumption))))))))))))))))))))))))))))))))))
 (k_with "s12"=>(first|(apply FX;first|assumption|walk_at "cj")|(apply FW;first|assumption|walk_at "cj")))
 (k_with "k_ne"=>((refine neN ?_;(try dsimp only);first|with_reducible (first|assumption|(refine Ne.symm ?_;assumption)|exact Nat.ne_of_lt (Nat.lt_succ_self _)|walk_at "s12"|(refine Ne.symm ?_;walk_at "s12")|(refine Nat.ne_of_lt ?_;assumption)|(refine Nat.ne_of_gt ?_;assumption)|(apply FU;assumption)|(apply Hd;assumption)|(apply FT;assumption)|(apply Hc;assumption)|(apply FK;assumption)|(apply G4;assumption)|(apply FJ;assumption)|(apply G3;assumption)|(apply FH;assumption)|(apply G0;assumption)|(apply FE;assumption)|(apply GZ;assumption)|(apply FB;assumption)|(apply GY;assumption)|(apply Fz;assumption)|(apply GX;assumption)|(apply Fy;assumption)|(apply GW;assumption)|(apply Fx;assumption)|(apply GV;assumption)|(apply FS;assumption)|(apply Hb;assumption)|(apply FR;assumption)|(apply Ha;assumption)|(apply FQ;assumption)|(apply G9;assumption)|(apply FP;assumption)|(apply G8;assumption)|(apply FO;assumption)|(apply G7;assumption)|(apply FN;assumption)|(apply G6;assumption)|(apply FM;assumption)|(apply G5;assumption)|walk_at "cj"|(refine Ne.symm ?_;walk_at "cj")|walk_at "conj"|(refine Ne.symm ?_;walk_at "conj"))|assumption|(refine Ne.symm ?_;assumption)|lia)))
 trivial
theorem fP {as:List Addr} {g h:Heap} {b:Addr} (K:Kept as h g) (hb:b∉as) (e:g.get? b=none):h.get? b=none:=by
 cases q:h.get? b with
 |none=>rfl
 |some o=>have:=K b o hb q;rw [e] at this;cases this
theorem sD {g h:Heap} {L a:Addr} {o:Obj} {news:ax} (N:News g L h news) (hm:(a,o)∈news):g.get? a=none:=(N _ hm).2.2
theorem bf {g h:Heap} {L:Addr} {news news':ax} (N:News g L h news) (hs:∀p∈news',p∈news):News g L h news':=fun p hp=>N p (hs p hp)
theorem ti {vs:Array Value} {ns:List Int} {x:Int} {t:Tok} (h:IntsAre vs.toList ns):IntsAre (vs.push (.int x t)).toList (ns++[x]):=by
 rw [Array.toList_push];exact ksk_snoc h
theorem Jx:True:=by
 (k_with "kept"=>(exact Kept.trans (by assumption) (iw (by assumption))))
 (k_with "fresh"=>(exact fP (by assumption) (by simp) (sD (by assumption) (by k_mem))))
 (k_with "led"=>(exact bf (by assumption) (by k_allIn)))
 trivial
theorem GG {prog:Program} {w:World} {A:Around} {E:Value->Shared->Prop} {s:Shared} {h₀:Heap} {L l:Addr} {news:ax} {L4 slice:PySem.Expr} {init:List Value} {v:Value} {n:Nat} {u:Tok} {Q:Value->Shared->Prop} (N:News h₀ L s.heap news) (hm:(l,listOf (init++[v]).toArray n)∈news) (h:Q v s)
  (hs:subscripted slice false (.ref l) (.int (-1) u)=operate [.ref l, .int (-1) u] (getItem (.ref l) (.int (-1) u)):=by with_unfolding_all rfl):
  wpAny (model prog w) A (subscriptTail L4 slice (.ref l) (.int (-1) u)) Q E s:=by
 have hl:s.heap.IsList l (init++[v]).toArray:=⟨_,N.get hm,rfl,n,rfl⟩
 exact tail_any hl.typeIs slot_list_getitem.lookup (wpAny_getItem_list_neg hl (by decide) (by simp;exact Cr) (by decide) (by
  have e:(-1+(((init++[v]).toArray.size:Nat):Int)).toNat=init.length:=by simp;exact Cq
  rw [e];simp) h) hs
theorem Jw:True:=by
 (k_with "subscriptTail"=>((k_here;(with_reducible show wpAny _ _ (subscriptTail _ _ (Value.ref _) (Value.int _ _)) _ _ _);k_dflt (refine' GG (by k_asm) (by k_mem) ?_ (by with_unfolding_all rfl);k_whole))))
 trivial
theorem Fa {a b:Addr} {l:List Addr} (h:a≠b) (r:a∉l):a∉b::l:=fun q=>(aB q).elim h r
theorem Kp:True:=by
 (k_with "notin"=>(first|exact List.not_mem_nil|(refine' Fa (by k_ne) (by walk_at "notin"))))
 (k_with "fresh"=>(exact fP (by assumption) (by with_unfolding_all walk_at "notin") (sD (by assumption) (by k_mem))))
 trivial
noncomputable def HO (w:World) (P:Str->List Stmt->Scope->Prop):Prop:=∀⦃oc:Value⦄ ⦃an:Option Addr⦄ ⦃name qual:Str⦄ ⦃params:Arguments⦄ ⦃body:List Stmt⦄ ⦃scope:Scope⦄ ⦃dV kV gF pm cA ct:Value⦄ ⦃l_:Array (Option Value)⦄ ⦃z_:Option Addr⦄ (ho:(hd.heap_39 w.params).lookup 212=some ⟨oc,z_, .func (fnOf name qual params body scope dV kV gF pm an cA ct),l_⟩),P qual body scope
noncomputable abbrev WX (w:World) (qual:Str) (scope:Scope) (L fa:Addr) (cd:Value) (X:List Stmt) (Q:Flow->Shared->Prop) (E:Value->Shared->Prop) (s:Shared):Prop:=wpAny (model rw_ty0067_01.row.prog w) (callerA.deeper (envOfC qual scope L fa cd)) (execs X (envOfC qual scope L fa cd)) Q E s
noncomputable def eB (y low:Int):Nat->Int
 |0=>y.fdiv (2 ^ 6)*2 ^ 32
 |n+1=>eB y low n+(if Builtin.bitAnd (y.fdiv (2 ^ n)) 1=1 then 2 ^ (low+4*(n:Int)).toNat else 0)
theorem Gn {y low:Int} {i:Nat} (h:Builtin.bitAnd (y.fdiv (2 ^ (0+(i:Int)).toNat)) 1=1):eB y low i+2 ^ (low+4*(0+(i:Int))).toNat=eB y low (i+1):=by
 rw [Int.zero_add,Int.toNat_natCast] at h;rw [eB,if_pos h,Int.zero_add]
theorem Go {y low:Int} {i:Nat} (h:¬Builtin.bitAnd (y.fdiv (2 ^ (0+(i:Int)).toNat)) 1=1):eB y low i=eB y low (i+1):=by
 rw [Int.zero_add,Int.toNat_natCast] at h;rw [eB,if_neg h,Int.add_zero]
theorem tj {a b:Int} {t:Tok} (h:a=b):some (Value.int a t)=some (Value.int b t):=by rw [h]
noncomputable def kE (w:World) (y low:Int) (t1 t2:Tok) (_:Nat):Prop:=∀(h0:0<=low) (h1:low<12) (hy:y.natAbs<2 ^ 64),
 Ct w 2 16 190 [.int y t1, .int low t2] [] [] (fun _=>True) (fun h₀ L m s Q=>∀t,dj [] [] h₀ L m s (Q (.int (eB y low 6) t)))
noncomputable def vK:=bA (jF kE) (bw,0,0,0,0,0)
theorem HY:∀{w} (y low t1 t2),kE w y low t1 t2 0:=by
 intros;apply rY kE (c:=vK) rfl;apply (?zg:pA kE);intros w y low t1 t2 _;intros h0 h1 hy;walk_at "ctS";k_steps;refine jp (n:=6) (fun i m _=>m (ofString "y")=some (.int y t1)/\m (ofString "low")=some (.int low t2)/\∃t,m (ofString "number")=some (.int (eB y low i) t)) (by assumption) (by assumption) (by assumption) rfl (by decide) (by decide) (by decide) ?_ ?_ ?_
 ·exact ⟨rfl,rfl,_,rfl⟩
 ·intros i tk aC ao I o s₁ hi aj;refine aI aj fun e1 e2 aZ=>?_;refine am aZ fun t e3=>?_;intros aU aN dA hS
  have hl0:0<=low+4*(0+(i:Int)):=Int.add_nonneg h0 (Int.mul_nonneg (by decide) (s0 i));k_steps
  ·rename Builtin.bitAnd _ _=1=>hc
   walk_at "loopend";exact ⟨by assumption,by assumption,⟨_,tj (Gn hc)⟩⟩
  ·rename Builtin.bitAnd _ _≠1=>hc
   walk_at "loopend";exact ⟨by assumption,by assumption,⟨_,e3.trans (tj (Go hc))⟩⟩
 ·intros aC ao s₁ aj;refine aI aj fun e1 e2 aZ=>?_;refine am aZ fun t e3=>?_;intros aU aN hS
  k_steps
  (rename Ret _=>hr)
  exact hr.out _ _ (by assumption) (fun _ h=>(nomatch h)) (Kept.trans (by assumption) (iw (by assumption))) (by walk_at "same")
section
theorem tM (k:Int) (x:Str):∀l:List (Int×Str),(KTD.datumAt k (l.map fun p=>(p.1,PyData.str p.2))).getD (.str x)= .str (eY k x l)
 |[]=>rfl
 |p::r=>by
  show (if decide (k=p.1)=true then some (PyData.str p.2) else KTD.datumAt k (r.map fun p=>(p.1,PyData.str p.2))).getD (.str x)= .str (if k=p.1 then p.2 else eY k x r)
  by_cases h:k=p.1
  ·rw [if_pos (by simp [h]),if_pos h];rfl
  ·rw [if_neg (by simp [h]),if_neg h];exact tM k x r
theorem Hh {w:World} {A:Around} {s:Shared} {h₀:Heap} {L:Addr} {m:Str->Option Value} {k:Int} {t t0:Tok} {x:Str} {Q:Value->Shared->Prop} {E:Value->Shared->Prop}
  (F:Fr h₀ L s.heap m) (X:(hd.heap_39 w.params).In h₀) (h:∀t',Q (.str (eW k x) t') {s with toks:=s.toks+1})
  :wpAny (model rw_ty0067_01.row.prog w) A (call (.builtin "dict.get") [.ref 169, .int k t, .str x t0]) Q E s:=by
 have W:KTD.Keyed h₀ 169 (flagTab.map fun p=>(p.1,PyData.str p.2)):=kt_keyed_in X (by kernel_rfl);refine call_get2_intTab (W.keep F.keep _ w) (PyProof.V.Flat.str x t0) fun v hv=>?_;rw [KTD.lookup_keyed,tM] at hv;refine am hv.str_inv fun t' aj=>?_;subst aj;exact h t'
local macro_rules | `(tactic| walk_at "call builtin:dict.get") => `(tactic| ((with_reducible show wpAny _ _ (call (Value.builtin "dict.get") [Value.ref 169, Value.int _ _, Value.str _ _]) _ _ _); k_dflt (refine' Hh ?F ?X ?_; (case F => k_asm); (case X => k_asm); k_whole); intro t'))
theorem iy (i:Nat):(1*2 ^ (0+(i:Int)).toNat:Int)=cI i:=by
 rw [Int.zero_add,Int.toNat_natCast,Int.one_mul];rfl
theorem qx {vs:Array Value} {ss:List Str} {x:Str} {t:Tok} (h:StrsAre vs.toList ss):StrsAre (vs.push (.str x t)).toList (ss++[x]):=by
 rw [Array.toList_push];exact h.append' (.cons x t .nil)
theorem GM {a b:Int} {t:Tok} (h:a=b):some (Value.int a t)=some (Value.int b t):=by rw [h]
local macro_rules | `(tactic| walk_at "call builtin:str.join") => `(tactic| (k_here; (with_reducible show wpAny _ _ (call (Value.builtin "str.join") [Value.str _ _, Value.ref _]) _ _ _); k_dflt (refine' join_listW ?l ?i ?s ?w ?_; (case l => exact News.isList (by k_asm) (by k_mem)); (case i => first | assumption | exact qx (by assumption)); (case s => decide); (case w => assumption); k_whole); intro t' k'))
noncomputable def kG (w:World) (n:Int) (t1:Tok):Prop:=∀(hn:n.natAbs<2 ^ 100),
 Ct w 2 200 176 [.int n t1] [] [] (fun _=>True) (fun h₀ L m s Q=>∀t,dj [] [] h₀ L m s (Q (.str (Txt.join (ofString ", ") (bR n)) t)))
noncomputable def vL:=bA (gO kG) (bw,0,0)
theorem HZ:∀{w} (n t1),kG w n t1:=by
 intros;apply lq kG (c:=vL) rfl;apply (?zg:jH kG);intros w n t1;intro hn;walk_at "ctS";k_steps;rename News _ _ _ _=>N0;refine jp (n:=32) (fun i m news=>∃(t:Tok) (l:Addr) (vs:Array Value) (k:Nat),StrsAre vs.toList (cG n i)/\(cG n i=[]\/bS n i≠0)/\m (ofString "flags")=some (.int (bS n i) t)/\m (ofString "names")=some (.ref l)/\news=[(l,listOf vs k)]) (by assumption) (by assumption) N0 rfl (by decide) (by decide) (by decide) ?_ ?_ ?_
 ·exact ⟨t1,_,#[],_, .nil, .inl rfl,by rw [Ie];rfl,rfl,rfl⟩
 ·intros i tk aC ao I o s₁ hi aj;refine dU aj fun t l vs k aZ=>?_;refine bv aZ fun hS hz e1 e2 bU=>?_;subst bU;intros aU aN dA hSm
  have uM:=dA _ (.head _);dsimp only at uM
  have hp:(1*2 ^ (0+(i:Int)).toNat:Int).natAbs<2 ^ 200:=by rw [iy];exact oo (rb hi)
  have Os:=oU n i (CE hi)
  have ZS:((cG n i).map (·.length)).sum+(cG n i).length<=1048576:=by exact CC hi Os.1 Os.2
  have MF:vs.size<=sizeLine:=by rw [<-Array.length_toList,hS.len_eq];exact kM (Nat.le_trans (Nat.le_add_left _ _) ZS) (by decide+kernel)
  have hwl:(eW (1*2 ^ (0+(i:Int)).toNat) (baseText "0x" 16 (1*2 ^ (0+(i:Int)).toNat))).length<=60:=dm hp
  have Yk:((cG n i++[eW (1*2 ^ (0+(i:Int)).toNat) (baseText "0x" 16 (1*2 ^ (0+(i:Int)).toNat))]).map (·.length)).sum+(cG n i++[eW (1*2 ^ (0+(i:Int)).toNat) (baseText "0x" 16 (1*2 ^ (0+(i:Int)).toNat))]).length<=1048576:=by
   rw [mX,List.length_append];simp only [List.length_cons,List.length_nil];exact CB hi Os.1 hwl Os.2
  have YS:eW (1*2 ^ (0+(i:Int)).toNat) (baseText "0x" 16 (1*2 ^ (0+(i:Int)).toNat))=aV (cI i):=by rw [iy];rfl
  k_steps
  ·rename Builtin.bitAnd _ _≠0=>hb
   rename Builtin.bitXor _ _≠0=>hx;rw [iy] at hb hx;have LQ:=ut hb;rw [show cI i=2 ^ i from rfl,mC LQ] at hx;have Ue:=fun t'=>qx (t:=t') (x:=eW (1*2 ^ (0+(i:Int)).toNat) (baseText "0x" 16 (1*2 ^ (0+(i:Int)).toNat))) hS
   have ew:cG n i++[eW (1*2 ^ (0+(i:Int)).toNat) (baseText "0x" 16 (1*2 ^ (0+(i:Int)).toNat))]=cG n (i+1):=by rw [YS,oV LQ]
   rw [ew] at Ue;walk_at "loopend";exact ⟨_,l,_,_,Ue _, .inr hx,GM (by rw [iy];exact mC LQ),by assumption,rfl⟩
  ·rename Builtin.bitAnd _ _≠0=>hb
   rename Builtin.bitXor _ _=0=>hx;rw [iy] at hb hx;have LQ:=ut hb;rw [show cI i=2 ^ i from rfl,mC LQ] at hx;rw [YS,vW hi LQ hx]
   (rename Ret _=>hr)
   exact hr.out _ _ (by assumption) (fun _ h=>(nomatch h)) (Kept.trans (by assumption) (iw (by assumption))) (by walk_at "same")
  ·rename Builtin.bitAnd _ _=0=>hb
   rw [iy] at hb;have LQ:=IA hb;walk_at "loopend";exact ⟨_,l,_,_,by rw [oW LQ];exact hS,by rw [oW LQ,uo LQ];exact hz,by rw [uo LQ];exact e1,e2,rfl⟩
 ·intros aC ao s₁ aj;refine dU aj fun t l vs k aZ=>?_;refine bv aZ fun hS hz e1 e2 bU=>?_;subst bU;intros aU aN hSm
  have QU:=uq n 32 hn (Nat.le_refl _);have Os:=oU n 32 (Nat.le_refl _)
  have MF:vs.size<=sizeLine:=by rw [<-Array.length_toList,hS.len_eq];exact kM Os.2 (by decide+kernel)
  have Z3:(baseText "0x" 16 (bS n 32)).length<=53:=ty QU
  have Yk:((cG n 32++[baseText "0x" 16 (bS n 32)]).map (·.length)).sum+(cG n 32++[baseText "0x" 16 (bS n 32)]).length<=1048576:=by
   rw [mX,List.length_append];simp only [List.length_cons,List.length_nil];exact CA Os.1 Os.2 Z3
  k_steps;have he:=vV hz;unfold dF at he;rw [he]
  (rename Ret _=>hr)
  exact hr.out _ _ (by assumption) (fun _ h=>(nomatch h)) (Kept.trans (by assumption) (iw (by assumption))) (by walk_at "same")
end
section
local macro_rules | `(tactic| omega) => `(tactic| exact Gt (by assumption))
local macro_rules | `(tactic| size_fits) => `(tactic| exact qr (by assumption : _ <= Int.toNat (32 - 0)) (by decide +kernel))
noncomputable def kD (w:World) (n:Int) (t1:Tok):Prop:=∀(hy:(n.fdiv (2 ^ Int.toNat 32)).natAbs<2 ^ 64),
 Ct w 3 200 195 [.int n t1] [] [] (fun _=>True)
  (fun h₀ L m s Q=>∀D vs k,IntsAre vs.toList (cL n)->dj [] [(D,listOf vs k)] h₀ L m s (fun s'=>s.heap.get? D=none->Q (.ref D) s'))
noncomputable def vJ:=bA (gO kD) (bw,0,0)
theorem HX:∀{w} (n t1),kD w n t1:=by
 intros;apply lq kD (c:=vJ) rfl;apply (?zg:jH kD);intros w n t1;intro hy;walk_at "ctS";k_steps
 all_goals (rename IntsAre _ _=>hI;rw [oE] at hI;rename Ret _=>hr)
 ·rename _ * _≠0=>ha
  refine hr.out _ _ _ ?_ _ (by assumption) (by exact bf (by assumption) (by exact cz [0] rfl)) (by walk_at "kept") (by walk_at "same") (by walk_at "fresh");rw [pF] at ha ⊢;rw [<-sc (.inl ha)];exact ti (vs:=List.toArray _) hI
 ·rename decide _=true=>hd
  rw [oE,decide_eq_true_eq,List.map_eq_nil_iff] at hd;refine hr.out _ _ _ ?_ _ (by assumption) (by exact bf (by assumption) (by exact cz [1] rfl)) (by walk_at "kept") (by walk_at "same") (by walk_at "fresh");rw [pF,<-sc (.inr hd)];exact ti (vs:=List.toArray _) hI
 ·rename decide _=false=>hd
  rename _ * _=0=>ha;rw [oE,decide_eq_false_iff_not,List.map_eq_nil_iff] at hd;refine hr.out _ _ _ ?_ _ (by assumption) (by exact bf (by assumption) (by exact cz [1] rfl)) (by walk_at "kept") (by walk_at "same") (by walk_at "fresh");rw [pF] at ha;rw [<-E1 (fun h=>h.elim (fun q=>q ha) hd)];exact hI
end
noncomputable def aH (x:Str):Str:=ofString "_"++ofString (toString (x.length:Int))++x
noncomputable def kC (w:World) (x:Str) (t1:Tok):Prop:=∀(hx:x.length<=1000),
 Ct w 3 200 202 [.str x t1] [] [] (fun _=>True) (fun h₀ L m s Q=>∀t,dj [] [] h₀ L m s (Q (.str (aH x) t)))
noncomputable def vI:=bA (gO kC) (bw,⟨#[]⟩,0)
theorem pf:∀{w} (x t1),kC w x t1:=by
 intros;apply lq kC (c:=vI) rfl;apply (?zg:jH kC);intros w x t1;intro hx
 have h1:x.length<=1000000:=by exact CF hx
 walk_at "ctS";k_steps
 (rename Ret _=>hr)
 exact hr.out _ _ (by assumption) (fun _ h=>(nomatch h)) (by walk_at "kept") (by walk_at "same")
noncomputable abbrev wo (vs:List Value):Obj:={cls:= .type "tuple",data:= .seq vs.toArray}
noncomputable def km (w:World) (W d top:Addr) (n:WN) (n1 n2 n3:Nat) (x:WS) (init:List Value) (items:Array Value) (LW uri:Str) (t1 t2:Tok) (_ _:Nat):Prop:=∀(hx:items.size<=1000) (a1: @Ne Nat W top) (a2: @Ne Nat d top) (a3: @Ne Nat x.data top) (a4: @Ne Nat x.nss top),
 Ct w 2 200 113 [.ref W, .str LW t1, .str uri t2] [] (W0 w.params W d n n1 x [(x.nss,listOf (init++[Value.ref top]).toArray n2),(top,listOf items n3)]) (fun _=>True)
  (fun h₀ L m s Q=>∀q n_,dj [W,d,x.data,x.nss,top] ((q,wo [.str uri t2, .str LW t1])::W0 w.params W d n n1 x [(x.nss,listOf (init++[Value.ref top]).toArray n2),(top,listOf (items.push (Value.ref q)) n_)]) h₀ L m s (fun s'=>s.heap.get? q=none->Q .none s'))
noncomputable def vC:=bA (gQ km) ((bw,0,0,0,⟨0,false,false⟩,0,0,0),(⟨0,0,0,0,0,0,fun _=>0⟩,[],#[],⟨#[]⟩,⟨#[]⟩,0,0,0),0)
theorem HQ:∀{w} (W d top n n1 n2 n3 x init items LW uri t1 t2),km w W d top n n1 n2 n3 x init items LW uri t1 t2 0 0:=by
 intros;apply eO km (c:=vC) rfl;apply (?zg:eE km);intros w W d top n n1 n2 n3 x init items LW uri t1 t2 _ _;intros hx a1 a2 a3 a4;walk_at "ctS";dsimp only [W0] at *;k_steps
 (rename Ret _=>hr)
 exact hr.out _ _ _ (by assumption) (by exact bf (by assumption) (by exact cz [0,1,2,3,4,5] rfl)) (by walk_at "kept") (by walk_at "same") (by walk_at "fresh")
noncomputable def jI (x:Str):Prop:=∀c∈x.cps.toList,c∉[38,60,34,9,10,13]
theorem gY {x:Str} (h:jI x) (c:Nat) (y:Str) (hc:c∈[38,60,34,9,10,13]) (hy:y=⟨#[c]⟩):(Builtin.Str.occurrences x y 0 x.length 1).isEmpty=true:=by
 have e:=StrLaws.found_one x c;rw [hy];have hn:¬c∈x.cps.toList:=fun q=>h c q hc;rw [decide_eq_false hn] at e
 simpa using e
noncomputable def kH (w:World) (x:Str) (t1:Tok):Prop:=∀(hs:jI x),
 Ct w 3 200 168 [.str x t1] [] [] (fun _=>True) (fun h₀ L m s Q=>∀t,dj [] [] h₀ L m s (Q (.str x t)))
noncomputable def vM:=bA (gO kH) (bw,⟨#[]⟩,0)
theorem H0:∀{w} (x t1),kH w x t1:=by
 intros;apply lq kH (c:=vM) rfl;apply (?zg:jH kH);intros w x t1;intro hs;have q1:=gY hs 38 (ofString "&") (by decide) (by decide);have q2:=gY hs 60 (ofString "<") (by decide) (by decide);have q3:=gY hs 34 (ofString "\"") (by decide) (by decide);have q4:=gY hs 9 (ofString "\t") (by decide) (by decide);have q5:=gY hs 10 (ofString "\n") (by decide) (by decide);have q6:=gY hs 13 (ofString "\x0d") (by decide) (by decide);walk_at "ctS";k_steps
 (rename Ret _=>hr)
 exact hr.out _ _ (by assumption) (fun _ h=>(nomatch h)) (by walk_at "kept") (by walk_at "same")
section
variable {M:Model} {A:Around} {R:GenEnd} {Y:Protocol} {n:Nat} {aR:Shared} {c:Code} {fs:List Frame} {s:Shared} {env:Env} {gd:Bool->Bool} {lv:List Value->List Value} {α β:Type}
theorem dB {m:Sem α} {f:α->Sem β} {K:β->Sem Fin} {H:Value->Sem Fin} {E:Value->Shared->Prop} (hE:∀x s',E x s'->Seg M A R Y n aR c (H x) fs s')
  (h:wpAny M (A.over c fs) m (fun a s'=>Seg M A R Y n aR c ((f a).wrap K H gd lv) fs s') E s):Seg M A R Y n aR c ((m >>= f).wrap K H gd lv) fs s:=by
 rw [Sem.bind_eq_wrap',Sem.wrap_wrap];exact seg_wrap (wpAny_mono h (fun _ _ x=>x) hE)
theorem Jb {m:Sem α} {K:α->Sem Fin} {H:Value->Sem Fin} {E:Value->Shared->Prop} (hE:∀x s',E x s'->Seg M A R Y n aR c (H x) fs s')
  (h:wpAny M (A.over c fs) m (fun a s'=>Seg M A R Y n aR c (K a) fs s') E s):Seg M A R Y n aR c (m.wrap K H gd lv) fs s:=seg_wrap (wpAny_mono h (fun _ _ x=>x) hE)
theorem Ja {c':Code} {K:Flow->Sem Fin} {H:Value->Sem Fin}
  (h:∀p,Seg M A R Y n aR c' (M.den c') (.ret (fun r=>(match r with| .ok f=>(.pure f:Sem Flow)| .error e=> .raise e).wrap K H gd lv) none (gd false) (lv []) c p []::fs) s):
  Seg M A R Y n aR c ((run c').wrap K H gd lv) fs s:=seg_call h
theorem xH {bi iter:Expr} {body cH:List Stmt} {pos:Pos} {K:Flow->Sem Fin} {H:Value->Sem Fin}
  (h:wpAny M (A.over c fs) (eval iter env) (fun x s₁=>wpAny M (A.over c fs) (pyIter x) (fun it aG=>∀p,Seg M A R Y n aR (.forLoop bi it body cH env) (M.den (.forLoop bi it body cH env))
    (.ret (fun r=>((match r with| .ok f=>(.pure f:Sem Flow)| .error e=> .raise e).onRaise fun (x:Value)=>do
    if (<-field x 1) == Value.none then unsupported "frame.own-activation:exception-without-traceback"
    setFlight x env.frame).wrap K H gd lv) none (gd false) (lv []) c p []::fs) aG) bd s₁) bd s)
  (hs:∀x,foldedSetIterable iter env x=pure x:=by intro _;rfl):Seg M A R Y n aR c ((exec (.For bi iter body cH pos) env).wrap K H gd lv) fs s:=by
 rw [exec_For];refine dB (E:=bd) (fun _ _ x=>x.elim) (wpAny_standAt ?_);refine dB (E:=bd) (fun _ _ x=>x.elim) (wpAny_mono h (fun x s₁ aT=>?_) fun _ _ e=>e);refine dB (E:=bd) (fun _ _ x=>x.elim) (wpAny_of_eq (hs x) ?_);refine dB (E:=bd) (fun _ _ x=>x.elim) (wpAny_standAt ?_);refine dB (E:=bd) (fun _ _ x=>x.elim) (wpAny_holding (wpAny_mono aT (fun it aG bP=>?_) fun _ _ e=>e));exact seg_call bP
theorem xD {Qh:Expr} {body cH:List Stmt} {pos:Pos} {K:Flow->Sem Fin} {H:Value->Sem Fin}
  (h:wpAny M (A.over c fs) (isTrue Qh env (eval Qh env)) (fun b s₁=>Seg M A R Y n aR c ((if b then execs body env else execs cH env).wrap K H gd lv) fs s₁) bd s):
  Seg M A R Y n aR c ((exec (.If Qh body cH pos) env).wrap K H gd lv) fs s:=by
 show Seg M A R Y n aR c ((do standAt pos;let b <-isTrue Qh env (eval Qh env);if b then execs body env else execs cH env).wrap K H gd lv) fs s
 refine dB (E:=bd) (fun _ _ x=>x.elim) (wpAny_standAt ?_);refine dB (E:=bd) (fun _ _ x=>x.elim) (wpAny_mono h (fun b s₁ aT=>?_) fun _ _ e=>e);exact aT
end
section
variable {prog:Program} {w:World} {A:Around} {R:GenEnd} {Y:Protocol} {n:Nat} {aR:Shared} {c:Code} {fs:List Frame} {s:Shared} {env:Env} {gd:Bool->Bool} {lv:List Value->List Value}
theorem qI {bi:Expr} {it:Value} {body cH:List Stmt}
  (h:wpAny (model prog w) (A.over (.forLoop bi it body cH env) fs) (pyNext it) (fun r s₁=>match r with
   |none=>Seg (model prog w) A R Y n aR (.forLoop bi it body cH env) (.pure (.again (.block cH env))) fs s₁
   |some v=>wpAny (model prog w) (A.over (.forLoop bi it body cH env) fs) (assign bi env v) (fun _ aG=>
     Seg (model prog w) A R Y n aR (.forLoop bi it body cH env) ((execs body env).wrap (fun f=>match f with
      | .next| .cont=> .pure (.again (.forLoop bi it body cH env))
      | .brk=> .pure (.done .next)
      | .ret v=> .pure (.done (.ret v))) (fun e=>(do noteFrame e env;theTreesLotGoes e:Sem Unit).wrap (fun _=> .raise e) .raise id id) id id) fs aG) bd s₁) bd s)
  (ht:∀v,letOwnedTupleGo bi it v=pure ():=by intro _;rfl):
  Seg (model prog w) A R Y n aR (.forLoop bi it body cH env) ((model prog w).den (.forLoop bi it body cH env)) fs s:=by
 show Seg _ A R Y n aR _ ((forTurn bi it body cH env).onRaise (fun x=>do noteFrame x env;theTreesLotGoes x)) fs s;unfold forTurn;rw [Sem.onRaise_eq_wrap];refine dB (E:=bd) (fun _ _ x=>x.elim) (wpAny_standAt ?_);refine dB (E:=bd) (fun _ _ x=>x.elim) (wpAny_onRaise (wpAny_mono h (fun r s₁ aT=>?_) fun _ _ e=>e.elim))
 cases r with
 |none=>exact aT
 |some v=>
  dsimp only at aT ⊢;refine dB (E:=bd) (fun _ _ x=>x.elim) (wpAny_of_eq (ht v) ?_);refine dB (E:=bd) (fun _ _ x=>x.elim) (wpAny_mono aT (fun _ aG bP=>?_) fun _ _ e=>e);rw [Sem.bind_eq_wrap',Sem.wrap_wrap]
  rw [Sem.wrap_congr (execs body env) _ _ (K':=fun f=>match f with
      | .next| .cont=> .pure (.again (.forLoop bi it body cH env))
      | .brk=> .pure (.done .next)
      | .ret v=> .pure (.done (.ret v))) (H':=(fun e=>(do noteFrame e env;theTreesLotGoes e:Sem Unit).wrap (fun _=> .raise e) .raise id id))
    (fun f=>by cases f<;>rfl)
    (fun e=>by first|exact Sem.bind_eq_wrap _ _|(show (do noteFrame e env;theTreesLotGoes e:Sem Unit).bind (fun _=> .raise e)=_;rw [Sem.bind_eq_wrap]))]
  exact bP
theorem xA (h:Seg (model prog w) A R Y n aR (.block [] env) (leafOf (.ok .next)) fs s):Seg (model prog w) A R Y n aR c (.pure (.again (.block [] env))) fs s:=seg_again rfl h
end
theorem tR:entryFor table "proto.yield_from"=some Builtin.«proto.yield_from»:=entryFor_of_tree (by kernel_rfl)
noncomputable def KB (B L:Nat) (h h':Heap):Prop:=∀b o,b<B->b≠L->h.get? b=some o->h'.get? b=some o
noncomputable def YG (vs:List Value) (B L:Nat) (ex:List Addr):Protocol:=fun n aR v s₁ kap=>
 vs.reverse[n]?=some v/\KB B L aR.heap s₁.heap/\s₁.os=aR.os/\s₁.gens=aR.gens/\∀r_,Kept ex s₁.heap r_.heap->kap (.send .none) r_
theorem KB.trans {B L:Nat} {h h' Lp:Heap} (x:KB B L h h') (y:KB B L h' Lp):KB B L h Lp:=fun b o hb hl e=>y b o hb hl (x b o hb hl e)
theorem KB.refl {B L:Nat} {h:Heap}:KB B L h h:=fun _ _ _ _ e=>e
theorem KB.extBut {B L J:Nat} {h h':Heap} (x:Heap.ExtBut J h h') (hJ:B<=J):KB B L h h':=fun b o hb _ e=>x b o (Nat.ne_of_lt (Nat.lt_of_lt_of_le hb hJ)) e
section
variable {M:Model} {A:Around} {R:GenEnd} {Y:Protocol} {n:Nat} {aR:Shared} {c:Code} {fs:List Frame} {s:Shared}
theorem el {α:Type} {m:Sem α} {K:α->Sem Fin} (h:wpAny M (A.over c fs) m (fun a s'=>Seg M A R Y n aR c (K a) fs s') bd s):Seg M A R Y n aR c (m >>= K) fs s:=
 seg_bind (wpAny_mono h (fun _ _ x=>x) fun _ _ x=>x.elim)
end
section
variable {prog:Program} {w:World} {A:Around} {E:Value->Shared->Prop} {s:Shared}
theorem wZ {it l:Addr} {i:Nat} {items} {x:Value} {Q:Option Value->Shared->Prop} (e_:s.heap.IsListIter it l i)
  (hl:s.heap.IsList l items) (hx:items[i]?=some x)
  (hQ:∀h',h'.IsListIter it l (i+1)->Heap.SameBut it s.heap h'->Q (some x) {s with heap:=h'}):
  wpAny (model prog w) A (callSpecial? (.ref it) "__next__") Q E s:=by
 refine am (id e_) fun o aj=>?_;refine aI aj fun ho hc hd=>?_;refine am hl fun ol aj=>?_;clear hl;refine aI aj fun U7 _ aZ=>?_;refine am aZ fun nl MA=>?_
 refine (wpAny_callSpecial?_slot (name:=ofString "__next__") e_.typeIs slot_listiter_next
  (wpAny_call_entry slot_listiter_next e_.typeIs entry_listiter_next ?_ (args_listiter_next _)))
 show wpAny _ _ (field (.ref it) 0 >>= _) _ _ s;refine wpAny_bind (wpAny_field ho hd (x:= .ref l) rfl ?_)
 show wpAny _ _ (if (Value.ref l == Value.none)=true then _ else _) _ _ s
 rw [if_neg (show ¬((Value.ref l == Value.none)=true) from Bool.false_ne_true)];show wpAny _ _ (field (.ref it) 1 >>= _) _ _ s;refine wpAny_bind (wpAny_field ho hd (x:= .int i 0) rfl ?_);show wpAny _ _ (seqItems? (.ref l) >>= _) _ _ s;refine wpAny_bind (wpAny_seqItems U7 MA ?_);simp only [Int.toNat_natCast,hx];refine wpAny_bind (wpAny_setField ho hd (by simp) (wpAny_pure ⟨x,rfl,(hQ _ ?_ (Heap.SameBut.update ..))⟩))
 exact ⟨_,Heap.get?_update_self _ ho (Obj.isFreed_of_fields (Obj.data_mapFields hd _)),(Obj.cls_mapFields ..).trans hc,by
  rw [Obj.data_mapFields hd];simp [rawInt]⟩
theorem w0 {it l:Addr} {i:Nat} {items:Array Value} {Q:Option Value->Shared->Prop} (hh:A.handled=none)
  (e_:s.heap.IsListIter it l i) (hl:s.heap.IsList l items) (hx:items[i]?=none)
  (hQ:∀h' x,Heap.ExtBut it s.heap h'->(∃o,h'.get? x=some o/\o.cls= .type "StopIteration"/\(∃vs,o.data= .fields vs/\vs[5]?=some .none))->E (.ref x) {s with heap:=h'}):
  wpAny (model prog w) A (callSpecial? (.ref it) "__next__") Q E s:=by
 refine am (id e_) fun o aj=>?_;refine aI aj fun ho hc hd=>?_;refine am hl fun ol aj=>?_;clear hl;refine aI aj fun U7 _ aZ=>?_;refine am aZ fun nl MA=>?_
 refine (wpAny_callSpecial?_slot (name:=ofString "__next__") e_.typeIs slot_listiter_next
  (wpAny_call_entry slot_listiter_next e_.typeIs entry_listiter_next ?_ (args_listiter_next _)))
 show wpAny _ _ (field (.ref it) 0 >>= _) _ _ s;refine wpAny_bind (wpAny_field ho hd (x:= .ref l) rfl ?_)
 show wpAny _ _ (if (Value.ref l == Value.none)=true then _ else _) _ _ s
 rw [if_neg (show ¬((Value.ref l == Value.none)=true) from Bool.false_ne_true)];show wpAny _ _ (field (.ref it) 1 >>= _) _ _ s;refine wpAny_bind (wpAny_field ho hd (x:= .int i 0) rfl ?_);show wpAny _ _ (seqItems? (.ref l) >>= _) _ _ s;refine wpAny_bind (wpAny_seqItems U7 MA ?_);simp only [Int.toNat_natCast,hx];refine wpAny_bind (wpAny_rule (wpAny_bind (wpAny_setField ho hd (by simp) ?_)));show wpAny _ _ (newExc (.type "StopIteration") [] >>= _) _ _ _;refine wpAny_bind ?_;simp only [newExc,newTuple];refine wpAny_bind (wpAny_newObj_type ?_ (by size_fits));refine wpAny_bind (m:=firstArgMember _ _) (wpAny_of_eq (a:=Value.none) (by first|rfl|(simp only [firstArgMember];rfl)) ?_);refine wpAny_newObj_type ?_ (by size_fits);simp only [raiseNew];refine wpAny_bind (wpAny_handled ?_);rw [show A.in1.handled=none from hh];refine wpAny_bind (wpAny_pure (wpAny_throw ?_));refine hQ _ _ (((Heap.SameBut.update ..).extBut.push _).push _) ⟨_,Heap.get?_push_size _ rfl,rfl,_,rfl,?_⟩;rw [Array.getElem?_append_left (show 5<6 by decide)];rfl
end
theorem Ib:typeLookup (.type "list_iterator") "close"=pure none:=by rw [typeLookup_type,builtinLookup_eq_fast];kernel_rfl
section
variable {prog:Program} {w:World} {A:Around} {R:GenEnd} {n:Nat} {aR:Shared} {c:Code} {fs:List Frame} {s:Shared}
noncomputable abbrev gW (J:Addr):Args:=⟨[.ref J, .bool false, .none],[]⟩
theorem sh {A:Around} {c:Code} {fs:List Frame} (hh:(marksOver fs (A.handled,A.handled)).1=none):(A.over c fs).handled=none:=hh
theorem pZ {A:Around} {E:Value->Shared->Prop} {s:Shared} {J:Addr} {b:Bool} {o:Obj} {Q:Unit->Shared->Prop} (ho:s.heap.get? J=some o) (hc:o.cls= .type "list_iterator") (h:Q () s):
  wpAny (model prog w) A (Builtin.Generator.sleptOver (.ref J) b) Q E s:=by
 unfold Builtin.Generator.sleptOver;dsimp only;refine wpAny_bind (wpAny_load ho ?_);rw [hc];exact wpAny_pure h
theorem qJ {Y:Protocol} {id:String} {args:Args} {b:Builtin} (hb:entryFor table id=some b) (h:Seg (model prog w) A R Y n aR (.builtin id args) (b args) fs s):
  Seg (model prog w) A R Y n aR (.builtin id args) ((model prog w).den (.builtin id args)) fs s:=by
 show Seg _ A R Y n aR _ (match entryFor table id with|some b=>b args|none=>unsupported ((withoutEnding? id "#data").getD id)) fs s;rw [hb];exact h
theorem vS {A:Around} {E:Value->Shared->Prop} {s:Shared} {x:Addr} {Q:Bool->Shared->Prop} (hT:s.TypeIs (.ref x) "StopIteration") (h:Q true s):
  wpAny (model prog w) A (Builtin.Generator.endsTheTurnAsAValue false (.ref x)) Q E s:=by
 unfold Builtin.Generator.endsTheTurnAsAValue Builtin.Generator.isStopAndMetaclass;refine wpAny_bind (wpAny_bind (wpAny_typeOf hT ?_));dsimp only;refine wpAny_bind (wpAny_of_eq isSubtype_stop ?_);refine wpAny_bind (wpAny_of_eq (a:=Value.type "type") rfl ?_);refine wpAny_pure ?_;dsimp only;exact wpAny_pure h
theorem xy {vs:List Value} {B L:Nat} {ex:List Addr} {J lst:Addr} {items:Array Value} {Own:Heap->Prop} {gn:Nat}
  {k h g l eK ff kp} {fs:List Frame} (Uj:B<=J) (S_:J∉ex) (VD:lst∉ex) (WC:lst≠J)
  (O1:∀h h',Own h->Kept ex h h'->Own h') (O2:∀h h',Own h->Heap.ExtBut J h h'->Own h')
  (Rv:splitAtGen (.ret k h g l eK ff kp::fs)=none) (Wy:(Frame.ret k h g l eK ff kp::fs).any Frame.guarded=false) (hh:(marksOver (.ret k h g l eK ff kp::fs) (A.handled,A.handled)).1=none)
  (Ng:∀i v,items[i]?=some v->vs.reverse[gn+(items.size - 1 - i)]?=some v)
  (cont:∀aR s,KB B L aR.heap s.heap->s.os=aR.os->s.gens=aR.gens->Own s.heap->Seg (model prog w) A R (YG vs B L ex) gn aR eK (k (.ok (.ret .none))) fs s):
  ∀r i aR s,items.size=i+r->s.heap.IsListIter J lst i->s.heap.IsList lst items->Own s.heap->KB B L aR.heap s.heap->s.os=aR.os->s.gens=aR.gens->
   Seg (model prog w) A R (YG vs B L ex) (gn+r) aR (.builtin "proto.yield_from" (gW J)) ((model prog w).den (.builtin "proto.yield_from" (gW J))) (.ret k h g l eK ff kp::fs) s:=by
 revert Uj S_ VD WC O1 O2 Rv Wy hh Ng cont;revert prog w A R vs B L ex J lst items Own gn k h g l eK ff kp fs;refine' no_implicit_lambda% ((?zpad:∀(_ _:Nat),_) 0 0);refine' no_implicit_lambda% (fp ?zR (a:=((0,0,default,bw,callerA,default,[],0),(0,[],0,0,#[],fun _=>True,0,fun _=>default),(none,true,[],default,default,[],[]))) rfl (no_implicit_lambda% ((?zg:eZ ?zR) 0 0 _ _ _ _ _ _ _ _ _ _ _ _ _ _ _ _ _ _ _ _ _)));intros _ _ prog w A R vs B L ex J lst items Own gn k h g l eK ff kp fs;intros Uj S_ VD WC O1 O2 Rv Wy hh Ng cont;intro r
 induction r with
 |zero=>
  intros i aR s hi e_ hl ho hk NQ hg;refine qJ tR ?_;unfold Builtin.«proto.yield_from» gW;refine el (wpAny_pure ?_);refine el (wpAny_attempt (wpAny_holding ?_));rw [if_neg (by decide),if_pos (by rfl)];refine wpAny_bind (wpAny_rule (wpAny_bind (w0 (sh hh) e_ hl ?_ ?_)))
  ·simp;exact yt hi
  ·intros h' x hx aj;refine am aj fun o aZ=>?_;refine aI aZ fun OW hc bU=>?_;refine am bU fun SI dK=>?_;refine ak dK fun hd h5=>?_
   dsimp only;refine el (vS (s:={s with heap:=h'}) ⟨o,OW,hc⟩ ?_);rw [if_pos rfl];rw [if_neg (by decide)];refine el (wpAny_rule ?_);refine el (wpAny_field (s:={s with heap:=h'}) OW hd h5 ?_);refine seg_leaf (.ok (.ret .none)) ?_;exact cont aR _ (hk.trans (KB.extBut hx Uj)) NQ hg (O2 _ _ ho hx)
 |succ r ih=>
  intros i aR s hi e_ hl ho hk NQ hg;refine qJ tR ?_;unfold Builtin.«proto.yield_from» gW;refine el (wpAny_pure ?_);refine el (wpAny_attempt (wpAny_holding ?_));rw [if_neg (by decide),if_pos (by rfl)];have hx:items[i]?=some (items[i]'(qN hi)):=Array.getElem?_eq_getElem (qN hi);refine wpAny_bind (wpAny_rule (wpAny_bind (wZ e_ hl hx fun h' Tm MS=>?_)));dsimp only;refine wpAny_pure ?_;have Qy:=Tm;refine am Qy fun o aj=>?_;clear Qy;refine aI aj fun OW hc hd=>?_;refine el (wpAny_typeOf (v:= .ref J) (T:="list_iterator") (s:={s with heap:=h'}) ⟨o,OW,hc⟩ ?_);refine el (wpAny_of_eq Ib ?_)
  try refine el (wpAny_pure ?_)
  refine el (pZ (s:={s with heap:=h'}) OW hc ?_);have e1:gn+(r+1)=gn+r+1:=rfl;rw [e1];refine seg_yield Rv rfl Wy ?_;refine ⟨?_,hk.trans (KB.extBut MS.extBut Uj),NQ,hg,fun r_ PI=>?_⟩
  ·have:=Ng i _ hx
   have e2:items.size - 1 - i=r:=by exact yq hi
   rw [e2] at this;exact this
  ·have We:=PI J o S_ OW
   refine el (wpAny_pure ?_);refine el (pZ We hc ?_);refine seg_again (Code.quiet_builtin _ (by decide+kernel)) ?_;exact ih (i+1) r_ r_ (yp hi) ⟨o,We,hc,hd⟩ ((hl.at fun o e=>MS.extBut lst o WC e).at fun o e=>PI lst o VD e) (O1 _ _ (O2 _ _ ho MS.extBut) PI) KB.refl rfl rfl
end
section
variable {M:Model} {A:Around} {R:GenEnd} {Y:Protocol} {n:Nat} {aR:Shared} {c:Code} {fs:List Frame} {s:Shared} {env:Env} {gd:Bool->Bool} {lv:List Value->List Value}
variable {prog:Program} {w:World}
theorem xK {e:Expr} {Pe pos:Pos} {K:Flow->Sem Fin} {H:Value->Sem Fin}
  (h:wpAny (model prog w) (A.over c fs) (eval e env) (fun v s₁=>∃l items,v= .ref l/\s₁.heap.IsList l items/\∀k p,k (.ok (.ret .none))=K .next->
   Seg (model prog w) A R Y n aR (.builtin "proto.yield_from" (gW s₁.heap.objs.size)) ((model prog w).den (.builtin "proto.yield_from" (gW s₁.heap.objs.size))) (.ret k none (gd false) (lv []) c p []::fs)
    {s₁ with heap:=s₁.heap.push {cls:= .type "list_iterator",data:= .fields #[.ref l, .int 0 0]}}) bd s)
  (hi:interactive env=false:=by rfl):Seg (model prog w) A R Y n aR c ((exec (.Expr (.YieldFrom e Pe) pos) env).wrap K H gd lv) fs s:=by
 rw [exec_Expr _ _ pos hi rfl];show Seg (model prog w) A R Y n aR c ((do standAt pos;let v <-(do let v <-eval e env;standAt Pe;yieldFrom env v);dropValue (.YieldFrom e Pe) pos v:Sem Flow).wrap K H gd lv) fs s;refine dB (E:=bd) (fun _ _ x=>x.elim) (wpAny_standAt ?_)
 have e1:((do let v <-(do let v <-eval e env;standAt Pe;yieldFrom env v);dropValue (.YieldFrom e Pe) pos v:Sem Flow).wrap K H gd lv)=
  (do let v <-eval e env;standAt Pe;let v <-yieldFrom env v;dropValue (.YieldFrom e Pe) pos v:Sem Flow).wrap K H gd lv:=by
  rw [bind_assoc];rfl
 rw [e1];refine dB (E:=bd) (fun _ _ x=>x.elim) (wpAny_mono h (fun v s₁ aT=>?_) fun _ _ e=>e);obtain ⟨l,items,rfl,hl,uH⟩:=aT;refine dB (E:=bd) (fun _ _ x=>x.elim) (wpAny_standAt ?_);unfold yieldFrom;rw [bind_assoc];refine dB (E:=bd) (fun _ _ x=>x.elim) (wpAny_typeOf hl.typeIs ?_);rw [if_neg (by decide),bind_assoc];refine dB (E:=bd) (fun _ _ x=>x.elim) (wpAny_holding (wpAny_pyIter_list hl ?_));refine seg_call (fun p=>?_);exact uH _ p rfl
end
noncomputable abbrev bk:=List (Addr×Array Value)
noncomputable def cY (rows:bk):List Value:=(rows.map fun r=>r.2.toList.reverse).flatten
noncomputable def cr (rows:bk):List Value:=(rows.reverse.map fun r=>r.2.toList).flatten
theorem qK (rows:bk):(cr rows).reverse=cY rows:=by
 unfold cr cY
 induction rows with
 |nil=>rfl
 |cons r rs ih=>
  rw [List.reverse_cons,List.map_append,List.flatten_append,List.reverse_append,ih];simp
theorem no (a b:bk):cY (a++b)=cY a++cY b:=by simp [cY]
theorem xZ (a:bk) (r:Addr×Array Value) (b:bk) (i:Nat) (v:Value) (h:r.2[i]?=some v):(cY (a++r::b))[(cY a).length+(r.2.size - 1 - i)]?=some v:=by
 have hi:i<r.2.size:=(Array.getElem?_eq_some_iff.mp h).1;rw [no,List.getElem?_append_right (yo)]
 have e:(cY a).length+(r.2.size - 1 - i) - (cY a).length=r.2.size - 1 - i:=by exact yn
 rw [e];show (cY ([r]++b))[_]?=_;rw [no,List.getElem?_append_left (by simp [cY];exact qM hi)];simp only [cY,List.map_cons,List.map_nil,List.flatten_cons,List.flatten_nil,List.append_nil];rw [List.getElem?_reverse (by simp;exact qM hi)];simp only [Array.length_toList]
 have e2:r.2.size - 1 - (r.2.size - 1 - i)=i:=by exact ym hi
 rw [e2,Array.getElem?_toList];exact h
noncomputable abbrev io (t p1 p2 p3:Pos):List Stmt:=[.If (.Name "namespaces" t) [.Expr (.YieldFrom (.Name "namespaces" p1) p2) p2] [] p3]
structure OwnG (env:Env) (I st:Addr) (rows:bk) (m:Str->Option Value) (i:Int) (h:Heap):Prop where
 ns:h.Ns env.locals m
 it:h.IsRevIter I st i
 st:h.IsList st (rows.map fun r=>Value.ref r.1).toArray
 row:∀r∈rows,h.IsList r.1 r.2
structure ApartG (env:Env) (I st:Addr) (rows:bk) (B:Nat) (ex:List Addr):Prop where
 xL:env.locals∉ex
 xI:I∉ex
 xs:st∉ex
 xr:∀r∈rows,r.1∉ex
 IL:I≠env.locals
 Is:I≠st
 Ir:∀r∈rows,I≠r.1
 Ls:env.locals≠st
 Lr:∀r∈rows,env.locals≠r.1
 IB:B<=I
 lt:∀a∈ex,a<B
theorem OwnG.at {env:Env} {I st:Addr} {rows:bk} {m:Str->Option Value} {i:Int} {h h':Heap} (x:OwnG env I st rows m i h) (hk:∀b o,b=env.locals\/b=I\/b=st\/(∃r∈rows,b=r.1)->h.get? b=some o->h'.get? b=some o):OwnG env I st rows m i h':=
 ⟨x.ns.at' fun o=>hk _ o (.inl rfl),x.it.at fun o=>hk _ o (.inr (.inl rfl)),x.st.at fun o=>hk _ o (.inr (.inr (.inl rfl))),fun r hr=>(x.row r hr).at fun o=>hk _ o (.inr (.inr (.inr ⟨r,hr,rfl⟩)))⟩
theorem OwnG.lt {env:Env} {I st:Addr} {rows:bk} {m:Str->Option Value} {i:Int} {h:Heap} (x:OwnG env I st rows m i h) {b:Addr} (hb:b=env.locals\/b=I\/b=st\/(∃r∈rows,b=r.1)):b<h.objs.size:=by
 rcases hb with rfl|rfl|rfl|⟨r,hr,rfl⟩
 ·exact x.ns.lt
 ·refine am x.it fun o aj=>?_;refine ak aj fun ho _=>?_;exact Heap.lt_size ho
 ·refine am x.st fun o aj=>?_;refine ak aj fun ho _=>?_;exact Heap.lt_size ho
 ·refine am (x.row r hr) fun o aj=>?_;refine ak aj fun ho _=>?_;exact Heap.lt_size ho
theorem OwnG.kept {env:Env} {I st:Addr} {rows:bk} {m:Str->Option Value} {i:Int} {B:Nat} {ex:List Addr} {h h':Heap} (x:OwnG env I st rows m i h) (a:ApartG env I st rows B ex) (k:Kept ex h h'):OwnG env I st rows m i h':=
 x.at fun b o hb e=>k b o (by
  rcases hb with rfl|rfl|rfl|⟨r,hr,rfl⟩
  ·exact a.xL
  ·exact a.xI
  ·exact a.xs
  ·exact a.xr r hr) e
section
variable {prog:Program} {w:World} {A:Around} {env:Env}
theorem GI {A:Around} {E:Value->Shared->Prop} {s:Shared} {x:Str} {t:Pos} {m:Str->Option Value} {l:Addr} {items:Array Value} {Q:Bool->Shared->Prop} (hk:env.scope.kind= .function) (hx:env.kindOf x=some .local) (hn:s.heap.Ns env.locals m) (hm:m x=some (.ref l)) (hl:s.heap.IsList l items) (hz:(items.size:Int)<2 ^ 63)
  (h:Q (!items.isEmpty) {s with toks:=s.toks+1+1}) (hd:(x == ("__debug__":Str))=false:=by decide):wpAny (model prog w) A (isTrue (.Name x t) env (eval (.Name x t) env)) Q E s:=
 wpAny_isTrue_value (wpAny_Name (wpAny_loadName_local hk hx hn hm (wpAny_truthy_list hl hz h)) hd)
theorem xz {rows:bk} {B:Nat} {ex:List Addr} {I st:Addr} {t t0 p1 p2 p3:Pos} {k h l eK ff kp} (Wg:h=none)
  (hk:env.scope.kind= .function) (hx:env.kindOf "namespaces"=some .local) (hp:(env.scope.kind == .class || (env.scope.kind == .module && env.locals != env.globals))=false) (hi:interactive env=false)
  (ap:ApartG env I st rows B ex) (hsz:∀r∈rows,(r.2.size:Int)<2 ^ 63) (hh:A.handled=none) (QZ:k (.ok .next)=leafOf (.ok (.ret .none))):
  ∀j a b aR (s:Shared) m,rows=a++b->a.length=j->OwnG env I st rows m ((a.length:Int) - 1) s.heap->KB B env.locals aR.heap s.heap->s.os=aR.os->s.gens=aR.gens->
   Seg (model prog w) A (fun n aR r s₁=>r= .ok (.ret .none)/\n=0/\KB B env.locals aR.heap s₁.heap/\s₁.os=aR.os/\s₁.gens=aR.gens) (YG (cr rows) B env.locals ex) (cY a).length aR
    (.forLoop (.Name "namespaces" t0) (.ref I) (io t p1 p2 p3) [] env) ((model prog w).den (.forLoop (.Name "namespaces" t0) (.ref I) (io t p1 p2 p3) [] env)) [.ret k h false l eK ff kp] s:=by
 revert Wg hk hx hp hi ap hsz hh QZ;revert prog w A env rows B ex I st t t0 p1 p2 p3 k h l eK ff kp;refine' no_implicit_lambda% (gB ?zR (a:=((default,bw,callerA,default,[],0,[],0),(0,default,default,default,default,default,fun _=>default,none),([],default,default,[]))) rfl (no_implicit_lambda% ((?zg:gl ?zR) _ _ _ _ _ _ _ _ _ _ _ _ _ _ _ _ _ _ _ _)));intros prog w A env rows B ex I st t t0 p1 p2 p3 k h l eK ff kp;intros Wg hk hx hp hi ap hsz hh QZ;subst Wg;intro j
 induction j with
 |zero=>
  intros a b aR s m Ll ha o hK NQ N_;obtain rfl:a=[]:=List.length_eq_zero_iff.mp ha;refine qI ?_;refine wpAny_pyNext_rev_end (sh hh) o.it fun h' hx'=>?_;dsimp only;refine xA ?_;refine seg_leaf (.ok .next) ?_;rw [QZ];refine seg_end (.ok (.ret .none)) ⟨rfl,rfl,hK.trans (KB.extBut hx' ap.IB),NQ,N_⟩
 |succ j ih=>
  intros a b aR s m Ll ha o hK NQ N_;obtain ⟨a',r,rfl⟩:∃a' r,a=a'++[r]:=⟨a.dropLast,a.getLast (by intro e;rw [e] at ha;cases ha),(List.dropLast_concat_getLast _).symm⟩
  have Po:a'.length=j:=by simpa using ha
  have hr:r∈rows:=by rw [Ll];simp
  have e1:(((a'++[r]).length:Nat):Int) - 1=((a'.length:Nat):Int):=by simp
  have e_:=o.it;rw [e1] at e_;refine qI ?_;refine wpAny_pyNext_rev_item e_ o.st (x:= .ref r.1) (by rw [Ll];simp) fun h' Tm MS=>?_;dsimp only;have o1:OwnG env I st rows m ((a'.length:Int) - 1) h':=⟨o.ns.sameBut MS (Ne.symm ap.IL),Tm,o.st.at fun o e=>MS.extBut _ o (Ne.symm ap.Is) e,fun r hr=>(o.row r hr).at fun o e=>MS.extBut _ o (Ne.symm (ap.Ir r hr)) e⟩;refine wpAny_assign_Name (wpAny_storeName_local hx o1.ns (fun h2 ZM hs2=>?_) hp)
  have o2:OwnG env I st rows (fun x=>if x="namespaces" then some (.ref r.1) else m x) ((a'.length:Int) - 1) h2:=
   ⟨ZM,o1.it.at fun o e=>hs2.extBut _ o ap.IL e,o1.st.at fun o e=>hs2.extBut _ o (Ne.symm ap.Ls) e,fun r hr=>(o1.row r hr).at fun o e=>hs2.extBut _ o (Ne.symm (ap.Lr r hr)) e⟩
  have K2:KB B env.locals aR.heap h2:=hK.trans fun b' o' hb hL e=>hs2.extBut _ _ hL (MS.extBut _ _ (Nat.ne_of_lt (Nat.lt_of_lt_of_le hb ap.IB)) e);have B2:B<=h2.objs.size:=Nat.le_trans ap.IB (Nat.le_of_lt (o2.lt (.inr (.inl rfl))));refine seg_execs_cons (xD ?_)
  refine GI (m:=fun x=>if x="namespaces" then some (.ref r.1) else m x) hk hx o2.ns (by simp) (o2.row r hr) (hsz r hr) ?_
  have len:(cY (a'++[r])).length=(cY a').length+r.2.size:=by rw [no];simp [cY]
  rw [len]
  have Tf:rows=a'++(r::b):=by rw [Ll];simp
  cases he:r.2.isEmpty with
  |true=>
   have e0:r.2.size=0:=by simpa [Array.isEmpty] using he
   rw [e0];refine seg_execs_nil (env:=env) ?_;dsimp only;refine seg_execs_nil (env:=env) ?_;dsimp only;exact seg_again rfl (ih a' (r::b) aR _ _ Tf Po o2 K2 NQ N_)
  |false=>
   refine seg_execs_cons (xK ?_ hi);refine wpAny_Name (wpAny_loadName_local hk hx o2.ns (v:= .ref r.1) (by simp) ?_);refine ⟨r.1,r.2,rfl,o2.row r hr,fun k' p' hk'=>?_⟩;dsimp only;have JL:∀{b:Addr},(b=env.locals\/b=I\/b=st\/(∃r∈rows,b=r.1))->b≠h2.objs.size:=fun hb=>Nat.ne_of_lt (o2.lt hb)
   refine xy (Own:=OwnG env I st rows (fun x=>if x="namespaces" then some (.ref r.1) else m x) ((a'.length:Int) - 1)) B2 (fun q=>absurd (ap.lt _ q) (Nat.not_lt.mpr B2)) (ap.xr r hr) (JL (.inr (.inr (.inr ⟨r,hr,rfl⟩))))
    (fun h h' o k=>o.kept ap k) (fun h h' o x=>o.at fun b o' hb e=>x b o' (JL hb) e) rfl rfl (by exact hh) ?_ ?_ r.2.size 0 aR _ (Nat.zero_add _).symm ⟨_,Heap.get?_push_size _ rfl,rfl,rfl⟩ ((o2.row r hr).at fun o e=>Heap.get?_push_of_some _ e) (o2.at fun b o _ e=>Heap.get?_push_of_some _ e) (K2.trans fun b o _ _ e=>Heap.get?_push_of_some _ e) NQ N_
   ·intros i v hv
    rw [qK,Tf];exact xZ a' r b i v hv
   ·intros s₁ aG K3 Zm Zs o3
    rw [hk'];dsimp only;refine seg_execs_nil (env:=env) ?_;dsimp only;refine seg_execs_nil (env:=env) ?_;dsimp only;refine seg_again rfl (ih a' (r::b) s₁ aG _ Tf Po o3 K3 Zm Zs)
end
noncomputable abbrev RG (B Lg:Nat):GenEnd:=fun n aR r s₁=>r= .ok (.ret .none)/\n=0/\KB B Lg aR.heap s₁.heap/\s₁.os=aR.os/\s₁.gens=aR.gens
section
variable {prog:Program} {w:World} {A:Around} {env:Env}
theorem Hj {rows:bk} {B:Nat} {ex:List Addr} {st:Addr} {t t0 p1 p2 p3 p4 p5 p6 p7:Pos} {m:Str->Option Value} {s:Shared}
  (hk:env.scope.kind= .function) (hx:env.kindOf "namespaces"=some .local) (hx1:env.kindOf "_reversed"=some .local) (hx2:env.kindOf "ns_stack"=some .local) (hp:(env.scope.kind == .class || (env.scope.kind == .module && env.locals != env.globals))=false) (hi:interactive env=false)
  (hm1:m "_reversed"=some (.type "reversed")) (hm2:m "ns_stack"=some (.ref st)) (hn:s.heap.Ns env.locals m) (hst:s.heap.IsList st (rows.map fun r=>Value.ref r.1).toArray) (hrow:∀r∈rows,s.heap.IsList r.1 r.2)
  (xL:env.locals∉ex) (xs:st∉ex) (xr:∀r∈rows,r.1∉ex) (Ls:env.locals≠st) (Lr:∀r∈rows,env.locals≠r.1) (hB:B<=s.heap.objs.size) (lt:∀a∈ex,a<B)
  (hsz:∀r∈rows,(r.2.size:Int)<2 ^ 63) (hh:A.handled=none):
  Seg (model prog w) A (RG B env.locals) (YG (cr rows) B env.locals ex) (cY rows).length s
   (.func [.For (.Name "namespaces" t0) (.Call (.Name "_reversed" p4) [.Name "ns_stack" p5] [] p6) (io t p1 p2 p3) [] p7] env)
   ((model prog w).den (.func [.For (.Name "namespaces" t0) (.Call (.Name "_reversed" p4) [.Name "ns_stack" p5] [] p6) (io t p1 p2 p3) [] p7] env)) [] s:=by
 refine seg_func (seg_execs_cons (xH ?_));refine wpAny_Call_NameR (wpAny_Name (wpAny_loadName_local hk hx1 hn hm1 ?_));show wpAny _ _ (callWith p6 (.type "reversed") [] [(false,eval (.Name "ns_stack" p5) env)] []) _ _ s;refine PyProof.Rows.callWith_type rfl (Calls.evalArgs_plain (Calls.spliced_cons ?_));refine wpAny_Name (wpAny_loadName_local hk hx2 hn hm2 (Calls.spliced_nil ?_));refine call_reversed_list hst ?_;dsimp only
 have e_:(s.heap.push (revObj st (((rows.map fun r=>Value.ref r.1).toArray.size:Int) - 1))).IsRevIter s.heap.objs.size st ((rows.length:Int) - 1):=by
  have e:(((rows.map fun r=>Value.ref r.1).toArray.size:Nat):Int) - 1=(rows.length:Int) - 1:=by simp
  rw [e];exact ⟨_,Heap.get?_push_size _ rfl,rfl,rfl⟩
 refine wpAny_pyIter_revIter e_ fun p=>?_;have bW:∀{b:Addr} {o:Obj},s.heap.get? b=some o->b≠s.heap.objs.size:=fun e=>Nat.ne_of_lt (Heap.lt_size e)
 refine xz rfl hk hx hp hi ⟨xL,fun q=>absurd (lt _ q) (Nat.not_lt.mpr hB),xs,xr,?_,?_,?_,Ls,Lr,hB,lt⟩ hsz hh rfl rows.length rows [] s _ m (List.append_nil _).symm rfl
  ⟨hn.at' fun o e=>Heap.get?_push_of_some _ e,e_,hst.at fun o e=>Heap.get?_push_of_some _ e,fun r hr=>(hrow r hr).at fun o e=>Heap.get?_push_of_some _ e⟩ (fun b o _ _ e=>Heap.get?_push_of_some _ e) rfl rfl
 ·exact Ne.symm (Nat.ne_of_lt hn.lt)
 ·refine am hst fun o aj=>?_;clear hst;refine ak aj fun e _=>?_;exact Ne.symm (bW e)
 ·intro r hr;refine am (hrow r hr) fun o aj=>?_;refine ak aj fun e _=>?_;exact Ne.symm (bW e)
end
section
variable {prog:Program} {w:World} {A:Around} {E:Value->Shared->Prop} {s:Shared}
theorem EP {a:Addr} {g n:Nat} {gs:GenState} {P:Nat->Shared->Shared->Prop} {Y:Protocol} {Q:Option Value->Shared->Prop} (hh:A.handled=none)
  (hl:s.heap.NoLimit) (h_:A.depth<recursionLimit)
  (hg:s.heap.IsGen a g) (N_:s.gens[g]?=some gs)
  (M6:gs.Goes (model prog w) A.in1 (fun n aR r s₁=>r= .ok (.ret .none)/\P n aR s₁) Y n (.send .none) (s.setGen g .running))
  (hY:∀v s₁ O0,O0.bare=true->Y (n - 1) (s.setGen g .running) v s₁ (fun r' r_=>match n with
    |0=>False
    |m+1=>O0.Goes (model prog w) A.in1 (fun n aR r s₁=>r= .ok (.ret .none)/\P n aR s₁) Y m r' r_)->Q (some v) (s₁.setGen g O0))
  (hP:∀s₁,P n (s.setGen g .running) s₁->∀h',(∀b o,s₁.heap.get? b=some o->h'.get? b=some o)->Q none {s₁.setGen g .finished with heap:=h'}):
  wpAny (model prog w) A (pyNext (.ref a)) Q E s:=by
 unfold pyNext
 refine wpAny_bind (wpAny_attempt (wpAny_callSpecial?_slot (name:=ofString "__next__") hg.typeIs slot_gen_next
  (wpAny_call_entry slot_gen_next hg.typeIs entry_gen_next ?_ (args_gen_next _))))
 show wpAny _ A.in1 (Builtin.Generator.genWake (.ref a) (.send .none)) _ _ s;unfold Builtin.Generator.genWake;refine wpAny_bind (wpAny_holding (wpAny_genNumber hg (wpAny_bind (wpAny_genState N_ ?_))))
 cases gs with
 |running=>exact M6.elim
 |finished=>exact M6.elim
 |_=>
  refine wpAny_bind (wpAny_roomToWake hl h_ ?_);show wpAny _ A.in1 (.resume g (.send .none) [] _) _ _ s;refine wpAny_resumeQ N_ M6 (fun x s₁ hx=>?_) (fun v s₁ O0 hb hv=>?_)
  ·refine ak hx fun aj hp=>?_;clear hx;subst aj
   show wpAny _ A.in1 (newExc (.type "StopIteration") [] >>= _) _ _ _;refine wpAny_bind ?_;simp only [newExc,newTuple];refine wpAny_bind (wpAny_newObj_type ?_ (by size_fits));refine wpAny_bind (m:=firstArgMember _ _) (wpAny_of_eq (a:=Value.none) (by first|rfl|(simp only [firstArgMember];rfl)) ?_);refine wpAny_newObj_type ?_ (by size_fits);simp only [raiseNew];refine wpAny_bind (wpAny_bind (wpAny_handled ?_))
   first|rw [show A.in1.handled=none from hh]|rw [hh]
   refine wpAny_throw ?_;refine wpAny_bind (wpAny_isInstance (T:="StopIteration") (b:=true) ⟨_,Heap.get?_push_size _ rfl,rfl⟩ isSubtype_stop ?_);exact wpAny_pure (hP s₁ hp _ fun b o hb=>Heap.get?_push_of_some _ (Heap.get?_push_of_some _ hb))
  ·exact wpAny_pure ⟨v,rfl,wpAny_pure (hY v s₁ O0 hb hv)⟩
end
structure GenAt (prog:Program) (w:World) (A:Around) (rows:bk) (cV:Nat) (ex:List Addr) (n:Nat) (ga:Addr) (s:Shared):Prop where
 Yw:∃B Lg g gs,s.heap.IsGen ga g/\ga<B/\ga≠Lg/\cV<=ga/\(∀b,b<cV->b<B/\b≠Lg)/\(∀a∈ex,a<cV)/\s.gens[g]?=some gs/\
  gs.Goes (model prog w) A.in1 (RG B Lg) (YG (cr rows) B Lg ex) n (.send .none) (s.setGen g .running)
theorem lU {gens:Array GenState} {g:Nat} {y:GenState} (h:AllBare gens) (hb:y.bare=true):AllBare (gens.setIfInBounds g y):=by
 intro x hx;refine fh (Array.mem_iff_getElem.mp hx) fun i hi aj=>?_;subst aj;rw [Array.getElem_setIfInBounds (by simpa using hi)]
 split
 ·exact hb
 ·exact h _ (Array.getElem_mem _)
section
variable {prog:Program} {w:World} {A:Around} {E:Value->Shared->Prop} {s:Shared} {rows:bk} {cV:Nat} {ex:List Addr} {n:Nat} {ga:Addr}
theorem Fi {Q:Option Value->Shared->Prop} (hh:A.handled=none) (hl:s.heap.NoLimit) (h_:A.depth<recursionLimit) (G:GenAt prog w A rows cV ex n ga s)
  (item:∀k v s',n=k+1->(cr rows).reverse[k]?=some v->(∀b o,b<cV->s.heap.get? b=some o->s'.heap.get? b=some o)->aM s s'->
   (∀r_,Kept ex s'.heap r_.heap->r_.gens=s'.gens->GenAt prog w A rows cV ex k ga r_)->(∃o,s'.heap.get? ga=some o/\o.cls= .type "generator")->Q (some v) s')
  (last:∀s',n=0->(∀b o,b<cV->s.heap.get? b=some o->s'.heap.get? b=some o)->aM s s'->Q none s'):
  wpAny (model prog w) A (pyNext (.ref ga)) Q E s:=by
 revert hh hl h_ G item last;revert prog w A E s rows cV ex n ga Q;refine' no_implicit_lambda% ((?zpad:∀(_ _ _ _ _ _:Nat),_) 0 0 0 0 0 0);refine' no_implicit_lambda% (eO ?zR (a:=((0,0,0,0,0,0,default,bw),(callerA,fun _ _=>True,{},[],0,[],0,0),fun _ _=>True)) rfl (no_implicit_lambda% ((?zg:eE ?zR) 0 0 0 0 0 0 _ _ _ _ _ _ _ _ _ _ _)));intros _ _ _ _ _ _ prog w A E s rows cV ex n ga Q;intros hh hl h_ G item last;obtain ⟨B,Lg,g,gs,hg,h1,h2,h3,h4,h5,N_,M6⟩:=G;have hgl:g<s.gens.size:=(Array.getElem?_eq_some_iff.mp N_).1;refine EP (P:=fun n aR s₁=>n=0/\KB B Lg aR.heap s₁.heap/\s₁.os=aR.os/\s₁.gens=aR.gens) hh hl h_ hg N_ M6 ?_ ?_
 ·intros v s₁ O0 hb aj;refine bv aj fun hv hK NQ M3 hk=>?_
  cases n with
  |zero=>exact (hk s₁ Kept.refl).elim
  |succ k=>
   have UK:s₁.heap.IsGen ga g:=by
    refine aW hg fun o nm qn aj=>?_;clear hg;refine ak aj fun ho r=>?_;exact ⟨o,nm,qn,hK ga o h1 h2 ho,r⟩
   refine item k v _ rfl hv (fun b o LQ e=>hK b o (h4 b LQ).1 (h4 b LQ).2 e) ⟨NQ,fun hB=>?_⟩ (fun r_ PI Zj=>?_) ?_
   ·show AllBare (s₁.gens.setIfInBounds g O0)
    rw [M3];exact lU (lU hB rfl) hb
   ·have Y7:r_.heap.IsGen ga g:=by
     refine aW UK fun o nm qn aj=>?_;clear UK;refine ak aj fun ho r=>?_;exact ⟨o,nm,qn,PI ga o (fun q=>absurd (h5 _ q) (Nat.not_lt.mpr h3)) ho,r⟩
    refine ⟨B,Lg,g,O0,Y7,h1,h2,h3,h4,h5,?_,hk (r_.setGen g .running) PI⟩;rw [Zj];show (s₁.gens.setIfInBounds g O0)[g]?=some O0;rw [M3,Array.getElem?_setIfInBounds_self_of_lt];show g<(s.gens.setIfInBounds g .running).size
    simpa using hgl
   ·refine aW UK fun o nm qn aj=>?_;clear UK;refine aI aj fun ho hc r=>?_
    exact ⟨o,ho,hc⟩
 ·intro s₁ aj;refine bO aj fun hn hK NQ M3=>?_;intro h' hx
  refine last _ hn (fun b o LQ e=>hx b o (hK b o (h4 b LQ).1 (h4 b LQ).2 e)) ⟨NQ,fun hB=>?_⟩;show AllBare (s₁.gens.setIfInBounds g .finished);rw [M3];exact lU (lU hB rfl) rfl
end
noncomputable def ij (h h₀:Heap) (ex:List Addr):ax:=(List.range h.objs.size).filterMap fun b=>if b∈ex then none else match h₀.get? b,h.get? b with|none,some o=>some (b,o)|_,_=>none
theorem mem_others {h h₀:Heap} {ex:List Addr} {p:Addr×Obj}:p∈ij h h₀ ex↔h.get? p.1=some p.2/\h₀.get? p.1=none/\p.1∉ex:=by
 obtain ⟨b,o⟩:=p;unfold ij;rw [List.mem_filterMap];constructor
 ·intro aj;refine am aj fun b' aZ=>?_;clear aj;refine ak aZ fun _ e=>?_;clear aZ
  split at e
  ·cases e
  ·rename_i hx
   split at e
   ·rename_i h1 h2
    refine ak (Prod.mk.inj (Option.some.inj e)) fun aj aZ=>?_;subst aj;subst aZ;exact ⟨h2,h1,hx⟩
   ·cases e
 ·intro aj;refine aI aj fun h1 h2 h3=>?_;clear aj
  refine ⟨b,List.mem_range.mpr (Heap.lt_size h1),?_⟩;dsimp only at h1 h2 h3 ⊢;rw [if_neg h3,h1,h2]
noncomputable def fS (h₀:Heap) (L:Addr) (rest KH:ax) (J:(Str->Option Value)->ax->Prop) (s:Shared) (Q:Flow->Shared->Prop) (f:Flow) (aG:Shared):Prop:=
 match f with
 | .ret v=>Q (.ret v) aG
 | .brk=>Q .next aG
 |_=>∃m' news',Fr h₀ L aG.heap m'/\News h₀ L aG.heap (news'++(rest++KH))/\J m' news'/\aG.os=s.os/\aG.gens=s.gens
section
variable {prog:Program} {w:World} {A:Around} {env:Env} {E:Value->Shared->Prop} {s:Shared} {h₀:Heap} {m:Str->Option Value} {news rest:ax} {bi:Expr} {body cH:List Stmt} {Q:Flow->Shared->Prop}
theorem vR {E:Value->Shared->Prop} {s:Shared} {ga:Addr} {v:Value} {Q:Unit->Shared->Prop} (h:∃o,s.heap.get? ga=some o/\o.cls= .type "generator") (hq:Q () s):wpAny (model prog w) A (letOwnedTupleGo bi (.ref ga) v) Q E s:=by
 refine am h fun o aj=>?_;clear h;refine ak aj fun ho hc=>?_;clear aj;have hz:∀b:Bool,(["enumerate","zip","dict_itemiterator","dict_reverseitemiterator","odict_iterator","itertools.zip_longest","itertools.pairwise"].contains "generator" && b)=false:=fun b=>rfl
 cases bi<;>first
  |exact wpAny_pure hq
  |(cases v<;>first
   |exact wpAny_pure hq
   |(refine wpAny_bind (wpAny_load ho ?_);rw [hc];cases o.data<;>first|exact wpAny_pure hq|(refine wpAny_ite_false (by rw [hz];rfl) ?_;exact wpAny_pure hq)))
theorem Ga {rows:bk} {cV n:Nat} {ga:Addr} {as:List Addr} (Inv:Nat->(Str->Option Value)->ax->Prop) (hh:A.handled=none) (h_:A.depth<recursionLimit) (hl:h₀.NoLimit)
  (G:GenAt prog w A rows cV (env.locals::as) n ga s) (ba:n=(cr rows).length)
  (F:Fr h₀ env.locals s.heap m) (N:News h₀ env.locals s.heap (news++rest)) (PC:h₀.objs.size<=cV) (Rr:∀p∈rest,p.1<cV)
  (SB:∀i aC ao,Inv i aC ao->∀p∈ao,p.1∈as) (h0:Inv 0 m news)
  (turn:∀i v aC ao KH (s₁:Shared),(cr rows)[i]?=some v->Inv i aC ao->Fr h₀ env.locals s₁.heap aC->News h₀ env.locals s₁.heap (ao++(rest++KH))->(∀p∈KH,p.1∉as++rest.map (·.1))->aM s s₁->
   wpAny (model prog w) A (assign bi env v) (fun _ aG=>wpAny (model prog w) A (execs body env) (fS h₀ env.locals rest KH (Inv (i+1)) s₁ Q) bd aG) bd s₁)
  (done:∀aC ao (s₁:Shared),Inv n aC ao->Fr h₀ env.locals s₁.heap aC->News h₀ env.locals s₁.heap (ao++rest)->aM s s₁->wpAny (model prog w) A (execs cH env) Q bd s₁):
  wpAny (model prog w) A (pyIter (.ref ga)) (eg prog w A env bi body cH Q E) E s:=by
 revert hh h_ hl G ba F N PC Rr SB h0 turn done;revert prog w A env E s h₀ m news rest bi body cH Q rows cV n ga as Inv;refine' no_implicit_lambda% (gB ?zR (a:=((default,bw,callerA,default,fun _ _=>True,{},{},fun _=>none),([],[],default,[],[],fun _ _=>True,[],0),(0,0,[],fun _ _ _=>True))) rfl (no_implicit_lambda% ((?zg:gl ?zR) _ _ _ _ _ _ _ _ _ _ _ _ _ _ _ _ _ _ _ _)));intros prog w A env E s h₀ m news rest bi body cH Q rows cV n ga as Inv;intros hh h_ hl G ba F N PC Rr SB h0 turn done
 have Ot:∃g,s.heap.IsGen ga g:=by obtain ⟨B,Lg,g,gs,hg,_⟩:=G;exact ⟨g,hg⟩
 have Vd:∀a∈env.locals::as,a<cV:=by obtain ⟨B,Lg,g,gs,_,_,_,_,_,h5,_⟩:=G;exact h5
 refine am Ot fun g hg=>?_;clear Ot;refine wpAny_pyIter_gen hg ?_;unfold eg
 refine codeAny_forLoop_any (fun k s₁=>k<=n/\GenAt prog w A rows cV (env.locals::as) k ga s₁/\∃aC ao,Inv (n - k) aC ao/\Fr h₀ env.locals s₁.heap aC/\News h₀ env.locals s₁.heap (ao++rest)/\aM s s₁) ?_ n
  ⟨Nat.le_refl _,G,m,news,by rw [Nat.sub_self];exact h0,F,N,SameF.refl⟩
 intros k s₁ aj;refine aI aj fun Sq uT aZ=>?_;clear aj;refine bl aZ fun aC ao bU=>?_;clear aZ;refine bO bU fun hJ aU aN hS=>?_;clear bU
 have old:∀(s':Shared),(∀b o,b<cV->s₁.heap.get? b=some o->s'.heap.get? b=some o)->Fr h₀ env.locals s'.heap aC/\News h₀ env.locals s'.heap (ao++rest):=fun s' hk=>by
  refine ⟨⟨aU.ns.at' fun o e=>hk _ o (Vd _ (.head _)) e,fun b o e=>hk b o (Nat.lt_of_lt_of_le (Heap.lt_size e) PC) (aU.keep b o e),aU.above⟩,fun p hp=>⟨hk _ _ ?_ (aN p hp).1,(aN p hp).2⟩⟩;refine Or.elim (aE hp) (fun hp=>?_) fun hp=>?_
  ·exact Vd _ (.tail _ (SB _ _ _ hJ p hp))
  ·exact Rr p hp
 refine Fi hh (hl.keeps aU.keep) h_ uT ?_ ?_
 ·intros j v s' aj;subst aj;intros hv hk My hG ho
  refine ak (old s' hk) fun bV ce=>?_
  have hi:(cr rows)[n - (j+1)]?=some v:=by
   rw [List.getElem?_reverse (yl Sq ba)] at hv
   have e:(cr rows).length - 1 - j=n - (j+1):=by exact yk ba
   rw [e] at hv;exact hv
  dsimp only;refine vR ho ?_
  have cw:News h₀ env.locals s'.heap (ao++(rest++ij s'.heap h₀ (env.locals::(as++rest.map (·.1))))):=fun p hp=>by
   rw [<-List.append_assoc] at hp;refine Or.elim (aE hp) (fun hp=>?_) fun hp=>?_
   ·exact ce p hp
   ·have q:=mem_others.mp hp
    exact ⟨q.1,fun e=>q.2.2 (e▸ .head _),q.2.1⟩
  refine wpAny_mono (turn _ v aC ao (ij s'.heap h₀ (env.locals::(as++rest.map (·.1)))) s' hi hJ bV cw (fun p hp q=>(mem_others.mp hp).2.2 (.tail _ q)) (hS.trans My)) (fun _ aG bP=>wpAny_mono bP (fun f bh bu=>?_) fun _ _ h=>h.elim) fun _ _ h=>h.elim
  have fin:(∃m' news',Fr h₀ env.locals bh.heap m'/\News h₀ env.locals bh.heap (news'++(rest++ij s'.heap h₀ (env.locals::(as++rest.map (·.1)))))/\Inv (n - (j+1)+1) m' news'/\bh.os=s'.os/\bh.gens=s'.gens)->
    ∃m,m<j+1/\(m<=n/\GenAt prog w A rows cV (env.locals::as) m ga bh/\∃aC ao,Inv (n - m) aC ao/\Fr h₀ env.locals bh.heap aC/\News h₀ env.locals bh.heap (ao++rest)/\aM s bh):=by
   intro aj;refine bl aj fun m' news' aZ=>?_;clear aj;refine bv aZ fun F' N' Lv OW X8=>?_;clear aZ
   have e1:n - (j+1)+1=n - j:=by exact oj Sq
   rw [e1] at Lv;refine ⟨j,Nat.lt_succ_self _,by exact oi e1,hG bh (fun b o hb e=>?_) X8,m',news',Lv,F',(fun p hp=>N' p ?_),(hS.trans My).trans ⟨OW,fun h=>X8▸h⟩⟩
   ·cases q:h₀.get? b with
    |some o'=>
     have:=bV.keep b o' q;rw [e] at this;rw [Option.some.inj this];exact F'.keep b o' q
    |none=>
     by_cases UD:b∈rest.map (·.1)
     ·refine am (aP UD) fun p aj=>?_;refine ak aj fun hp aZ=>?_;clear aj;subst aZ
      have e2:=(ce p (ay _ hp)).1;rw [e] at e2;rw [Option.some.inj e2];exact (N' p (ay _ (aL _ hp))).1
     ·have hm:(b,o)∈ij s'.heap h₀ (env.locals::(as++rest.map (·.1))):=mem_others.mpr ⟨e,q,fun h=>by
       refine Or.elim (aB h) (fun h=>?_) fun h=>?_
       ·exact hb (h▸ .head _)
       ·refine Or.elim (aE h) (fun h=>?_) fun h=>?_
        ·exact hb (.tail _ h)
        ·exact UD h⟩
      exact (N' (b,o) (ay _ (ay _ hm))).1
   ·rw [<-List.append_assoc]
    exact aL _ hp
  cases f with
  |next=>exact fin bu
  |cont=>exact fin bu
  |brk=>exact bu
  |ret v=>exact bu
 ·intro s' aj;subst aj;intro hk My
  refine ak (old s' hk) fun bV ce=>?_;rw [Nat.sub_zero] at hJ;exact wpAny_mono (done aC ao s' hJ bV ce (hS.trans My)) (fun f bh h=>h) fun _ _ h=>h.elim
end
section
variable {prog:Program} {w:World} {A:Around} {s:Shared} {h₀:Heap} {L:Addr} {m mg mb:Str->Option Value} {K:Frag} {p:Program} {a_:List Str} {bz:ExcName->Option Value}
 {R:Result->Shared->Prop} {name qual:Str} {params:Arguments} {body:List Stmt} {scope:Scope} {dV kV gF pm cA ct oc:Value} {an od:Option Addr} {l_:Array (Option Value)} {f:Addr} {args:Args} {binds:List (Str×Value)}
theorem E2 (F:Fr h₀ L s.heap m) (cZ:K.In h₀) (T:Top p a_ bz mg mb h₀)
  (ho:K.lookup f=some ⟨oc,od, .func (fnOf name qual params body scope dV kV gF pm an cA ct),l_⟩) (Pa:codeIn K cA qual=true) (h_:A.depth<recursionLimit)
  (Pj:BindsTo s (fnOf name qual params body scope dV kV gF pm an cA ct) args binds) (TF:∀y∈binds,scope.names.lookup y.1=some .local)
  (h:∀aT t1 t2,aT.Ns s.heap.objs.size (fun x=>binds.reverse.lookup x)->Heap.SameBut s.heap.objs.size (s.heap.push {cls:= .type "frame",data:= .dict #[]}) aT->
   R (.ok (.ret (.ref aT.objs.size))) {s with gens:=s.gens.push (.fresh (.func body (envOf qual scope s.heap.objs.size f cA))),toks:=s.toks+binds.length+1+1,heap:=aT.push {cls:= .type "generator",data:= .fields #[.int s.gens.size 0, .str name t1, .str qual t2]}})
  (SC:scope.isCoroutine=false) (Ot:scope.isGenerator=true) (hk:scope.kind= .function)
  (hcell:∀x∈scope.names,x.2≠ .cell):codeAny (model prog w) A (.call (.ref f) args) R s:=by
 have Tu:s.heap.NoLimit:=T.nolimit.keeps F.keep;refine codeAny_call_generator h_ (F.keep _ _ (cZ _ _ ho)) rfl SC Ot rfl (codeRec_of (cZ.keeps F.keep) Pa) (Pj _ _ _ _ ?_);refine wpAny_newFunctionEnv hcell TF (fun aT Py Mx=>⟨Tu.fresh _ Mx,?_⟩) hk;exact h aT _ _ Py Mx
end
theorem Hi {prog:Program} {w:World} {A:Around} {env:Env} {rows:bk} {B Lg:Nat} {ex:List Addr} {st:Addr} {t t0 p1 p2 p3 p4 p5 p6 p7:Pos} {m:Str->Option Value} {s:Shared} (hL:env.locals=Lg)
  (hk:env.scope.kind= .function) (hx:env.kindOf "namespaces"=some .local) (hx1:env.kindOf "_reversed"=some .local) (hx2:env.kindOf "ns_stack"=some .local) (hp:(env.scope.kind == .class || (env.scope.kind == .module && env.locals != env.globals))=false) (hi:interactive env=false)
  (hm1:m "_reversed"=some (.type "reversed")) (hm2:m "ns_stack"=some (.ref st)) (hn:s.heap.Ns Lg m) (hst:s.heap.IsList st (rows.map fun r=>Value.ref r.1).toArray) (hrow:∀r∈rows,s.heap.IsList r.1 r.2)
  (xL:Lg∉ex) (xs:st∉ex) (xr:∀r∈rows,r.1∉ex) (Ls:Lg≠st) (Lr:∀r∈rows,Lg≠r.1) (hB:B<=s.heap.objs.size) (lt:∀a∈ex,a<B)
  (hsz:∀r∈rows,(r.2.size:Int)<2 ^ 63) (hh:A.handled=none):
  Seg (model prog w) A (RG B Lg) (YG (cr rows) B Lg ex) (cY rows).length s
   (.func [.For (.Name "namespaces" t0) (.Call (.Name "_reversed" p4) [.Name "ns_stack" p5] [] p6) (io t p1 p2 p3) [] p7] env)
   ((model prog w).den (.func [.For (.Name "namespaces" t0) (.Call (.Name "_reversed" p4) [.Name "ns_stack" p5] [] p6) (io t p1 p2 p3) [] p7] env)) [] s:=by
 subst hL;exact Hj hk hx hx1 hx2 hp hi hm1 hm2 hn hst hrow xL xs xr Ls Lr hB lt hsz hh
theorem Ip {w:World} {p:Program} {a_:List Str} {bz:ExcName->Option Value} {mg mb:Str->Option Value} {A:Around} {h₀:Heap} {L:Addr} {m:Str->Option Value} {s:Shared} {news:ax} {self:Value} {st:Addr} {rows:bk} {Q E:Value->Shared->Prop}
  (F:Fr h₀ L s.heap m) (cZ:(hd.heap_39 w.params).In h₀) (N:News h₀ L s.heap news) (T:Top p a_ bz mg mb h₀) (h_:A.depth<recursionLimit) (hh:A.handled=none)
  (hst:s.heap.IsList st (rows.map fun r=>Value.ref r.1).toArray) (hrow:∀r∈rows,s.heap.IsList r.1 r.2) (hsz:∀r∈rows,(r.2.size:Int)<2 ^ 63)
  (h:∀ga s',Fr h₀ L s'.heap m->News h₀ L s'.heap news->aM s s'->(∀b o,s.heap.get? b=some o->s'.heap.get? b=some o)->s.heap.objs.size<=ga->
   (∀ex,(∀a∈ex,a<s.heap.objs.size)->st∉ex->(∀r∈rows,r.1∉ex)->GenAt rw_ty0067_01.row.prog w A rows s.heap.objs.size ex (cr rows).length ga s')->Q (.ref ga) s'):
  wpAny (model rw_ty0067_01.row.prog w) A (call (.ref 75) [self, .ref st]) Q E s:=by
 revert F cZ N T h_ hh hst hrow hsz h;revert w p a_ bz mg mb A h₀ L m s news self st rows Q E;refine' no_implicit_lambda% (eO ?zR (a:=((bw,default,[],fun _=>none,fun _=>none,fun _=>none,callerA,{}),(0,fun _=>none,{},[],Value.none,0,[],fun _ _=>True),fun _ _=>True)) rfl (no_implicit_lambda% ((?zg:eE ?zR) _ _ _ _ _ _ _ _ _ _ _ _ _ _ _ _ _)));intros w p a_ bz mg mb A h₀ L m s news self st rows Q E;intros F cZ N T h_ hh hst hrow hsz h;revert cZ;k_fill;intro cZ;refine wpAny_call ?_;refine' E2 ?k1 ?kK ?k3 ?k6 ?k7 ?k8 ?k9 ?kB ?_ ?c2 ?c3 ?c4 ?c5
 case kK=>assumption
 case k1=>exact F
 case k3=>exact T
 case k6=>k_is
 case k7=>k_is
 case k8=>exact h_
 case k9=>exact binds_K (by k_in) rfl (by k_is) rfl rfl rfl
 case c5=>decide
 case kB=>exact locs rfl
 case c2=>exact rfl
 case c3=>exact rfl
 case c4=>exact rfl
 intros aT t1 t2 Py Mx
 have Qk:aT.objs.size=s.heap.objs.size+1:=by have:=Mx.1;simp [Heap.push] at this;exact og this
 have k1:∀b o,s.heap.get? b=some o->aT.get? b=some o:=fun b o e=>Mx.extBut b o (Nat.ne_of_lt (Heap.lt_size e)) (Heap.get?_push_of_some _ e);have k2:∀b o,s.heap.get? b=some o->(aT.push {cls:= .type "generator",data:= .fields #[.int s.gens.size 0, .str ("_iter_namespaces":Str) t1, .str ("C14NWriterTarget._iter_namespaces":Str) t2]}).get? b=some o:=fun b o e=>Heap.get?_push_of_some _ (k1 b o e);refine h _ _ ⟨F.ns.at' fun o e=>k2 _ o e,fun b o e=>k2 b o (F.keep b o e),F.above⟩ (fun q hq=>⟨k2 _ _ (N q hq).1,(N q hq).2⟩) ⟨rfl,fun hB=>hB.push rfl⟩ k2 (by rw [Qk];exact lj) fun ex hex xs xr=>?_;have bW:∀{b:Addr} {o:Obj},s.heap.get? b=some o->b<s.heap.objs.size:=fun e=>Heap.lt_size e;refine ⟨s.heap.objs.size+2,s.heap.objs.size,s.gens.size,_,⟨_,_,_,Heap.get?_push_size _ rfl,rfl,rfl,rfl⟩,by rw [Qk];exact Nat.lt_succ_self _,by rw [Qk];exact Nat.succ_ne_self _,by rw [Qk];exact Nat.le_succ _,fun b hb=>⟨Nat.lt_of_lt_of_le hb (Nat.le_add_right _ _),Nat.ne_of_lt hb⟩,hex,Array.getElem?_push_size,rfl,?_⟩
 have hl:(cr rows).length=(cY rows).length:=by rw [<-qK,List.length_reverse]
 rw [hl];have Rp:∀{b:Addr} {o:Obj},s.heap.get? b=some o->s.heap.objs.size≠b:=fun e=>Ne.symm (Nat.ne_of_lt (bW e));refine' Hi (st:=st) ?hL ?hk ?hx ?hx1 ?hx2 ?hp ?hi ?hm1 ?hm2 ?hn ?hst ?hrow ?xL ?xs ?xr ?Ls ?Lr ?hB ?lt ?hsz ?hh
 case hn=>exact Py.at' fun o e=>Heap.get?_push_of_some _ e
 case hst=>exact hst.at fun o e=>k2 _ o e
 case hrow=>exact fun r hr=>(hrow r hr).at fun o e=>k2 _ o e
 case xL=>exact fun q=>absurd (hex _ q) (Nat.lt_irrefl _)
 case xs=>exact xs
 case xr=>exact xr
 case Ls=>refine am hst fun o aj=>?_;clear hst;refine ak aj fun e _=>?_;exact Rp e
 case Lr=>intro r hr;refine am (hrow r hr) fun o aj=>?_;refine ak aj fun e _=>?_;exact Rp e
 case hB=>
  show s.heap.objs.size+2<=(aT.push _).objs.size;simp [Heap.push];exact EO Qk
 case lt=>exact fun a ha=>Nat.lt_of_lt_of_le (hex a ha) (Nat.le_add_right _ _)
 case hsz=>exact hsz
 case hh=>exact hh
 all_goals rfl
noncomputable abbrev aO (vs:List Value):Obj:={cls:= .type "tuple",data:= .seq vs.toArray}
noncomputable def PairsAt (h:Heap) (vs:List Value) (us:List (Str×Str)):Prop:=
 vs.length=us.length/\∀(i:Nat) (v:Value) (u:Str×Str),vs[i]?=some v->us[i]?=some u->∃q t1 t2,v= .ref q/\h.get? q=some (aO [.str u.1 t1, .str u.2 t2])
structure RowsAt (h:Heap) (st:Addr) (rows:bk) (us:List (Str×Str)):Prop where
 st:h.IsList st (rows.map fun r=>Value.ref r.1).toArray
 row:∀r∈rows,h.IsList r.1 r.2
 sz:∀r∈rows,(r.2.size:Int)<2 ^ 63
 it:PairsAt h (cr rows) us
theorem PairsAt.kept {h g:Heap} {as:List Addr} {vs:List Value} {us:List (Str×Str)} (x:PairsAt h vs us) (k:Kept as h g) (hc:∀a∈as,∀o,h.get? a=some o->o.cls≠ .type "tuple"):PairsAt g vs us:=
 ⟨x.1,fun i v u hv hu=>by
  refine aW (x.2 i v u hv hu) fun q t1 t2 aj=>?_;refine ak aj fun e ho=>?_
  exact ⟨q,t1,t2,e,k q _ (fun hq=>hc q hq _ ho rfl) ho⟩⟩
theorem RowsAt.kept {h g:Heap} {as:List Addr} {st:Addr} {rows:bk} {us:List (Str×Str)} (x:RowsAt h st rows us) (k:Kept as h g) (hs:st∉as) (hr:∀r∈rows,r.1∉as) (hc:∀a∈as,∀o,h.get? a=some o->o.cls≠ .type "tuple"):RowsAt g st rows us:=
 ⟨x.st.at fun o e=>k _ o hs e,fun r h'=>(x.row r h').at fun o e=>k _ o (hr r h') e,x.sz,x.it.kept k hc⟩
theorem RowsAt.mono {h g:Heap} {st:Addr} {rows:bk} {us:List (Str×Str)} (x:RowsAt h st rows us) (k:∀b o,h.get? b=some o->g.get? b=some o):RowsAt g st rows us:=
 ⟨x.st.at fun o e=>k _ o e,fun r h'=>(x.row r h').at fun o e=>k _ o e,x.sz,x.it.1,fun i v u hv hu=>by
  refine aW (x.it.2 i v u hv hu) fun q t1 t2 aj=>?_;refine ak aj fun e ho=>?_
  exact ⟨q,t1,t2,e,k q _ ho⟩⟩
theorem lE {h₀ h:Heap} {L:Addr} {led:ax} (N:News h₀ L h led) (hc:led.all (fun p=>p.2.cls != .type "tuple")=true):∀a∈led.map (·.1),∀o,h.get? a=some o->o.cls≠ .type "tuple":=by
 intros a ha o e;refine am (aP ha) fun p aj=>?_;refine ak aj fun hp aZ=>?_;subst aZ;rw [(N p hp).1] at e;rw [<-Option.some.inj e]
 exact fun q=>by have:=List.all_eq_true.mp hc p hp;rw [q] at this;simp at this
section
variable {w:World} {A:Around} {env:Env} {E:Value->Shared->Prop} {s:Shared} {h₀:Heap} {m:Str->Option Value} {news rest:ax} {bi:Expr} {body cH:List Stmt} {Q:Flow->Shared->Prop}
 {p:Program} {a_:List Str} {bz:ExcName->Option Value} {mg mb:Str->Option Value} {self:Value} {st:Addr} {rows:bk} {us:List (Str×Str)}
theorem tH (Inv:Nat->(Str->Option Value)->ax->Prop) (F:Fr h₀ env.locals s.heap m) (cZ:(hd.heap_39 w.params).In h₀) (N:News h₀ env.locals s.heap (news++rest)) (T:Top p a_ bz mg mb h₀) (h_:A.depth<recursionLimit) (hh:A.handled=none)
  (hst:s.heap.IsList st (rows.map fun r=>Value.ref r.1).toArray) (hrow:∀r∈rows,s.heap.IsList r.1 r.2) (hsz:∀r∈rows,(r.2.size:Int)<2 ^ 63) (e_:PairsAt h₀ (cr rows) us)
  (xs:st∉env.locals::news.map (·.1)) (xr:∀r∈rows,r.1∉env.locals::news.map (·.1))
  (SB:∀i aC ao,Inv i aC ao->∀p∈ao,p.1∈news.map (·.1)) (h0:Inv 0 m news)
  (turn:∀i u q t1 t2 aC ao KH (s₁:Shared),us[i]?=some u->h₀.get? q=some (aO [.str u.1 t1, .str u.2 t2])->Inv i aC ao->Fr h₀ env.locals s₁.heap aC->News h₀ env.locals s₁.heap (ao++(rest++KH))->(∀p∈KH,p.1∉news.map (·.1)++rest.map (·.1))->aM s s₁->
   wpAny (model rw_ty0067_01.row.prog w) A (assign bi env (.ref q)) (fun _ aG=>wpAny (model rw_ty0067_01.row.prog w) A (execs body env) (fS h₀ env.locals rest KH (Inv (i+1)) s₁ Q) bd aG) bd s₁)
  (done:∀aC ao (s₁:Shared),Inv us.length aC ao->Fr h₀ env.locals s₁.heap aC->News h₀ env.locals s₁.heap (ao++rest)->aM s s₁->wpAny (model rw_ty0067_01.row.prog w) A (execs cH env) Q bd s₁):
  wpAny (model rw_ty0067_01.row.prog w) A (call (.ref 75) [self, .ref st]) (fun x s₁=>wpAny (model rw_ty0067_01.row.prog w) A (pyIter x) (eg rw_ty0067_01.row.prog w A env bi body cH Q E) E s₁) E s:=by
 refine Ip F cZ N T h_ hh hst hrow hsz fun ga s' F' N' hS hk M3 hG=>?_;have bW:∀{b:Addr} {o:Obj},s.heap.get? b=some o->b<s.heap.objs.size:=fun e=>Heap.lt_size e
 have hex:∀a∈env.locals::news.map (·.1),a<s.heap.objs.size:=by
  intro a ha
  rcases aB ha with rfl|ha
  ·exact F.ns.lt
  ·refine am (aP ha) fun p aj=>?_;refine ak aj fun hp aZ=>?_;subst aZ
   exact bW (N p (aL _ hp)).1
 refine Ga Inv hh h_ T.nolimit (hG _ hex xs xr) rfl F' N' (Nat.le_of_lt (Nat.lt_of_le_of_lt F.above F.ns.lt)) (fun p hp=>bW (N p (ay _ hp)).1) SB h0 ?_ ?_
 ·intros i v aC ao KH s₁ hv hJ aU aN hp ms
  have hi:i<us.length:=by rw [<-e_.1];exact (List.getElem?_eq_some_iff.mp hv).1
  refine aW (e_.2 i v us[i] hv (List.getElem?_eq_getElem hi)) fun q t1 t2 aj=>?_;refine ak aj fun aZ ho=>?_;subst aZ;exact turn i us[i] q t1 t2 aC ao KH s₁ (List.getElem?_eq_getElem hi) ho hJ aU aN hp (hS.trans ms)
 ·intros aC ao s₁ hJ aU aN ms
  rw [e_.1] at hJ;exact done aC ao s₁ hJ aU aN (hS.trans ms)
theorem oZ {S:Addr} {so:Obj} (J:Addr->Nat->(Str->Option Value)->Obj->Prop) (F:Fr h₀ env.locals s.heap m) (cZ:(hd.heap_39 w.params).In h₀) (N:News h₀ env.locals s.heap ((S,so)::rest)) (T:Top p a_ bz mg mb h₀) (h_:A.depth<recursionLimit) (hh:A.handled=none)
  (hst:s.heap.IsList st (rows.map fun r=>Value.ref r.1).toArray) (hrow:∀r∈rows,s.heap.IsList r.1 r.2) (hsz:∀r∈rows,(r.2.size:Int)<2 ^ 63) (e_:PairsAt h₀ (cr rows) us)
  (xs:st∉env.locals::[S]) (xr:∀r∈rows,r.1∉env.locals::[S]) (h0:J S 0 m so)
  (turn:∀i u q t1 t2 aC eI KH (s₁:Shared),us[i]?=some u->h₀.get? q=some (aO [.str u.1 t1, .str u.2 t2])->J S i aC eI->Fr h₀ env.locals s₁.heap aC->News h₀ env.locals s₁.heap ((S,eI)::(rest++KH))->(∀p∈KH,p.1≠S)->aM s s₁->
   wpAny (model rw_ty0067_01.row.prog w) A (assign bi env (.ref q)) (fun _ aG=>wpAny (model rw_ty0067_01.row.prog w) A (execs body env) (fS h₀ env.locals rest KH (fun aC ao=>∃so,ao=[(S,so)]/\J S (i+1) aC so) s₁ Q) bd aG) bd s₁)
  (done:∀aC eI (s₁:Shared),J S us.length aC eI->Fr h₀ env.locals s₁.heap aC->News h₀ env.locals s₁.heap ((S,eI)::rest)->aM s s₁->wpAny (model rw_ty0067_01.row.prog w) A (execs cH env) Q bd s₁):
  wpAny (model rw_ty0067_01.row.prog w) A (call (.ref 75) [self, .ref st]) (fun x s₁=>wpAny (model rw_ty0067_01.row.prog w) A (pyIter x) (eg rw_ty0067_01.row.prog w A env bi body cH Q E) E s₁) E s:=by
 refine tH (news:=[(S,so)]) (fun i aC ao=>∃so,ao=[(S,so)]/\J S i aC so) F cZ N T h_ hh hst hrow hsz e_ xs xr ?_ ⟨so,rfl,h0⟩ ?_ ?_
 ·intros i aC ao aj;refine am aj fun Ut aZ=>?_;refine ak aZ fun bU _=>?_;subst bU;intro p hp
  rw [br hp];exact .head _
 ·intros i u q t1 t2 aC ao KH s₁ hu ho aj;refine am aj fun Ut aZ=>?_;refine ak aZ fun bU hJ=>?_;subst bU;intros aU aN hp hS
  exact turn i u q t1 t2 aC Ut KH s₁ hu ho hJ aU aN (fun p Mh e=>hp p Mh (aL _ (e▸ .head _))) hS
 ·intros aC ao s₁ aj;refine am aj fun Ut aZ=>?_;refine ak aZ fun bU hJ=>?_;subst bU;intros aU aN hS
  exact done aC Ut s₁ hJ aU aN hS
end
section
open PySem.Builtin PySem.Builtin.Str
theorem o0 {α β:Type} (f:α->β->Id (ForInStep β)) (g:β->α->β) (h:∀a b,f a b=pure (.yield (g b a))):∀(l:List α) (b:β),(forIn l b f:Id β)=l.foldl g b
 |[],b=>rfl
 |a::l,b=>by
  rw [List.forIn_cons,h];exact o0 f g h l (g b a)
theorem Hm (s sub:PySem.Str) (F_:Nat):occurrencesFromRight s sub F_=
  ((List.range' 0 (s.length+1)).foldl (fun (st:Array Nat×Nat) k=>if (decide (st.1.size<F_) && decide (s.length - k+sub.length<=st.2) && subAt s sub (s.length - k))=true then (st.1.push (s.length - k),s.length - k) else st) (#[],s.length)).1.toList.reverse:=by
 unfold occurrencesFromRight;simp only [Std.Legacy.Range.forIn_eq_forIn_range',Std.Legacy.Range.size,Id.run]
 rw [o0 _ (fun (st:Array Nat×Nat) k=>if (decide (st.1.size<F_) && decide (s.length - k+sub.length<=st.2) && subAt s sub (s.length - k))=true then (st.1.push (s.length - k),s.length - k) else st) (fun a b=>by split<;>rfl)]
 simp;rfl
theorem occ_eq (s sub:PySem.Str) (lo hi F_:Nat):occurrences s sub lo hi F_=
  ((List.range' lo (hi+1 - lo)).foldl (fun (st:Array Nat×Nat) i=>if (decide (st.1.size<F_) && decide (st.2<=i) && decide (i+sub.length<=hi) && subAt s sub i)=true then (st.1.push i,i+sub.length) else st) (#[],lo)).1.toList:=by
 unfold occurrences;simp only [Std.Legacy.Range.forIn_eq_forIn_range',Std.Legacy.Range.size,Id.run]
 rw [o0 _ (fun (st:Array Nat×Nat) i=>if (decide (st.1.size<F_) && decide (st.2<=i) && decide (i+sub.length<=hi) && subAt s sub i)=true then (st.1.push i,i+sub.length) else st) (fun a b=>by split<;>rfl)]
 simp;rfl
end
section
open PySem.Builtin PySem.Builtin.Str
noncomputable def fj (s sub:PySem.Str) (F_:Nat) (st:Array Nat×Nat) (k:Nat):Array Nat×Nat:=if (decide (st.1.size<F_) && decide (s.length - k+sub.length<=st.2) && subAt s sub (s.length - k))=true then (st.1.push (s.length - k),s.length - k) else st
theorem Hl (s sub:PySem.Str) (F_:Nat):occurrencesFromRight s sub F_=((List.range' 0 (s.length+1)).foldl (fj s sub F_) (#[],s.length)).1.toList.reverse:=Hm s sub F_
theorem Ho (s sub:PySem.Str) (l:List Nat) (st:Array Nat×Nat) (h:st.1.size=1):l.foldl (fj s sub 1) st=st:=by
 induction l with
 |nil=>rfl
 |cons a l ih=>
  have e:fj s sub 1 st a=st:=by unfold fj;rw [if_neg (by simp [h])]
  rw [List.foldl_cons,e];exact ih
noncomputable abbrev di (w:PySem.Str):PySem.Str:=w++ofString "}k"
theorem lT (w:PySem.Str):(di w).cps=w.cps++#[125,107]:=rfl
theorem lS (w:PySem.Str):(di w).length=w.length+2:=by
 show (di w).cps.size=w.cps.size+2;rw [lT];simp
theorem tG (w:PySem.Str):occurrencesFromRight (di w) (ofString "}") 1=[w.length]:=by
 have hn:=lS w;have MP:(ofString "}").length=1:=rfl
 have s1:subAt (di w) (ofString "}") (w.length+1)=false:=by
  unfold subAt;rw [lT,MP]
  have e:(w.cps++#[125,107]).extract (w.length+1) (w.length+1+1)=#[107]:=by
   show (w.cps++#[125,107]).extract (w.cps.size+1) (w.cps.size+1+1)=#[107]
   have e1:w.cps.size+1+1 - w.cps.size - 1=1:=by exact Cj
   have e2:w.cps.extract (w.cps.size+1) (w.cps.size+1+1)=#[]:=Array.extract_empty_of_size_le_start (lj);simp [Array.extract_append,e1,e2]
  rw [e];rfl
 have s2:subAt (di w) (ofString "}") w.length=true:=by
  unfold subAt;rw [lT,MP]
  have e:(w.cps++#[125,107]).extract w.length (w.length+1)=#[125]:=by
   show (w.cps++#[125,107]).extract w.cps.size (w.cps.size+1)=#[125];simp [Array.extract_append]
  rw [e];rfl
 have f0:fj (di w) (ofString "}") 1 (#[],w.length+2) 0=(#[],w.length+2):=by
  unfold fj;rw [hn,MP,if_neg (by simp)]
 have f1:fj (di w) (ofString "}") 1 (#[],w.length+2) 1=(#[],w.length+2):=by
  unfold fj;have e:w.length+2 - 1=w.length+1:=rfl;rw [hn,MP,e,s1,if_neg (by simp)]
 have f2:fj (di w) (ofString "}") 1 (#[],w.length+2) 2=(#[w.length],w.length):=by
  unfold fj;have e:w.length+2 - 2=w.length:=rfl;rw [hn,MP,e,s2,if_pos (by simp)];rfl
 rw [Hl,hn]
 have e:List.range' 0 (w.length+2+1)=0::1::2::List.range' 3 w.length:=by
  simp [List.range'_succ]
 rw [e,List.foldl_cons,List.foldl_cons,List.foldl_cons,f0,f1,f2,Ho _ _ _ _ rfl];rfl
end
theorem jq {h₀ h:Heap} {L S:Addr} {so:Obj} {m:Str->Option Value} {l:Addr} {vs:Array Value} {rest:ax} (hl:h₀.IsList l vs) (F:Fr h₀ L h m) (N:News h₀ L h ((S,so)::rest)):l∉L::[S]:=by
 refine am hl fun o aj=>?_;clear hl;refine ak aj fun ho _=>?_;intro hm
 rcases aB hm with rfl|hm
 ·exact absurd (Heap.lt_size ho) (Nat.not_lt.mpr F.above)
 ·rw [br hm,(N _ (.head _)).2.2] at ho
  cases ho
structure JQ (prog:Program) (w:World) (W:Addr) (U T:Str) (us:List (Str×Str)) (S:Addr) (i:Nat) (m:Str->Option Value) (so:Obj):Prop where
 self:m "self"=some (.ref W)
 uri:∃t,m "uri"=some (.str U t)
 tag:∃t,m "tag"=some (.str T t)
 seen:m "prefixes_seen"=some (.ref S)
 set:∃c,c<=i/\so.SetObjOf (PySem.strKind prog w) (fun k=>decide (k∈(us.take i).map (·.2))) c
theorem Ff {us:List (Str×Str)} {i:Nat} (eo:∀u∈us,u.1≠ofString ""/\u.2≠ofString ""):¬ofString ""∈(us.take i).map (·.2):=by
 intro h;refine am (aP h) fun u aj=>?_;refine ak aj fun hu e=>?_;exact (eo u (List.mem_of_mem_take hu)).2 e
theorem nk {prog:Program} {w:World} {us:List (Str×Str)} {i:Nat} {u:Str×Str} {so:Obj} {c:Nat} (hu:us[i]?=some u) (h:so.SetObjOf (PySem.strKind prog w) (fun k'=>decide (k'∈(us.take i).map (·.2)) || decide (k'=u.2)) c):
  so.SetObjOf (PySem.strKind prog w) (fun k=>decide (k∈(us.take (i+1)).map (·.2))) c:=by
 have e:(fun k=>decide (k∈(us.take (i+1)).map (·.2)))=(fun k'=>decide (k'∈(us.take i).map (·.2)) || decide (k'=u.2)):=by
  funext k
  rw [List.take_add_one,hu];simp
 rw [e];exact h
theorem Ko:True:=by
 (k_with "k_all"=>(assumption))
 (k_with "ite"=>((with_reducible ((show (if (@BEq.beq Str _ _ _)=true then _ else _));first|(refine ite_pos (by assumption) ?_)|(refine ite_neg (by assumption) ?_)))))
 trivial
noncomputable def kz (w:World) (W d:Addr) (n:WN) (n1:Nat) (x:WS) (t1:Tok) (rows:bk) (us:List (Str×Str)):Prop:=∀(ba:us.length<1000) (eo:∀u∈us,u.1≠ofString ""/\u.2≠ofString "") (a1:x.decl∉[W,d,x.data]) (a2:∀r∈rows,r.1∉[W,d,x.data]),
 Ct w 5 300 90 [.ref W, .str (ofString "e") t1] [] (W0 w.params W d n n1 x []) (fun h=>RowsAt h x.decl rows us)
  (fun h₀ L m s Q=>∀q t1 t2 t3,dj [W,d,x.data] ((q,aO [.str (ofString "e") t1, .str (ofString "e") t2, .str (ofString "") t3])::W0 w.params W d n n1 x []) h₀ L m s (fun s'=>s.heap.get? q=none->Q (.ref q) s'))
noncomputable def vH:=bA (jE kz) ((bw,0,0,⟨0,false,false⟩,0,⟨0,0,0,0,0,0,fun _=>0⟩,0,[]),[])
theorem uh:∀{w} (W d n n1 x t1 rows us),kz w W d n n1 x t1 rows us:=by
 intros;apply ot kz (c:=vH) rfl;apply (?zg:lX kz);intros w W d n n1 x t1 rows us;intros ba eo a1 a2;walk_at "ctS";dsimp only [W0] at *;rename News _ _ (Shared.heap _) _=>N0;rename RowsAt _ _ _ _=>R0;rename Kept _ _ _=>K0;have hR:=RowsAt.kept R0 K0 a1 a2 (lE N0 (by rfl));clear N0 R0;k_steps;rename Obj.SetObjOf (PySem.strKind _ _) _ _ _=>O5;refine oZ (us:=us) (JQ rw_ty0067_01.row.prog w W (ofString "") (ofString "e") us) (by assumption) (by assumption) (by assumption) (by assumption) (by ktr_room) rfl (hR.st.at fun o e=>Fr.keep (by assumption) _ _ e) (fun r hr=>(hR.row r hr).at fun o e=>Fr.keep (by assumption) _ _ e) hR.sz hR.it ?_ ?_ ?_ ?_ ?_
 ·exact jq hR.st (by assumption) (by assumption)
 ·exact fun r hr=>jq (hR.row r hr) (by assumption) (by assumption)
 ·exact ⟨by rfl,⟨_,by rfl⟩,⟨_,by rfl⟩,by rfl,0,Nat.le_refl _,by simpa using O5⟩
 ·intros i u q t2 t3 aC eI KH s₁ hu hq hJ aU aN hp hS
  obtain ⟨hm1,⟨tu,hm2⟩,⟨tt,O6⟩,O8,c,hc,jK⟩:=hJ;have dR:=eo u (List.mem_of_getElem? hu);have hT:IsTup s₁.heap q #[.str u.1 t2, .str u.2 t3]:=⟨_,aU.keep _ _ hq,rfl,0,rfl⟩;have fW:i<us.length:=(List.getElem?_eq_some_iff.mp hu).1;clear O5;simp only [List.cons_append,List.nil_append] at aN;have hb:¬(u.1 == ofString "")=true:=fun h=>dR.1 (eq_of_beq h);k_steps
  all_goals first
   |(rename (_ == _)=true=>he;exact absurd (eq_of_beq he) dR.1)
   |skip
  dsimp only [fS];rename Obj.SetObjOf (PySem.strKind _ _) _ (fun k'=>_ || _) _=>hs2;refine ⟨_,[(_,_)],by assumption,by assumption,⟨_,rfl,⟨by exact hm1,⟨tu,by exact hm2⟩,⟨tt,by exact O6⟩,by exact O8,_,?_,nk hu hs2⟩⟩,rfl,rfl⟩
  split<;>first|exact Nat.succ_le_succ (by assumption)|exact Nat.le_succ_of_le (by assumption)
 ·intros aC eI s₁ hJ aU aN hS
  obtain ⟨hm1,⟨tu,hm2⟩,⟨tt,O6⟩,O8,c,hc,jK⟩:=hJ;clear O5;k_steps
  all_goals first
   |(rename ofString ""∈_=>he;exact absurd he (Ff eo))
   |skip
  (rename Ret _=>hr)
  exact hr.out _ _ _ _ _ (by assumption) (by exact bf (by assumption) (by exact cz [0,3,4,5] rfl)) (by walk_at "kept") (by walk_at "same") (by walk_at "fresh")
section
open PySem.Builtin PySem.Builtin.Str
theorem xU (x y:PySem.Str) (k:Int) (t u v:Tok) (hk:(decide (k < -(2 ^ 63:Int)) || decide (k>=2 ^ 63))=false):∃OQ:Sem PySem.Fin,«str.rsplit» ⟨[.str x t, .str y u, .int k v],[]⟩=
  (if (decide (x.length<y.length) || decide (strKind x<strKind y))=true then (do rule "str.rsplit.sep-cannot-occur";ret (<-newList [.str x t])) else
   if (y.length == 0)=true then OQ else
   if (true && (occurrencesFromRight x y (limitOf x k)).isEmpty)=true then (do rule "str.rsplit.same-object";ret (<-newList [.str x t])) else
   (do ret (<-newList (<-(partsBetween x (occurrencesFromRight x y (limitOf x k)) y.length).mapM mkStr)))):=by
 refine ⟨?r,?h⟩
 case h=>
  show (do let F_ <-countLimit "str.rsplit" (some (.int k v)) (x.length+1);_)=_;rw [countLimit_int "str.rsplit" k v (x.length+1) hk];rfl
structure SplitR (x y a b:PySem.Str):Prop where
 fit:(decide (x.length<y.length) || decide (strKind x<strKind y))=false
 ne:(y.length == 0)=false
 some:(occurrencesFromRight x y 1).isEmpty=false
 parts:partsBetween x (occurrencesFromRight x y 1) y.length=[a,b]
structure SplitL (x y a b:PySem.Str):Prop where
 fit:(decide (x.length<y.length) || decide (strKind x<strKind y))=false
 ne:(y.length == 0)=false
 some:(occurrences x y 0 x.length 1).isEmpty=false
 parts:partsBetween x (occurrences x y 0 x.length 1) y.length=[a,b]
theorem Ft {x y a b:PySem.Str} {t u v:Tok} (X:SplitR x y a b) (hsz:x.length<=sizeLine):
  Meets («str.rsplit» ⟨[.str x t, .str y u, .int 1 v],[]⟩) (fun _ R s=>
   R (.ok (.ret (.ref s.heap.objs.size))) {s with toks:=s.toks+2,heap:=s.heap.push {cls:= .type "list",data:= .seq (strsFrom s.toks [a,b]).toArray}}):=by
 refine am (xU x y 1 t u v (by decide)) fun OQ Pt=>?_;have e1:limitOf x 1=1:=rfl;refine .of_wp fun prog w A R s h=>?_;rw [Pt,X.fit,X.ne,e1,X.some];show wpAny _ _ (do ret (<-newList (<-(partsBetween x (occurrencesFromRight x y 1) y.length).mapM mkStr))) _ _ s
 have ba:∀p∈partsBetween x (occurrencesFromRight x y 1) y.length,p.length<=sizeLine:=by
  intro p hp;simp only [partsBetween,List.mem_map] at hp;refine am hp fun aj aZ=>?_;clear hp;obtain ⟨i,j⟩:=aj;refine ak aZ fun _ bU=>?_;subst bU;exact Nat.le_trans (strSub_length_le ..) hsz
 rw [X.parts] at ba ⊢;refine wpAny_bind (wpAny_mapM_mkStr _ _ _ (fun p hp=>ba p hp) (wpAny_bind (wpAny_newList (wpAny_pure ⟨_,rfl,h⟩) (by rw [strsFrom_length];show 2<=sizeLine;decide))))
theorem Fs {x y a b:PySem.Str} {t u v:Tok} (X:SplitL x y a b) (hsz:x.length<=sizeLine):
  Meets («str.split» ⟨[.str x t, .str y u, .int 1 v],[]⟩) (fun _ R s=>
   R (.ok (.ret (.ref s.heap.objs.size))) {s with toks:=s.toks+2,heap:=s.heap.push {cls:= .type "list",data:= .seq (strsFrom s.toks [a,b]).toArray}}):=by
 refine am (split_sep_max_tree x y 1 t u v (by decide)) fun OQ Pt=>?_;have e1:limitOf x 1=1:=rfl;refine .of_wp fun prog w A R s h=>?_;rw [Pt,X.fit,X.ne,e1,X.some];show wpAny _ _ (do ret (<-newList (<-(partsBetween x (occurrences x y 0 x.length 1) y.length).mapM mkStr))) _ _ s
 have ba:∀p∈partsBetween x (occurrences x y 0 x.length 1) y.length,p.length<=sizeLine:=by
  intro p hp;simp only [partsBetween,List.mem_map] at hp;refine am hp fun aj aZ=>?_;clear hp;obtain ⟨i,j⟩:=aj;refine ak aZ fun _ bU=>?_;subst bU;exact Nat.le_trans (strSub_length_le ..) hsz
 rw [X.parts] at ba ⊢;refine wpAny_bind (wpAny_mapM_mkStr _ _ _ (fun p hp=>ba p hp) (wpAny_bind (wpAny_newList (wpAny_pure ⟨_,rfl,h⟩) (by rw [strsFrom_length];show 2<=sizeLine;decide))))
structure SplitN (x y:PySem.Str):Prop where
 fit:(decide (x.length<y.length) || decide (strKind x<strKind y))=false
 ne:(y.length == 0)=false
 none:(occurrences x y 0 x.length 1).isEmpty=true
theorem Fq {x y:PySem.Str} {t u v:Tok} (X:SplitN x y):Meets («str.split» ⟨[.str x t, .str y u, .int 1 v],[]⟩) (listOfItself x t):=by
 refine am (split_sep_max_tree x y 1 t u v (by decide)) fun OQ Pt=>?_;have e1:limitOf x 1=1:=rfl;refine .of_wp fun prog w A R s h=>?_;rw [Pt,X.fit,X.ne,e1,X.none];show wpAny _ _ (do rule "str.split.same-object";ret (<-newList [.str x t])) _ _ s;exact wpAny_bind (wpAny_rule (wpAny_bind (wpAny_newList (wpAny_pure ⟨_,rfl,h⟩) (by show 1<=sizeLine;decide))))
section
variable {prog:Program} {w:World} {A:Around} {E:Value->Shared->Prop} {s:Shared} {h₀:Heap} {L:Addr} {m:PySem.Str->Option Value} {news:ax} {x y a b:PySem.Str} {t u v:Tok} {Q:Value->Shared->Prop}
theorem Io (FF:Fr h₀ L s.heap m) (N:News h₀ L s.heap news) (X:SplitR x y a b)
  (h:∀D h' t1 t2 tk,Fr h₀ L h' m->News h₀ L h' ((D,listOf #[.str a t1, .str b t2] 0)::news)->(∀p∈news,p.1<D)->Q (.ref D) {s with heap:=h',toks:=tk}) (hsz:x.length<=sizeLine):
  wpAny (model prog w) A (call (.builtin "str.rsplit") [.str x t, .str y u, .int 1 v]) Q E s:=by
 refine call_meets PySem.F.slot_str_rsplit (typeIs_str _ _ _) PySem.F.entry_str_rsplit (PySem.F.args_str_rsplit_3 _ _ _) (Ft X hsz) ?_;exact h _ _ _ _ _ (FF.push _) (News.push FF N _) fun p hp=>Heap.lt_size (N p hp).1
theorem Im (FF:Fr h₀ L s.heap m) (N:News h₀ L s.heap news) (X:SplitL x y a b)
  (h:∀D h' t1 t2 tk,Fr h₀ L h' m->News h₀ L h' ((D,listOf #[.str a t1, .str b t2] 0)::news)->(∀p∈news,p.1<D)->Q (.ref D) {s with heap:=h',toks:=tk}) (hsz:x.length<=sizeLine):
  wpAny (model prog w) A (call (.builtin "str.split") [.str x t, .str y u, .int 1 v]) Q E s:=by
 refine call_meets PySem.F.slot_str_split (typeIs_str _ _ _) PySem.F.entry_str_split (PySem.F.args_str_split_3 _ _ _) (Fs X hsz) ?_;exact h _ _ _ _ _ (FF.push _) (News.push FF N _) fun p hp=>Heap.lt_size (N p hp).1
theorem Il (FF:Fr h₀ L s.heap m) (N:News h₀ L s.heap news) (X:SplitN x y)
  (h:∀D h' tk,Fr h₀ L h' m->News h₀ L h' ((D,listOf #[.str x t] 0)::news)->(∀p∈news,p.1<D)->Q (.ref D) {s with heap:=h',toks:=tk}):
  wpAny (model prog w) A (call (.builtin "str.split") [.str x t, .str y u, .int 1 v]) Q E s:=by
 refine call_meets PySem.F.slot_str_split (typeIs_str _ _ _) PySem.F.entry_str_split (PySem.F.args_str_split_3 _ _ _) (Fq X) ?_;exact h _ _ _ (FF.push _) (News.push FF N _) fun p hp=>Heap.lt_size (N p hp).1
end
theorem Kn:True:=by
 (k_with "call builtin:str.rsplit"=>((k_here;(with_reducible show wpAny _ _ (call (Value.builtin "str.rsplit") [Value.str _ _,Value.str _ _,Value.int _ _]) _ _ _);k_dflt (refine' Io (by k_asm) (by k_asm) (by assumption) ?_ (by assumption));intros _ _ _ _ _ _ _ Mr;(try k_lt Mr))))
 trivial
end
section
open PySem.Builtin PySem.Builtin.Str
theorem wW (w:PySem.Str) (hk:decide (strKind (di w)<strKind (ofString "}"))=false):SplitR (di w) (ofString "}") w (ofString "k") where
 fit:=by
  rw [hk,lS,Bool.or_false];simp;show 1<=w.length+2;exact Ch
 ne:=by rfl
 some:=by rw [tG];rfl
 parts:=by
  rw [tG];unfold partsBetween
  have e1:strSub (di w) 0 w.length=w:=by
   unfold strSub;apply Str.ext';show ((w++ofString "}k").cps).extract 0 w.cps.size=w.cps;rw [show (w++ofString "}k").cps=w.cps++#[125,107] from rfl];simp [Array.extract_append]
  have e2:strSub (di w) (w.length+1) (w.length+2)=ofString "k":=by
   unfold strSub;apply Str.ext';show ((w++ofString "}k").cps).extract (w.cps.size+1) (w.cps.size+2)=#[107];rw [show (w++ofString "}k").cps=w.cps++#[125,107] from rfl]
   have e1:w.cps.size+2 - w.cps.size - 1=1:=by exact Cg
   have e2:w.cps.extract (w.cps.size+1) (w.cps.size+2)=#[]:=Array.extract_empty_of_size_le_start (lj);have e3:w.cps.extract (w.cps.size+1)=#[]:=Array.extract_empty_of_size_le_start (lj);simp [Array.extract_append,e3]
  show [strSub (di w) 0 w.length,strSub (di w) (w.length+1) (di w).length]=_;rw [lS,e1,e2]
end
theorem Km:True:=by
 (k_with "size_fits"=>(with_reducible assumption))
 (k_with "truthy str"=>((k_here;(with_reducible show wpAny _ _ (PySem.truthy (Value.str _ _)) _ _ _);k_dflt (refine' KXt.truthy_pos (by assumption) (by assumption) (by decide) ?_);intro _)))
 trivial
structure Braced (q u tag:Str):Prop where
 z:q.length<=sizeLine
 head:Txt.slice q none (some 1)=ofString "{"
 tl:(Txt.slice q (some 1) none).length<=sizeLine
 split:SplitR (Txt.slice q (some 1) none) (ofString "}") u tag
theorem um (x:Str):Str.empty++x++ofString ":"++ofString "k"=x++ofString ":k":=by
 rw [PySem.Str.empty_append,PySem.Str.append_assoc];rfl
noncomputable def ky (w:World) (W d:Addr) (n:WN) (n1:Nat) (x:WS) (t1:Tok) (q wd:Str) (rows:bk) (us:List (Str×Str)) (j:Nat) (P:Str) (_ _ _ _:Nat):Prop:=∀(Z:Braced q wd (ofString "k")) (ba:us.length<1000) (hj:us[j]?=some (wd,P)) (L0:∀i u,i<j->us[i]?=some u->u.1≠wd/\u.2≠P) (hP:1<=P.length) (Ra:P.length<=1000) (a1:x.decl∉[W,d,x.data]) (a2:∀r∈rows,r.1∉[W,d,x.data]),
 Ct w 5 300 90 [.ref W, .str q t1] [] (W0 w.params W d n n1 x []) (fun h=>RowsAt h x.decl rows us)
  (fun h₀ L m s Q=>∀q tx t1 t2 t3,tx=P++ofString ":k"->dj [W,d,x.data] ((q,aO [.str tx t1, .str (ofString "k") t2, .str wd t3])::W0 w.params W d n n1 x []) h₀ L m s (fun s'=>s.heap.get? q=none->Q (.ref q) s'))
noncomputable def vG:=bA (gQ ky) ((bw,0,0,⟨0,false,false⟩,0,⟨0,0,0,0,0,0,fun _=>0⟩,0,⟨#[]⟩),(⟨#[]⟩,[],[],0,⟨#[]⟩,0,0,0),0)
theorem HV:∀{w W d n n1 x t1 q wd rows us j P},ky w W d n n1 x t1 q wd rows us j P 0 0 0 0:=by
 intros;apply eO ky (c:=vG) rfl;apply (?zg:eE ky);intros w W d n n1 x t1 q wd rows us j P _ _ _ _;intros Z ba hj L0 hP Ra a1 a2;walk_at "ctS";dsimp only [W0] at *;rename News _ _ (Shared.heap _) _=>N0;rename RowsAt _ _ _ _=>R0;rename Kept _ _ _=>K0;have hR:=RowsAt.kept R0 K0 a1 a2 (lE N0 (by rfl));clear N0 R0;have z1:=Z.z;have z2:=Z.tl;have z3:=Z.split
 have hb0:(Txt.slice q none (some 1) == ofString "{")=true:=by rw [Z.head];rfl
 k_steps
 all_goals first
  |(rename (Txt.slice _ _ _ == _)=false=>he;rw [Z.head] at he;cases he)
  |skip
 rename Obj.SetObjOf (PySem.strKind _ _) _ _ _=>O5;refine oZ (us:=us) (fun S i m so=>i<=j/\JQ rw_ty0067_01.row.prog w W wd (ofString "k") us S i m so) (by assumption) (by assumption) (by assumption) (by assumption) (by ktr_room) rfl (hR.st.at fun o e=>Fr.keep (by assumption) _ _ e) (fun r hr=>(hR.row r hr).at fun o e=>Fr.keep (by assumption) _ _ e) hR.sz hR.it ?_ ?_ ?_ ?_ ?_
 ·exact jq hR.st (by assumption) (by assumption)
 ·exact fun r hr=>jq (hR.row r hr) (by assumption) (by assumption)
 ·exact ⟨Nat.zero_le _,by rfl,⟨_,by rfl⟩,⟨_,by rfl⟩,by rfl,0,Nat.le_refl _,by simpa using O5⟩
 ·intros i u q t2 t3 aC eI KH s₁ hu hq aj;refine ak aj fun iF aZ=>?_;obtain ⟨hm1,⟨tu,hm2⟩,⟨tt,O6⟩,O8,c,hc,jK⟩:=aZ;intros aU aN hp hS
  have hT:IsTup s₁.heap q #[.str u.1 t2, .str u.2 t3]:=⟨_,aU.keep _ _ hq,rfl,0,rfl⟩;have fW:i<us.length:=(List.getElem?_eq_some_iff.mp hu).1;clear O5;simp only [List.cons_append,List.nil_append] at aN
  rcases Nat.lt_or_eq_of_le iF with bW|rfl
  ·have dR:=L0 i u bW hu
   have hb:¬(u.1 == wd)=true:=fun h=>dR.1 (eq_of_beq h);k_steps
   all_goals first
    |(rename (_ == _)=true=>he;exact absurd (eq_of_beq he) dR.1)
    |skip
   dsimp only [fS];rename Obj.SetObjOf (PySem.strKind _ _) _ (fun k'=>_ || _) _=>hs2;refine ⟨_,[(_,_)],by assumption,by assumption,⟨_,rfl,bW,⟨by exact hm1,⟨tu,by exact hm2⟩,⟨tt,by exact O6⟩,by exact O8,_,?_,nk hu hs2⟩⟩,rfl,rfl⟩
   split<;>first|exact Nat.succ_le_succ (by assumption)|exact Nat.le_succ_of_le (by assumption)
  ·obtain ⟨ua,ub⟩:=u
   refine ak (Prod.mk.inj (Option.some.inj (hu.symm.trans hj))) fun aj aZ=>?_;subst aj;subst aZ;dsimp only at hT
   have aal:¬ub∈(us.take i).map (·.2):=by
    intro h;refine am (aP h) fun u' aj=>?_;refine ak aj fun Pz e=>?_;refine fh (List.mem_iff_getElem.mp Pz) fun i' LV e'=>?_
    have PT:i'<i:=by rw [List.length_take] at LV;exact i4 LV
    refine (L0 i' u' PT ?_).2 e;rw [<-e',List.getElem_take];exact List.getElem?_eq_getElem _
   have hb:(ua == ua)=true:=beq_self_eq_true ua;k_steps
   all_goals first
    |(rename (_ == _)=false=>he;rw [beq_self_eq_true] at he;cases he)
    |skip
   dsimp only [fS];k_steps
   (rename Ret _=>hr)
   refine hr.out _ _ _ _ _ ?_ _ (by assumption) (by exact bf (by assumption) (by exact cz [0,3,4,5] rfl)) (by walk_at "kept") (by walk_at "same") (by walk_at "fresh");exact um ub
 ·intros aC eI s₁ aj;refine ak aj fun iF _=>?_
  exact absurd (List.getElem?_eq_some_iff.mp hj).1 (Nat.not_lt.mpr iF)
theorem HW {w:World}
 (W d:Addr)
 (n:WN)
 (n1:Nat)
 (x:WS)
 (t1:Tok)
 (q wd:Str)
 (Z:Braced q wd (ofString "k"))
 (rows:bk)
 (us:List (Str×Str))
 (ba:us.length<1000)
 (j:Nat)
 (P:Str)
 (hj:us[j]?=some (wd,P))
 (L0:∀i u,i<j->us[i]?=some u->u.1≠wd/\u.2≠P)
 (hP:1<=P.length)
 (Ra:P.length<=1000)
 (a1:x.decl∉[W,d,x.data])
 (a2:∀r∈rows,r.1∉[W,d,x.data]):
 Ct w 5 300 90 [.ref W, .str q t1] [] (W0 w.params W d n n1 x []) (fun h=>RowsAt h x.decl rows us)
  (fun h₀ L m s Q=>∀q tx t1 t2 t3,tx=P++ofString ":k"->dj [W,d,x.data] ((q,aO [.str tx t1, .str (ofString "k") t2, .str wd t3])::W0 w.params W d n n1 x []) h₀ L m s (fun s'=>s.heap.get? q=none->Q (.ref q) s')):= @HV w W d n n1 x t1 q wd rows us j P Z ba hj L0 hP Ra a1 a2
structure TwoStacks (h:Heap) (top:Addr) (items:Array Value) (init:bk) (us:List (Str×Str)) (nss:Addr) (nrows:bk) (vs:List (Str×Str)):Prop where
 row:∀r∈init,h.IsList r.1 r.2
 sz:∀r∈init++[(top,items)],(r.2.size:Int)<2 ^ 63
 it:PairsAt h (cr (init++[(top,items)])) us
 ns:RowsAt h nss nrows vs
theorem TwoStacks.kept {h g:Heap} {as:List Addr} {top:Addr} {items:Array Value} {init:bk} {us:List (Str×Str)} {nss:Addr} {nrows:bk} {vs:List (Str×Str)} (x:TwoStacks h top items init us nss nrows vs) (k:Kept as h g)
  (hi:∀r∈init,r.1∉as) (hn:nss∉as) (hr:∀r∈nrows,r.1∉as) (hc:∀a∈as,∀o,h.get? a=some o->o.cls≠ .type "tuple"):TwoStacks g top items init us nss nrows vs:=
 ⟨fun r h'=>(x.row r h').at fun o e=>k _ o (hi r h') e,x.sz,x.it.kept k hc,x.ns.kept k hn hr hc⟩
theorem bo {g h:Heap} {L a:Addr} {news:ax} {vs:Array Value} {n:Nat} (N:News g L h news) (hm:(a,listOf vs n)∈news):h.IsList a vs:=⟨_,N.get hm,rfl,n,rfl⟩
theorem sR {g h:Heap} {L a S:Addr} {o:Obj} {news:ax} (N:News g L h news) (hm:(a,o)∈news) (dR:a≠S):a∉L::[S]:=by
 intro q;refine Or.elim (aB q) (fun e=>?_) fun q=>?_
 ·exact (N _ hm).2.1 e
 ·exact dR (br q)
theorem tE {h₀ h:Heap} {L:Addr} {m:Str->Option Value} {l:Addr} {vs:Array Value} (hl:h₀.IsList l vs) (F:Fr h₀ L h m):l∉L::(([]:ax).map (·.1)):=by
 refine am hl fun o aj=>?_;clear hl;refine ak aj fun ho _=>?_;intro hm
 rcases aB hm with rfl|hm
 ·exact absurd (Heap.lt_size ho) (Nat.not_lt.mpr F.above)
 ·cases hm
noncomputable abbrev bc (rows:bk):List Value:=rows.map fun r=>Value.ref r.1
noncomputable def kt (w:World) (W d top:Addr) (n:WN) (n1 n2 n3:Nat) (x:WS) (items:Array Value) (t1:Tok) (q wd:Str) (init nrows:bk) (us vs:List (Str×Str)) (j:Nat) (P:Str) (_:Nat):Prop:=∀(Z:Braced q wd (ofString "k")) (ba:us.length<1000) (Rn:∀u∈us,u.1≠wd) (hj:vs[j]?=some (wd,P)) (L0:∀i u,i<j->vs[i]?=some u->u.1≠wd) (hP:1<=P.length) (Ra:P.length<=1000) (hw:1<=wd.length) (hwl:wd.length<=1000) (e_:items.size<=1000) (b1: @Ne Nat W x.decl) (b2: @Ne Nat d x.decl) (b3: @Ne Nat x.data x.decl) (b4: @Ne Nat W top) (b5: @Ne Nat d top) (b6: @Ne Nat x.data top) (b7: @Ne Nat x.decl top) (a1:x.nss∉[W,d,x.data,x.decl,top]) (a2:∀r∈nrows,r.1∉[W,d,x.data,x.decl,top]) (a3:∀r∈init,r.1∉[W,d,x.data,x.decl,top]),
 Ct w 5 300 90 [.ref W, .str q t1] [] (W0 w.params W d n n1 x [(x.decl,listOf (bc init++[Value.ref top]).toArray n2),(top,listOf items n3)]) (fun h=>TwoStacks h top items init us x.nss nrows vs)
  (fun h₀ L m s Q=>∀q q2 tx t1 t2 t3 t4 t5 n_,tx=P++ofString ":k"->dj [W,d,x.data,x.decl,top] ((q,aO [.str tx t1, .str (ofString "k") t2, .str wd t3])::(q2,aO [.str wd t4, .str P t5])::
   W0 w.params W d n n1 x [(x.decl,listOf (bc init++[Value.ref top]).toArray n2),(top,listOf (items.push (Value.ref q2)) n_)]) h₀ L m s (fun s'=>s.heap.get? q=none->s.heap.get? q2=none->Q (.ref q) s'))
noncomputable def vF:=bA (gP kt) ((bw,0,0,0,⟨0,false,false⟩,0,0,0),(⟨0,0,0,0,0,0,fun _=>0⟩,#[],0,⟨#[]⟩,⟨#[]⟩,[],[],[]),([],0,⟨#[]⟩,0))
theorem HT:∀{w W d top n n1 n2 n3 x items t1 q wd init nrows us vs j P},kt w W d top n n1 n2 n3 x items t1 q wd init nrows us vs j P 0:=by
 intros;apply gB kt (c:=vF) rfl;apply (?zg:gl kt);intros w W d top n n1 n2 n3 x items t1 q wd init nrows us vs j P _;intros Z ba Rn hj L0 hP Ra hw hwl e_ b1 b2 b3 b4 b5 b6 b7 a1 a2 a3;walk_at "ctS";dsimp only [W0] at *;rename News _ _ (Shared.heap _) _=>N0;rename TwoStacks _ _ _ _ _ _ _ _=>R0;rename Kept _ _ _=>K0;have hR:=TwoStacks.kept R0 K0 a3 a1 a2 (lE N0 (by rfl));clear N0 R0;have z1:=Z.z;have z2:=Z.tl;have z3:=Z.split
 have hb0:(Txt.slice q none (some 1) == ofString "{")=true:=by rw [Z.head];rfl
 k_steps
 all_goals first
  |(rename (Txt.slice _ _ _ == _)=false=>he;rw [Z.head] at he;cases he)
  |skip
 rename Obj.SetObjOf (PySem.strKind _ _) _ _ _=>O5;refine oZ (rows:=init++[(top,items)]) (us:=us) (fun S i m so=>JQ rw_ty0067_01.row.prog w W wd (ofString "k") us S i m so) (by assumption) (by assumption) (by assumption) (by assumption) (by ktr_room) rfl ?_ ?_ hR.sz hR.it ?_ ?_ ?_ ?_ ?_
 ·have:=bo (a:=x.decl) (by assumption) (by k_mem)
  simpa [bc] using this
 ·intro r hr
  refine Or.elim (aE hr) (fun hr=>?_) fun hr=>?_
  ·exact (hR.row r hr).at fun o e=>Fr.keep (by assumption) _ _ e
  ·rw [br hr]
   exact bo (a:=top) (by assumption) (by k_mem)
 ·exact sR (a:=x.decl) (by assumption) (by k_mem) (by k_ne)
 ·intro r hr
  refine Or.elim (aE hr) (fun hr=>?_) fun hr=>?_
  ·exact jq (hR.row r hr) (by assumption) (by assumption)
  ·rw [br hr]
   exact sR (a:=top) (by assumption) (by k_mem) (by k_ne)
 ·exact ⟨by rfl,⟨_,by rfl⟩,⟨_,by rfl⟩,by rfl,0,Nat.le_refl _,by simpa using O5⟩
 ·intros i u q t2 t3 aC eI KH s₁ hu hq aj;obtain ⟨hm1,⟨tu,hm2⟩,⟨tt,O6⟩,O8,c,hc,jK⟩:=aj;intros aU aN hp hS
  have hT:IsTup s₁.heap q #[.str u.1 t2, .str u.2 t3]:=⟨_,aU.keep _ _ hq,rfl,0,rfl⟩;have fW:i<us.length:=(List.getElem?_eq_some_iff.mp hu).1;clear O5;simp only [List.cons_append,List.nil_append] at aN;have dR:=Rn u (List.mem_of_getElem? hu);have hb:¬(u.1 == wd)=true:=fun h=>dR (eq_of_beq h);k_steps
  all_goals first
   |(rename (_ == _)=true=>he;exact absurd (eq_of_beq he) dR)
   |skip
  dsimp only [fS];rename Obj.SetObjOf (PySem.strKind _ _) _ (fun k'=>_ || _) _=>hs2;refine ⟨_,[(_,_)],by assumption,by assumption,⟨_,rfl,⟨by exact hm1,⟨tu,by exact hm2⟩,⟨tt,by exact O6⟩,by exact O8,_,?_,nk hu hs2⟩⟩,rfl,rfl⟩
  split<;>first|exact Nat.succ_le_succ (by assumption)|exact Nat.le_succ_of_le (by assumption)
 ·intros aC eI s₁ aj;obtain ⟨hm1,⟨tu,hm2⟩,⟨tt,O6⟩,O8,c,hc,jK⟩:=aj;intros aU aN hS
  clear O5;k_steps;refine tH (news:=[]) (rows:=nrows) (us:=vs) (fun i aC ao=>ao=[]/\i<=j/\aC "self"=some (.ref W)/\(∃t,aC "uri"=some (.str wd t))/\(∃t,aC "tag"=some (.str (ofString "k") t))) (by assumption) (by assumption) aN (by assumption) (by ktr_room) rfl (hR.ns.st.at fun o e=>aU.keep _ _ e) (fun r hr=>(hR.ns.row r hr).at fun o e=>aU.keep _ _ e) hR.ns.sz hR.ns.it (tE hR.ns.st aU) (fun r hr=>tE (hR.ns.row r hr) aU) ?_ ?_ ?_ ?_
  ·intros i bj pL aj;refine ak aj fun aZ _=>?_;subst aZ;intro p hp
   cases hp
  ·exact ⟨rfl,Nat.zero_le _,hm1,⟨tu,hm2⟩,⟨tt,O6⟩⟩
  ·intros i u q t2 t3 bj pL KH aG hu hq aj;refine bv aj fun aZ iF hm1 bU dK=>?_;subst aZ;refine am bU fun tu hm2=>?_;refine am dK fun tt O6=>?_;intros bV ce hp jM
   have hT:IsTup aG.heap q #[.str u.1 t2, .str u.2 t3]:=⟨_,bV.keep _ _ hq,rfl,0,rfl⟩;have fW:i<vs.length:=(List.getElem?_eq_some_iff.mp hu).1;simp only [List.cons_append,List.nil_append] at ce;clear aN aU
   rcases Nat.lt_or_eq_of_le iF with bW|rfl
   ·have dR:=L0 i u bW hu
    have hb:¬(u.1 == wd)=true:=fun h=>dR (eq_of_beq h);k_steps
    all_goals first
     |(rename (_ == _)=true=>he;exact absurd (eq_of_beq he) dR)
     |skip
    dsimp only [fS];exact ⟨_,[],by assumption,by assumption,⟨rfl,bW,by exact hm1,⟨tu,by exact hm2⟩,⟨tt,by exact O6⟩⟩,rfl,rfl⟩
   ·obtain ⟨ua,ub⟩:=u
    refine ak (Prod.mk.inj (Option.some.inj (hu.symm.trans hj))) fun aj aZ=>?_;subst aj;subst aZ;dsimp only at hT;have hpt:∀p∈KH,p.1≠top:=fun p h e=>hp p h (by simp [e]);have hb:(ua == ua)=true:=beq_self_eq_true ua;k_steps
    all_goals first
     |(rename (_ == _)=false=>he;rw [beq_self_eq_true] at he;cases he)
     |skip
    dsimp only [fS];k_steps
    (rename Ret _=>hr)
    refine hr.out _ _ _ _ _ _ _ _ _ ?_ _ (by assumption) (bf (by assumption) (by
     refine aQ ⟨by k_memK,?_⟩;refine aQ ⟨by k_memK,?_⟩;refine aQ ⟨by k_memK,?_⟩;refine aQ ⟨by k_memK,?_⟩;refine aQ ⟨by k_memK,?_⟩;refine aQ ⟨by k_memK,?_⟩;refine aQ ⟨by k_memK,?_⟩
     exact List.forall_mem_nil _)) (by walk_at "kept") (by exact hS.trans jM) (by walk_at "fresh") (by walk_at "fresh")
    exact um _
  ·intros bj pL aG aj;refine aI aj fun _ iF _=>?_
   exact absurd (List.getElem?_eq_some_iff.mp hj).1 (Nat.not_lt.mpr iF)
theorem HU {w:World}
 (W d top:Addr)
 (n:WN)
 (n1 n2 n3:Nat)
 (x:WS)
 (items:Array Value)
 (t1:Tok)
 (q wd:Str)
 (Z:Braced q wd (ofString "k"))
 (init nrows:bk)
 (us vs:List (Str×Str))
 (ba:us.length<1000)
 (Rn:∀u∈us,u.1≠wd)
 (j:Nat)
 (P:Str)
 (hj:vs[j]?=some (wd,P))
 (L0:∀i u,i<j->vs[i]?=some u->u.1≠wd)
 (hP:1<=P.length)
 (Ra:P.length<=1000)
 (hw:1<=wd.length)
 (hwl:wd.length<=1000)
 (e_:items.size<=1000)
 (b1: @Ne Nat W x.decl)
 (b2: @Ne Nat d x.decl)
 (b3: @Ne Nat x.data x.decl)
 (b4: @Ne Nat W top)
 (b5: @Ne Nat d top)
 (b6: @Ne Nat x.data top)
 (b7: @Ne Nat x.decl top)
 (a1:x.nss∉[W,d,x.data,x.decl,top])
 (a2:∀r∈nrows,r.1∉[W,d,x.data,x.decl,top])
 (a3:∀r∈init,r.1∉[W,d,x.data,x.decl,top]):
 Ct w 5 300 90 [.ref W, .str q t1] [] (W0 w.params W d n n1 x [(x.decl,listOf (bc init++[Value.ref top]).toArray n2),(top,listOf items n3)]) (fun h=>TwoStacks h top items init us x.nss nrows vs)
  (fun h₀ L m s Q=>∀q q2 tx t1 t2 t3 t4 t5 n_,tx=P++ofString ":k"->dj [W,d,x.data,x.decl,top] ((q,aO [.str tx t1, .str (ofString "k") t2, .str wd t3])::(q2,aO [.str wd t4, .str P t5])::
   W0 w.params W d n n1 x [(x.decl,listOf (bc init++[Value.ref top]).toArray n2),(top,listOf (items.push (Value.ref q2)) n_)]) h₀ L m s (fun s'=>s.heap.get? q=none->s.heap.get? q2=none->Q (.ref q) s')):= @HT w W d top n n1 n2 n3 x items t1 q wd init nrows us vs j P Z ba Rn hj L0 hP Ra hw hwl e_ b1 b2 b3 b4 b5 b6 b7 a1 a2 a3
section
open PySem.Builtin PySem.Builtin.Str
noncomputable abbrev aS (w:PySem.Str):PySem.Str:=ofString "{"++w++ofString "}k"
theorem Kv (w:PySem.Str):aS w=ofString "{"++di w:=PySem.Str.append_assoc ..
theorem eD (w:PySem.Str):(aS w).cps=#[123]++w.cps++#[125,107]:=rfl
theorem fC (w:PySem.Str):(aS w).length=w.length+3:=by
 show (aS w).cps.size=w.cps.size+3;rw [eD];simp;exact zv
theorem sU (x:PySem.Str):decide (Builtin.Str.strKind x<Builtin.Str.strKind (ofString "}"))=false:=by
 have h:Builtin.Str.strKind (ofString "}")=1:=by decide+kernel
 rw [h,decide_eq_false_iff_not];unfold Builtin.Str.strKind
 repeat' split
 all_goals lia
theorem ug (w:PySem.Str):Txt.slice (aS w) (some 1) none=di w:=by
 show PySem.StrLaws.sliceText (aS w) (some 1) none=_;rw [PySem.StrLaws.sliceText_from ⟨by decide,by rw [Array.length_toList];show (1:Int)<=((aS w).length:Int);rw [fC];exact qU⟩];apply Str.ext'
 have e:((aS w).cps.toList.length:Int) - 1=((w.length+2:Nat):Int):=by
  rw [Array.length_toList];show ((aS w).length:Int) - 1=_;rw [fC];exact zu
 rw [e,eD,lT,Int.toNat_natCast];show (List.take (w.length+2) (List.drop 1 (#[123]++w.cps++#[125,107]).toList)).toArray=_
 have e2:List.drop 1 (#[123]++w.cps++#[125,107]).toList=w.cps.toList++[125,107]:=by simp
 rw [e2,List.take_of_length_le (by simp [PySem.Str.length])];simp
theorem Iw (w:PySem.Str) (hw:w.length<=1000):Braced (aS w) w (ofString "k") where
 z:=by rw [fC,sizeLine_eq];exact zt hw
 head:=by
  show PySem.StrLaws.sliceText (aS w) none (some 1)=_;rw [PySem.StrLaws.sliceText_to ⟨by decide,by rw [Array.length_toList];show (1:Int)<=((aS w).length:Int);rw [fC];exact qU⟩];apply Str.ext';rw [eD];simp;rfl
 tl:=by rw [ug,lS,sizeLine_eq];exact zr hw
 split:=by rw [ug];exact wW w (sU _)
noncomputable def dL (s sub:PySem.Str) (hi F_:Nat) (st:Array Nat×Nat) (i:Nat):Array Nat×Nat:=if (decide (st.1.size<F_) && decide (st.2<=i) && decide (i+sub.length<=hi) && subAt s sub i)=true then (st.1.push i,i+sub.length) else st
theorem sk (s sub:PySem.Str) (lo hi F_:Nat):occurrences s sub lo hi F_=((List.range' lo (hi+1 - lo)).foldl (dL s sub hi F_) (#[],lo)).1.toList:=occ_eq s sub lo hi F_
theorem Hp (s sub:PySem.Str) (hi:Nat) (l:List Nat) (st:Array Nat×Nat) (h:st.1.size=1):l.foldl (dL s sub hi 1) st=st:=by
 induction l with
 |nil=>rfl
 |cons a l ih=>
  have e:dL s sub hi 1 st a=st:=by unfold dL;rw [if_neg (by simp [h])]
  rw [List.foldl_cons,e];exact ih
theorem tJ (s sub:PySem.Str) (hi:Nat) (st:Array Nat×Nat):∀l:List Nat,(∀i∈l,subAt s sub i=false)->l.foldl (dL s sub hi 1) st=st
 |[],_=>rfl
 |a::l,h=>by
  have e:dL s sub hi 1 st a=st:=by unfold dL;rw [if_neg (by simp [h a (.head _)])]
  rw [List.foldl_cons,e];exact tJ s sub hi st l fun i hi=>h i (.tail _ hi)
theorem qu (s:PySem.Str) (c i:Nat):subAt s ⟨#[c]⟩ i=(s.cps[i]? == some c):=by
 unfold subAt;show (s.cps.extract i (i+1) == #[c])=_
 by_cases h:i<s.cps.size
 ·have:s.cps.extract i (i+1)=#[s.cps[i]]:=by
   apply Array.ext (by simp;exact zq h);intros j h1 h2;simp at h2;subst h2;simp
  rw [this,Array.getElem?_eq_getElem h]
  by_cases q:s.cps[i]=c
  ·simp [q]
  ·have q1:(#[s.cps[i]] == #[c])=false:=by simp [q]
   have q2:(some s.cps[i] == some c)=false:=by simp [q]
   rw [q1,q2]
 ·rw [Array.extract_empty_of_size_le_start (q5 h),Array.getElem?_eq_none (q5 h)]
  rfl
theorem sn (w:PySem.Str) (hw:125∉w.cps.toList):occurrences (aS w) (ofString "}") 0 (aS w).length 1=[w.length+1]:=by
 have hb:ofString "}"=⟨#[125]⟩:=by rfl
 have hn:=fC w;rw [sk,hn,hb]
 have e:List.range' 0 (w.length+3+1 - 0)=List.range' 0 (w.length+1)++(w.length+1)::List.range' (w.length+2) 2:=by
  rw [show w.length+3+1 - 0=(w.length+1)+3 by exact zp,<-List.range'_append_1,Nat.zero_add];rfl
 have Xk:∀i∈List.range' 0 (w.length+1),subAt (aS w) ⟨#[125]⟩ i=false:=by
  intro i hi;rw [qu,eD]
  have LV:i<w.length+1:=by simpa using hi
  have:(#[123]++w.cps++#[125,107])[i]?≠some 125:=by
   rw [Array.getElem?_append_left (by simp [PySem.Str.length] at LV ⊢;exact zo LV)]
   cases i with
   |zero=>rw [Array.getElem?_append_left (by simp)];simp
   |succ i=>
    have e:(#[123]++w.cps)[i+1]?=w.cps[i]?:=by rw [Array.getElem?_append_right (by simp)];simp
    rw [e];intro q;obtain ⟨h1,h2⟩:=Array.getElem?_eq_some_iff.mp q;exact hw (by rw [<-h2];simp)
  simpa using this
 have e2:dL (aS w) ⟨#[125]⟩ (w.length+3) 1 (#[],0) (w.length+1)=(#[w.length+1],w.length+2):=by
  unfold dL
  have e3:subAt (aS w) ⟨#[125]⟩ (w.length+1)=true:=by
   rw [qu,eD]
   have:(#[123]++w.cps++#[125,107])[w.length+1]?=some 125:=by
    rw [Array.getElem?_append_right (by simp [PySem.Str.length];exact zm)];simp [PySem.Str.length,show w.cps.size+1 - (1+w.cps.size)=0 by exact zl]
   rw [this];rfl
  rw [e3];rw [if_pos (by simp [PySem.Str.length])];rfl
 rw [e,List.foldl_append,tJ _ _ _ _ _ Xk,List.foldl_cons,e2,Hp _ _ _ _ _ rfl]
theorem wY (w:PySem.Str) (hw:125∉w.cps.toList):SplitL (aS w) (ofString "}") (ofString "{"++w) (ofString "k") where
 fit:=by
  rw [sU,fC,Bool.or_false,decide_eq_false_iff_not];show ¬(w.length+3<1);exact zk
 ne:=by rfl
 some:=by rw [sn w hw];rfl
 parts:=by
  rw [sn w hw];unfold partsBetween
  have e1:strSub (aS w) 0 (w.length+1)=ofString "{"++w:=by
   unfold strSub;apply Str.ext';show ((aS w).cps).extract 0 (w.cps.size+1)=#[123]++w.cps;rw [eD]
   have h:(#[123]++w.cps).size=w.cps.size+1:=by simp;exact qT
   rw [Array.extract_append,h,Nat.zero_sub,Nat.sub_self]
   have h2:(#[123]++w.cps).extract 0 (w.cps.size+1)=#[123]++w.cps:=by rw [<-h];exact Array.extract_size
   rw [h2];simp
  have e2:strSub (aS w) (w.length+2) (w.length+3)=ofString "k":=by
   unfold strSub;apply Str.ext';show ((aS w).cps).extract (w.cps.size+2) (w.cps.size+3)=#[107];rw [eD]
   have h:(#[123]++w.cps).size=w.cps.size+1:=by simp;exact qT
   rw [Array.extract_append,h];have h2:(#[123]++w.cps).extract (w.cps.size+2) (w.cps.size+3)=#[]:=Array.extract_empty_of_size_le_start (zj h);rw [h2,show w.cps.size+2 - (w.cps.size+1)=1 by exact zi,show w.cps.size+3 - (w.cps.size+1)=2 by exact zh];rfl
  show [strSub (aS w) 0 (w.length+1),strSub (aS w) (w.length+1+1) (aS w).length]=_;rw [fC,e1,e2]
theorem wX:SplitN (ofString "e") (ofString "}") where
 fit:=by decide+kernel
 ne:=by rfl
 none:=by decide+kernel
end
section
open PySem.Builtin PySem.Builtin.Str
noncomputable abbrev cl (x:PySem.Str):List Nat:=x.cps.toList
theorem bF (x y:PySem.Str):cl (x++y)=cl x++cl y:=by show (x.cps++y.cps).toList=_;simp
theorem bK (x:PySem.Str):(cl x).length=x.length:=by simp [PySem.Str.length]
theorem ed {x y:PySem.Str} (h:cl x=cl y):x=y:=PySem.Str.ext' (Array.toList_inj.mp h)
theorem kP (x y:PySem.Str) (i:Nat):subAt x y i=true↔((cl x).drop i).take y.length=cl y:=by
 unfold subAt;rw [beq_iff_eq,<-Array.toList_inj,Array.toList_extract];simp only [List.extract_eq_take_drop,Nat.add_sub_cancel_left]
theorem mZ {x y:PySem.Str} {i:Nat} {r:List Nat} (h:(cl x).drop i=cl y++r):subAt x y i=true:=by
 rw [kP,h,<-bK,List.take_left]
theorem iT {x y:PySem.Str} {i c:Nat} {t:List Nat} (hy:cl y=c::t) (h:subAt x y i=true):(cl x)[i]?=some c:=by
 rw [kP,hy,<-bK,hy] at h;have h2:=congrArg (fun l:List Nat=>l[0]?) h
 simpa using h2
noncomputable def fB (k:Nat):Nat->List PySem.Str->List Nat
 |_,[]=>[]
 |_,[_]=>[]
 |o,p::q::r=>(o+p.length)::fB k (o+p.length+k) (q::r)
theorem lM (s sub:PySem.Str) (hi W2:Nat) (st:Array Nat×Nat):∀l:List Nat,(∀i∈l,i+sub.length<=hi->st.2<=i->subAt s sub i=false)->l.foldl (dL s sub hi W2) st=st
 |[],_=>rfl
 |a::l,h=>by
  have e:dL s sub hi W2 st a=st:=by
   unfold dL;rw [if_neg];simp only [Bool.and_eq_true,decide_eq_true_eq,not_and];intro h1 h2;rw [h a (.head _) h1.2 h1.1.2] at h2
   cases h2
  rw [List.foldl_cons,e];exact lM s sub hi W2 st l fun i hi=>h i (.tail _ hi)
theorem fN (y p q:PySem.Str) (r:List PySem.Str):cl (Str.join y (p::q::r))=cl p++(cl y++cl (Str.join y (q::r))):=by
 show cl (p++y++Str.join y (q::r))=_;rw [bF,bF,List.append_assoc]
theorem sm (x y:PySem.Str) {c:Nat} {t:List Nat} (hy:cl y=c::t):∀(ps:List PySem.Str) (o:Nat) (found:Array Nat),ps≠[]->(∀p∈ps,c∉cl p)->(cl x).drop o=cl (Str.join y ps)->o<=x.length->found.size<=o->
  ((List.range' o (x.length+1 - o)).foldl (dL x y x.length (x.length+1)) (found,o)).1.toList=found.toList++fB y.length o ps
 |[],_,_,h,_,_,_,_=>absurd rfl h
 |[p],o,found,_,hf,hd,ho,_=>by
  rw [lM]
  ·simp [fB]
  ·intros i hi aae Uu
   have LC:=List.mem_range'_1.mp hi
   cases hs:subAt x y i with
   |false=>rfl
   |true=>
    have h1:=iT hy hs
    have h2:((cl x).drop o)[i - o]?=some c:=by
     rw [List.getElem?_drop,show o+(i - o)=i by exact nF LC.1];exact h1
    rw [hd] at h2;exact absurd (List.mem_of_getElem? h2) (hf p (.head _))
 |p::q::r,o,found,_,hf,hd,ho,Rv=>by
  have SU:1<=y.length:=by rw [<-bK,hy];simp
  have Mn:=hd;rw [fN] at Mn
  have ba:x.length - o=p.length+(y.length+(Str.join y (q::r)).length):=by
   have:=congrArg List.length Mn;simp only [List.length_drop,List.length_append,bK] at this;exact this
  have e:List.range' o (x.length+1 - o)=List.range' o p.length++((o+p.length)::(List.range' (o+p.length+1) (y.length - 1)++List.range' (o+p.length+y.length) (x.length+1 - (o+p.length+y.length)))):=by
   rw [show x.length+1 - o=p.length+(1+((y.length - 1)+(x.length+1 - (o+p.length+y.length)))) by exact Ab ba SU,<-List.range'_append_1,<-List.range'_append_1,<-List.range'_append_1];rw [show o+p.length+1+(y.length - 1)=o+p.length+y.length by exact Aa SU];rfl
  rw [e,List.foldl_append,lM _ _ _ _ _ (List.range' o p.length)]
  ·rw [List.foldl_cons]
   have Md:(cl x).drop (o+p.length)=cl y++cl (Str.join y (q::r)):=by
    rw [<-List.drop_drop,Mn,<-bK,List.drop_left]
   have e2:dL x y x.length (x.length+1) (found,o) (o+p.length)=(found.push (o+p.length),o+p.length+y.length):=by
    unfold dL;rw [if_pos];simp only [Bool.and_eq_true,decide_eq_true_eq];refine ⟨⟨⟨?_,?_⟩,?_⟩,mZ Md⟩
    ·show found.size < _;exact zZ ho Rv
    ·show o<=_;exact zY
    ·exact qX ba SU
   rw [e2,List.foldl_append,lM _ _ _ _ _ (List.range' (o+p.length+1) (y.length - 1))]
   ·have SX:(cl x).drop (o+p.length+y.length)=cl (Str.join y (q::r)):=by
     rw [<-List.drop_drop,Md,<-bK,List.drop_left]
    rw [sm x y hy (q::r) _ _ (by simp) (fun p' Mh=>hf p' (.tail _ Mh)) SX (qX ba SU) (by rw [Array.size_push];exact zX SU Rv)];simp [fB]
   ·intros i hi _ Uu
    have LC:=List.mem_range'_1.mp hi;exact absurd Uu (by show ¬(o+p.length+y.length<=i);exact zW LC.1 LC.2)
  ·intros i hi _ _
   have LC:=List.mem_range'_1.mp hi
   cases hs:subAt x y i with
   |false=>rfl
   |true=>
    have h1:=iT hy hs
    have h2:((cl x).drop o)[i - o]?=some c:=by
     rw [List.getElem?_drop,show o+(i - o)=i by exact nF LC.1];exact h1
    rw [Mn,List.getElem?_append_left (by rw [bK];exact zV LC.2 LC.1)] at h2;exact absurd (List.mem_of_getElem? h2) (hf p (.head _))
theorem qy (x:PySem.Str) (i j:Nat):cl (strSub x i j)=((cl x).drop i).take (j - i):=by
 unfold strSub cl;rw [Array.toList_extract,List.extract_eq_take_drop]
theorem sb (x y:PySem.Str):∀(ps:List PySem.Str) (o:Nat),ps≠[]->(cl x).drop o=cl (Str.join y ps)->o<=x.length->
  ((o::(fB y.length o ps).map (·+y.length)).zip (fB y.length o ps++[x.length])).map (fun (i,j)=>strSub x i j)=ps
 |[],_,h,_,_=>absurd rfl h
 |[p],o,_,hd,ho=>by
  simp only [fB,List.map_nil,List.nil_append,List.zip_cons_cons,List.zip_nil_left,List.map_cons,List.map_nil]
  congr 1
  apply ed;rw [qy,hd];have ba:=congrArg List.length hd;simp only [List.length_drop,bK] at ba;rw [List.take_of_length_le (by rw [bK];exact zU ba)];rfl
 |p::q::r,o,_,hd,ho=>by
  rw [fN] at hd
  have ba:x.length - o=p.length+(y.length+(Str.join y (q::r)).length):=by
   have:=congrArg List.length hd;simp only [List.length_drop,List.length_append,bK] at this;exact this
  have SX:(cl x).drop (o+p.length+y.length)=cl (Str.join y (q::r)):=by
   rw [<-List.drop_drop,<-List.drop_drop,hd,<-bK,<-bK,List.drop_left,List.drop_left]
  have ih:=sb x y (q::r) (o+p.length+y.length) (by simp) SX (zT ba ho);rw [fB,List.map_cons,List.cons_append,List.zip_cons_cons,List.map_cons,ih]
  congr 1
  apply ed;show cl (strSub x o (o+p.length))=_;rw [qy,hd,show o+p.length - o=p.length by exact zS,<-bK,List.take_left]
theorem Gu (x y:PySem.Str) (h:Builtin.Str.strKind y=1):decide (Builtin.Str.strKind x<Builtin.Str.strKind y)=false:=by
 rw [h,decide_eq_false_iff_not];unfold Builtin.Str.strKind
 repeat' split
 all_goals lia
theorem qB (y:PySem.Str) (ps:List PySem.Str) {c:Nat} {t:List Nat} (hy:cl y=c::t) (hk:Builtin.Str.strKind y=1) (dR:ps≠[]) (hf:∀p∈ps,c∉cl p):Txt.split (Txt.join y ps) y=ps:=by
 show Txt.split (glued y ps) y=ps;rw [PySem.StrLaws.glued_eq_join];generalize hx:Str.join y ps=x
 have ho:occurrences x y 0 x.length (x.length+1)=fB y.length 0 ps:=by
  rw [sk];have:=sm x y hy ps 0 #[] dR hf (by rw [List.drop_zero,hx]) (Nat.zero_le _) (by simp)
  simpa using this
 unfold Txt.split;rw [ho,Gu x y hk,Bool.or_false]
 match ps,dR,hx with
 |[p],_,hx=>
  have:p=x:=by rw [<-hx];rfl
  subst this
  split
  ·rfl
  ·rfl
 |p::q::r,_,hx=>
  have ba:x.length=p.length+(y.length+(Str.join y (q::r)).length):=by
   have:=congrArg (fun z=>(cl z).length) hx;simp only [fN,List.length_append,bK] at this;exact this.symm
  rw [if_neg (by simp only [decide_eq_true_eq];exact zQ ba),if_neg (by simp [fB])];unfold partsBetween;have h:=sb x y (p::q::r) 0 (by simp) (by rw [List.drop_zero,hx]) (Nat.zero_le _);exact h
theorem jj (x y:PySem.Str) (lo:Nat) (P3:lo<=x.length):(occurrences x y lo x.length 1=[]/\∀i,lo<=i->i+y.length<=x.length->subAt x y i=false)\/
  ∃k,occurrences x y lo x.length 1=[k]/\lo<=k/\k+y.length<=x.length/\subAt x y k=true/\∀i,lo<=i->i<k->subAt x y i=false:=by
 have Su:=PySem.StrLaws.occ_length_le x y lo x.length 1;rw [PySem.StrLaws.occ_eq] at Su ⊢
 rcases PySem.StrLaws.occ_first x y x.length 1 (Nat.le_refl _) (List.range' lo (x.length+1 - lo)) lo (fun i hi=>(List.mem_range'_1.mp hi).1) with ⟨h1,h2⟩|⟨LW,a,post,h1,h2,h3,h4⟩
 ·refine .inl ⟨by rw [h1],fun i h5 h6=>?_⟩
  cases hs:subAt x y i with
  |false=>rfl
  |true=>exact absurd ⟨h6,hs⟩ (h2 i (List.mem_range'_1.mpr ⟨h5,by exact zP h6⟩))
 ·refine ak (PySem.StrLaws.range'_split_from h1) fun h5 h6=>?_
  refine .inr ⟨a,?_,h5,h3.1,h3.2,fun i h7 h8=>?_⟩
  ·generalize (forIn (List.range' lo (x.length+1 - lo)) ((#[]:Array Nat),lo) (PySem.StrLaws.occBody x y x.length 1)).run.fst=z at h2 Su
   obtain ⟨l⟩:=z
   match l,h2,Su with
   |[b],h2,_=>simp at h2;rw [h2]
   |[],h2,_=>simp at h2
   |_::_::_,_,Su=>simp at Su
  ·cases hs:subAt x y i with
   |false=>rfl
   |true=>exact absurd ⟨by have:=h3.1;exact zO this h8,hs⟩ (h4 i (h6 i h7 h8))
end
noncomputable def bT (p:Addr):Obj:={cls:= .type "builtin_function_or_method",data:= .fields #[.builtin "list.append", .ref p]}
theorem Kl:True:=by
 (k_with "wB"=>((with_reducible refine wpAny_bind ?_)))
 (k_with "wP"=>((with_reducible refine wpAny_pure ?_)))
 (k_with "wF"=>(((with_reducible apply wpAny_ite_false);focus (kernel_rfl!;done))))
 trivial
theorem slot_md:Slot "method_descriptor" "__get__" "method_descriptor.__get__":=
 .of (owner:="method_descriptor") (n:="__get__") (by rw [typeLookup_type,builtinLookup_eq_fast];kernel_rfl) (by decide+kernel) (by decide+kernel) (by decide+kernel)
  (by first|exact .inl (by decide+kernel)|exact .inr (by decide+kernel)) (by rw [isSubtype_type];kernel_rfl)
theorem Hy:entryFor table "method_descriptor.__get__"=some Builtin.«method_descriptor.__get__»:=entryFor_of_tree (by kernel_rfl)
theorem IN (a b c:Value):argsOk "method_descriptor.__get__" ⟨[a,b,c],[]⟩:=by unfold argsOk;kernel_rfl
theorem Gg:typeLookup (.type "list") "append"=pure (some (.builtin "list.append")):=by rw [typeLookup_type,builtinLookup_eq_fast];kernel_rfl
theorem Ge:typeLookup (.type "method_descriptor") "__set__"=pure none:=by rw [typeLookup_type,builtinLookup_eq_fast];kernel_rfl
theorem Gf:typeLookup (.type "method_descriptor") "__delete__"=pure none:=by rw [typeLookup_type,builtinLookup_eq_fast];kernel_rfl
theorem E5:isSubtype (.type "list") (.type (".".intercalate ("list.append".cutAt '.').dropLast))=pure true:=by
 have e:".".intercalate ("list.append".cutAt '.').dropLast="list":=by decide+kernel
 rw [e,isSubtype_type];kernel_rfl
theorem wK:isSubtype (.type "list") (.type "module")=pure false:=by rw [isSubtype_type];kernel_rfl
theorem qF:Manifest.signature? "list.append"=some ⟨.oneArg,"list.append","append", .self,[⟨"object", .posOnly,true⟩]⟩:=by
 rw [signature?_of (id:="list.append") (n:=['d','n','e','p','p','a']) (o:=['t','s','i','l']) (by kernel_rfl) F.owner_list];kernel_rfl
theorem sV:builtinKind "list.append"=some .method:=by decide+kernel
theorem IE {x v:Value}:Bind.checkArgs "list.append" ⟨.oneArg,s!"{Bind.lastOf "list"}.{Bind.lastOf "list.append"}","append", .self,[⟨"object", .posOnly,true⟩]⟩ ⟨[x,v],[]⟩=pure ():=by kernel_rfl
theorem yf {as:Args}:(Code.builtin "list.append" as).quiet=true:=Code.quiet_builtin _ (by decide+kernel)
section
variable {prog:Program} {w:World} {M:Model} {A:Around} {E:Value->Shared->Prop} {s:Shared} {h₀:Heap} {L:Addr} {m:Str->Option Value} {news:ax}
noncomputable def iM (x p:Addr) (h:Heap):Prop:=h.get? x=some (bT p)
theorem GA {u p:Addr} {Q:Keeper->Shared->Prop} (ho:iM u p s.heap) (h:Q .machine s):wpAny M A (keeperOf (.ref u)) Q E s:=by
 unfold keeperOf;refine wpAny_bind (wpAny_load ho ?_);exact wpAny_pure h
theorem Iu {pos:Pos} {u p:Addr} {first:List Value} {args:List (Bool×Sem Value)} {Q:Value->Shared->Prop} (QP:args.any (·.1)=false)
  (h:wpAny M A (evalArgs (.ref u) true args []) (fun x s₁=>iM u p s₁.heap/\wpAny M A (call (.ref u) (first++x.pos) x.kw) Q E s₁) E s):wpAny M A (callWith pos (.ref u) first args []) Q E s:=by
 unfold callWith;refine wpAny_bind (wpAny_holding (wpAny_mono h (fun x s₁ aT=>wpAny_bind (wpAny_standAt ?_)) fun _ _ x=>x));refine ak aT fun ho OU=>?_;clear aT;rw [QP];refine wpAny_bind (GA ho ?_);exact wpAny_bind (wpAny_mono OU (fun r aG hr=>wpAny_bind (wpAny_holding (wpAny_point (wpAny_pure hr)))) fun _ _ x=>x)
theorem Iv {pos:Pos} {u p:Addr} {env:Env} {e:Expr} {Q:Value->Shared->Prop} (_N:News h₀ L s.heap news) (_hm:(u,bT p)∈news)
  (h:wpAny M A (eval e env) (fun v s₁=>iM u p s₁.heap/\wpAny M A (call (.ref u) [v]) Q E s₁) E s)
  (he:starEach [e] env=[(false,eval e env)]:=by rfl):
  wpAny M A (callWith pos (.ref u) [] (backTo pos (starEach [e] env)) []) Q E s:=by
 rw [he];refine Iu (p:=p) rfl ?_;refine evalArgs_plain ?_;exact spliced_cons (wpAny_mono h (fun _ _ q=>spliced_nil q) fun _ _ e=>e)
theorem Ig {p:Addr} {its:Array Value} {n:Nat} {v:Value} {Q:Unit->Shared->Prop} (ho:s.heap.get? p=some (listOf its n)) (h:Q () s):wpAny (model prog w) A (checkBoundCall "list.append" ⟨[.ref p,v],[]⟩) Q E s:=by
 have hT:s.TypeIs (.ref p) "list":=⟨_,ho,rfl⟩;have g1:=qF;have g2:=sV;have g3:=wK;have g4:=IE (x:= .ref p) (v:=v);unfold checkBoundCall;rw [qF,sV];dsimp only;rw [if_neg (by decide)];walk_at "wB";(with_reducible refine wpAny_isInstance (by assumption) (by assumption) ?_);walk_at "wF";walk_at "wB";wp_delta;walk_at "wB";wp_delta;(with_reducible apply wpAny_loadPart');(focus (heap_get;done));walk_at "wP";(with_reducible apply wpAny_ite_false);(focus (rfl;done));walk_at "wB";(with_reducible refine wpAny_typeOf (by assumption) ?_);exact wpAny_of_eq g4 h
theorem Iq {u p:Addr} {its:Array Value} {n:Nat} {v:Value} {Q:Value->Shared->Prop} (ho:iM u p s.heap) (hp:s.heap.get? p=some (listOf its n))
  (h:∀h',Heap.SameBut p s.heap h'->h'.get? p=some (listOf (its.push v) (n+1))->Q .none {s with heap:=h'}) (hsz:its.size<=sizeLine):
  wpAny (model prog w) A (call (.ref u) [v]) Q E s:=by
 refine wpAny_call (codeAny_of_tree ?_);show wpAny _ A.in1 (callAny (.ref u) ⟨[v],[]⟩) _ _ s;refine wpAny_bind (wpAny_load ho ?_);refine wpAny_ite_true rfl ?_;refine KFB.if_so rfl ?_;refine wpAny_bind (Ig hp ?_);refine wpAny_bind (wpAny_pure (wpAny_pure ?_));refine ⟨yf,codeAny_builtin entry_list_append ?_⟩;show wpAny _ _ (updateSeq p (·.push v) >>= fun _=>ret .none) _ _ s;refine wpAny_bind ?_;refine wpAny_updateSeq hp rfl (wpAny_pure (h _ (Heap.SameBut.update ..) ?_));rw [Heap.get?_update_self _ hp (by rw [mapSeq_push];rfl),mapSeq_push]
end
section
variable {prog:Program} {w:World} {A:Around} {E:Value->Shared->Prop} {h:Heap} {g:Array GenState} {d:Drawn} {t:Nat} {os:OsState} {a:Addr} {o:Obj}
theorem IP {R:Result->Shared->Prop} (hx:h.get? a=some o) (hc:o.cls= .type "list") (hq:R (.ok (.ret (.ref h.objs.size))) ⟨h.push (bT a),g,d,t,os⟩):
  codeAny (model prog w) A (.call (.builtin "method_descriptor.__get__") ⟨[.builtin "list.append", .ref a, .type "list"],[]⟩) R ⟨h,g,d,t,os⟩:=by
 have hT:(⟨h,g,d,t,os⟩:Shared).TypeIs (.ref a) "list":=⟨_,hx,hc⟩;have f8:=E5;have Xn:(⟨h,g,d,t,os⟩:Shared).TypeIs (.builtin "list.append") "method_descriptor":=type_list_append;refine codeAny_call_builtin slot_md.plain Hy (slot_md.check _ _ _ _ _ _ _ _ Xn (IN _ _ _) ?_)
 wp_delta;walk_at "wB";wp_delta;walk_at "wF";walk_at "wB";walk_at "wP";walk_at "wF";walk_at "wP";wp_delta;walk_at "wF";wp_delta;wp_delta;walk_at "wB";wp_delta;walk_at "wB";wp_delta;walk_at "wP";walk_at "wB";(with_reducible refine wpAny_isInstance (by assumption) (by assumption) ?_);walk_at "wF";walk_at "wP";walk_at "wB";wp_delta;wp_delta;walk_at "wF";wp_delta;wp_delta;walk_at "wB";(with_reducible refine wpAny_alloc' ?_);walk_at "wP";wp_delta;walk_at "wP";exact hq
theorem IQ {its:Array Value} {n:Nat} {tk:Tok} {Q:Fin->Shared->Prop} (hx:h.get? a=some (listOf its n)) (hq:Q (.done (.ret (.ref h.objs.size))) ⟨h.push (bT a),g,d,t,os⟩):
  wpAny (model prog w) A (Builtin.«object.__getattribute__» ⟨[.ref a, .str "append" tk],[]⟩) Q E ⟨h,g,d,t,os⟩:=by
 have hT:(⟨h,g,d,t,os⟩:Shared).TypeIs (.ref a) "list":=⟨_,hx,rfl⟩;have Xn:(⟨h,g,d,t,os⟩:Shared).TypeIs (.builtin "list.append") "method_descriptor":=type_list_append;have f4:=Gg;have f5:=type_list_append;have f6:=slot_md.lookup;have f7:=Ge;have f8:=Gf
 wp_delta;walk_at "wB";wp_delta;walk_at "wF";walk_at "wF";walk_at "wP";walk_at "wB";wp_delta;walk_at "wP";walk_at "wB";(with_reducible refine wpAny_typeOf (by assumption) ?_);walk_at "wB";wp_delta;walk_at "wB";(with_reducible refine wpAny_of_eq (by assumption) ?_);walk_at "wB";wp_delta;(with_reducible refine wpAny_specialOf_val (by assumption) (by assumption) ?_);walk_at "wB";wp_delta;walk_at "wB";wp_delta;walk_at "wB";(with_reducible refine wpAny_specialOf_val (by assumption) (by assumption) ?_);walk_at "wF";walk_at "wB";(with_reducible refine wpAny_specialOf_val (by assumption) (by assumption) ?_);walk_at "wP";walk_at "wF";walk_at "wP";wp_delta;wp_delta;walk_at "wB";wp_delta;walk_at "wB";wp_delta;walk_at "wB";wp_delta;(with_reducible apply wpAny_loadPart');(focus (heap_get;done));wp_delta;wp_delta;walk_at "wB";(with_reducible apply wpAny_loadPart');(focus (heap_get;done));(with_reducible apply wpAny_ite_true);(focus (kernel_rfl!;done));walk_at "wP";wp_delta;walk_at "wP";walk_at "wB";wp_delta;walk_at "wF";walk_at "wP";wp_delta;walk_at "wB";(with_reducible refine wpAny_rule ?_);walk_at "wP";wp_delta;wp_delta;walk_at "wB";(with_reducible refine wpAny_holding ?_);(with_reducible refine wpAny_call ?_);refine IP hx rfl ?_;exact wpAny_pure hq
theorem IR {its:Array Value} {n:Nat} {tk:Tok} {R:Result->Shared->Prop} (hx:h.get? a=some (listOf its n)) (hq:R (.ok (.ret (.ref h.objs.size))) ⟨h.push (bT a),g,d,t,os⟩):
  codeAny (model prog w) A (.call (.builtin "list.__getattribute__") ⟨[.ref a, .str "append" tk],[]⟩) R ⟨h,g,d,t,os⟩:=
 codeAny_call_builtin F.slot_list_getattribute.plain F.entry_list_ga (F.slot_list_getattribute.check _ _ _ _ _ _ _ _ (show (⟨h,g,d,t,os⟩:Shared).TypeIs (.ref a) "list" from ⟨_,hx,rfl⟩) (F.args_list_getattribute_2 _ _) (IQ hx hq))
theorem IS {its:Array Value} {n:Nat} {RS:Bool} {Q:Value->Shared->Prop} (hx:h.get? a=some (listOf its n)) (hq:Q (.ref h.objs.size) ⟨h.push (bT a),g,d,t+1,os⟩):wpAny (model prog w) A (getAttr (.ref a) "append" RS) Q E ⟨h,g,d,t,os⟩:=by
 have hT:∀t',(⟨h,g,d,t',os⟩:Shared).TypeIs (.ref a) "list":=fun _=>⟨_,hx,rfl⟩;have f2:=F.slot_list_getattribute.lookup;have f3:=F.slot_list_getattribute.bind (.ref a);unfold getAttr
 cases RS
 all_goals (
  walk_at "wB";wp_delta;walk_at "wB";(with_reducible refine wpAny_fresh' ?_);walk_at "wP";wp_delta;(with_reducible refine wpAny_holding ?_);walk_at "wB";wp_delta;walk_at "wB";(with_reducible apply wpAny_loadPart');(focus (heap_get;done));walk_at "wP";walk_at "wB";(with_reducible refine wpAny_of_eq (by assumption) ?_);walk_at "wF";wp_delta;walk_at "wB";wp_delta;walk_at "wF";walk_at "wP";walk_at "wB";(with_reducible refine wpAny_attempt ?_);(with_reducible refine wpAny_holding ?_);wp_delta;walk_at "wF";wp_delta;walk_at "wB";(with_reducible refine wpAny_of_eq (by assumption) ?_);(with_reducible refine wpAny_call ?_);refine IR hx ?_;wp_delta;wp_delta;walk_at "wP";exact hq)
end
section
variable {prog:Program} {w:World} {A:Around} {E:Value->Shared->Prop} {s:Shared} {h₀:Heap} {L:Addr} {m:Str->Option Value} {news news':ax}
theorem Iz {u p:Addr} {its:Array Value} {n:Nat} {v:Value} {Q:Value->Shared->Prop} (hb:iM u p s.heap) (F:Fr h₀ L s.heap m) (N:News h₀ L s.heap news) (U:Upd p (listOf its n) (listOf (its.push v) (n+1)) news news')
  (h:∀h',Fr h₀ L h' m->News h₀ L h' news'->Q .none {s with heap:=h'}) (hsz:its.size<=sizeLine):wpAny (model prog w) A (call (.ref u) [v]) Q E s:=by
 refine bl U.split fun LW post aj=>?_;refine bO aj fun aZ bU a b=>?_;subst aZ;subst bU;have z:=N (p,listOf its n) (List.mem_append.mpr (.inr (.head _)));exact Iq hb z.1 (fun h' hs OW=>h h' (F.change hs z.2.1 z.2.2) (news_set N a b hs OW)) hsz
end
section
variable {prog:Program} {w:World} {A:Around} {E:Value->Shared->Prop} {s:Shared} {h₀:Heap} {L:Addr} {m:Str->Option Value} {news news':ax}
theorem IT {p:Addr} {its:Array Value} {n:Nat} {RS:Bool} {Q:Value->Shared->Prop} (F:Fr h₀ L s.heap m) (N:News h₀ L s.heap news) (hm:(p,listOf its n)∈news)
  (h:∀q h',Fr h₀ L h' m->News h₀ L h' ((q,bT p)::news)->(∀p∈news,p.1<q)->Q (.ref q) {s with heap:=h',toks:=s.toks+1}):wpAny (model prog w) A (getAttr (.ref p) "append" RS) Q E s:=
 IS (N.get hm) (h _ _ (F.push _) (News.push F N _) fun p hp=>Heap.lt_size (N p hp).1)
end
theorem Kk:True:=by
 (k_with "getAttr ref"=>((k_here;(with_reducible show wpAny _ _ (getAttr (Value.ref _) (ofString "append") _) _ _ _);(with_reducible refine' IT (by k_dflt (k_asm)) (by k_dflt (k_asm)) (by k_dflt (k_mem)) ?_);k_dflt (k_whole);intros _ _ _ _ Mr;(try k_lt Mr);(try k_sweep))))
 (k_with "callWith ref"=>((k_here;(with_reducible show wpAny _ _ (callWith _ (Value.ref _) _ (backTo _ (starEach [_] _)) []) _ _ _);(with_reducible refine' Iv (by k_dflt (k_asm)) (by k_dflt (k_mem)) ?_ (by k_dflt (kernel_rfl)));k_dflt (k_whole))))
 (k_with "And"=>(((with_reducible show iM _ _ _/\_);k_dflt (refine' ⟨News.get (by k_asm) (by k_mem),?_⟩))))
 (k_with "call ref"=>((k_here;(with_reducible show wpAny _ _ (call (Value.ref _) [_]) _ _ _);k_dflt (refine' Iz (News.get (by k_asm) (by k_mem)) (by k_asm) (by k_asm) (by k_upd) ?_ (by size_fits);k_whole);intros _ _ _;(try k_sweep))))
 trivial
structure Stop (P:Prop):Prop where
 mk::
 out:P
theorem lR {w:World} {D U:Nat} {f:Addr} {vs:List Value} {kw:List (Str×Value)} {led news:ax} {P:Heap->Prop} {C:iK} {p:Program} {a_:List Str} {bz:ExcName->Option Value} {mg mb:Str->Option Value} {A:Around} {cn:Str} {cs:Scope} {a:Addr} {fM:Value} {cl:List (Str×Addr)} {c_:List Env} {cW:Around} {fR h₀:Heap} {L:Addr} {m:Str->Option Value} {s:Shared} {Q E:Value->Shared->Prop}
  (H:Ct w D U f vs kw led P C) (B:Below cW fR c_ h₀) (F:Fr h₀ L s.heap m) (X:(hd.heap_39 w.params).In h₀) (N:News h₀ L s.heap news) (T:Top p a_ bz mg mb h₀) (hA:A.frames=some (envX cn cs L a fM cl::c_)) (hh:A.handled=none) (hk:cs.kind= .function) (hs:∀p∈led,p∈news) (hP:P s.heap) (hd:A.depth+D<recursionLimit) (hu:A.units+U<cLine) (hC:C h₀ L m s Q):
  codeAny (model rw_ty0067_01.row.prog w) A (.call (.ref f) ⟨vs,kw⟩) (fun r s'=>match r with| .ok (.ret v)=>Q v s'| .ok _=>False| .error e=>E e s') s:=by
 obtain ⟨ah,ad,af,ag,au⟩:=A;dsimp only at hA hh hd hu;subst hA;subst hh;exact H p a_ bz mg mb ad au ag cn cs a fM cl c_ cW fR h₀ L m s Q E B F X (bf N hs) T hk hP hd hu ⟨hC⟩
theorem dO {w:World} {D U:Nat} {f:Addr} {vs:List Value} {kw:List (Str×Value)} {led news:ax} {P:Heap->Prop} {C:iK} {p:Program} {a_:List Str} {bz:ExcName->Option Value} {mg mb:Str->Option Value} {A:Around} {cn:Str} {cs:Scope} {a:Addr} {fM:Value} {cl:List (Str×Addr)} {c_:List Env} {cW:Around} {fR h₀:Heap} {L:Addr} {m:Str->Option Value} {s:Shared} {Q E:Value->Shared->Prop}
  (H:Ct w D U f vs kw led P C) (B:Below cW fR c_ h₀) (F:Fr h₀ L s.heap m) (X:(hd.heap_39 w.params).In h₀) (N:News h₀ L s.heap news) (T:Top p a_ bz mg mb h₀) (hA:A.frames=some (envX cn cs L a fM cl::c_)) (hh:A.handled=none) (hk:cs.kind= .function) (hs:∀p∈led,p∈news) (hP:P s.heap) (hd:A.depth+D<recursionLimit) (hu:A.units+U<cLine) (hC:C h₀ L m s Q):
  wpAny (model rw_ty0067_01.row.prog w) A (call (.ref f) vs kw) Q E s:=
 wpAny_call (lR H B F X N T hA hh hk hs hP hd hu hC)
theorem d0 {h₀ h h':Heap} {L:Addr} {news dq others:ax} {as:List Addr} (N:News h₀ L h news) (K:Kept as h h') (N':News h₀ L h' dq) (ho:∀p∈others,p∈news) (hf:∀p∈others,p.1∉as):News h₀ L h' (dq++others):=fun p hp=>by
 refine Or.elim (aE hp) (fun hp=>?_) fun hp=>?_
 ·exact N' p hp
 ·have z:=N p (ho p hp)
  exact ⟨K _ _ (hf p hp) z.1,z.2⟩
theorem dG {h₀ h:Heap} {L q:Addr} {news:ax} (N:News h₀ L h news) (e:h.get? q=none):∀p∈news, @Ne Nat p.1 q:=fun p hp he=>by
 have:=(N p hp).1;rw [he,e] at this;cases this
theorem RowsAt.again {h g h':Heap} {as:List Addr} {L:Addr} {m:Str->Option Value} {st:Addr} {rows:bk} {us:List (Str×Str)} {led:ax} {vs:List Value} {n:Nat} (x:RowsAt h st rows us) (k:Kept as h g) (F:Fr g L h' m) (N:News g L h' led) (hm:(st,listOf vs.toArray n)∈led) (hv:vs=bc rows)
  (hr:∀r∈rows,r.1∉as) (hc:∀a∈as,∀o,h.get? a=some o->o.cls≠ .type "tuple"):RowsAt h' st rows us:=by
 subst hv
 exact ⟨bo N hm,fun r h'=>((x.row r h').at fun o e=>k _ o (hr r h') e).at fun o e=>F.keep _ _ e,x.sz,⟨(x.it.kept k hc).1,fun i v u hv hu=>by
  refine aW ((x.it.kept k hc).2 i v u hv hu) fun q t1 t2 aj=>?_;refine ak aj fun e ho=>?_
  exact ⟨q,t1,t2,e,F.keep _ _ ho⟩⟩⟩
theorem E8 {as:List Addr} {a:Addr} {o:Obj} {l:ax} (h:a∉as) (r:∀p∈l,p.1∉as):∀p∈(a,o)::l,p.1∉as:=fun p hp=>by
 rcases aB hp with rfl|hp
 ·exact h
 ·exact r p hp
theorem sT (y:Value):∀init:List Value,kl_last (init++[y])=some (init,y)
 |[]=>rfl
 |a::r=>by
  have ih:=sT y r;rw [List.cons_append,kl_last,ih]
theorem EW {prog:Program} {w:World} {A:Around} {E:Value->Shared->Prop} {s:Shared} {h₀:Heap} {L D:Addr} {m:Str->Option Value} {news news':ax} {n:Nat} {init:List Value} {y:Value} {Q:Value->Shared->Prop} (F:Fr h₀ L s.heap m) (N:News h₀ L s.heap news)
  (U:Upd D (listOf (init++[y]).toArray n) (listOf init.toArray (n+1)) news news') (hz:init.length+1<=2000) (h:∀h',Fr h₀ L h' m->News h₀ L h' news'->Q y {s with heap:=h'}):
  wpAny (model prog w) A (call (.builtin "list.pop") [.ref D]) Q E s:=
 kl_pop F N (p:=init) (y:=y) (by rw [List.toList_toArray];exact sT y init) U (by rw [List.toList_toArray,List.length_append,sizeLine_eq];show init.length+1<=_;exact ja hz) h
theorem Kj:True:=by
 (k_with "call builtin:list.pop"=>((k_here;(with_reducible show wpAny _ _ (call (Value.builtin _) [Value.ref _]) _ _ _);(with_reducible refine' EW (by k_dflt (k_asm)) (by k_dflt (k_asm)) (by k_dflt (k_upd)) (by k_dflt (lia)) ?_);intros _ _ NM;(try dsimp only [List.nil_append,List.cons_append] at NM))))
 trivial
theorem ES (P:Params) (x:WS) (h:Int) (k:Value) (a b c:Bool) (n:Nat):(putL "_root_done" h k (.bool b) (ci P x a c),putN "_root_done" (ci P x a c) n)=(ci P x a b,n):=by rfl
theorem ER (P:Params) (x:WS) (h:Int) (k:Value) (a b c:Bool) (n:Nat):(putL "_root_seen" h k (.bool b) (ci P x a c),putN "_root_seen" (ci P x a c) n)=(ci P x b c,n):=by rfl
theorem Ki:True:=by
 (k_with "getMethod ref"=>((k_here;(with_reducible show wpAny _ _ (getMethod (Value.ref _) (ofString "_write") _) _ _ _);(with_reducible refine' kmu_own (by k_dflt (k_asm)) (by k_dflt (k_asm)) (by k_dflt (k_inst)) (by k_dflt (k_is)) (by k_dflt (k_is)) ?_);k_dflt (k_whole))))
 (k_with "setAttr ref"=>((k_here;k_dflt ((refine' set_dict (by k_asm) (by k_asm) (by k_asm) (by k_inst) (by exact rfl) (by k_is) (by k_is) (by k_is) (by k_is) (by k_get) (by first|exact ES _ _ _ _ _ _ _ _|exact ER _ _ _ _ _ _ _ _) (by k_upd) (by exact Nat.le_of_ble_eq_true rfl) ?_;k_whole;intros _ _ _)))))
 (k_with "off"=>(first|exact List.forall_mem_nil _|(refine' E8 (by with_unfolding_all walk_at "notin") (by walk_at "off"))))
 (k_with "allin"=>(k_allIn))
 trivial
section
local macro_rules | `(tactic| walk_at "call ref") => `(tactic| (k_here; (with_reducible show wpAny _ _ (call (Value.ref 90) _ _) _ _ _); refine Stop.out ?_))
noncomputable abbrev cC (P:Params) (W d p:Addr) (n:WN) (n1 n2 n3 n4 n5:Nat) (x:WS) (dv nv pv its:Array Value):ax:=
 W0 P W d n n1 x [(x.nss,listOf nv n2),(x.decl,listOf dv n3),(x.pres,listOf pv n4),(x.write,bT p),(p,listOf its n5)]
noncomputable def kI (w:World) (W d p:Addr) (n:WN) (n1 n2 n3 n4 n5:Nat) (x:WS) (t1:Tok) (init:bk) (MT:Addr×Array Value) (ni pi:List Value) (nt pt:Value) (its:Array Value) (us:List (Str×Str)):Prop:=∀(ba:us.length<1000) (eo:∀u∈us,u.1≠ofString ""/\u.2≠ofString "") (G_:its.size<=1000) (Lq:pi.length<=1000) (hni:ni.length<=1000) (H_:init.length<=1000) (nd:([W,d,x.data,x.nss,x.decl,x.pres,x.write,p]:List Nat).Nodup) (hr:∀r∈init++[MT],r.1∉[W,d,x.data,x.nss,x.decl,x.pres,x.write,p]),
 Ct w 6 500 133 [.ref W, .str (ofString "e") t1] [] (cC w.params W d p n n1 n2 n3 n4 n5 x (bc init++[Value.ref MT.1]).toArray (ni++[nt]).toArray (pi++[pt]).toArray its) (fun h=>RowsAt h x.decl (init++[MT]) us)
  (fun h₀ L m s Q=>∀b n' eM n_ j_ k_ tx,dj [W,d,x.data,x.nss,x.decl,x.pres,x.write,p] (cC w.params W d p ⟨n',n.seen,b⟩ n1 eM n_ j_ k_ x (bc init).toArray ni.toArray pi.toArray (its.push (.str (ofString "</e>") tx))) h₀ L m s (Q .none))
noncomputable def vN:=bA (gP kI) ((bw,0,0,0,⟨0,false,false⟩,0,0,0),(0,0,⟨0,0,0,0,0,0,fun _=>0⟩,0,[],(0,#[]),[],[]),(.none, .none,#[],[]))
theorem ui:∀{w} (W d p n n1 n2 n3 n4 n5 x t1 init MT ni pi nt pt its us),kI w W d p n n1 n2 n3 n4 n5 x t1 init MT ni pi nt pt its us:=by
 intros;apply gB kI (c:=vN) rfl;apply (?zg:gl kI);intros w W d p n n1 n2 n3 n4 n5 x t1 init MT ni pi nt pt its us;intros ba eo G_ Lq hni H_ nd hr;replace nd:=fw nd;dsimp only [ND,NI] at nd;refine fe nd fun aj aZ bU dK pH Lb g7 LJ=>?_;clear nd LJ;refine ef aj fun a1 a2 a3 a4 a5 a6 a7=>?_;refine dI aZ fun b2 b3 b4 b5 b6 b7=>?_;refine bv bU fun c3 c4 c5 c6 c7=>?_;refine bO dK fun d4 d5 d6 d7=>?_;refine aI pH fun e5 e6 e7=>?_;refine ak Lb fun f6 f7=>?_
 have QC:its.size<=sizeLine:=by rw [sizeLine_eq];exact fZ G_
 have PZ:pi.toArray.size=pi.length:=by simp
 have Ux:pi.length<2 ^ 62:=by exact yu Lq
 have Nl:(bc init).length<=1000:=by simpa [bc] using H_
 walk_at "ctS";dsimp only [cC,W0] at *;rename News _ _ (Shared.heap _) _=>N0;rename RowsAt _ _ _ _=>R0;rename Kept _ _ _=>K0;k_steps;refine ⟨?_⟩;refine dO (uh W d n n1 x t1 (init++[MT]) us ba eo (by with_unfolding_all walk_at "notin") ?_) (by assumption) (by assumption) (by assumption) (by assumption) (by assumption) rfl rfl rfl (by exact cz [0,1,2] rfl) (RowsAt.again R0 K0 (by assumption) (by assumption) (by k_mem) (by simp [bc]) hr (lE N0 (by rfl))) (by ktr_room) (by ktr_units) ?_
 ·intros r Ul q
  exact hr r Ul (by exact cz [0,1,2] rfl _ q)
 rename News _ _ _ _=>N1;rename Fr _ _ (Shared.heap _) _=>F0;intros q TN Uw t3' s₁ aU aN uS pT fr;have ce:=d0 N1 uS aN (others:=[(x.nss,_),(x.decl,_),(x.pres,_),(x.write,_),(p,_)]) (by exact cz [3,4,5,6,7] rfl) (by walk_at "off");have ne:=dG N1 fr;dsimp only [W0,List.cons_append,List.nil_append] at ce;replace ne:=gJ ne;dsimp only [FA] at ne;clear N1 aN;k_steps
 (rename Ret _=>hr)
 exact hr.out _ _ _ _ _ _ _ _ (by assumption) (by exact bf (by assumption) (by exact cz [1,2,3,4,5,6,7,8] rfl)) (by walk_at "kept") (by walk_at "same")
end
structure WordOk (w:Str):Prop where
 safe:jI w
 brace:125∉w.cps.toList
 one:1<=w.length
 len:w.length<=500
theorem gy (w:Str) (h:WordOk w):1<=(aH w).length/\(aH w).length<=1000:=by
 have h0:(aH w).length=(ofString "_").length+(ofString (toString (w.length:Int))).length+w.length:=by
  show (aH w).cps.size=_;unfold aH;show (((ofString "_").cps++(ofString (toString (w.length:Int))).cps)++w.cps).size=_;rw [Array.size_append,Array.size_append];rfl
 have h1:(ofString "_").length=1:=rfl
 have h2:(ofString (toString (w.length:Int))).length<=400:=by
  have e:toString (w.length:Int)=String.ofList (Nat.toDigits 10 w.length):=rfl;rw [e,ofString_ofList_length];have:=toDigits_len_pow (b:=10) (n:=w.length) (k:=3) (by decide) (by decide) (by have:=h.len;exact Aj this);exact Ai this
 have:=h.len;exact Ah h0 h1 h2 this
noncomputable def ItemsFor (led:ax) (items:Array Value) (new:List Str):Prop:=items.size=new.length/\∀(i:Nat) (w:Str),new[i]?=some w->∃q t1 t2,items[i]?=some (.ref q)/\(q,aO [.str w t1, .str (aH w) t2])∈led
theorem ItemsFor.mono {led dq:ax} {items:Array Value} {new:List Str} (h:ItemsFor led items new) (hs:∀p∈led,p∈dq):ItemsFor dq items new:=
 ⟨h.1,fun i w hw=>by refine aW (h.2 i w hw) fun q t1 t2 aj=>?_;refine ak aj fun a b=>?_;exact ⟨q,t1,t2,a,hs _ b⟩⟩
theorem ItemsFor.push {led:ax} {items:Array Value} {new:List Str} {q:Addr} {w:Str} {t1 t2:Tok} (h:ItemsFor led items new) (hm:(q,aO [.str w t1, .str (aH w) t2])∈led):ItemsFor led (items.push (.ref q)) (new++[w]):=by
 refine ⟨by rw [Array.size_push,h.1,List.length_append];rfl,fun i w' hw=>?_⟩
 by_cases hi:i<new.length
 ·rw [List.getElem?_append_left hi] at hw
  refine aW (h.2 i w' hw) fun q' TN Uw aj=>?_;refine ak aj fun a b=>?_;refine ⟨q',TN,Uw,?_,b⟩;rw [Array.getElem?_push,if_neg (by rw [h.1];exact re hi)];exact a
 ·rw [List.getElem?_append_right (q5 hi)] at hw
  have Ys:i - new.length=0:=by
   have:=(List.getElem?_eq_some_iff.mp hw).1;simp at this;exact q6 this
  rw [Ys] at hw
  cases hw
  exact ⟨q,t1,t2,by rw [Array.getElem?_push,if_pos (by rw [h.1];exact qO Ys hi)],hm⟩
noncomputable def cB (new:List Str):List (Str×Str):=new.map fun w=>(w,aH w)
structure Old (g:Heap) (nn:Addr) (init nrows:bk) (us vs:List (Str×Str)) (ws:List Str):Prop where
 row:∀r∈init,g.IsList r.1 r.2
 nrow:∀r∈nrows,g.IsList r.1 r.2
 sz:∀r∈init,(r.2.size:Int)<2 ^ 63
 nsz:∀r∈nrows,(r.2.size:Int)<2 ^ 63
 it:PairsAt g (cr init) us
 nit:PairsAt g (cr nrows) vs
 ulen:us.length<=900
 ne:∀u∈us,u.1≠ofString ""/\u.2≠ofString ""
 det:∀u∈us,∀w∈ws,u.1=w↔u.2=aH w
 told:∀w∈ws,∃v∈vs,v.1=w
 tdet:∀v∈vs,∀w∈ws,v.1=w->v.2=aH w
 pinj:∀v∈ws,∀w∈ws,aH v=aH w->v=w
theorem kT (init:bk) (nn:Addr) (items:Array Value):cr (init++[(nn,items)])=items.toList++cr init:=by
 unfold cr;rw [List.reverse_append,List.reverse_singleton,List.singleton_append,List.map_cons,List.flatten_cons]
theorem sf {h:Heap} {as bs:List Value} {us vs:List (Str×Str)} (x:PairsAt h as us) (y:PairsAt h bs vs):PairsAt h (as++bs) (us++vs):=by
 refine ⟨by rw [List.length_append,List.length_append,x.1,y.1],fun i v u hv hu=>?_⟩
 by_cases hi:i<as.length
 ·rw [List.getElem?_append_left hi] at hv
  rw [List.getElem?_append_left (x.1▸hi)] at hu;exact x.2 i v u hv hu
 ·rw [List.getElem?_append_right (q5 hi)] at hv
  rw [List.getElem?_append_right (by rw [<-x.1];exact q5 hi)] at hu;rw [<-x.1] at hu;exact y.2 _ v u hv hu
theorem jh {h g:Heap} {as:List Value} {us:List (Str×Str)} (x:PairsAt h as us) (k:∀b o,h.get? b=some o->g.get? b=some o):PairsAt g as us:=
 ⟨x.1,fun i v u hv hu=>by refine aW (x.2 i v u hv hu) fun q t1 t2 aj=>?_;refine ak aj fun e ho=>?_;exact ⟨q,t1,t2,e,k q _ ho⟩⟩
theorem s8 {g h:Heap} {L:Addr} {led:ax} {items:Array Value} {new:List Str} (N:News g L h led) (hi:ItemsFor led items new):PairsAt h items.toList (cB new):=by
 refine ⟨by rw [Array.length_toList,hi.1];simp [cB],fun i v u hv hu=>?_⟩;unfold cB at hu;rw [List.getElem?_map] at hu
 cases hw:new[i]? with
 |none=>rw [hw] at hu;cases hu
 |some w=>
  rw [hw] at hu
  cases hu
  refine aW (hi.2 i w hw) fun q t1 t2 aj=>?_;refine ak aj fun a b=>?_;rw [Array.getElem?_toList,a] at hv
  cases hv
  exact ⟨q,t1,t2,rfl,N.get b⟩
theorem tP {us:List (Str×Str)} {p:Str×Str->Prop} (h:∃u∈us,p u):∃(j:Nat) (u:Str×Str),us[j]?=some u/\p u/\∀(i:Nat) (v:Str×Str),i<j->us[i]?=some v->¬p v:=by
 classical
 induction us with
 |nil=>refine am h fun u aj=>?_;clear h;refine ak aj fun hu _=>?_;cases hu
 |cons a r ih=>
  by_cases ha:p a
  ·exact ⟨0,a,rfl,ha,fun i v hi=>by lia⟩
  ·refine am h fun u aj=>?_;clear h;refine ak aj fun hu hp=>?_
   rcases aB hu with rfl|hu
   ·exact absurd hp ha
   ·refine bl (ih ⟨u,hu,hp⟩) fun j u' aj=>?_;refine aI aj fun h1 h2 h3=>?_
    refine ⟨j+1,u',by simpa using h1,h2,fun i v hi hv=>?_⟩
    cases i with
    |zero=>simp at hv;subst hv;exact ha
    |succ i=>exact h3 i v (Ag hi) (by simpa using hv)
section
variable {w:World} {p:Program} {a_:List Str} {bz:ExcName->Option Value} {mg mb:Str->Option Value} {A:Around} {cn:Str} {cs:Scope} {a:Addr} {fM:Value} {cl:List (Str×Addr)} {c_:List Env} {cW:Around} {fR h₀:Heap} {L:Addr} {m:Str->Option Value} {s:Shared} {Q E:Value->Shared->Prop}
noncomputable def pJ (h₀:Heap) (L:Addr) (m:Str->Option Value) (nn:Addr) (others:ax) (tx uri:Str) (ek:Str) (Zo:List Str) (s:Shared) (v:Value) (s':Shared):Prop:=
 ∃q t1 t2 t3 Oe n' tl,v= .ref q/\Fr h₀ L s'.heap m/\News h₀ L s'.heap ((q,aO [.str tx t1, .str ek t2, .str uri t3])::(nn,listOf Oe n')::(tl++others))/\(∀p∈others, @Ne Nat p.1 q)/\ @Ne Nat nn q/\(∀p∈tl,(∀r∈others, @Ne Nat r.1 p.1)/\ @Ne Nat nn p.1)/\(∀p∈tl,p.2.cls= .type "tuple")/\
  ItemsFor (tl++others) Oe Zo/\aM s s'
theorem oO {led dq:ax} {h h':Heap} {as:List Addr} (N:News h₀ L h led) (K:Kept as h h') (N':News h₀ L h' dq) (hs:∀p∈led,p.1∈as->∃q∈dq,q.1=p.1/\h.get? q.1=some q.2):News h₀ L h' led:=fun p hp=>by
 by_cases ha:p.1∈as
 ·refine am (hs p hp ha) fun q aj=>?_;refine aI aj fun hq e1 e2=>?_
  have z:=N' q hq
  have e3:q.2=p.2:=by
   have:=(N p hp).1;rw [<-e1,e2] at this;exact Option.some.inj this
  rw [<-e1,<-e3];exact z
 ·exact ⟨K _ _ ha (N p hp).1,(N p hp).2⟩
theorem Fn {W d nn:Addr} {n:WN} {n1 n3 n6:Nat} {x:WS} {t:Tok} {init nrows:bk} {us vs:List (Str×Str)} {ws new:List Str} {items:Array Value} {others:ax}
  (B:Below cW fR c_ h₀) (F:Fr h₀ L s.heap m) (X:(hd.heap_39 w.params).In h₀) (N:News h₀ L s.heap ((nn,listOf items n6)::others)) (T:Top p a_ bz mg mb h₀) (hA:A.frames=some (envX cn cs L a fM cl::c_)) (hh:A.handled=none) (hk:cs.kind= .function)
  (hd:A.depth+5<recursionLimit) (hu:A.units+300<cLine) (O:Old h₀ nn init nrows us vs ws) (PS:∀w∈new,WordOk w) (Le:new.length<=50) (hI:ItemsFor others items new)
  (m1:(W,instObj 150 d)∈others) (m2:(d,dictOf (ci w.params x n.seen n.done) n.n)∈others) (m3:(x.data,listOf #[] n1)∈others) (m4:(x.decl,listOf (bc init++[Value.ref nn]).toArray n3)∈others)
  (hn:nn∉[W,d,x.data]) (MB:x.decl∉[W,d,x.data]) (hi:∀r∈init,r.1∉[W,d,x.data])
  (hQ:∀v s',pJ h₀ L m nn others (ofString "e") (ofString "") (ofString "e") new s v s'->Q v s'):
  codeAny (model rw_ty0067_01.row.prog w) A (.call (.ref 90) ⟨[.ref W, .str (ofString "e") t],[]⟩) (fun r s'=>match r with| .ok (.ret v)=>Q v s'| .ok _=>False| .error e=>E e s') s:=by
 have hR:RowsAt s.heap x.decl (init++[(nn,items)]) (cB new++us):=by
  refine ⟨?_,fun r hr=>?_,fun r hr=>?_,?_⟩
  ·have:=bo N (.tail _ m4)
   simpa [bc] using this
  ·refine Or.elim (aE hr) (fun hr=>?_) fun hr=>?_
   ·exact (O.row r hr).at fun o e=>F.keep _ _ e
   ·rw [br hr]
    exact bo N (.head _)
  ·refine Or.elim (aE hr) (fun hr=>?_) fun hr=>?_
   ·exact O.sz r hr
   ·rw [br hr]
    show (items.size:Int) < _;rw [hI.1];exact q0 Le
  ·rw [kT]
   exact sf (s8 N (hI.mono fun p hp=> .tail _ hp)) (jh O.it F.keep)
 have dR:∀u∈cB new++us,u.1≠ofString ""/\u.2≠ofString "":=fun u hu=>by
  refine Or.elim (aE hu) (fun hu=>?_) fun hu=>?_
  ·refine am (aP hu) fun v aj=>?_;refine ak aj fun hv aZ=>?_;subst aZ
   have h1:=(PS v hv).one;have h2:=(gy v (PS v hv)).1;refine ⟨fun e=>?_,fun e=>?_⟩
   ·rw [show v=ofString "" from e] at h1;exact absurd h1 (by decide)
   ·rw [show aH v=ofString "" from e] at h2;exact absurd h2 (by decide)
  ·exact O.ne u hu
 have v_:(cB new++us).length<1000:=by
  rw [List.length_append,cB,List.length_map];have:=O.ulen;exact qZ Le this
 refine lR (uh W d n n1 x t (init++[(nn,items)]) (cB new++us) v_ dR MB (fun r hr=>?_)) B F X N T hA hh hk (fun q hq=>?_) hR hd hu ?_
 ·refine Or.elim (aE hr) (fun hr=>?_) fun hr=>?_
  ·exact hi r hr
  ·rw [br hr];exact hn
 ·simp only [W0,List.mem_cons,List.not_mem_nil,or_false] at hq
  rcases hq with rfl|rfl|rfl
  ·exact .tail _ m1
  ·exact .tail _ m2
  ·exact .tail _ m3
 ·intros q t1 t2 t3 s' F' N' K' S' fr
  have N2:=oO N K' N' (fun r hr ha=>by
   simp only [List.mem_cons,List.not_mem_nil,or_false] at ha
   rcases ha with e|e|e
   ·exact ⟨_, .tail _ (.head _),e.symm,(N _ (.tail _ m1)).1⟩
   ·exact ⟨_, .tail _ (.tail _ (.head _)),e.symm,(N _ (.tail _ m2)).1⟩
   ·exact ⟨_, .tail _ (.tail _ (.tail _ (.head _))),e.symm,(N _ (.tail _ m3)).1⟩)
  have ne:=dG N fr;refine hQ _ s' ⟨q,t1,t2,t3,items,n6,[],rfl,F',fun r hr=>?_,fun r hr=>ne r (.tail _ hr),ne _ (.head _),(fun _ h=>nomatch h),(fun _ h=>nomatch h),hI,S'⟩
  rcases aB hr with rfl|hr
  ·exact N' _ (.head _)
  ·exact N2 r hr
theorem Fm {W d nn:Addr} {n:WN} {n1 n2 n3 n6:Nat} {x:WS} {t:Tok} {init nrows:bk} {us vs:List (Str×Str)} {ws new:List Str} {items:Array Value} {others:ax} {wd:Str}
  (B:Below cW fR c_ h₀) (F:Fr h₀ L s.heap m) (X:(hd.heap_39 w.params).In h₀) (N:News h₀ L s.heap ((nn,listOf items n6)::others)) (T:Top p a_ bz mg mb h₀) (hA:A.frames=some (envX cn cs L a fM cl::c_)) (hh:A.handled=none) (hk:cs.kind= .function)
  (hd:A.depth+5<recursionLimit) (hu:A.units+300<cLine) (O:Old h₀ nn init nrows us vs ws) (OZ:wd∈ws) (m_:WordOk wd) (PS:∀v∈new,v∈ws/\v≠wd) (Le:new.length<=50) (hI:ItemsFor others items new) (Yn:Decidable (wd∈us.map (·.1)))
  (m1:(W,instObj 150 d)∈others) (m2:(d,dictOf (ci w.params x n.seen n.done) n.n)∈others) (m3:(x.data,listOf #[] n1)∈others) (m4:(x.decl,listOf (bc init++[Value.ref nn]).toArray n3)∈others) (m5:(x.nss,listOf (bc nrows).toArray n2)∈others)
  (hn:nn∉[W,d,x.data,x.decl]) (MB:x.decl∉[W,d,x.data]) (Py:x.nss∉[W,d,x.data,x.decl,nn]) (hi:∀r∈init,r.1∉[W,d,x.data,x.decl,nn]) (Mz:∀r∈nrows,r.1∉[W,d,x.data,x.decl,nn]) (UC:∀r∈others, @Ne Nat r.1 nn)
  (hQ:∀v s',pJ h₀ L m nn others (aH wd++ofString ":k") wd (ofString "k") (if wd∈us.map (·.1) then new else new++[wd]) s v s'->Q v s'):
  codeAny (model rw_ty0067_01.row.prog w) A (.call (.ref 90) ⟨[.ref W, .str (aS wd) t],[]⟩) (fun r s'=>match r with| .ok (.ret v)=>Q v s'| .ok _=>False| .error e=>E e s') s:=by
 revert B F X N T hA hh hk hd hu O OZ m_ PS Le hI Yn m1 m2 m3 m4 m5 hn MB Py hi Mz UC hQ;revert w p a_ bz mg mb A cn cs a fM cl c_ cW fR h₀ L m s Q E W d nn n n1 n2 n3 n6 x t init nrows us vs ws new items others wd;refine' no_implicit_lambda% (lm ?zR (a:=((bw,default,[],fun _=>none,fun _=>none,fun _=>none,callerA,Str.empty),(default,0,Value.none,[],[],callerA,{},{}),(0,fun _=>none,{},fun _ _=>True,fun _ _=>True,0,0,0),((⟨0,false,false⟩:WN),0,0,0,0,(⟨0,0,0,0,0,0,fun _=>0⟩:WS),0,[]),([],[],[],[],[],#[],[],Str.empty))) rfl (no_implicit_lambda% ((?zg:jG ?zR) _ _ _ _ _ _ _ _ _ _ _ _ _ _ _ _ _ _ _ _ _ _ _ _ _ _ _ _ _ _ _ _ _ _ _ _ _ _ _ _)));intros w p a_ bz mg mb A cn cs a fM cl c_ cW fR h₀ L m s Q E W d nn n n1 n2 n3 n6 x t init nrows us vs ws new items others wd;intros B F X N T hA hh hk hd hu O OZ m_ PS Le hI Yn m1 m2 m3 m4 m5 hn MB Py hi Mz UC hQ
 have e_:items.size<=50:=by rw [hI.1];exact Le
 have hsz:∀r∈init++[(nn,items)],(r.2.size:Int)<2 ^ 63:=fun r hr=>by
  refine Or.elim (aE hr) (fun hr=>?_) fun hr=>?_
  ·exact O.sz r hr
  ·rw [br hr]
   show (items.size:Int) < _;exact q0 e_
 have Vv:PairsAt s.heap (cr (init++[(nn,items)])) (cB new++us):=by
  rw [kT];exact sf (s8 N (hI.mono fun p hp=> .tail _ hp)) (jh O.it F.keep)
 have v_:(cB new++us).length<1000:=by
  rw [List.length_append,cB,List.length_map];have:=O.ulen;exact qZ Le this
 have I_:=gy wd m_;have Z:=Iw wd (by have:=m_.len;exact lf this)
 by_cases H_:wd∈us.map (·.1)
 ·rw [if_pos H_] at hQ
  refine am (aP H_) fun u0 aj=>?_;refine ak aj fun hu0 e0=>?_;refine bl (tP (us:=cB new++us) (p:=fun u=>u.1=wd) ⟨u0,ay _ hu0,e0⟩) fun j u aj=>?_;refine aI aj fun hj Nk L0=>?_
  have LC:∀v∈cB new++us,v.1≠wd->v.2≠aH wd:=fun v hv dR=>by
   refine Or.elim (aE hv) (fun hv=>?_) fun hv=>?_
   ·refine am (aP hv) fun v' aj=>?_;refine ak aj fun Lw aZ=>?_;subst aZ
    exact fun e=>dR (O.pinj v' (PS v' Lw).1 wd OZ e)
   ·exact fun e=>dR ((O.det v hv wd OZ).mpr e)
  have OX:u.2=aH wd:=by
   have UM:=List.mem_of_getElem? hj;refine Or.elim (aE UM) (fun hv=>?_) fun hv=>?_
   ·refine am (aP hv) fun v' aj=>?_;refine ak aj fun Lw aZ=>?_;subst aZ
    exact absurd Nk (PS v' Lw).2
   ·exact (O.det u hv wd OZ).mp Nk
  have LG:(cB new++us)[j]?=some (wd,aH wd):=by rw [hj];exact congrArg some (Prod.ext Nk OX)
  have hR:RowsAt s.heap x.decl (init++[(nn,items)]) (cB new++us):=by
   refine ⟨?_,fun r hr=>?_,hsz,Vv⟩
   ·have:=bo N (.tail _ m4)
    simpa [bc] using this
   ·refine Or.elim (aE hr) (fun hr=>?_) fun hr=>?_
    ·exact (O.row r hr).at fun o e=>F.keep _ _ e
    ·rw [br hr]
     exact bo N (.head _)
  refine lR (HW W d n n1 x t (aS wd) wd Z (init++[(nn,items)]) (cB new++us) v_ j (aH wd) LG (fun i v hi hv=>⟨L0 i v hi hv,LC v (List.mem_of_getElem? hv) (L0 i v hi hv)⟩) I_.1 I_.2 MB (fun r hr=>?_)) B F X N T hA hh hk (fun q hq=>?_) hR hd hu ?_
  ·refine Or.elim (aE hr) (fun hr=>?_) fun hr=>?_
   ·exact fun q=>hi r hr (by simp only [List.mem_cons,List.not_mem_nil,or_false] at q ⊢;rcases q with q|q|q<;>simp only [q,true_or,or_true])
   ·rw [br hr]
    exact fun q=>hn (by simp only [List.mem_cons,List.not_mem_nil,or_false] at q ⊢;rcases q with q|q|q<;>simp only [q,true_or,or_true])
  ·simp only [W0,List.mem_cons,List.not_mem_nil,or_false] at hq
   rcases hq with rfl|rfl|rfl
   ·exact .tail _ m1
   ·exact .tail _ m2
   ·exact .tail _ m3
  ·intros q tx t1 t2 t3 Wj s' F' N' K' S' fr
   subst Wj
   have N2:=oO N K' N' (fun r hr ha=>by
    simp only [List.mem_cons,List.not_mem_nil,or_false] at ha
    rcases ha with e|e|e
    ·exact ⟨_, .tail _ (.head _),e.symm,(N _ (.tail _ m1)).1⟩
    ·exact ⟨_, .tail _ (.tail _ (.head _)),e.symm,(N _ (.tail _ m2)).1⟩
    ·exact ⟨_, .tail _ (.tail _ (.tail _ (.head _))),e.symm,(N _ (.tail _ m3)).1⟩)
   have ne:=dG N fr;refine hQ _ s' ⟨q,t1,t2,t3,items,n6,[],rfl,F',fun r hr=>?_,fun r hr=>ne r (.tail _ hr),ne _ (.head _),(fun _ h=>nomatch h),(fun _ h=>nomatch h),hI,S'⟩
   rcases aB hr with rfl|hr
   ·exact N' _ (.head _)
   ·exact N2 r hr
 ·rw [if_neg H_] at hQ
  refine am (O.told wd OZ) fun v0 aj=>?_;refine ak aj fun hv0 e0=>?_;refine bl (tP (us:=vs) (p:=fun u=>u.1=wd) ⟨v0,hv0,e0⟩) fun j v aj=>?_;refine aI aj fun hj YN L0=>?_
  have LG:vs[j]?=some (wd,aH wd):=by rw [hj];exact congrArg some (Prod.ext YN (O.tdet v (List.mem_of_getElem? hj) wd OZ YN))
  have Rn:∀u∈cB new++us,u.1≠wd:=fun u hu e=>by
   refine Or.elim (aE hu) (fun hu=>?_) fun hu=>?_
   ·refine am (aP hu) fun v' aj=>?_;refine ak aj fun Lw aZ=>?_;subst aZ
    exact (PS v' Lw).2 e
   ·exact H_ (List.mem_map.mpr ⟨u,hu,e⟩)
  have hR:TwoStacks s.heap nn items init (cB new++us) x.nss nrows vs:=by
   refine ⟨fun r hr=>(O.row r hr).at fun o e=>F.keep _ _ e,hsz,Vv,?_,fun r hr=>(O.nrow r hr).at fun o e=>F.keep _ _ e,O.nsz,jh O.nit F.keep⟩;exact bo N (.tail _ m5)
  have nq:∀b,b∈[W,d,x.data,x.decl]-> @Ne Nat b nn:=fun b hb e=>hn (by rw [<-show b=nn from e];exact hb)
  have Tq: @Ne Nat W x.decl/\ @Ne Nat d x.decl/\ @Ne Nat x.data x.decl:=by
   replace MB:=dh MB;dsimp only [NI] at MB;exact ⟨Ne.symm MB.1,Ne.symm MB.2.1,Ne.symm MB.2.2⟩
  refine lR (HU W d nn n n1 n3 n6 x items t (aS wd) wd Z init nrows (cB new++us) vs v_ Rn j (aH wd) LG L0 I_.1 I_.2 m_.one (by have:=m_.len;exact lf this) (Ae e_) Tq.1 Tq.2.1 Tq.2.2 (nq W (by simp)) (nq d (by simp)) (nq x.data (by simp)) (nq x.decl (by simp)) Py Mz hi) B F X N T hA hh hk (fun q hq=>?_) hR hd hu ?_
  ·simp only [W0,List.mem_cons,List.not_mem_nil,or_false] at hq
   rcases hq with rfl|rfl|rfl|rfl|rfl
   ·exact .tail _ m1
   ·exact .tail _ m2
   ·exact .tail _ m3
   ·exact .tail _ m4
   ·exact .head _
  ·intros q q2 tx t1 t2 t3 t4 t5 n_ Wj s' F' N' K' S' fr fr2
   subst Wj;have N0:News h₀ L s.heap others:=fun p hp=>N p (.tail _ hp)
   have N2:News h₀ L s'.heap others:=oO N0 K' N' (fun r hr ha=>by
    simp only [List.mem_cons,List.not_mem_nil,or_false] at ha
    rcases ha with e|e|e|e|e
    ·exact ⟨_, .tail _ (.tail _ (.head _)),e.symm,(N _ (.tail _ m1)).1⟩
    ·exact ⟨_, .tail _ (.tail _ (.tail _ (.head _))),e.symm,(N _ (.tail _ m2)).1⟩
    ·exact ⟨_, .tail _ (.tail _ (.tail _ (.tail _ (.head _)))),e.symm,(N _ (.tail _ m3)).1⟩
    ·exact ⟨_, .tail _ (.tail _ (.tail _ (.tail _ (.tail _ (.head _))))),e.symm,(N _ (.tail _ m4)).1⟩
    ·exact absurd e (UC r hr))
   have ne:=dG N fr;have Lo:=dG N fr2;refine hQ _ s' ⟨q,t1,t2,t3,items.push (.ref q2),n_,[(q2,aO [.str wd t4, .str (aH wd) t5])],rfl,F',fun r hr=>?_,fun r hr=>ne r (.tail _ hr),ne _ (.head _),fun p hp=>?_,fun p hp=>?_,?_,S'⟩
   ·rcases aB hr with rfl|hr
    ·exact N' _ (.head _)
    ·rcases aB hr with rfl|hr
     ·exact N' _ (.tail _ (.tail _ (.tail _ (.tail _ (.tail _ (.tail _ (.head _)))))))
     ·refine Or.elim (aE hr) (fun hr=>?_) fun hr=>?_
      ·rw [br hr]
       exact N' _ (.tail _ (.head _))
      ·exact N2 r hr
   ·rw [br hp]
    exact ⟨fun r hr=>Lo r (.tail _ hr),Lo _ (.head _)⟩
   ·rw [br hp]
   ·exact (hI.mono fun p hp=>ay _ hp).push (aL _ (.head _))
end
noncomputable def fA (c:Nat):Bool:=(48<=c && c<=57) || (65<=c && c<=90) || c == 95 || (97<=c && c<=122) || c == 45
noncomputable def dJ (x:Str):Prop:=∀c∈cl x,fA c=true
theorem ur (l:List Char):cl (ofString (String.ofList l))=l.map Char.toNat:=by rw [Fast.ofString_ofList]
theorem ud:∀d:Nat,d<16->fA (Nat.digitChar d).toNat=true:=by decide
theorem uc:∀d:Nat,d<16->∀e:Nat,e<16->Nat.digitChar d=Nat.digitChar e->d=e:=by decide
theorem HF (n:Nat):∀c∈Nat.toDigits 16 n,fA c.toNat=true:=by
 induction n using Nat.strongRecOn with
 |_ n ih=>
  intro c hc;rw [Nat.toDigits_eq_if (by decide)] at hc
  split at hc
  ·rw [br hc];exact ud _ (by assumption)
  ·refine Or.elim (aE hc) (fun h=>?_) fun h=>?_
   ·exact ih (n / 16) (by exact rk (by assumption)) c h
   ·rw [br h];exact ud _ (BE)
theorem t9 (n:Nat):∀m,Nat.toDigits 16 n=Nat.toDigits 16 m->n=m:=by
 induction n using Nat.strongRecOn with
 |_ n ih=>
  intro m h;rw [Nat.toDigits_eq_if (by decide),Nat.toDigits_eq_if (n:=m) (by decide)] at h
  split at h<;>split at h
  ·exact uc _ (by assumption) _ (by assumption) (List.head_eq_of_cons_eq h)
  ·have:=congrArg List.length h
   have h2:=Nat.length_toDigits_pos (b:=16) (n:=m / 16);rw [List.length_append] at this;simp at this
   try lia
  ·have:=congrArg List.length h
   have h2:=Nat.length_toDigits_pos (b:=16) (n:=n / 16);rw [List.length_append] at this;simp at this
   try lia
  ·refine ak (List.append_inj' h rfl) fun h1 h2=>?_
   have e1:=ih (n / 16) (by exact rk (by assumption)) _ h1;have e2:=uc _ (Nat.mod_lt n (by decide)) _ (Nat.mod_lt m (by decide)) (List.head_eq_of_cons_eq h2);exact Bt e2 e1
theorem lL (p:Int):cl (dF p)=(if p<0 then [45] else [])++([48,120]++(Nat.toDigits 16 p.natAbs).map Char.toNat):=by
 unfold dF baseText
 have e1:cl (ofString (if p<0 then "-" else ""))=if p<0 then [45] else []:=by split<;>rfl
 have e2:cl (ofString "0x")=[48,120]:=rfl;rw [bF,bF,List.append_assoc,e1,e2,ur]
theorem Ih {a b:Char} (h:a.toNat=b.toNat):a=b:=Char.toNat_inj.mp h
theorem GU {p q:Int} (h:dF p=dF q):p=q:=by
 have h1:=congrArg cl h;rw [lL,lL] at h1;have key:∀{a b:List Char},a.map Char.toNat=b.map Char.toNat->a=b:=fun h=>List.map_inj_right (fun _ _=>Ih) |>.mp h
 by_cases hp:p<0<;>by_cases hq:q<0<;>simp only [hp,hq,if_true,if_false,List.cons_append,List.nil_append,List.cons.injEq,true_and] at h1
 ·have:=t9 _ _ (key h1);exact Bj this hp hq
 ·exact absurd h1.1 (by decide)
 ·exact absurd h1.1 (by decide)
 ·have:=t9 _ _ (key h1);exact Ba this hp hq
theorem oY (p:Int):∃c r,cl (dF p)=c::r/\(c=45\/c=48):=by
 rw [lL]
 by_cases hp:p<0
 ·exact ⟨45,_,by rw [if_pos hp];rfl, .inl rfl⟩
 ·exact ⟨48,_,by rw [if_neg hp];rfl, .inr rfl⟩
theorem GT (p:Int):dJ (dF p):=by
 intro c hc;rw [lL] at hc;refine Or.elim (aE hc) (fun h=>?_) fun h=>?_
 ·split at h
  ·rw [br h];rfl
  ·cases h
 ·refine Or.elim (aE h) (fun h=>?_) fun h=>?_
  ·simp only [List.mem_cons,List.not_mem_nil,or_false] at h
   rcases h with rfl|rfl<;>rfl
  ·refine am (aP h) fun d aj=>?_;refine ak aj fun hd aZ=>?_;clear aj;subst aZ
   exact HF _ d hd
theorem jx (k:Int) (x:Str):∀l:List (Int×Str),eY k x l=x/\(∀p∈l,k≠p.1)\/(k,eY k x l)∈l
 |[]=> .inl ⟨rfl,fun _ h=>nomatch h⟩
 |p::r=>by
  unfold eY
  by_cases h:k=p.1
  ·rw [if_pos h,h];exact .inr (.head _)
  ·rw [if_neg h]
   rcases jx k x r with ⟨h1,h2⟩|h1
   ·exact .inl ⟨h1,fun q hq=>(aB hq).elim (fun e=>e▸h) (h2 q)⟩
   ·exact .inr (.tail _ h1)
theorem Hu:∀p∈flagTab,∀q∈flagTab,cl p.2=cl q.2->p.1=q.1:=by decide+kernel
theorem o8:∀p∈flagTab,(cl p.2).head?≠some 45/\(cl p.2).head?≠some 48/\cl p.2≠[]:=by decide+kernel
theorem Hr:∀p∈flagTab,∀c∈cl p.2,fA c=true:=by decide+kernel
theorem db (p:Int):dJ (aV p):=by
 unfold aV eW
 rcases jx p (dF p) flagTab with ⟨h,_⟩|h
 ·rw [h];exact GT p
 ·exact Hr _ h
theorem qb (p:Int):cl (aV p)≠[]:=by
 unfold aV eW
 rcases jx p (dF p) flagTab with ⟨h,_⟩|h
 ·rw [h];refine bl (oY p) fun c r aj=>?_;refine ak aj fun e _=>?_;clear aj;rw [e];simp
 ·exact (o8 _ h).2.2
theorem gu {p q:Int} (h:aV p=aV q):p=q:=by
 unfold aV eW at h
 rcases jx p (dF p) flagTab with ⟨h1,_⟩|h1<;>rcases jx q (dF q) flagTab with ⟨h2,_⟩|h2
 ·rw [h1,h2] at h;exact GU h
 ·refine bl (oY p) fun c r aj=>?_;refine ak aj fun e hc=>?_;clear aj
  have h3:=o8 _ h2;dsimp only at h3;rw [<-h,h1,e] at h3
  rcases hc with rfl|rfl
  ·exact absurd rfl h3.1
  ·exact absurd rfl h3.2.1
 ·refine bl (oY q) fun c r aj=>?_;refine ak aj fun e hc=>?_;clear aj
  have h3:=o8 _ h1;dsimp only at h3;rw [h,h2,e] at h3
  rcases hc with rfl|rfl
  ·exact absurd rfl h3.1
  ·exact absurd rfl h3.2.1
 ·exact Hu _ h1 _ h2 (congrArg cl h)
theorem jg {x:Str} (h:dJ x) {c:Nat} (hc:fA c=false):c∉cl x:=fun hm=>by rw [h c hm] at hc;cases hc
theorem p9 {p:Int} (h:p.natAbs<2 ^ 200):WordOk (aV p) where
 safe:=by
  intros c hc hm;have:=db p c hc;simp only [List.mem_cons,List.not_mem_nil,or_false] at hm
  rcases hm with rfl|rfl|rfl|rfl|rfl|rfl<;>cases this
 brace:=jg (db p) rfl
 one:=by
  have:=qb p;rw [<-bK]
  cases hh:cl (aV p) with
  |nil=>exact absurd hh this
  |cons _ _=>simp
 len:=Nat.le_trans (dm h) (by decide)
theorem EU {n:Int} {j:Nat} (h:j<32):cI j≠bS n 32:=by
 unfold cI bS;intro e
 have h1:(2:Int) ^ j<2 ^ 32:=by
  have:=Nat.pow_lt_pow_right (by decide:1<2) h
  exact_mod_cast this
 have h2:=fH j
 have QT:(2:Int) ^ 32=4294967296:=by decide
 rw [QT] at e h1;exact AR h2 h1 e
theorem EV {i j:Nat} (h:cI i=cI j):i=j:=by
 unfold cI at h
 have h':(2:Nat) ^ i=2 ^ j:=by exact_mod_cast h
 exact (Nat.pow_right_inj (by decide)).mp h'
theorem r9 (n:Int):(cL n).Nodup:=by
 unfold cL
 have h1:((cN n 32).map cI).Nodup:=by
  rw [List.nodup_iff_pairwise_ne,List.pairwise_map];exact (List.nodup_iff_pairwise_ne.mp (List.nodup_range.filter _)).imp fun h e=>h (EV e)
 split
 ·rw [List.nodup_append]
  refine ⟨h1,by simp,?_⟩;intros a ha b hb;rw [br hb];refine am (aP ha) fun j aj=>?_;refine ak aj fun hj aZ=>?_;clear aj;subst aZ;exact EU (List.mem_range.mp (List.mem_filter.mp hj).1)
 ·rw [List.append_nil];exact h1
theorem ls (n:Int):1<=(cL n).length/\(cL n).length<=33:=by
 have h:(cN n 32).length<=32:=Nat.le_trans (List.length_filter_le _ _) (by simp);unfold cL;rw [List.length_append,List.length_map]
 split
 ·simp;exact AH h
 ·rename_i h2
  have h3:cN n 32≠[]:=fun e=>h2 (.inr e);have h4:(cN n 32).length≠0:=fun e=>h3 (List.length_eq_zero_iff.mp e);simp;exact Aw h4 h
theorem oF {n:Int} (h:n.natAbs<2 ^ 100):∀p∈cL n,p.natAbs<2 ^ 200:=by
 intro p hp;unfold cL at hp;refine Or.elim (aE hp) (fun hp=>?_) fun hp=>?_
 ·refine am (aP hp) fun j aj=>?_;refine ak aj fun hj aZ=>?_;clear aj;subst aZ
  have:=List.mem_range.mp (List.mem_filter.mp hj).1;exact oo (rb this)
 ·split at hp
  ·rw [br hp];exact uq n 32 h (by decide)
  ·cases hp
theorem I7 (n:Int):(bR n).Nodup:=by
 unfold bR;rw [List.nodup_iff_pairwise_ne,List.pairwise_map];exact (List.nodup_iff_pairwise_ne.mp (r9 n)).imp fun h e=>h (gu e)
theorem mE {n:Int} {u:Str} (h:u∈bR n):∃p∈cL n,u=aV p:=by
 refine am (aP h) fun p aj=>?_;refine ak aj fun h1 h2=>?_;clear aj;exact ⟨p,h1,h2.symm⟩
theorem pe:∀n:Nat,n<100->(Nat.toDigits 10 n).length=if n<10 then 1 else 2:=by decide+kernel
theorem ic (x:Str):cl (aH x)=95::((Nat.toDigits 10 x.length).map Char.toNat++cl x):=by
 unfold aH;have e:toString (x.length:Int)=String.ofList (Nat.toDigits 10 x.length):=rfl;have e2:cl (ofString "_")=[95]:=rfl;rw [bF,bF,e,e2,ur];rfl
theorem jf {a b:Str} (ha:a.length<100) (hb:b.length<100) (h:aH a=aH b):a=b:=by
 have h1:=congrArg cl h;rw [ic,ic] at h1;have h2:=congrArg List.length h1;simp only [List.length_cons,List.length_append,List.length_map,bK,pe _ ha,pe _ hb] at h2
 have h3:a.length=b.length:=by split at h2<;>split at h2<;>lia
 simp only [List.cons.injEq,true_and,h3] at h1;exact ed (List.append_cancel_left h1)
theorem HL (n:Nat):∀c∈Nat.toDigits 10 n,fA c.toNat=true:=by
 intro c hc;have h:=Nat.isDigit_of_mem_toDigits (by decide) (by decide) hc;simp only [Char.isDigit,Bool.and_eq_true,decide_eq_true_eq] at h;have h1:48<=c.toNat:=h.1;have h2:c.toNat<=57:=h.2;simp [fA,h1,h2]
theorem rT {x:Str} (h:dJ x):dJ (aH x):=by
 intro c hc;rw [ic] at hc
 rcases aB hc with rfl|hc
 ·rfl
 ·refine Or.elim (aE hc) (fun hc=>?_) fun hc=>?_
  ·refine am (aP hc) fun d aj=>?_;refine ak aj fun hd aZ=>?_;clear aj;subst aZ
   exact HL _ d hd
  ·exact h c hc
theorem Gp {y low:Int} (h0:0<=low) (h1:low<12) (hy:y.natAbs<2 ^ 64):(eB y low 6).natAbs<2 ^ 92:=by
 have hp:∀n:Nat,n<=5->∀c:Prop,[Decidable c]->0<=(if c then (2:Int) ^ (low+4*(n:Int)).toNat else 0)/\(if c then (2:Int) ^ (low+4*(n:Int)).toNat else 0)<=4294967296:=by
  intros n hn c _
  split
  ·have h2:(low+4*(n:Int)).toNat<=32:=by exact Af h1 hn
   have h3:(2:Nat) ^ (low+4*(n:Int)).toNat<=2 ^ 32:=Nat.pow_le_pow_right (by decide) h2
   have h4:(2:Int) ^ (low+4*(n:Int)).toNat<=((2 ^ 32:Nat):Int):=by exact_mod_cast h3
   exact ⟨Int.le_of_lt (fH _),h4⟩
  ·exact ⟨Int.le_refl _,by decide⟩
 simp only [eB];have a0:=hp 0 (by decide) (Builtin.bitAnd (y.fdiv (2 ^ 0)) 1=1);have a1:=hp 1 (by decide) (Builtin.bitAnd (y.fdiv (2 ^ 1)) 1=1);have a2:=hp 2 (by decide) (Builtin.bitAnd (y.fdiv (2 ^ 2)) 1=1);have a3:=hp 3 (by decide) (Builtin.bitAnd (y.fdiv (2 ^ 3)) 1=1);have a4:=hp 4 (by decide) (Builtin.bitAnd (y.fdiv (2 ^ 4)) 1=1);have a5:=hp 5 (by decide) (Builtin.bitAnd (y.fdiv (2 ^ 5)) 1=1)
 generalize (if Builtin.bitAnd (y.fdiv (2 ^ 0)) 1=1 then (2:Int) ^ (low+4*((0:Nat):Int)).toNat else 0)=b0 at *
 generalize (if Builtin.bitAnd (y.fdiv (2 ^ 1)) 1=1 then (2:Int) ^ (low+4*((1:Nat):Int)).toNat else 0)=b1 at *
 generalize (if Builtin.bitAnd (y.fdiv (2 ^ 2)) 1=1 then (2:Int) ^ (low+4*((2:Nat):Int)).toNat else 0)=b2 at *
 generalize (if Builtin.bitAnd (y.fdiv (2 ^ 3)) 1=1 then (2:Int) ^ (low+4*((3:Nat):Int)).toNat else 0)=b3 at *
 generalize (if Builtin.bitAnd (y.fdiv (2 ^ 4)) 1=1 then (2:Int) ^ (low+4*((4:Nat):Int)).toNat else 0)=b4 at *
 generalize (if Builtin.bitAnd (y.fdiv (2 ^ 5)) 1=1 then (2:Int) ^ (low+4*((5:Nat):Int)).toNat else 0)=b5 at *
 rw [lN]
 have e64:(2:Int) ^ 6=64:=by decide
 have QT:(2:Int) ^ 32=4294967296:=by decide
 rw [e64,QT]
 have hy2:(y / 64).natAbs<2 ^ 59:=by exact qW hy
 exact zM hy a0.1 a1.1 a2.1 a3.1 a4.1 a5.1 a0.2 a1.2 a2.2 a3.2 a4.2 a5.2
noncomputable abbrev bC (ys:List Value):Obj:=LCg.lst ys
noncomputable abbrev mV (A_:List Expr) (env:Env):Sem Bool:=forIn A_ true fun c r=>if r=true then do let ok <-isTrue c env (eval c env);pure (ForInStep.yield ok) else pure (ForInStep.yield r)
noncomputable def dt (prog:Program) (w:World) (A:Around) (env:Env) (e:Expr) (V5:Sem Value) (scope:Scope) (cl:List (Str×Addr)) (RR:Value->Addr->Result->Shared->Prop) (E:Value->Shared->Prop) (it:Value) (s:Shared):Prop:=
 wpAny (model prog w) A V5 (fun fm bh=>wpAny (model prog w) A (newFunctionEnv scope env.globals cl [] env.qual none .none (some env)) (fun Vn cU=>
   codeAny (model prog w) A (.compStart e 0 it fm {Vn with scope:=relabel scope env}) (RR fm Vn.locals) cU) E bh) E s
section
variable {prog:Program} {w:World} {A:Around} {env:Env} {E:Value->Shared->Prop} {s:Shared} {h₀:Heap} {L:Addr} {m:Str->Option Value} {news:ax}
theorem IU {x_ bi iter:Expr} {A_:List Expr} {scope:Scope} {cl:List (Str×Addr)} {pos:Pos} {Q:Value->Shared->Prop} (NK:closureFor scope env=pure cl) (d_:scope.kind= .function)
  (MI:∀y∈scope.names,y.2= .local->scope.names.lookup y.1=some .local)
  (h:wpAny (model prog w) A (eval iter env) (fun x s₁=>wpAny (model prog w) A (pyIter x) (dt prog w A env (.ListComp x_ [⟨bi,iter,A_,0⟩] scope pos) (newList []) scope cl (compPost (model prog w) A E none Q) E) E s₁) E s)
  (hs:∀x,foldedSetIterable iter env x=pure x:=by intro _;rfl):wpAny (model prog w) A (eval (.ListComp x_ [⟨bi,iter,A_,0⟩] scope pos) env) Q E s:=by
 rw [eval_ListComp];exact wpAny_comprehension_free (use:=none) rfl hs NK d_ MI h
theorem IV {kx vx bi iter:Expr} {A_:List Expr} {scope:Scope} {cl:List (Str×Addr)} {pos:Pos} {Q:Value->Shared->Prop} (NK:closureFor scope env=pure cl) (d_:scope.kind= .function)
  (MI:∀y∈scope.names,y.2= .local->scope.names.lookup y.1=some .local)
  (h:wpAny (model prog w) A (eval iter env) (fun x s₁=>wpAny (model prog w) A (pyIter x) (dt prog w A env (.DictComp kx vx [⟨bi,iter,A_,0⟩] scope pos) newDict scope cl (compPost (model prog w) A E none Q) E) E s₁) E s)
  (hs:∀x,foldedSetIterable iter env x=pure x:=by intro _;rfl):wpAny (model prog w) A (eval (.DictComp kx vx [⟨bi,iter,A_,0⟩] scope pos) env) Q E s:=by
 rw [arm_eval_DictComp];exact wpAny_comprehension_free (use:=none) rfl hs NK d_ MI h
theorem IX {x_ bi iter:Expr} {A_:List Expr} {y:Str} {py:Pos} {scope:Scope} {cl:List (Str×Addr)} {pos Q3:Pos} {Q:Flow->Shared->Prop}
  (V9:swapsWith (.ListComp x_ [⟨bi,iter,A_,0⟩] scope pos) (some (.Name y py)) Q3.line env=pure true) (NK:closureFor scope env=pure cl) (d_:scope.kind= .function)
  (MI:∀y∈scope.names,y.2= .local->scope.names.lookup y.1=some .local)
  (h:wpAny (model prog w) A (eval iter env) (fun x s₁=>wpAny (model prog w) A (pyIter x) (dt prog w A env (.ListComp x_ [⟨bi,iter,A_,0⟩] scope pos) (newList []) scope cl (compPost (model prog w) A E (some (assign (.Name y py) env)) fun _ s'=>Q .next s') E) E s₁) E s)
  (hs:∀x,foldedSetIterable iter env x=pure x:=by intro _;rfl):wpAny (model prog w) A (exec (.Assign [.Name y py] (.ListComp x_ [⟨bi,iter,A_,0⟩] scope pos) Q3) env) Q E s:=by
 rw [exec_Assign_Name_used _ _ _ _ V9];refine wpAny_bind (wpAny_standAt (wpAny_bind ?_));show wpAny _ A (do let _ <-comprehension (.ListComp x_ [⟨bi,iter,A_,0⟩] scope pos) scope env _ (newList []) false (eval iter env) (some (assign (.Name y py) env))) _ _ s;exact wpAny_bind (wpAny_mono (wpAny_comprehension_free (use:=some (assign (.Name y py) env)) (Q:=fun _ s'=>Q .next s') rfl hs NK d_ MI h) (fun _ s' hq=>wpAny_pure (wpAny_pure hq)) fun _ _ e=>e)
end
theorem uj {prog:Program} {w:World} {A:Around} {s:Shared} {x_ bi iter:Expr} {A_:List Expr} {scope:Scope} {pos:Pos} {it fm:Value} {env:Env} {R:Result->Shared->Prop} (I:Nat->Shared->Prop)
  (turn:∀n s,I n s->wpAny (model prog w) A (pyNext it) (fun r s₁=>match r with
   |none=>R (.ok .next) s₁
   |some v=>wpAny (model prog w) A (letOwnedTupleGo bi it v) (fun _ aR=>wpAny (model prog w) A (assign bi env v) (fun _ aG=>wpAny (model prog w) A (mV A_ env) (fun ok bh=>
     if ok=true then wpAny (model prog w) A (eval x_ env) (fun x cU=>wpAny (model prog w) A (call (.builtin "list.append") [fm,x]) (fun _ gm=>∃m,m<n/\I m gm) (notedBy (model prog w) A env fun e s'=>R (.error e) s') cU) (notedBy (model prog w) A env fun e s'=>R (.error e) s') bh
     else ∃m,m<n/\I m bh) (notedBy (model prog w) A env fun e s'=>R (.error e) s') aG) (notedBy (model prog w) A env fun e s'=>R (.error e) s') aR) (notedBy (model prog w) A env fun e s'=>R (.error e) s') s₁) (notedBy (model prog w) A env fun e s'=>R (.error e) s') s)
  (n:Nat) (h:I n s):codeAny (model prog w) A (.compLoop (.ListComp x_ [⟨bi,iter,A_,0⟩] scope pos) 0 it fm env) R s:=by
 revert turn h;revert prog w A s x_ bi iter A_ scope pos it fm env R I n;refine' no_implicit_lambda% ((?zpad:∀(_:Nat),_) 0);refine' no_implicit_lambda% (eO ?zR (a:=((0,default,bw,callerA,{},default,default,default),([],default,default,Value.none,Value.none,default,fun _ _=>True,fun _ _=>True),0)) rfl (no_implicit_lambda% ((?zg:eE ?zR) 0 _ _ _ _ _ _ _ _ _ _ _ _ _ _ _ _)));intros _ prog w A s x_ bi iter A_ scope pos it fm env R I n;intro turn h;refine codeAny_loop rfl I (fun n s hI=>?_) n h;show wpAny _ A ((compTurn (.ListComp x_ [⟨bi,iter,A_,0⟩] scope pos) 0 it fm env).onRaise (fun x=>do noteFrame x env;theTreesLotGoes x)) _ _ s;refine wpAny_noted ?_;rw [compTurn_list];refine wpAny_bind (wpAny_standAt (wpAny_bind (wpAny_mono (turn n s hI) (fun r s₁ aT=>?_) fun _ _ q=>q)))
 match r,aT with
 |none,aT=>exact wpAny_pure aT
 |some v,aT=>
  refine wpAny_bind (wpAny_mono aT (fun _ aR h₀=>wpAny_bind (wpAny_mono h₀ (fun _ aG bP=>wpAny_bind (wpAny_mono bP (fun ok bh bu=>?_) fun _ _ q=>q)) fun _ _ q=>q)) fun _ _ q=>q)
  match ok,bu with
  |false,bu=>exact wpAny_pure ⟨rfl,bu⟩
  |true,bu=>exact wpAny_bind (wpAny_bind (wpAny_mono bu (fun x cU eu=>wpAny_bind (wpAny_mono eu (fun _ gm gp=>wpAny_pure (wpAny_pure ⟨rfl,gp⟩)) fun _ _ q=>q)) fun _ _ q=>q))
noncomputable def iL (h₀:Heap) (L:Addr) (m:Str->Option Value) (I:Addr) (oI:Obj) (C:Addr) (oC:Obj) (D:Addr) (ys:List Value) (J:List Value->ax->Prop) (s:Shared) (y:Value) (aG:Shared):Prop:=
 ∃news',Fr h₀ L aG.heap m/\News h₀ L aG.heap ((I,oI)::(C,oC)::(D,bC ys)::news')/\(∀p∈news', @Ne Nat p.1 I/\ @Ne Nat p.1 C/\ @Ne Nat p.1 D)/\J (ys++[y]) news'/\aM s aG
noncomputable def mh (h₀:Heap) (L:Addr) (m:Str->Option Value) (I:Addr) (oI:Obj) (C:Addr) (oC:Obj) (D:Addr) (ys:List Value) (J:List Value->ax->Prop) (s:Shared) (aG:Shared):Prop:=
 ∃news',Fr h₀ L aG.heap m/\News h₀ L aG.heap ((I,oI)::(C,oC)::(D,bC ys)::news')/\(∀p∈news', @Ne Nat p.1 I/\ @Ne Nat p.1 C/\ @Ne Nat p.1 D)/\J ys news'/\aM s aG
section
variable {prog:Program} {w:World} {A:Around} {env:Env} {E:Value->Shared->Prop} {s:Shared} {h₀:Heap} {L:Addr} {m:Str->Option Value} {news:ax}
theorem pg {x_ bi iter:Expr} {A_:List Expr} {scope:Scope} {cl:List (Str×Addr)} {pos:Pos} {l:Addr} {vs:List Value} {RR:Value->Addr->Result->Shared->Prop} (Inv:Nat->List Value->ax->Prop)
  (F:Fr h₀ L s.heap m) (N:News h₀ L s.heap news) (hh:A.handled=none)
  (hl:∀i ys ao (s₁:Shared),Inv i ys ao->Fr h₀ L s₁.heap m->News h₀ L s₁.heap ao->s₁.heap.IsList l vs.toArray) (ba:vs.length<=100000) (h0:Inv 0 [] news)
  (f_:∀i ys ao,Inv i ys ao->ys.length<=i)
  (hcell:∀y∈scope.names,y.2≠ .cell) (d_:scope.kind= .function)
  (turn:∀i v I oI C oC D ys bj ao (s₁:Shared),vs[i]?=some v->Inv i ys ao->LCg.NsObj oC bj->Fr h₀ L s₁.heap m->News h₀ L s₁.heap ((I,oI)::(C,oC)::(D,bC ys)::ao)->(∀p∈ao, @Ne Nat p.1 I/\ @Ne Nat p.1 C/\ @Ne Nat p.1 D)->
   (@Ne Nat I C/\ @Ne Nat I D/\ @Ne Nat C D)->aM s s₁->wpAny (model prog w) A (assign bi (compEnvC scope cl C env) v) (fun _ aG=>wpAny (model prog w) A (mV A_ (compEnvC scope cl C env)) (fun ok bh=>
    if ok=true then wpAny (model prog w) A (eval x_ (compEnvC scope cl C env)) (fun y cU=>∃i_,(∃cb,LCg.NsObj i_ cb)/\iL h₀ L m I oI C i_ D ys (Inv (i+1)) s y cU) bd bh else ∃i_,(∃cb,LCg.NsObj i_ cb)/\mh h₀ L m I oI C i_ D ys (Inv (i+1)) s bh) bd aG) bd s₁)
  (LF:∀D C (s':Shared) m' ys news',Fr h₀ L s'.heap m->News h₀ L s'.heap ((D,bC ys)::news')->(∀p∈news', @Ne Nat p.1 D)->s'.heap.Ns C m'->h₀.get? C=none->C≠L->C≠D->(∀p∈news',p.1≠C)->Inv vs.length ys news'->aM s s'->RR (.ref D) C (.ok .next) s')
  (M6:∀(I:Addr) (i:Nat) v (s₁:Shared) (Q:Unit->Shared->Prop) E,s₁.heap.IsListIter I l i->Q () s₁->wpAny (model prog w) A (letOwnedTupleGo bi (.ref I) v) Q E s₁):
  wpAny (model prog w) A (pyIter (.ref l)) (dt prog w A env (.ListComp x_ [⟨bi,iter,A_,0⟩] scope pos) (newList []) scope cl RR E) E s:=by
 revert F N hh hl ba h0 f_ hcell d_ turn LF M6;revert prog w A env E s h₀ L m news x_ bi iter A_ scope cl pos l vs RR Inv;refine' no_implicit_lambda% ((?zpad:∀(_ _:Nat),_) 0 0);refine' no_implicit_lambda% (fp ?zR (a:=((0,0,default,bw,callerA,default,fun _ _=>True,{}),({},0,fun _=>none,[],default,default,default,[]),(default,[],default,0,[],fun _ _ _ _=>True,fun _ _ _=>True))) rfl (no_implicit_lambda% ((?zg:eZ ?zR) 0 0 _ _ _ _ _ _ _ _ _ _ _ _ _ _ _ _ _ _ _ _ _)));intros _ _ prog w A env E s h₀ L m news x_ bi iter A_ scope cl pos l vs RR Inv;intros F N hh hl ba h0 f_ hcell d_ turn LF M6;refine wpAny_pyIter_list (hl _ _ _ _ h0 F N) ?_;unfold dt;refine wpAny_newObj_type (wpAny_newFunctionEnv hcell (by intro y hy;simp at hy) (fun aT cK co=>?_) d_);dsimp only at cK co ⊢;generalize Ok:s.heap.push {cls:= .type "list_iterator",data:= .fields #[.ref l, .int 0 0]}=H1 at cK co ⊢;generalize LR:s.heap.objs.size=I at cK co ⊢
 have w_:H1.objs.size=I+1:=by rw [<-Ok,Heap.size_push,LR]
 generalize Nu:H1.push {cls:= .type "list",dict:=none,data:= .seq ([]:List Value).toArray}=H2 at cK co ⊢;generalize tB:H1.objs.size=D at cK co ⊢
 have KO:H2.objs.size=D+1:=by rw [<-Nu,Heap.size_push,tB]
 generalize KN:H2.objs.size=C at cK co ⊢
 have old:∀b o,s.heap.get? b=some o->aT.get? b=some o:=fun b o e=>by
  have hb: @LT.lt Nat _ b s.heap.objs.size:=Heap.lt_size e;exact co.extBut b o (neN (hZ hb w_ KO LR tB KN)) (Heap.get?_push_of_some _ (by rw [<-Nu];exact Heap.get?_push_of_some _ (by rw [<-Ok];exact Heap.get?_push_of_some _ e)))
 have gI:aT.get? I=some {cls:= .type "list_iterator",data:= .fields #[.ref l, .int 0 0]}:=
  co.extBut I _ (neN (i7 w_ KO tB KN)) (Heap.get?_push_of_some _ (by rw [<-Nu];exact Heap.get?_push_of_some _ (by rw [<-Ok,<-LR];exact Heap.get?_push_size _ (by rfl))))
 have gD:aT.get? D=some (bC []):=co.extBut D _ (neN (i6 KO KN)) (Heap.get?_push_of_some _ (by rw [<-Nu,<-tB];exact Heap.get?_push_size _ (by rfl)))
 have cP:∀a,I<=a->h₀.get? a=none:=fun a ha=>by
  cases e:h₀.get? a with
  |none=>rfl
  |some o'=>exact absurd (Heap.lt_size (F.keep a o' e)) (Nat.not_lt.mpr (by rw [LR];exact ha))
 have Mt: @LT.lt Nat _ L I:=LR▸F.ns.lt
 have IL: @Ne Nat I L:=by exact nX Mt
 have CL: @Ne Nat C L:=by exact nW Mt w_ KO tB KN
 have DL: @Ne Nat D L:=by exact nV Mt w_ tB
 have IC: @Ne Nat I C:=by exact i7 w_ KO tB KN
 have ID: @Ne Nat I D:=by exact i6 w_ tB
 have CD: @Ne Nat C D:=by exact nU KO KN
 have Lf:∀p∈news, @Ne Nat p.1 I/\ @Ne Nat p.1 C/\ @Ne Nat p.1 D:=fun p hp=>by
  have q: @LT.lt Nat _ p.1 s.heap.objs.size:=Heap.lt_size (N p hp).1;exact nO q w_ KO LR tB KN
 have loop:∀bh:Shared,bh={s with heap:=aT,toks:=s.toks+([]:List (Str×Value)).length}->
   codeAny (model prog w) A (.compLoop (.ListComp x_ [⟨bi,iter,A_,0⟩] scope pos) 0 (.ref I) (.ref D) (compEnvC scope cl C env)) (RR (.ref D) C) bh:=by
  intro bh aj;subst aj
  refine uj
   (fun k s'=>∃i ys oI oC m' news',i<=vs.length/\k=vs.length - i/\(oI.cls= .type "list_iterator"/\oI.data= .fields #[.ref l, .int i 0])/\Inv i ys news'/\LCg.NsObj oC m'/\Fr h₀ L s'.heap m/\News h₀ L s'.heap ((I,oI)::(C,oC)::(D,bC ys)::news')/\
    (∀p∈news', @Ne Nat p.1 I/\ @Ne Nat p.1 C/\ @Ne Nat p.1 D)/\aM s s') ?_ vs.length ?_
  ·intros k s' aj;refine pW aj fun i ys oI oC m' news' aZ=>?_;refine fb aZ fun hi bU PU hJ hC F' N' Lm S'=>?_;subst bU
   have zI:=N' (I,oI) List.mem_cons_self;have Nr:News h₀ L s'.heap news':=fun p hp=>N' p (.tail _ (.tail _ (.tail _ hp)));have Oa:=hl i ys news' s' hJ F' Nr
   by_cases bW:i<vs.length
   ·have hx:vs[i]?=some vs[i]:=List.getElem?_eq_getElem bW
    refine wpAny_pyNext_list_item (i:=i) (x:=vs[i]) ⟨_,zI.1,PU⟩ Oa (by simp) fun h' e_ hs=>?_;refine am e_ fun NH aj=>?_;clear e_;refine ak aj fun Q6 Nn=>?_;dsimp only;refine M6 I (i+1) _ {s' with heap:=h'} _ _ ⟨_,Q6,Nn⟩ ?_;have bV:Fr h₀ L h' m:=F'.change hs IL (cP _ (Nat.le_refl _))
    have ce:News h₀ L h' ((I,NH)::(C,oC)::(D,bC ys)::news'):=fun p hp=>by
     rcases aB hp with rfl|hp
     ·exact ⟨Q6,zI.2⟩
     ·have z:=N' p (.tail _ hp)
      refine ⟨hs.extBut _ _ ?_ z.1,z.2⟩
      rcases aB hp with rfl|hp
      ·exact Ne.symm IC
      ·rcases aB hp with rfl|hp
       ·exact Ne.symm ID
       ·exact (Lm p hp).1
    refine wpAny_mono (turn i vs[i] I NH C oC D ys m' news' {s' with heap:=h'} hx hJ hC bV ce Lm ⟨IC,ID,CD⟩ S') (fun _ aG bP=>?_) fun _ _ f=>f.elim;refine wpAny_mono bP (fun ok bh bu=>?_) fun _ _ f=>f.elim
    cases ok with
    |false=>
     rw [if_neg (by decide)] at bu ⊢;refine am bu fun i_ aj=>?_;clear bu;refine ak aj fun aZ bU=>?_;refine am aZ fun cb Lx=>?_;refine am bU fun nw dK=>?_;refine bv dK fun ei cF dw Lv eh=>?_;exact ⟨vs.length - (i+1),by exact i0 bW,i+1,ys,NH,i_,cb,nw,bW,rfl,Nn,Lv,Lx,ei,cF,dw,eh⟩
    |true=>
     rw [if_pos rfl] at bu ⊢;refine wpAny_mono bu (fun y cU eu=>?_) fun _ _ f=>f.elim;refine am eu fun i_ aj=>?_;clear eu;refine ak aj fun aZ bU=>?_;refine am aZ fun cb Lx=>?_;refine am bU fun nw dK=>?_;refine bv dK fun ei cF dw Lv eh=>?_;have zD:=cF (D,bC ys) (.tail _ (.tail _ (.head _)));have lG:=f_ _ _ _ hJ;refine append_at (hsz:=by rw [List.size_toArray,sizeLine_eq];exact nM bW ba lG) zD.1 fun gp dS mz=>?_;refine ⟨vs.length - (i+1),by exact i0 bW,i+1,ys++[y],NH,i_,cb,nw,bW,rfl,Nn,Lv,Lx,ei.change dS DL (cP _ (gw w_ tB)),fun p hp=>?_,dw,eh⟩
     rcases aB hp with rfl|hp
     ·have z:=cF _ (.head _)
      exact ⟨dS.extBut _ _ ID z.1,z.2⟩
     ·rcases aB hp with rfl|hp
      ·have z:=cF _ (.tail _ (.head _))
       exact ⟨dS.extBut _ _ CD z.1,z.2⟩
      ·rcases aB hp with rfl|hp
       ·exact ⟨mz.trans (congrArg some (LCg.lst_snoc ys y)),zD.2⟩
       ·have z:=cF p (.tail _ (.tail _ (.tail _ hp)))
        exact ⟨dS.extBut _ _ (dw p hp).2.2 z.1,z.2⟩
   ·obtain rfl:i=vs.length:=Nat.le_antisymm hi (Nat.not_lt.mp bW)
    refine wpAny_pyNext_list_end (i:=vs.length) hh ⟨_,zI.1,PU⟩ Oa (by simp) fun h' hx=>?_;have zC:=N' (C,oC) (.tail _ (.head _))
    refine LF D C {s' with heap:=h'} m' ys news' ⟨F'.ns.at' fun o e=>hx _ o (Ne.symm IL) e,fun b o e=>hx b o (fun q=>by rw [q,cP _ (Nat.le_refl _)] at e;cases e) (F'.keep b o e),F'.above⟩ (fun p hp=>?_)
     (fun p hp=>(Lm p hp).2.2) ((hC.ns zC.1).at' fun o e=>hx _ o (Ne.symm IC) e) zC.2.2 CL CD (fun p hp=>(Lm p hp).2.1) hJ S'
    have z:=N' p (.tail _ (.tail _ hp));refine ⟨hx _ _ ?_ z.1,z.2⟩
    rcases aB hp with rfl|hp
    ·exact Ne.symm ID
    ·exact (Lm p hp).1
  ·refine am (LCg.ns_obj cK) fun oC aj=>?_;refine ak aj fun gC hC=>?_
   refine ⟨0,[],{cls:= .type "list_iterator",data:= .fields #[.ref l, .int 0 0]},oC,_,news,Nat.zero_le _,rfl,⟨rfl,rfl⟩,h0,hC,F.keeps old,fun p hp=>?_,Lf,SameF.refl⟩
   rcases aB hp with rfl|hp
   ·exact ⟨gI,IL,cP _ (Nat.le_refl _)⟩
   ·rcases aB hp with rfl|hp
    ·exact ⟨gC,CL,cP _ (nL w_ KO tB KN)⟩
    ·rcases aB hp with rfl|hp
     ·exact ⟨gD,DL,cP _ (gw w_ tB)⟩
     ·exact ⟨old _ _ (N p hp).1,(N p hp).2⟩
 refine codeAny_compStart_list (loop _ rfl) ?_;refine wpAny_pyIter_listiter (l:=l) (i:=0) ⟨_,gI,rfl,rfl⟩ ?_;exact loop _ rfl
theorem rW {Q:Value->Shared->Prop} {D C:Addr} {aR s':Shared} {m':Str->Option Value} {α:Type} {ob:α->Obj} {ys:α} {news':ax} {J:α->ax->Prop}
  (done:∀D ys ao (s₁:Shared),J ys ao->Fr h₀ L s₁.heap m->News h₀ L s₁.heap ((D,ob ys)::ao)->(∀p∈ao, @Ne Nat p.1 D)->aM aR s₁->Q (.ref D) s₁)
  (F:Fr h₀ L s'.heap m) (N:News h₀ L s'.heap ((D,ob ys)::news')) (off:∀p∈news', @Ne Nat p.1 D) (hn:s'.heap.Ns C m') (dk:h₀.get? C=none) (Mf:C≠L) (Mo:C≠D) (Li:∀p∈news',p.1≠C) (hJ:J ys news') (S:aM aR s'):
  compPost (model prog w) A E none Q (.ref D) C (.ok .next) s':=
 ⟨m',hn,fun Lp L6=>done D ys news' {s' with heap:=Lp} hJ (F.change L6 Mf dk) (fun p hp=>⟨L6.extBut _ _ (by
  rcases aB hp with rfl|hp
  ·exact Ne.symm Mo
  ·exact Li p hp) (N p hp).1,(N p hp).2⟩) off S⟩
theorem rX {y:Str} {py:Pos} {Q:Shared->Prop} {D C:Addr} {aR s':Shared} {m':Str->Option Value} {α:Type} {ob:α->Obj} {ys:α} {news':ax} {J:α->ax->Prop}
  (hy:env.kindOf y=some .local) (hp:(env.scope.kind == .class || (env.scope.kind == .module && env.locals != env.globals))=false)
  (done:∀D ys ao (s₁:Shared),J ys ao->Fr h₀ env.locals s₁.heap (fun z=>if z=y then some (.ref D) else m z)->News h₀ env.locals s₁.heap ((D,ob ys)::ao)->(∀p∈ao, @Ne Nat p.1 D)->aM aR s₁->Q s₁)
  (F:Fr h₀ env.locals s'.heap m) (N:News h₀ env.locals s'.heap ((D,ob ys)::news')) (off:∀p∈news', @Ne Nat p.1 D) (hn:s'.heap.Ns C m') (dk:h₀.get? C=none) (Mf:C≠env.locals) (Mo:C≠D) (Li:∀p∈news',p.1≠C) (hJ:J ys news') (S:aM aR s'):
  compPost (model prog w) A E (some (assign (.Name y py) env)) (fun _ s'=>Q s') (.ref D) C (.ok .next) s':=by
 show wpAny _ A (assign (.Name y py) env (.ref D)) _ _ _;refine wpAny_assign_Name (wpAny_storeName_local hy F.ns (fun bP uI cD=>?_) hp);have uL:h₀.get? env.locals=none:=Heap.get?_none_of_le F.above
 have bV:Fr h₀ env.locals bP (fun z=>if z=y then some (.ref D) else m z):=⟨uI,fun b o e=>cD.extBut b o (fun q=>by rw [q,uL] at e;cases e) (F.keep b o e),F.above⟩
 refine ⟨m',hn.sameBut cD Mf,fun Lp L6=>done D ys news' {s' with heap:=Lp,toks:=_} hJ (bV.change L6 Mf dk) (fun p hp=>?_) off S⟩;have z:bP.get? p.1=some p.2:=cD.extBut _ _ (N p hp).2.1 (N p hp).1;refine ⟨L6.extBut _ _ ?_ z,(N p hp).2⟩
 rcases aB hp with rfl|hp
 ·exact Ne.symm Mo
 ·exact Li p hp
theorem sg {I C D:Addr} {oI oC oD:Obj} {h h':Heap} {bj:Str->Option Value} {ao:ax} (F:Fr h₀ L h m) (N:News h₀ L h ((I,oI)::(C,oC)::(D,oD)::ao)) (off:∀p∈ao, @Ne Nat p.1 I/\ @Ne Nat p.1 C/\ @Ne Nat p.1 D) (ne: @Ne Nat I C/\ @Ne Nat I D/\ @Ne Nat C D)
  (hs:∀c o,c≠C->h.get? c=some o->h'.get? c=some o) (hn:h'.Ns C bj):∃i_,LCg.NsObj i_ bj/\Fr h₀ L h' m/\News h₀ L h' ((I,oI)::(C,i_)::(D,oD)::ao):=by
 refine am (LCg.ns_obj hn) fun i_ aj=>?_;refine ak aj fun gC hC=>?_;have zC:=N (C,oC) (.tail _ (.head _));refine ⟨i_,hC,⟨F.ns.at' fun o e=>hs _ o (Ne.symm zC.2.1) e,fun b o e=>hs b o (fun q=>by rw [q,zC.2.2] at e;cases e) (F.keep b o e),F.above⟩,fun p hp=>?_⟩
 rcases aB hp with rfl|hp
 ·have z:=N _ (.head _)
  exact ⟨hs _ _ ne.1 z.1,z.2⟩
 ·rcases aB hp with rfl|hp
  ·exact ⟨gC,zC.2⟩
  ·have z:=N p (.tail _ (.tail _ hp))
   refine ⟨hs _ _ ?_ z.1,z.2⟩
   rcases aB hp with rfl|hp
   ·exact Ne.symm ne.2.2
   ·exact (off p hp).2.1
theorem mO {x:Str} {px:Pos} {scope:Scope} {cl:List (Str×Addr)} {I C D:Addr} {oI oC oD:Obj} {v:Value} {bj:Str->Option Value} {ao:ax} {s₁:Shared} {Q:Unit->Shared->Prop}
  (d_:scope.kind= .function) (hx:scope.names.lookup x=some .local) (hC:LCg.NsObj oC bj) (F:Fr h₀ L s₁.heap m) (N:News h₀ L s₁.heap ((I,oI)::(C,oC)::(D,oD)::ao)) (off:∀p∈ao, @Ne Nat p.1 I/\ @Ne Nat p.1 C/\ @Ne Nat p.1 D) (ne: @Ne Nat I C/\ @Ne Nat I D/\ @Ne Nat C D)
  (h:∀i_ cb (aG:Shared),LCg.NsObj i_ cb->cb x=some v->Fr h₀ L aG.heap m->News h₀ L aG.heap ((I,oI)::(C,i_)::(D,oD)::ao)->aM s₁ aG->Q () aG):
  wpAny (model prog w) A (assign (.Name x px) (compEnvC scope cl C env) v) Q bd s₁:=by
 refine wpAny_assign_Name (wpAny_storeName_local (lookup_relabel_local hx) (hC.ns (N _ (.tail _ (.head _))).1) (fun bu mo mi=>?_) (by simp [compEnvC,relabel,d_]));refine am (sg F N off ne (fun c o hc e=>mi.extBut c o hc e) mo) fun i_ aj=>?_;refine aI aj fun Lx F' N'=>?_;exact h i_ _ {s₁ with heap:=bu,toks:=_} Lx (by simp) F' N' SameF.refl
theorem wi {a b:Str} {pa pb tp:Pos} {kk:Nat} {T:Addr} {va vb:Value} {scope:Scope} {cl:List (Str×Addr)} {I C D:Addr} {oI oC oD:Obj} {bj:Str->Option Value} {ao:ax} {s₁:Shared} {Q:Unit->Shared->Prop}
  (hh:A.handled=none) (hT:s₁.heap.IsTuple T #[va,vb]) (Ll:a≠b) (d_:scope.kind= .function) (ha:scope.names.lookup a=some .local) (hb:scope.names.lookup b=some .local) (hC:LCg.NsObj oC bj) (F:Fr h₀ L s₁.heap m) (N:News h₀ L s₁.heap ((I,oI)::(C,oC)::(D,oD)::ao)) (off:∀p∈ao, @Ne Nat p.1 I/\ @Ne Nat p.1 C/\ @Ne Nat p.1 D) (ne: @Ne Nat I C/\ @Ne Nat I D/\ @Ne Nat C D)
  (h:∀i_ cb (aG:Shared),LCg.NsObj i_ cb->cb a=some va->cb b=some vb->Fr h₀ L aG.heap m->News h₀ L aG.heap ((I,oI)::(C,i_)::(D,oD)::ao)->aM s₁ aG->Q () aG):
  wpAny (model prog w) A (assign (.Tuple [.Name a pa, .Name b pb] kk tp) (compEnvC scope cl C env) (.ref T)) Q bd s₁:=by
 refine kcp_assign hh hT (lookup_relabel_local ha) (lookup_relabel_local hb) (by simp [compEnvC,relabel,d_]) (hC.ns (N _ (.tail _ (.head _))).1) fun bu tk mo mi=>?_;refine am (sg F N off ne mi mo) fun i_ aj=>?_;refine aI aj fun Lx F' N'=>?_;exact h i_ _ {s₁ with heap:=bu,toks:=tk} Lx (by simp [Ll]) (by simp) F' N' SameF.refl
theorem gM {x_ iter:Expr} {x:Str} {px:Pos} {scope:Scope} {cl:List (Str×Addr)} {pos:Pos} {l:Addr} {vs:List Value} {RR:Value->Addr->Result->Shared->Prop} (Inv:Nat->List Value->ax->Prop)
  (F:Fr h₀ L s.heap m) (N:News h₀ L s.heap news) (hh:A.handled=none)
  (hl:∀i ys ao (s₁:Shared),Inv i ys ao->Fr h₀ L s₁.heap m->News h₀ L s₁.heap ao->s₁.heap.IsList l vs.toArray) (ba:vs.length<=100000) (h0:Inv 0 [] news)
  (f_:∀i ys ao,Inv i ys ao->ys.length<=i) (hcell:∀y∈scope.names,y.2≠ .cell) (d_:scope.kind= .function) (hx:scope.names.lookup x=some .local)
  (turn:∀i v I oI C oC D ys bj ao (s₁:Shared),vs[i]?=some v->Inv i ys ao->LCg.NsObj oC bj->bj x=some v->Fr h₀ L s₁.heap m->News h₀ L s₁.heap ((I,oI)::(C,oC)::(D,bC ys)::ao)->(∀p∈ao, @Ne Nat p.1 I/\ @Ne Nat p.1 C/\ @Ne Nat p.1 D)->
   (@Ne Nat I C/\ @Ne Nat I D/\ @Ne Nat C D)->aM s s₁->wpAny (model prog w) A (eval x_ (compEnvC scope cl C env)) (iL h₀ L m I oI C oC D ys (Inv (i+1)) s) bd s₁)
  (LF:∀D C (s':Shared) m' ys news',Fr h₀ L s'.heap m->News h₀ L s'.heap ((D,bC ys)::news')->(∀p∈news', @Ne Nat p.1 D)->s'.heap.Ns C m'->h₀.get? C=none->C≠L->C≠D->(∀p∈news',p.1≠C)->Inv vs.length ys news'->aM s s'->RR (.ref D) C (.ok .next) s')
  (ht:∀I v,letOwnedTupleGo (.Name x px) I v=pure ():=by intro _ _;rfl):
  wpAny (model prog w) A (pyIter (.ref l)) (dt prog w A env (.ListComp x_ [⟨.Name x px,iter,[],0⟩] scope pos) (newList []) scope cl RR E) E s:=by
 refine pg Inv F N hh hl ba h0 f_ hcell d_ ?_ LF (fun I i v s₁ Q E _ hQ=>wpAny_of_eq (ht (.ref I) v) hQ);intros i v I oI C oC D ys bj ao s₁ hv hJ hC aU aN off ne S;refine mO d_ hx hC aU aN off ne fun i_ cb aG Lx hm bV ce iQ=>?_;refine wpAny_tests_nil ?_;rw [if_pos rfl];exact wpAny_mono (turn i v I oI C i_ D ys cb ao aG hv hJ Lx hm bV ce off ne (S.trans iQ)) (fun y bh bu=>⟨i_,⟨cb,Lx⟩,bu⟩) fun _ _ f=>f
theorem pj {x_ iter c:Expr} {x:Str} {px:Pos} {scope:Scope} {cl:List (Str×Addr)} {pos:Pos} {l:Addr} {vs:List Value} {RR:Value->Addr->Result->Shared->Prop} (Inv:Nat->List Value->ax->Prop)
  (F:Fr h₀ L s.heap m) (N:News h₀ L s.heap news) (hh:A.handled=none)
  (hl:∀i ys ao (s₁:Shared),Inv i ys ao->Fr h₀ L s₁.heap m->News h₀ L s₁.heap ao->s₁.heap.IsList l vs.toArray) (ba:vs.length<=100000) (h0:Inv 0 [] news)
  (f_:∀i ys ao,Inv i ys ao->ys.length<=i) (hcell:∀y∈scope.names,y.2≠ .cell) (d_:scope.kind= .function) (hx:scope.names.lookup x=some .local)
  (turn:∀i v I oI C oC D ys bj ao (s₁:Shared),vs[i]?=some v->Inv i ys ao->LCg.NsObj oC bj->bj x=some v->Fr h₀ L s₁.heap m->News h₀ L s₁.heap ((I,oI)::(C,oC)::(D,bC ys)::ao)->(∀p∈ao, @Ne Nat p.1 I/\ @Ne Nat p.1 C/\ @Ne Nat p.1 D)->
   (@Ne Nat I C/\ @Ne Nat I D/\ @Ne Nat C D)->aM s s₁->wpAny (model prog w) A (isTrue c (compEnvC scope cl C env) (eval c (compEnvC scope cl C env))) (fun ok bh=>if ok=true then wpAny (model prog w) A (eval x_ (compEnvC scope cl C env)) (iL h₀ L m I oI C oC D ys (Inv (i+1)) s) bd bh else mh h₀ L m I oI C oC D ys (Inv (i+1)) s bh) bd s₁)
  (LF:∀D C (s':Shared) m' ys news',Fr h₀ L s'.heap m->News h₀ L s'.heap ((D,bC ys)::news')->(∀p∈news', @Ne Nat p.1 D)->s'.heap.Ns C m'->h₀.get? C=none->C≠L->C≠D->(∀p∈news',p.1≠C)->Inv vs.length ys news'->aM s s'->RR (.ref D) C (.ok .next) s')
  (ht:∀I v,letOwnedTupleGo (.Name x px) I v=pure ():=by intro _ _;rfl):
  wpAny (model prog w) A (pyIter (.ref l)) (dt prog w A env (.ListComp x_ [⟨.Name x px,iter,[c],0⟩] scope pos) (newList []) scope cl RR E) E s:=by
 refine pg Inv F N hh hl ba h0 f_ hcell d_ ?_ LF (fun I i v s₁ Q E _ hQ=>wpAny_of_eq (ht (.ref I) v) hQ);intros i v I oI C oC D ys bj ao s₁ hv hJ hC aU aN off ne S;refine mO d_ hx hC aU aN off ne fun i_ cb aG Lx hm bV ce iQ=>?_;refine wpAny_tests_one ?_;refine wpAny_mono (turn i v I oI C i_ D ys cb ao aG hv hJ Lx hm bV ce off ne (S.trans iQ)) (fun ok bh bu=>?_) fun _ _ f=>f
 cases ok with
 |true=>
  rw [if_pos rfl] at bu ⊢;exact wpAny_mono bu (fun y bh bu=>⟨i_,⟨cb,Lx⟩,bu⟩) fun _ _ f=>f
 |false=>
  rw [if_neg (by decide)] at bu ⊢;exact ⟨i_,⟨cb,Lx⟩,bu⟩
theorem sQ {RF:List Expr} {kk:Nat} {tp:Pos} {I l:Addr} {i:Nat} {v:Value} {Q:Unit->Shared->Prop} (e_:s.heap.IsListIter I l i) (hQ:Q () s):wpAny (model prog w) A (letOwnedTupleGo (.Tuple RF kk tp) (.ref I) v) Q E s:=by
 cases v with
 |ref T=>exact wpAny_letOwnedTupleGo_listiter e_ hQ
 |_=>exact wpAny_pure hQ
theorem ph {x_ iter:Expr} {a b:Str} {pa pb tp:Pos} {kk:Nat} {scope:Scope} {cl:List (Str×Addr)} {pos:Pos} {l:Addr} {vs:List Value} {RR:Value->Addr->Result->Shared->Prop} (Inv:Nat->List Value->ax->Prop) (K:Nat->Value->Value->Prop)
  (F:Fr h₀ L s.heap m) (N:News h₀ L s.heap news) (hh:A.handled=none)
  (hl:∀i ys ao (s₁:Shared),Inv i ys ao->Fr h₀ L s₁.heap m->News h₀ L s₁.heap ao->s₁.heap.IsList l vs.toArray) (ba:vs.length<=100000) (h0:Inv 0 [] news)
  (f_:∀i ys ao,Inv i ys ao->ys.length<=i) (hcell:∀y∈scope.names,y.2≠ .cell) (d_:scope.kind= .function) (Ll:a≠b) (ha:scope.names.lookup a=some .local) (hb:scope.names.lookup b=some .local)
  (hK:∀i v ys ao (s₁:Shared),vs[i]?=some v->Inv i ys ao->Fr h₀ L s₁.heap m->News h₀ L s₁.heap ao->∃T va vb,v= .ref T/\s₁.heap.IsTuple T #[va,vb]/\K i va vb)
  (turn:∀i va vb I oI C oC D ys bj ao (s₁:Shared),i<vs.length->K i va vb->Inv i ys ao->LCg.NsObj oC bj->bj a=some va->bj b=some vb->Fr h₀ L s₁.heap m->News h₀ L s₁.heap ((I,oI)::(C,oC)::(D,bC ys)::ao)->(∀p∈ao, @Ne Nat p.1 I/\ @Ne Nat p.1 C/\ @Ne Nat p.1 D)->
   (@Ne Nat I C/\ @Ne Nat I D/\ @Ne Nat C D)->aM s s₁->wpAny (model prog w) A (eval x_ (compEnvC scope cl C env)) (iL h₀ L m I oI C oC D ys (Inv (i+1)) s) bd s₁)
  (LF:∀D C (s':Shared) m' ys news',Fr h₀ L s'.heap m->News h₀ L s'.heap ((D,bC ys)::news')->(∀p∈news', @Ne Nat p.1 D)->s'.heap.Ns C m'->h₀.get? C=none->C≠L->C≠D->(∀p∈news',p.1≠C)->Inv vs.length ys news'->aM s s'->RR (.ref D) C (.ok .next) s'):
  wpAny (model prog w) A (pyIter (.ref l)) (dt prog w A env (.ListComp x_ [⟨.Tuple [.Name a pa, .Name b pb] kk tp,iter,[],0⟩] scope pos) (newList []) scope cl RR E) E s:=by
 refine pg Inv F N hh hl ba h0 f_ hcell d_ ?_ LF (fun I i v s₁ Q E e_ hQ=>sQ e_ hQ);intros i v I oI C oC D ys bj ao s₁ hv hJ hC aU aN off ne S;refine aW (hK i v ys ao s₁ hv hJ aU fun p hp=>aN p (.tail _ (.tail _ (.tail _ hp)))) fun T va vb aj=>?_;refine aI aj fun aZ hT hk=>?_;subst aZ;refine wi hh hT Ll d_ ha hb hC aU aN off ne fun i_ cb aG Lx Ub Ur bV ce iQ=>?_;refine wpAny_tests_nil ?_;rw [if_pos rfl];exact wpAny_mono (turn i va vb I oI C i_ D ys cb ao aG (List.getElem?_eq_some_iff.mp hv).1 hk hJ Lx Ub Ur bV ce off ne (S.trans iQ)) (fun y bh bu=>⟨i_,⟨cb,Lx⟩,bu⟩) fun _ _ f=>f
theorem fI {n:Nat} {Q:Value->Shared->Prop} {Inv:Nat->List Value->ax->Prop}
  (done:∀D ys ao (s₁:Shared),Inv n ys ao->Fr h₀ L s₁.heap m->News h₀ L s₁.heap ((D,bC ys)::ao)->(∀p∈ao, @Ne Nat p.1 D)->aM s s₁->Q (.ref D) s₁):
  ∀D C (s':Shared) m' ys news',Fr h₀ L s'.heap m->News h₀ L s'.heap ((D,bC ys)::news')->(∀p∈news', @Ne Nat p.1 D)->s'.heap.Ns C m'->h₀.get? C=none->C≠L->C≠D->(∀p∈news',p.1≠C)->Inv n ys news'->aM s s'->compPost (model prog w) A E none Q (.ref D) C (.ok .next) s':=
 fun _ _ _ _ _ _ F N off hn dk Mf Mo Li hJ S=>rW (ob:=bC) (J:=Inv n) done F N off hn dk Mf Mo Li hJ S
theorem iV {n:Nat} {y:Str} {py:Pos} {Q:Shared->Prop} {Inv:Nat->List Value->ax->Prop} (hL:env.locals=L) (hy:env.kindOf y=some .local) (hp:(env.scope.kind == .class || (env.scope.kind == .module && env.locals != env.globals))=false)
  (done:∀D ys ao (s₁:Shared),Inv n ys ao->Fr h₀ L s₁.heap (fun z=>if z=y then some (.ref D) else m z)->News h₀ L s₁.heap ((D,bC ys)::ao)->(∀p∈ao, @Ne Nat p.1 D)->aM s s₁->Q s₁):
  ∀D C (s':Shared) m' ys news',Fr h₀ L s'.heap m->News h₀ L s'.heap ((D,bC ys)::news')->(∀p∈news', @Ne Nat p.1 D)->s'.heap.Ns C m'->h₀.get? C=none->C≠L->C≠D->(∀p∈news',p.1≠C)->Inv n ys news'->aM s s'->compPost (model prog w) A E (some (assign (.Name y py) env)) (fun _ s'=>Q s') (.ref D) C (.ok .next) s':=
 by subst hL;exact fun _ _ _ _ _ _ F N off hn dk Mf Mo Li hJ S=>rX (ob:=bC) (J:=Inv n) hy hp done F N off hn dk Mf Mo Li hJ S
end
noncomputable abbrev eC:Obj:={cls:= .type "cell",data:= .cell none}
theorem Fk {M:Model} {A:Around} {E:Value->Shared->Prop} {s:Shared} {scope:Scope} {globals:Addr} {RA:List (Str×Addr)} {qual:Str} {c_:Env} {QO:Addr} {y:Str} {Q:Env->Shared->Prop}
  (QD:∀k fm,cellsFrom k scope.names fm=(y,k)::fm) (Rc:∀h,pushCells h scope.names=h.push eC)
  (hQ:∀h',h'.Ns s.heap.objs.size (fun _=>none)->h'.get? (s.heap.objs.size+1)=some eC->(∀b o,s.heap.get? b=some o->h'.get? b=some o)->
   Q (newEnv scope s.heap.objs.size globals ((y,s.heap.objs.size+1)::RA) qual none .none (some c_) QO) {s with heap:=h'}):
  wpAny M A (newFunctionEnv scope globals RA [] qual none .none (some c_) QO) Q E s:=by
 simp only [newFunctionEnv,Option.isSome_some,if_true];refine wpAny_bind (wpAny_alloc ?_)
 refine wpAny_bind (wpAny_layCells _ (fun name kind cells=>by cases hkc:kind == NameKind.cell<;>simp [hkc]) _ _ _ _ ?_)
 rw [QD,Rc];simp only [List.forIn_nil];refine wpAny_bind (wpAny_pure (wpAny_pure ?_));rw [show ({s with heap:=s.heap.push {cls:= .type "dict",data:= .dict #[]}}:Shared).heap.objs.size=s.heap.objs.size+1 from Heap.size_push ..]
 exact hQ _ ((Heap.Ns.new s.heap (.type "dict")).keeps fun b o e=>Heap.get?_push_of_some _ e) (by
  have:=Heap.get?_push_size (s.heap.push {cls:= .type "dict",data:= .dict #[]}) (o:=eC) rfl
  rwa [Heap.size_push] at this) (fun b o e=>Heap.get?_push_of_some _ (Heap.get?_push_of_some _ e))
section
variable {prog:Program} {w:World} {A:Around} {env:Env} {E:Value->Shared->Prop} {s:Shared} {h₀:Heap} {L:Addr} {m:Str->Option Value} {news:ax}
theorem H6 {yc:Str} {x_ bi iter:Expr} {A_:List Expr} {scope:Scope} {cl:List (Str×Addr)} {pos:Pos} {l:Addr} {vs:List Value} {RR:Value->Addr->Result->Shared->Prop} (Inv:Addr->Nat->List Value->ax->Prop)
  (F:Fr h₀ L s.heap m) (N:News h₀ L s.heap news) (hh:A.handled=none)
  (hl:∀K i ys ao (s₁:Shared),Inv K i ys ao->Fr h₀ L s₁.heap m->News h₀ L s₁.heap ao->s₁.heap.IsList l vs.toArray) (ba:vs.length<=100000) (hN:s.heap.IsList l vs.toArray) (h0:∀K,K≠L->(∀p∈news, @Ne Nat p.1 K)->Inv K 0 [] ((K,eC)::news))
  (f_:∀K i ys ao,Inv K i ys ao->ys.length<=i)
  (QD:∀k fm,cellsFrom k scope.names fm=(yc,k)::fm) (Rc:∀h,pushCells h scope.names=h.push eC) (d_:scope.kind= .function)
  (turn:∀K i v I oI C oC D ys bj ao (s₁:Shared),vs[i]?=some v->Inv K i ys ao->LCg.NsObj oC bj->Fr h₀ L s₁.heap m->News h₀ L s₁.heap ((I,oI)::(C,oC)::(D,bC ys)::ao)->(∀p∈ao, @Ne Nat p.1 I/\ @Ne Nat p.1 C/\ @Ne Nat p.1 D)->
   (@Ne Nat I C/\ @Ne Nat I D/\ @Ne Nat C D)->aM s s₁->wpAny (model prog w) A (assign bi (compEnvC scope ((yc,K)::cl) C env) v) (fun _ aG=>wpAny (model prog w) A (mV A_ (compEnvC scope ((yc,K)::cl) C env)) (fun ok bh=>
    if ok=true then wpAny (model prog w) A (eval x_ (compEnvC scope ((yc,K)::cl) C env)) (fun y cU=>∃i_,(∃cb,LCg.NsObj i_ cb)/\iL h₀ L m I oI C i_ D ys (Inv K (i+1)) s y cU) bd bh else ∃i_,(∃cb,LCg.NsObj i_ cb)/\mh h₀ L m I oI C i_ D ys (Inv K (i+1)) s bh) bd aG) bd s₁)
  (LF:∀K D C (s':Shared) m' ys news',Fr h₀ L s'.heap m->News h₀ L s'.heap ((D,bC ys)::news')->(∀p∈news', @Ne Nat p.1 D)->s'.heap.Ns C m'->h₀.get? C=none->C≠L->C≠D->(∀p∈news',p.1≠C)->Inv K vs.length ys news'->aM s s'->RR (.ref D) C (.ok .next) s')
  (M6:∀(I:Addr) (i:Nat) v (s₁:Shared) (Q:Unit->Shared->Prop) E,s₁.heap.IsListIter I l i->Q () s₁->wpAny (model prog w) A (letOwnedTupleGo bi (.ref I) v) Q E s₁):
  wpAny (model prog w) A (pyIter (.ref l)) (dt prog w A env (.ListComp x_ [⟨bi,iter,A_,0⟩] scope pos) (newList []) scope cl RR E) E s:=by
 revert F N hh hl ba hN h0 f_ QD Rc d_ turn LF M6;revert prog w A env E s h₀ L m news yc x_ bi iter A_ scope cl pos l vs RR Inv;refine' no_implicit_lambda% ((?zpad:∀(_:Nat),_) 0);refine' no_implicit_lambda% (fp ?zR (a:=((0,default,bw,callerA,default,fun _ _=>True,{},{}),(0,fun _=>none,[],Str.empty,default,default,default,[]),(default,[],default,0,[],fun _ _ _ _=>True,fun _ _ _ _=>True))) rfl (no_implicit_lambda% ((?zg:eZ ?zR) 0 _ _ _ _ _ _ _ _ _ _ _ _ _ _ _ _ _ _ _ _ _ _)));intros _ prog w A env E s h₀ L m news yc x_ bi iter A_ scope cl pos l vs RR Inv;intros F N hh hl ba hN h0 f_ QD Rc d_ turn LF M6;refine wpAny_pyIter_list hN ?_;unfold dt;refine wpAny_newObj_type (Fk QD Rc (fun aT cK fU co=>?_));dsimp only at cK fU co ⊢;generalize Ok:s.heap.push {cls:= .type "list_iterator",data:= .fields #[.ref l, .int 0 0]}=H1 at cK fU co ⊢;generalize LR:s.heap.objs.size=I at cK fU co ⊢
 have w_:H1.objs.size=I+1:=by rw [<-Ok,Heap.size_push,LR]
 generalize Nu:H1.push {cls:= .type "list",dict:=none,data:= .seq ([]:List Value).toArray}=H2 at cK fU co ⊢;generalize tB:H1.objs.size=D at cK fU co ⊢
 have KO:H2.objs.size=D+1:=by rw [<-Nu,Heap.size_push,tB]
 generalize KN:H2.objs.size=C at cK fU co ⊢;obtain ⟨KK,QF⟩:∃KK:Nat,KK=C+1:=⟨_,rfl⟩;rw [<-QF] at fU ⊢
 have old:∀b o,s.heap.get? b=some o->aT.get? b=some o:=fun b o e=>by
  have hb: @LT.lt Nat _ b s.heap.objs.size:=Heap.lt_size e;exact co b o (by rw [<-Nu];exact Heap.get?_push_of_some _ (by rw [<-Ok];exact Heap.get?_push_of_some _ e))
 have gI:aT.get? I=some {cls:= .type "list_iterator",data:= .fields #[.ref l, .int 0 0]}:=
  co I _ (by rw [<-Nu];exact Heap.get?_push_of_some _ (by rw [<-Ok,<-LR];exact Heap.get?_push_size _ (by rfl)))
 have gD:aT.get? D=some (bC []):=co D _ (by rw [<-Nu,<-tB];exact Heap.get?_push_size _ (by rfl))
 have cP:∀a,I<=a->h₀.get? a=none:=fun a ha=>by
  cases e:h₀.get? a with
  |none=>rfl
  |some o'=>exact absurd (Heap.lt_size (F.keep a o' e)) (Nat.not_lt.mpr (by rw [LR];exact ha))
 have Mt: @LT.lt Nat _ L I:=LR▸F.ns.lt
 have IL: @Ne Nat I L:=by exact nX Mt
 have CL: @Ne Nat C L:=by exact nW Mt w_ KO tB KN
 have DL: @Ne Nat D L:=by exact nV Mt w_ tB
 have IC: @Ne Nat I C:=by exact i7 w_ KO tB KN
 have ID: @Ne Nat I D:=by exact i6 w_ tB
 have CD: @Ne Nat C D:=by exact nU KO KN
 have Lf:∀p∈news, @Ne Nat p.1 I/\ @Ne Nat p.1 C/\ @Ne Nat p.1 D:=fun p hp=>by
  have q: @LT.lt Nat _ p.1 s.heap.objs.size:=Heap.lt_size (N p hp).1;exact nO q w_ KO LR tB KN
 have R6:∀p∈news, @Ne Nat p.1 KK:=fun p hp=>by
  have q: @LT.lt Nat _ p.1 s.heap.objs.size:=Heap.lt_size (N p hp).1;exact Cy q w_ KO QF LR tB KN
 have KL: @Ne Nat KK L:=by exact Co Mt w_ KO QF tB KN
 have KI: @Ne Nat KK I:=by exact Ci w_ KO QF tB KN
 have KD: @Ne Nat KK D:=by exact Ce KO QF KN
 have KC: @Ne Nat KK C:=by exact Ca QF
 have loop:∀bh:Shared,bh={s with heap:=aT}->
   codeAny (model prog w) A (.compLoop (.ListComp x_ [⟨bi,iter,A_,0⟩] scope pos) 0 (.ref I) (.ref D) (compEnvC scope ((yc,KK)::cl) C env)) (RR (.ref D) C) bh:=by
  intro bh aj;subst aj
  refine uj
   (fun k s'=>∃i ys oI oC m' news',i<=vs.length/\k=vs.length - i/\(oI.cls= .type "list_iterator"/\oI.data= .fields #[.ref l, .int i 0])/\Inv KK i ys news'/\LCg.NsObj oC m'/\Fr h₀ L s'.heap m/\News h₀ L s'.heap ((I,oI)::(C,oC)::(D,bC ys)::news')/\
    (∀p∈news', @Ne Nat p.1 I/\ @Ne Nat p.1 C/\ @Ne Nat p.1 D)/\aM s s') ?_ vs.length ?_
  ·intros k s' aj;refine pW aj fun i ys oI oC m' news' aZ=>?_;refine fb aZ fun hi bU PU hJ hC F' N' Lm S'=>?_;subst bU
   have zI:=N' (I,oI) List.mem_cons_self;have Nr:News h₀ L s'.heap news':=fun p hp=>N' p (.tail _ (.tail _ (.tail _ hp)));have Oa:=hl KK i ys news' s' hJ F' Nr
   by_cases bW:i<vs.length
   ·have hx:vs[i]?=some vs[i]:=List.getElem?_eq_getElem bW
    refine wpAny_pyNext_list_item (i:=i) (x:=vs[i]) ⟨_,zI.1,PU⟩ Oa (by simp) fun h' e_ hs=>?_;refine am e_ fun NH aj=>?_;clear e_;refine ak aj fun Q6 Nn=>?_;dsimp only;refine M6 I (i+1) _ {s' with heap:=h'} _ _ ⟨_,Q6,Nn⟩ ?_;have bV:Fr h₀ L h' m:=F'.change hs IL (cP _ (Nat.le_refl _))
    have ce:News h₀ L h' ((I,NH)::(C,oC)::(D,bC ys)::news'):=fun p hp=>by
     rcases aB hp with rfl|hp
     ·exact ⟨Q6,zI.2⟩
     ·have z:=N' p (.tail _ hp)
      refine ⟨hs.extBut _ _ ?_ z.1,z.2⟩
      rcases aB hp with rfl|hp
      ·exact Ne.symm IC
      ·rcases aB hp with rfl|hp
       ·exact Ne.symm ID
       ·exact (Lm p hp).1
    refine wpAny_mono (turn KK i vs[i] I NH C oC D ys m' news' {s' with heap:=h'} hx hJ hC bV ce Lm ⟨IC,ID,CD⟩ S') (fun _ aG bP=>?_) fun _ _ f=>f.elim;refine wpAny_mono bP (fun ok bh bu=>?_) fun _ _ f=>f.elim
    cases ok with
    |false=>
     rw [if_neg (by decide)] at bu ⊢;refine am bu fun i_ aj=>?_;clear bu;refine ak aj fun aZ bU=>?_;refine am aZ fun cb Lx=>?_;refine am bU fun nw dK=>?_;refine bv dK fun ei cF dw Lv eh=>?_;exact ⟨vs.length - (i+1),by exact i0 bW,i+1,ys,NH,i_,cb,nw,bW,rfl,Nn,Lv,Lx,ei,cF,dw,eh⟩
    |true=>
     rw [if_pos rfl] at bu ⊢;refine wpAny_mono bu (fun y cU eu=>?_) fun _ _ f=>f.elim;refine am eu fun i_ aj=>?_;clear eu;refine ak aj fun aZ bU=>?_;refine am aZ fun cb Lx=>?_;refine am bU fun nw dK=>?_;refine bv dK fun ei cF dw Lv eh=>?_;have zD:=cF (D,bC ys) (.tail _ (.tail _ (.head _)));have lG:=f_ _ _ _ _ hJ;refine append_at (hsz:=by rw [List.size_toArray,sizeLine_eq];exact nM bW ba lG) zD.1 fun gp dS mz=>?_;refine ⟨vs.length - (i+1),by exact i0 bW,i+1,ys++[y],NH,i_,cb,nw,bW,rfl,Nn,Lv,Lx,ei.change dS DL (cP _ (gw w_ tB)),fun p hp=>?_,dw,eh⟩
     rcases aB hp with rfl|hp
     ·have z:=cF _ (.head _)
      exact ⟨dS.extBut _ _ ID z.1,z.2⟩
     ·rcases aB hp with rfl|hp
      ·have z:=cF _ (.tail _ (.head _))
       exact ⟨dS.extBut _ _ CD z.1,z.2⟩
      ·rcases aB hp with rfl|hp
       ·exact ⟨mz.trans (congrArg some (LCg.lst_snoc ys y)),zD.2⟩
       ·have z:=cF p (.tail _ (.tail _ (.tail _ hp)))
        exact ⟨dS.extBut _ _ (dw p hp).2.2 z.1,z.2⟩
   ·obtain rfl:i=vs.length:=Nat.le_antisymm hi (Nat.not_lt.mp bW)
    refine wpAny_pyNext_list_end (i:=vs.length) hh ⟨_,zI.1,PU⟩ Oa (by simp) fun h' hx=>?_;have zC:=N' (C,oC) (.tail _ (.head _))
    refine LF KK D C {s' with heap:=h'} m' ys news' ⟨F'.ns.at' fun o e=>hx _ o (Ne.symm IL) e,fun b o e=>hx b o (fun q=>by rw [q,cP _ (Nat.le_refl _)] at e;cases e) (F'.keep b o e),F'.above⟩ (fun p hp=>?_)
     (fun p hp=>(Lm p hp).2.2) ((hC.ns zC.1).at' fun o e=>hx _ o (Ne.symm IC) e) zC.2.2 CL CD (fun p hp=>(Lm p hp).2.1) hJ S'
    have z:=N' p (.tail _ (.tail _ hp));refine ⟨hx _ _ ?_ z.1,z.2⟩
    rcases aB hp with rfl|hp
    ·exact Ne.symm ID
    ·exact (Lm p hp).1
  ·refine am (LCg.ns_obj cK) fun oC aj=>?_;refine ak aj fun gC hC=>?_
   refine ⟨0,[],{cls:= .type "list_iterator",data:= .fields #[.ref l, .int 0 0]},oC,_,(KK,eC)::news,Nat.zero_le _,rfl,⟨rfl,rfl⟩,h0 KK KL R6,hC,F.keeps old,fun p hp=>?_,fun p hp=>?_,SameF.refl⟩
   ·rcases aB hp with rfl|hp
    ·exact ⟨gI,IL,cP _ (Nat.le_refl _)⟩
    ·rcases aB hp with rfl|hp
     ·exact ⟨gC,CL,cP _ (nL w_ KO tB KN)⟩
     ·rcases aB hp with rfl|hp
      ·exact ⟨gD,DL,cP _ (gw w_ tB)⟩
      ·rcases aB hp with rfl|hp
       ·exact ⟨fU,KL,cP _ (B0 w_ KO QF tB KN)⟩
       ·exact ⟨old _ _ (N p hp).1,(N p hp).2⟩
   ·rcases aB hp with rfl|hp
    ·exact ⟨KI,KC,KD⟩
    ·exact Lf p hp
 refine codeAny_compStart_list (loop _ rfl) ?_;refine wpAny_pyIter_listiter (l:=l) (i:=0) ⟨_,gI,rfl,rfl⟩ ?_;exact loop _ rfl
noncomputable def IW (L:Addr) (J:Nat->List Value->ax->Prop) (K:Addr) (i:Nat) (ys:List Value) (led:ax):Prop:=∃oK dq,led=(K,oK)::dq/\(∃v,oK.data= .cell v)/\K≠L/\(∀p∈dq, @Ne Nat p.1 K)/\J i ys dq
theorem H7 {x_ iter c:Expr} {x:Str} {px:Pos} {scope:Scope} {cl:List (Str×Addr)} {pos:Pos} {l:Addr} {vs:List Value} {RR:Value->Addr->Result->Shared->Prop} (Inv:Nat->List Value->ax->Prop)
  (F:Fr h₀ L s.heap m) (N:News h₀ L s.heap news) (hh:A.handled=none)
  (hl:∀i ys ao (s₁:Shared),Inv i ys ao->Fr h₀ L s₁.heap m->News h₀ L s₁.heap ao->s₁.heap.IsList l vs.toArray) (ba:vs.length<=100000) (h0:Inv 0 [] news)
  (f_:∀i ys ao,Inv i ys ao->ys.length<=i)
  (QD:∀k fm,cellsFrom k scope.names fm=(x,k)::fm) (Rc:∀h,pushCells h scope.names=h.push eC) (d_:scope.kind= .function) (hx:(relabel scope env).names.lookup x=some .cell)
  (turn:∀K i v I oI C oC D ys bj oK ao (s₁:Shared),vs[i]?=some v->Inv i ys ao->LCg.NsObj oC bj->oK.data= .cell (some v)->Fr h₀ L s₁.heap m->News h₀ L s₁.heap ((I,oI)::(C,oC)::(D,bC ys)::(K,oK)::ao)->(∀p∈(K,oK)::ao, @Ne Nat p.1 I/\ @Ne Nat p.1 C/\ @Ne Nat p.1 D)->(∀p∈ao, @Ne Nat p.1 K)->
   (@Ne Nat I C/\ @Ne Nat I D/\ @Ne Nat C D)->aM s s₁->wpAny (model prog w) A (isTrue c (compEnvC scope ((x,K)::cl) C env) (eval c (compEnvC scope ((x,K)::cl) C env))) (fun ok bh=>if ok=true then wpAny (model prog w) A (eval x_ (compEnvC scope ((x,K)::cl) C env)) (iL h₀ L m I oI C oC D ys (fun WH led=>∃dq,led=(K,oK)::dq/\(∀p∈dq, @Ne Nat p.1 K)/\Inv (i+1) WH dq) s) bd bh
    else mh h₀ L m I oI C oC D ys (fun WH led=>∃dq,led=(K,oK)::dq/\(∀p∈dq, @Ne Nat p.1 K)/\Inv (i+1) WH dq) s bh) bd s₁)
  (LF:∀D C (s':Shared) m' ys news',Fr h₀ L s'.heap m->News h₀ L s'.heap ((D,bC ys)::news')->(∀p∈news', @Ne Nat p.1 D)->s'.heap.Ns C m'->h₀.get? C=none->C≠L->C≠D->(∀p∈news',p.1≠C)->Inv vs.length ys news'->aM s s'->RR (.ref D) C (.ok .next) s')
  (ht:∀I v,letOwnedTupleGo (.Name x px) I v=pure ():=by intro _ _;rfl):
  wpAny (model prog w) A (pyIter (.ref l)) (dt prog w A env (.ListComp x_ [⟨.Name x px,iter,[c],0⟩] scope pos) (newList []) scope cl RR E) E s:=by
 refine H6 (IW L Inv) F N hh ?_ ba (hl _ _ _ _ h0 F N) (fun K hK SV=>⟨_,_,rfl,⟨_,rfl⟩,hK,SV,h0⟩) ?_ QD Rc d_ ?_ ?_ (fun I i v s₁ Q E _ hQ=>wpAny_of_eq (ht (.ref I) v) hQ)
 ·intros K i ys ao s₁ aj;refine bl aj fun oK dq aZ=>?_;refine bv aZ fun bU _ _ _ hJ=>?_;subst bU;intro aU aN
  exact hl i ys dq s₁ hJ aU fun p hp=>aN p (.tail _ hp)
 ·intros K i ys ao aj;refine bl aj fun oK dq aZ=>?_;refine bv aZ fun bU _ _ _ hJ=>?_;subst bU
  exact f_ i ys dq hJ
 ·intros K i v I oI C oC D ys bj ao s₁ hv aj;refine bl aj fun oK dq aZ=>?_;refine bv aZ fun bU dK YR SV hJ=>?_;subst bU;refine am dK fun v₀ hd=>?_;intros hC aU aN off ne S
  have zK:=aN (K,oK) (.tail _ (.tail _ (.tail _ (.head _))));have T_:=off (K,oK) (.head _)
  have Z6:(compEnvC scope ((x,K)::cl) C env).cells.lookup x=some K:=by
   show List.lookup x ((x,K)::cl)=some K;simp
  refine wpAny_assign_Name (wpAny_storeName_cell d_ hx Z6 ⟨oK,zK.1,hd⟩ fun bP cE cD=>?_);refine am cE fun V1 aj=>?_;clear cE;refine ak aj fun g2 d2=>?_;have bV:Fr h₀ L bP m:=aU.change cD zK.2.1 zK.2.2
  have ce:News h₀ L bP ((I,oI)::(C,oC)::(D,bC ys)::(K,V1)::dq):=fun q hq=>by
   rcases aB hq with rfl|hq
   ·have z:=aN _ (.head _)
    exact ⟨cD.extBut _ _ (Ne.symm T_.1) z.1,z.2⟩
   ·rcases aB hq with rfl|hq
    ·have z:=aN _ (.tail _ (.head _))
     exact ⟨cD.extBut _ _ (Ne.symm T_.2.1) z.1,z.2⟩
    ·rcases aB hq with rfl|hq
     ·have z:=aN _ (.tail _ (.tail _ (.head _)))
      exact ⟨cD.extBut _ _ (Ne.symm T_.2.2) z.1,z.2⟩
     ·rcases aB hq with rfl|hq
      ·exact ⟨g2,zK.2⟩
      ·have z:=aN q (.tail _ (.tail _ (.tail _ (.tail _ hq))))
       exact ⟨cD.extBut _ _ (SV q hq) z.1,z.2⟩
  have uE:∀p∈(K,V1)::dq, @Ne Nat p.1 I/\ @Ne Nat p.1 C/\ @Ne Nat p.1 D:=fun p hp=>by
   rcases aB hp with rfl|hp
   ·exact T_
   ·exact off p (.tail _ hp)
  refine wpAny_tests_one ?_;refine wpAny_mono (turn K i v I oI C oC D ys bj V1 dq {s₁ with heap:=bP} hv hJ hC d2 bV ce uE SV ne S) (fun ok bh bu=>?_) fun _ _ f=>f
  cases ok with
  |true=>
   rw [if_pos rfl] at bu ⊢;refine wpAny_mono bu (fun y cU eu=>?_) fun _ _ f=>f;refine am eu fun nw aj=>?_;clear eu;refine bv aj fun ei cF dw aZ eh=>?_;refine am aZ fun uG bU=>?_;refine aI bU fun dK mv my=>?_;subst dK;exact ⟨oC,⟨bj,hC⟩,_,ei,cF,dw,⟨_,_,rfl,⟨_,d2⟩,YR,mv,my⟩,eh⟩
  |false=>
   rw [if_neg (by decide)] at bu ⊢;refine am bu fun nw aj=>?_;clear bu;refine bv aj fun ei cF dw aZ eh=>?_;refine am aZ fun uG bU=>?_;refine aI bU fun dK mv my=>?_;subst dK;exact ⟨oC,⟨bj,hC⟩,_,ei,cF,dw,⟨_,_,rfl,⟨_,d2⟩,YR,mv,my⟩,eh⟩
 ·intros K D C s' m' ys news' F' N' Tn hn dk Mf Mo Li aj;refine bl aj fun oK dq aZ=>?_;refine bv aZ fun bU _ _ SV hJ=>?_;subst bU;intro S
  exact LF D C s' m' ys dq F' (bf N' fun q hq=>by
   rcases aB hq with rfl|hq
   ·exact .head _
   ·exact .tail _ (.tail _ hq)) (fun p hp=>Tn p (.tail _ hp)) hn dk Mf Mo (fun p hp=>Li p (.tail _ hp)) hJ S
end
theorem lF {a b:Nat} (h:a<=b):a<=b:=h
noncomputable def mf (h₀:Heap) (L:Addr) (m:Str->Option Value) (I:Addr) (oI:Obj) (C:Addr) (oC:Obj) (D:Addr) (oD:Obj) (kvs:List (Str×Value)) (J:List (Str×Value)->ax->Prop) (s:Shared) (kv vv:Value) (aG:Shared):Prop:=
 ∃k t news',kv= .str k t/\Fr h₀ L aG.heap m/\News h₀ L aG.heap ((I,oI)::(C,oC)::(D,oD)::news')/\(∀p∈news', @Ne Nat p.1 I/\ @Ne Nat p.1 C/\ @Ne Nat p.1 D)/\J (stored kvs k vv) news'/\aM s aG
section
variable {prog:Program} {w:World} {A:Around} {env:Env} {E:Value->Shared->Prop} {s:Shared} {h₀:Heap} {L:Addr} {m:Str->Option Value} {news:ax}
theorem uk {kx vx iter:Expr} {x:Str} {px:Pos} {scope:Scope} {cl:List (Str×Addr)} {pos:Pos} {l:Addr} {vs:List Value} {RR:Value->Addr->Result->Shared->Prop} (Inv:Nat->List (Str×Value)->ax->Prop)
  (F:Fr h₀ L s.heap m) (N:News h₀ L s.heap news) (hh:A.handled=none)
  (hl:∀i ys ao (s₁:Shared),Inv i ys ao->Fr h₀ L s₁.heap m->News h₀ L s₁.heap ao->s₁.heap.IsList l vs.toArray) (ba:vs.length<=100000) (h0:Inv 0 [] news)
  (f_:∀i ys ao,Inv i ys ao->ys.length<=i)
  (hcell:∀y∈scope.names,y.2≠ .cell) (d_:scope.kind= .function) (Qf:scope.names.lookup x=some .local)
  (turn:∀i v I oI C oC D oD kvs bj ao (s₁:Shared),vs[i]?=some v->Inv i kvs ao->LCg.NsObj oC bj->bj x=some v->oD.IsDictOf (PySem.strKind prog w) kvs->oI.cls= .type "list_iterator"->Fr h₀ L s₁.heap m->News h₀ L s₁.heap ((I,oI)::(C,oC)::(D,oD)::ao)->(∀p∈ao, @Ne Nat p.1 I/\ @Ne Nat p.1 C/\ @Ne Nat p.1 D)->
   (@Ne Nat I C/\ @Ne Nat I D/\ @Ne Nat C D)->aM s s₁->wpAny (model prog w) A (eval kx (compEnvC scope cl C env)) (fun kv aG=>wpAny (model prog w) A (eval vx (compEnvC scope cl C env)) (mf h₀ L m I oI C oC D oD kvs (Inv (i+1)) s kv) bd aG) bd s₁)
  (LF:∀D oD C (s':Shared) m' ys news', @LE.le Nat _ s.heap.objs.size D->oD.IsDictOf (PySem.strKind prog w) ys->Fr h₀ L s'.heap m->News h₀ L s'.heap ((D,oD)::news')->(∀p∈news', @Ne Nat p.1 D)->s'.heap.Ns C m'->h₀.get? C=none->C≠L->C≠D->(∀p∈news',p.1≠C)->Inv vs.length ys news'->aM s s'->RR (.ref D) C (.ok .next) s')
  (ht:∀I v,letOwnedTupleGo (.Name x px) I v=pure ():=by intro _ _;rfl):
  wpAny (model prog w) A (pyIter (.ref l)) (dt prog w A env (.DictComp kx vx [⟨.Name x px,iter,[],0⟩] scope pos) newDict scope cl RR E) E s:=by
 revert F N hh hl ba h0 f_ hcell d_ Qf turn LF ht;revert prog w A env E s h₀ L m news kx vx iter x px scope cl pos l vs RR Inv;refine' no_implicit_lambda% ((?zpad:∀(_:Nat),_) 0);refine' no_implicit_lambda% (fp ?zR (a:=((0,default,bw,callerA,default,fun _ _=>True,{},{}),(0,fun _=>none,[],default,default,default,Str.empty,default),(default,[],default,0,[],fun _ _ _ _=>True,fun _ _ _=>True))) rfl (no_implicit_lambda% ((?zg:eZ ?zR) 0 _ _ _ _ _ _ _ _ _ _ _ _ _ _ _ _ _ _ _ _ _ _)));intros _ prog w A env E s h₀ L m news kx vx iter x px scope cl pos l vs RR Inv;intros F N hh hl ba h0 f_ hcell d_ Qf turn LF ht;refine wpAny_pyIter_list (hl _ _ _ _ h0 F N) ?_;unfold dt;refine wpAny_newObj_type (wpAny_newFunctionEnv hcell (by intro y hy;simp at hy) (fun aT cK co=>?_) d_);dsimp only at cK co ⊢;generalize Ok:s.heap.push {cls:= .type "list_iterator",data:= .fields #[.ref l, .int 0 0]}=H1 at cK co ⊢;have M9:(H1.push {cls:= .type "dict",dict:=none,data:= .dict #[]}).DictOf (PySem.strKind prog w) H1.objs.size []:=Heap.DictOf.new H1;generalize LR:s.heap.objs.size=I at cK co ⊢
 have w_:H1.objs.size=I+1:=by rw [<-Ok,Heap.size_push,LR]
 generalize Nu:H1.push {cls:= .type "dict",dict:=none,data:= .dict #[]}=H2 at cK co M9 ⊢;generalize tB:H1.objs.size=D at cK co M9 ⊢
 have KO:H2.objs.size=D+1:=by rw [<-Nu,Heap.size_push,tB]
 generalize KN:H2.objs.size=C at cK co ⊢
 have old:∀b o,s.heap.get? b=some o->aT.get? b=some o:=fun b o e=>by
  have hb: @LT.lt Nat _ b s.heap.objs.size:=Heap.lt_size e;exact co.extBut b o (neN (hZ hb w_ KO LR tB KN)) (Heap.get?_push_of_some _ (by rw [<-Nu];exact Heap.get?_push_of_some _ (by rw [<-Ok];exact Heap.get?_push_of_some _ e)))
 have gI:aT.get? I=some {cls:= .type "list_iterator",data:= .fields #[.ref l, .int 0 0]}:=
  co.extBut I _ (neN (i7 w_ KO tB KN)) (Heap.get?_push_of_some _ (by rw [<-Nu];exact Heap.get?_push_of_some _ (by rw [<-Ok,<-LR];exact Heap.get?_push_size _ (by rfl))))
 have gD:aT.DictOf (PySem.strKind prog w) D []:=M9.at fun o e=>co.extBut D _ (neN (i6 KO KN)) (Heap.get?_push_of_some _ e)
 have cP:∀a,I<=a->h₀.get? a=none:=fun a ha=>by
  cases e:h₀.get? a with
  |none=>rfl
  |some o'=>exact absurd (Heap.lt_size (F.keep a o' e)) (Nat.not_lt.mpr (by rw [LR];exact ha))
 have Mt: @LT.lt Nat _ L I:=LR▸F.ns.lt
 have IL: @Ne Nat I L:=by exact nX Mt
 have CL: @Ne Nat C L:=by exact nW Mt w_ KO tB KN
 have DL: @Ne Nat D L:=by exact nV Mt w_ tB
 have IC: @Ne Nat I C:=by exact i7 w_ KO tB KN
 have ID: @Ne Nat I D:=by exact i6 w_ tB
 have CD: @Ne Nat C D:=by exact nU KO KN
 have Lf:∀p∈news, @Ne Nat p.1 I/\ @Ne Nat p.1 C/\ @Ne Nat p.1 D:=fun p hp=>by
  have q: @LT.lt Nat _ p.1 s.heap.objs.size:=Heap.lt_size (N p hp).1;exact nO q w_ KO LR tB KN
 have loop:∀bh:Shared,bh={s with heap:=aT,toks:=s.toks+([]:List (Str×Value)).length}->
   codeAny (model prog w) A (.compLoop (.DictComp kx vx [⟨.Name x px,iter,[],0⟩] scope pos) 0 (.ref I) (.ref D) (compEnvC scope cl C env)) (RR (.ref D) C) bh:=by
  intro bh aj;subst aj
  refine codeAny_compLoop_testsD
   (fun k s'=>∃i kvs oI oC oD m' news',i<=vs.length/\k=vs.length - i/\(oI.cls= .type "list_iterator"/\oI.data= .fields #[.ref l, .int i 0])/\Inv i kvs news'/\LCg.NsObj oC m'/\oD.IsDictOf (PySem.strKind prog w) kvs/\Fr h₀ L s'.heap m/\News h₀ L s'.heap ((I,oI)::(C,oC)::(D,oD)::news')/\
    (∀p∈news', @Ne Nat p.1 I/\ @Ne Nat p.1 C/\ @Ne Nat p.1 D)/\aM s s') ?_ vs.length ?_ (ht _)
  ·intros k s' aj;refine pV aj fun i kvs oI oC oD m' news' aZ=>?_;refine eF aZ fun hi bU PU hJ hC hD F' N' Lm S'=>?_;subst bU
   have zI:=N' (I,oI) List.mem_cons_self;have Nr:News h₀ L s'.heap news':=fun p hp=>N' p (.tail _ (.tail _ (.tail _ hp)));have Oa:=hl i kvs news' s' hJ F' Nr
   by_cases bW:i<vs.length
   ·have hx:vs[i]?=some vs[i]:=List.getElem?_eq_getElem bW
    refine wpAny_pyNext_list_item (i:=i) (x:=vs[i]) ⟨_,zI.1,PU⟩ Oa (by simp) fun h' e_ hs=>?_;refine am e_ fun NH aj=>?_;clear e_;refine ak aj fun Q6 Nn=>?_;dsimp only;have bV:Fr h₀ L h' m:=F'.change hs IL (cP _ (Nat.le_refl _))
    have ce:News h₀ L h' ((I,NH)::(C,oC)::(D,oD)::news'):=fun p hp=>by
     rcases aB hp with rfl|hp
     ·exact ⟨Q6,zI.2⟩
     ·have z:=N' p (.tail _ hp)
      refine ⟨hs.extBut _ _ ?_ z.1,z.2⟩
      rcases aB hp with rfl|hp
      ·exact Ne.symm IC
      ·rcases aB hp with rfl|hp
       ·exact Ne.symm ID
       ·exact (Lm p hp).1
    refine mO (s₁:={s' with heap:=h'}) d_ Qf hC bV ce Lm ⟨IC,ID,CD⟩ (fun i_ cb aG Lx hm ez cw fF=>?_) |> fun z=>wpAny_mono z (fun _ _ q=>q) fun _ _ f=>f.elim;refine wpAny_tests_nil ?_;rw [if_pos rfl];refine wpAny_mono (turn i vs[i] I NH C i_ D oD kvs cb news' aG hx hJ Lx hm hD Nn.1 ez cw Lm ⟨IC,ID,CD⟩ (S'.trans fF)) (fun kv cU eu=>wpAny_mono eu (fun vv gm gp=>?_) fun _ _ f=>f.elim) fun _ _ f=>f.elim;refine aW gp fun k t nw aj=>?_;clear gp;refine dI aj fun aZ ei cF dw Lv eh=>?_;subst aZ;have zD:=cF (D,oD) (.tail _ (.tail _ (.head _)));have lG:=f_ _ _ _ hJ;refine wpAny_dictSet_pairs (knd:=PySem.strKind prog w) (kvs:=kvs) (strKind_is _ _ _ _) (Heap.dictOf_iff.mpr ⟨oD,zD.1,hD⟩) (fun gp uJ dS=>?_) (by rw [sizeLine_eq];exact nM bW ba lG);refine am (Heap.dictOf_iff.mp uJ) fun oD' aj=>?_;refine ak aj fun VF hD'=>?_;refine ⟨vs.length - (i+1),by exact i0 bW,i+1,_,NH,i_,oD',cb,nw,bW,rfl,Nn,Lv,Lx,hD',ei.change dS DL (cP _ (lF (gw w_ tB))),fun p hp=>?_,dw,eh⟩
    rcases aB hp with rfl|hp
    ·have z:=cF _ (.head _)
     exact ⟨dS.extBut _ _ ID z.1,z.2⟩
    ·rcases aB hp with rfl|hp
     ·have z:=cF _ (.tail _ (.head _))
      exact ⟨dS.extBut _ _ CD z.1,z.2⟩
     ·rcases aB hp with rfl|hp
      ·exact ⟨VF,zD.2⟩
      ·have z:=cF p (.tail _ (.tail _ (.tail _ hp)))
       exact ⟨dS.extBut _ _ (dw p hp).2.2 z.1,z.2⟩
   ·obtain rfl:i=vs.length:=Nat.le_antisymm hi (Nat.not_lt.mp bW)
    refine wpAny_pyNext_list_end (i:=vs.length) hh ⟨_,zI.1,PU⟩ Oa (by simp) fun h' hx=>?_;have zC:=N' (C,oC) (.tail _ (.head _))
    refine LF D oD C {s' with heap:=h'} m' kvs news' (by rw [LR];exact lF (gw w_ tB)) hD ⟨F'.ns.at' fun o e=>hx _ o (Ne.symm IL) e,fun b o e=>hx b o (fun q=>by rw [q,cP _ (Nat.le_refl _)] at e;cases e) (F'.keep b o e),F'.above⟩ (fun p hp=>?_)
     (fun p hp=>(Lm p hp).2.2) ((hC.ns zC.1).at' fun o e=>hx _ o (Ne.symm IC) e) zC.2.2 CL CD (fun p hp=>(Lm p hp).2.1) hJ S'
    have z:=N' p (.tail _ (.tail _ hp));refine ⟨hx _ _ ?_ z.1,z.2⟩
    rcases aB hp with rfl|hp
    ·exact Ne.symm ID
    ·exact (Lm p hp).1
  ·refine am (LCg.ns_obj cK) fun oC aj=>?_;refine ak aj fun gC hC=>?_
   refine am (Heap.dictOf_iff.mp gD) fun oD aj=>?_;refine ak aj fun VF hD=>?_;refine ⟨0,[],{cls:= .type "list_iterator",data:= .fields #[.ref l, .int 0 0]},oC,oD,_,news,Nat.zero_le _,rfl,⟨rfl,rfl⟩,h0,hC,hD,F.keeps old,fun p hp=>?_,Lf,SameF.refl⟩
   rcases aB hp with rfl|hp
   ·exact ⟨gI,IL,cP _ (Nat.le_refl _)⟩
   ·rcases aB hp with rfl|hp
    ·exact ⟨gC,CL,cP _ (lF (nL w_ KO tB KN))⟩
    ·rcases aB hp with rfl|hp
     ·exact ⟨VF,DL,cP _ (lF (gw w_ tB))⟩
     ·exact ⟨old _ _ (N p hp).1,(N p hp).2⟩
 refine codeAny_compStart_dict (loop _ rfl) ?_;refine wpAny_pyIter_listiter (l:=l) (i:=0) ⟨_,gI,rfl,rfl⟩ ?_;exact loop _ rfl
theorem H9 {kx vx iter:Expr} {x:Str} {px:Pos} {scope:Scope} {cl:List (Str×Addr)} {pos:Pos} {l:Addr} {vs:List Value} {RR:Value->Addr->Result->Shared->Prop} (Inv:Nat->List (Str×Value)->ax->Prop)
  (F:Fr h₀ L s.heap m) (N:News h₀ L s.heap news) (hh:A.handled=none)
  (hl:∀i ys ao (s₁:Shared),Inv i ys ao->Fr h₀ L s₁.heap m->News h₀ L s₁.heap ao->s₁.heap.IsList l vs.toArray) (ba:vs.length<=100000) (h0:Inv 0 [] news)
  (f_:∀i ys ao,Inv i ys ao->ys.length<=i)
  (hcell:∀y∈scope.names,y.2≠ .cell) (d_:scope.kind= .function) (Qf:scope.names.lookup x=some .local)
  (turn:∀i v I oI C oC D oD kvs bj ao (s₁:Shared),vs[i]?=some v->Inv i kvs ao->LCg.NsObj oC bj->bj x=some v->oD.IsDictOf (PySem.strKind prog w) kvs->oI.cls= .type "list_iterator"->Fr h₀ L s₁.heap m->News h₀ L s₁.heap ((I,oI)::(C,oC)::(D,oD)::ao)->(∀p∈ao, @Ne Nat p.1 I/\ @Ne Nat p.1 C/\ @Ne Nat p.1 D)->
   (@Ne Nat I C/\ @Ne Nat I D/\ @Ne Nat C D)->aM s s₁->wpAny (model prog w) A (eval kx (compEnvC scope cl C env)) (fun kv aG=>wpAny (model prog w) A (eval vx (compEnvC scope cl C env)) (mf h₀ L m I oI C oC D oD kvs (Inv (i+1)) s kv) bd aG) bd s₁)
  (LF:∀D oD C (s':Shared) m' ys news',oD.IsDictOf (PySem.strKind prog w) ys->Fr h₀ L s'.heap m->News h₀ L s'.heap ((D,oD)::news')->(∀p∈news', @Ne Nat p.1 D)->s'.heap.Ns C m'->h₀.get? C=none->C≠L->C≠D->(∀p∈news',p.1≠C)->Inv vs.length ys news'->aM s s'->RR (.ref D) C (.ok .next) s')
  (ht:∀I v,letOwnedTupleGo (.Name x px) I v=pure ():=by intro _ _;rfl):
  wpAny (model prog w) A (pyIter (.ref l)) (dt prog w A env (.DictComp kx vx [⟨.Name x px,iter,[],0⟩] scope pos) newDict scope cl RR E) E s:=
 uk Inv F N hh hl ba h0 f_ hcell d_ Qf turn (fun D oD C s' m' ys news' _=>LF D oD C s' m' ys news') ht
theorem Jc {n:Nat} {Q:Value->Shared->Prop} {Inv:Nat->List (Str×Value)->ax->Prop}
  (done:∀D oD kvs ao (s₁:Shared),oD.IsDictOf (PySem.strKind prog w) kvs->Inv n kvs ao->Fr h₀ L s₁.heap m->News h₀ L s₁.heap ((D,oD)::ao)->(∀p∈ao, @Ne Nat p.1 D)->aM s s₁->Q (.ref D) s₁):
  ∀D oD C (s':Shared) m' ys news',oD.IsDictOf (PySem.strKind prog w) ys->Fr h₀ L s'.heap m->News h₀ L s'.heap ((D,oD)::news')->(∀p∈news', @Ne Nat p.1 D)->s'.heap.Ns C m'->h₀.get? C=none->C≠L->C≠D->(∀p∈news',p.1≠C)->Inv n ys news'->aM s s'->compPost (model prog w) A E none Q (.ref D) C (.ok .next) s':=
 fun _ oD _ _ _ ys _ hD F N off hn dk Mf Mo Li hJ S=>rW (α:=Obj×List (Str×Value)) (ob:=Prod.fst) (ys:=(oD,ys)) (J:=fun p l=>p.1.IsDictOf (PySem.strKind prog w) p.2/\Inv n p.2 l) (fun D p l s₁ hj=>done D p.1 p.2 l s₁ hj.1 hj.2) F N off hn dk Mf Mo Li ⟨hD,hJ⟩ S
theorem xV {n:Nat} {y:Str} {py:Pos} {Q:Shared->Prop} {Inv:Nat->List (Str×Value)->ax->Prop} (hL:env.locals=L) (hy:env.kindOf y=some .local) (hp:(env.scope.kind == .class || (env.scope.kind == .module && env.locals != env.globals))=false)
  (done:∀D oD kvs ao (s₁:Shared),oD.IsDictOf (PySem.strKind prog w) kvs->Inv n kvs ao->Fr h₀ L s₁.heap (fun z=>if z=y then some (.ref D) else m z)->News h₀ L s₁.heap ((D,oD)::ao)->(∀p∈ao, @Ne Nat p.1 D)->aM s s₁->Q s₁):
  ∀D oD C (s':Shared) m' ys news',oD.IsDictOf (PySem.strKind prog w) ys->Fr h₀ L s'.heap m->News h₀ L s'.heap ((D,oD)::news')->(∀p∈news', @Ne Nat p.1 D)->s'.heap.Ns C m'->h₀.get? C=none->C≠L->C≠D->(∀p∈news',p.1≠C)->Inv n ys news'->aM s s'->compPost (model prog w) A E (some (assign (.Name y py) env)) (fun _ s'=>Q s') (.ref D) C (.ok .next) s':=
 by subst hL;exact fun _ oD _ _ _ ys _ hD F N off hn dk Mf Mo Li hJ S=>rX (α:=Obj×List (Str×Value)) (ob:=Prod.fst) (ys:=(oD,ys)) (J:=fun p l=>p.1.IsDictOf (PySem.strKind prog w) p.2/\Inv n p.2 l) hy hp (fun D p l s₁ hj=>done D p.1 p.2 l s₁ hj.1 hj.2) F N off hn dk Mf Mo Li ⟨hD,hJ⟩ S
theorem IY {kx vx bi iter:Expr} {A_:List Expr} {y:Str} {py:Pos} {scope:Scope} {cl:List (Str×Addr)} {pos Q3:Pos} {Q:Flow->Shared->Prop}
  (V9:swapsWith (.DictComp kx vx [⟨bi,iter,A_,0⟩] scope pos) (some (.Name y py)) Q3.line env=pure true) (NK:closureFor scope env=pure cl) (d_:scope.kind= .function)
  (MI:∀y∈scope.names,y.2= .local->scope.names.lookup y.1=some .local)
  (h:wpAny (model prog w) A (eval iter env) (fun x s₁=>wpAny (model prog w) A (pyIter x) (dt prog w A env (.DictComp kx vx [⟨bi,iter,A_,0⟩] scope pos) newDict scope cl (compPost (model prog w) A E (some (assign (.Name y py) env)) fun _ s'=>Q .next s') E) E s₁) E s)
  (hs:∀x,foldedSetIterable iter env x=pure x:=by intro _;rfl):wpAny (model prog w) A (exec (.Assign [.Name y py] (.DictComp kx vx [⟨bi,iter,A_,0⟩] scope pos) Q3) env) Q E s:=by
 rw [exec_Assign_Name_used _ _ _ _ V9];refine wpAny_bind (wpAny_standAt (wpAny_bind ?_));show wpAny _ A (do let _ <-comprehension (.DictComp kx vx [⟨bi,iter,A_,0⟩] scope pos) scope env _ newDict false (eval iter env) (some (assign (.Name y py) env))) _ _ s;exact wpAny_bind (wpAny_mono (wpAny_comprehension_free (use:=some (assign (.Name y py) env)) (Q:=fun _ s'=>Q .next s') rfl hs NK d_ MI h) (fun _ s' hq=>wpAny_pure (wpAny_pure hq)) fun _ _ e=>e)
end
theorem Kh:True:=by
 (k_with "eval ListComp"=>((k_here;k_dflt (refine IU (by with_unfolding_all rfl) (by rfl) (by decide) ?_))))
 (k_with "eval DictComp"=>((k_here;k_dflt (refine IV (by with_unfolding_all rfl) (by rfl) (by decide) ?_))))
 (k_with "exec Assign cons ListComp"=>((k_here;k_dflt (refine IX (by with_unfolding_all rfl) (by with_unfolding_all rfl) (by rfl) (by decide) ?_))))
 (k_with "exec Assign cons DictComp"=>((k_here;k_dflt (refine IY (by with_unfolding_all rfl) (by with_unfolding_all rfl) (by rfl) (by decide) ?_))))
 (k_with "eval Name"=>((k_here;(with_reducible show wpAny _ _ (eval (Expr.Name _ _) (compEnvC _ _ _ _)) _ _ _);k_dflt (first|refine LCgL.ld_own (by k_asm) (by k_mem) (by assumption) (by assumption) ?_|refine kcf_cell (by k_asm) (by rfl) (by k_mem) (by k_asm) ?_|refine LCgL.ld_global (by k_asm) (by assumption) (by assumption) (by k_is) ?_|refine LCgL.ld_built (by k_asm) (by assumption) (by assumption) (by k_is) (by rfl) (by decide) ?_))))
 (k_with "pyIter ref"=>(((with_reducible show wpAny _ _ (pyIter _) (dt _ _ _ _ _ _ _ _ _ _) _ _);refine Stop.out ?_)))
 trivial
theorem wv {a b:Int} {t u:Tok} {c:Value} (l:List Value) (h:TriplesOk l):TriplesOk (l++[.int a t, .int b u,c]):=by
 fun_induction TriplesOk l with
 |case1=>exact trivial
 |case2 x y z w v rest ih=>exact ih h
 |case3=>exact h.elim
structure LamTab (pos:Pos) (qual:Str) (ps:Array Value) (cT:Addr) (oT:Obj):Prop where
 ok:TriplesOk ps.toList
 made:codeAmong pos ps.toList=none\/∃vs t,codeAmong pos ps.toList=some (.ref cT)/\oT.data= .fields vs/\vs[1]?=some (.str qual t)
 nt:∀vs,oT≠aO vs
section
variable {M:Model} {A:Around} {E:Value->Shared->Prop} {s:Shared} {h₀:Heap} {L a c P:Addr} {m mg mb:Str->Option Value} {cn:Str} {cs:Scope} {fM:Value} {cl:List (Str×Addr)} {news:ax} {g:Obj->ax}
 {p:Program} {a_:List Str} {bz:ExcName->Option Value} {params:Arguments} {body:Expr} {scope:Scope} {ps:Array Value} {pos:Pos} {VU:List (Str×Addr)}
theorem Gr {cT:Addr} {oT:Obj} {as:List Addr} {Q:Value->Shared->Prop} (F:Fr h₀ L s.heap m) (N:News h₀ L s.heap news) (T:Top p a_ bz mg mb h₀) (C:CodeHd h₀ c P) (Pa:fM= .ref c) (U:UpdF P (tabObj ps) news g) (hl:LamTab pos ((envX cn cs L a fM cl).qual++"<lambda>") ps cT oT)
  (htl:(cT,oT)∈news) (VS:∀b∈as,∃o,(b,o)∈news) (Tj:cT∉as) (Y1:defaultsOf params (envX cn cs L a fM cl)=([],[])) (QU:closureFor scope (envX cn cs L a fM cl)=pure VU)
  (h:∀f c' oc vs t Lu Ru h' tk,Fr h₀ L h' m->News h₀ L h' ((f,kla_obj "<lambda>" ((envX cn cs L a fM cl).qual++"<lambda>") params body scope VU ((mg "__name__").getD .none) c' Ru)::(c',oc)::g (tabObj Lu))->
   oc.data= .fields vs->vs[1]?=some (.str ((envX cn cs L a fM cl).qual++"<lambda>") t)->LamTab pos ((envX cn cs L a fM cl).qual++"<lambda>") Lu c' oc->c'∉as->f∉as->Q (.ref f) {s with heap:=h',toks:=tk}):
  wpAny M A (eval (.Lambda params body scope pos) (envX cn cs L a fM cl)) Q E s:=by
 refine kla_eval Y1 ?_
 have hm:(P,tabObj ps)∈news:=by
  refine bl U.split fun LW post aj=>?_;refine ak aj fun e _=>?_;rw [e];exact ay _ (.head _)
 have N_:g (tabObj ps)=news:=by
  refine bl U.split fun LW post aj=>?_;refine aI aj fun e e2 _=>?_;rw [e,e2]
 rcases hl.made with hn|⟨vs,t,hf,hd,hv⟩
 ·refine kla_nest F N T C Pa U hl.ok hn QU fun f c' oc vs t Ru h' tk F' N' hd hv l1 l2=>?_
  refine h f c' oc vs t _ Ru h' tk F' N' hd hv ⟨?_, .inr ⟨vs,t,?_,hd,hv⟩,fun SI e=>by rw [e] at hd;cases hd⟩ (fun hm=>?_) fun hm=>?_
  ·rw [Array.toList_append]
   exact wv _ hl.ok
  ·rw [Array.toList_append]
   exact codeAmong_snoc _ hl.ok hn
  ·refine am (VS _ hm) fun o ho=>?_
   exact Nat.lt_irrefl _ (l1 _ ho)
  ·refine am (VS _ hm) fun o ho=>?_
   exact Nat.lt_irrefl _ (Nat.lt_trans l2 (l1 _ ho))
 ·refine kla_hit F N T C Pa hm hl.ok hf QU fun f Ru h' tk F' N' l1=>?_
  refine h f cT oT vs t ps Ru h' tk F' (fun q hq=>?_) hd hv hl Tj fun hm=>?_
  ·rw [N_] at hq
   rcases aB hq with rfl|hq
   ·exact N' _ (.head _)
   ·rcases aB hq with rfl|hq
    ·exact N' _ (.tail _ htl)
    ·exact N' _ (.tail _ hq)
  ·refine am (VS _ hm) fun o ho=>?_
   exact Nat.lt_irrefl _ (l1 _ ho)
end
noncomputable def dE:Option Str->Str
 |none=>ofString "e"
 |some w=>aS w
noncomputable def sv:Option Str->Str
 |none=>ofString "e"
 |some w=>aH w++ofString ":k"
noncomputable def sw:Option Str->Str
 |none=>ofString "e"
 |some _=>ofString "k"
noncomputable def su:Option Str->Str
 |none=>ofString ""
 |some w=>w
noncomputable def fL (old:List Str):Option Str->List Str
 |none=>[]
 |some w=>if w∈old then [] else [w]
noncomputable def bQ (old:List Str) (s_:List (Option Str)):List Str:=(s_.map (fL old)).flatten
theorem Fj (old:List Str) (s_:List (Option Str)) (nm:Option Str):bQ old (s_++[nm])=bQ old s_++fL old nm:=by simp [bQ]
noncomputable def jm (nm:Option Str) (t1 t2 t3:Tok):Obj:=aO [.str (sv nm) t1, .str (sw nm) t2, .str (su nm) t3]
noncomputable def KvOk (led:ax) (s_:List (Option Str)) (kvs:List (Str×Value)):Prop:=kvs.map (·.1)=s_.map dE/\∀(j:Nat) (nm:Option Str),s_[j]?=some nm->∃q t1 t2 t3,kvs[j]?=some (dE nm, .ref q)/\(q,jm nm t1 t2 t3)∈led
theorem KvOk.mono {led dq:ax} {s_:List (Option Str)} {kvs:List (Str×Value)} (h:KvOk led s_ kvs) (hs:∀p∈led,p∈dq):KvOk dq s_ kvs:=
 ⟨h.1,fun j nm hj=>by refine dU (h.2 j nm hj) fun q t1 t2 t3 aj=>?_;refine ak aj fun a b=>?_;exact ⟨q,t1,t2,t3,a,hs _ b⟩⟩
theorem KvOk.snoc {led:ax} {s_:List (Option Str)} {kvs:List (Str×Value)} {nm:Option Str} {q:Addr} {t1 t2 t3:Tok} (h:KvOk led s_ kvs) (hm:(q,jm nm t1 t2 t3)∈led):KvOk led (s_++[nm]) (kvs++[(dE nm, .ref q)]):=by
 have hl:kvs.length=s_.length:=by simpa using congrArg List.length h.1
 refine ⟨by rw [List.map_append,List.map_append,h.1];rfl,fun j Re hj=>?_⟩
 by_cases hi:j<s_.length
 ·rw [List.getElem?_append_left hi] at hj
  refine dU (h.2 j Re hj) fun q' u1 u2 u3 aj=>?_;refine ak aj fun a b=>?_;exact ⟨q',u1,u2,u3,by rw [List.getElem?_append_left (qY hi hl)];exact a,b⟩
 ·rw [List.getElem?_append_right (q5 hi)] at hj
  have h0:j - s_.length=0:=by
   have:=(List.getElem?_eq_some_iff.mp hj).1;simp at this;exact q6 this
  rw [h0] at hj
  cases hj
  exact ⟨q,t1,t2,t3,by rw [List.getElem?_append_right (Ad hl hi),hl,h0];rfl,hm⟩
noncomputable def mc (fx:ax) (nn:Addr) (old:List Str) (s_:List (Option Str)) (i:Nat) (kvs:List (Str×Value)) (led:ax):Prop:=
 ∃items n' tl,led=(nn,listOf items n')::(fx++tl)/\(∀p∈tl,p.2.cls= .type "tuple"/\(∀r∈fx, @Ne Nat r.1 p.1)/\ @Ne Nat nn p.1)/\ItemsFor (fx++tl) items (bQ old (s_.take i))/\KvOk (fx++tl) (s_.take i) kvs
theorem m0 {kvs:List (Str×Value)} {k:Str} {v:Value} (h:k∉kvs.map (·.1)):stored kvs k v=kvs++[(k,v)]:=by
 unfold stored;rw [if_neg];intro hc;refine am (List.any_eq_true.mp hc) fun kv aj=>?_;refine ak aj fun p_ e=>?_;exact h (List.mem_map.mpr ⟨kv,p_,by simpa using e⟩)
theorem Fh {a b:Option Str} (h:dE a=dE b):a=b:=by
 have hl:∀w:Str,dE none≠dE (some w):=fun w e=>by
  have:=congrArg PySem.Str.length e;rw [show dE (some w)=aS w from rfl,fC] at this;have h1:(dE none).length=1:=rfl;exact rc this h1
 cases a with
 |none=>cases b with
  |none=>rfl
  |some w=>exact absurd h (hl w)
 |some v=>cases b with
  |none=>exact absurd h.symm (hl v)
  |some w=>
   have h1:(aS v).cps=(aS w).cps:=congrArg Str.cps h;rw [eD,eD] at h1;have h2:=congrArg Array.toList h1;simp only [Array.toList_append] at h2
   have h3:v.cps.toList=w.cps.toList:=by
    have:=List.append_inj_left h2 (by
     have:=congrArg List.length h2
     simpa using this)
    simpa using this
   exact congrArg some (Str.ext' (Array.toList_inj.mp h3))
section
variable {h₀:Heap} {L:Addr} {m:Str->Option Value} {s:Shared}
theorem sx {fx:ax} {nn I C D:Addr} {oI oC oD:Obj} {old:List Str} {s_:List (Option Str)} {i:Nat} {kvs:List (Str×Value)} {items:Array Value} {n':Nat} {tl:ax} {nm:Option Str} {t:Tok} {s₁ aG:Shared} {v:Value} {kv:Value}
  (Nj:s_[i]?=some nm) (Nd:s_.Nodup) (htl:∀p∈tl,p.2.cls= .type "tuple"/\(∀r∈fx, @Ne Nat r.1 p.1)/\ @Ne Nat nn p.1) (p_:KvOk (fx++tl) (s_.take i) kvs) (QZ:kv= .str (dE nm) t)
  (off:∀p∈(nn,listOf items n')::(fx++tl), @Ne Nat p.1 I/\ @Ne Nat p.1 C/\ @Ne Nat p.1 D) (S:aM s s₁)
  (hb:pJ h₀ L m nn ((I,oI)::(C,oC)::(D,oD)::(fx++tl)) (sv nm) (su nm) (sw nm) (bQ old (s_.take i)++fL old nm) s₁ v aG)
  (WW:oI.cls= .type "list_iterator") (UN:∃bj,LCg.NsObj oC bj) (MB:∃es ep,oD.data= .dict es ep):
  mf h₀ L m I oI C oC D oD kvs (mc fx nn old s_ (i+1)) s kv v aG:=by
 revert Nj Nd htl p_ QZ off S hb WW UN MB;revert h₀ L m s fx nn I C D oI oC oD old s_ i kvs items n' tl nm t s₁ aG v kv;refine' no_implicit_lambda% ((?zpad:∀(_ _ _ _ _ _ _:Nat),_) 0 0 0 0 0 0 0);refine' no_implicit_lambda% (ii ?zR (a:=((0,0,0,0,0,0,0,{}),(0,fun _=>none,{},[],0,0,0,0),(default,default,default,[],[],0,[],#[]),(0,[],none,0,{},{},Value.none,Value.none))) rfl (no_implicit_lambda% ((?zg:gR ?zR) 0 0 0 0 0 0 0 _ _ _ _ _ _ _ _ _ _ _ _ _ _ _ _ _ _ _ _ _ _ _ _ _)));intros _ _ _ _ _ _ _ h₀ L m s fx nn I C D oI oC oD old s_ i kvs items n' tl nm t s₁ aG v kv;intros Nj Nd htl p_ QZ off S hb WW UN MB;refine pV hb fun q t1 t2 t3 Oe k' Uo aj=>?_;clear hb;refine fb aj fun aZ F' N' ne Z4 U6 hc' tA S'=>?_;subst aZ
 have UI:s_.take (i+1)=s_.take i++[nm]:=by rw [List.take_add_one,Nj];rfl
 have MV:dE nm∉kvs.map (·.1):=by
  rw [p_.1];intro hm;refine am (aP hm) fun Re aj=>?_;refine ak aj fun Nb e=>?_;have e2:=Fh e;subst e2;refine fh (List.getElem_of_mem Nb) fun j hj e=>?_;rw [List.getElem_take] at e;rw [List.length_take] at hj;refine am (List.getElem?_eq_some_iff.mp Nj) fun h1 h2=>?_;rw [List.nodup_iff_pairwise_ne,List.pairwise_iff_getElem] at Nd;exact Nd j i (lh hj) h1 (i4 hj) (e.trans h2.symm)
 have sub:∀p∈Uo++(I,oI)::(C,oC)::(D,oD)::(fx++tl),p.2.cls= .type "tuple"->(∃xs k,p.2.data= .seq xs k)->p∈fx++((q,jm nm t1 t2 t3)::(Uo++tl)):=fun p hp QU TU=>by
  refine Or.elim (aE hp) (fun hp=>?_) fun hp=>?_
  ·exact ay _ (.tail _ (aL _ hp))
  ·rcases aB hp with rfl|hp
   ·rw [WW] at QU;exact absurd QU (by decide)
   ·rcases aB hp with rfl|hp
    ·refine aW UN fun _ es ep aj=>?_;clear UN;refine ak aj fun e _=>?_
     refine bl TU fun xs k e2=>?_;clear TU;rw [e] at e2;cases e2
    ·rcases aB hp with rfl|hp
     ·refine bl MB fun es ep e=>?_;clear MB
      refine bl TU fun xs k e2=>?_;clear TU;rw [e] at e2;cases e2
     ·refine Or.elim (aE hp) (fun hp=>?_) fun hp=>?_
      ·exact aL _ hp
      ·exact ay _ (.tail _ (ay _ hp))
 refine ⟨dE nm,t,(nn,listOf Oe k')::(fx++((q,jm nm t1 t2 t3)::(Uo++tl))),QZ,F',fun p hp=>?_,fun p hp=>?_,?_,S.trans S'⟩
 ·refine N' p ?_
  simp only [List.mem_cons,List.mem_append] at hp ⊢
  rcases hp with h|h|h|h|h|h|h|h
  ·exact .inr (.inr (.inr (.inl h)))
  ·exact .inr (.inr (.inr (.inr (.inl h))))
  ·exact .inr (.inr (.inr (.inr (.inr (.inl h)))))
  ·exact .inr (.inl h)
  ·exact .inr (.inr (.inr (.inr (.inr (.inr (.inl h))))))
  ·exact .inl h
  ·exact .inr (.inr (.inl h))
  ·exact .inr (.inr (.inr (.inr (.inr (.inr (.inr h))))))
 ·rcases aB hp with rfl|hp
  ·exact off (nn,listOf items n') (.head _)
  ·refine Or.elim (aE hp) (fun hp=>?_) fun hp=>?_
   ·exact off p (.tail _ (aL _ hp))
   ·rcases aB hp with rfl|hp
    ·exact ⟨Ne.symm (ne (I,oI) (by simp)),Ne.symm (ne (C,oC) (by simp)),Ne.symm (ne (D,oD) (by simp))⟩
    ·refine Or.elim (aE hp) (fun hp=>?_) fun hp=>?_
     ·have z:=(U6 p hp).1
      exact ⟨Ne.symm (z (I,oI) (by simp)),Ne.symm (z (C,oC) (by simp)),Ne.symm (z (D,oD) (by simp))⟩
     ·exact off p (.tail _ (ay _ hp))
 ·rw [m0 MV]
  refine ⟨Oe,k',(q,jm nm t1 t2 t3)::(Uo++tl),rfl,fun p hp=>?_,?_,?_⟩
  ·rcases aB hp with rfl|hp
   ·exact ⟨rfl,fun r hr=>ne r (by simp [hr]),Z4⟩
   ·refine Or.elim (aE hp) (fun hp=>?_) fun hp=>?_
    ·exact ⟨hc' p hp,fun r hr=>(U6 p hp).1 r (by simp [hr]),(U6 p hp).2⟩
    ·exact htl p hp
  ·rw [UI,Fj]
   refine ⟨tA.1,fun j w hw=>?_⟩;refine aW (tA.2 j w hw) fun q' u1 u2 aj=>?_;refine ak aj fun a b=>?_;exact ⟨q',u1,u2,a,sub _ b rfl ⟨_,_,rfl⟩⟩
  ·rw [UI]
   refine (p_.mono fun p hp=>?_).snoc (q:=q) (t1:=t1) (t2:=t2) (t3:=t3) (ay _ (.head _));refine Or.elim (aE hp) (fun hp=>?_) fun hp=>?_
   ·exact aL _ hp
   ·exact ay _ (.tail _ (ay _ hp))
end
section
variable {prog:Program} {w:World} {A:Around} {env:Env} {E:Value->Shared->Prop} {s:Shared} {h₀:Heap} {L:Addr} {m:Str->Option Value}
theorem H8 {nn:Addr} {n6:Nat} {fx:ax} (old:List Str) (s_:List (Option Str)) {kx vx iter:Expr} {x:Str} {px:Pos} {scope:Scope} {cl:List (Str×Addr)} {pos:Pos} {l:Addr} {vs:List Value} {oL:Obj} {RR:Value->Addr->Result->Shared->Prop}
  (F:Fr h₀ L s.heap m) (N:News h₀ L s.heap ((nn,listOf #[] n6)::(fx++[]))) (hh:A.handled=none)
  (hlm:(l,oL)∈fx) (hoL:oL.cls= .type "list"/\∃k,oL.data= .seq vs.toArray k) (ba:s_.length=vs.length) (h50:s_.length<=50)
  (hcell:∀y∈scope.names,y.2≠ .cell) (d_:scope.kind= .function) (Qf:scope.names.lookup x=some .local)
  (turn:∀i nm v I oI C oC D oD kvs bj items n' tl (s₁:Shared),s_[i]?=some nm->vs[i]?=some v->(∀p∈tl,p.2.cls= .type "tuple"/\(∀r∈fx, @Ne Nat r.1 p.1)/\ @Ne Nat nn p.1)->ItemsFor (fx++tl) items (bQ old (s_.take i))->KvOk (fx++tl) (s_.take i) kvs->LCg.NsObj oC bj->bj x=some v->oD.IsDictOf (PySem.strKind prog w) kvs->oI.cls= .type "list_iterator"->Fr h₀ L s₁.heap m->News h₀ L s₁.heap ((I,oI)::(C,oC)::(D,oD)::(nn,listOf items n')::(fx++tl))->(∀p∈(nn,listOf items n')::(fx++tl), @Ne Nat p.1 I/\ @Ne Nat p.1 C/\ @Ne Nat p.1 D)->
   (@Ne Nat I C/\ @Ne Nat I D/\ @Ne Nat C D)->aM s s₁->wpAny (model prog w) A (eval kx (compEnvC scope cl C env)) (fun kv aG=>wpAny (model prog w) A (eval vx (compEnvC scope cl C env)) (mf h₀ L m I oI C oC D oD kvs (mc fx nn old s_ (i+1)) s kv) bd aG) bd s₁)
  (LF:∀D oD C (s':Shared) m' ys news',oD.IsDictOf (PySem.strKind prog w) ys->Fr h₀ L s'.heap m->News h₀ L s'.heap ((D,oD)::news')->(∀p∈news', @Ne Nat p.1 D)->s'.heap.Ns C m'->h₀.get? C=none->C≠L->C≠D->(∀p∈news',p.1≠C)->mc fx nn old s_ vs.length ys news'->aM s s'->RR (.ref D) C (.ok .next) s')
  (ht:∀I v,letOwnedTupleGo (.Name x px) I v=pure ():=by intro _ _;rfl):
  wpAny (model prog w) A (pyIter (.ref l)) (dt prog w A env (.DictComp kx vx [⟨.Name x px,iter,[],0⟩] scope pos) newDict scope cl RR E) E s:=by
 refine H9 (l:=l) (vs:=vs) (mc fx nn old s_) F N hh ?_ (Ac ba h50) ?_ ?_ hcell d_ Qf ?_ LF ht
 ·intros i kvs' led bh aj;refine aW aj fun items n' tl aZ=>?_;refine bO aZ fun bU htl hI NX=>?_;subst bU;intro ez cw
  refine am (hoL.2) fun k hk=>?_;exact ⟨oL,cw.get (.tail _ (aL _ hlm)),hoL.1,k,hk⟩
 ·exact ⟨#[],n6,[],rfl,(fun _ h=>nomatch h),⟨rfl,fun i w h=>by simp [bQ] at h⟩,rfl,fun j nm h=>by simp at h⟩
 ·intros i kvs' led aj;refine aW aj fun items n' tl aZ=>?_;refine bO aZ fun bU htl hI NX=>?_;subst bU
  have:=congrArg List.length NX.1;simp at this;exact rE this
 ·intros i v I oI C oC D oD kvs bj led s₁ hv aj;refine aW aj fun items n' tl aZ=>?_;refine bO aZ fun bU htl hI NX=>?_;subst bU;intros hC hm Mm Qp aU aN off ne pT
  have hi:i<vs.length:=(List.getElem?_eq_some_iff.mp hv).1;obtain ⟨nm,Nj⟩:∃nm,s_[i]?=some nm:=⟨_,List.getElem?_eq_getElem (qY hi ba)⟩;exact turn i nm v I oI C oC D oD kvs bj items n' tl s₁ Nj hv htl hI NX hC hm Mm Qp aU aN off ne pT
end
structure PairsOut (news:ax) (ps:List ((Tok->Value)×Value)) (vs:List Value) (dg:ax):Prop where
 len:vs.length=ps.length
 at':∀(i:Nat) p,ps[i]?=some p->∃a t,vs[i]?=some (.ref a)/\(a,aO [p.1 t,p.2])∈dg
 cls:∀q∈dg,q.2.cls= .type "tuple"/\∀r∈news,r.1<q.1
theorem sj {lo:Addr} {news:ax} {ps:List ((Tok->Value)×Value)} {C:List Value->ax->Prop} (hC:∀vs dg,PairsOut news ps vs dg->C vs dg):
  ∀(rest done:List ((Tok->Value)×Value)) (vs:List Value) (dg:ax),ps=done++rest->PairsOut news done vs dg->KdxOpen lo news rest vs dg C
 |[],done,vs,dg,e,h=>KdxOpen.nil (hC vs dg (by rw [e,List.append_nil];exact h))
 |p::r,done,vs,dg,e,h=>KdxOpen.cons fun a t _ h2 _=>sj hC r (done++[p]) _ _ (by rw [e,List.append_assoc];rfl) {
   len:=by rw [List.length_append,List.length_append,h.len];rfl
   at':=fun i q hq=>by
    by_cases hi:i<done.length
    ·rw [List.getElem?_append_left hi] at hq
     refine bl (h.at' i q hq) fun a' t' aj=>?_;refine ak aj fun h3 h4=>?_;exact ⟨a',t',by rw [List.getElem?_append_left (by rw [h.len];exact hi)];exact h3, .tail _ h4⟩
    ·rw [List.getElem?_append_right (q5 hi)] at hq
     have h0:i - done.length=0:=by
      have:=(List.getElem?_eq_some_iff.mp hq).1;simp at this;exact q6 this
     rw [h0] at hq
     cases hq
     exact ⟨a,t,by rw [List.getElem?_append_right (by rw [h.len];exact q5 hi),h.len,h0];rfl, .head _⟩
   cls:=fun q hq=>by
    rcases aB hq with rfl|hq
    ·exact ⟨rfl,h2⟩
    ·exact h.cls q hq}
noncomputable def ux (kvs:List (Str×Value)) (T:List Str) (dg:ax) (out:List Value):Prop:=out.length=T.length/\∀(i:Nat) x,T[i]?=some x->∃a t v,out[i]?=some (.ref a)/\(a,aO [.str x t,v])∈dg/\(x,v)∈kvs
section
variable {prog:Program} {w:World} {A:Around} {E:Value->Shared->Prop} {s:Shared} {h₀:Heap} {L:Addr} {m:Str->Option Value} {news:ax}
theorem xY {kvs:List (Str×Value)} {vs out:List Value} {dg:ax} {T:List Str} (hv:PairsOut news (kvs.map fun p=>(PySem.W.kyVal (.str p.1),p.2)) vs dg) (h:iG vs (fun i=>(kvs.map (·.1)).getD i Str.empty) T out):ux kvs T dg out:=by
 refine am h fun p aj=>?_;clear h;refine aI aj fun hp aZ hT=>?_;subst aZ;refine ⟨by rw [<-hT,List.length_map,List.length_map],fun i x hx=>?_⟩;rw [<-hT,List.getElem?_map] at hx
 cases hj:p[i]? with
 |none=>rw [hj] at hx;cases hx
 |some j=>
  rw [hj] at hx;have hx:(kvs.map (·.1)).getD j Str.empty=x:=Option.some.inj hx;have OM:j<vs.length:=List.mem_range.mp (hp.mem_iff.mp (List.mem_of_getElem? hj))
  have Wu:j<kvs.length:=by have:=hv.len;rw [List.length_map] at this;exact q3 OM this
  refine bl (hv.at' j _ (by rw [List.getElem?_map,List.getElem?_eq_getElem Wu];rfl)) fun a t aj=>?_;refine ak aj fun h1 h2=>?_
  have hk:(kvs[j]).1=x:=by rw [<-hx];simp [Wu]
  refine ⟨a,t,(kvs[j]).2,?_,?_,?_⟩
  ·rw [List.getElem?_map,hj]
   show some (vs.getD j Value.none)=_;rw [List.getD_eq_getElem?_getD,h1];rfl
  ·rw [<-hk];exact h2
  ·rw [<-hk];exact List.getElem_mem Wu
theorem xg {v d:Addr} {od:Obj} {kvs:List (Str×Value)} {T:List Str} {Q:Value->Shared->Prop} (hh:A.handled=none) (F:Fr h₀ L s.heap m) (N:News h₀ L s.heap news) (VB:(v,{cls:= .type "dict_items",data:= .fields #[.ref d]})∈news) (hmd:(d,od)∈news)
  (KF:od.IsDictOf (PySem.strKind prog w) kvs) (hn:kvs.length<64) (hT:T.Perm (kvs.map (·.1))) (hs:T.Pairwise be)
  (h:∀D out c dg h' tk,Fr h₀ L h' m->News h₀ L h' ((D,listOf (List.toArray out) c)::(dg++news))->(∀q∈dg++news,q.1<D)->(∀q∈dg,q.2.cls= .type "tuple"/\∀r∈news,r.1<q.1)->ux kvs T dg out->Q (.ref D) {s with heap:=h',toks:=tk}):
  wpAny (model prog w) A (call (.builtin "sorted") [.ref v]) Q E s:=by
 refine kdx_sortedN (knd:=PySem.strKind prog w) (enc:=PyData.str) hh F N VB hmd KF (zJ hn) (fun _ _ h=>Value.isStrOf_shape h) rfl fun lo P3=>?_;refine sj (ps:=kvs.map fun p=>(PySem.W.kyVal (.str p.1),p.2)) (fun vs dg hv=>?_) _ [] [] [] rfl ⟨rfl,fun i p hp=>by simp at hp,fun _ h=>nomatch h⟩;intros B h' tk hB F' N'
 have ba:vs.length=kvs.length:=by rw [hv.len,List.length_map]
 refine sL (f:=fun i=>(kvs.map (·.1)).getD i Str.empty) (T:=T) F' N' (UpdF.head fun p hp=>Nat.ne_of_lt (hB p hp)) (zH hn ba) (fun i hi=>?_) (fun o a b Ll hb=>?_) ?_ hs fun out c h2 QB F2 N2 hS=>?_
 ·have TV:i<kvs.length:=by exact q3 hi ba
  refine bl (hv.at' i _ (by rw [List.getElem?_map,List.getElem?_eq_getElem TV];rfl)) fun a t aj=>?_;refine ak aj fun h1 h2=>?_;refine ⟨a,_,_,_,t,by rw [List.getD_eq_getElem?_getD,h1];rfl, .tail _ (aL _ h2),rfl,rfl,?_⟩;simp [PySem.W.kyVal,TV]
 ·refine Or.elim (aB Ll) (fun e=>?_) fun Ll=>?_
  ·cases e;exact absurd (show Value.type "list"=Value.type "tuple" from hb) (by decide)
  ·exact .tail _ Ll
 ·refine hT.trans (List.Perm.of_eq ?_)
  apply List.ext_getElem (by simp [ba]);intros i h1 h2;simp at h1;simp [h1]
 ·exact h B out c dg h2 QB F2 N2 hB hv.cls (xY hv hS)
end
section
variable {prog:Program} {w:World} {A:Around} {E:Value->Shared->Prop} {s:Shared} {h₀:Heap} {L:Addr} {m:Str->Option Value} {news:ax}
theorem wq {a:Addr} {its:Array Value} {n:Nat} {Q:Bool->Shared->Prop} (N:News h₀ L s.heap news) (hm:(a,listOf its n)∈news) (hz:its.size<=1000000) (h0:its=#[]->Q false {s with toks:=s.toks+1+1}) (h1:its≠#[]->Q true {s with toks:=s.toks+1+1}):wpAny (model prog w) A (truthy (.ref a)) Q E s:=by
 have hl:s.heap.IsList a its:=⟨_,N.get hm,rfl,n,rfl⟩;refine wpAny_truthy_list hl (qV hz) ?_
 by_cases e:its=#[]
 ·rw [e];exact h0 e
 ·have:its.isEmpty=false:=by
   cases h:its.isEmpty with
   |false=>rfl
   |true=>exact absurd (Array.isEmpty_iff.mp h) e
  rw [this];exact h1 e
theorem wt {a:Addr} {o:Obj} {kvs:List (Str×Value)} {Q:Bool->Shared->Prop} (N:News h₀ L s.heap news) (hm:(a,o)∈news) (hd:o.IsDictOf (PySem.strKind prog w) kvs) (lo:(a == sysModules)=false) (hz:kvs.length<=1000000) (dR:kvs≠[]) (h1:Q true {s with toks:=s.toks+1+1}):wpAny (model prog w) A (truthy (.ref a)) Q E s:=by
 refine wpAny_truthy_dict lo (kda_dict N hm hd) (qV hz) ?_
 cases kvs with
 |nil=>exact absurd rfl dR
 |cons=>exact h1
end
theorem iE {q:Addr} {l:ax} (h:AllLt q l):∀p∈l,p.1≠q:=by
 induction l with
 |nil=>exact fun _ h=>nomatch h
 |cons a r ih=>
  intro p hp
  rcases aB hp with rfl|hp
  ·exact Nat.ne_of_lt h.1
  ·exact ih h.2 p hp
theorem Kg:True:=by
 (k_with "conj"=>(with_reducible (first|assumption|(apply And.right;(first|assumption|(apply And.right;(first|assumption|(apply And.right;(first|assumption|(apply And.right;(first|assumption|(apply And.right;(first|assumption|(apply And.right;(first|assumption|(apply And.right;(first|assumption|(apply And.right;(first|assumption|(apply And.right;(first|assumption|(apply And.right;(first|assumption|(apply And.right;(first|assumption|(apply And.right;(first|assumption|(apply And.right;(first|assumption|(apply And.right;(first|assumption|(apply And.right;(first|assumption|(apply And.right;(first|assumption|(apply And.right;(first|assumption|(apply And.right;(first|assumption|(apply And.right;(first|assumption|(apply And.right;(first|assumption|(apply And.right;(first|assumption|(apply And.right;(first|assumption|(apply And.right;(first|assumption|(apply And.right;(first|assumption|(apply And.right;(first|assumption|(apply And.right;(first|assumption|(apply And.right;(first|assumption|(apply And.right;(first|assumption|(apply And.right;(first|assumption|(apply And.right;(first|assumption|(apply And.right;(first|assumption|(apply And.right;(first|assumption|(apply And.right;(first|assumption|(apply And.right;(first|assumption|(apply And.right;(first|assumption|(apply And.right;(first|assumption|(apply And.right;(first|assumption|(apply And.right;(first|assumption|(apply And.right;(first|assumption|(apply And.right;assumption))))))))))))))))))))))))))))))))))))))))))))))))))))))))))))))))))))))))))))))))))
 (k_with "k_all"=>(first|(with_reducible assumption)|((fail_if_success (with_reducible refine aQ ?_));refine iE ?_;walk_at "conj")))
 (k_with "truthy ref"=>((k_here;(with_reducible show wpAny _ _ (truthy (Value.ref _)) _ _ _);k_dflt (refine' wt (by k_asm) (by k_mem) (by assumption) (by assumption) (by lia) (by assumption) ?_;k_whole))))
 (k_with "truthy ref"=>((k_here;(with_reducible show wpAny _ _ (truthy (Value.ref _)) _ _ _);k_dflt (refine' wq (by k_asm) (by k_mem) (by first|assumption|lia) (by intro qww;exact absurd qww (by assumption)) ?_;k_whole);(try intro _))))
 trivial
theorem Ke:True:=by
 (k_with "call builtin:dict.get"=>((k_here;(with_reducible show wpAny _ _ (call (Value.builtin "dict.get") [Value.ref _,Value.str _ _]) _ _ _);k_dflt (refine' kdg_get1 (knd:=PySem.strKind _ _) (by k_asm) (by k_mem) (by assumption) (by assumption) (PySem.strKind_is _ _ _ _) _ (by assumption) ?_;k_whole);try dsimp only [Option.getD])))
 (k_with "subscriptTail"=>((k_here;(with_reducible show wpAny _ _ (subscriptTail _ _ (Value.ref _) (Value.str _ _)) _ _ _);k_dflt (refine' kda_item (knd:=PySem.strKind _ _) (by k_asm) (by k_mem) (by assumption) (PySem.strKind_is _ _ _ _) (by assumption) ?_ (by with_unfolding_all rfl);k_whole))))
 trivial
theorem wm {prog:Program} {w:World} {A:Around} {E:Value->Shared->Prop} {s:Shared} {h₀:Heap} {L a:Addr} {news:ax} {L4 slice:PySem.Expr} {x:Value} {r:List Value} {u:Tok} {Q:Value->Shared->Prop} (N:News h₀ L s.heap news) (hm:(a,aO (x::r))∈news) (h:Q x s)
  (hs:subscripted slice false (.ref a) (.int 0 u)=operate [.ref a, .int 0 u] (getItem (.ref a) (.int 0 u)):=by with_unfolding_all rfl):
  wpAny (model prog w) A (subscriptTail L4 slice (.ref a) (.int 0 u)) Q E s:=
 item_tupleT (l:=x::r) (j:=0) ⟨_,N.get hm,rfl,_,rfl⟩ (by decide) (by decide) (by rw [List.length_cons];unfold seqIndex?;simp;try lia) rfl h hs
theorem Kd:True:=by
 (k_with "subscriptTail"=>((k_here;(with_reducible show wpAny _ _ (subscriptTail _ _ (Value.ref _) (Value.int 0 _)) _ _ _);k_dflt (refine' wm (by k_asm) (by k_mem) ?_ (by with_unfolding_all rfl);k_whole))))
 (k_with "call builtin:str.join"=>((k_here;(with_reducible show wpAny _ _ (call (Value.builtin "str.join") [Value.str _ _,Value.ref _]) _ _ _);k_dflt (refine' join_listW (by exact News.isList (by k_asm) (by k_mem)) (by assumption) (by decide) (by assumption) ?_;k_whole);intro _ _)))
 trivial
theorem ET {a:Array Value} {v:Value} (h:a.size+1<=16777216):(a.push v).size<=sizeLine:=by rw [Array.size_push,sizeLine_eq];exact h
theorem Kc:True:=by
 (k_with "size_fits"=>(with_reducible (refine ET ?_;(try simp only [Array.size_push]);lia)))
 (k_with "memrest"=>(first|assumption|(refine List.Mem.tail _ ?_;walk_at "memrest")))
 (k_with "allinT"=>(first|(refine aQ ⟨by k_mem,?_⟩;walk_at "allinT")|exact List.forall_mem_nil _|(intro _ _;walk_at "memrest")))
 trivial
theorem wp {prog:Program} {w:World} {A:Around} {E:Value->Shared->Prop} {s:Shared} {x:Str} {t:Tok} {Q:Bool->Shared->Prop} (h1:1<=x.length) (h2:x.length<=1000000) (h:Q true {s with toks:=s.toks+1+1}):wpAny (model prog w) A (truthy (.str x t)) Q E s:=by
 refine PySem.P.truthy_str (zN h2) ?_
 have e:((x.length:Int) != 0)=true:=by simp;exact zL h1
 rw [e];exact h
theorem Kb:True:=by
 (k_with "truthy str"=>((k_here;(with_reducible show wpAny _ _ (truthy (Value.str _ _)) _ _ _);k_dflt (refine' wp (by assumption) (by lia) ?_;k_whole))))
 trivial
theorem o7 {K:Frag} {f:Addr} {G:Prop} {oc:Value} {od an:Option Addr} {name qual:Str} {params:Arguments} {body:List Stmt} {scope:Scope} {dV kV gF pm cA ct:Value} {l_:Array (Option Value)}
 (h:K.lookup f=some ⟨oc,od, .func (fnOf name qual params body scope dV kV gF pm an cA ct),l_⟩) (k:K.lookup f=some ⟨oc,od, .func (fnOf name qual params body scope dV kV gF pm an cA ct),l_⟩->G):G:=k h
theorem dd {K:Frag} {f:Addr} {P:Str->List Stmt->Scope->Value->Prop} {oc Rx:Value} {od an od' an':Option Addr} {name Xg UP:Str} {params UR:Arguments} {Un:List Stmt} {Sp:Scope} {dV kV gF pm ct dV' kV' ZE pm' S0 ct':Value} {l_ Zq:Array (Option Value)}
 (h:K.lookup f=some ⟨Rx,od', .func (fnOf Xg UP UR Un Sp dV' kV' ZE pm' an' S0 ct'),Zq⟩) (main:P UP Un Sp S0):∀(qual:Str) (body:List Stmt) (scope:Scope) (cA:Value),K.lookup f=some ⟨oc,od, .func (fnOf name qual params body scope dV kV gF pm an cA ct),l_⟩->P qual body scope cA:=by
 intros qual body scope cA k;have h:=k.symm.trans h;simp only [Option.some.injEq,Obj.mk.injEq,Data.func.injEq,fnOf,FuncData.mk.injEq,FuncBody.stmts.injEq] at h;rw [h.2.2.1.2.1,h.2.2.1.2.2.2.1,h.2.2.1.2.2.2.2.1,show cA=S0 by simp [h]];exact main
theorem Ks {P Q:Prop} (h:P) (k:P->Q):Q:=k h
theorem Ka:True:=by
 (k_with "call ref"=>((k_here;(with_reducible show wpAny _ _ (call (Value.ref 168) _ _) _ _ _);refine Stop.out ?_)))
 trivial
noncomputable def TextRows (led:ax) (rows:List Value) (nvs:List (Str×Str)):Prop:=rows.length=nvs.length/\∀(i:Nat) nv,nvs[i]?=some nv->∃a t1 t2,rows[i]?=some (.ref a)/\(a,aO [.str nv.1 t1, .str nv.2 t2])∈led
noncomputable def bD (nv:Str×Str):Str:=ofString " "++nv.1++ofString "=\""++nv.2++ofString "\""
theorem IG (nv:Str×Str):Str.empty++ofString " "++nv.1++ofString "=\""++nv.2++ofString "\""=bD nv:=by
 unfold bD;rw [PySem.Str.empty_append]
theorem iU {α:Type} {f:α->Str} {l:List α} {i:Nat} {a:α} {ys:List Value} {y:Value} {t:Tok} (h:StrsAre ys ((l.take i).map f)) (ha:l[i]?=some a) (hy:y= .str (f a) t):StrsAre (ys++[y]) ((l.take (i+1)).map f):=by
 rw [List.take_add_one,ha,List.map_append,hy];exact h.append' (.cons _ t .nil)
theorem wG {l:List Str} {k:Nat} (h:∀x∈l,x.length<=k):(l.map (·.length)).sum<=k*l.length:=by
 induction l with
 |nil=>simp
 |cons a r ih=>
  have h1:=h a (.head _);have h2:=ih fun x hx=>h x (.tail _ hx);simp only [List.map_cons,List.sum_cons,List.length_cons,Nat.mul_succ];exact qR h2 h1
theorem IF (nv:Str×Str):(bD nv).length=nv.1.length+nv.2.length+4:=by
 unfold bD;rw [Str.length_append,Str.length_append,Str.length_append,Str.length_append,PyProof.Rows.ofString_len,PyProof.Rows.ofString_len,PyProof.Rows.ofString_len];have h1:" ".length=1:=rfl;have h2:"=\"".length=2:=rfl;have h3:"\"".length=1:=rfl;exact zG h1 h3 h2
noncomputable def jR (w:World) (p:Program) (a_:List Str) (bz:ExcName->Option Value) (mg mb:Str->Option Value) (dp un:Nat) (gd:Option (List Code)) (cn:Str) (cs:Scope) (La a:Addr) (fM:Value) (cl:List (Str×Addr)) (c_:List Env) (fR g:Heap) (L:Addr) (m:Str->Option Value) (s:Shared) (Q:Flow->Shared->Prop) (E:Value->Shared->Prop) (W d pc D Dd al:Addr) (n:WN) (n2 n4 n5 na:Nat) (x:WS) (nv its:Array Value) (pi rows:List Value) (pv:Value) (odo oDo KA:Obj) (kvs kvs':List (Str×Value)) (nvs:List (Str×Str)) (rest:ax) (qe:Addr) (te t1 t2 t3:Tok) (_ _ _ _:Nat):Prop:=∀⦃oc:Value⦄ ⦃an:Option Addr⦄ ⦃name qual:Str⦄ ⦃params:Arguments⦄ ⦃body:List Stmt⦄ ⦃scope:Scope⦄ ⦃dV kV gF pm cA ct:Value⦄ ⦃l_:Array (Option Value)⦄ ⦃z_:Option Addr⦄ (ho:(hd.heap_39 w.params).lookup 126=some ⟨oc,z_, .func (fnOf name qual params body scope dV kV gF pm an cA ct),l_⟩) (B:Below (ktrTop dp un gd cn cs La a fM cl c_) fR (envX cn cs La a fM cl::c_) g) (X:(hd.heap_39 w.params).In g) (T:Top p a_ bz mg mb g) (KM:dp+6<recursionLimit) (Nc:un+500<cLine) (F:Fr g L s.heap m) (N:News g L s.heap ((W,instObj 150 d)::(d,dictOf (ci w.params x n.seen n.done) n.n)::(x.nss,listOf nv n2)::(x.pres,listOf (pi++[pv]).toArray n4)::(x.write,bT pc)::(pc,listOf its n5)::(D,odo)::(Dd,oDo)::(al,listOf rows.toArray na)::(L+1,KA)::(qe,aO [.str (ofString "e") t1, .str (ofString "e") t2, .str (ofString "") t3])::rest)) (mA:m (ofString "attrs")=some (.ref D)) (mP:m (ofString "parsed_qnames")=some (.ref Dd)) (mL:m (ofString "attr_list")=some (.ref al)) (mT:m (ofString "tag")=some (.str (ofString "e") te)) (mQ:m (ofString "qname_text")=some .none) (O7:KA.data=Data.cell (some (.ref W))) (KF:odo.IsDictOf (PySem.strKind rw_ty0067_01.row.prog w) kvs) (Mm:oDo.IsDictOf (PySem.strKind rw_ty0067_01.row.prog w) kvs') (PX:valueAt kvs (ofString "{http://www.w3.org/XML/1998/namespace}space")=none) (OB:valueAt kvs' (ofString "e")=some (.ref qe)) (t_:(D == sysModules)=false) (hR:TextRows rest rows nvs) (Rz:nvs≠[]) (Le:nvs.length<=100) (OS:∀z∈nvs,jI z.2/\z.1.length<=2000/\z.2.length<=2000) (G_:its.size<=1000) (Oh:nv.size<=1000) (Lq:pi.length<=1000) (nd:([W,d,x.nss,x.pres,x.write,pc,D,Dd,al,L+1,qe]:List Nat).Nodup) (off:∀r∈rest,r.1∉([d,x.nss,x.pres,pc]:List Nat)) (hQ:∀q n' eM j_ k_ ta tb tc m' (s':Shared),Fr g L s'.heap m'->News g L s'.heap ((W,instObj 150 d)::(d,dictOf (ci w.params x true n.done) n')::(x.nss,listOf (nv.push (.ref q)) eM)::(x.pres,listOf ((pi++[pv]).toArray.push pv) j_)::(x.write,bT pc)::(pc,listOf (((its.push (.str (ofString "<"++ofString "e") ta)).push (.str (Txt.join (ofString "") (nvs.map bD)) tb)).push (.str (ofString ">") tc)) k_)::(q,listOf #[] 0)::(D,odo)::(Dd,oDo)::(al,listOf rows.toArray na)::(L+1,KA)::(qe,aO [.str (ofString "e") t1, .str (ofString "e") t2, .str (ofString "") t3])::rest)->(∀z∈([W,d,x.nss,x.pres,x.write,pc,D,Dd,al,L+1,qe]:List Nat),z≠q)->(∀r∈rest, @Ne Nat r.1 q)->aM s s'->Q .next s'),
 wpAny (model rw_ty0067_01.row.prog w) ((ktrTop dp un gd cn cs La a fM cl c_).deeper (envOfC qual scope L 126 cA)) (execs (body.drop 9) (envOfC qual scope L 126 cA)) Q E s
noncomputable def uV:=bA (iB jR) ((bw,default,[],fun _=>none,fun _=>none,fun _=>none,0,0),(none,⟨#[]⟩,default,0,0, .none,[],[]),({},{},0,fun _=>none,{},fun _ _=>True,fun _ _=>True,0),(0,0,0,0,0,⟨0,false,false⟩,0,0),(0,0,⟨0,0,0,0,0,0,fun _=>0⟩,#[],#[],[],[], .none),(default,default,default,[],[],[],[],0),(0,0,0,0,0,0,0,0))
theorem wC:∀{w p a_ bz mg mb dp un gd cn cs La a fM cl c_ fR g L m s Q E W d pc D Dd al n n2 n4 n5 na x nv its pi rows pv odo oDo KA kvs kvs' nvs rest qe te t1 t2 t3},jR w p a_ bz mg mb dp un gd cn cs La a fM cl c_ fR g L m s Q E W d pc D Dd al n n2 n4 n5 na x nv its pi rows pv odo oDo KA kvs kvs' nvs rest qe te t1 t2 t3 0 0 0 0:=by
 intros;apply ov jR (c:=uV) rfl;apply (?zg:lY jR);intros w p a_ bz mg mb dp un gd cn cs La a fM cl c_ fR g L m s Q E W d pc D Dd al n n2 n4 n5 na x nv its pi rows pv odo oDo KA kvs kvs' nvs rest qe te t1 t2 t3 _ _ _ _;intros oc an name qual params body scope dV kV gF pm cA ct l_ z_ ho B X T KM Nc F N mA mP mL mT mQ O7 KF Mm PX OB t_ hR Rz Le OS G_ Oh Lq nd off hQ;revert qual body scope cA;k_fill;refine' no_implicit_lambda% (dd (K:=hd.heap_39 w.params) (f:=126) ?h1 ?main)
 case h1=>k_is
 replace nd:=fw nd;dsimp only [ND,NI] at nd;refine gT nd fun aj aZ bU dK pH Lb LJ LS Me jX Pr=>?_;clear nd Pr;refine eF aj fun a1 a2 a3 a4 a5 a6 a7 a8 a9 aX=>?_;refine fb aZ fun b2 b3 b4 b5 b6 b7 b8 b9 bX=>?_;refine fe bU fun c3 c4 c5 c6 c7 c8 c9 cX=>?_;refine ef dK fun d4 d5 d6 d7 d8 d9 dX=>?_;refine dI pH fun e5 e6 e7 e8 e9 eX=>?_;refine bv Lb fun f6 f7 f8 f9 fX=>?_;refine bO LJ fun g7 g8 g9 gX=>?_;refine aI LS fun h8 h9 hX=>?_;refine ak Me fun i9 iX=>?_;have of:∀z,z∈([d,x.nss,x.pres,pc]:List Nat)->∀r∈rest, @Ne Nat r.1 z:=fun z hz r hr e=>off r hr (by rw [e];exact hz);have od:=of d (by simp);have oN:=of x.nss (by simp);have oP:=of x.pres (by simp);have oPc:=of pc (by simp);dsimp only [List.drop]
 have W4:rows.toArray.size<=1000000:=by rw [List.size_toArray,hR.1];exact zF Le
 have aan:rows.toArray≠#[]:=fun e=>by
  have h1:=congrArg Array.size e;rw [List.size_toArray,hR.1] at h1
  cases nvs with
  |nil=>exact Rz rfl
  |cons=>cases h1
 k_steps;refine ⟨?_⟩;rename News _ _ _ _=>N1;rename Fr _ _ _ _=>F1;generalize o_:(_::_:ax)=LY at N1;refine ph (l:=al) (vs:=rows) (fun i ys led=>led=LY/\ys.length=i/\StrsAre ys ((nvs.take i).map bD)) (fun i va vb=>∃nv t1 t2,nvs[i]?=some nv/\va= .str nv.1 t1/\vb= .str nv.2 t2) F1 N1 rfl ?c1 (by rw [hR.1];exact zE Le) ⟨rfl,rfl, .nil⟩ (fun i ys led h=>Nat.le_of_eq h.2.1) (by decide) rfl (by decide) (by rfl) (by rfl) ?c2 ?c3 ?c4
 case c1=>
  intros i ys led s₁ aj;refine aI aj fun aZ _ _=>?_;subst aZ;intro F2 N2;exact bo N2 (by subst o_;k_mem)
 case c2=>
  intros i v ys led s₁ hv aj;refine aI aj fun aZ _ _=>?_;subst aZ;intro F2 N2;refine am (List.getElem?_eq_some_iff.mp hv) fun hi _=>?_;refine aW (hR.2 i _ (List.getElem?_eq_getElem (by rw [<-hR.1];exact hi))) fun a' u1 u2 aj=>?_;refine ak aj fun e1 e2=>?_;rw [hv] at e1
  cases e1
  have Nb:(a',aO [.str (nvs[i]'(by rw [<-hR.1];exact hi)).1 u1, .str (nvs[i]'(by rw [<-hR.1];exact hi)).2 u2])∈led:=by subst o_;simp only [List.mem_cons,e2,or_true]
  exact ⟨a',_,_,rfl,⟨_,N2.get Nb,rfl,_,rfl⟩,_,u1,u2,List.getElem?_eq_getElem (by rw [<-hR.1];exact hi),rfl,rfl⟩
 case c3=>
  intros i va vb I oI C oC D' ys bj led s₁ hi aj;refine aW aj fun UQ u1 u2 aZ=>?_;refine aI aZ fun UX bU dK=>?_;subst bU;subst dK;intro pH;refine aI pH fun Lb lG f_=>?_;subst Lb;intros hC Ub Ur F2 N2 er Lo S2;have UY:=OS UQ (List.mem_of_getElem? UX);have XK:=UY.2.1;have Mx:=UY.2.2;clear o_;k_steps;refine ⟨?_⟩;rename News _ _ _ _=>N3;rename Fr _ _ _ _=>F3;refine dO (H0 UQ.2 u2 UY.1) B F3 X N3 T rfl rfl rfl (fun _ h=>nomatch h) trivial (by ktr_room) (by ktr_units) ?_;intros t s' F' N' K' S';have Lk:=d0 N3 K' N' (others:=_) (fun _ h=>h) (fun _ _ h=>nomatch h);rw [List.nil_append] at Lk;clear N3 F3 N';k_steps;exact ⟨led,by assumption,Lk,er,⟨rfl,by rw [List.length_append,lG];rfl,iU f_ UX (by rw [IG])⟩,SameF.trans S2 S'⟩
 case c4=>
  refine fI (n:=rows.length) (Inv:=fun i ys led=>led=LY/\ys.length=i/\StrsAre ys ((nvs.take i).map bD)) ?_;intros D' ys led s₁ aj;refine aI aj fun aZ lG f_=>?_;subst aZ;intros F2 N2 er S2;rw [hR.1,List.take_length] at f_
  have hw:((nvs.map bD).map (·.length)).sum+(nvs.map bD).length<=1048576:=by
   have:=wG (l:=nvs.map bD) (k:=4004) (fun x hx=>by
    refine am (aP hx) fun z aj=>?_;refine ak aj fun hz aZ=>?_;subst aZ;have:=OS z hz
    rw [IF];exact zB this.2.1 this.2.2)
   rw [List.length_map] at this ⊢;exact zA this Le
  subst o_;clear N1 F1;replace er:=cj er;dsimp only [FC] at er;k_steps;refine hQ _ _ _ _ _ _ _ _ _ _ (by assumption) (bf (by assumption) (by exact cv [2,3,4,5,6,7,0,8,9,10,11,12] 13 rfl rfl)) ?f1 ?f2 ?f3
  case f1=>
   refine cu ?_;dsimp only [FC]
   refine ⟨?_,?_,?_,?_,?_,?_,?_,?_,?_,?_,?_,trivial⟩<;>k_ne
  case f2=>exact iE (by walk_at "conj")
  case f3=>exact SameF.trans S2 SameF.refl
section
variable {prog:Program} {w:World} {A:Around} {env:Env} {E:Value->Shared->Prop} {s:Shared} {h₀:Heap} {m:Str->Option Value} {news:ax} {bi:Expr} {body cH:List Stmt} {Q:Flow->Shared->Prop}
theorem FY {I:Addr} {fE:Obj} {Ob:Nat->Obj->Prop} {It:Nat->Value->Prop} {n:Nat} (Inv:Nat->(Str->Option Value)->ax->Prop)
  (F:Fr h₀ env.locals s.heap m) (N:News h₀ env.locals s.heap ((I,fE)::news)) (hI:∀p∈news,p.1≠I) (hO:Ob 0 fE) (h0:Inv 0 m news)
  (next:∀i o aC ao (s₁:Shared) (Q:Option Value->Shared->Prop) E,i<n->Ob i o->Inv i aC ao->Fr h₀ env.locals s₁.heap aC->News h₀ env.locals s₁.heap ((I,o)::ao)->(∀v o' h' NV,It i v->Ob (i+1) o'->h'.get? I=some o'->Heap.SameBut I s₁.heap h'->Q (some v) {s₁ with heap:=h',toks:=NV})->wpAny (model prog w) A (pyNext (.ref I)) Q E s₁)
  (last:∀o aC ao (s₁:Shared) (Q:Option Value->Shared->Prop) E,Ob n o->Inv n aC ao->Fr h₀ env.locals s₁.heap aC->News h₀ env.locals s₁.heap ((I,o)::ao)->(∀h',Heap.ExtBut I s₁.heap h'->Q none {s₁ with heap:=h'})->wpAny (model prog w) A (pyNext (.ref I)) Q E s₁)
  (turn:∀i v o aC ao (s₁:Shared),i<n->It i v->Inv i aC ao->Fr h₀ env.locals s₁.heap aC->News h₀ env.locals s₁.heap ((I,o)::ao)->(∀p∈ao,p.1≠I)->aM s s₁->
   wpAny (model prog w) A (assign bi env v) (fun _ aG=>wpAny (model prog w) A (execs body env) (TurnEnd h₀ env.locals I o (Inv (i+1)) s Q) bd aG) bd s₁)
  (done:∀aC ao s₁,Inv n aC ao->Fr h₀ env.locals s₁.heap aC->News h₀ env.locals s₁.heap ao->aM s s₁->wpAny (model prog w) A (execs cH env) Q bd s₁)
  (M6:∀i v o (s₁:Shared) (Q:Unit->Shared->Prop) E,s₁.heap.get? I=some o->Ob i o->Q () s₁->wpAny (model prog w) A (letOwnedTupleGo bi (.ref I) v) Q E s₁):eg prog w A env bi body cH Q E (.ref I) s:=by
 unfold eg;refine codeAny_forLoop_any (fun k s₁=>k<=n/\∃o aC ao,Ob (n - k) o/\Inv (n - k) aC ao/\Fr h₀ env.locals s₁.heap aC/\News h₀ env.locals s₁.heap ((I,o)::ao)/\(∀p∈ao,p.1≠I)/\aM s s₁) ?_ n ⟨Nat.le_refl _,fE,m,news,by rw [Nat.sub_self];exact hO,by rw [Nat.sub_self];exact h0,F,N,hI,SameF.refl⟩;intros k s₁ aj;refine ak aj fun hk aZ=>?_;refine aW aZ fun o aC ao bU=>?_;refine dI bU fun gr hJ aU aN dA hS=>?_;have QH:I≠env.locals:=(aN _ (.head _)).2.1;have KJ:h₀.get? I=none:=(aN _ (.head _)).2.2
 cases k with
 |zero=>
  rw [Nat.sub_zero] at hJ gr;refine last o aC ao s₁ _ _ gr hJ aU aN fun h' hx=>?_;refine wpAny_mono (done aC ao {s₁ with heap:=h'} hJ ⟨aU.ns.at' fun o e=>hx _ o (Ne.symm QH) e,fun b o e=>hx b o (fun q=>by rw [q,KJ] at e;cases e) (aU.keep b o e),aU.above⟩ (fun p hp=>⟨hx _ _ (dA p hp) (aN p (.tail _ hp)).1,(aN p (.tail _ hp)).2⟩) hS) (fun f bh h=>h) fun _ _ h=>h.elim
 |succ k=>
  have hi:n - (k+1)<n:=by exact rC hk
  have e1:n - (k+1)+1=n - k:=by exact oj hk
  refine next _ o aC ao s₁ _ _ hi gr hJ aU aN fun v o' h' NV hv Pu tA hs=>?_;have bV:Fr h₀ env.locals h' aC:=⟨aU.ns.sameBut hs (Ne.symm QH),fun b o e=>hs.extBut b o (fun q=>by rw [q,KJ] at e;cases e) (aU.keep b o e),aU.above⟩
  have ce:News h₀ env.locals h' ((I,o')::ao):=fun p hp=>by
   rcases aB hp with rfl|hp
   ·exact ⟨tA,QH,KJ⟩
   ·exact ⟨hs.extBut _ _ (dA p hp) (aN p (.tail _ hp)).1,(aN p (.tail _ hp)).2⟩
  refine M6 _ v o' {s₁ with heap:=h',toks:=NV} _ _ tA Pu ?_;refine wpAny_mono (turn _ v o' aC ao {s₁ with heap:=h',toks:=NV} hi hv hJ bV ce dA hS) (fun _ aG bP=>wpAny_mono bP (fun f bh bu=>?_) fun _ _ h=>h.elim) fun _ _ h=>h.elim
  have fin:LoopEnd h₀ env.locals I o' (Inv (n - (k+1)+1)) s bh->∃m,m<k+1/\(m<=n/\∃o aC ao,Ob (n - m) o/\Inv (n - m) aC ao/\Fr h₀ env.locals bh.heap aC/\News h₀ env.locals bh.heap ((I,o)::ao)/\(∀p∈ao,p.1≠I)/\aM s bh):=by
   intro aj;refine bl aj fun m' news' aZ=>?_;refine bv aZ fun F' N' tA Lv My=>?_;rw [e1] at Lv Pu;exact ⟨k,Nat.lt_succ_self _,by exact oi e1,o',m',news',Pu,Lv,F',N',tA,My⟩
  cases f with
  |next=>exact fin bu
  |cont=>exact fin bu
  |brk=>exact bu
  |ret v=>exact bu
theorem FZ {l:Addr} {vs:List Value} (Inv:Nat->(Str->Option Value)->ax->Prop) (F:Fr h₀ env.locals s.heap m) (N:News h₀ env.locals s.heap news) (hh:A.handled=none)
  (hl:∀i aC ao (s₁:Shared),Inv i aC ao->Fr h₀ env.locals s₁.heap aC->News h₀ env.locals s₁.heap ao->s₁.heap.IsList l vs.toArray) (h0:Inv 0 m news)
  (turn:∀i v aC ao I o (s₁:Shared),vs[i]?=some v->Inv i aC ao->Fr h₀ env.locals s₁.heap aC->News h₀ env.locals s₁.heap ((I,o)::ao)->(∀p∈ao,p.1≠I)->aM s s₁->
   wpAny (model prog w) A (assign bi env v) (fun _ aG=>wpAny (model prog w) A (execs body env) (TurnEnd h₀ env.locals I o (Inv (i+1)) s Q) bd aG) bd s₁)
  (done:∀aC ao (s₁:Shared),Inv vs.length aC ao->Fr h₀ env.locals s₁.heap aC->News h₀ env.locals s₁.heap ao->aM s s₁->wpAny (model prog w) A (execs cH env) Q bd s₁)
  (ht:∃RF kk tp,bi= .Tuple RF kk tp):wpAny (model prog w) A (pyIter (.ref l)) (eg prog w A env bi body cH Q E) E s:=by
 have Oa:=hl _ _ _ _ h0 F N;refine wpAny_pyIter_list Oa ?_;have hI:∀p∈news,p.1≠s.heap.objs.size:=fun p hp=>Nat.ne_of_lt (Heap.lt_size (N p hp).1);refine FY (I:=s.heap.objs.size) (Ob:=fun i o=>o.cls= .type "list_iterator"/\o.data= .fields #[.ref l, .int i 0]) (It:=fun i v=>vs[i]?=some v) (n:=vs.length) Inv (F.push _) (m:=m) (news:=news) (News.push F N _) hI ⟨rfl,rfl⟩ h0 ?_ ?_ ?_ done ?_
 ·intros i o aC ao s₁ Q' E' hi hO hJ aU aN k
  have hx:vs[i]?=some vs[i]:=List.getElem?_eq_getElem hi;refine wpAny_pyNext_list_item (i:=i) (x:=vs[i]) ⟨_,(aN _ (.head _)).1,hO⟩ (hl i aC ao s₁ hJ aU fun p hp=>aN p (.tail _ hp)) (by simpa using hx) fun h' e_ hs=>?_;refine am e_ fun o' aj=>?_;clear e_;refine ak aj fun ho hc=>?_;exact k _ o' _ s₁.toks hx hc ho hs
 ·intros o aC ao s₁ Q' E' hO hJ aU aN k
  exact wpAny_pyNext_list_end (i:=vs.length) hh ⟨_,(aN _ (.head _)).1,hO⟩ (hl _ aC ao s₁ hJ aU fun p hp=>aN p (.tail _ hp)) (by simp) fun h' hx=>k h' hx
 ·intros i v o aC ao s₁ hi hv hJ aU aN dA hS
  exact turn i v aC ao _ o s₁ hv hJ aU aN dA hS
 ·refine aW ht fun RF kk tp aj=>?_;clear ht;subst aj
  intros i v o s₁ Q' E' hI hO hQ;exact sQ ⟨o,hI,hO⟩ hQ
end
noncomputable def cm (u:Str):Str×Str:=(aH u++ofString ":k",ofString "")
theorem J9:True:=by
 (k_with "call builtin:sorted"=>((k_here;refine Stop.out ?_)))
 (k_with "pyIter ref"=>(((with_reducible show wpAny _ _ (pyIter _) (eg _ _ _ _ _ _ _ _ _) _ _);refine Stop.out ?_)))
 trivial
theorem TextRows.mono {led dq:ax} {rows:List Value} {nvs:List (Str×Str)} (h:TextRows led rows nvs) (hs:∀p∈led,p∈dq):TextRows dq rows nvs:=⟨h.1,fun i nv hi=>by refine aW (h.2 i nv hi) fun a t1 t2 aj=>?_;refine ak aj fun e1 e2=>?_;clear aj;exact ⟨a,t1,t2,e1,hs _ e2⟩⟩
theorem TextRows.snoc {led:ax} {rows:List Value} {nvs:List (Str×Str)} {a:Addr} {nv:Str×Str} {t1 t2:Tok} (h:TextRows led rows nvs) (hm:(a,aO [.str nv.1 t1, .str nv.2 t2])∈led):TextRows led (rows++[.ref a]) (nvs++[nv]):=by
 refine ⟨by rw [List.length_append,List.length_append,h.1];rfl,fun i UQ hi=>?_⟩
 by_cases hl:i<nvs.length
 ·rw [List.getElem?_append_left hl] at hi
  refine aW (h.2 i UQ hi) fun a' u1 u2 aj=>?_;refine ak aj fun e1 e2=>?_;clear aj;exact ⟨a',u1,u2,by rw [List.getElem?_append_left (by rw [h.1];exact hl)];exact e1,e2⟩
 ·rw [List.getElem?_append_right (q5 hl)] at hi
  have h0:i - nvs.length=0:=by
   have:=(List.getElem?_eq_some_iff.mp hi).1;simp at this;exact q6 this
  rw [h0] at hi
  cases hi
  exact ⟨a,t1,t2,by rw [List.getElem?_append_right (by rw [h.1];exact q5 hl),h.1,h0];rfl,hm⟩
theorem E9 {a:Nat} {l:List Nat} (h:∀z∈l,z<a):a∉l:=fun hm=>Nat.lt_irrefl _ (h _ hm)
noncomputable def jS (w:World) (p:Program) (a_:List Str) (bz:ExcName->Option Value) (mg mb:Str->Option Value) (dp un:Nat) (gd:Option (List Code)) (cn:Str) (cs:Scope) (La a:Addr) (fM:Value) (cl:List (Str×Addr)) (c_:List Env) (fR g:Heap) (L:Addr) (m:Str->Option Value) (s:Shared) (Q:Flow->Shared->Prop) (E:Value->Shared->Prop) (W d pc D Dd al:Addr) (n:WN) (n2 n4 n5 na:Nat) (x:WS) (nv its:Array Value) (pi rows:List Value) (pv:Value) (odo oDo KA:Obj) (kvs kvs':List (Str×Value)) (nvs:List (Str×Str)) (rest:ax) (qe:Addr) (te t1 t2 t3:Tok) (ws sB:List Str) (_ _:Nat):Prop:=∀⦃oc:Value⦄ ⦃an:Option Addr⦄ ⦃name qual:Str⦄ ⦃params:Arguments⦄ ⦃body:List Stmt⦄ ⦃scope:Scope⦄ ⦃dV kV gF pm cA ct:Value⦄ ⦃l_:Array (Option Value)⦄ ⦃z_:Option Addr⦄ (ho:(hd.heap_39 w.params).lookup 126=some ⟨oc,z_, .func (fnOf name qual params body scope dV kV gF pm an cA ct),l_⟩) (B:Below (ktrTop dp un gd cn cs La a fM cl c_) fR (envX cn cs La a fM cl::c_) g) (X:(hd.heap_39 w.params).In g) (T:Top p a_ bz mg mb g) (KM:dp+6<recursionLimit) (Nc:un+500<cLine) (F:Fr g L s.heap m) (N:News g L s.heap ((W,instObj 150 d)::(d,dictOf (ci w.params x n.seen n.done) n.n)::(x.nss,listOf nv n2)::(x.pres,listOf (pi++[pv]).toArray n4)::(x.write,bT pc)::(pc,listOf its n5)::(D,odo)::(Dd,oDo)::(al,listOf rows.toArray na)::(L+1,KA)::(qe,aO [.str (ofString "e") t1, .str (ofString "e") t2, .str (ofString "") t3])::rest)) (mA:m (ofString "attrs")=some (.ref D)) (mP:m (ofString "parsed_qnames")=some (.ref Dd)) (mL:m (ofString "attr_list")=some (.ref al)) (mT:m (ofString "tag")=some (.str (ofString "e") te)) (mQ:m (ofString "qname_text")=some .none) (mq:m (ofString "qattrs")=some .none) (O7:KA.data=Data.cell (some (.ref W))) (KF:odo.IsDictOf (PySem.strKind rw_ty0067_01.row.prog w) kvs) (Mm:oDo.IsDictOf (PySem.strKind rw_ty0067_01.row.prog w) kvs') (PX:valueAt kvs (ofString "{http://www.w3.org/XML/1998/namespace}space")=none) (OB:valueAt kvs' (ofString "e")=some (.ref qe)) (t_:(D == sysModules)=false) (p_:kvs.map (·.1)=ws.map aS) (LU:∀kv∈kvs,∃t,kv.2= .str (ofString "") t) (J_:sB.Perm ws) (B_:(sB.map aS).Pairwise be) (hwl:1<=ws.length/\ws.length<=40) (m_:∀u∈ws,WordOk u) (O3:∀u∈ws,∃q t1 t2 t3,valueAt kvs' (aS u)=some (.ref q)/\(q,aO [.str (aH u++ofString ":k") t1, .str (ofString "k") t2, .str u t3])∈rest) (hR:TextRows rest rows nvs) (Le:nvs.length<=40) (OS:∀z∈nvs,jI z.2/\z.1.length<=2000/\z.2.length<=2000) (G_:its.size<=1000) (Oh:nv.size<=1000) (Lq:pi.length<=1000) (nd:([W,d,x.nss,x.pres,x.write,pc,D,Dd,al,L+1,qe]:List Nat).Nodup) (off:∀r∈rest,r.1∉([d,x.nss,x.pres,pc,al]:List Nat)) (hQ:∀q n' eM j_ k_ ta tb tc m' (s':Shared),Fr g L s'.heap m'->News g L s'.heap ((W,instObj 150 d)::(d,dictOf (ci w.params x true n.done) n')::(x.nss,listOf (nv.push (.ref q)) eM)::(x.pres,listOf ((pi++[pv]).toArray.push pv) j_)::(x.write,bT pc)::(pc,listOf (((its.push (.str (ofString "<"++ofString "e") ta)).push (.str (Txt.join (ofString "") ((nvs++sB.map cm).map bD)) tb)).push (.str (ofString ">") tc)) k_)::(q,listOf #[] 0)::(D,odo)::(Dd,oDo)::(L+1,KA)::(qe,aO [.str (ofString "e") t1, .str (ofString "e") t2, .str (ofString "") t3])::rest)->(∀z∈([W,d,x.nss,x.pres,x.write,pc,D,Dd,L+1,qe]:List Nat),z≠q)->(∀r∈rest, @Ne Nat r.1 q)->aM s s'->Q .next s'),
 wpAny (model rw_ty0067_01.row.prog w) ((ktrTop dp un gd cn cs La a fM cl c_).deeper (envOfC qual scope L 126 cA)) (execs (body.drop 8) (envOfC qual scope L 126 cA)) Q E s
noncomputable def uW:=bA (iB jS) ((bw,default,[],fun _=>none,fun _=>none,fun _=>none,0,0),(none,⟨#[]⟩,default,0,0, .none,[],[]),({},{},0,fun _=>none,{},fun _ _=>True,fun _ _=>True,0),(0,0,0,0,0,⟨0,false,false⟩,0,0),(0,0,⟨0,0,0,0,0,0,fun _=>0⟩,#[],#[],[],[], .none),(default,default,default,[],[],[],[],0),(0,0,0,0,[],[],0,0))
theorem wD:∀{w p a_ bz mg mb dp un gd cn cs La a fM cl c_ fR g L m s Q E W d pc D Dd al n n2 n4 n5 na x nv its pi rows pv odo oDo KA kvs kvs' nvs rest qe te t1 t2 t3 ws sB},jS w p a_ bz mg mb dp un gd cn cs La a fM cl c_ fR g L m s Q E W d pc D Dd al n n2 n4 n5 na x nv its pi rows pv odo oDo KA kvs kvs' nvs rest qe te t1 t2 t3 ws sB 0 0:=by
 intros;apply ov jS (c:=uW) rfl;apply (?zg:lY jS);intros w p a_ bz mg mb dp un gd cn cs La a fM cl c_ fR g L m s Q E W d pc D Dd al n n2 n4 n5 na x nv its pi rows pv odo oDo KA kvs kvs' nvs rest qe te t1 t2 t3 ws sB _ _;intros oc an name qual params body scope dV kV gF pm cA ct l_ z_ ho B X T KM Nc F N mA mP mL mT mQ mq O7 KF Mm PX OB t_ p_ LU J_ B_ hwl m_ O3 hR Le OS G_ Oh Lq nd off hQ;have LX:=fun {m s Q E W d pc D Dd al n n2 n4 n5 na x nv its pi rows pv odo oDo KA kvs kvs' nvs rest qe te t1 t2 t3}=> @wC w p a_ bz mg mb dp un gd cn cs La a fM cl c_ fR g L m s Q E W d pc D Dd al n n2 n4 n5 na x nv its pi rows pv odo oDo KA kvs kvs' nvs rest qe te t1 t2 t3 oc an name qual params body scope dV kV gF pm cA ct l_ z_ ho;revert qual body scope cA;k_fill;refine' no_implicit_lambda% (dd (K:=hd.heap_39 w.params) (f:=126) ?h1 ?main)
 case h1=>k_is
 intro LX;replace nd:=fw nd;dsimp only [ND,NI] at nd;refine gT nd fun aj aZ bU dK pH Lb LJ LS Me jX Pr=>?_;clear nd Pr;refine eF aj fun a1 a2 a3 a4 a5 a6 a7 a8 a9 aX=>?_;clear aj;refine fb aZ fun b2 b3 b4 b5 b6 b7 b8 b9 bX=>?_;clear aZ;refine fe bU fun c3 c4 c5 c6 c7 c8 c9 cX=>?_;clear bU;refine ef dK fun d4 d5 d6 d7 d8 d9 dX=>?_;clear dK;refine dI pH fun e5 e6 e7 e8 e9 eX=>?_;clear pH;refine bv Lb fun f6 f7 f8 f9 fX=>?_;clear Lb;refine bO LJ fun g7 g8 g9 gX=>?_;clear LJ;refine aI LS fun h8 h9 hX=>?_;clear LS;refine ak Me fun i9 iX=>?_;clear Me
 have PD:kvs.length=ws.length:=by rw [<-List.length_map (f:=Prod.fst),p_,List.length_map]
 have aai:kvs≠[]:=fun e=>by rw [e] at PD;have:=hwl.1;simp at PD;exact zz PD this
 dsimp only [List.drop] at LX ⊢;k_steps;refine ⟨?_⟩
 have Wd:(sB.map aS).Perm (kvs.map (·.1)):=by rw [p_];exact J_.map _
 refine xg (kvs:=kvs) (T:=sB.map aS) rfl (by assumption) (by assumption) (by k_mem) (by k_mem) KF (lc PD hwl.2) Wd B_ ?_;intros eL out jP dg bP uD bV ce pM uO Ya
 have Lf:∀r∈dg++rest,r.1∉([d,x.nss,x.pres,pc,al]:List Nat):=fun r hr=>by
  refine Or.elim (aE hr) (fun hr=>?_) fun hr=>?_
  ·have h1:=(uO r hr).2
   replace h1:=cj h1;dsimp only [FC] at h1;refine ma h1 fun aj g1 g2 g3 g4 g5 g6 g7 g8 g9 RC Rw aZ=>?_;clear h1 aj aZ;refine E9 ?_;refine cu ?_;dsimp only [FC];exact ⟨g2,g3,g4,g6,g9,trivial⟩
  ·exact off r hr
 have uF:∀z∈([W,d,x.nss,x.pres,x.write,pc,D,Dd,al,L+1,qe]:List Nat),z<eL:=by
  have h1:=fun r hr=>pM r (ay _ hr);replace h1:=cj h1;dsimp only [FC] at h1;refine cu ?_;dsimp only [FC];refine ma h1 fun aj g1 g2 g3 g4 g5 g6 g7 g8 g9 RC Rw aZ=>?_;clear h1 aj aZ;exact ⟨g1,g2,g3,g4,g5,g6,g7,g8,g9,RC,Rw,trivial⟩
 have I0:∀r∈dg++rest,r.1<eL:=fun r hr=>pM r (by
  refine Or.elim (aE hr) (fun hr=>?_) fun hr=>?_
  ·exact aL _ hr
  ·exact ay _ (by simp [hr]))
 have Nm:out.length=sB.length:=by rw [Ya.1,List.length_map]
 refine FZ (l:=eL) (vs:=out) (fun i m' led=>m' (ofString "attrs")=some (.ref D)/\m' (ofString "parsed_qnames")=some (.ref Dd)/\m' (ofString "attr_list")=some (.ref al)/\m' (ofString "tag")=some (.str (ofString "e") te)/\m' (ofString "qname_text")=some .none/\m' (ofString "qattrs")=some .none/\
   ∃Ml P2 tl,led=(W,instObj 150 d)::(d,dictOf (ci w.params x n.seen n.done) n.n)::(x.nss,listOf nv n2)::(x.pres,listOf (pi++[pv]).toArray n4)::(x.write,bT pc)::(pc,listOf its n5)::(D,odo)::(Dd,oDo)::(al,listOf (List.toArray Ml) P2)::(L+1,KA)::(qe,aO [.str (ofString "e") t1, .str (ofString "e") t2, .str (ofString "") t3])::(eL,listOf out.toArray jP)::(tl++(dg++rest))/\
    TextRows (tl++(dg++rest)) Ml (nvs++(sB.take i).map cm)/\(∀r∈tl,r.1∉([W,d,x.nss,x.pres,x.write,pc,D,Dd,al,L+1,qe,eL]:List Nat)))
  bV (bf ce (fun q hq=>?_)) rfl ?c1 ⟨mA,mP,mL,mT,mQ,mq,rows,na,[],rfl,?c0,(fun _ h=>nomatch h)⟩ ?turn ?done ⟨_,_,_,rfl⟩
 ·exact wH 11 hq (fun p hp=> .tail _ (ay _ (cz [1,2,3,4,5,6,7,8,9,10,11] rfl p hp))) fun p hp=>(aB hp).elim (fun e=>e▸ .head _) fun h=> .tail _ ((aE (show p∈dg++rest from h)).elim (fun h=>aL _ h) fun h=>ay _ (List.mem_of_mem_drop (i:=12) h))
 case c0=>
  rw [List.take_zero,List.map_nil,List.append_nil,List.nil_append];exact hR.mono fun p hp=>ay _ hp
 case c1=>
  intros i m' led s₁ aj;refine ef aj fun aZ bU dK pH Lb LJ LS=>?_;clear aj aZ bU dK pH Lb LJ;refine aW LS fun Ml P2 tl Me=>?_;clear LS;refine aI Me fun Pr ZJ Zp=>?_;clear Me ZJ Zp;subst Pr;intro ez cw;exact bo cw (by k_mem)
 case turn=>
  intros i v m' led I o s₁ hv aj;refine ef aj fun VR W9 WT V_ Wi XJ aZ=>?_;clear aj;refine aW aZ fun Ml P2 tl bU=>?_;clear aZ;refine aI bU fun dK SK offI=>?_;clear bU;subst dK;intros ez cw pR fF
  have hi:i<sB.length:=by rw [<-Nm];exact (List.getElem?_eq_some_iff.mp hv).1
  generalize hu:sB[i]=u at *
  have eo:sB[i]?=some u:=by rw [List.getElem?_eq_getElem hi,hu]
  have Vb:u∈ws:=J_.mem_iff.mp (List.mem_of_getElem? eo);refine aW (Ya.2 i (aS u) (by rw [List.getElem?_map,eo];rfl)) fun a' t' v' aj=>?_;refine aI aj fun e1 e2 e3=>?_;clear aj;rw [hv] at e1
  cases e1
  refine am (LU _ e3) fun SW e4=>?_;dsimp only at e4;subst e4;refine dU (O3 u Vb) fun q u1 u2 u3 aj=>?_;refine ak aj fun k1 k2=>?_;clear aj;have Nk:=(m_ u Vb).one;have OX:=(m_ u Vb).len
  have cF:News g L s₁.heap ((a',aO [.str (aS u) t', .str (ofString "") SW])::(q,aO [.str (aH u++ofString ":k") u1, .str (ofString "k") u2, .str u u3])::(I,o)::(W,instObj 150 d)::(d,dictOf (ci w.params x n.seen n.done) n.n)::(x.nss,listOf nv n2)::(x.pres,listOf (pi++[pv]).toArray n4)::(x.write,bT pc)::(pc,listOf its n5)::(D,odo)::(Dd,oDo)::(al,listOf (List.toArray Ml) P2)::(L+1,KA)::(qe,aO [.str (ofString "e") t1, .str (ofString "e") t2, .str (ofString "") t3])::(eL,listOf out.toArray jP)::(tl++(dg++rest))):=by
   exact bf cw (by exact aQ ⟨bI 13 rfl (ay _ (aL _ e2)),aQ ⟨bI 13 rfl (ay _ (ay _ k2)),cv [0,1,2,3,4,5,6,7,8,9,10,11,12] 13 rfl rfl⟩⟩)
  have O8:(a',aO [.str (aS u) t', .str (ofString "") SW])∈dg++rest:=aL _ e2;have YI:(q,aO [.str (aH u++ofString ":k") u1, .str (ofString "k") u2, .str u u3])∈dg++rest:=ay _ k2;have nA: @Ne Nat a' al:=fun e=>Lf _ O8 (by rw [show (a',aO [.str (aS u) t', .str (ofString "") SW]).1=al from e];simp);have nB: @Ne Nat q al:=fun e=>Lf _ YI (by rw [show (q,aO [.str (aH u++ofString ":k") u1, .str (ofString "k") u2, .str u u3]).1=al from e];simp);have nI: @Ne Nat al I:=pR (al,_) (by k_mem);have nD: @Ne Nat al eL:=Nat.ne_of_lt (uF al (by simp))
  have nT:∀z∈tl++(dg++rest), @Ne Nat z.1 al:=fun z hz e=>by
   refine Or.elim (aE hz) (fun hz=>?_) fun hz=>?_
   ·exact offI z hz (by rw [e];simp)
   ·exact Lf z hz (by rw [e];simp)
  have Qg:=SK.1;rw [List.length_append,List.length_map,List.length_take] at Qg;have QC:=J_.length_eq
  have hz5:(List.toArray Ml).size<=sizeLine:=by rw [List.size_toArray,sizeLine_eq];lia
  clear cw e2 k2 O8 YI;k_steps;rename_i Dn UE l1 U9 F5 N5;simp only [List.push_toArray] at N5
  have o1:∀z∈([W,d,x.nss,x.pres,x.write,pc,D,Dd,al,L+1,qe,eL]:List Nat),z≠Dn:=by
   refine cu ?_;dsimp only [FC]
   refine ⟨?_,?_,?_,?_,?_,?_,?_,?_,?_,?_,?_,?_,trivial⟩<;>k_ne
  have oI: @Ne Nat Dn I:=by k_ne
  refine LoopEnd.intro (news':=(W,instObj 150 d)::(d,dictOf (ci w.params x n.seen n.done) n.n)::(x.nss,listOf nv n2)::(x.pres,listOf (pi++[pv]).toArray n4)::(x.write,bT pc)::(pc,listOf its n5)::(D,odo)::(Dd,oDo)::(al,listOf (List.toArray (Ml++[.ref Dn])) (P2+1))::(L+1,KA)::(qe,aO [.str (ofString "e") t1, .str (ofString "e") t2, .str (ofString "") t3])::(eL,listOf out.toArray jP)::(((Dn,aO [.str (aH u++ofString ":k") u1, .str (ofString "") SW])::tl)++(dg++rest))) F5 (bf N5 ?led) ?offI (by walk_at "same") ?inv
  case led=>exact cv [3,4,5,6,7,8,9,10,11,12,13,14,15,0] 16 rfl rfl
  case offI=>
   have h1:=pR
   (try dsimp only [List.cons_append] at h1);replace h1:=cj h1;dsimp only [FC] at h1;(try dsimp only [List.cons_append]);refine cu ?_;dsimp only [FC]
   refine ma h1 fun g1 g2 g3 g4 g5 g6 g7 g8 g9 RC Rw g12 g13=>?_;clear h1;exact ⟨g1,g2,g3,g4,g5,g6,g7,g8,g9,RC,Rw,g12,oI,g13⟩
  case inv=>
   refine ⟨VR,W9,WT,V_,Wi,XJ,Ml++[.ref Dn],P2+1,(Dn,aO [.str (aH u++ofString ":k") u1, .str (ofString "") SW])::tl,rfl,?_,?_⟩
   ·rw [List.take_add_one,eo,Option.toList_some,List.map_append,List.map_cons,List.map_nil,<-List.append_assoc nvs]
    exact (SK.mono fun p hp=> .tail _ hp).snoc (nv:=cm u) (.head _)
   ·intro r hr
    rcases aB hr with rfl|hr
    ·exact fun h=>o1 _ h rfl
    ·exact offI r hr
 case done=>
  intros m' led s₁ aj;refine ef aj fun VR W9 WT V_ Wi XJ aZ=>?_;clear aj;refine aW aZ fun Ml P2 tl bU=>?_;clear aZ;refine aI bU fun dK SK offI=>?_;clear bU;subst dK;intros ez cw fF;refine wpAny_execs_nil (wpAny_execs_nil ?_);rw [Nm,List.take_length] at SK
  have cF:News g L s₁.heap ((W,instObj 150 d)::(d,dictOf (ci w.params x n.seen n.done) n.n)::(x.nss,listOf nv n2)::(x.pres,listOf (pi++[pv]).toArray n4)::(x.write,bT pc)::(pc,listOf its n5)::(D,odo)::(Dd,oDo)::(al,listOf (List.toArray Ml) P2)::(L+1,KA)::(qe,aO [.str (ofString "e") t1, .str (ofString "e") t2, .str (ofString "") t3])::(tl++(dg++rest))):=bf cw (fun z hz=>by
   exact cv [0,1,2,3,4,5,6,7,8,9,10] 12 rfl rfl _ hz)
  have QC:=J_.length_eq;refine LX B X T KM Nc ez cF VR W9 WT V_ Wi O7 KF Mm PX OB t_ SK ?_ ?_ ?_ G_ Oh Lq ?_ ?_ ?_
  ·intro e
   have h1:=congrArg List.length e;rw [List.length_append,List.length_map,List.length_nil] at h1;have h2:=hwl.1;lia
  ·rw [List.length_append,List.length_map];lia
  ·intro z hz
   refine Or.elim (aE hz) (fun hz=>?_) fun hz=>?_
   ·exact OS z hz
   ·refine am (aP hz) fun u aj=>?_;refine ak aj fun hu aZ=>?_;clear aj;subst aZ
    have hw:=m_ u (J_.mem_iff.mp hu);refine ⟨fun c hc=>(nomatch hc),?_,Nat.zero_le _⟩;have:=(gy u hw).2;show (aH u++ofString ":k").length<=2000;rw [Str.length_append];have h2:(ofString ":k").length=2:=rfl;lia
  ·refine ip ?_;dsimp only [ND,NI]
   exact ⟨⟨a1,a2,a3,a4,a5,a6,a7,a8,a9,aX⟩,⟨b2,b3,b4,b5,b6,b7,b8,b9,bX⟩,⟨c3,c4,c5,c6,c7,c8,c9,cX⟩,⟨d4,d5,d6,d7,d8,d9,dX⟩,⟨e5,e6,e7,e8,e9,eX⟩,⟨f6,f7,f8,f9,fX⟩,⟨g7,g8,g9,gX⟩,⟨h8,h9,hX⟩,⟨i9,iX⟩,jX,trivial,trivial⟩
  ·intro r hr
   refine Or.elim (aE hr) (fun hr=>?_) fun hr=>?_
   ·exact fun h=>offI r hr (by exact cz [1,2,3,5] rfl _ h)
   ·exact fun h=>Lf r hr (by exact cz [0,1,2,3] rfl _ h)
  ·intros q n' eM j_ k_ ta tb tc Rj s' F' N' Nv Mp S'
   refine hQ q n' eM j_ k_ ta tb tc Rj s' F' (bf N' (mY [0,1,2,3,4,5,6,7,8,10,11] rfl rfl fun _ hp=>bI 12 rfl (ay _ (ay _ hp)))) (fun z hz=>Nv z (by exact cz [0,1,2,3,4,5,6,7,9,10] rfl z hz)) (fun r hr=>Mp r (ay _ (ay _ hr))) (SameF.trans (SameF.trans SameF.refl fF) S')
noncomputable def bN (u:Str):Str×Str:=(ofString "xmlns:"++aH u,u)
theorem J8:True:=by
 (k_with "call builtin:list.sort"=>((k_here;refine Stop.out ?_)))
 (k_with "execs cons"=>((k_here;(with_reducible show wpAny _ _ (execs (Stmt.If (Expr.Name (ofString "attrs") _) _ _ _::_) _) _ _ _);refine Stop.out ?_)))
 trivial
theorem xX {led:ax} {ys out:List Value} {new sP:List Str} (hR:TextRows led ys (new.map bN)) (Ms:∀a∈new,∀b∈new,aH a=aH b->a=b) (D_:sP.Perm new)
  (h:iG ys (fun i=>(bN (new.getD i Str.empty)).1) (sP.map fun u=>(bN u).1) out):TextRows led out (sP.map bN):=by
 refine am h fun p aj=>?_;clear h;refine aI aj fun hp aZ hT=>?_;clear aj;subst aZ
 have ba:p.length=sP.length:=by simpa using congrArg List.length hT
 have lG:ys.length=new.length:=by rw [hR.1,List.length_map]
 refine ⟨by rw [List.length_map,List.length_map,ba],fun i nv hi=>?_⟩;rw [List.getElem?_map] at hi
 cases hu:sP[i]? with
 |none=>rw [hu] at hi;cases hi
 |some u=>
  rw [hu] at hi;have hi:bN u=nv:=Option.some.inj hi;subst hi
  have Pb:i<p.length:=by rw [ba];exact (List.getElem?_eq_some_iff.mp hu).1
  have hj:p[i] < ys.length:=List.mem_range.mp (hp.mem_iff.mp (List.getElem_mem Pb))
  have Qv:p[i] < new.length:=by exact q3 hj lG
  have h1:=congrArg (fun l=>l[i]?) hT;simp only [List.getElem?_map,List.getElem?_eq_getElem Pb,hu,Option.map_some,Option.some.injEq] at h1
  have h2:new.getD p[i] Str.empty=new[p[i]]:=by simp [Qv]
  rw [h2] at h1
  have h3:aH new[p[i]]=aH u:=by
   have h4:ofString "xmlns:"++aH new[p[i]]=ofString "xmlns:"++aH u:=h1;have h5:=congrArg cl h4;rw [bF,bF] at h5;exact ed (List.append_cancel_left h5)
  have h6:=Ms _ (List.getElem_mem Qv) u (D_.mem_iff.mp (List.mem_of_getElem? hu)) h3;refine aW (hR.2 p[i] _ (by rw [List.getElem?_map,List.getElem?_eq_getElem Qv];rfl)) fun a t1 t2 aj=>?_;refine ak aj fun e1 e2=>?_;clear aj;rw [h6] at e2;refine ⟨a,t1,t2,?_,e2⟩;rw [List.getElem?_map,List.getElem?_eq_getElem Pb];show some (ys.getD p[i] Value.none)=_;rw [List.getD_eq_getElem?_getD,e1];rfl
noncomputable def jT (w:World) (p:Program) (a_:List Str) (bz:ExcName->Option Value) (mg mb:Str->Option Value) (dp un:Nat) (gd:Option (List Code)) (cn:Str) (cs:Scope) (La a:Addr) (fM:Value) (cl:List (Str×Addr)) (c_:List Env) (fR g:Heap) (L:Addr) (m:Str->Option Value) (s:Shared) (Q:Flow->Shared->Prop) (E:Value->Shared->Prop) (W d pc D Dd nn:Addr) (n:WN) (n2 n4 n5 n6:Nat) (x:WS) (nv its items:Array Value) (pi:List Value) (pv:Value) (odo oDo KA:Obj) (kvs kvs':List (Str×Value)) (new sP:List Str) (rest:ax) (qe:Addr) (te t1 t2 t3:Tok) (ws sB:List Str) (_:Nat):Prop:=∀⦃oc:Value⦄ ⦃an:Option Addr⦄ ⦃name qual:Str⦄ ⦃params:Arguments⦄ ⦃body:List Stmt⦄ ⦃scope:Scope⦄ ⦃dV kV gF pm cA ct:Value⦄ ⦃l_:Array (Option Value)⦄ ⦃z_:Option Addr⦄ (ho:(hd.heap_39 w.params).lookup 126=some ⟨oc,z_, .func (fnOf name qual params body scope dV kV gF pm an cA ct),l_⟩) (B:Below (ktrTop dp un gd cn cs La a fM cl c_) fR (envX cn cs La a fM cl::c_) g) (X:(hd.heap_39 w.params).In g) (T:Top p a_ bz mg mb g) (KM:dp+6<recursionLimit) (Nc:un+500<cLine) (F:Fr g L s.heap m) (N:News g L s.heap ((W,instObj 150 d)::(d,dictOf (ci w.params x n.seen n.done) n.n)::(x.nss,listOf nv n2)::(x.pres,listOf (pi++[pv]).toArray n4)::(x.write,bT pc)::(pc,listOf its n5)::(D,odo)::(Dd,oDo)::(nn,listOf items n6)::(L+1,KA)::(qe,aO [.str (ofString "e") t1, .str (ofString "e") t2, .str (ofString "") t3])::rest)) (mA:m (ofString "attrs")=some (.ref D)) (mP:m (ofString "parsed_qnames")=some (.ref Dd)) (mN:m (ofString "new_namespaces")=some (.ref nn)) (mT:m (ofString "tag")=some (.str (ofString "e") te)) (mQ:m (ofString "qname_text")=some .none) (mq:m (ofString "qattrs")=some .none) (O7:KA.data=Data.cell (some (.ref W))) (KF:odo.IsDictOf (PySem.strKind rw_ty0067_01.row.prog w) kvs) (Mm:oDo.IsDictOf (PySem.strKind rw_ty0067_01.row.prog w) kvs') (PX:valueAt kvs (ofString "{http://www.w3.org/XML/1998/namespace}space")=none) (OB:valueAt kvs' (ofString "e")=some (.ref qe)) (t_:(D == sysModules)=false) (p_:kvs.map (·.1)=ws.map aS) (LU:∀kv∈kvs,∃t,kv.2= .str (ofString "") t) (J_:sB.Perm ws) (B_:(sB.map aS).Pairwise be) (hwl:1<=ws.length/\ws.length<=40) (m_:∀u∈ws,WordOk u) (O3:∀u∈ws,∃q t1 t2 t3,valueAt kvs' (aS u)=some (.ref q)/\(q,aO [.str (aH u++ofString ":k") t1, .str (ofString "k") t2, .str u t3])∈rest) (hI:ItemsFor rest items new) (Le:new.length<=40) (Ti:∀u∈new,WordOk u) (D_:sP.Perm new) (KG:(sP.map fun u=>(bN u).1).Pairwise be) (Ms:∀a∈new,∀b∈new,aH a=aH b->a=b) (G_:its.size<=1000) (Oh:nv.size<=1000) (Lq:pi.length<=1000) (nd:([W,d,x.nss,x.pres,x.write,pc,D,Dd,nn,L+1,qe]:List Nat).Nodup) (off:∀r∈rest,r.1∉([d,x.nss,x.pres,pc]:List Nat)) (hQ:∀q n' eM j_ k_ ta tb tc m' (s':Shared),Fr g L s'.heap m'->News g L s'.heap ((W,instObj 150 d)::(d,dictOf (ci w.params x true n.done) n')::(x.nss,listOf (nv.push (.ref q)) eM)::(x.pres,listOf ((pi++[pv]).toArray.push pv) j_)::(x.write,bT pc)::(pc,listOf (((its.push (.str (ofString "<"++ofString "e") ta)).push (.str (Txt.join (ofString "") ((sP.map bN++sB.map cm).map bD)) tb)).push (.str (ofString ">") tc)) k_)::(q,listOf #[] 0)::(D,odo)::(Dd,oDo)::(nn,listOf items n6)::(L+1,KA)::(qe,aO [.str (ofString "e") t1, .str (ofString "e") t2, .str (ofString "") t3])::rest)->(∀z∈([W,d,x.nss,x.pres,x.write,pc,D,Dd,nn,L+1,qe]:List Nat),z≠q)->(∀r∈rest, @Ne Nat r.1 q)->aM s s'->Q .next s'),
 wpAny (model rw_ty0067_01.row.prog w) ((ktrTop dp un gd cn cs La a fM cl c_).deeper (envOfC qual scope L 126 cA)) (execs (body.drop 7) (envOfC qual scope L 126 cA)) Q E s
noncomputable def uX:=bA (iB jT) ((bw,default,[],fun _=>none,fun _=>none,fun _=>none,0,0),(none,⟨#[]⟩,default,0,0, .none,[],[]),({},{},0,fun _=>none,{},fun _ _=>True,fun _ _=>True,0),(0,0,0,0,0,⟨0,false,false⟩,0,0),(0,0,⟨0,0,0,0,0,0,fun _=>0⟩,#[],#[],#[],[], .none),(default,default,default,[],[],[],[],[]),(0,0,0,0,0,[],[],0))
theorem wE:∀{w p a_ bz mg mb dp un gd cn cs La a fM cl c_ fR g L m s Q E W d pc D Dd nn n n2 n4 n5 n6 x nv its items pi pv odo oDo KA kvs kvs' new sP rest qe te t1 t2 t3 ws sB},jT w p a_ bz mg mb dp un gd cn cs La a fM cl c_ fR g L m s Q E W d pc D Dd nn n n2 n4 n5 n6 x nv its items pi pv odo oDo KA kvs kvs' new sP rest qe te t1 t2 t3 ws sB 0:=by
 intros;apply ov jT (c:=uX) rfl;apply (?zg:lY jT);intros w p a_ bz mg mb dp un gd cn cs La a fM cl c_ fR g L m s Q E W d pc D Dd nn n n2 n4 n5 n6 x nv its items pi pv odo oDo KA kvs kvs' new sP rest qe te t1 t2 t3 ws sB _;intros oc an name qual params body scope dV kV gF pm cA ct l_ z_ ho B X T KM Nc F N mA mP mN mT mQ mq O7 KF Mm PX OB t_ p_ LU J_ B_ hwl m_ O3 hI Le Ti D_ KG Ms G_ Oh Lq nd off hQ;have LX:=fun {m s Q E W d pc D Dd al n n2 n4 n5 na x nv its pi rows pv odo oDo KA kvs kvs' nvs rest qe te t1 t2 t3 ws sB}=> @wD w p a_ bz mg mb dp un gd cn cs La a fM cl c_ fR g L m s Q E W d pc D Dd al n n2 n4 n5 na x nv its pi rows pv odo oDo KA kvs kvs' nvs rest qe te t1 t2 t3 ws sB oc an name qual params body scope dV kV gF pm cA ct l_ z_ ho;revert qual body scope cA;k_fill;refine' no_implicit_lambda% (dd (K:=hd.heap_39 w.params) (f:=126) ?h1 ?main)
 case h1=>k_is
 intro LX;have PR:=nd;replace nd:=fw nd;dsimp only [ND,NI] at nd;refine gT nd fun aj aZ bU dK pH Lb LJ LS Me jX Pr=>?_;clear nd Pr;refine eF aj fun a1 a2 a3 a4 a5 a6 a7 a8 a9 aX=>?_;clear aj;refine fb aZ fun b2 b3 b4 b5 b6 b7 b8 b9 bX=>?_;clear aZ;refine fe bU fun c3 c4 c5 c6 c7 c8 c9 cX=>?_;clear bU;refine ef dK fun d4 d5 d6 d7 d8 d9 dX=>?_;clear dK;refine dI pH fun e5 e6 e7 e8 e9 eX=>?_;clear pH;refine bv Lb fun f6 f7 f8 f9 fX=>?_;clear Lb;refine bO LJ fun g7 g8 g9 gX=>?_;clear LJ;refine aI LS fun h8 h9 hX=>?_;clear LS;refine ak Me fun i9 iX=>?_;clear Me;dsimp only [List.drop] at LX ⊢
 have hiz:items.size<=1000000:=by rw [hI.1];exact zy Le
 k_steps
 ·rename_i Qw ZX al UE l1 U9 F1 N1
  refine ⟨?_⟩;have dR:new=[]:=List.eq_nil_of_length_eq_zero (by rw [<-hI.1];simpa using Qw)
  have hsn:sP=[]:=by rw [dR] at D_;exact List.perm_nil.mp D_
  subst hsn
  have o1:∀z∈([W,d,x.nss,x.pres,x.write,pc,D,Dd,nn,L+1,qe]:List Nat),z<al:=by
   refine cu ?_;dsimp only [FC];refine fD l1 fun g1 g2 g3 g4 g5 g6 g7 g8 g9 RC Rw aj=>?_;clear l1 aj;exact ⟨g1,g2,g3,g4,g5,g6,g7,g8,g9,RC,Rw,trivial⟩
  have o2:∀r∈rest, @Ne Nat r.1 al:=iE (by walk_at "conj");have KJ:TextRows ((nn,listOf items n6)::rest) [] []:=⟨rfl,fun i nv h=>by simp at h⟩;have N2:News g L U9 ((W,instObj 150 d)::(d,dictOf (ci w.params x n.seen n.done) n.n)::(x.nss,listOf nv n2)::(x.pres,listOf (pi++[pv]).toArray n4)::(x.write,bT pc)::(pc,listOf its n5)::(D,odo)::(Dd,oDo)::(al,listOf (List.toArray []) 0)::(L+1,KA)::(qe,aO [.str (ofString "e") t1, .str (ofString "e") t2, .str (ofString "") t3])::((nn,listOf items n6)::rest)):=bf N1 (by exact cv [1,2,3,4,5,6,7,8,0,10,11,9] 12 rfl rfl);refine LX B X T KM Nc F1 N2 mA mP rfl mT mQ mq O7 KF Mm PX OB t_ p_ LU J_ B_ hwl m_ (fun u hu=>?_) KJ (Nat.zero_le _) (fun _ h=>nomatch h) G_ Oh Lq ?_ ?_ ?_
  ·refine dU (O3 u hu) fun q u1 u2 u3 aj=>?_;refine ak aj fun k1 k2=>?_;clear aj
   exact ⟨q,u1,u2,u3,k1, .tail _ k2⟩
  ·refine ip ?_;dsimp only [ND,NI]
   replace o1:=cj o1;dsimp only [FC] at o1;refine fD o1 fun v1 v2 v3 v4 v5 v6 v7 v8 v9 Nh MW aj=>?_;clear o1 aj;exact ⟨⟨a1,a2,a3,a4,a5,a6,a7,Nat.ne_of_lt v1,a9,aX⟩,⟨b2,b3,b4,b5,b6,b7,Nat.ne_of_lt v2,b9,bX⟩,⟨c3,c4,c5,c6,c7,Nat.ne_of_lt v3,c9,cX⟩,⟨d4,d5,d6,d7,Nat.ne_of_lt v4,d9,dX⟩,⟨e5,e6,e7,Nat.ne_of_lt v5,e9,eX⟩,⟨f6,f7,Nat.ne_of_lt v6,f9,fX⟩,⟨g7,Nat.ne_of_lt v7,g9,gX⟩,⟨Nat.ne_of_lt v8,h9,hX⟩,⟨Nat.ne_of_gt Nh,Nat.ne_of_gt MW⟩,jX,trivial,trivial⟩
  ·intro r hr
   rcases aB hr with rfl|hr
   ·replace o1:=cj o1;dsimp only [FC] at o1
    refine bZ ?_;dsimp only [NI];exact ⟨Ne.symm b8,Ne.symm c8,Ne.symm d8,Ne.symm f8,Nat.ne_of_lt o1.2.2.2.2.2.2.2.2.1⟩
   ·have:=off r hr
    have h2:=o2 r hr;replace this:=dh this;dsimp only [NI] at this;refine bZ ?_;dsimp only [NI];exact ⟨this.1,this.2.1,this.2.2.1,this.2.2.2,h2⟩
  ·intros q n' eM j_ k_ ta tb tc Rj s' F' N' Nv Mp S'
   refine hQ q n' eM j_ k_ ta tb tc Rj s' F' (bf N' (by exact cv [0,1,2,3,4,5,6,7,8,11,9,10] 12 rfl rfl)) (fun z hz=>?_) (fun r hr=>Mp r (.tail _ hr)) (SameF.trans SameF.refl S');have hn:=Mp _ (.head _);exact (aB (show z∈nn::[W,d,x.nss,x.pres,x.write,pc,D,Dd,L+1,qe] from cz [1,2,3,4,5,6,7,8,0,9,10] rfl z hz)).elim (fun e=>by rw [e];exact hn) (Nv z)
 ·rename_i Qw
  refine ⟨?_⟩;generalize o_:(_::_:ax)=LY at N;have Qq:items.size=new.length:=hI.1;refine ph (l:=nn) (vs:=items.toList) (fun i ys led=>ys.length=i/\∃tl,led=tl++LY/\(∀r∈tl,r.2.cls= .type "tuple"/\∀z∈LY, @Ne Nat z.1 r.1)/\TextRows tl ys ((new.take i).map bN)) (fun i va vb=>∃u t1 t2,new[i]?=some u/\va= .str u t1/\vb= .str (aH u) t2) F N rfl ?c1 (by rw [Array.length_toList];exact nR Qq Le) ⟨rfl,[],rfl,(fun _ h=>nomatch h),rfl,fun i nv h=>by simp at h⟩ (fun i ys led h=>Nat.le_of_eq h.1) (by decide) rfl (by decide) (by rfl) (by rfl) ?c2 ?c3 ?c4
  case c1=>
   intros i ys led s₁ aj;refine ak aj fun _ aZ=>?_;clear aj;refine am aZ fun tl bU=>?_;clear aZ;refine aI bU fun dK _ _=>?_;clear bU;subst dK;intro F2 N2;exact bo N2 (ay _ (by subst o_;k_mem))
  case c2=>
   intros i v ys led s₁ hv aj;refine ak aj fun _ aZ=>?_;clear aj;refine am aZ fun tl bU=>?_;clear aZ;refine aI bU fun dK _ _=>?_;clear bU;subst dK;intro F2 N2;refine am (List.getElem?_eq_some_iff.mp hv) fun hi Lw=>?_;rw [Array.length_toList] at hi;refine aW (hI.2 i _ (List.getElem?_eq_getElem (q3 hi Qq))) fun a' u1 u2 aj=>?_;refine ak aj fun e1 e2=>?_;clear aj;rw [Array.getElem?_toList,e1] at hv
   cases hv
   have Nb:(a',aO [.str (new[i]'(q3 hi Qq)) u1, .str (aH (new[i]'(q3 hi Qq))) u2])∈LY:=by subst o_;simp only [List.mem_cons,e2,or_true]
   exact ⟨a',_,_,rfl,⟨_,N2.get (ay _ Nb),rfl,_,rfl⟩,_,u1,u2,List.getElem?_eq_getElem (q3 hi Qq),rfl,rfl⟩
  case c3=>
   intros i va vb I oI C oC D' ys bj led s₁ hi aj;refine aW aj fun u u1 u2 aZ=>?_;clear aj;refine aI aZ fun hu bU dK=>?_;clear aZ;subst bU;subst dK;intro pH;refine ak pH fun lG Lb=>?_;clear pH;refine am Lb fun tl LJ=>?_;clear Lb;refine aI LJ fun LS htl f_=>?_;clear LJ;subst LS;intros hC Ub Ur F2 N2 er Lo S2;have No:=gy u (Ti u (List.mem_of_getElem? hu));refine ak No fun OY Ux=>?_;clear No;clear o_;generalize Nt:tl++LY=rr at N2 er;k_steps;rename_i Dn UE F5 N5 l5;subst Nt;have o2:=iE l5.2.2.2;refine bO l5 fun l6 l7 l8 aj=>?_;clear l5 aj;refine ⟨((Dn,aO [.str (ofString "xmlns:"++aH u) _, .str u u1])::tl)++LY,F5,bf N5 (by exact cv [1,2,3,0] 4 rfl rfl),?_,⟨by rw [List.length_append,lG];rfl,_,rfl,?_,?_⟩,SameF.trans S2 SameF.refl⟩
   ·intro z hz
    rcases aB hz with rfl|hz
    ·exact ⟨Ne.symm (Nat.ne_of_lt l6),Ne.symm (Nat.ne_of_lt l7),Ne.symm (Nat.ne_of_lt l8)⟩
    ·exact er z hz
   ·intro r hr
    rcases aB hr with rfl|hr
    ·exact ⟨rfl,fun z hz=>o2 z (ay _ hz)⟩
    ·exact htl r hr
   ·rw [List.take_add_one,hu,Option.toList_some,List.map_append,List.map_cons,List.map_nil]
    exact (f_.mono fun p hp=> .tail _ hp).snoc (nv:=bN u) (.head _)
  case c4=>
   refine iV (n:=items.toList.length) (Inv:=fun i ys led=>ys.length=i/\∃tl,led=tl++LY/\(∀r∈tl,r.2.cls= .type "tuple"/\∀z∈LY, @Ne Nat z.1 r.1)/\TextRows tl ys ((new.take i).map bN)) rfl rfl rfl ?_;intros D' ys led s₁ aj;refine ak aj fun lG aZ=>?_;clear aj;refine am aZ fun tl bU=>?_;clear aZ;refine aI bU fun dK htl f_=>?_;clear bU;subst dK;intros F2 N2 er S2;rw [Array.length_toList,hI.1,List.take_length] at f_;subst o_;k_steps;refine ⟨?_⟩
   have Np:ys.length=new.length:=by rw [f_.1,List.length_map]
   refine sL (vs:=ys) (f:=fun i=>(bN (new.getD i Str.empty)).1) (T:=sP.map fun u=>(bN u).1) F2 N2 (UpdF.head er) (lc Np Le) (fun i hi=>?_) (fun o a b Ll hb=>?_) ?_ KG fun out c h2 QB F3 N3 hS=>?_
   ·have H_:i<new.length:=by exact q3 hi Np
    refine aW (f_.2 i _ (by rw [List.getElem?_map,List.getElem?_eq_getElem H_];rfl)) fun a' u1 u2 aj=>?_;refine ak aj fun e1 e2=>?_;clear aj;exact ⟨a',_,_,_,u1,by rw [List.getD_eq_getElem?_getD,e1];rfl, .tail _ (aL _ e2),rfl,rfl,by simp [H_]⟩
   ·refine Or.elim (aB Ll) (fun e=>?_) fun Ll=>?_
    ·cases e;exact absurd (show Value.type "list"=Value.type "tuple" from hb) (by decide)
    ·exact .tail _ Ll
   ·rw [Np]
    refine (D_.map _).trans (List.Perm.of_eq ?_);apply List.ext_getElem (by simp);intros i h1 h2;simp at h1;simp [h1]
   ·have Ui:=xX f_ Ms D_ hS
    k_steps;refine ⟨?_⟩
    have o1:∀z∈([W,d,x.nss,x.pres,x.write,pc,D,Dd,nn,L+1,qe]:List Nat),z≠D':=by
     have h1:=fun r hr=>er r (ay _ hr);replace h1:=cj h1;dsimp only [FC] at h1;refine cu ?_;dsimp only [FC];refine fD h1 fun v1 v2 v3 v4 v5 v6 v7 v8 v9 Nh MW aj=>?_;clear h1 aj;exact ⟨v1,v2,v3,v4,v5,v6,v7,v8,v9,Nh,MW,trivial⟩
    have o2:∀r∈rest, @Ne Nat r.1 D':=fun r hr=>er r (ay _ (by exact bI 11 rfl hr))
    have o3:∀r∈tl,r.1∉([d,x.nss,x.pres,pc]:List Nat):=fun r hr=>by
     have h1:=(htl r hr).2;replace h1:=cj h1;dsimp only [FC] at h1;refine fD h1 fun v1 v2 v3 v4 v5 v6 v7 v8 v9 Nh MW aj=>?_;clear h1 aj;refine bZ ?_;dsimp only [NI];exact ⟨Ne.symm v2,Ne.symm v3,Ne.symm v4,Ne.symm v6⟩
    have N4:News g L h2 ((W,instObj 150 d)::(d,dictOf (ci w.params x n.seen n.done) n.n)::(x.nss,listOf nv n2)::(x.pres,listOf (pi++[pv]).toArray n4)::(x.write,bT pc)::(pc,listOf its n5)::(D,odo)::(Dd,oDo)::(D',listOf (List.toArray out) c)::(L+1,KA)::(qe,aO [.str (ofString "e") t1, .str (ofString "e") t2, .str (ofString "") t3])::((nn,listOf items n6)::(tl++rest))):=bf N3 (fun z hz=>by exact (aQ ⟨bI 1 rfl (ay _ (bJ 0 rfl)),aQ ⟨bI 1 rfl (ay _ (bJ 1 rfl)),aQ ⟨bI 1 rfl (ay _ (bJ 2 rfl)),aQ ⟨bI 1 rfl (ay _ (bJ 3 rfl)),aQ ⟨bI 1 rfl (ay _ (bJ 4 rfl)),aQ ⟨bI 1 rfl (ay _ (bJ 5 rfl)),aQ ⟨bI 1 rfl (ay _ (bJ 6 rfl)),aQ ⟨bI 1 rfl (ay _ (bJ 7 rfl)),aQ ⟨bJ 0 rfl,aQ ⟨bI 1 rfl (ay _ (bJ 9 rfl)),aQ ⟨bI 1 rfl (ay _ (bJ 10 rfl)),aQ ⟨bI 1 rfl (ay _ (bJ 8 rfl)),wO (fun _ h=>bI 1 rfl (aL _ h)) (fun _ h=>bI 1 rfl (ay _ (bI 11 rfl h)))⟩⟩⟩⟩⟩⟩⟩⟩⟩⟩⟩⟩) _ hz);refine LX B X T KM Nc F3 N4 mA mP rfl mT mQ mq O7 KF Mm PX OB t_ p_ LU J_ B_ hwl m_ (fun u hu=>?_) (Ui.mono fun p hp=> .tail _ (aL _ hp)) (by rw [List.length_map,D_.length_eq];exact Le) (fun z hz=>?_) G_ Oh Lq ?_ ?_ ?_
    ·refine dU (O3 u hu) fun q u1 u2 u3 aj=>?_;refine ak aj fun k1 k2=>?_;clear aj
     exact ⟨q,u1,u2,u3,k1, .tail _ (ay _ k2)⟩
    ·refine am (aP hz) fun u aj=>?_;refine ak aj fun hu aZ=>?_;clear aj;subst aZ
     have hw:=Ti u (D_.mem_iff.mp hu);refine ⟨hw.safe,?_,by have:=hw.len;show u.length<=2000;exact zx this⟩;have:=(gy u hw).2;show (ofString "xmlns:"++aH u).length<=2000;rw [Str.length_append];have h2:(ofString "xmlns:").length=6:=rfl;exact zw h2 this
    ·refine ip ?_;dsimp only [ND,NI]
     replace o1:=cj o1;dsimp only [FC] at o1;refine fD o1 fun v1 v2 v3 v4 v5 v6 v7 v8 v9 Nh MW aj=>?_;clear o1 aj;exact ⟨⟨a1,a2,a3,a4,a5,a6,a7,v1,a9,aX⟩,⟨b2,b3,b4,b5,b6,b7,v2,b9,bX⟩,⟨c3,c4,c5,c6,c7,v3,c9,cX⟩,⟨d4,d5,d6,d7,v4,d9,dX⟩,⟨e5,e6,e7,v5,e9,eX⟩,⟨f6,f7,v6,f9,fX⟩,⟨g7,v7,g9,gX⟩,⟨v8,h9,hX⟩,⟨Ne.symm Nh,Ne.symm MW⟩,jX,trivial,trivial⟩
    ·intro r hr
     rcases aB hr with rfl|hr
     ·replace o1:=cj o1;dsimp only [FC] at o1
      refine bZ ?_;dsimp only [NI];exact ⟨Ne.symm b8,Ne.symm c8,Ne.symm d8,Ne.symm f8,o1.2.2.2.2.2.2.2.2.1⟩
     ·have h2: @Ne Nat r.1 D':=by
       refine Or.elim (aE hr) (fun hr=>?_) fun hr=>?_
       ·exact er r (aL _ hr)
       ·exact o2 r hr
      have this:r.1∉([d,x.nss,x.pres,pc]:List Nat):=by
       refine Or.elim (aE hr) (fun hr=>?_) fun hr=>?_
       ·exact o3 r hr
       ·exact off r hr
      replace this:=dh this;dsimp only [NI] at this;refine bZ ?_;dsimp only [NI];exact ⟨this.1,this.2.1,this.2.2.1,this.2.2.2,h2⟩
    ·intros q n' eM j_ k_ ta tb tc Rj s' F' N' Nv Mp S'
     refine hQ q n' eM j_ k_ ta tb tc Rj s' F' (bf N' (by exact mY [0,1,2,3,4,5,6,7,8,11,9,10] rfl rfl fun _ hp=>bI 12 rfl (ay _ hp))) (fun z hz=>?_) (fun r hr=>Mp r (.tail _ (ay _ hr))) (SameF.trans (SameF.trans SameF.refl S2) S');have hn:=Mp _ (.head _);exact (aB (show z∈nn::[W,d,x.nss,x.pres,x.write,pc,D,Dd,L+1,qe] from cz [1,2,3,4,5,6,7,8,0,9,10] rfl z hz)).elim (fun e=>by rw [e];exact hn) (Nv z)
theorem J7:True:=by
 (k_with "call ref"=>((k_here;(with_reducible show wpAny _ _ (call (Value.ref 90) _ _) _ _ _);refine Stop.out ?_)))
 (k_with "eval Lambda"=>((k_here;refine Stop.out ?_)))
 (k_with "eval Set"=>((k_here;refine Stop.out ?_)))
 (k_with "call builtin:sorted"=>((k_here;refine Stop.out ?_)))
 (k_with "call builtin:list.sort"=>((k_here;refine Stop.out ?_)))
 trivial
theorem tY (w:Str):ofString "e"≠aS w:=fun e=>by
 have:=congrArg PySem.Str.length e;rw [fC] at this;have h:(ofString "e").length=1:=rfl;exact rc this h
theorem CodeHd.kept {h g:Heap} {as:List Addr} {c P:Addr} (x:CodeHd h c P) (k:Kept as h g) (hc:c∉as):CodeHd g c P:=
 fV x fun o vs Tv tf flags tg W7 text z=>z.elim fun tt y=>⟨o,vs,Tv,tf,flags,tg,W7,text,tt,k _ _ hc y.1,y.2⟩
noncomputable abbrev eT:Pos:={line:=139,col:=71,endLine:=139,endCol:=96}
noncomputable abbrev eS:Str:=ofString "C14NWriterTarget._start.<locals>.<lambda>"
theorem J6:True:=by
 (k_with "call builtin:str.split"=>((k_here;(with_reducible show wpAny _ _ (call (Value.builtin "str.split") [Value.str _ _,Value.str _ _,Value.int _ _]) _ _ _);(first|k_dflt (refine' Im (by k_asm) (by k_asm) (by assumption) ?_ (by assumption))|k_dflt (refine' Il (by k_asm) (by k_asm) (by assumption) ?_));intro _ _;intros;(try dsimp only))))
 trivial
theorem Gq {g h:Heap} {L f c:Addr} {o oc:Obj} {led r:ax} (N:News g L h (led++(f,o)::(c,oc)::r)):News g L h ((f,o)::(c,oc)::(led++(f,o)::(c,oc)::r)):=fun q hq=>by
 rcases aB hq with rfl|hq
 ·exact N _ (ay _ (.head _))
 ·rcases aB hq with rfl|hq
  ·exact N _ (ay _ (.tail _ (.head _)))
  ·exact N _ hq
local macro_rules | `(tactic| walk_at "call ref") => `(tactic| (k_here; kn_here; k_dflt (refine wpAny_call ?_; (refine' kla_code ?k1 ?k2 ?k3 ?k4 ?k5 ?kA ?kF ?kK ?k6 ?k7 ?k8 ?k9 ?kB ?_ ?c2 ?c3 ?c4 ?c5; (case kA => exact rfl); (case kF => exact rfl); (case kK => exact rfl); (case k1 => k_asm); (case k2 => k_asm); (case k3 => k_asm); (case k4 => k_asm); (case k5 => k_asm); (case k6 => k_mem); (case k7 => exact codeRec_news (by k_asm) (by k_mem) (by assumption) (by assumption)); (case k8 => ktr_room); (case k9 => exact rfl); (case c5 => decide); (case kB => exact locs rfl); (case c2 => exact rfl); (case c3 => exact rfl); (case c4 => exact rfl); k_whole; intros g' L' h' FG' F' N' B' X' T'; (try dsimp only); (try k_lift B'); (try k_fold)))))
theorem sW {g h:Heap} {L:Addr} {a b c:Addr×Obj} {r:ax} (N:News g L h (a::b::c::r)):News g L h (a::r):=fun q hq=>by
 rcases aB hq with rfl|hq
 ·exact N _ (.head _)
 ·exact N _ (.tail _ (.tail _ (.tail _ hq)))
theorem J5:True:=by
 (k_with "call ref"=>((k_here;(with_reducible show wpAny _ _ (call (Value.ref _) [Value.str (dE _) _]) _ _ _);refine Stop.out ?_)))
 trivial
noncomputable def eU (x:Str):Str:=if x=ofString "e" then x else ⟨x.cps.extract 0 (x.cps.size - 2)⟩
theorem js:eU (ofString "e")=ofString "e":=if_pos rfl
theorem gH (w:Str):eU (aS w)=ofString "{"++w:=by
 unfold eU;rw [if_neg (fun e=>tY w e.symm)];apply Str.ext';show (aS w).cps.extract 0 ((aS w).cps.size - 2)=#[123]++w.cps;rw [eD]
 have h:(#[123]++w.cps++#[125,107]).size - 2=(#[123]++w.cps).size:=by simp;exact At
 rw [h,Array.extract_append,Nat.zero_sub,Nat.sub_self,Array.extract_size];simp
theorem Gx {ys:List Str} {kvs:List (Str×Value)} {ws sK:List Str} (hp:ys.Perm (ofString "e"::kvs.map (·.1))) (p_:kvs.map (·.1)=ws.map aS) (hK:sK.Perm ws):(ofString "e"::sK.map (ofString "{"++·)).Perm (ys.map eU):=by
 refine List.Perm.trans ?_ (hp.map eU).symm;rw [p_,List.map_cons,js,List.map_map];refine List.Perm.cons _ ((hK.map _).trans (List.Perm.of_eq ?_));exact List.map_congr_left fun w _=>(gH w).symm
theorem Gw {ws:List Str} {a b:Str} (ha:a=ofString "e"\/∃u∈ws,a=aS u) (hb:b=ofString "e"\/∃u∈ws,b=aS u) (h:eU a=eU b):a=b:=by
 have key:∀u:Str,ofString "e"≠ofString "{"++u:=fun u e=>by
  have:=congrArg (fun q:Str=>q.cps[0]?) e
  have h2:(ofString "{"++u).cps[0]?=some 123:=by
   show (#[123]++u.cps)[0]?=_;rw [Array.getElem?_append_left (by simp)];rfl
  have h3:(ofString "e").cps[0]?=(ofString "{"++u).cps[0]?:=this;rw [h2] at h3;exact absurd h3 (by decide)
 rcases ha with rfl|⟨u,_,rfl⟩<;>rcases hb with rfl|⟨v,_,rfl⟩
 ·rfl
 ·rw [js,gH] at h;exact absurd h (key v)
 ·rw [js,gH] at h;exact absurd h.symm (key u)
 ·rw [gH,gH] at h
  rw [aS,aS,h]
theorem Fl {ys:List Str} {kvs:List (Str×Value)} {ws sK:List Str} {out:List Value} (hp:ys.Perm (ofString "e"::kvs.map (·.1))) (p_:kvs.map (·.1)=ws.map aS) (hK:sK.Perm ws) (ho:(out.map strOf).Perm ys)
  (hT:out.map (fun v=>eU (strOf v))=ofString "e"::sK.map (ofString "{"++·)):out.map strOf=ofString "e"::sK.map aS:=by
 have LC:∀a∈out.map strOf,a=ofString "e"\/∃u∈ws,a=aS u:=fun a ha=>by
  have:=hp.mem_iff.mp (ho.mem_iff.mp ha);rw [p_] at this;refine Or.elim (aB this) (fun h=>?_) fun h=>?_
  ·exact .inl h
  ·refine am (aP h) fun u aj=>?_;refine ak aj fun hu e=>?_
   exact .inr ⟨u,hu,e.symm⟩
 have P4:(out.map strOf).map eU=(ofString "e"::sK.map aS).map eU:=by
  rw [List.map_map,List.map_cons,js,List.map_map];exact hT.trans (congrArg _ (List.map_congr_left fun w _=>(gH w).symm))
 have hl:(out.map strOf).length=(ofString "e"::sK.map aS).length:=by simpa using congrArg List.length P4
 apply List.ext_getElem hl;intros i h1 h2;refine Gw (ws:=ws) (LC _ (List.getElem_mem _)) ?_ ?_
 ·have:=List.getElem_mem h2
  refine Or.elim (aB this) (fun h=>?_) fun h=>?_
  ·exact .inl h
  ·refine am (aP h) fun u aj=>?_;refine ak aj fun hu e=>?_
   exact .inr ⟨u,hK.mem_iff.mp hu,e.symm⟩
 ·have:=congrArg (fun l=>l[i]?) P4
  simp only [List.getElem?_map,List.getElem?_eq_getElem h1,List.getElem?_eq_getElem h2,Option.map_some,Option.some.injEq] at this;exact this
inductive Pick (x:Addr×Obj):ax->ax->Prop
 |head {r}:Pick x (x::r) r
 |tail {y r r'}:Pick x r r'->Pick x (y::r) (y::r')
theorem Pick.mem {x:Addr×Obj} {r r':ax} (h:Pick x r r'):x∈r/\∀p∈r',p∈r:=by
 induction h with
 |head=>exact ⟨.head _,fun p hp=> .tail _ hp⟩
 |tail _ ih=>exact ⟨.tail _ ih.1,fun p hp=>by
   rcases aB hp with rfl|hp
   ·exact .head _
   ·exact .tail _ (ih.2 p hp)⟩
theorem J3:True:=by
 (k_with "pick"=>(first|exact Pick.head|(refine' Pick.tail (by walk_at "pick"))))
 trivial
theorem EZ {P Q:Prop} (h:P) (k:P->Q):Q:=k h
theorem Gk {g h:Heap} {L:Addr} {x:Addr×Obj} {r fx:ax} (N:News g L h r) (hp:Pick x r fx):News g L h (x::(fx++[])):=fun q hq=>by
 rw [List.append_nil] at hq
 rcases aB hq with rfl|hq
 ·exact N _ hp.mem.1
 ·exact N _ (hp.mem.2 _ hq)
noncomputable abbrev cg (sK:List Str):List (Option Str):=none::sK.map some
theorem oM {ws sK:List Str} (hK:sK.Perm ws) (hn:ws.Nodup):(cg sK).Nodup:=by
 rw [List.nodup_cons];refine ⟨by simp,?_⟩;have:sK.Nodup:=hK.nodup_iff.mpr hn;rw [List.nodup_iff_pairwise_ne,List.pairwise_map];rw [List.nodup_iff_pairwise_ne] at this;exact this.imp fun h e=>h (Option.some.inj e)
theorem Fg (sK:List Str):(cg sK).map dE=ofString "e"::sK.map aS:=by simp [dE]
structure Told (us vs:List (Str×Str)) (ws:List Str):Prop where
 ulen:us.length<=900
 ne:∀u∈us,u.1≠ofString ""/\u.2≠ofString ""
 det:∀u∈us,∀w∈ws,u.1=w↔u.2=aH w
 told:∀w∈ws,∃v∈vs,v.1=w
 tdet:∀v∈vs,∀w∈ws,v.1=w->v.2=aH w
 pinj:∀v∈ws,∀w∈ws,aH v=aH w->v=w
theorem ly {h g:Heap} {as:List Addr} {vs:List Value} {us:List (Str×Str)} (x:PairsAt h vs us) (k:Kept as h g) (hc:∀a∈as,∀o,h.get? a=some o->∀vs,o≠aO vs):PairsAt g vs us:=
 ⟨x.1,fun i v u hv hu=>by
  refine aW (x.2 i v u hv hu) fun q t1 t2 aj=>?_;refine ak aj fun e ho=>?_
  exact ⟨q,t1,t2,e,k q _ (fun hq=>hc q hq _ ho _ rfl) ho⟩⟩
theorem sA {h₀ h:Heap} {L:Addr} {led:ax} (N:News h₀ L h led) (hc:∀p∈led,∀vs,p.2≠aO vs):∀a∈led.map (·.1),∀o,h.get? a=some o->∀vs,o≠aO vs:=by
 intros a ha o e;refine am (aP ha) fun p aj=>?_;refine ak aj fun hp aZ=>?_;subst aZ;have:=(N p hp).1;rw [e] at this;rw [Option.some.inj this];exact hc p hp
theorem dY {o:Obj} (h:o.cls≠ .type "tuple"):∀vs,o≠aO vs:=fun vs e=>h (by rw [e])
theorem sy {g h:Heap} {L:Addr} {a b c d:Addr×Obj} {r:ax} (N:News g L h (a::b::c::d::r)):News g L h (d::a::b::c::r):=fun q hq=>by
 rcases aB hq with rfl|hq
 ·exact N _ (.tail _ (.tail _ (.tail _ (.head _))))
 ·rcases aB hq with rfl|hq
  ·exact N _ (.head _)
  ·rcases aB hq with rfl|hq
   ·exact N _ (.tail _ (.head _))
   ·rcases aB hq with rfl|hq
    ·exact N _ (.tail _ (.tail _ (.head _)))
    ·exact N _ (.tail _ (.tail _ (.tail _ (.tail _ hq))))
theorem J2:True:=by
 (k_with "And"=>(((with_reducible show MethP _ _ _ _ _/\_);k_dflt (refine' ⟨methP (by k_asm) (by k_mem) (by k_in),?_⟩);try dsimp only [List.nil_append,List.cons_append])))
 trivial
theorem Old.of {h g:Heap} {as:List Addr} {nn nss:Addr} {init nrows:bk} {us vs:List (Str×Str)} {ws:List Str} (x:TwoStacks h nn #[] init us nss nrows vs) (y:Told us vs ws) (k:Kept as h g) (hi:∀r∈init,r.1∉as) (hr:∀r∈nrows,r.1∉as) (hc:∀a∈as,∀o,h.get? a=some o->∀vs,o≠aO vs):Old g nn init nrows us vs ws:=
 {row:=fun r h'=>(x.row r h').at fun o e=>k _ o (hi r h') e,nrow:=fun r h'=>(x.ns.row r h').at fun o e=>k _ o (hr r h') e,sz:=fun r hr=>x.sz r (aL _ hr),nsz:=x.ns.sz
  it:=by have:=ly x.it k hc;rw [kT] at this;exact this
  nit:=ly x.ns.it k hc,ulen:=y.ulen,ne:=y.ne,det:=y.det,told:=y.told,tdet:=y.tdet,pinj:=y.pinj}
theorem lC (old:List Str) (w:Str):fL old (some w)=if w∈old then [] else [w]:=rfl
theorem ue {K:Type} [DecidableEq K] {prog:Program} {w:World} {knd:PySem.KeyKind prog w K} {o:Obj} {kvs:List (K×Value)} (h:o.IsDictOf knd kvs):∃es ep,o.data= .dict es ep:=by refine bl h fun es ep aj=>?_;clear h;refine aI aj fun _ e _=>?_;exact ⟨es,ep,e⟩
theorem sE (old:List Str) (s_:List (Option Str)):(bQ old s_).length<=s_.length:=by
 induction s_ with
 |nil=>exact Nat.le_refl _
 |cons a r ih=>
  have h:bQ old (a::r)=fL old a++bQ old r:=by simp [bQ]
  rw [h,List.length_append,List.length_cons]
  have:(fL old a).length<=1:=by
   cases a with
   |none=>exact Nat.zero_le _
   |some w=>rw [lC];split<;>simp
  exact As this ih
theorem si {s s':Shared} (h:Out s s'):aM s s':=⟨h.1,fun q=>by rw [h.2];exact q⟩
noncomputable def jU (w:World) (W d p nn D:Addr) (n:WN) (n1 n2 n3 n4 n5 n6:Nat) (x:WS) (t1:Tok) (init nrows:bk) (pi:List Value) (pv:Value) (its:Array Value) (od:Obj) (ps:Array Value) (kvs:List (Str×Value)) (ws sK sB sP:List Str) (us vs:List (Str×Str)) (cT:Addr) (oT:Obj) (_:Nat):Prop:=∀(KF:od.IsDictOf (PySem.strKind rw_ty0067_01.row.prog w) kvs) (p_:kvs.map (·.1)=ws.map aS) (LU:∀kv∈kvs,∃t,kv.2= .str (ofString "") t) (Lz:ws.Nodup) (ba:1<=ws.length/\ws.length<=33) (m_:∀u∈ws,WordOk u) (hK:sK.Perm ws) (Nx:(ofString "e"::sK.map (ofString "{"++·)).Pairwise be) (J_:sB.Perm ws) (B_:(sB.map aS).Pairwise be) (D_:sP.Perm (bQ (us.map (·.1)) (cg sK))) (KG:(sP.map fun u=>(bN u).1).Pairwise be) (Mv:ofString "{http://www.w3.org/XML/1998/namespace}space"∉kvs.map (·.1)) (G_:its.size<=1000) (Mq:nrows.length<=900) (Lq:pi.length<=900) (t_:(D == sysModules)=false) (LH:LamTab eT eS ps cT oT) (hcT:cT∉([W,d,x.data,x.nss,x.decl,x.pres,x.write,p,nn,D,123]:List Nat)) (hT:Told us vs ws) (hi:∀r∈init,r.1∉([W,d,x.data,x.nss,x.decl,x.pres,x.write,p,nn,D,123,cT]:List Nat)) (Mz:∀r∈nrows,r.1∉([W,d,x.data,x.nss,x.decl,x.pres,x.write,p,nn,D,123,cT]:List Nat)) (h125:125∉([W,d,x.data,x.nss,x.decl,x.pres,x.write,p,nn,D,123,cT]:List Nat)) (nd:([W,d,x.data,x.nss,x.decl,x.pres,x.write,p,nn,D,123]:List Nat).Nodup),
 Ct w 6 500 126 [.ref W, .str (ofString "e") t1, .ref D, .ref nn] [] (W0 w.params W d n n1 x [(x.nss,listOf (bc nrows).toArray n2),(x.decl,listOf (bc init++[Value.ref nn]).toArray n3),(x.pres,listOf (pi++[pv]).toArray n4),(x.write,bT p),(p,listOf its n5),(nn,listOf #[] n6),(D,od),(123,tabObj ps),(cT,oT)]) (fun h=>TwoStacks h nn #[] init us x.nss nrows vs/\CodeHd h 125 123)
  (fun h₀ L m s Q=>∀q n' eM j_ k_ Kz ta tb tc items tl Lu fk LA,dj [W,d,x.data,x.nss,x.decl,x.pres,x.write,p,nn,D,123,cT] (W0 w.params W d ⟨n',true,n.done⟩ n1 x ((x.nss,listOf ((bc nrows).toArray.push (.ref q)) eM)::(x.decl,listOf (bc init++[Value.ref nn]).toArray n3)::(x.pres,listOf ((pi++[pv]).toArray.push pv) j_)::(x.write,bT p)::
   (p,listOf (((its.push (.str (ofString "<"++ofString "e") ta)).push (.str (Txt.join (ofString "") ((sP.map bN++sB.map cm).map bD)) tb)).push (.str (ofString ">") tc)) k_)::(nn,listOf items Kz)::(D,od)::(123,tabObj Lu)::(fk,LA)::(q,listOf #[] 0)::tl)) h₀ L m s
   (fun s'=>ItemsFor tl items (bQ (us.map (·.1)) (cg sK))->LamTab eT eS Lu fk LA->s.heap.get? q=none->(∀r∈tl,s.heap.get? r.1=none/\ @Ne Nat r.1 q)->(fk=cT\/s.heap.get? fk=none)-> @Ne Nat fk q->Q .none s'))
noncomputable def uY:=bA (gj jU) ((bw,0,0,0,0,0,⟨0,false,false⟩,0),(0,0,0,0,0,⟨0,0,0,0,0,0,fun _=>0⟩,0,[]),([],[], .none,#[],default,#[],[],[]),([],[],[],[],[],0,default,0))
theorem wR:∀{w W d p nn D n n1 n2 n3 n4 n5 n6 x t1 init nrows pi pv its od ps kvs ws sK sB sP us vs cT oT},jU w W d p nn D n n1 n2 n3 n4 n5 n6 x t1 init nrows pi pv its od ps kvs ws sK sB sP us vs cT oT 0:=by
 intros;apply ii jU (c:=uY) rfl;apply (?zg:gR jU);intros w W d p nn D n n1 n2 n3 n4 n5 n6 x t1 init nrows pi pv its od ps kvs ws sK sB sP us vs cT oT _;intros KF p_ LU Lz ba m_ hK Nx J_ B_ D_ KG Mv G_ Mq Lq t_ LH hcT hT hi Mz h125 nd;replace nd:=fw nd;dsimp only [ND,NI] at nd;refine gT nd fun aj aZ bU dK pH Lb LJ LS Me kX Pr=>?_;clear nd Pr;refine eF aj fun a1 a2 a3 a4 a5 a6 a7 a8 a9 aX=>?_;refine fb aZ fun b2 b3 b4 b5 b6 b7 b8 b9 bX=>?_;refine fe bU fun c3 c4 c5 c6 c7 c8 c9 cX=>?_;refine ef dK fun d4 d5 d6 d7 d8 d9 dX=>?_;refine dI pH fun e5 e6 e7 e8 e9 eX=>?_;refine bv Lb fun f6 f7 f8 f9 fX=>?_;refine bO LJ fun g7 g8 g9 gX=>?_;refine aI LS fun i8 i9 iX=>?_;refine ak Me fun j9 jX=>?_;replace hcT:=dh hcT;dsimp only [NI] at hcT;refine gT hcT fun q1 q2 q3 q4 q5 q6 qw q7 q8 q9 fJ=>?_;clear hcT;walk_at "ctS";dsimp only [W0] at *;rename TwoStacks _ _ _ _ _ _ _ _/\_=>P0;rename Kept _ _ _=>K0;rename News _ _ (Shared.heap _) _=>U_;have E_:=CodeHd.kept P0.2 K0 h125
 have RX:=Old.of P0.1 hT K0 hi Mz (sA U_ (by
  refine jB ?_;dsimp only [FA];refine ⟨?_,?_,?_,?_,?_,?_,?_,?_,?_,?_,?_,LH.nt⟩
  all_goals first|exact dY (fun e=>by cases e)|exact dY (fun e=>by injection e with e;exact absurd e (by decide))|exact dY (fun e=>by have e0:od.cls=Value.type "tuple":=e;refine bl KF fun _ _ aj=>?_;clear KF;refine ak aj fun aZ _=>?_;refine ak aZ fun e1 _=>?_;rw [e1] at e0;exact absurd e0 (by decide))|exact dY (by decide)))
 k_steps;refine ⟨?_⟩
 refine xv (kvs:=kvs) rfl (by assumption) (by assumption) (by assumption) (by rfl) rfl (by rfl) (fun s' Q F' q=>nameX_L F' (by rfl) q rfl rfl) (fun s' Q F' q=>nameX_L F' (by rfl) q rfl rfl) (by k_mem) KF (by
  rw [p_];intro hm;refine am (aP hm) fun u aj=>?_;refine ak aj fun _ e=>?_
  exact tY u e.symm) (by rw [<-List.length_map (f:=Prod.fst),p_,List.length_map];exact Ar ba.2) t_ ?_
 intros S LM ys s₁ aU aN gV mj iP uQ;replace gV:=gJ gV;dsimp only [FA] at gV;k_steps;refine ⟨?_⟩
 refine Gr (as:=[W,d,x.data,x.nss,x.decl,x.pres,x.write,p,nn,D,123,S]) (by assumption) (by assumption) (by assumption) E_ rfl (by k_updF) LH (by k_mem) (by
  repeat (refine aQ ⟨⟨_,by k_mem⟩,?_⟩)
  exact List.forall_mem_nil _) ?_ (by rfl) (by rfl) ?_
 ·refine bZ ?_;dsimp only [NI]
  exact ⟨q1,q2,q3,q4,q5,q6,qw,q7,q8,q9,fJ,neN (Aq gV.2.2.2.2.2.2.2.2.2.2.2.2.2)⟩
 intros f c' oc cvs ct Lu Ru bP uD bV ce I3 I1 Px cE jL;dsimp only at ce;replace cE:=dh cE;dsimp only [NI] at cE;replace jL:=dh jL;dsimp only [NI] at jL;k_steps;refine ⟨?_⟩;refine xe (kw:=[(ofString "key",Value.ref f)]) (f:=eU) (T:=ofString "e"::sK.map (ofString "{"++·)) (lam:= .ref f) rfl (by ktr_units) (by assumption) (by assumption) (by k_mem) mj (by rw [iP.length_eq,List.length_cons,p_,List.length_map];exact Ap ba.1) (by rw [iP.length_eq,List.length_cons,p_,List.length_map];exact Ao ba.2) (Gx iP p_ hK) Nx (ksk_s1 _ _) (fun _=>ksk_l1 _ _) (fun _=>ksk_t1 _ _) ?_ ?_
 ·intros xx tt s' led Wr F' N' O'
  have N3:=Gq N'
  have Ll:xx=ofString "e"\/∃u,u∈ws/\xx=aS u:=by
   have:=iP.mem_iff.mp Wr;rw [p_] at this;refine Or.elim (aB this) (fun h=>?_) fun h=>?_
   ·exact .inl h
   ·refine am (aP h) fun u aj=>?_;refine ak aj fun hu e=>?_
    exact .inr ⟨u,hu,e.symm⟩
  generalize P_:led++_=rest at N3 N' ⊢;clear P_ N'
  rcases Ll with rfl|⟨u,hu,rfl⟩
  ·have X:=wX
   k_steps;rename News _ _ _ _=>NN;exact ⟨_,_,_,_,_,rfl,by assumption,sW NN,fun q hq=>Nat.ne_of_lt (‹∀q∈(f,_)::(c',oc)::rest,q.1 < _› q (.tail _ (.tail _ hq))),rfl,rfl,by rw [js];rfl,rfl,rfl⟩
  ·have X:=wY u (m_ u hu).brace
   have hz:(aS u).length<=sizeLine:=by rw [fC,sizeLine_eq];have:=(m_ u hu).len;exact An this
   k_steps;rename News _ _ _ _=>NN;exact ⟨_,_,_,_,_,rfl,by assumption,sW NN,fun q hq=>Nat.ne_of_lt (‹∀q∈(f,_)::(c',oc)::rest,q.1 < _› q (.tail _ (.tail _ hq))),rfl,rfl,by rw [gH];rfl,rfl,rfl⟩
 ·intros eL out jP aG bV ce jJ pN pO pQ uP
  have Sz:=mj.1.1;clear mj;replace jJ:=gJ jJ;dsimp only [FA] at jJ;have Nm:out.map strOf=ofString "e"::sK.map aS:=Fl iP p_ hK pO pQ;refine' EZ (Gk (x:=(nn,listOf #[] n6)) ce ?pk) ?main
  case pk=>walk_at "pick"
  intro Qb
  have Le:(cg sK).length=out.length:=by
   have:=congrArg List.length Nm
   simpa using this.symm
  refine' H8 (l:=eL) (vs:=out) (us.map (·.1)) (cg sK) bV Qb rfl ?hlm ?hoL Le ?h50 ?hcell rfl rfl ?turn ?rr
  case hlm=>k_mem
  case hoL=>exact ⟨rfl,_,rfl⟩
  case h50=>simp;have:=hK.length_eq;exact Am this ba.2
  case hcell=>decide
  case turn=>
   intros i nm v I oI C oC Dd oD kvs' bj items n' tl bh Nj hv htl hI NX hC hm Mm Qp ez cw off ne fF;refine bl (pN v (List.mem_of_getElem? hv)) fun xx tt aj=>?_;subst aj
   have Wr:xx=dE nm:=by
    have h1:=congrArg (fun l=>l[i]?) (Nm.trans (Fg sK).symm);simp only [List.getElem?_map,hv,Nj,Option.map_some,Option.some.injEq] at h1;exact h1
   subst Wr
   have M9:∀v∈bQ (us.map (·.1)) ((cg sK).take i),v∈ws/\nm≠some v:=by
    intro v hv;unfold bQ at hv;refine am (List.mem_flatten.mp hv) fun l aj=>?_;refine ak aj fun hl hv=>?_;refine am (aP hl) fun Re aj=>?_;refine ak aj fun Nb aZ=>?_;subst aZ
    cases Re with
    |none=>cases hv
    |some u=>
     rw [lC] at hv
     by_cases hw:u∈us.map (·.1)
     ·rw [if_pos hw] at hv;cases hv
     ·rw [if_neg hw] at hv
      obtain rfl:=br hv;have H_:some v∈cg sK:=List.mem_of_mem_take Nb;refine ⟨?_,fun e=>?_⟩
      ·refine Or.elim (aB H_) (fun h=>?_) fun h=>?_
       ·cases h
       ·refine am (aP h) fun u aj=>?_;refine ak aj fun hu e=>?_
        cases e
        exact hK.mem_iff.mp hu
      ·subst e
       refine fh (List.getElem_of_mem Nb) fun j hj e=>?_;rw [List.getElem_take] at e;rw [List.length_take] at hj;refine am (List.getElem?_eq_some_iff.mp Nj) fun h1 h2=>?_;have Nd:=oM hK Lz;rw [List.nodup_iff_pairwise_ne,List.pairwise_iff_getElem] at Nd;exact Nd j i (lh hj) h1 (i4 hj) (e.trans h2.symm)
   have Ua:(bQ (us.map (·.1)) ((cg sK).take i)).length<=50:=by
    refine Nat.le_trans (sE _ _) ?_;rw [List.length_take];have:=hK.length_eq;simp only [List.length_cons,List.length_map];exact Al this ba.2
   simp only [List.cons_append,List.nil_append] at cw;k_steps;refine ⟨?_⟩;refine call_meth cw (by k_mem) ?_
   cases nm with
   |none=>
    refine Fn (W:=W) (d:=d) (n:=n) (n1:=n1) (n3:=n3) (x:=x) (init:=init) (nrows:=nrows) (us:=us) (vs:=vs) (ws:=ws) (by k_asm) ez (by k_asm) (sy cw) (by k_asm) rfl rfl rfl (by ktr_room) (by ktr_units) RX (fun v hv=>m_ v (M9 v hv).1) Ua (hI.mono fun p hp=> .tail _ (.tail _ (.tail _ hp))) (by k_mem) (by k_mem) (by k_mem) (by k_mem) ?_ ?_ ?_ ?_
    ·refine bZ ?_;dsimp only [NI];exact ⟨Ne.symm a8,Ne.symm b8,Ne.symm c8⟩
    ·refine bZ ?_;dsimp only [NI];exact ⟨Ne.symm a4,Ne.symm b4,Ne.symm c4⟩
    ·intro r hr;have:=hi r hr;replace this:=dh this;dsimp only [NI] at this;refine bZ ?_;dsimp only [NI];exact ⟨this.1,this.2.1,this.2.2.1⟩
    ·intros v' s' hb
     exact sx Nj (oM hK Lz) htl NX rfl off fF (by rw [fL,List.append_nil];exact hb) Qp ⟨_,hC⟩ (ue Mm)
   |some wd=>
    have OZ:wd∈ws:=by
     refine Or.elim (aB (List.mem_of_getElem? Nj)) (fun h=>?_) fun h=>?_
     ·cases h
     ·refine am (aP h) fun u aj=>?_;refine ak aj fun hu e=>?_
      cases e
      exact hK.mem_iff.mp hu
    refine Fm (W:=W) (d:=d) (n:=n) (n1:=n1) (n2:=n2) (n3:=n3) (x:=x) (init:=init) (nrows:=nrows) (us:=us) (vs:=vs) (ws:=ws) (new:=bQ (us.map (·.1)) ((cg sK).take i)) (by k_asm) ez (by k_asm) (sy cw) (by k_asm) rfl rfl rfl (by ktr_room) (by ktr_units) RX OZ (m_ wd OZ) (fun v hv=>⟨(M9 v hv).1,fun e=>(M9 v hv).2 (congrArg some e.symm)⟩) Ua (hI.mono fun p hp=> .tail _ (.tail _ (.tail _ hp))) inferInstance (by k_mem) (by k_mem) (by k_mem) (by k_mem) (by k_mem) ?_ ?_ ?_ ?_ ?_ ?_ ?_
    ·refine bZ ?_;dsimp only [NI];exact ⟨Ne.symm a8,Ne.symm b8,Ne.symm c8,Ne.symm e8⟩
    ·refine bZ ?_;dsimp only [NI];exact ⟨Ne.symm a4,Ne.symm b4,Ne.symm c4⟩
    ·refine bZ ?_;dsimp only [NI];exact ⟨Ne.symm a3,Ne.symm b3,Ne.symm c3,d4,d8⟩
    ·intro r hr;have:=hi r hr;replace this:=dh this;dsimp only [NI] at this;refine bZ ?_;dsimp only [NI];exact ⟨this.1,this.2.1,this.2.2.1,this.2.2.2.2.1,this.2.2.2.2.2.2.2.2.1⟩
    ·intro r hr;have:=Mz r hr;replace this:=dh this;dsimp only [NI] at this;refine bZ ?_;dsimp only [NI];exact ⟨this.1,this.2.1,this.2.2.1,this.2.2.2.2.1,this.2.2.2.2.2.2.2.2.1⟩
    ·refine aQ ⟨Ne.symm (off _ (.head _)).1,aQ ⟨Ne.symm (off _ (.head _)).2.1,aQ ⟨Ne.symm (off _ (.head _)).2.2,?_⟩⟩⟩
     refine aQ ⟨by k_ne,?_⟩;have nS: @Ne Nat S nn:=Ne.symm gV.2.2.2.2.2.2.2.2.2.2.1;clear gV jJ off ne hI NX M9 m_;exact aQ ⟨jL.2.2.2.2.2.2.2.2.1,aQ ⟨cE.2.2.2.2.2.2.2.2.1,aQ ⟨by k_ne,aQ ⟨by k_ne,aQ ⟨nS,aQ ⟨by k_ne,aQ ⟨by k_ne,aQ ⟨a8,aQ ⟨b8,aQ ⟨c8,aQ ⟨d8,aQ ⟨e8,aQ ⟨f8,aQ ⟨g8,aQ ⟨i8,aQ ⟨Ne.symm j9,aQ ⟨Ne.symm jX,aQ ⟨q8,fun r hr=>Ne.symm (htl r hr).2.2⟩⟩⟩⟩⟩⟩⟩⟩⟩⟩⟩⟩⟩⟩⟩⟩⟩⟩
    ·intros v' s' hb
     have e5:(if wd∈us.map (·.1) then bQ (us.map (·.1)) ((cg sK).take i) else bQ (us.map (·.1)) ((cg sK).take i)++[wd])=bQ (us.map (·.1)) ((cg sK).take i)++fL (us.map (·.1)) (some wd):=by
      rw [lC]
      by_cases hw:wd∈us.map (·.1)
      ·rw [if_pos hw,if_pos hw,List.append_nil]
      ·rw [if_neg hw,if_neg hw]
     rw [e5] at hb;exact sx Nj (oM hK Lz) htl NX rfl off fF hb Qp ⟨_,hC⟩ (ue Mm)
  case rr=>
   refine xV rfl rfl rfl ?_;intros Dd oD kvs' IZ bh Mm aj;refine aW aj fun items n' tl aZ=>?_;refine bO aZ fun bU htl hI NX=>?_;subst bU;intros ez cw off fF;rw [<-Le,List.take_length] at hI NX;have Sq:=keysNodup_of_isDictOf Mm;refine dU (NX.2 0 none rfl) fun qe te1 ZP te3 aj=>?_;refine ak aj fun ke1 YM=>?_;have OB:=valueAt_of_get Sq ke1
   have O3:∀u∈ws,∃q t1 t2 t3,valueAt kvs' (aS u)=some (.ref q)/\(q,aO [.str (aH u++ofString ":k") t1, .str (ofString "k") t2, .str u t3])∈_:=fun u hu=>by
    refine fh (List.getElem_of_mem (hK.mem_iff.mpr hu)) fun j hj e=>?_;refine dU (NX.2 (j+1) (some u) (by simp [hj,e])) fun q u1 u2 u3 aj=>?_;refine ak aj fun k1 k2=>?_;exact ⟨q,u1,u2,u3,valueAt_of_get Sq k1,k2⟩
   have Y2:valueAt kvs (ofString "{http://www.w3.org/XML/1998/namespace}space")=none:=by
    unfold valueAt;rw [List.find?_eq_none.mpr]
    ·rfl
    ·intros z hz e
     exact Mv (List.mem_map.mpr ⟨z,hz,by simpa using e⟩)
   rename _=Data.cell (bindC _ _ _ (ofString "self"))=>Xf;rename Below _ _ _ _=>BB;rename Top _ _ _ _ _ _=>TT;rename _+6<recursionLimit=>KM;rename _+500<cLine=>Nc;rename Obj.IsDictOf (PySem.strKind _ _) _ []=>WV;rename Obj.data _=Data.cell (some (Value.ref _))=>Xv;have QY:_=Data.cell (some (Value.ref W)):=Xf;generalize Mc:(_::_:ax)=fx at hI OB YM O3 cw off htl
   have hfn:∀z∈fx,∀vs,Prod.snd z≠aO vs:=by
    rw [<-Mc];refine cu ?_;dsimp only [FC];refine ⟨?_,?_,?_,?_,?_,?_,?_,?_,?_,?_,?_,?_,?_,?_,?_,?_,?_,?_,?_,trivial⟩
    all_goals first
     |exact dY (fun e=>by cases e)
     |exact LH.nt
     |exact Px.nt
     |exact dY (fun e=>by injection e with e;exact absurd e (by decide))
     |exact dY (fun e=>by rw [Sz] at e;exact absurd e (by decide))
     |exact dY (fun e=>by refine bl KF fun _ _ aj=>?_;clear KF;refine ak aj fun aZ _=>?_;refine ak aZ fun e1 _=>?_;rw [e1] at e;exact absurd e (by decide))
     |exact dY (fun e=>by refine bl WV fun _ _ aj=>?_;clear WV;refine ak aj fun aZ _=>?_;refine ak aZ fun e1 _=>?_;rw [e1] at e;exact absurd e (by decide))
     |exact fun vs e=>by rw [e] at QY;cases QY
     |exact fun vs e=>by rw [e] at Xv;cases Xv
     |exact dY (by decide)
     |skip
   have H_:∀{q:Addr} {vs:List Value},(q,aO vs)∈fx++tl->(q,aO vs)∈tl:=fun {q vs} h=>(aE h).elim (fun h=>absurd rfl (hfn _ h vs)) id;have WB:ItemsFor tl items (bQ (us.map (·.1)) (cg sK)):=⟨hI.1,fun i v hv=>by refine aW (hI.2 i v hv) fun q u1 u2 aj=>?_;refine ak aj fun e1 e2=>?_;exact ⟨q,u1,u2,e1,H_ e2⟩⟩;have Uh:=H_ YM
   have PF:∀u∈bQ (us.map (·.1)) (cg sK),u∈ws:=fun u hu=>by
    unfold bQ at hu;refine am (List.mem_flatten.mp hu) fun l aj=>?_;refine ak aj fun hl hv=>?_;refine am (aP hl) fun Re aj=>?_;refine ak aj fun Nb aZ=>?_;subst aZ
    cases Re with
    |none=>cases hv
    |some v=>
     rw [lC] at hv
     by_cases hw:v∈us.map (·.1)
     ·rw [if_pos hw] at hv;cases hv
     ·rw [if_neg hw] at hv
      obtain rfl:=br hv;refine Or.elim (aB Nb) (fun h=>?_) fun h=>?_
      ·cases h
      ·refine am (aP h) fun v' aj=>?_;refine ak aj fun Lw e=>?_
       cases e
       exact hK.mem_iff.mp Lw
   have Xb:(bQ (us.map (·.1)) (cg sK)).length<=40:=by
    refine Nat.le_trans (sE _ _) ?_;have:=hK.length_eq;simp only [List.length_cons,List.length_map];exact Ak this ba.2
   have LZ:∀z,(∃o,(z,o)∈fx)\/z=nn->∀r∈tl, @Ne Nat r.1 z:=fun z hz r hr=>by
    rcases hz with ⟨o,ho⟩|rfl
    ·exact Ne.symm ((htl r hr).2.1 _ ho)
    ·exact Ne.symm (htl r hr).2.2
   have ZC:∀z∈([d,x.nss,x.pres,p]:List Nat),∃o,(z,o)∈fx:=by
    rw [<-Mc];refine cu ?_;dsimp only [FC];exact ⟨⟨_,by k_mem⟩,⟨_,by k_mem⟩,⟨_,by k_mem⟩,⟨_,by k_mem⟩,trivial⟩
   have P_:∀z∈fx.filter (fun r=>decide (r.1∉([d,x.nss,x.pres,p]:List Nat)))++tl,z∈fx++tl:=fun z hz=>(aE hz).elim (fun h=>aL _ (List.mem_filter.mp h).1) fun h=>ay _ h
   have Wp:∀r∈fx.filter (fun r=>decide (r.1∉([d,x.nss,x.pres,p]:List Nat)))++tl,r.1∉([d,x.nss,x.pres,p]:List Nat):=fun r hr=>by
    refine Or.elim (aE hr) (fun hr=>?_) fun hr=>?_
    ·exact of_decide_eq_true (List.mem_filter.mp hr).2
    ·exact fun h=>LZ _ (.inl (ZC _ h)) r hr rfl
   have O4:∀z,(∃o,(z,o)∈fx)\/z=nn\/z=Dd-> @Ne Nat z qe:=fun z hz e=>by
    rcases hz with hz|rfl|rfl
    ·exact LZ z (.inl hz) _ Uh e.symm
    ·exact LZ _ (.inr rfl) _ Uh e.symm
    ·exact off _ (.tail _ (ay _ Uh)) e.symm
   have OK:∀z,(∃o,(z,o)∈fx)\/z=nn-> @Ne Nat z Dd:=fun z hz=>by
    rcases hz with ⟨o,ho⟩|rfl
    ·exact off _ (.tail _ (aL _ ho))
    ·exact off _ (.head _)
   refine' o7 (K:=hd.heap_39 w.params) (f:=126) ?h1 ?main2
   case h1=>k_is
   intro hof;have XX:=RX;clear RX E_ Qb Nm pQ pO pN ce bV Nx
   refine wE (W:=W) (d:=d) (pc:=p) (D:=D) (Dd:=Dd) (nn:=nn) (n:=n) (n2:=n2) (n4:=n4) (n5:=n5) (n6:=n') (x:=x) (nv:=(bc nrows).toArray) (its:=its) (items:=items) (pi:=pi) (pv:=pv) (odo:=od) (oDo:=oD) (qe:=qe) (t1:=te1) (t2:=ZP) (t3:=te3) (rest:=fx.filter (fun r=>decide (r.1∉([d,x.nss,x.pres,p]:List Nat)))++tl) (te:=t1) (kvs:=kvs) (kvs':=kvs') (new:=bQ (us.map (·.1)) (cg sK)) (sP:=sP) (ws:=ws) (sB:=sB)
    hof BB (by k_asm) TT KM Nc ez ?N rfl rfl rfl rfl rfl rfl QY KF Mm Y2 OB t_ p_ LU J_ B_ ⟨ba.1,by exact oa ba.2⟩ m_ (fun u hu=>?kw) (WB.mono fun z hz=>ay _ hz) Xb (fun u hu=>m_ u (PF u hu)) D_ KG (fun a ha b hb e=>XX.pinj a (PF a ha) b (PF b hb) e) G_ ?z1 (ra Lq) ?nd Wp ?Q
   case kw=>
    refine dU (O3 u hu) fun q u1 u2 u3 aj=>?_;refine ak aj fun k1 k2=>?_;exact ⟨q,u1,u2,u3,k1,ay _ (H_ k2)⟩
   case z1=>rw [List.size_toArray];simp only [bc,List.length_map];exact ra Mq
   case N=>
    have hx:∀z∈fx,z∈(Dd,oD)::(nn,listOf items n')::(fx++tl):=fun z hz=> .tail _ (.tail _ (aL _ hz));refine bf cw ?_
    refine aQ ⟨hx _ (by rw [<-Mc];k_mem),aQ ⟨hx _ (by rw [<-Mc];k_mem),aQ ⟨hx _ (by rw [<-Mc];k_mem),aQ ⟨hx _ (by rw [<-Mc];k_mem),aQ ⟨hx _ (by rw [<-Mc];k_mem),aQ ⟨hx _ (by rw [<-Mc];k_mem),aQ ⟨hx _ (by rw [<-Mc];k_mem),
     aQ ⟨.head _,aQ ⟨.tail _ (.head _),aQ ⟨hx _ (by rw [<-Mc];k_mem),aQ ⟨.tail _ (.tail _ (ay _ Uh)),fun z hz=> .tail _ (.tail _ (P_ z hz))⟩⟩⟩⟩⟩⟩⟩⟩⟩⟩⟩
   case nd=>
    have mx:∀z∈([W,d,x.nss,x.pres,x.write,p,D]:List Nat),∃o,(z,o)∈fx:=by
     rw [<-Mc];refine cu ?_;dsimp only [FC];exact ⟨⟨_,by k_mem⟩,⟨_,by k_mem⟩,⟨_,by k_mem⟩,⟨_,by k_mem⟩,⟨_,by k_mem⟩,⟨_,by k_mem⟩,⟨_,by k_mem⟩,trivial⟩
    have mL:∃o,(_+1,o)∈fx:=⟨_,by rw [<-Mc];exact List.Mem.tail _ (.tail _ (.tail _ (.tail _ (.tail _ (.tail _ (.tail _ (.head _)))))))⟩;replace mx:=cj mx;dsimp only [FC] at mx;refine fe mx fun mW md mn mp mw Yb mD aj=>?_;clear mx aj;refine ip ?_;dsimp only [ND,NI];refine ⟨⟨a1,a3,a5,a6,a7,a9,OK _ (.inl mW),a8,?_,O4 _ (.inl mW)⟩,⟨b3,b5,b6,b7,b9,OK _ (.inl md),b8,?_,O4 _ (.inl md)⟩,⟨d5,d6,d7,d9,OK _ (.inl mn),d8,?_,O4 _ (.inl mn)⟩,⟨f6,f7,f9,OK _ (.inl mp),f8,?_,O4 _ (.inl mp)⟩,⟨g7,g9,OK _ (.inl mw),g8,?_,O4 _ (.inl mw)⟩,⟨i9,OK _ (.inl Yb),i8,?_,O4 _ (.inl Yb)⟩,⟨OK _ (.inl mD),Ne.symm j9,?_,O4 _ (.inl mD)⟩,⟨Ne.symm (OK _ (.inr rfl)),Ne.symm (OK _ (.inl mL)),O4 _ (.inr (.inr rfl))⟩,⟨?_,O4 _ (.inr (.inl rfl))⟩,O4 _ (.inl mL),trivial,trivial⟩
    all_goals k_ne
   case Q=>
    intros q Wv eM j_ k_ ta tb tc Rj s' F' N' Nv Mp S';have MV:∀z∈fx,z.1∉([d,x.nss,x.pres,p]:List Nat)->z∈fx.filter (fun r=>decide (r.1∉([d,x.nss,x.pres,p]:List Nat)))++tl:=fun z hz h=>aL _ (List.mem_filter.mpr ⟨hz,decide_eq_true h⟩);have SS:∀z∈tl,z∈fx.filter (fun r=>decide (r.1∉([d,x.nss,x.pres,p]:List Nat)))++tl:=fun z hz=>ay _ hz;clear ez cw O3 LU D_ KG J_ B_ P_ PF H_;generalize Ve:fx.filter (fun r=>decide (r.1∉([d,x.nss,x.pres,p]:List Nat)))++tl=rs at N' Mp MV SS Wp;have r1:=MV (x.data,listOf #[] n1) (by rw [<-Mc];k_mem) (by refine bZ ?_;dsimp only [NI];exact ⟨Ne.symm b2,c3,c5,c7⟩);have r2:=MV (x.decl,listOf (bc init++[Value.ref nn]).toArray n3) (by rw [<-Mc];k_mem) (by refine bZ ?_;dsimp only [NI];exact ⟨Ne.symm b4,Ne.symm d4,e5,e7⟩);have r3:=MV (123,tabObj Lu) (by rw [<-Mc];k_mem) (by refine bZ ?_;dsimp only [NI];exact ⟨Ne.symm bX,Ne.symm dX,Ne.symm fX,Ne.symm iX⟩);have r4:=MV (c',oc) (by rw [<-Mc];k_mem) (by refine bZ ?_;dsimp only [NI];exact ⟨cE.2.1,cE.2.2.2.1,cE.2.2.2.2.2.1,cE.2.2.2.2.2.2.2.1⟩);have r5:=MV (cT,oT) (by rw [<-Mc];k_mem) (by refine bZ ?_;dsimp only [NI];exact ⟨q2,q4,q6,q7⟩);have u1:=Mp _ r1;have u2:=Mp _ r2;have u3:=Mp _ r3;have u4:=Mp _ r4;have u5:=Mp _ r5;have g0:=fun z hz=>(N' z hz).2.2;have gq:=g0 (q,listOf #[] 0) (by k_mem);have gc:=g0 (c',oc) (by walk_at "memrest");have gt:∀r∈tl,Heap.get? _ r.1=none:=fun r hr=>g0 r (by have:=SS r hr;walk_at "memrest")
    have Ps:∀z∈([W,d,x.data,x.nss,x.decl,x.pres,x.write,p,D,123,cT]:List Nat),∃o,(z,o)∈fx:=by
     rw [<-Mc];refine cu ?_;dsimp only [FC];exact ⟨⟨_,by k_mem⟩,⟨_,by k_mem⟩,⟨_,by k_mem⟩,⟨_,by k_mem⟩,⟨_,by k_mem⟩,⟨_,by k_mem⟩,⟨_,by k_mem⟩,⟨_,by k_mem⟩,⟨_,by k_mem⟩,⟨_,by k_mem⟩,⟨_,by k_mem⟩,trivial⟩
    k_steps;rename News _ _ (Shared.heap _) _=>NF;rename Fr _ _ (Shared.heap _) _=>FF
    (rename Ret _=>hr)
    refine hr.out q Wv eM j_ k_ n' ta tb tc items tl Lu c' oc s' FF (bf NF ?led) (by walk_at "kept") (SameF.trans (si uQ) (SameF.trans (si uP) (SameF.trans fF S'))) WB Px (fP K0 ?fq gq) (fun r hr=>⟨fP K0 ?ft (gt r hr),Mp r (SS r hr)⟩) ?fc u4
    case led=>
     have r6:∀z∈tl,z∈_:=SS
     refine aQ ⟨by k_mem,aQ ⟨by k_mem,aQ ⟨by walk_at "memrest",aQ ⟨by k_mem,aQ ⟨by walk_at "memrest",aQ ⟨by k_mem,aQ ⟨by k_mem,aQ ⟨by k_mem,aQ ⟨by k_mem,aQ ⟨by k_mem,
      aQ ⟨by walk_at "memrest",aQ ⟨by walk_at "memrest",aQ ⟨by k_mem,fun z hz=>by have:=SS z hz;walk_at "memrest"⟩⟩⟩⟩⟩⟩⟩⟩⟩⟩⟩⟩⟩
    case fq=>
     (try dsimp only [List.map]);refine bZ ?_;dsimp only [NI]
     replace Nv:=cj Nv;dsimp only [FC] at Nv;refine eF Nv fun v1 v2 v3 v4 v5 v6 v7 v8 v9 aj=>?_;clear Nv aj;exact ⟨Ne.symm v1,Ne.symm v2,Ne.symm u1,Ne.symm v3,Ne.symm u2,Ne.symm v4,Ne.symm v5,Ne.symm v6,Ne.symm v9,Ne.symm v7,Ne.symm u3,Ne.symm u5⟩
    case ft=>
     (try dsimp only [List.map]);refine bZ ?_;dsimp only [NI]
     replace Ps:=cj Ps;dsimp only [FC] at Ps;refine fD Ps fun v1 v2 v3 v4 v5 v6 v7 v8 v9 Nh MW aj=>?_;clear Ps aj;exact ⟨LZ _ (.inl v1) r hr,LZ _ (.inl v2) r hr,LZ _ (.inl v3) r hr,LZ _ (.inl v4) r hr,LZ _ (.inl v5) r hr,LZ _ (.inl v6) r hr,LZ _ (.inl v7) r hr,LZ _ (.inl v8) r hr,LZ _ (.inr rfl) r hr,LZ _ (.inl v9) r hr,LZ _ (.inl Nh) r hr,LZ _ (.inl MW) r hr⟩
    case fc=>
     by_cases h:c'=cT
     ·exact .inl h
     ·refine .inr (fP K0 ?_ gc)
      (try dsimp only [List.map]);refine bZ ?_;dsimp only [NI]
      refine fD cE fun v1 v2 v3 v4 v5 v6 v7 v8 v9 Nh MW aj=>?_;clear cE aj;exact ⟨v1,v2,v3,v4,v5,v6,v7,v8,v9,Nh,MW,h⟩
theorem wS {w:World}
 (W d p nn D:Addr)
 (n:WN)
 (n1 n2 n3 n4 n5 n6:Nat)
 (x:WS)
 (t1:Tok)
 (init nrows:bk)
 (pi:List Value)
 (pv:Value)
 (its:Array Value)
 (od:Obj)
 (ps:Array Value)
 (kvs:List (Str×Value))
 (ws sK sB sP:List Str)
 (us vs:List (Str×Str))
 (KF:od.IsDictOf (PySem.strKind rw_ty0067_01.row.prog w) kvs)
 (p_:kvs.map (·.1)=ws.map aS)
 (LU:∀kv∈kvs,∃t,kv.2= .str (ofString "") t)
 (Lz:ws.Nodup)
 (ba:1<=ws.length/\ws.length<=33)
 (m_:∀u∈ws,WordOk u)
 (hK:sK.Perm ws)
 (Nx:(ofString "e"::sK.map (ofString "{"++·)).Pairwise be)
 (J_:sB.Perm ws)
 (B_:(sB.map aS).Pairwise be)
 (D_:sP.Perm (bQ (us.map (·.1)) (cg sK)))
 (KG:(sP.map fun u=>(bN u).1).Pairwise be)
 (Mv:ofString "{http://www.w3.org/XML/1998/namespace}space"∉kvs.map (·.1))
 (G_:its.size<=1000)
 (Mq:nrows.length<=900)
 (Lq:pi.length<=900)
 (t_:(D == sysModules)=false)
 (cT:Addr)
 (oT:Obj)
 (LH:LamTab eT eS ps cT oT)
 (hcT:cT∉([W,d,x.data,x.nss,x.decl,x.pres,x.write,p,nn,D,123]:List Nat))
 (hT:Told us vs ws)
 (hi:∀r∈init,r.1∉([W,d,x.data,x.nss,x.decl,x.pres,x.write,p,nn,D,123,cT]:List Nat))
 (Mz:∀r∈nrows,r.1∉([W,d,x.data,x.nss,x.decl,x.pres,x.write,p,nn,D,123,cT]:List Nat))
 (h125:125∉([W,d,x.data,x.nss,x.decl,x.pres,x.write,p,nn,D,123,cT]:List Nat))
 (nd:([W,d,x.data,x.nss,x.decl,x.pres,x.write,p,nn,D,123]:List Nat).Nodup):
 Ct w 6 500 126 [.ref W, .str (ofString "e") t1, .ref D, .ref nn] [] (W0 w.params W d n n1 x [(x.nss,listOf (bc nrows).toArray n2),(x.decl,listOf (bc init++[Value.ref nn]).toArray n3),(x.pres,listOf (pi++[pv]).toArray n4),(x.write,bT p),(p,listOf its n5),(nn,listOf #[] n6),(D,od),(123,tabObj ps),(cT,oT)]) (fun h=>TwoStacks h nn #[] init us x.nss nrows vs/\CodeHd h 125 123)
  (fun h₀ L m s Q=>∀q n' eM j_ k_ Kz ta tb tc items tl Lu fk LA,dj [W,d,x.data,x.nss,x.decl,x.pres,x.write,p,nn,D,123,cT] (W0 w.params W d ⟨n',true,n.done⟩ n1 x ((x.nss,listOf ((bc nrows).toArray.push (.ref q)) eM)::(x.decl,listOf (bc init++[Value.ref nn]).toArray n3)::(x.pres,listOf ((pi++[pv]).toArray.push pv) j_)::(x.write,bT p)::
   (p,listOf (((its.push (.str (ofString "<"++ofString "e") ta)).push (.str (Txt.join (ofString "") ((sP.map bN++sB.map cm).map bD)) tb)).push (.str (ofString ">") tc)) k_)::(nn,listOf items Kz)::(D,od)::(123,tabObj Lu)::(fk,LA)::(q,listOf #[] 0)::tl)) h₀ L m s
   (fun s'=>ItemsFor tl items (bQ (us.map (·.1)) (cg sK))->LamTab eT eS Lu fk LA->s.heap.get? q=none->(∀r∈tl,s.heap.get? r.1=none/\ @Ne Nat r.1 q)->(fk=cT\/s.heap.get? fk=none)-> @Ne Nat fk q->Q .none s')):= @wR w W d p nn D n n1 n2 n3 n4 n5 n6 x t1 init nrows pi pv its od ps kvs ws sK sB sP us vs cT oT KF p_ LU Lz ba m_ hK Nx J_ B_ D_ KG Mv G_ Mq Lq t_ LH hcT hT hi Mz h125 nd
theorem J1:True:=by
 (k_with "call ref"=>((k_here;(with_reducible show wpAny _ _ (call (Value.ref 126) _ _) _ _ _);refine Stop.out ?_)))
 trivial
theorem RowsAt.again2 {as:List Addr} {h g h':Heap} {L:Addr} {m:Str->Option Value} {st:Addr} {rows:bk} {us:List (Str×Str)} {led:ax} {n:Nat} (x:RowsAt h st rows us) (k:Kept as h g) (F:Fr g L h' m) (N:News g L h' led) (hm:(st,listOf (bc rows).toArray n)∈led)
  (hr:∀r∈rows,r.1∉as) (hc:∀a∈as,∀o,h.get? a=some o->∀vs,o≠aO vs):RowsAt h' st rows us:=
 ⟨bo N hm,fun r Ul=>((x.row r Ul).at fun o e=>k _ o (hr r Ul) e).at fun o e=>F.keep _ _ e,x.sz,jh (ly x.it k hc) F.keep⟩
noncomputable def ko (w:World) (W d p D:Addr) (n:WN) (n1 n2 n3 n4 n5:Nat) (x:WS) (t1:Tok) (init nrows:bk) (pi:List Value) (pv:Value) (its:Array Value) (od:Obj) (ps:Array Value) (kvs:List (Str×Value)) (ws sK sB sP:List Str) (us vs:List (Str×Str)) (cT:Addr) (oT:Obj) (_ _ _:Nat):Prop:=∀(KF:od.IsDictOf (PySem.strKind rw_ty0067_01.row.prog w) kvs) (p_:kvs.map (·.1)=ws.map aS) (LU:∀kv∈kvs,∃t,kv.2= .str (ofString "") t) (Lz:ws.Nodup) (ba:1<=ws.length/\ws.length<=33) (m_:∀u∈ws,WordOk u) (hK:sK.Perm ws) (Nx:(ofString "e"::sK.map (ofString "{"++·)).Pairwise be) (J_:sB.Perm ws) (B_:(sB.map aS).Pairwise be) (D_:sP.Perm (bQ (us.map (·.1)) (cg sK))) (KG:(sP.map fun u=>(bN u).1).Pairwise be) (Mv:ofString "{http://www.w3.org/XML/1998/namespace}space"∉kvs.map (·.1)) (G_:its.size<=1000) (Mq:nrows.length<=900) (Pd:init.length<=900) (Lq:pi.length<=900) (t_:(D == sysModules)=false) (LH:LamTab eT eS ps cT oT) (hcT:cT∉([W,d,x.data,x.nss,x.decl,x.pres,x.write,p,D,123]:List Nat)) (hT:Told us vs ws) (hi:∀r∈init,r.1∉([W,d,x.data,x.nss,x.decl,x.pres,x.write,p,D,123,cT]:List Nat)) (Mz:∀r∈nrows,r.1∉([W,d,x.data,x.nss,x.decl,x.pres,x.write,p,D,123,cT]:List Nat)) (h125:125∉([W,d,x.data,x.nss,x.decl,x.pres,x.write,p,D,123,cT]:List Nat)) (nd:([W,d,x.data,x.nss,x.decl,x.pres,x.write,p,D,123]:List Nat).Nodup),
 Ct w 7 600 120 [.ref W, .str (ofString "e") t1, .ref D] [] (W0 w.params W d n n1 x [(x.nss,listOf (bc nrows).toArray n2),(x.decl,listOf (bc init).toArray n3),(x.pres,listOf (pi++[pv]).toArray n4),(x.write,bT p),(p,listOf its n5),(D,od),(123,tabObj ps),(cT,oT)]) (fun h=>RowsAt h x.decl init us/\RowsAt h x.nss nrows vs/\CodeHd h 125 123)
  (fun h₀ L m s Q=>∀nn q n' eM n_ j_ k_ Kz ta tb tc items tl Lu fk LA,dj [W,d,x.data,x.nss,x.decl,x.pres,x.write,p,D,123,cT] (W0 w.params W d ⟨n',true,n.done⟩ n1 x ((x.nss,listOf ((bc nrows).toArray.push (.ref q)) eM)::(x.decl,listOf (bc init++[Value.ref nn]).toArray n_)::(x.pres,listOf ((pi++[pv]).toArray.push pv) j_)::(x.write,bT p)::
   (p,listOf (((its.push (.str (ofString "<"++ofString "e") ta)).push (.str (Txt.join (ofString "") ((sP.map bN++sB.map cm).map bD)) tb)).push (.str (ofString ">") tc)) k_)::(D,od)::(123,tabObj Lu)::(fk,LA)::(nn,listOf items Kz)::(q,listOf #[] 0)::tl)) h₀ L m s
   (fun s'=>ItemsFor tl items (bQ (us.map (·.1)) (cg sK))->LamTab eT eS Lu fk LA->s.heap.get? nn=none->s.heap.get? q=none-> @Ne Nat nn q->(∀r∈tl,s.heap.get? r.1=none/\ @Ne Nat r.1 q/\ @Ne Nat r.1 nn)->(fk=cT\/s.heap.get? fk=none)-> @Ne Nat fk q-> @Ne Nat fk nn->Q .none s'))
noncomputable def vD:=bA (gj ko) ((bw,0,0,0,0,⟨0,false,false⟩,0,0),(0,0,0,⟨0,0,0,0,0,0,fun _=>0⟩,0,[],[],[]),(.none,#[],default,#[],[],[],[],[]),([],[],[],0,default,0,0,0))
theorem HP:∀{w W d p D n n1 n2 n3 n4 n5 x t1 init nrows pi pv its od ps kvs ws sK sB sP us vs cT oT},ko w W d p D n n1 n2 n3 n4 n5 x t1 init nrows pi pv its od ps kvs ws sK sB sP us vs cT oT 0 0 0:=by
 intros;apply ii ko (c:=vD) rfl;apply (?zg:gR ko);intros w W d p D n n1 n2 n3 n4 n5 x t1 init nrows pi pv its od ps kvs ws sK sB sP us vs cT oT _ _ _;intros KF p_ LU Lz ba m_ hK Nx J_ B_ D_ KG Mv G_ Mq Pd Lq t_ LH hcT hT hi Mz h125 nd;replace nd:=fw nd;dsimp only [ND,NI] at nd;refine eF nd fun aj aZ bU dK pH Lb LJ LS kX Me=>?_;clear nd Me;refine fb aj fun a1 a2 a3 a4 a5 a6 a7 a9 aX=>?_;clear aj;refine fe aZ fun b2 b3 b4 b5 b6 b7 b9 bX=>?_;clear aZ;refine ef bU fun c3 c4 c5 c6 c7 c9 cX=>?_;clear bU;refine dI dK fun d4 d5 d6 d7 d9 dX=>?_;clear dK;refine bv pH fun e5 e6 e7 e9 eX=>?_;clear pH;refine bO Lb fun f6 f7 f9 fX=>?_;clear Lb;refine aI LJ fun g7 g9 gX=>?_;clear LJ;refine ak LS fun i9 iX=>?_;clear LS;have aah:=hcT;replace hcT:=dh hcT;dsimp only [NI] at hcT;refine eF hcT fun q1 q2 q3 q4 q5 q6 qw q7 q9 fJ=>?_;clear hcT
 have Sm:(bc init).toArray.size<=sizeLine:=by rw [List.size_toArray,sizeLine_eq];simp only [bc,List.length_map];exact zf Pd
 walk_at "ctS";dsimp only [W0] at *;rename RowsAt _ _ _ _/\_=>P0;rename Kept _ _ _=>K0;rename News _ _ (Shared.heap _) _=>U_;k_steps;rename_i nn UE l1 U9 ZX hh3 F1 N1 QB;refine ⟨?_⟩;simp only [List.push_toArray] at N1;simp only [List.map_cons,List.map_nil] at K0
 have V2:=sA U_ (by
  refine jB ?_;dsimp only [FA];refine ⟨?_,?_,?_,?_,?_,?_,?_,?_,?_,?_,LH.nt⟩
  all_goals first|exact dY (fun e=>by cases e)|exact dY (fun e=>by injection e with e;exact absurd e (by decide))|exact dY (fun e=>by have e0:od.cls=Value.type "tuple":=e;refine bl KF fun _ _ aj=>?_;clear KF;refine ak aj fun aZ _=>?_;clear aj;refine ak aZ fun e1 _=>?_;clear aZ;rw [e1] at e0;exact absurd e0 (by decide))|exact dY (by decide))
 simp only [List.map_cons,List.map_nil] at V2;have E_:=CodeHd.kept P0.2.2 K0 h125;have UU:=CodeHd.kept E_ (iw (as:=[]) F1) (fun h=>nomatch h);have g0:Heap.get? _ nn=none:=(N1 _ (.head _)).2.2;have hrow:=fun r hr=>((P0.1.row r hr).at fun o e=>K0 _ o (hi r hr) e);have RJ:=fun r hr=>((P0.2.1.row r hr).at fun o e=>K0 _ o (Mz r hr) e)
 have nnI:∀r∈init,r.1≠nn:=fun r hr e=>by refine am (hrow r hr) fun o aj=>?_;refine ak aj fun ho _=>?_;clear aj;rw [e,g0] at ho;cases ho
 have nnR:∀r∈nrows,r.1≠nn:=fun r hr e=>by refine am (RJ r hr) fun o aj=>?_;refine ak aj fun ho _=>?_;clear aj;rw [e,g0] at ho;cases ho
 have YZ:125≠nn:=fun e=>by refine fV E_ fun o SI Tv tf flags tg W7 text aj=>?_;clear E_;refine am aj fun tt aZ=>?_;clear aj;refine ak aZ fun e1 _=>?_;clear aZ;rw [e,g0] at e1;cases e1
 have o1:∀z∈([W,d,x.data,x.nss,x.decl,x.pres,x.write,p,D,123,cT]:List Nat), @Ne Nat z nn:=by
  refine cu ?_;dsimp only [FC];refine fD l1 fun v1 v2 v3 v4 v5 v6 v7 v8 v9 Nh MW aj=>?_;clear l1 aj;exact ⟨Nat.ne_of_lt v1,Nat.ne_of_lt v2,Nat.ne_of_lt v3,Nat.ne_of_lt v4,Nat.ne_of_lt v5,Nat.ne_of_lt v6,Nat.ne_of_lt v7,Nat.ne_of_lt v8,Nat.ne_of_lt v9,Nat.ne_of_lt Nh,Nat.ne_of_lt MW,trivial⟩
 have o2:=o1;replace o2:=cj o2;dsimp only [FC] at o2;refine fD o2 fun v1 v2 v3 v4 v5 v6 v7 v8 v9 Nh MW aj=>?_;clear o2 aj
 have Qr:∀{z:Nat},z∉([W,d,x.data,x.nss,x.decl,x.pres,x.write,p,D,123,cT]:List Nat)->z≠nn->z∉([W,d,x.data,x.nss,x.decl,x.pres,x.write,p,nn,D,123,cT]:List Nat):=fun h1 h2 h=>by
  simp only [List.mem_cons,List.not_mem_nil,or_false,not_or] at h1 h;refine gT h1 fun w1 w2 w3 w4 w5 w6 w7 w8 w9 SL Vz=>?_;clear h1
  rcases h with h|h|h|h|h|h|h|h|h|h|h|h
  ·exact w1 h
  ·exact w2 h
  ·exact w3 h
  ·exact w4 h
  ·exact w5 h
  ·exact w6 h
  ·exact w7 h
  ·exact w8 h
  ·exact h2 h
  ·exact w9 h
  ·exact SL h
  ·exact Vz h
 refine dO (wS W d p nn D n n1 n2 _ n4 n5 _ x t1 init nrows pi pv its od ps kvs ws sK sB sP us vs KF p_ LU Lz ba m_ hK Nx J_ B_ D_ KG Mv G_ Mq Lq t_ cT oT LH ?hcT hT (fun r hr=>Qr (hi r hr) (nnI r hr)) (fun r hr=>Qr (Mz r hr) (nnR r hr)) (Qr h125 YZ) ?nd) (by assumption) F1 (by assumption) N1 (by assumption) rfl rfl rfl (by exact cz [1,2,3,4,5,6,7,8,0,9,10,11] rfl) ⟨?two,UU⟩ (by ktr_room) (by ktr_units) ?_
 case hcT=>
  refine bZ ?_;dsimp only [NI];exact ⟨q1,q2,q3,q4,q5,q6,qw,q7,MW,q9,fJ⟩
 case nd=>
  refine ip ?_;dsimp only [ND,NI];exact ⟨⟨a1,a2,a3,a4,a5,a6,a7,v1,a9,aX⟩,⟨b2,b3,b4,b5,b6,b7,v2,b9,bX⟩,⟨c3,c4,c5,c6,c7,v3,c9,cX⟩,⟨d4,d5,d6,d7,v4,d9,dX⟩,⟨e5,e6,e7,v5,e9,eX⟩,⟨f6,f7,v6,f9,fX⟩,⟨g7,v7,g9,gX⟩,⟨v8,i9,iX⟩,⟨Ne.symm v9,Ne.symm Nh⟩,kX,trivial,trivial⟩
 case two=>
  refine ⟨fun r hr=>(hrow r hr).at fun o e=>F1.keep _ _ e,fun r hr=>?_,?_,RowsAt.again2 P0.2.1 K0 F1 N1 (by k_mem) Mz V2⟩
  ·refine Or.elim (aE hr) (fun hr=>?_) fun hr=>?_
   ·exact P0.1.sz r hr
   ·rw [br hr];exact (by decide:((0:Nat):Int)<2 ^ 63)
  ·rw [kT]
   exact jh (ly P0.1.it K0 V2) F1.keep
 intros q n' eM j_ k_ Kz ta tb tc items tl Lu fk LA s' F' N' K' S' tA Xd hq htl R4 Sw;have Rp:=dG N1 hq;have neT:=fun r hr=>dG N1 (htl r hr).1;have nq:=Rp (nn,_) (.head _);have g1:=fun z hz=>(N' z hz).2.2
 have RN:∀{z:Nat},Heap.get? hh3 z=none->z∉([W,d,x.data,x.nss,x.decl,x.pres,x.write,p,D,123,cT]:List Nat):=fun hz=>by
  have Lo:=dG N1 hz;replace Lo:=cj Lo;dsimp only [FC] at Lo;refine bZ ?_;dsimp only [NI];refine ma Lo fun aj w1 w2 w3 w4 w5 w6 w7 w8 w9 SL Vz aZ=>?_;clear Lo aj aZ;exact ⟨Ne.symm w1,Ne.symm w2,Ne.symm w3,Ne.symm w4,Ne.symm w5,Ne.symm w6,Ne.symm w7,Ne.symm w8,Ne.symm w9,Ne.symm SL,Ne.symm Vz⟩
 have gq:=g1 (q,listOf #[] 0) (by k_mem);have gc:=g1 (fk,LA) (by k_mem);have gt:∀r∈tl,Heap.get? _ r.1=none:=fun r hr=>g1 r (by walk_at "memrest");have nnf:=fP K0 (fun h=>o1 _ h rfl) g0;k_steps;rename News _ _ (Shared.heap _) _=>NF;rename Fr _ _ (Shared.heap _) _=>FF
 (rename Ret _=>hr)
 refine hr.out nn q n' eM _ j_ k_ Kz ta tb tc items tl Lu fk LA s' FF (bf NF (by exact cv [0,1,2,3,4,5,6,7,9,10,11,8,12] 13 rfl rfl)) (by walk_at "kept") (by walk_at "same") tA Xd nnf (fP K0 (RN hq) gq) nq (fun r hr=>⟨fP K0 (RN (htl r hr).1) (gt r hr),(htl r hr).2,Ne.symm (neT r hr (nn,_) (.head _))⟩) ?_ Sw ?_
 ·revert R4;refine gE (fun h=>?_) fun h=>?_
  ·exact .inl h
  ·exact .inr (fP K0 (RN h) gc)
 ·revert R4;refine gE (fun h=>?_) fun h=>?_
  ·rw [h];exact MW
  ·exact Ne.symm (dG N1 h (nn,_) (.head _))
theorem HR {w:World}
 (W d p D:Addr)
 (n:WN)
 (n1 n2 n3 n4 n5:Nat)
 (x:WS)
 (t1:Tok)
 (init nrows:bk)
 (pi:List Value)
 (pv:Value)
 (its:Array Value)
 (od:Obj)
 (ps:Array Value)
 (kvs:List (Str×Value))
 (ws sK sB sP:List Str)
 (us vs:List (Str×Str))
 (KF:od.IsDictOf (PySem.strKind rw_ty0067_01.row.prog w) kvs)
 (p_:kvs.map (·.1)=ws.map aS)
 (LU:∀kv∈kvs,∃t,kv.2= .str (ofString "") t)
 (Lz:ws.Nodup)
 (ba:1<=ws.length/\ws.length<=33)
 (m_:∀u∈ws,WordOk u)
 (hK:sK.Perm ws)
 (Nx:(ofString "e"::sK.map (ofString "{"++·)).Pairwise be)
 (J_:sB.Perm ws)
 (B_:(sB.map aS).Pairwise be)
 (D_:sP.Perm (bQ (us.map (·.1)) (cg sK)))
 (KG:(sP.map fun u=>(bN u).1).Pairwise be)
 (Mv:ofString "{http://www.w3.org/XML/1998/namespace}space"∉kvs.map (·.1))
 (G_:its.size<=1000)
 (Mq:nrows.length<=900)
 (Pd:init.length<=900)
 (Lq:pi.length<=900)
 (t_:(D == sysModules)=false)
 (cT:Addr)
 (oT:Obj)
 (LH:LamTab eT eS ps cT oT)
 (hcT:cT∉([W,d,x.data,x.nss,x.decl,x.pres,x.write,p,D,123]:List Nat))
 (hT:Told us vs ws)
 (hi:∀r∈init,r.1∉([W,d,x.data,x.nss,x.decl,x.pres,x.write,p,D,123,cT]:List Nat))
 (Mz:∀r∈nrows,r.1∉([W,d,x.data,x.nss,x.decl,x.pres,x.write,p,D,123,cT]:List Nat))
 (h125:125∉([W,d,x.data,x.nss,x.decl,x.pres,x.write,p,D,123,cT]:List Nat))
 (nd:([W,d,x.data,x.nss,x.decl,x.pres,x.write,p,D,123]:List Nat).Nodup):
 Ct w 7 600 120 [.ref W, .str (ofString "e") t1, .ref D] [] (W0 w.params W d n n1 x [(x.nss,listOf (bc nrows).toArray n2),(x.decl,listOf (bc init).toArray n3),(x.pres,listOf (pi++[pv]).toArray n4),(x.write,bT p),(p,listOf its n5),(D,od),(123,tabObj ps),(cT,oT)]) (fun h=>RowsAt h x.decl init us/\RowsAt h x.nss nrows vs/\CodeHd h 125 123)
  (fun h₀ L m s Q=>∀nn q n' eM n_ j_ k_ Kz ta tb tc items tl Lu fk LA,dj [W,d,x.data,x.nss,x.decl,x.pres,x.write,p,D,123,cT] (W0 w.params W d ⟨n',true,n.done⟩ n1 x ((x.nss,listOf ((bc nrows).toArray.push (.ref q)) eM)::(x.decl,listOf (bc init++[Value.ref nn]).toArray n_)::(x.pres,listOf ((pi++[pv]).toArray.push pv) j_)::(x.write,bT p)::
   (p,listOf (((its.push (.str (ofString "<"++ofString "e") ta)).push (.str (Txt.join (ofString "") ((sP.map bN++sB.map cm).map bD)) tb)).push (.str (ofString ">") tc)) k_)::(D,od)::(123,tabObj Lu)::(fk,LA)::(nn,listOf items Kz)::(q,listOf #[] 0)::tl)) h₀ L m s
   (fun s'=>ItemsFor tl items (bQ (us.map (·.1)) (cg sK))->LamTab eT eS Lu fk LA->s.heap.get? nn=none->s.heap.get? q=none-> @Ne Nat nn q->(∀r∈tl,s.heap.get? r.1=none/\ @Ne Nat r.1 q/\ @Ne Nat r.1 nn)->(fk=cT\/s.heap.get? fk=none)-> @Ne Nat fk q-> @Ne Nat fk nn->Q .none s')):= @HP w W d p D n n1 n2 n3 n4 n5 x t1 init nrows pi pv its od ps kvs ws sK sB sP us vs cT oT KF p_ LU Lz ba m_ hK Nx J_ B_ D_ KG Mv G_ Mq Pd Lq t_ LH hcT hT hi Mz h125 nd
theorem qv {vs:List Value} {ss:List Str} (h:StrsAre vs ss):∀p:List Nat,(∀i∈p,i<ss.length)->StrsAre (p.map fun i=>vs.getD i Value.none) (p.map fun i=>ss.getD i Str.empty)
 |[],_=> .nil
 |i::r,hi=>by
  have hl:=hi i (.head _);refine am (h.get i ss[i] (List.getElem?_eq_getElem hl)) fun t e=>?_
  have e1:vs.getD i Value.none= .str ss[i] t:=by rw [List.getD_eq_getElem?_getD,e];rfl
  have e2:ss.getD i Str.empty=ss[i]:=by simp [hl]
  rw [List.map_cons,List.map_cons,e1,e2];exact .cons _ _ (qv h r fun j hj=>hi j (.tail _ hj))
section
variable {prog:Program} {w:World} {A:Around} {E:Value->Shared->Prop} {s:Shared} {h₀:Heap} {L:Addr} {m:Str->Option Value} {news:ax} {vs:List Value}
theorem wQ {ss T:List Str} {Q:Array Nat->Shared->Prop} (hv:StrsAre vs ss) (hT:T.Perm ss) (hs:T.Pairwise be) (h2:2<=vs.length)
  (k:∀p:Array Nat,p.toList.Perm (List.range vs.length)->p.toList.map (fun i=>ss.getD i Str.empty)=T->Q p s):
  wpAny (model prog w) A (keyKind' vs.toArray) (fun κ s'=>(kas_sort vs.length).kasWp (kas_ask prog w A κ vs) Q s') (fun _ _=>False) s:=by
 have hl:=hv.len_eq
 have Md:∀i,i<vs.length->∃t,vs.getD i Value.none= .str (ss.getD i Str.empty) t:=fun i hi=>by
  have LV:i<ss.length:=by exact q3 hi hl
  refine am (hv.get i ss[i] (List.getElem?_eq_getElem LV)) fun t e=>?_;refine ⟨t,?_⟩
  have e2:ss.getD i Str.empty=ss[i]:=by simp [LV]
  rw [List.getD_eq_getElem?_getD,e,e2];rfl
 refine kas_kind (T:= .type "str") h2 (fun v Lw=>?_) (by decide) (by decide) ?_
 ·refine fh (List.getElem_of_mem Lw) fun i hi aj=>?_;subst aj
  refine am (Md i hi) fun t e=>?_
  have e':vs[i]= .str (ss.getD i Str.empty) t:=by rw [<-e];simp [hi]
  rw [e'];exact Looks.of_pure rfl
 ·have hmap:(List.range vs.length).map (fun i=>ss.getD i Str.empty)=ss:=by
   apply List.ext_getElem (by simp [hl]);intros i h1 h2;simp [h2]
  refine mF (f:=fun i=>ss.getD i Str.empty) (L:=T) (I:=(·=s)) (by rw [hmap];exact hT) hs (rB h2) (fun i j C s' hi hj dR hI hC=>?_) rfl fun p s' hI hp hm=>by rw [hI];exact k p hp hm
  subst hI;refine am (Md i hi) fun t e=>?_;refine am (Md j hj) fun u e'=>?_;show wpAny (model prog w) A (keyLt' oneType' (vs.getD i Value.none) (vs.getD j Value.none)) C (fun _ _=>False) s';rw [e,e',keyLt'_oneType];exact oneLt_str (hC _ rfl)
theorem xd {l:Addr} {ss T:List Str} {Q:Value->Shared->Prop} (F:Fr h₀ L s.heap m) (N:News h₀ L s.heap news) (hl:s.heap.IsList l vs.toArray) (hv:StrsAre vs ss) (MC:vs.length<64) (hT:T.Perm ss) (hs:T.Pairwise be)
  (h:∀D out c h' tk,Fr h₀ L h' m->News h₀ L h' ((D,listOf (List.toArray out) c)::news)->(∀q∈news,q.1<D)->StrsAre out T->Q (.ref D) {s with heap:=h',toks:=tk}):
  wpAny (model prog w) A (call (.builtin "sorted") [.ref l]) Q E s:=by
 have ba:=hv.len_eq
 by_cases h2:vs.length<2
 ·refine qC F N hl h2 fun D c h' F' N' l1=>h D vs c h' s.toks F' N' l1 ?_
  have:T=ss:=by
   match ss,ba,hT with
   |[],_,hT=>exact List.perm_nil.mp hT
   |[a],_,hT=>exact List.perm_singleton.mp hT
   |_::_::_,ba,_=>simp at ba;lia
  rw [this];exact hv
 ·refine kat_sorted F N hl (lg h2) MC fun D e1 h' F' N' l1=>?_
  refine wQ (s:={s with heap:=h'}) hv hT hs (lg h2) fun p hp hm=>?_;refine KasFin.intro F' N' (.head fun q hq=>Nat.ne_of_lt (l1 q hq)) fun Lp c Q8 Lk=>h D _ c Lp s.toks Q8 Lk l1 ?_;rw [<-hm]
  exact qv hv _ fun i hi=>by have:=List.mem_range.mp (hp.mem_iff.mp hi);exact q3 this ba
theorem mM {d:Addr} {o:Obj}:∀{l:ax} {g:Obj->ax},UpdF d o l g->∀o',Upd d o o' l (g o')
 |_,_, .head h,_=>Upd.head h
 |_,_, .tail h r,o'=>Upd.tail h (mM r o')
theorem tQ {D b:Addr} {its Ox:Array Value} {n n2:Nat} {g:Obj->ax} {Q:Value->Shared->Prop} (F:Fr h₀ L s.heap m) (N:News h₀ L s.heap news) (hb:(b,listOf Ox n2)∈news) (U:UpdF D (listOf its n) news g) (hz:its.size+Ox.size<=1000000)
  (h:∀n' h',Fr h₀ L h' m->News h₀ L h' (g (listOf (its++Ox) n'))->Q .none {s with heap:=h'}):wpAny (model prog w) A (call (.builtin "list.extend") [.ref D, .ref b]) Q E s:=by
 have hd:¬(!its.isEmpty && Builtin.List.listTooLong (its.size+Ox.size))=true:=extend_door (by rw [sizeLine_eq];exact Cp hz)
 by_cases e:Ox.toList=[]
 ·have e1:Ox=#[]:=Array.toList_inj.mp (by rw [e])
  refine kxn_extend F N hb e (mM U _) hd (by rw [sizeLine_eq,Array.length_toList];exact rA hz) (by rw [sizeLine_eq];exact rz hz) fun h' F' N'=>h n h' F' ?_;rw [e1,Array.append_empty];exact N'
 ·refine kl_extend F N hb rfl (fun q=>e (List.eq_nil_of_length_eq_zero q)) (mM U _) hd (by rw [sizeLine_eq,Array.length_toList];exact rA hz) (by rw [sizeLine_eq];exact rz hz) fun h' F' N'=>h (n+1) h' F' ?_
  have e2:(its.toList++Ox.toList).toArray=its++Ox:=by apply Array.toList_inj.mp;simp
  rw [<-e2];exact N'
end
theorem J0:True:=by
 (k_with "call builtin:list.extend"=>((k_here;(with_reducible show wpAny _ _ (call (Value.builtin _) [Value.ref _,Value.ref _]) _ _ _);k_dflt (refine' tQ (by k_asm) (by k_asm) (by k_mem) (by k_updF) (by first|assumption|lia) ?_);intros _ _ _ NM;(try dsimp only at NM);(try k_sweep))))
 trivial
theorem HN (u:Str) (c:Nat):Txt.slice (u++⟨#[c]⟩) none (some (-1))=u:=by
 show PySem.StrLaws.sliceText _ none (some (-1))=u
 have hl:(u++(⟨#[c]⟩:Str)).length=u.length+1:=by rw [Str.length_append];rfl
 rw [PySem.StrLaws.sliceText_to_neg (by decide) (by rw [hl];exact Cn)];apply ed
 have e:((-1:Int)+((u++(⟨#[c]⟩:Str)).length:Int) - 0).toNat=(cl u).length:=by rw [hl,bK];exact Cm
 show (List.take ((-1:Int)+((u++(⟨#[c]⟩:Str)).length:Int) - 0).toNat (List.drop 0 (cl (u++⟨#[c]⟩))))=cl u;rw [e,List.drop_zero,bF,List.take_left]
theorem JZ:True:=by
 (k_with "call ref"=>((k_here;(with_reducible show wpAny _ _ (call (Value.ref 202) _ _) _ _ _);refine Stop.out ?_)))
 trivial
theorem xW {nf:Str->Str×Str} {led:ax} {ys out:List Value} {new sP:List Str} (hR:TextRows led ys (new.map nf)) (Ms:∀a∈new,∀b∈new,(nf a).1=(nf b).1->a=b) (D_:sP.Perm new)
  (h:iG ys (fun i=>(nf (new.getD i Str.empty)).1) (sP.map fun u=>(nf u).1) out):TextRows led out (sP.map nf):=by
 refine am h fun p aj=>?_;clear h;refine aI aj fun hp aZ hT=>?_;clear aj;subst aZ
 have ba:p.length=sP.length:=by simpa using congrArg List.length hT
 have lG:ys.length=new.length:=by rw [hR.1,List.length_map]
 refine ⟨by rw [List.length_map,List.length_map,ba],fun i nv hi=>?_⟩;rw [List.getElem?_map] at hi
 cases hu:sP[i]? with
 |none=>rw [hu] at hi;cases hi
 |some u=>
  rw [hu] at hi;have hi:nf u=nv:=Option.some.inj hi;subst hi
  have Pb:i<p.length:=by rw [ba];exact (List.getElem?_eq_some_iff.mp hu).1
  have hj:p[i] < ys.length:=List.mem_range.mp (hp.mem_iff.mp (List.getElem_mem Pb))
  have Qv:p[i] < new.length:=by exact q3 hj lG
  have h1:=congrArg (fun l=>l[i]?) hT;simp only [List.getElem?_map,List.getElem?_eq_getElem Pb,hu,Option.map_some,Option.some.injEq] at h1
  have h2:new.getD p[i] Str.empty=new[p[i]]:=by simp [Qv]
  rw [h2] at h1;have h6:=Ms _ (List.getElem_mem Qv) u (D_.mem_iff.mp (List.mem_of_getElem? hu)) h1;refine aW (hR.2 p[i] _ (by rw [List.getElem?_map,List.getElem?_eq_getElem Qv];rfl)) fun a t1 t2 aj=>?_;refine ak aj fun e1 e2=>?_;clear aj;rw [h6] at e2;refine ⟨a,t1,t2,?_,e2⟩;rw [List.getElem?_map,List.getElem?_eq_getElem Pb];show some (ys.getD p[i] Value.none)=_;rw [List.getD_eq_getElem?_getD,e1];rfl
theorem HM (u:Str):ofString " xmlns:"++aH u++ofString "=\""++u++ofString "\""=bD (bN u):=by
 show _=ofString " "++(ofString "xmlns:"++aH u)++ofString "=\""++u++ofString "\"";rw [<-PySem.Str.append_assoc (ofString " ")]
 have e:ofString " "++ofString "xmlns:"=ofString " xmlns:":=by decide
 rw [e]
theorem IK (u:Str):ofString " "++aH u++ofString ":k=\"\""=bD (cm u):=by
 apply ed;show cl (ofString " "++aH u++ofString ":k=\"\"")=cl (ofString " "++(aH u++ofString ":k")++ofString "=\""++ofString ""++ofString "\"")
 have e:cl (ofString ":k=\"\"")=cl (ofString ":k")++(cl (ofString "=\"")++(cl (ofString "")++cl (ofString "\""))):=by decide
 simp only [bF,e,List.append_assoc]
noncomputable def hU (sP sB:List Str):List Str:=(sP.map bN++sB.map cm).map bD
noncomputable def kq (w:World) (a1 a2:Addr) (Pp Qm:Array Value) (laid used sP sB:List Str):Prop:=∀(h1:StrsAre Pp.toList laid) (h2:StrsAre Qm.toList used) (P6:laid.length<=40) (P5:used.length<=40) (Ta:∀u∈laid,WordOk u) (No:∀u∈used,WordOk u) (D_:sP.Perm laid) (KG:(sP.map aH).Pairwise be) (J_:sB.Perm used) (B_:(sB.map (·++ofString "}")).Pairwise be) (Ms:∀a∈laid,∀b∈laid,aH a=aH b->a=b),
 Ct w 6 400 207 [.ref a1, .ref a2] [] [] (fun h=>h.IsList a1 Pp/\h.IsList a2 Qm) (fun h₀ L m s Q=>∀D vs k,StrsAre vs.toList (hU sP sB)->dj [] [(D,listOf vs k)] h₀ L m s (fun s'=>s.heap.get? D=none->Q (.ref D) s'))
noncomputable def vE:=bA (jE kq) ((bw,0,0,#[],#[],[],[],[]),[])
theorem HS:∀{w} (a1 a2 Pp Qm laid used sP sB),kq w a1 a2 Pp Qm laid used sP sB:=by
 intros;apply ot kq (c:=vE) rfl;apply (?zg:lX kq);intros w a1 a2 Pp Qm laid used sP sB;intros h1 h2 P6 P5 Ta No D_ KG J_ B_ Ms;walk_at "ctS";rename _/\_=>P0;rename Kept _ _ _=>K0;rename Below _ _ _ _=>BB;rename Top _ _ _ _ _ _=>TT;rename Frag.In _ _=>XX;k_steps;refine ⟨?_⟩;rename Fr _ _ _ (fun y=>List.lookup y _)=>F0;rename News _ _ _ _=>N0;have g1:=P0.1.at fun o e=>F0.keep _ _ (K0 _ o (fun h=>nomatch h) e);have G1:=P0.1.at fun o e=>(K0 _ o (fun h=>nomatch h) e);have G2:=P0.2.at fun o e=>(K0 _ o (fun h=>nomatch h) e);refine gM (l:=a1) (vs:=Pp.toList) (fun i ys led=>ys.length=i/\TextRows led ys ((laid.take i).map fun u=>(aH u,u))) F0 N0 rfl (fun i ys led s₁ _ F2 _=>by rw [Array.toArray_toList];exact G1.at fun o e=>F2.keep _ _ e) (by rw [h1.len_eq];exact ry P6) ⟨rfl,rfl,fun i nv h=>by simp at h⟩ (fun i ys led h=>Nat.le_of_eq h.1) (by decide) rfl (by decide) ?t1 ?d1
 case t1=>
  intros i v I oI C oC D ys bj led s₁ hv aj;refine ak aj fun lG hR=>?_;clear aj;intros hC hm F2 N2 er Lo S2;refine am (List.getElem?_eq_some_iff.mp hv) fun hi Lw=>?_
  have fW:i<laid.length:=by rw [<-h1.len_eq];exact hi
  refine am (h1.get i laid[i] (List.getElem?_eq_getElem fW)) fun t e=>?_;rw [hv] at e
  cases e
  have v_:=(Ta _ (List.getElem_mem fW)).len;k_steps;refine ⟨?_⟩;rename News _ _ _ _=>N3;rename Fr _ _ _ _=>F3;refine dO (pf laid[i] t (lf v_)) BB F3 XX N3 TT rfl rfl rfl (fun _ h=>nomatch h) trivial (by ktr_room) (by ktr_units) ?_;intros t2 s' F' N' K' S';have Lk:=d0 N3 K' N' (others:=_) (fun _ h=>h) (fun _ _ h=>nomatch h);rw [List.nil_append] at Lk;clear N3 F3 N';k_steps;rename_i Dn UE F5 N5 l5;refine bO l5 fun l6 l7 l8 l9=>?_;clear l5;refine ⟨(Dn,aO [.str (aH laid[i]) t2, .str laid[i] t])::led,F5,bf N5 (by exact cv [1,2,3,0] 4 rfl rfl),?_,⟨by rw [List.length_append,lG];rfl,?_⟩,SameF.trans S2 S'⟩
  ·intro z hz
   rcases aB hz with rfl|hz
   ·exact ⟨Ne.symm (Nat.ne_of_lt l6),Ne.symm (Nat.ne_of_lt l7),Ne.symm (Nat.ne_of_lt l8)⟩
   ·exact er z hz
  ·rw [List.take_add_one,List.getElem?_eq_getElem fW,Option.toList_some,List.map_append,List.map_cons,List.map_nil]
   exact (hR.mono fun p hp=> .tail _ hp).snoc (nv:=(aH laid[i],laid[i])) (.head _)
 case d1=>
  refine fI (n:=Pp.toList.length) (Inv:=fun i ys led=>ys.length=i/\TextRows led ys ((laid.take i).map fun u=>(aH u,u))) ?_;intros D1 ys led s₁ aj;refine ak aj fun lG hR=>?_;clear aj;intros F2 N2 er S2;rw [h1.len_eq,List.take_length] at hR;k_steps;refine ⟨?_⟩
  have Np:ys.length=laid.length:=by rw [hR.1,List.length_map]
  refine xc (vs:=ys) (f:=fun i=>(aH (laid.getD i Str.empty))) (T:=sP.map aH) F2 N2 (bo N2 (.head _)) (lc Np P6) (fun i hi=>?_) ?_ KG fun D2 out c Ux QB F3 N3 l3 hS=>?_
  ·have H_:i<laid.length:=by exact q3 hi Np
   refine aW (hR.2 i _ (by rw [List.getElem?_map,List.getElem?_eq_getElem H_];rfl)) fun a' u1 u2 aj=>?_;refine ak aj fun e1 e2=>?_;clear aj;exact ⟨a',_,_,_,u1,by rw [List.getD_eq_getElem?_getD,e1];rfl, .tail _ e2,rfl,rfl,by simp [H_]⟩
  ·rw [Np]
   refine (D_.map _).trans (List.Perm.of_eq ?_);apply List.ext_getElem (by simp);intros i g1 g2;simp at g1;simp [g1]
  ·have Ui:=xW (nf:=fun u=>(aH u,u)) hR Ms D_ hS
   have P3:out.length=sP.length:=by rw [Ui.1,List.length_map]
   have QC:=D_.length_eq;generalize o_:(_::_:ax)=LY at N3
   have TM:(D2,listOf (List.toArray out) c)∈LY:=by rw [<-o_];exact .head _
   have MP:∀p∈led,p∈LY:=fun p hp=>by rw [<-o_];exact .tail _ (.tail _ hp)
   clear N2 F2 er o_ l3 hR;refine ph (l:=D2) (vs:=out) (fun i ys led=>led=LY/\ys.length=i/\StrsAre ys ((sP.take i).map fun u=>bD (bN u))) (fun i va vb=>∃u t1 t2,sP[i]?=some u/\va= .str (aH u) t1/\vb= .str u t2) F3 N3 rfl (fun i ys led s₁ hh F2 N2=>bo (n:=c) N2 (by rw [hh.1];exact TM)) (rx P3 QC P6) ⟨rfl,rfl, .nil⟩ (fun i ys led h=>Nat.le_of_eq h.2.1) (by decide) rfl (by decide) (by rfl) (by rfl) ?c2 ?c3 ?c4
   case c2=>
    intros i v ys led s₁ hv aj;refine aI aj fun aZ _ _=>?_;clear aj;subst aZ;intro F2 N2;refine am (List.getElem?_eq_some_iff.mp hv) fun hi _=>?_
    have YF:i<sP.length:=by exact q3 hi P3
    refine aW (Ui.2 i _ (by rw [List.getElem?_map,List.getElem?_eq_getElem YF];rfl)) fun a' u1 u2 aj=>?_;refine ak aj fun e1 e2=>?_;clear aj;rw [hv] at e1
    cases e1
    exact ⟨a',_,_,rfl,⟨_,N2.get (MP _ e2),rfl,_,rfl⟩,_,u1,u2,List.getElem?_eq_getElem YF,rfl,rfl⟩
   case c3=>
    intros i va vb I oI C oC D' ys bj led s₁ hi aj;refine aW aj fun u u1 u2 aZ=>?_;clear aj;refine aI aZ fun hu bU dK=>?_;clear aZ;subst bU;subst dK;intro pH;refine aI pH fun Lb lG f_=>?_;clear pH;subst Lb;intros hC Ub Ur F2 N2 er Lo S2;have YA:=Ta u (D_.mem_iff.mp (List.mem_of_getElem? hu));have Yk:=YA.len;have XM:=(gy u YA).2;k_steps;exact ⟨led,by assumption,by assumption,er,⟨rfl,by rw [List.length_append,lG];rfl,iU (f:=fun u=>bD (bN u)) f_ hu (by rw [HM])⟩,SameF.trans S2 SameF.refl⟩
   case c4=>
    refine iV (n:=out.length) (Inv:=fun i ys led=>led=LY/\ys.length=i/\StrsAre ys ((sP.take i).map fun u=>bD (bN u))) rfl rfl rfl ?_;intros D3 Ny led bh aj;refine aI aj fun aZ WL Wq=>?_;clear aj;subst aZ;intros F2 N2 er S3;rw [P3,List.take_length] at Wq;k_steps;refine ⟨?_⟩;generalize OT:(_::_:ax)=PK at N2
    have SE:(D3,bC Ny)∈PK:=by rw [<-OT];exact .head _
    clear OT N3 F3;refine gM (l:=a2) (vs:=Qm.toList) (fun i ys led=>led=PK/\ys.length=i/\StrsAre ys ((used.take i).map fun u=>u++ofString "}")) F2 N2 rfl (fun i ys led s₁ _ F2 _=>by rw [Array.toArray_toList];exact G2.at fun o e=>F2.keep _ _ e) (by rw [h2.len_eq];exact ry P5) ⟨rfl,rfl, .nil⟩ (fun i ys led h=>Nat.le_of_eq h.2.1) (by decide) rfl (by decide) ?t4 ?d4
    case t4=>
     intros i v I oI C oC D ys bj led s₁ hv aj;refine aI aj fun aZ lG f_=>?_;clear aj;subst aZ;intros hC hm F2 N2 er Lo S2;refine am (List.getElem?_eq_some_iff.mp hv) fun hi Lw=>?_
     have fW:i<used.length:=by rw [<-h2.len_eq];exact hi
     have eo:used[i]?=some used[i]:=List.getElem?_eq_getElem fW;refine am (h2.get i used[i] eo) fun t e=>?_;rw [hv] at e
     cases e
     have v_:=(No _ (List.getElem_mem fW)).len;k_steps;exact ⟨led,by assumption,by assumption,er,⟨rfl,by rw [List.length_append,lG];rfl,iU (f:=fun u=>u++ofString "}") f_ eo rfl⟩,SameF.trans S2 SameF.refl⟩
    case d4=>
     refine fI (n:=Qm.toList.length) (Inv:=fun i ys led=>led=PK/\ys.length=i/\StrsAre ys ((used.take i).map fun u=>u++ofString "}")) ?_;intros D4 Yz led cU aj;refine aI aj fun aZ PH Ln=>?_;clear aj;subst aZ;intros F4 N4 Mk S4;rw [h2.len_eq,List.take_length] at Ln;k_steps;refine ⟨?_⟩;have XR:=Ln.len_eq;rw [List.length_map] at XR;refine xd (vs:=Yz) (ss:=used.map fun u=>u++ofString "}") (T:=sB.map fun u=>u++ofString "}") F4 N4 (bo N4 (.head _)) Ln (lc XR P5) (J_.map _) B_ fun D5 Tc c5 hp5 tk5 F5 N5 l5 Yd=>?_;have Sr:=Yd.len_eq;rw [List.length_map] at Sr;have W5:=J_.length_eq;have Y9: @Ne Nat D3 D5:=Nat.ne_of_lt (l5 (D3,bC Ny) (.tail _ SE));have Zu: @Ne Nat D3 D4:=Mk _ SE;generalize P9:(_::_:ax)=Qn at N5
     have XF:(D5,listOf (List.toArray Tc) c5)∈Qn:=by rw [<-P9];exact .head _
     have UZ:(D3,bC Ny)∈Qn:=by rw [<-P9];exact .tail _ (.tail _ SE)
     have n3:∀p∈Qn,p.1=D3->p∈led:=fun p hp e=>by
      rw [<-P9] at hp
      rcases aB hp with rfl|hp
      ·exact absurd e.symm Y9
      ·rcases aB hp with rfl|hp
       ·exact absurd e.symm Zu
       ·exact hp
     clear F4 N4 Mk P9 l5;refine gM (l:=D5) (vs:=Tc) (fun i ys led=>led=Qn/\ys.length=i/\StrsAre ys ((sB.take i).map fun u=>bD (cm u))) F5 N5 rfl (fun i ys led s₁ hh F2 N2=>bo (n:=c5) N2 (by rw [hh.1];exact XF)) (rx Sr W5 P5) ⟨rfl,rfl, .nil⟩ (fun i ys led h=>Nat.le_of_eq h.2.1) (by decide) rfl (by decide) ?t6 ?d6
     case t6=>
      intros i v I oI C oC D ys bj U8 s₁ hv aj;refine aI aj fun aZ lG f_=>?_;clear aj;subst aZ;intros hC hm F2 N2 er Lo S2;refine am (List.getElem?_eq_some_iff.mp hv) fun hi Lw=>?_
      have fW:i<sB.length:=by exact q3 hi Sr
      have eo:sB[i]?=some sB[i]:=List.getElem?_eq_getElem fW;refine am (Yd.get i (sB[i]++ofString "}") (by rw [List.getElem?_map,eo];rfl)) fun t e=>?_;rw [hv] at e
      cases e
      have v_:=No _ (J_.mem_iff.mp (List.getElem_mem fW));have Y6:=v_.len;k_steps;refine ⟨?_⟩;have Zn:Txt.slice (sB[i]++ofString "}") none (some (-1))=sB[i]:=HN _ 125;rw [Zn];rename News _ _ _ _=>N3;rename Fr _ _ _ _=>F3;refine dO (pf sB[i] _ (lf Y6)) BB F3 XX N3 TT rfl rfl rfl (fun _ h=>nomatch h) trivial (by ktr_room) (by ktr_units) ?_;intros t2 s' F' N' K' S';have Lk:=d0 N3 K' N' (others:=_) (fun _ h=>h) (fun _ _ h=>nomatch h);rw [List.nil_append] at Lk;have XM:=(gy _ v_).2;clear N3 F3 N';k_steps;exact ⟨U8,by assumption,Lk,er,⟨rfl,by rw [List.length_append,lG];rfl,iU (f:=fun u=>bD (cm u)) f_ eo (by rw [IK])⟩,SameF.trans S2 (SameF.trans SameF.refl S')⟩
     case d6=>
      refine fI (n:=Tc.length) (Inv:=fun i ys led=>led=Qn/\ys.length=i/\StrsAre ys ((sB.take i).map fun u=>bD (cm u))) ?_;intros D6 Ud U8 pK aj;refine aI aj fun aZ ZN W3=>?_;clear aj;subst aZ;intros F6 N6 Vm S6;rw [Sr,List.take_length] at W3;have Wz:=Vm _ UZ;dsimp only at Wz;have N7:News _ _ pK.heap [(D3,bC Ny),(D6,bC Ud)]:=bf N6 (aQ ⟨.tail _ UZ,aQ ⟨.head _,fun _ h=>nomatch h⟩⟩)
      have aam:Ny.toArray.size+Ud.toArray.size<=1000000:=by rw [List.size_toArray,List.size_toArray];exact Ck P3 QC WL Sr W5 ZN P6 P5
      have aaa: @Ne Nat D6 D3:=Ne.symm Wz;clear N6 Vm XF n3;k_steps
      (rename Ret _=>hr)
      refine hr.out _ _ _ ?_ _ (by assumption) (by exact bf (by assumption) (by exact cz [0] rfl)) (by walk_at "kept") (SameF.trans S2 (SameF.trans S3 (SameF.trans S4 S6))) (by walk_at "fresh")
      have e:(Ny.toArray++Ud.toArray).toList=Ny++Ud:=by simp
      rw [e];unfold hU;rw [List.map_append,List.map_map,List.map_map];exact Wq.append' W3
section
open PySem.Builtin PySem.Builtin.Str
theorem Hg (x y:PySem.Str) (i j:Int) (t u v v':Tok):Gives («str.find» ⟨[.str x t, .str y u, .int i v, .int j v'],[]⟩) (.int (match occurrences x y (fromIndex x.length i) (min (fromIndex x.length j) x.length) 1 with|k::_=>(k:Int)|[]=> -1)):=by
 show Gives (match occurrences x y (fromIndex x.length i) (min (fromIndex x.length j) x.length) 1 with|k::_=>retInt k|[]=>(do rule "str.find.not-found";retInt (-1))) _
 cases occurrences x y (fromIndex x.length i) (min (fromIndex x.length j) x.length) 1 with
 |nil=>exact .rule (.of_eq rfl)
 |cons k _=>exact .of_eq rfl
noncomputable def jA (x y:PySem.Str) (p:Nat):Int:=match occurrences x y p x.length 1 with|k::_=>(k:Int)|[]=> -1
noncomputable def cR (y:PySem.Str):Nat->List PySem.Str->Bool
 |_,[]=>true
 |p,w::r=>match occurrences y w p y.length 1 with|k::_=>cR y (k+w.length) r|[]=>false
theorem tF (n p:Nat):fromIndex n (p:Int)=p:=by unfold fromIndex;rw [if_neg (nQ)];exact CQ
theorem Hv {prog:Program} {w:World} {A:Around} {E:Value->Shared->Prop} {s:Shared} {x y:PySem.Str} {t u v v':Tok} {p:Nat} {z:Int} {Q:Value->Shared->Prop} (hz:jA x y p=z) (h:Q (.int z s.toks) {s with toks:=s.toks+1}):
  wpAny (model prog w) A (call (.builtin "str.find") [.str x t, .str y u, .int (p:Int) v, .int (x.length:Int) v']) Q E s:=by
 refine call_gives PySem.F.slot_str_find (typeIs_str _ _ _) PySem.F.entry_str_find (PySem.F.args_str_find_4 _ _ _ _) (Hg x y p x.length t u v v') ?_;rw [tF,tF,Nat.min_self];subst hz;exact h
theorem JY:True:=by
 (k_with "call builtin:str.find"=>((k_here;(with_reducible show wpAny _ _ (call (Value.builtin "str.find") [Value.str _ _,Value.str _ _,Value.int _ _,Value.int _ _]) _ _ _);k_dflt (refine' Hv (by assumption) ?_;k_whole))))
 trivial
theorem GH {prog:Program} {w:World} {A:Around} {E:Value->Shared->Prop} {s:Shared} {h₀:Heap} {L l:Addr} {news:ax} {L4 slice:PySem.Expr} {its:Array Value} {v:Value} {n:Nat} {u:Tok} {Q:Value->Shared->Prop} (N:News h₀ L s.heap news) (hm:(l,listOf its n)∈news) (hv:its[0]?=some v) (h:Q v s)
  (hs:subscripted slice false (.ref l) (.int 0 u)=operate [.ref l, .int 0 u] (getItem (.ref l) (.int 0 u)):=by with_unfolding_all rfl):
  wpAny (model prog w) A (subscriptTail L4 slice (.ref l) (.int 0 u)) Q E s:=by
 have hl:s.heap.IsList l its:=⟨_,N.get hm,rfl,n,rfl⟩;exact tail_any hl.typeIs slot_list_getitem.lookup (wpAny_getItem_list hl (by decide) (by decide) hv h) hs
theorem GF {prog:Program} {w:World} {A:Around} {E:Value->Shared->Prop} {s:Shared} {h₀:Heap} {L l:Addr} {news:ax} {L4 slice:PySem.Expr} {its:Array Value} {v:Value} {n k:Nat} {u:Tok} {Q:Value->Shared->Prop} (N:News h₀ L s.heap news) (hm:(l,listOf its n)∈news) (hz:its.size=k+2) (hv:its[k+1]?=some v) (h:Q v s)
  (hs:subscripted slice false (.ref l) (.int (-1) u)=operate [.ref l, .int (-1) u] (getItem (.ref l) (.int (-1) u)):=by with_unfolding_all rfl):
  wpAny (model prog w) A (subscriptTail L4 slice (.ref l) (.int (-1) u)) Q E s:=by
 have hl:s.heap.IsList l its:=⟨_,N.get hm,rfl,n,rfl⟩
 exact tail_any hl.typeIs slot_list_getitem.lookup (wpAny_getItem_list_neg hl (by decide) (CP hz) (by decide) (by
  have e:(-1+((its.size:Nat):Int)).toNat=k+1:=by exact CO hz
  rw [e];exact hv) h) hs
theorem JX:True:=by
 (k_with "subscriptTail"=>((k_here;(with_reducible show wpAny _ _ (subscriptTail _ _ (Value.ref _) (Value.int 0 _)) _ _ _);k_dflt (refine' GH (by k_asm) (by k_mem) (by assumption) ?_ (by with_unfolding_all rfl);k_whole))))
 (k_with "subscriptTail"=>((k_here;(with_reducible show wpAny _ _ (subscriptTail _ _ (Value.ref _) (Value.int (-1) _)) _ _ _);k_dflt (refine' GF (by k_asm) (by k_mem) (by assumption) (by assumption) ?_ (by with_unfolding_all rfl);k_whole))))
 trivial
theorem Gj {prog:Program} {w:World} {A:Around} {E:Value->Shared->Prop} {s:Shared} {h₀:Heap} {L a:Addr} {news:ax} {its:Array Value} {k n:Nat} {Q:Value->Shared->Prop} (N:News h₀ L s.heap news) (hm:(a,listOf its k)∈news) (hz:its.size=n) (hn:n<=1000000) (h:∀t tk,Q (.int (n:Int) t) {s with toks:=tk}):
  wpAny (model prog w) A (call (.builtin "len") [.ref a]) Q E s:=by
 have hl:s.heap.IsList a its:=⟨_,N.get hm,rfl,k,rfl⟩;refine len_list hl (CN hz hn) ?_;rw [hz];exact h _ _
theorem JW:True:=by
 (k_with "call builtin:len"=>((k_here;(with_reducible show wpAny _ _ (call (Value.builtin "len") [Value.ref _]) _ _ _);k_dflt (refine' Gj (by k_asm) (by k_mem) (by assumption) (by lia) ?_;k_whole);intro _ _)))
 trivial
theorem I8 {vs:List Value} {ss:List PySem.Str} {x:PySem.Str} (h:StrsAre vs (ss++[x])):∃vm t,vs=vm++[.str x t]/\StrsAre vm ss:=by
 induction ss generalizing vs with
 |nil=>
  cases h with
  |cons y t h=>cases h;exact ⟨[],t,rfl, .nil⟩
 |cons a r ih=>
  cases h with
  |cons y t h=>
   refine bl (ih h) fun vm u aj=>?_;refine ak aj fun aZ hv=>?_;clear aj;subst aZ;exact ⟨.str a t::vm,u,rfl, .cons _ _ hv⟩
theorem Fw {y:PySem.Str} {p:Nat} {ws:List PySem.Str} {i:Nat} {w:PySem.Str} (h:ws[i]?=some w):cR y p (ws.drop i)=match occurrences y w p y.length 1 with|k::_=>cR y (k+w.length) (ws.drop (i+1))|[]=>false:=by
 refine am (List.getElem?_eq_some_iff.mp h) fun hi e=>?_;rw [List.drop_eq_getElem_cons hi,e];rfl
theorem JV:True:=by
 (k_with "call builtin:str.split"=>((k_here;(with_reducible show wpAny _ _ (call (Value.builtin "str.split") [Value.str _ _,Value.str _ _]) _ _ _);refine Stop.out ?_)))
 trivial
noncomputable def kJ (w:World) (x y:PySem.Str) (t1 t2:Tok) (Nw:List PySem.Str):Prop:=∀(PQ:Txt.split x (ofString "...")=ofString ""::(Nw++[ofString ""])) (H_:(occurrences x (ofString "...") 0 x.length 1).isEmpty=false) (hx:x.length<=1000000) (hy:y.length<=1000000) (hm:Nw.length<=200),
 Ct w 3 300 183 [.str x t1, .str y t2] [] [] (fun _=>True) (fun h₀ L m s Q=>dj [] [] h₀ L m s (Q (.bool (cR y 0 (ofString ""::(Nw++[ofString ""]))))))
noncomputable def vO:=bA (jF kJ) (bw,⟨#[]⟩,⟨#[]⟩,0,0,[])
theorem H3:∀{w} (x y t1 t2 Nw),kJ w x y t1 t2 Nw:=by
 intros;apply rY kJ (c:=vO) rfl;apply (?zg:pA kJ);intros w x y t1 t2 Nw;intros PQ H_ hx hy hm;walk_at "ctS";k_steps;refine ⟨?_⟩;refine PySem.W.KSpl.split1 (by assumption) (by assumption) (by decide) ?_ (by rw [sizeLine_eq];exact CM hx);intros D l h' k hl hS F' N' l1;rw [hl,PQ] at hS;generalize strValues l=vs at hS N';have PC:=hS;have UF:=hS.len_eq;simp only [List.length_cons,List.length_append,List.length_nil] at UF;refine am (hS.get 0 (ofString "") rfl) fun ta h0=>?_;refine am (hS.get (Nw.length+1) (ofString "") (by rw [List.getElem?_cons_succ,List.getElem?_append_right (Nat.le_refl _),Nat.sub_self];rfl)) fun tb h1=>?_
 have g0:vs.toArray[0]?=some (.str (ofString "") ta):=by rw [List.getElem?_toArray];exact h0
 have g1:vs.toArray[Nw.length+1]?=some (.str (ofString "") tb):=by rw [List.getElem?_toArray];exact h1
 have hsz:vs.toArray.size=Nw.length+2:=by rw [List.size_toArray];exact CK UF
 have WF:¬((0:Int)>(y.length:Int)):=by exact CJ
 generalize hva:vs.toArray=va at g0 g1 hsz N';k_steps;refine ⟨?_⟩;rename_i D2 _ _ _ _ _ _ _ _ F1 N1 _
 refine lI (l:=D) (vs:=vs) (fun i m' led=>m' (ofString "got")=some (.str y t2)/\(∃te,m' (ofString "endpos")=some (.int (y.length:Int) te))/\(∃(p:Nat) (tk:Tok),m' (ofString "startpos")=some (.int (p:Int) tk)/\p<=y.length/\cR y 0 (ofString ""::(Nw++[ofString ""]))=cR y p ((ofString ""::(Nw++[ofString ""])).drop i))/\led=[(D,listOf va 0)])
  F1 (bf N1 (fun q hq=>by rw [br hq];exact .tail _ (.head _))) rfl ?c1 ⟨rfl,⟨_,rfl⟩,⟨0,_,rfl,Nat.zero_le _,rfl⟩,rfl⟩ ?turn ?done
 case c1=>
  intros i m' led s₁ aj;refine bO aj fun aZ bU dK pH=>?_;clear aj aZ bU dK;subst pH;intro F2 N2;rw [hva];exact bo N2 (.head _)
 case turn=>
  intros i v m' led I o s₁ hv aj;refine bO aj fun YU aZ bU dK=>?_;clear aj;refine am aZ fun te me=>?_;clear aZ;refine bl bU fun p tk pH=>?_;clear bU;refine aI pH fun mp hp hM=>?_;clear pH;subst dK;intros F2 N2 WB S2;refine am (List.getElem?_eq_some_iff.mp hv) fun hi _=>?_
  have XT:i<(ofString ""::(Nw++[ofString ""])).length:=by simp only [List.length_cons,List.length_append,List.length_nil];exact CI hi UF
  refine am (PC.get i _ (List.getElem?_eq_getElem XT)) fun tv ev=>?_;rw [hv] at ev
  cases ev
  rw [Fw (List.getElem?_eq_getElem XT)] at hM;generalize hww:(ofString ""::(Nw++[ofString ""]))[i]=ww at hM F2 N2 ⊢
  have hwl:ww.length<=y.length\/y.length<ww.length:=by exact CH
  rcases jj y ww p hp with ⟨e1,_⟩|⟨k,e1,e2,e3,_,_⟩
  ·have hf:jA y ww p= -1:=by unfold jA;rw [e1]
   rw [e1] at hM;k_steps
   (rename Ret _=>hr)
   have hq:=hr.out _ (by assumption) (fun _ h=>(nomatch h)) (by walk_at "kept") (by walk_at "same");rw [hM] at hq;exact hq
  ·have hf:jA y ww p=(k:Int):=by unfold jA;rw [e1]
   rw [e1] at hM
   have UC:¬((k:Int)<0):=by exact nQ
   k_steps;walk_at "loopend";exact ⟨YU,⟨te,me⟩,⟨k+ww.length,_,rfl,e3,hM⟩,rfl⟩
 case done=>
  intros m' led s₁ aj;refine bO aj fun YU aZ bU dK=>?_;clear aj;refine am aZ fun te me=>?_;clear aZ;refine bl bU fun p tk pH=>?_;clear bU;refine aI pH fun mp hp hM=>?_;clear pH;subst dK;intros F2 N2 S2;rw [List.drop_eq_nil_of_le (by simp only [List.length_cons,List.length_append,List.length_nil];exact CG UF)] at hM;k_steps
  (rename Ret _=>hr)
  have hq:=hr.out _ (by assumption) (fun _ h=>(nomatch h)) (by walk_at "kept") (by walk_at "same");rw [hM] at hq;exact hq
end
section
open PySem.Builtin PySem.Builtin.Str
theorem tm {α:Type} (f:α->PySem.Str) (a:α):∀l:List α,(l.map f).Pairwise be->(∀b∈l,f a≠f b)->∃s:List α,s.Perm (a::l)/\(s.map f).Pairwise be
 |[],_,_=>⟨[a], .refl _,by simp⟩
 |b::l,h,hn=>by
  rw [List.map_cons,List.pairwise_cons] at h;refine Or.elim (xj (hn b (.head _))) (fun bW=>?_) fun bW=>?_
  ·refine ⟨a::b::l, .refl _,?_⟩
   rw [List.map_cons,List.map_cons,List.pairwise_cons,List.pairwise_cons];refine ⟨fun x hx=>?_,h⟩
   rcases aB hx with rfl|hx
   ·exact bW
   ·exact qD bW (h.1 x hx)
  ·refine am (tm f a l h.2 fun c hc=>hn c (.tail _ hc)) fun s aj=>?_;refine ak aj fun hs hp=>?_
   refine ⟨b::s,(hs.cons b).trans (.swap a b l),?_⟩;rw [List.map_cons,List.pairwise_cons];refine ⟨fun x hx=>?_,hp⟩;refine am (aP hx) fun c aj=>?_;refine ak aj fun hc aZ=>?_;subst aZ
   rcases aB (hs.mem_iff.mp hc) with rfl|hc
   ·exact bW
   ·exact h.1 _ (List.mem_map_of_mem hc)
theorem kQ {α:Type} (f:α->PySem.Str):∀l:List α,l.Nodup->(∀a∈l,∀b∈l,f a=f b->a=b)->∃s:List α,s.Perm l/\(s.map f).Pairwise be
 |[],_,_=>⟨[], .refl _, .nil⟩
 |a::l,hn,hi=>by
  rw [List.nodup_cons] at hn;refine am (kQ f l hn.2 fun x hx y hy=>hi x (.tail _ hx) y (.tail _ hy)) fun s aj=>?_;refine ak aj fun hs hp=>?_
  obtain ⟨s2,hs2,Ux⟩:=tm f a s hp fun b hb e=>hn.1 (by
   have:=hi a (.head _) b (.tail _ (hs.mem_iff.mp hb)) e
   rw [this];exact hs.mem_iff.mp hb)
  exact ⟨s2,hs2.trans (hs.cons a),Ux⟩
theorem Gi {a b:List Nat} (x y:List Nat):a<b->¬a <+:b->a++x<b++y:=by
 intro h hp
 induction h with
 |nil=>exact absurd (List.nil_prefix) hp
 |rel h=>exact .rel h
 |cons h ih=>exact .cons (ih fun q=>hp (List.cons_prefix_cons.mpr ⟨rfl,q⟩))
theorem sO (x:List Nat) {a b:List Nat} (h:a<b):x++a<x++b:=by
 induction x with
 |nil=>exact h
 |cons c x ih=>exact .cons ih
theorem ng {a b:PySem.Str}:be a b↔cl a<cl b:=Iff.rfl
theorem xk (x:PySem.Str) {a b:PySem.Str} (h:be a b):be (x++a) (x++b):=by
 rw [ng,bF,bF];exact sO _ h
theorem xl {a b:PySem.Str} (ha:125∉cl a) (hb:125∉cl b) (h:be (a++ofString "}") (b++ofString "}")):be (aS a) (aS b):=by
 rw [ng,bF,bF,show cl (ofString "}")=[125] from rfl] at h;show cl (ofString "{"++a++ofString "}k")<cl (ofString "{"++b++ofString "}k");rw [bF,bF,bF,bF,show cl (ofString "}k")=[125]++[107] from rfl,List.append_assoc,List.append_assoc,<-List.append_assoc (cl a),<-List.append_assoc (cl b)];refine sO _ (Gi _ _ h fun hp=>?_);refine am hp fun r hr=>?_;clear hp
 have dR:r≠[]:=by
  intro aj;subst aj;rw [List.append_nil] at hr;rw [hr] at h;exact List.lt_irrefl _ h
 refine bl ((List.eq_nil_or_concat r).resolve_left dR) fun r' z aj=>?_;subst aj;rw [List.concat_eq_append,<-List.append_assoc] at hr;refine ak (List.append_inj' hr rfl) fun h1 _=>?_;exact hb (by rw [<-h1];simp)
theorem kO {α:Type} {R:α->α->Prop} (hR:∀a b,R a b->¬R b a):∀{l2 l1:List α},l1.Pairwise R->l2.Pairwise R->(∀x∈l1,x∈l2)->l1.Sublist l2
 |_,[],_,_,_=>List.nil_sublist _
 |[],a::_,_,_,h=>nomatch h a (.head _)
 |b::l2,a::l1,h1,h2,h=>by
  have p1:=h1;have p2:=h2;rw [List.pairwise_cons] at h1 h2
  by_cases e:a=b
  ·subst e
   refine List.Sublist.cons_cons a (kO hR h1.2 h2.2 fun x hx=>?_)
   rcases aB (h x (.tail _ hx)) with rfl|q
   ·exact absurd (h1.1 _ hx) (fun q=>hR _ _ q q)
   ·exact q
  ·have ha:a∈l2:=(aB (h a (.head _))).resolve_left e
   refine List.Sublist.cons b (kO hR p1 h2.2 fun x hx=>?_)
   rcases aB (h x hx) with rfl|q
   ·rcases aB hx with rfl|q
    ·exact absurd rfl e
    ·exact absurd (h1.1 _ q) (hR _ _ (h2.1 _ ha))
   ·exact q
structure TokS (x:PySem.Str):Prop where
 ex:∃a v,cl x=32::(a++34::(v++[34]))/\34∉a/\34∉v/\32∉a/\32∉v
theorem lQ {a a' b b':List Nat} (h:a++34::b <+:a'++34::b') (ha:34∉a) (Po:34∉a'):a=a'/\b <+:b':=by
 induction a generalizing a' with
 |nil=>
  match a',Po,h with
  |[],_,h=>exact ⟨rfl,(List.cons_prefix_cons.mp h).2⟩
  |c::r,Po,h=>exact absurd (List.cons_prefix_cons.mp h).1 (fun e=>Po (by rw [e];exact .head _))
 |cons c r ih=>
  match a',Po,h with
  |[],_,h=>exact absurd (List.cons_prefix_cons.mp h).1 (fun e=>ha (by rw [<-e];exact .head _))
  |c'::r',Po,h=>
   refine ak (List.cons_prefix_cons.mp h) fun e h=>?_;refine ak (ih (a':=r') h (fun q=>ha (.tail _ q)) (fun q=>Po (.tail _ q))) fun h1 h2=>?_;exact ⟨by rw [e,h1],h2⟩
theorem wB {x y:PySem.Str} {r:List Nat} (hx:TokS x) (hy:TokS y) (h:cl x <+:cl y++r):x=y:=by
 refine bl hx.ex fun a v aj=>?_;refine bO aj fun e1 a1 a2 _=>?_;refine bl hy.ex fun b u aj=>?_;refine bO aj fun e2 b1 b2 _=>?_;rw [e1,e2] at h;simp only [List.cons_append,List.append_assoc] at h;refine ak (List.cons_prefix_cons.mp h) fun _ h=>?_;refine ak (lQ h a1 b1) fun h1 h=>?_;refine ak (lQ h a2 b2) fun h2 _=>?_;exact ed (by rw [e1,e2,h1,h2])
theorem wA {x:PySem.Str} (h:TokS x):1<=x.length:=by
 refine bl h.ex fun a v aj=>?_;refine ak aj fun e _=>?_;rw [<-bK,e];simp
theorem wP {x y:PySem.Str} {i:Nat} (h:subAt x y i=true):cl y <+:(cl x).drop i:=by
 rw [kP] at h;rw [<-h];exact List.take_prefix _ _
theorem qt (x:PySem.Str) (i:Nat):subAt x (ofString "") i=true:=by
 rw [kP];exact List.take_zero ..
theorem oG (x:PySem.Str) (p:Nat) (hp:p<=x.length):occurrences x (ofString "") p x.length 1=[p]:=by
 rcases jj x (ofString "") p hp with ⟨_,h⟩|⟨k,e,h1,_,_,h2⟩
 ·have:=h p (Nat.le_refl _) hp
  rw [qt] at this;cases this
 ·refine Or.elim (Nat.lt_or_eq_of_le h1) (fun h3=>?_) fun h3=>?_
  ·have:=h2 p (Nat.le_refl _) h3
   rw [qt] at this;cases this
  ·rw [e,h3]
theorem Fu (T:PySem.Str):∀(toks ws:List PySem.Str) (o p:Nat),(∀t∈toks,TokS t)->(∀t∈ws,TokS t)->(cl T).drop o=(toks.map cl).flatten++[62]->p<=o->o<=T.length->
  (∀w r,ws=w::r->∀i,p<=i->i<o->subAt T w i=false)->cR T p (ws++[ofString ""])=List.isSublist ws toks:=by
 intro toks
 induction toks with
 |nil=>
  intros ws o p _ hw hd hp ho hn
  match ws with
  |[]=>
   show cR T p [ofString ""]=true;unfold cR;rw [oG T p (hV hp ho)];rfl
  |w::r=>
   show cR T p (w::(r++[ofString ""]))=false;unfold cR
   rcases jj T w p (hV hp ho) with ⟨e,_⟩|⟨k,e,h1,h2,h3,_⟩
   ·rw [e]
   ·refine bl ((hw w (.head _)).ex) fun a v aj=>?_;refine ak aj fun ew _=>?_
    have h4:=iT ew h3
    by_cases hk:k<o
    ·rw [hn w r rfl k h1 hk] at h3;cases h3
    ·have h5:((cl T).drop o)[k - o]?=some 32:=by rw [List.getElem?_drop,show o+(k - o)=k by exact zn hk];exact h4
     rw [hd] at h5;have:=List.mem_of_getElem? h5;simp at this
 |cons t toks ih=>
  intros ws o p ht hw hd hp ho hn
  have Mn:(cl T).drop o=cl t++((toks.map cl).flatten++[62]):=by rw [hd];simp
  have Um:(cl T).drop (o+t.length)=(toks.map cl).flatten++[62]:=by rw [<-List.drop_drop,Mn,<-bK,List.drop_left]
  have ba:T.length - o=t.length+((toks.map cl).flatten.length+1):=by
   have:=congrArg List.length Mn;simp only [List.length_drop,List.length_append,bK,List.length_cons,List.length_nil] at this;exact ze this
  have htl:=wA (ht t (.head _))
  have H_:∀w,TokS w->∀i,o<i->i<o+t.length->subAt T w i=false:=by
   intros w hw i h1 h2
   cases hs:subAt T w i with
   |false=>rfl
   |true=>
    refine bl hw.ex fun a v aj=>?_;refine ak aj fun ew _=>?_;refine bl ((ht t (.head _)).ex) fun b u aj=>?_;refine bv aj fun et _ _ b3 b4=>?_;have h4:=iT ew hs
    have h5:((cl T).drop o)[i - o]?=some 32:=by rw [List.getElem?_drop,show o+(i - o)=i by exact zd h1];exact h4
    rw [Mn,List.getElem?_append_left (by rw [bK];exact zb h2 h1),et] at h5;obtain ⟨j,hj⟩:∃j,i - o=j+1:=⟨i - o - 1,by exact za h1⟩;rw [hj,List.getElem?_cons_succ] at h5;have:=List.mem_of_getElem? h5;simp only [List.mem_append,List.mem_cons,List.not_mem_nil,or_false] at this
    rcases this with h|h|h|h
    ·exact absurd h b3
    ·cases h
    ·exact absurd h b4
    ·cases h
  match ws with
  |[]=>
   show cR T p [ofString ""]=true;unfold cR;rw [oG T p (hV hp ho)];rfl
  |w::r=>
   show cR T p (w::(r++[ofString ""]))=_
   by_cases e:w=t
   ·subst e
    have Md:subAt T w o=true:=mZ Mn
    have Zx:occurrences T w p T.length 1=[o]:=by
     rcases jj T w p (hV hp ho) with ⟨_,h⟩|⟨k,e,h1,h2,h3,h4⟩
     ·have:=h o hp (nE ba)
      rw [Md] at this;cases this
     ·have hk:k=o:=by
       rcases Nat.lt_trichotomy k o with h|h|h
       ·rw [hn w r rfl k h1 h] at h3;cases h3
       ·exact h
       ·have:=h4 o hp h
        rw [Md] at this;cases this
      rw [e,hk]
    unfold cR;rw [Zx];show cR T (o+w.length) (r++[ofString ""])=_;rw [ih r (o+w.length) (o+w.length) (fun x hx=>ht x (.tail _ hx)) (fun x hx=>hw x (.tail _ hx)) Um (Nat.le_refl _) (nE ba) (fun _ _ _ i h1 h2=>absurd h1 (yZ h2))];simp [List.isSublist]
   ·have Tj:subAt T w o=false:=by
     cases hs:subAt T w o with
     |false=>rfl
     |true=>
      have h1:=wP hs;rw [Mn] at h1;exact absurd (wB (hw w (.head _)) (ht t (.head _)) h1) e
    have:=ih (w::r) (o+t.length) p (fun x hx=>ht x (.tail _ hx)) hw Um (qS hp) (nE ba) (fun w' r' e' i h1 h2=>by
     cases e'
     rcases Nat.lt_trichotomy i o with h|h|h
     ·exact hn w r rfl i h1 h
     ·rw [h];exact Tj
     ·exact H_ w (hw w (.head _)) i h h2)
    rw [List.cons_append] at this;rw [this]
    have e2:(w == t)=false:=by simp [e]
    simp [List.isSublist,e2]
theorem iv (l:List PySem.Str):cl (Txt.join (ofString "") l)=(l.map cl).flatten:=by
 show cl (glued (ofString "") l)=_;rw [PySem.StrLaws.glued_eq_join]
 match l with
 |[]=>rfl
 |[p]=>simp [Str.join]
 |p::q::r=>
  rw [fN];have:=iv (q::r)
  have e:cl (Txt.join (ofString "") (q::r))=cl (Str.join (ofString "") (q::r)):=by
   show cl (glued (ofString "") (q::r))=_;rw [PySem.StrLaws.glued_eq_join]
  rw [<-e,this];simp [show cl (ofString "")=[] from rfl]
theorem Fv (row:List PySem.Str) (T:PySem.Str) (ws:List PySem.Str) (hT:cl T=[60,101]++((row.map cl).flatten++[62])) (h1:∀t∈row,TokS t) (h2:∀t∈ws,TokS t):
  cR T 0 (ofString ""::(ws++[ofString ""]))=List.isSublist ws row:=by
 have hl:T.length=2+((row.map cl).flatten++[62]).length:=by rw [<-bK,hT];simp;exact yY
 unfold cR;rw [oG T 0 (Nat.zero_le _)];show cR T 0 (ws++[ofString ""])=_;refine Fu T row ws 2 0 h1 h2 (by rw [hT];rfl) (yX) (yW hl) ?_;intros w r e i _ hi
 cases hs:subAt T w i with
 |false=>rfl
 |true=>
  refine bl ((h2 w (by rw [e];exact .head _)).ex) fun a v aj=>?_;refine ak aj fun ew _=>?_;have h4:=iT ew hs;rw [hT] at h4
  have LV:i=0\/i=1:=by exact yV hi
  rcases LV with rfl|rfl<;>simp at h4
end
theorem JU:True:=by
 (k_with "execs cons"=>((k_here;(with_reducible show wpAny _ _ (execs (Stmt.For (Expr.Name (ofString "k") _) _ _ _ _::_) _) _ _ _);refine Stop.out ?_)))
 trivial
noncomputable def nsTab:List (Str×Str):=[(ofString "http://www.w3.org/XML/1998/namespace",ofString "xml"),(ofString "http://www.w3.org/1999/xhtml",ofString "html"),(ofString "http://www.w3.org/1999/02/22-rdf-syntax-ns#",ofString "rdf"),(ofString "http://schemas.xmlsoap.org/wsdl/",ofString "wsdl"),(ofString "http://www.w3.org/2001/XMLSchema",ofString "xs"),(ofString "http://www.w3.org/2001/XMLSchema-instance",ofString "xsi"),(ofString "http://purl.org/dc/elements/1.1/",ofString "dc")]
theorem Hq:∀(D:List (Str×Str)) (kvs:List (Str×Value)),PyProof.V.FlatPairs PyData.str kvs (D.map fun p=>(PyData.str p.1,PyData.str p.2))->kvs.length=D.length/\∀(i:Nat) p,D[i]?=some p->∃t,kvs[i]?=some (p.1, .str p.2 t):=by
 intro D
 induction D with
 |nil=>intro kvs h;cases h;exact ⟨rfl,fun i p h=>by simp at h⟩
 |cons a r ih=>
  intro kvs h;rw [List.map_cons] at h
  cases h with
  |cons h1 h2=>
   refine am h1.str_inv fun t aj=>?_;subst aj;refine ak (ih _ h2) fun e1 e2=>?_;refine ⟨by rw [List.length_cons,List.length_cons,e1],fun i p hp=>?_⟩
   cases i with
   |zero=>simp at hp;subst hp;exact ⟨t,rfl⟩
   |succ i=>simp at hp;refine am (e2 i p hp) fun t' e=>?_;exact ⟨t',by simpa using e⟩
theorem wx {w:World} {g:Heap} (X:(hd.heap_39 w.params).In g) (prog:Program):∃kvs,g.DictOf (PySem.strKind prog w) 44 kvs/\PyProof.V.FlatPairs PyData.str kvs (nsTab.map fun p=>(PyData.str p.1,PyData.str p.2)):=by
 have h:=kt_tab_in prog w X (a:=44) (D:=nsTab.map fun p=>(p.1,PyData.str p.2)) (by kernel_rfl) (by decide+kernel) (by rfl);refine ak h fun lo aj=>?_;clear h;refine am aj fun kvs aZ=>?_;refine ak aZ fun h1 h2=>?_;rw [List.map_map] at h2;exact ⟨kvs,h1,h2⟩
section
variable {prog:Program} {w:World} {A:Around} {E:Value->Shared->Prop} {s:Shared} {h₀:Heap} {L:Addr} {m:Str->Option Value} {news:ax}
theorem GE {d:Addr} {kvs:List (Str×Value)} {pl:Sem Bool} {Q:Value×List Value->Shared->Prop} (hD:s.heap.DictOf (PySem.strKind prog w) d kvs) (h:Q (.builtin "dict.items",[.ref d]) s):wpAny (model prog w) A (getMethod (.ref d) (ofString "items") pl) Q E s:=
 getMethod_builtin hD.typeIs PySem.F.plainAttrs_dict PySem.F.slot_dict_items PySem.F.type_dict_items hD.mapOf.noDict h
theorem GC {d:Addr} {kvs:List (Str×Value)} {Q:Value->Shared->Prop} (F:Fr h₀ L s.heap m) (N:News h₀ L s.heap news) (hD:s.heap.DictOf (PySem.strKind prog w) d kvs) (lo:(d == sysModules)=false)
  (h:∀(D:Addr) h',Fr h₀ L h' m->News h₀ L h' ((D,{cls:= .type "dict_items",data:= .fields #[.ref d]})::news)->(∀q∈news,q.1<D)->Q (.ref D) {s with heap:=h'}):
  wpAny (model prog w) A (call (.builtin "dict.items") [.ref d]) Q E s:=
 call_meetsIn PySem.F.slot_dict_items hD.typeIs PySem.F.entry_dict_items (PySem.F.args_dict_items_1 _) (meets_dict_items _ d lo) ⟨⟨kvs,hD⟩,h _ _ (F.push _) (News.push F N _) fun q hq=>Heap.lt_size (N q hq).1⟩
theorem Gh {r d:Addr} {kvs:List (Str×Value)} {Q:Value->Shared->Prop} (hh:A.handled=none) (F:Fr h₀ L s.heap m) (N:News h₀ L s.heap news) (VB:(r,{cls:= .type "dict_items",data:= .fields #[.ref d]})∈news) (hD:s.heap.DictOf (PySem.strKind prog w) d kvs) (hn:kvs.length<=1000)
  (h:∀(B:Addr) fm c dg h' tk,Fr h₀ L h' m->News h₀ L h' ((B,listOf fm c)::(news++dg))->(∀q∈news,q.1<B)->(∀q∈dg,B<q.1/\q.2.cls= .type "tuple")->fm.size=kvs.length->
   (∀(i:Nat) k v,kvs[i]?=some (k,v)->∃a t,fm[i]?=some (.ref a)/\(a,aO [.str k t,v])∈dg)->Q (.ref B) {s with heap:=h',toks:=tk}):
  wpAny (model prog w) A (call (.type "list") [.ref r]) Q E s:=by
 refine am hD.dictAt fun ep Md=>?_;refine kdx_call hh ⟨_,(N _ VB).1,rfl,rfl⟩ Md (by rw [sizeLine_eq];exact fZ hn) fun h' tk fm c as hk WD ba hG Sa=>?_
 have UO:∀a∈as,∃key x,h'.get? a=some (aO [key,x]):=fun a ha=>by
  refine am (List.mem_iff_getElem?.mp ha) fun j hj=>?_;refine aW (hG.pairs j a hj) fun key k x aj=>?_;refine aI aj fun _ _ e=>?_;exact ⟨key,x,e⟩
 have hB:s.heap.objs.size<h'.objs.size:=Heap.lt_size WD;refine h s.heap.objs.size fm c (as.map fun a=>(a,(h'.get? a).getD (aO []))) h' tk (F.keeps hk) (fun p hp=>?_) (fun q hq=>Heap.lt_size (N q hq).1) (fun q hq=>?_) ?_ ?_
 ·rcases aB hp with rfl|hp
  ·exact ⟨WD,kdx_fresh F (Nat.le_refl _)⟩
  ·refine Or.elim (aE hp) (fun hp=>?_) fun hp=>?_
   ·exact ⟨hk _ _ (N p hp).1,(N p hp).2⟩
   ·refine am (aP hp) fun a aj=>?_;refine ak aj fun ha aZ=>?_;subst aZ
    refine bl (UO a ha) fun key x e=>?_;exact ⟨by rw [e];rfl,kdx_fresh F (Nat.le_of_lt (hG.above a ha))⟩
 ·refine am (aP hq) fun a aj=>?_;refine ak aj fun ha aZ=>?_;subst aZ
  refine bl (UO a ha) fun key x e=>?_;exact ⟨hG.above a ha,by rw [e];rfl⟩
 ·rw [<-Array.length_toList,Sa,List.length_map,ba]
 ·intros i k v hi
  have fW:i<as.length:=by rw [ba];exact (List.getElem?_eq_some_iff.mp hi).1
  refine aW (hG.pairs i as[i] (List.getElem?_eq_getElem fW)) fun key k' x aj=>?_;refine aI aj fun e1 e2 e3=>?_;rw [hi] at e1
  cases e1
  refine am (Value.isStrOf_shape e2) fun t aj=>?_;subst aj;refine ⟨as[i],t,?_,List.mem_map.mpr ⟨as[i],List.getElem_mem fW,by rw [e3];rfl⟩⟩;rw [<-Array.getElem?_toList,Sa,List.getElem?_map,List.getElem?_eq_getElem fW];rfl
end
theorem JS:True:=by
 (k_with "getMethod ref"=>((k_here;(with_reducible show wpAny _ _ (getMethod (Value.ref 44) _ _) _ _ _);refine Stop.out ?_)))
 (k_with "call type:list"=>((k_here;refine Stop.out ?_)))
 trivial
noncomputable abbrev qc (P:Params) (wr da de ns:Addr) (k0 k1 k2 k3 k4 k5 k6 k7 k8 k9 Pl:Tok):List DictEntry:=
 [cp P "_write" k0 (.ref wr),cp P "_data" k1 (.ref da),cp P "_with_comments" k2 (.bool false),cp P "_strip_text" k3 (.bool false),
  cp P "_exclude_attrs" k4 .none,cp P "_exclude_tags" k5 .none,cp P "_rewrite_prefixes" k6 (.bool false),cp P "_qname_aware_tags" k7 .none,
  cp P "_find_qname_aware_attrs" k8 .none,cp P "_declared_ns_stack" k9 (.ref de),cp P "_ns_stack" Pl (.ref ns)]
theorem lV {q:Addr} {l:ax} (h:AllLt q l):∀p∈l, @LT.lt Nat _ p.1 q:=by
 induction l with
 |nil=>exact fun _ h=>nomatch h
 |cons a r ih=>
  intro p hp
  rcases aB hp with rfl|hp
  ·exact h.1
  ·exact ih h.2 p hp
noncomputable def qo:List Tok->Nat->Tok
 |[],_=>0
 |a::_,0=>a
 |_::r,n+1=>qo r n
noncomputable def pI (fm:Array Value) (dg:ax):Prop:=fm.size=7/\∀(i:Nat) p,nsTab[i]?=some p->∃a t1 t2,fm[i]?=some (.ref a)/\(a,aO [.str p.1 t1, .str p.2 t2])∈dg
noncomputable def ki (w:World) (p:Program) (a_:List Str) (bz:ExcName->Option Value) (mg mb:Str->Option Value) (g:Heap) (L:Addr) (m:Str->Option Value) (s:Shared) (Q:Flow->Shared->Prop) (E:Value->Shared->Prop) (A:Around) (W d nd wr da de ns:Addr) (k0 k1 k2 k3 k4 k5 k6 k7 k8 k9 Pl:Tok) (rest:ax):Prop:=∀⦃oc:Value⦄ ⦃an:Option Addr⦄ ⦃name qual:Str⦄ ⦃params:Arguments⦄ ⦃body:List Stmt⦄ ⦃scope:Scope⦄ ⦃dV kV gF pm cA ct:Value⦄ ⦃l_:Array (Option Value)⦄ ⦃z_:Option Addr⦄ (ho:(hd.heap_39 w.params).lookup 67=some ⟨oc,z_, .func (fnOf name qual params body scope dV kV gF pm an cA ct),l_⟩) (hh:A.handled=none) (X:(hd.heap_39 w.params).In g) (T:Top p a_ bz mg mb g) (F:Fr g L s.heap m) (N:News g L s.heap ((W,instObj 150 d)::(d,dictOf (qc w.params wr da de ns k0 k1 k2 k3 k4 k5 k6 k7 k8 k9 Pl) 11)::(ns,listOf #[] nd)::rest)) (mS:m (ofString "self")=some (.ref W)) (mR:m (ofString "rewrite_prefixes")=some (.bool false)) (n1: @Ne Nat W d) (eM: @Ne Nat W ns) (n3: @Ne Nat d ns) (o1:∀r∈rest, @Ne Nat r.1 d) (o2:∀r∈rest, @Ne Nat r.1 ns) (hQ:∀(x:WS) n0 n1 NW c fm NZ kp dg (s':Shared),x.write=wr->x.data=da->x.decl=de->x.nss=ns->Fr g L s'.heap m->News g L s'.heap ((W,instObj 150 d)::(d,dictOf (ci w.params x false false) 17)::(x.nss,listOf #[Value.ref n0, .ref n1] NW)::(n0,listOf fm c)::(n1,listOf #[] 0)::(x.pres,listOf #[.bool false] kp)::(x.pmap,NZ)::(rest++dg))->
  pI fm dg->(@LT.lt Nat _ W n0/\ @LT.lt Nat _ d n0/\ @LT.lt Nat _ x.nss n0/\ @LT.lt Nat _ n0 n1/\ @LT.lt Nat _ n1 x.pmap/\ @LT.lt Nat _ x.pmap x.pres)->(∀r∈rest, @LT.lt Nat _ r.1 n0)->(∀r∈dg,r.2.cls= .type "tuple"/\ @LT.lt Nat _ n0 r.1/\ @LT.lt Nat _ r.1 n1)->aM s s'->Q .next s'),
 wpAny (model rw_ty0067_01.row.prog w) (A.deeper (envOf qual scope L 67 cA)) (execs (body.drop 11) (envOf qual scope L 67 cA)) Q E s
noncomputable def vA:=bA (gj ki) ((bw,default,[],fun _=>none,fun _=>none,fun _=>none,{},0),(fun _=>none,{},fun _ _=>True,fun _ _=>True,callerA,0,0,0),(0,0,0,0,0,0,0,0),(0,0,0,0,0,0,0,[]))
theorem GN:∀{w p a_ bz mg mb g L m s Q E A W d nd wr da de ns k0 k1 k2 k3 k4 k5 k6 k7 k8 k9 Pl rest},ki w p a_ bz mg mb g L m s Q E A W d nd wr da de ns k0 k1 k2 k3 k4 k5 k6 k7 k8 k9 Pl rest:=by
 intros;apply ii ki (c:=vA) rfl;apply (?zg:gR ki);intros w p a_ bz mg mb g L m s Q E A W d nd wr da de ns k0 k1 k2 k3 k4 k5 k6 k7 k8 k9 Pl rest;intros oc an name qual params body scope dV kV gF pm cA ct l_ z_ ho hh X T F N mS mR n1 eM n3 o1 o2 hQ;revert qual body scope cA;k_fill;refine' no_implicit_lambda% (dd (K:=hd.heap_39 w.params) (f:=67) ?h1 ?main)
 case h1=>k_is
 dsimp only [List.drop];dsimp only [qc,cp] at N;k_steps;refine ⟨?_⟩;refine am (wx X rw_ty0067_01.row.prog) fun nkv aj=>?_;refine ak aj fun Ws hfl=>?_;clear aj;refine ak (Hq _ _ hfl) fun Le PE=>?_;refine GE (Ws.keep (by rename Fr _ _ _ _=>F9;exact F9.keep)) ?_;dsimp only;k_steps;rename Fr _ _ _ _=>F1;rename News _ _ _ _=>N1;refine GC F1 N1 (Ws.keep F1.keep) (by decide) fun D8 h8 F8 N8 l8=>?_;clear N1 F1;k_steps;refine ⟨?_⟩;rename Fr _ _ _ _=>F1;rename News _ _ _ _=>N1;refine Gh hh F1 N1 (.head _) (Ws.keep F1.keep) (by rw [Le];decide) fun B fm c dg h9 tk9 F9 N9 Sn UH hsz Md=>?_;have SH:=Sn (d,_) (by k_mem);have Vo:=Sn (ns,_) (by k_mem);have o3:∀r∈rest++dg, @Ne Nat r.1 d:=fun r hr=>(aE hr).elim (o1 r) fun h=>Nat.ne_of_gt (Nat.lt_trans SH (UH r h).1);have o4:∀r∈rest++dg, @Ne Nat r.1 ns:=fun r hr=>(aE hr).elim (o2 r) fun h=>Nat.ne_of_gt (Nat.lt_trans Vo (UH r h).1);have ltD:=Sn (D8,_) (.head _);have ltW:=Sn (W,_) (by k_mem);simp only [List.cons_append] at N9;generalize ST:rest++dg=Pv at N9 o3 o4;have nB1: @Ne Nat B d:=Nat.ne_of_gt SH;have nB2: @Ne Nat B ns:=Nat.ne_of_gt Vo
 k_lt l8
 clear N1 F1
 have Vw:fm.size=7:=by rw [hsz,Le];rfl
 k_steps;rename_i _ _ r1 _ l1 _ _ pm _ NZ _ _ _ _ _ l2 _ pr _ l3 _ _ _ _ _ F3 N3;subst ST;have ltT:=fun r hr=>lV l1.2.2.2.2.2 r (ay rest hr);refine' hQ ⟨wr,da,de,ns,pm,pr,qo [k0,k1,k2,k3,k4,k5,k6,k7,k8,k9,Pl,_,_,_,_,_,_,_]⟩ B r1 _ c fm NZ _ dg _ rfl rfl rfl rfl F3 (bf N3 ?led) ?rows ⟨ltW,SH,Vo,l1.1,l2.1,l3.1⟩ (fun r hr=>Sn r (by exact bI 4 rfl hr)) (fun r hr=>⟨(UH r hr).2,(UH r hr).1,ltT r hr⟩) SameF.refl
 case led=>walk_at "allinT"
 case rows=>
  refine ⟨Vw,fun i p hp=>?_⟩;refine am (PE i p hp) fun t e=>?_;refine bl (Md i p.1 _ e) fun a t1 aj=>?_;refine ak aj fun e1 e2=>?_;clear aj;exact ⟨a,t1,t,e1,e2⟩
theorem JR:True:=by
 (k_with "execs cons"=>((k_here;(with_reducible show wpAny _ _ (execs (Stmt.If (Expr.UnaryOp _ (Expr.Name (ofString "rewrite_prefixes") _) _) _ _ _::_) _) _ _ _);refine Stop.out ?_)))
 trivial
noncomputable def kj (w:World) (p:Program) (a_:List Str) (bz:ExcName->Option Value) (mg mb:Str->Option Value) (g:Heap) (L:Addr) (m:Str->Option Value) (s:Shared) (Q:Flow->Shared->Prop) (E:Value->Shared->Prop) (A:Around) (W d wr:Addr) (rest:ax):Prop:=∀⦃oc:Value⦄ ⦃an:Option Addr⦄ ⦃name qual:Str⦄ ⦃params:Arguments⦄ ⦃body:List Stmt⦄ ⦃scope:Scope⦄ ⦃dV kV gF pm cA ct:Value⦄ ⦃l_:Array (Option Value)⦄ ⦃z_:Option Addr⦄ (ho:(hd.heap_39 w.params).lookup 67=some ⟨oc,z_, .func (fnOf name qual params body scope dV kV gF pm an cA ct),l_⟩) (hh:A.handled=none) (X:(hd.heap_39 w.params).In g) (T:Top p a_ bz mg mb g) (F:Fr g L s.heap m) (N:News g L s.heap ((W,instObj 150 d)::(d,dictOf [] 0)::rest)) (m1:m (ofString "self")=some (.ref W)) (m2:m (ofString "write")=some (.ref wr)) (m3:m (ofString "with_comments")=some (.bool false)) (m4:m (ofString "strip_text")=some (.bool false)) (m5:m (ofString "rewrite_prefixes")=some (.bool false)) (m6:m (ofString "qname_aware_tags")=some .none) (m7:m (ofString "qname_aware_attrs")=some .none) (m8:m (ofString "exclude_attrs")=some .none) (m9:m (ofString "exclude_tags")=some .none) (n1: @Ne Nat W d) (o1:∀r∈rest, @Ne Nat r.1 d) (hQ:∀(x:WS) n0 n1 r0 xt t1 t2 NW nd nr na c fm NZ kp dg (s':Shared),x.write=wr->Fr g L s'.heap m->News g L s'.heap ((W,instObj 150 d)::(d,dictOf (ci w.params x false false) 17)::(x.data,listOf #[] na)::(x.nss,listOf #[Value.ref n0, .ref n1] NW)::(x.decl,listOf #[Value.ref r0] nd)::(r0,listOf #[Value.ref xt] nr)::(xt,aO [.str (ofString "http://www.w3.org/XML/1998/namespace") t1, .str (ofString "xml") t2])::(n0,listOf fm c)::(n1,listOf #[] 0)::(x.pres,listOf #[.bool false] kp)::(x.pmap,NZ)::(rest++dg))->
  pI fm dg->(@LT.lt Nat _ W x.data/\ @LT.lt Nat _ d x.data/\ @LT.lt Nat _ x.data xt/\ @LT.lt Nat _ xt r0/\ @LT.lt Nat _ r0 x.decl/\ @LT.lt Nat _ x.decl x.nss/\ @LT.lt Nat _ x.nss n0/\ @LT.lt Nat _ n0 n1/\ @LT.lt Nat _ n1 x.pmap/\ @LT.lt Nat _ x.pmap x.pres)->(∀r∈rest, @LT.lt Nat _ r.1 x.data)->(∀r∈dg,r.2.cls= .type "tuple"/\ @LT.lt Nat _ n0 r.1/\ @LT.lt Nat _ r.1 n1)->aM s s'->Q .next s'),
 wpAny (model rw_ty0067_01.row.prog w) (A.deeper (envOf qual scope L 67 cA)) (execs body (envOf qual scope L 67 cA)) Q E s
noncomputable def vB:=bA (gQ kj) ((bw,default,[],fun _=>none,fun _=>none,fun _=>none,{},0),(fun _=>none,{},fun _ _=>True,fun _ _=>True,callerA,0,0,0),[])
theorem GO:∀{w p a_ bz mg mb g L m s Q E A W d wr rest},kj w p a_ bz mg mb g L m s Q E A W d wr rest:=by
 intros;apply eO kj (c:=vB) rfl;apply (?zg:eE kj);intros w p a_ bz mg mb g L m s Q E A W d wr rest;intros oc an name qual params body scope dV kV gF pm cA ct l_ z_ ho hh X T F N m1 m2 m3 m4 m5 m6 m7 m8 m9 n1 o1 hQ;have LX:=fun {m s Q E A W d nd wr da de ns k0 k1 k2 k3 k4 k5 k6 k7 k8 k9 Pl rest}=> @GN w p a_ bz mg mb g L m s Q E A W d nd wr da de ns k0 k1 k2 k3 k4 k5 k6 k7 k8 k9 Pl rest oc an name qual params body scope dV kV gF pm cA ct l_ z_ ho;revert qual body scope cA;k_fill;refine' no_implicit_lambda% (dd (K:=hd.heap_39 w.params) (f:=67) ?h1 ?main)
 case h1=>k_is
 intro LX;dsimp only [List.drop] at LX;k_steps;refine ⟨?_⟩;rename_i da _ ld _ _ _ _ _ _ _ _ _ _ _ xt _ lx r0 _ lr de _ ldc _ ns _ ln _ FF NN
 have od:∀ta tb,∀r∈((de,listOf #[Value.ref r0] 0)::(r0,listOf #[Value.ref xt] 0)::(xt,aO [.str (ofString "http://www.w3.org/XML/1998/namespace") ta, .str (ofString "xml") tb])::(da,listOf #[] 0)::rest), @Ne Nat r.1 d:=by
  intro ta tb;simp only [List.forall_mem_cons];exact ⟨by k_ne,by k_ne,by k_ne,by k_ne,o1⟩
 have on:∀ta tb,∀r∈((de,listOf #[Value.ref r0] 0)::(r0,listOf #[Value.ref xt] 0)::(xt,aO [.str (ofString "http://www.w3.org/XML/1998/namespace") ta, .str (ofString "xml") tb])::(da,listOf #[] 0)::rest), @Ne Nat r.1 ns:=by
  intro ta tb;simp only [List.forall_mem_cons];exact ⟨by k_ne,by k_ne,by k_ne,by k_ne,iE (by walk_at "conj")⟩
 refine' LX (W:=W) (d:=d) (nd:=0) (wr:=wr) (da:=da) (de:=de) (ns:=ns) (rest:=(de,listOf #[Value.ref r0] 0)::(r0,listOf #[Value.ref xt] 0)::(xt,aO [.str (ofString "http://www.w3.org/XML/1998/namespace") _, .str (ofString "xml") _])::(da,listOf #[] 0)::rest) hh X T FF (bf NN ?led) m1 m5 n1 ?n2 ?n3 (od _ _) (on _ _) ?Q
 case led=>walk_at "allinT"
 case n2=>k_ne
 case n3=>k_ne
 case Q=>
  intros x n0 Wv NW c fm NZ kp dg s' e1 e2 e3 e4 F' N' hR bW Nl htl S';subst e1 e2 e3 e4;replace Nl:=cj Nl;dsimp only [FC] at Nl;refine hQ x n0 Wv r0 xt _ _ NW 0 0 0 c fm NZ kp dg s' rfl F' (bf N' (by exact cv [0,1,10,2,7,8,9,3,4,5,6] 11 rfl rfl)) hR ⟨ld.1,ld.2.1,lx.1,lr.1,ldc.1,ln.1,bW.2.2.1,bW.2.2.2.1,bW.2.2.2.2.1,bW.2.2.2.2.2⟩ (lV ld.2.2) htl (SameF.trans SameF.refl S')
noncomputable def Rise:List Nat->Prop
 |[]=>True
 |[_]=>True
 |a::b::r=>a<b/\Rise (b::r)
theorem Rise.pair:∀{l:List Nat},Rise l->l.Pairwise (·< ·)
 |[],_=> .nil
 |[a],_=>List.pairwise_singleton ..
 |a::b::r,h=>by
  have ih:=Rise.pair h.2;refine List.pairwise_cons.mpr ⟨fun z hz=>?_,ih⟩
  rcases aB hz with rfl|hz
  ·exact h.1
  ·exact Nat.lt_trans h.1 ((List.pairwise_cons.mp ih).1 z hz)
theorem Rise.nodup {l:List Nat} (h:Rise l):l.Nodup:=List.nodup_iff_pairwise_ne.mpr (h.pair.imp fun h=>Nat.ne_of_lt h)
theorem JP:True:=by
 (k_with "execs cons"=>((k_here;(with_reducible show wpAny _ _ (execs (Stmt.For (Expr.Name (ofString "k") _) _ _ _ _::_) _) _ _ _);refine Stop.out ?_)))
 (k_with "execs cons"=>((k_here;(with_reducible show wpAny _ _ (execs (Stmt.Assign [Expr.Attribute _ (ofString "_write") _] _ _::_) _) _ _ _);refine Stop.out ?_)))
 trivial
variable (w:World) (p:Program) (a_:List Str) (bz:ExcName->Option Value) (mg mb:Str->Option Value) (g:Heap) (L fa:Addr) (cd:Value) (m:Str->Option Value) (s:Shared) (Q:Flow->Shared->Prop) (E:Value->Shared->Prop)
noncomputable def ke (o3:Obj) (rest:ax) (_:Nat):Prop:=HO w fun qual body scope=>∀(B:Below callerA g [] g) (X:(hd.heap_39 w.params).In g) (T:Top p a_ bz mg mb g) (F:Fr g L s.heap m) (N:News g L s.heap ((L+1+1+1,o3)::rest)) (h3:o3.data=Data.cell none) (off:∀r∈rest, @Ne Nat r.1 (L+1+1+1)) (bL:∀(x:WS) W d pc du ar td n0 n1 r0 xt t1 t2 NW nd nr na c fm NZ kp dg Q0 (s':Shared),Fr g L s'.heap (fun y=>if y=ofString "told" then some (.ref td) else if y=ofString "writer" then some (.ref W) else if y=ofString "due" then some (.ref du) else if y=ofString "pieces" then some (.ref pc) else m y)->Q0.data=Data.cell (some (.ref ar))->
  News g L s'.heap ((L+1+1+1,Q0)::(W,instObj 150 d)::(d,dictOf (ci w.params x false false) 17)::(x.data,listOf #[] na)::(x.nss,listOf #[Value.ref n0, .ref n1] NW)::(x.decl,listOf #[Value.ref r0] nd)::(x.pres,listOf #[.bool false] kp)::(x.write,bT pc)::(pc,listOf #[] 0)::(du,listOf #[] 0)::(ar,listOf #[] 0)::(td,listOf #[] 0)::(n0,listOf fm c)::(n1,listOf #[] 0)::(r0,listOf #[Value.ref xt] nr)::(xt,aO [.str (ofString "http://www.w3.org/XML/1998/namespace") t1, .str (ofString "xml") t2])::(x.pmap,NZ)::(rest++dg))->
  pI fm dg->Rise [L+1+1+1,pc,du,x.write,d,W,x.data,xt,r0,x.decl,x.nss,n0,n1,x.pmap,x.pres,ar,td]->(∀r∈rest, @LT.lt Nat _ r.1 pc)->(∀r∈dg,r.2.cls= .type "tuple"/\ @LT.lt Nat _ n0 r.1/\ @LT.lt Nat _ r.1 n1)->aM s s'->
  WX w qual scope L fa cd (body.drop 9) Q E s'),
 WX w qual scope L fa cd (body.drop 4) Q E s
noncomputable def vp:=bA (gQ ke) ((bw,default,[],fun _=>none,fun _=>none,fun _=>none,{},0),(0, .none,fun _=>none,{},fun _ _=>True,fun _ _=>True,default,[]),0)
theorem xR:∀{w p a_ bz mg mb g L fa cd m s Q E o3 rest},ke w p a_ bz mg mb g L fa cd m s Q E o3 rest 0:=by
 intros;apply eO ke (c:=vp) rfl;apply (?zg:eE ke);intros w p a_ bz mg mb g L fa cd m s Q E o3 rest _;intros oc an name qual params body scope dV kV gF pm cA ct l_ z_ ho B X T F N h3 off bL;dsimp only [WX] at bL ⊢;revert qual body scope cA;k_fill;refine' no_implicit_lambda% (dd (K:=hd.heap_39 w.params) (f:=212) ?h1 ?main)
 case h1=>k_is
 intro bL;dsimp only [List.drop] at bL ⊢;k_steps;refine ⟨?_⟩;rename_i pc _ lp _ _ du _ Z0 _ bx _ W d _ FL NL ld lW g1 L1 _ FG FI NI BI XI TI;refine' o7 (K:=hd.heap_39 w.params) (f:=67) ?h1 ?main2
 case h1=>k_is
 intro hof;refine GO (W:=W) (d:=d) (wr:=bx) hof rfl XI TI FI NI (by kernel_rfl) (by kernel_rfl) (by kernel_rfl) (by kernel_rfl) (by kernel_rfl) (by kernel_rfl) (by kernel_rfl) (by kernel_rfl) (by kernel_rfl) ?n1 ?o1 ?Q
 case n1=>k_ne
 case o1=>
  simp only [List.forall_mem_cons];exact ⟨by k_ne,by k_ne,by k_ne,by k_ne,iE (by walk_at "conj")⟩
 case Q=>
  intros x n0 n1 r0 xt t1 t2 NW nd nr na c fm NZ kp dg s' hx F' N' hR bW Nl htl S';subst hx;have hcell: @LT.lt Nat _ (L+1+1+1) x.data:=Nl (L+1+1+1,o3) (by exact bJ 3 rfl)
  have oT:∀r∈dg, @Ne Nat r.1 (L+1+1+1):=fun r hr=>by have:=(htl r hr).2.1;have h2:=bW.2.2.2.2.2.2.1;exact jb hcell bW.2.2.1 bW.2.2.2.1 bW.2.2.2.2.1 bW.2.2.2.2.2.1 this h2
  simp only [List.cons_append] at N';generalize YD:rest++dg=Pv at N'
  have er:∀r∈Pv, @Ne Nat r.1 (L+1+1+1):=fun r hr=>by
   rw [<-YD] at hr;exact (aE hr).elim (off r) (oT r)
  clear NI FI;have c1:=Nat.lt_trans hcell bW.2.2.1;have c2:=Nat.lt_trans c1 bW.2.2.2.1;have c3:=Nat.lt_trans c2 bW.2.2.2.2.1;have c4:=Nat.lt_trans c3 bW.2.2.2.2.2.1;have c5:=Nat.lt_trans c4 bW.2.2.2.2.2.2.1;have c6:=Nat.lt_trans c5 bW.2.2.2.2.2.2.2.1;have c7:=Nat.lt_trans c6 bW.2.2.2.2.2.2.2.2.1;have c8:=Nat.lt_trans c7 bW.2.2.2.2.2.2.2.2.2;have c9:=Nat.lt_trans ld.2.2.2.1 lW;k_steps;refine ⟨?_⟩;rename_i _ _ _ _ ar _ Z1 _ Q0 ZA td _ SH _ FF NN;subst YD;have hr1:=Nl (x.write,bT pc) (by exact bJ 0 rfl);have ST:=bW;refine bL x W d pc du ar td n0 n1 r0 xt t1 t2 NW nd nr na c fm NZ kp dg Q0 _ FF ZA (bf NN ?led) hR ?rise (lV lp.2) htl (SameF.trans SameF.refl S')
  case led=>exact cv [16,2,3,4,5,6,11,13,15,14,1,0,9,10,7,8,12] 17 rfl rfl
  case rise=>
   refine ⟨lp.1,Z0.1,Mr.1,ld.1,lW,bW.1,bW.2.2.1,bW.2.2.2.1,bW.2.2.2.2.1,bW.2.2.2.2.2.1,bW.2.2.2.2.2.2.1,bW.2.2.2.2.2.2.2.1,bW.2.2.2.2.2.2.2.2.1,bW.2.2.2.2.2.2.2.2.2,?_,SH.1,trivial⟩;exact Z1.2.2.2.2.2.2.2.2.2.1
theorem JO:True:=by
 (k_with "binaryOp Add ref ref"=>((k_here;refine Stop.out ?_)))
 (k_with "call ref"=>((k_here;(with_reducible show wpAny _ _ (call (Value.ref 190) _ _) _ _ _);refine Stop.out ?_)))
 (k_with "call ref"=>((k_here;(with_reducible show wpAny _ _ (call (Value.ref 176) _ _) _ _ _);refine Stop.out ?_)))
 (k_with "execs cons"=>((k_here;(with_reducible show wpAny _ _ (execs (Stmt.Assign [Expr.Name (ofString "numbers") _] _ _::_) _) _ _ _);refine Stop.out ?_)))
 (k_with "binaryOp Pow int int"=>((k_here;(with_reducible refine pow_int_small (by decide+kernel) (by decide+kernel) (by decide+kernel) ?_))))
 trivial
noncomputable def jC (x:Int):Int:=(x+2 ^ 63).fmod (2 ^ 64) - 2 ^ 63
noncomputable def fQ (ns:List Int):List Int:=[0, -8,91]++(ns.take 3).map jC
theorem s9 {α:Type} {f:α->Int} {l:List α} {i:Nat} {a:α} {ys:List Value} {y:Value} {t:Tok} (h:IntsAre ys ((l.take i).map f)) (ha:l[i]?=some a) (hy:y= .int (f a) t):IntsAre (ys++[y]) ((l.take (i+1)).map f):=by
 rw [List.take_add_one,ha,List.map_append,hy];exact ksk_snoc h
noncomputable def kg (o1 o2:Obj) (rest:ax) (sa:Addr) (vs:List Value) (ns:List Int):Prop:=HO w fun qual body scope=>∀(B:Below callerA g [] g) (X:(hd.heap_39 w.params).In g) (T:Top p a_ bz mg mb g) (F:Fr g L s.heap m) (N:News g L s.heap ((L+1,o1)::(L+1+1,o2)::rest)) (h1:o1.data=Data.cell none) (h2:o2.data=Data.cell none) (Y0:∀r∈rest, @Ne Nat r.1 (L+1)) (er:∀r∈rest, @Ne Nat r.1 (L+1+1)) (mS:m (ofString "script")=some (.ref sa)) (hS:g.IsList sa vs.toArray) (hI:IntsAre vs ns) (ba:ns.length<=63) (bL:∀D t0 vd kd Pw (s':Shared),Fr g L s'.heap (fun y=>if y=ofString "deeds" then some (.ref D) else m y)->News g L s'.heap ((D,listOf (List.toArray vd) kd)::(L+1,Pw)::(L+1+1,o2)::rest)->IntsAre vd (fQ ns)->Pw.data=Data.cell (some (.int ((ns.sum+1).fmod 12) t0))-> @LT.lt Nat _ (L+1) D-> @LT.lt Nat _ (L+1+1) D->(∀r∈rest, @LT.lt Nat _ r.1 D)->aM s s'->
  WX w qual scope L fa cd (body.drop 2) Q E s'),
 WX w qual scope L fa cd body Q E s
noncomputable def vt:=bA (gP kg) ((bw,default,[],fun _=>none,fun _=>none,fun _=>none,{},0),(0, .none,fun _=>none,{},fun _ _=>True,fun _ _=>True,default,default),([],0,[],[]))
theorem xT:∀{w p a_ bz mg mb g L fa cd m s Q E o1 o2 rest sa vs ns},kg w p a_ bz mg mb g L fa cd m s Q E o1 o2 rest sa vs ns:=by
 intros;apply gB kg (c:=vt) rfl;apply (?zg:gl kg);intros w p a_ bz mg mb g L fa cd m s Q E o1 o2 rest sa vs ns;intros oc an name qual params body scope dV kV gF pm cA ct l_ z_ ho B X T F N h1 h2 Y0 er mS hS hI ba bL;dsimp only [WX] at bL ⊢;revert qual body scope cA;k_fill;refine' no_implicit_lambda% (dd (K:=hd.heap_39 w.params) (f:=212) ?h1 ?main)
 case h1=>k_is
 intro bL;dsimp only [List.drop] at bL;k_steps;rename_i D3 PW _ F3 N3 Rs _ _ l3;rename Obj.data _=Data.cell (some (Value.int _ _))=>XU;refine ⟨?_⟩;have P7:PW.length=(ns.take 3).length:=Rs.length
 have SZ:(ns.take 3).length<=3:=by rw [List.length_take];exact q1
 have SE:∀{led:ax} {s₁:Shared},News g L s₁.heap ((D3,listOf PW.toArray 0)::led)->s₁.heap.IsList D3 PW.toArray:=fun N=>bo N (.head _);generalize o_:((_,listOf #[Value.int 0 _,_,_] _)::_:ax)=tC at N3;refine gM (l:=D3) (vs:=PW) (fun i ys led=>led=(D3,listOf PW.toArray 0)::tC/\ys.length=i/\IntsAre ys (((ns.take 3).take i).map jC)) F3 N3 rfl (fun i ys led s₁ hh F2 N2=>by rw [hh.1] at N2;exact SE N2) (q2 P7 SZ) ⟨rfl,rfl, .nil⟩ (fun i ys led h=>Nat.le_of_eq h.2.1) (by decide) rfl (by decide) ?t1 ?d1
 case t1=>
  intros i v I oI C oC D ys bj led s₁ hv aj;refine aI aj fun aZ lG f_=>?_;clear aj;subst aZ;intros hC hm F2 N2 er Lo S2;refine am (List.getElem?_eq_some_iff.mp hv) fun hi Lw=>?_
  have fW:i<(ns.take 3).length:=by exact q3 hi P7
  have eo:(ns.take 3)[i]?=some (ns.take 3)[i]:=List.getElem?_eq_getElem fW;generalize (ns.take 3)[i]=xi at eo;obtain ⟨t,e⟩:∃t,PW[i]?=some (.int xi t):=Rs.get i xi eo;rw [hv] at e
  cases e
  clear bL XU Rs P7 SZ hi fW hv Lw hI ba;k_steps;exact ⟨_,by assumption,by assumption,er,⟨rfl,List.length_append.trans (congrArg (·+1) lG),s9 f_ eo rfl⟩,SameF.trans S2 SameF.refl⟩
 case d1=>
  refine fI (n:=PW.length) (Inv:=fun i ys led=>led=(D3,listOf PW.toArray 0)::tC/\ys.length=i/\IntsAre ys (((ns.take 3).take i).map jC)) ?_;intros D4 Yz led cU aj;refine aI aj fun aZ PH Ln=>?_;clear aj;subst aZ;intros F4 N4 Mk S4;rw [P7,List.take_length] at Ln;subst o_;k_steps;refine ⟨?_⟩;have Yc:=Ln.length;rw [List.length_map] at Yc;refine add_arrays F4 N4 (bo N4 (.tail _ (.tail _ (.head _)))) (bo N4 (.head _)) ?_ (by simp [sizeLine_eq];exact q4 Yc SZ);intros h5 F5 N5;have l5:=fun q hq=>Heap.lt_size (N4 q hq).1;generalize QS:(_++_:List Value)=vd at N5
  have hvi:IntsAre vd (fQ ns):=by rw [<-QS];exact .cons _ _ (.cons _ _ (.cons _ _ Ln))
  clear N4 F4 N3 F3;k_steps;refine ⟨?_⟩;rename News _ _ _ _=>N6;rename Fr _ _ _ _=>F6;exact bL cU.heap.objs.size _ vd 0 _ _ F6 (bf N6 (by exact cv [0,4,5] 6 rfl rfl)) hvi XU (l5 (L+1,_) (by k_mem)) (l5 (L+1+1,_) (by k_mem)) (fun r hr=>l5 r (by exact bI 5 rfl hr)) (SameF.trans S4 SameF.refl)
theorem JN:True:=by
 (k_with "execs cons"=>((k_here;(with_reducible show wpAny _ _ (execs (Stmt.Assign [Expr.Name (ofString "pieces") _] _ _::_) _) _ _ _);refine Stop.out ?_)))
 (k_with "storeName"=>((k_here;(with_reducible show wpAny _ _ (storeName _ (ofString "words") _) _ _ _);refine Stop.out ?_)))
 (k_with "call builtin:str.split"=>((k_here;(with_reducible show wpAny _ _ (call (Value.builtin "str.split") [Value.str _ _,Value.str _ _]) _ _ _);refine Stop.out ?_)))
 trivial
noncomputable def bY (low x:Int):Int:=eB (x.fdiv 3+21) low 6
noncomputable def WordRows (led:ax) (rows:List Value) (wl:List (List Str)):Prop:=rows.length=wl.length/\∀(i:Nat) ws,wl[i]?=some ws->∃a vs k,rows[i]?=some (.ref a)/\(a,listOf (List.toArray vs) k)∈led/\StrsAre vs ws
theorem WordRows.mono {led dq:ax} {rows:List Value} {wl:List (List Str)} (h:WordRows led rows wl) (hs:∀p∈led,p∈dq):WordRows dq rows wl:=⟨h.1,fun i ws hi=>by refine aW (h.2 i ws hi) fun a vs k aj=>?_;refine aI aj fun e1 e2 e3=>?_;exact ⟨a,vs,k,e1,hs _ e2,e3⟩⟩
theorem WordRows.snoc {led:ax} {rows:List Value} {wl:List (List Str)} {a:Addr} {ws:List Str} {vs:List Value} {k:Nat} (h:WordRows led rows wl) (hm:(a,listOf (List.toArray vs) k)∈led) (hs:StrsAre vs ws):WordRows led (rows++[.ref a]) (wl++[ws]):=by
 refine ⟨by rw [List.length_append,List.length_append,h.1];rfl,fun i ws' hi=>?_⟩
 by_cases hl:i<wl.length
 ·rw [List.getElem?_append_left hl] at hi
  refine aW (h.2 i ws' hi) fun a' SI k' aj=>?_;refine aI aj fun e1 e2 e3=>?_;exact ⟨a',SI,k',by rw [List.getElem?_append_left (by rw [h.1];exact hl)];exact e1,e2,e3⟩
 ·rw [List.getElem?_append_right (q5 hl)] at hi
  have h0:i - wl.length=0:=by
   have:=(List.getElem?_eq_some_iff.mp hi).1;simp at this;exact q6 this
  rw [h0] at hi
  cases hi
  exact ⟨a,vs,k,by rw [List.getElem?_append_right (by rw [h.1];exact q5 hl),h.1,h0];rfl,hm,hs⟩
section
variable {prog:Program} {w:World} {A:Around} {env:Env} {E:Value->Shared->Prop} {s:Shared} {h₀:Heap} {L:Addr} {m:Str->Option Value}
theorem Jd {n:Nat} {y:Str} {py:Pos} {Q:Shared->Prop} {Inv:Nat->List Value->ax->Prop} {ca:Addr} {v₀:Option Value} (hk:env.scope.kind= .function) (hl:env.kindOf y=some .cell) (hc:env.cells.lookup y=some ca)
  (hcell:∀ys news',Inv n ys news'->∃oc LW post,news'=LW++(ca,oc)::post/\oc.data=Data.cell v₀/\(∀p∈LW, @Ne Nat p.1 ca)/\∀p∈post, @Ne Nat p.1 ca)
  (done:∀D ys LW post oc Rx (s₁:Shared),Inv n ys (LW++(ca,oc)::post)->Rx.data=Data.cell (some (.ref D))->Fr h₀ L s₁.heap m->News h₀ L s₁.heap ((D,bC ys)::(LW++(ca,Rx)::post))->(∀p∈LW++(ca,oc)::post, @Ne Nat p.1 D)->aM s s₁->Q s₁):
  ∀D C (s':Shared) m' ys news',Fr h₀ L s'.heap m->News h₀ L s'.heap ((D,bC ys)::news')->(∀p∈news', @Ne Nat p.1 D)->s'.heap.Ns C m'->h₀.get? C=none->C≠L->C≠D->(∀p∈news',p.1≠C)->Inv n ys news'->aM s s'->compPost (model prog w) A E (some (assign (.Name y py) env)) (fun _ s'=>Q s') (.ref D) C (.ok .next) s':=by
 intros D C s' m' ys news' F N off hn dk Mf Mo Li hJ S;refine aW (hcell ys news' hJ) fun oc LW post aj=>?_;refine bO aj fun aZ hd n1 n2=>?_;subst aZ;have zc:=N (ca,oc) (.tail _ (ay _ (.head _)));have Xs:C≠ca:=Ne.symm (Li (ca,oc) (ay _ (.head _)));have hcD: @Ne Nat ca D:=off (ca,oc) (ay _ (.head _));show wpAny _ A (assign (.Name y py) env (.ref D)) _ _ _;refine wpAny_assign_Name (wpAny_storeName_cell hk hl hc ⟨oc,zc.1,hd⟩ fun bP cE cD=>?_);refine am cE fun Rx aj=>?_;clear cE;refine ak aj fun g2 d2=>?_;have bV:Fr h₀ L bP m:=F.change cD zc.2.1 zc.2.2;refine ⟨m',hn.sameBut cD Xs,fun Lp L6=>?_⟩;refine done D ys LW post oc Rx {s' with heap:=Lp} hJ d2 (bV.change L6 Mf dk) (fun p hp=>?_) off S
 rcases aB hp with rfl|hp
 ·have z:=N (D,bC ys) (.head _)
  exact ⟨L6.extBut _ _ (Ne.symm Mo) (cD.extBut _ _ (Ne.symm hcD) z.1),z.2⟩
 ·refine Or.elim (aE hp) (fun Mh=>?_) fun Mh=>?_
  ·have z:=N p (.tail _ (aL _ Mh))
   exact ⟨L6.extBut _ _ (Li p (aL _ Mh)) (cD.extBut _ _ (n1 p Mh) z.1),z.2⟩
  ·rcases aB Mh with rfl|Mh
   ·exact ⟨L6.extBut _ _ (Ne.symm Xs) g2,zc.2⟩
   ·have z:=N p (.tail _ (ay _ (.tail _ Mh)))
    exact ⟨L6.extBut _ _ (Li p (ay _ (.tail _ Mh))) (cD.extBut _ _ (n2 p Mh) z.1),z.2⟩
end
theorem fy (e:Env) {n:Nat} (h:n<=20):(callerA.deeper e).depth+n<recursionLimit:=by
 have h1:callerA.depth+1+20<recursionLimit:=by decide
 have h2:(callerA.deeper e).depth=callerA.depth+1:=rfl;exact q7 h1 h2 h
theorem d3 (e:Env) {n:Nat} (h:n<=1000):(callerA.deeper e).units+n<cLine:=by
 have h1:callerA.units+100+1000<cLine:=by decide
 have h2:(callerA.deeper e).units<=callerA.units+100:=by
  show callerA.units+_<=_;exact Nat.add_le_add_left (by decide) _
 exact q8 h1 h2 h
noncomputable def kf (o1 o2:Obj) (rest:ax) (D:Addr) (kd:Nat) (vd:List Value) (ds:List Int) (low:Int) (t0:Tok):Prop:=HO w fun qual body scope=>∀(B:Below callerA g [] g) (X:(hd.heap_39 w.params).In g) (T:Top p a_ bz mg mb g) (F:Fr g L s.heap m) (N:News g L s.heap ((D,listOf (List.toArray vd) kd)::(L+1,o1)::(L+1+1,o2)::rest)) (h1:o1.data=Data.cell (some (.int low t0))) (h2:o2.data=Data.cell none) (er:∀r∈rest, @Ne Nat r.1 (L+1+1)) (TM: @Ne Nat D (L+1+1)) (mD:m (ofString "deeds")=some (.ref D)) (hI:IntsAre vd ds) (ba:ds.length<=6) (PN:0<=low) (OR:low<12) (Nz:∀x∈ds,(x.fdiv 3+21).natAbs<2 ^ 64) (V3:∀x∈ds,(bY low x).natAbs<2 ^ 100) (Wk:∀x∈ds,Txt.split (Txt.join (ofString ", ") (bR (bY low x))) (ofString ", ")=bR (bY low x)) (OM:∀x∈ds,(Txt.join (ofString ", ") (bR (bY low x))).length<=10000) (bL:∀nl wl vn vw kn kw OD tl (s':Shared),Fr g L s'.heap (fun y=>if y=ofString "numbers" then some (.ref nl) else m y)->News g L s'.heap ((wl,listOf (List.toArray vw) kw)::(nl,listOf (List.toArray vn) kn)::(D,listOf (List.toArray vd) kd)::(L+1,o1)::(L+1+1,OD)::(tl++rest))->IntsAre vn (ds.map (bY low))->WordRows tl vw (ds.map fun x=>bR (bY low x))->OD.data=Data.cell (some (.ref wl))->(∀z∈([D,L+1,L+1+1]:List Nat),z≠nl/\z≠wl)-> @Ne Nat nl wl->(∀r∈rest, @Ne Nat r.1 nl/\ @Ne Nat r.1 wl)->(∀r∈tl, @Ne Nat r.1 nl/\ @Ne Nat r.1 wl/\∀z∈(D,listOf (List.toArray vd) kd)::(L+1,o1)::(L+1+1,o2)::rest, @Ne Nat z.1 r.1)->aM s s'->
  WX w qual scope L fa cd (body.drop 4) Q E s'),
 WX w qual scope L fa cd (body.drop 2) Q E s
noncomputable def vq:=bA (gk kf) ((bw,default,[],fun _=>none,fun _=>none,fun _=>none,{},0),(0, .none,fun _=>none,{},fun _ _=>True,fun _ _=>True,default,default),([],0,0,[],[],0,0))
theorem xS:∀{w p a_ bz mg mb g L fa cd m s Q E o1 o2 rest D kd vd ds low t0},kf w p a_ bz mg mb g L fa cd m s Q E o1 o2 rest D kd vd ds low t0:=by
 intros;apply fp kf (c:=vq) rfl;apply (?zg:eZ kf);intros w p a_ bz mg mb g L fa cd m s Q E o1 o2 rest D kd vd ds low t0;intros oc an name qual params body scope dV kV gF pm cA ct l_ z_ ho B X T F N h1 h2 er TM mD hI ba PN OR Nz V3 Wk OM bL;dsimp only [WX] at bL ⊢;revert qual body scope cA;k_fill;refine' no_implicit_lambda% (dd (K:=hd.heap_39 w.params) (f:=212) ?h1 ?main)
 case h1=>k_is
 intro bL;dsimp only [List.drop] at bL ⊢;refine wpAny_execs_cons ?_;k_steps;refine ⟨?_⟩;have P7:vd.length=ds.length:=hI.length;generalize o_:((D,listOf (List.toArray vd) kd)::_:ax)=tC at N
 have XE:(D,listOf (List.toArray vd) kd)∈tC:=by rw [<-o_];exact .head _
 have XQ:(L+1,o1)∈tC:=by rw [<-o_];exact .tail _ (.head _)
 refine gM (l:=D) (vs:=vd) (fun i ys led=>led=tC/\ys.length=i/\IntsAre ys ((ds.take i).map (bY low))) F N rfl (fun i ys led s₁ hh F2 N2=>bo (n:=kd) N2 (by rw [hh.1];exact XE)) (q9 P7 ba) ⟨rfl,rfl, .nil⟩ (fun i ys led h=>Nat.le_of_eq h.2.1) (by decide) rfl (by decide) ?t1 ?d1
 case t1=>
  intros i v I oI C oC D' ys bj led s₁ hv aj;refine aI aj fun aZ lG f_=>?_;subst aZ;intros hC hm F2 N2 er Lo S2;refine am (List.getElem?_eq_some_iff.mp hv) fun hi Lw=>?_
  have fW:i<ds.length:=by exact q3 hi P7
  have eo:ds[i]?=some ds[i]:=List.getElem?_eq_getElem fW;have Qx:=List.getElem_mem fW;generalize ds[i]=xi at eo Qx;refine am (hI.get i xi eo) fun t e=>?_;rw [hv] at e
  cases e
  have hdx:=Nz xi Qx
  have N3:News g L s₁.heap ((L+1,o1)::(I,oI)::(C,oC)::(D',bC ys)::led):=fun q hq=>by
   rcases aB hq with rfl|hq
   ·exact N2 _ (.tail _ (.tail _ (.tail _ XQ)))
   ·exact N2 q hq
  clear N2;k_steps;refine ⟨?_⟩;rename News _ _ _ _=>N4;rename Fr _ _ _ _=>F4;refine dO (HY (xi.fdiv 3+21) low _ t0 PN OR hdx) B F4 X N4 T rfl rfl rfl (fun _ h=>nomatch h) trivial (fy _ (by decide)) (d3 _ (by decide)) ?_;intros t2 s' F' N' K' S';have Lk:=d0 N4 K' N' (others:=_) (fun _ h=>h) (fun _ _ h=>nomatch h);rw [List.nil_append] at Lk;exact ⟨led,F',bf Lk (fun q hq=> .tail _ hq),er,⟨rfl,List.length_append.trans (congrArg (·+1) lG),s9 f_ eo rfl⟩,SameF.trans S2 (SameF.trans SameF.refl S')⟩
 case d1=>
  refine iV (n:=vd.length) (Inv:=fun i ys led=>led=tC/\ys.length=i/\IntsAre ys ((ds.take i).map (bY low))) rfl rfl rfl ?_;intros nl vn led cU aj;refine aI aj fun aZ PH Ln=>?_;subst aZ;intros F4 N4 Mk S4;rw [P7,List.take_length] at Ln;clear N F;generalize Uf:(_::led:ax)=Of at N4
  have Nj:(nl,bC vn)∈Of:=by rw [<-Uf];exact .head _
  have SJ:vn.length=ds.length:=by rw [Ln.length,List.length_map]
  k_steps;refine ⟨?_⟩
  refine gM (l:=nl) (vs:=vn) (fun i ys led=>ys.length=i/\∃tl,led=tl++Of/\WordRows tl ys ((ds.take i).map fun x=>bR (bY low x))/\∀r∈tl,∀z∈Of, @Ne Nat z.1 r.1) F4 N4 rfl (fun i ys led s₁ hh F2 N2=>by
   refine ak hh fun _ aj=>?_;clear hh;refine am aj fun tl aZ=>?_;refine aI aZ fun bU _ _=>?_;subst bU
   exact bo (n:=vn.length) N2 (ay _ Nj)) (q9 SJ ba) ⟨rfl,[],rfl,⟨rfl,fun i ws h=>by simp at h⟩,fun _ h=>nomatch h⟩ (fun i ys led h=>Nat.le_of_eq h.1) (by decide) rfl (by decide) ?t2 ?d2
  case t2=>
   intros i v I oI C oC D' ys bj dq s₁ hv aj;refine ak aj fun lG aZ=>?_;refine am aZ fun tl bU=>?_;refine aI bU fun dK Mg htl=>?_;subst dK;intros hC hm F2 N2 er Lo S2;refine am (List.getElem?_eq_some_iff.mp hv) fun hi Lw=>?_
   have fW:i<ds.length:=by exact q3 hi SJ
   have eo:ds[i]?=some ds[i]:=List.getElem?_eq_getElem fW;have Qx:=List.getElem_mem fW;generalize ds[i]=xi at eo Qx;refine am (Ln.get i (bY low xi) (by rw [List.getElem?_map,eo];rfl)) fun t e=>?_;rw [hv] at e
   cases e
   generalize Nt:tl++Of=rr at N2 er;k_steps;refine ⟨?_⟩;rename News _ _ _ _=>N5;rename Fr _ _ _ _=>F5;refine dO (HZ (bY low xi) _ (V3 xi Qx)) B F5 X N5 T rfl rfl rfl (fun _ h=>nomatch h) trivial (fy _ (by decide)) (d3 _ (by decide)) ?_;intros t2 s' F' N' K' S';have Lk:=d0 N5 K' N' (others:=_) (fun _ h=>h) (fun _ _ h=>nomatch h);rw [List.nil_append] at Lk;clear N' N5 F5;k_steps;refine ⟨?_⟩;refine PySem.W.KSpl.split1 F' Lk (by decide) ?_ (by have:=OM xi Qx;rw [sizeLine_eq];exact fJ this);intros W1 lw h6 k6 hlw Ye F6 N6 l6;rw [hlw,Wk xi Qx] at Ye;subst Nt;replace l6:=cj l6;dsimp only [FC] at l6;refine bO l6 fun l7 l8 l9 l10=>?_;clear l6;refine ⟨((W1,listOf (strValues lw).toArray 0)::tl)++Of,F6,bf N6 (by exact cv [1,2,3,0] 4 rfl rfl),?_,⟨List.length_append.trans (congrArg (·+1) lG),_,rfl,?_,?_⟩,SameF.trans S2 (SameF.trans SameF.refl S')⟩
   ·intro z hz
    rcases aB hz with rfl|hz
    ·exact ⟨Nat.ne_of_gt l7,Nat.ne_of_gt l8,Nat.ne_of_gt l9⟩
    ·exact er z hz
   ·rw [List.take_add_one,eo,Option.toList_some,List.map_append,List.map_cons,List.map_nil]
    exact (Mg.mono fun p hp=> .tail _ hp).snoc (.head _) Ye
   ·intros r hr z hz
    rcases aB hr with rfl|hr
    ·exact Nat.ne_of_lt (cu l10 z (ay _ hz))
    ·exact htl r hr z hz
  case d2=>
   have Vl: @Ne Nat nl (L+1+1):=Ne.symm (Mk (L+1+1,o2) (by rw [<-o_];exact .tail _ (.tail _ (.head _))))
   have e2:Of=((nl,bC vn)::(D,listOf (List.toArray vd) kd)::(L+1,o1)::[])++(L+1+1,o2)::rest:=by rw [<-Uf,<-o_];rfl
   refine fI (n:=vn.length) (Inv:=fun i ys led=>ys.length=i/\∃tl,led=tl++Of/\WordRows tl ys ((ds.take i).map fun x=>bR (bY low x))/\∀r∈tl,∀z∈Of, @Ne Nat z.1 r.1) ?dn;intros wl vw dq gm aj;refine ak aj fun UT aZ=>?_;refine am aZ fun tl bU=>?_;refine aI bU fun dK Mg htl=>?_;subst dK;intros F5 N5 Nq S5;rw [SJ,List.take_length] at Mg;rw [e2] at N5 Nq htl
   have N6:News g L gm.heap ((L+1+1,o2)::(wl,bC vw)::(nl,bC vn)::(D,listOf (List.toArray vd) kd)::(L+1,o1)::(tl++rest)):=bf N5 fun q hq=>by
    simp only [List.mem_cons,List.mem_append,List.cons_append,List.nil_append] at hq ⊢
    rcases hq with h|h|h|h|h|h|h<;>simp [h]
   clear N5;k_steps;refine ⟨?_⟩;have zc:=N6 (L+1+1,o2) (.head _);refine wpAny_storeName_cell rfl rfl rfl ⟨o2,zc.1,h2⟩ fun bP cE cD=>?_;refine am cE fun OD aj=>?_;clear cE;refine ak aj fun g2 d2=>?_;have bV:=F5.change cD zc.2.1 zc.2.2
   have ce:News g L bP ((wl,listOf (List.toArray vw) vw.length)::(nl,listOf (List.toArray vn) vn.length)::(D,listOf (List.toArray vd) kd)::(L+1,o1)::(L+1+1,OD)::(tl++rest)):=by
    have keep:∀q:Addr×Obj,q∈(wl,bC vw)::(nl,bC vn)::(D,listOf (List.toArray vd) kd)::(L+1,o1)::(tl++rest)-> @Ne Nat q.1 (L+1+1)->bP.get? q.1=some q.2/\q.1≠L/\g.get? q.1=none:=fun q hq dR=>by
     have z:=N6 q (.tail _ hq);exact ⟨cD.extBut _ _ dR z.1,z.2⟩
    intro q hq;simp only [List.mem_cons,List.mem_append] at hq
    rcases hq with rfl|rfl|rfl|rfl|rfl|hq|hq
    ·exact keep (wl,bC vw) (by exact bJ 0 rfl) (Ne.symm (Nq (L+1+1,o2) (ay _ (ay _ (.head _)))))
    ·exact keep (nl,bC vn) (by exact bJ 1 rfl) Vl
    ·exact keep (D,listOf (List.toArray vd) kd) (by exact bJ 2 rfl) TM
    ·exact keep (L+1,o1) (by exact bJ 3 rfl) (neN (by lia))
    ·exact ⟨g2,zc.2⟩
    ·exact keep q (by exact bI 4 rfl (aL _ hq)) (Ne.symm (htl q hq (L+1+1,o2) (ay _ (.head _))))
    ·exact keep q (by exact bI 4 rfl (ay _ hq)) (er q hq)
   refine bL nl wl vn vw vn.length vw.length OD tl {gm with heap:=bP} bV ce Ln Mg d2 ?_ ?_ ?_ ?_ (SameF.trans S4 S5)
   ·intro z hz
    simp only [List.mem_cons,List.not_mem_nil,or_false] at hz
    rcases hz with rfl|rfl|rfl
    ·exact ⟨Mk (_,_) XE,Nq (_,listOf (List.toArray vd) kd) (by exact ay _ (bJ 1 rfl))⟩
    ·exact ⟨Mk (_,_) XQ,Nq (_,o1) (by exact ay _ (bJ 2 rfl))⟩
    ·exact ⟨Ne.symm Vl,Nq (_,o2) (by exact ay _ (bJ 3 rfl))⟩
   ·exact Nq (nl,bC vn) (by exact ay _ (bJ 0 rfl))
   ·intro r hr
    exact ⟨Mk r (by rw [<-o_];exact bI 3 rfl hr),Nq r (by exact ay _ (bI 4 rfl hr))⟩
   ·intro r hr
    refine ⟨Ne.symm (htl r hr (nl,bC vn) (by exact bJ 0 rfl)),Nq r (by exact aL _ hr),fun z hz=>htl r hr z ?_⟩;simp only [List.mem_cons,List.mem_append,List.cons_append,List.nil_append] at hz ⊢;exact .inr hz
section
open PySem.Builtin PySem.Builtin.Str
theorem jv (y:PySem.Str):∀(l:List PySem.Str),cl (Txt.join y l)=cl (Str.join y l):=fun l=>by
 show cl (glued y l)=_;rw [PySem.StrLaws.glued_eq_join]
theorem jD (nv:PySem.Str×PySem.Str):cl (bD nv)=32::((cl nv.1++[61])++34::(cl nv.2++[34])):=by
 unfold bD;rw [bF,bF,bF,bF,show cl (ofString " ")=[32] from rfl,show cl (ofString "=\"")=[61,34] from rfl,show cl (ofString "\"")=[34] from rfl];simp
theorem qm {nv:PySem.Str×PySem.Str} (h1:∀c∈cl nv.1,c≠34/\c≠32) (h2:∀c∈cl nv.2,c≠34/\c≠32):TokS (bD nv) where
 ex:=by
  refine ⟨cl nv.1++[61],cl nv.2,jD nv,fun h=>?_,fun h=>(h2 _ h).1 rfl,fun h=>?_,fun h=>(h2 _ h).2 rfl⟩
  ·refine Or.elim (aE h) (fun h=>?_) fun h=>?_
   ·exact (h1 _ h).1 rfl
   ·cases br h
  ·refine Or.elim (aE h) (fun h=>?_) fun h=>?_
   ·exact (h1 _ h).2 rfl
   ·cases br h
theorem He:∀c∈cl (ofString "xmlns:"),(fA c || c == 58)=true:=by decide+kernel
theorem Hf:∀c∈cl (ofString ":k"),(fA c || c == 58)=true:=by decide+kernel
noncomputable def fz (c:Nat):Bool:=fA c || c == 58
theorem fO {c:Nat} (h:fz c=true):c≠34/\c≠32/\c≠46:=by
 refine ⟨?_,?_,?_⟩<;>(intro aj;subst aj;revert h;decide)
theorem iz {u:PySem.Str} (h:dJ u):∀c∈cl (bN u).1,fz c=true:=by
 intro c hc;have e:cl (bN u).1=cl (ofString "xmlns:")++cl (aH u):=bF _ _;rw [e] at hc;refine Or.elim (aE hc) (fun hc=>?_) fun hc=>?_
 ·exact He c hc
 ·unfold fz;rw [rT h c hc];rfl
theorem iA {u:PySem.Str} (h:dJ u):∀c∈cl (cm u).1,fz c=true:=by
 intro c hc;have e:cl (cm u).1=cl (aH u)++cl (ofString ":k"):=bF _ _;rw [e] at hc;refine Or.elim (aE hc) (fun hc=>?_) fun hc=>?_
 ·unfold fz;rw [rT h c hc];rfl
 ·exact Hf c hc
theorem ie {u:PySem.Str} (h:dJ u):∀c∈cl u,fz c=true:=fun c hc=>by unfold fz;rw [h c hc];rfl
theorem HI {u:PySem.Str} (h:dJ u):TokS (bD (bN u)):=qm (fun c hc=>⟨(fO (iz h c hc)).1,(fO (iz h c hc)).2.1⟩) fun c hc=>⟨(fO (ie h c hc)).1,(fO (ie h c hc)).2.1⟩
theorem IH {u:PySem.Str} (h:dJ u):TokS (bD (cm u)):=qm (fun c hc=>⟨(fO (iA h c hc)).1,(fO (iA h c hc)).2.1⟩) fun c hc=>nomatch hc
theorem uv {nv:PySem.Str×PySem.Str} (h1:∀c∈cl nv.1,fz c=true) (h2:∀c∈cl nv.2,fz c=true):46∉cl (bD nv):=by
 rw [jD];intro h;simp only [List.mem_cons,List.mem_append,List.not_mem_nil,or_false] at h
 rcases h with h|(h|h)|h|h|h
 ·cases h
 ·exact (fO (h1 _ h)).2.2 rfl
 ·cases h
 ·cases h
 ·exact (fO (h2 _ h)).2.2 rfl
 ·cases h
theorem uu (nv:PySem.Str×PySem.Str):(bD nv).length=nv.1.length+nv.2.length+4:=by
 rw [<-bK,jD,<-bK nv.1,<-bK nv.2];simp;exact yU
theorem rU {u:PySem.Str} (h:u.length<=60):(aH u).length<=63:=by
 rw [<-bK,ic];simp only [List.length_cons,List.length_append,List.length_map,bK,pe _ (Nat.lt_of_le_of_lt h (by decide))]
 split<;>lia
theorem HJ {u:PySem.Str} (h:u.length<=60):(bD (bN u)).length<=140:=by
 rw [uu]
 have e:(bN u).1.length=6+(aH u).length:=by
  rw [<-bK,<-bK];show (cl (ofString "xmlns:"++aH u)).length=_;rw [bF,List.length_append];rfl
 have e2:(bN u).2=u:=rfl;have:=rU h;rw [e2];exact yT e h this
theorem II {u:PySem.Str} (h:u.length<=60):(bD (cm u)).length<=140:=by
 rw [uu]
 have e:(cm u).1.length=(aH u).length+2:=by
  rw [<-bK,<-bK];show (cl (aH u++ofString ":k")).length=_;rw [bF,List.length_append];rfl
 have e2:(cm u).2.length=0:=rfl;have:=rU h;exact yS e e2 this
theorem pp {a b:PySem.Str×PySem.Str} (ha:34∉cl a.1) (hb:34∉cl b.1) (VC:34∉cl a.2) (UD:34∉cl b.2) (h:bD a=bD b):a.1=b.1/\a.2=b.2:=by
 have h1:=congrArg cl h;rw [jD,jD] at h1;have h2:=(List.cons.inj h1).2
 have X5:∀{x:List Nat},34∉x->34∉x++[61]:=fun hx q=>by
  refine Or.elim (aE q) (fun q=>?_) fun q=>?_
  ·exact hx q
  ·cases br q
 refine ak (lQ (by rw [h2];exact List.prefix_refl _) (X5 ha) (X5 hb)) fun h3 h4=>?_;refine ak (lQ h4 VC UD) fun h5 _=>?_;exact ⟨ed (List.append_inj' h3 rfl).1,ed h5⟩
theorem fK {x:PySem.Str} (h:∀c∈cl x,fz c=true):34∉cl x:=fun q=>(fO (h _ q)).1 rfl
theorem HK {u v:PySem.Str} (hu:dJ u) (hv:dJ v) (h:bD (bN u)=bD (bN v)):u=v:=(pp (fK (iz hu)) (fK (iz hv)) (fK (ie hu)) (fK (ie hv)) h).2
theorem IJ {u v:PySem.Str} (hu:dJ u) (hv:dJ v) (lu:u.length<=60) (lv:v.length<=60) (h:bD (cm u)=bD (cm v)):u=v:=by
 have h1:=(pp (fK (iA hu)) (fK (iA hv)) (fun q=>nomatch q) (fun q=>nomatch q) h).1;have h2:=congrArg cl h1;have e:∀w,cl (cm w).1=cl (aH w)++cl (ofString ":k"):=fun w=>bF _ _;rw [e,e] at h2;exact jf (fo lu) (fo lv) (ed (List.append_inj' h2 rfl).1)
theorem uf {u v:PySem.Str} (hu:dJ u) (hv:dJ v):bD (bN u)≠bD (cm v):=by
 intro h;have h1:=(pp (fK (iz hu)) (fK (iA hv)) (fK (ie hu)) (fun q=>nomatch q) h).1;have h2:=congrArg cl h1;have e1:cl (bN u).1=cl (ofString "xmlns:")++cl (aH u):=bF _ _;have e2:cl (cm v).1=cl (aH v)++cl (ofString ":k"):=bF _ _;rw [e1,e2,ic v] at h2;have h3:=congrArg List.head? h2
 cases h3
set_option genSizeOf false in
set_option genInjectivity false in
structure TD where
 laid:List Int
 used:List Int
 sP:List PySem.Str
 sB:List PySem.Str
noncomputable def TD.row (t:TD):List PySem.Str:=hU t.sP t.sB
noncomputable def TD.texts (t:TD):List PySem.Str:=[ofString "<"++ofString "e",Txt.join (ofString "") t.row,ofString ">"]
noncomputable def TD.text (t:TD):PySem.Str:=Txt.join (ofString "") t.texts
structure TDok (t:TD):Prop where
 pP:t.sP.Perm (t.laid.map aV)
 oP:(t.sP.map aH).Pairwise be
 pB:t.sB.Perm (t.used.map aV)
 oB:(t.sB.map (·++ofString "}")).Pairwise be
 ul:1<=t.used.length/\t.used.length<=33
 ll:t.laid.length<=33
 ua:∀p∈t.used,p.natAbs<2 ^ 200
 la:∀p∈t.laid,p.natAbs<2 ^ 200
theorem TDok.pq {t:TD} (h:TDok t) {u:PySem.Str} (hu:u∈t.sP):∃p∈t.laid,u=aV p:=by
 refine am (aP (h.pP.mem_iff.mp hu)) fun p aj=>?_;refine ak aj fun h1 h2=>?_;exact ⟨p,h1,h2.symm⟩
theorem TDok.bq {t:TD} (h:TDok t) {u:PySem.Str} (hu:u∈t.sB):∃p∈t.used,u=aV p:=by
 refine am (aP (h.pB.mem_iff.mp hu)) fun p aj=>?_;refine ak aj fun h1 h2=>?_;exact ⟨p,h1,h2.symm⟩
theorem row_mem {t:TD} {x:PySem.Str}:x∈t.row↔(∃u∈t.sP,x=bD (bN u))\/∃u∈t.sB,x=bD (cm u):=by
 unfold TD.row hU;simp only [List.map_append,List.map_map,List.mem_append,List.mem_map,Function.comp,eq_comm]
theorem kW {t:TD} (h:TDok t):∀x∈t.row,TokS x/\46∉cl x/\x.length<=140:=by
 intro x hx
 rcases row_mem.mp hx with ⟨u,hu,rfl⟩|⟨u,hu,rfl⟩
 ·refine am (h.pq hu) fun p aj=>?_;refine ak aj fun hp aZ=>?_;subst aZ
  exact ⟨HI (db p),uv (iz (db p)) (ie (db p)),HJ (dm (h.la p hp))⟩
 ·refine am (h.bq hu) fun p aj=>?_;refine ak aj fun hp aZ=>?_;subst aZ
  exact ⟨IH (db p),uv (iA (db p)) (fun c hc=>nomatch hc),II (dm (h.ua p hp))⟩
theorem iW {t:TD} (h:TDok t):1<=t.row.length/\t.row.length<=66:=by
 have h1:=h.pP.length_eq;have h2:=h.pB.length_eq;rw [List.length_map] at h1 h2;have:=h.ul;have:=h.ll;unfold TD.row hU;rw [List.length_map,List.length_append,List.length_map,List.length_map];exact yR (by assumption) h1 h2 this
theorem kN {l:List PySem.Str} {k:Nat} (h:∀x∈l,x.length<=k):(l.map (·.length)).sum<=k*l.length:=by
 induction l with
 |nil=>simp
 |cons a l ih=>
  have h1:=h a (.head _);have h2:=ih fun x hx=>h x (.tail _ hx);rw [List.map_cons,List.sum_cons,List.length_cons,Nat.mul_succ];exact qR h2 h1
theorem tL (l:List PySem.Str):(l.map cl).flatten.length=(l.map (·.length)).sum:=by
 induction l with
 |nil=>rfl
 |cons a l ih=>simp only [List.map_cons,List.flatten_cons,List.length_append,List.sum_cons,ih,bK]
theorem oX (l:List PySem.Str):(Txt.join (ofString "") l).length=(l.map (·.length)).sum:=by rw [<-bK,iv,tL]
theorem gZ {t:TD} (h:TDok t):(t.row.map (·.length)).sum<=9240:=by
 have h1:=kN fun x hx=>(kW h x hx).2.2;have:=iW h;exact yQ h1 this.2
theorem qq (t:TD):cl t.text=[60,101]++((t.row.map cl).flatten++[62]):=by
 unfold TD.text;rw [iv];simp only [TD.texts,List.map_cons,List.map_nil,List.flatten_cons,List.flatten_nil,iv,bF,show cl (ofString "<")=[60] from rfl,show cl (ofString "e")=[101] from rfl,show cl (ofString ">")=[62] from rfl];simp
theorem qp {t:TD} (h:TDok t):t.text.length<=9243:=by
 rw [<-bK,qq,List.length_append,List.length_append,tL];have:=gZ h;simp;exact yP this
theorem wJ {a b:TD} (ha:TDok a) (hb:TDok b):a.row.Sublist b.row↔(∀p∈a.laid,p∈b.laid)/\∀p∈a.used,p∈b.used:=by
 constructor
 ·intro hs
  refine ⟨fun p hp=>?_,fun p hp=>?_⟩
  ·have h1:bD (bN (aV p))∈a.row:=row_mem.mpr (.inl ⟨_,ha.pP.mem_iff.mpr (List.mem_map_of_mem hp),rfl⟩)
   rcases row_mem.mp (hs.subset h1) with ⟨u,hu,e⟩|⟨u,hu,e⟩
   ·refine am (hb.pq hu) fun q aj=>?_;refine ak aj fun hq aZ=>?_;subst aZ
    rw [gu (HK (db p) (db q) e)];exact hq
   ·refine am (hb.bq hu) fun q aj=>?_;refine ak aj fun hq aZ=>?_;subst aZ
    exact absurd e (uf (db p) (db q))
  ·have h1:bD (cm (aV p))∈a.row:=row_mem.mpr (.inr ⟨_,ha.pB.mem_iff.mpr (List.mem_map_of_mem hp),rfl⟩)
   rcases row_mem.mp (hs.subset h1) with ⟨u,hu,e⟩|⟨u,hu,e⟩
   ·refine am (hb.pq hu) fun q aj=>?_;refine ak aj fun hq aZ=>?_;subst aZ
    exact absurd e.symm (uf (db q) (db p))
   ·refine am (hb.bq hu) fun q aj=>?_;refine ak aj fun hq aZ=>?_;subst aZ
    rw [gu (IJ (db p) (db q) (dm (ha.ua p hp)) (dm (hb.ua q hq)) e)];exact hq
 ·intro aj;refine ak aj fun h1 h2=>?_
  have s1:a.sP.Sublist b.sP:=by
   refine kO (R:=fun u v=>be (aH u) (aH v)) (fun _ _=>kR) (List.pairwise_map.mp ha.oP) (List.pairwise_map.mp hb.oP) fun u hu=>?_;refine am (ha.pq hu) fun p aj=>?_;refine ak aj fun hp aZ=>?_;subst aZ;exact hb.pP.mem_iff.mpr (List.mem_map_of_mem (h1 p hp))
  have s2:a.sB.Sublist b.sB:=by
   refine kO (R:=fun u v=>be (u++ofString "}") (v++ofString "}")) (fun _ _=>kR) (List.pairwise_map.mp ha.oB) (List.pairwise_map.mp hb.oB) fun u hu=>?_;refine am (ha.bq hu) fun p aj=>?_;refine ak aj fun hp aZ=>?_;subst aZ;exact hb.pB.mem_iff.mpr (List.mem_map_of_mem (h2 p hp))
  exact ((s1.map _).append (s2.map _)).map _
theorem wy {a b:TD} (ha:TDok a) (hb:TDok b):cR b.text 0 (ofString ""::(a.row++[ofString ""]))=true↔(∀p∈a.laid,p∈b.laid)/\∀p∈a.used,p∈b.used:=by
 rw [Fv b.row b.text a.row (qq b) (fun t ht=>(kW hb t ht).1) (fun t ht=>(kW ha t ht).1),List.isSublist_iff_sublist];exact wJ ha hb
noncomputable def dC (rs:List PySem.Str):PySem.Str:=ofString "..."++Txt.join (ofString "...") rs++ofString "..."
theorem sZ (y z:PySem.Str):∀l:List PySem.Str,l≠[]->cl (Str.join y (l++[z]))=cl (Str.join y l)++(cl y++cl z)
 |[],h=>absurd rfl h
 |[a],_=>by
  show cl (Str.join y (a::z::[]))=_;rw [fN];rfl
 |a::b::r,_=>by
  show cl (Str.join y (a::b::(r++[z])))=_;rw [fN,fN];have:=sZ y z (b::r) (by simp);rw [List.cons_append] at this;rw [this];simp
theorem yj {rs:List PySem.Str} (dR:rs≠[]):dC rs=Txt.join (ofString "...") (ofString ""::(rs++[ofString ""])):=by
 apply ed;unfold dC;rw [jv,bF,bF,jv]
 match rs,dR with
 |a::r,_=>
  rw [List.cons_append,fN,show cl (ofString "")=[] from rfl];have:=sZ (ofString "...") (ofString "") (a::r) (by simp);rw [List.cons_append] at this;rw [this,show cl (ofString "")=[] from rfl];simp
theorem yg {t:TD} (h:TDok t):Txt.split (dC t.row) (ofString "...")=ofString ""::(t.row++[ofString ""]):=by
 have dR:t.row≠[]:=fun e=>by have:=iW h;rw [e] at this;simp at this
 rw [yj dR];refine qB (ofString "...") _ (c:=46) (t:=[46,46]) rfl (by decide+kernel) (by simp) fun x hx=>?_
 rcases aB hx with rfl|hx
 ·exact fun q=>nomatch q
 ·refine Or.elim (aE hx) (fun hx=>?_) fun hx=>?_
  ·exact (kW h x hx).2.1
  ·rw [br hx];exact fun q=>nomatch q
theorem lK (y:PySem.Str):∀l:List PySem.Str,(cl (Str.join y l)).length<=(l.map (·.length)).sum+y.length*l.length
 |[]=>by simp [Str.join,show cl Str.empty=[] from rfl]
 |[a]=>by
  have e:Str.join y [a]=a:=rfl;rw [e,bK];simp
 |a::b::r=>by
  rw [fN];have:=lK y (b::r);simp only [List.length_append,bK,List.map_cons,List.sum_cons,List.length_cons,Nat.mul_succ] at this ⊢;exact yO this
theorem yh {t:TD} (h:TDok t):(dC t.row).length<=10000:=by
 rw [<-bK];unfold dC;rw [bF,bF,jv,List.length_append,List.length_append];have h1:=lK (ofString "...") t.row;have h2:=gZ h;have h3:=iW h;have e:(ofString "...").length=3:=rfl;have e2:(cl (ofString "...")).length=3:=rfl;rw [e] at h1;exact yN e2 h1 h3.2 h2
theorem yi (rs:List PySem.Str):(occurrences (dC rs) (ofString "...") 0 (dC rs).length 1).isEmpty=false:=by
 rcases jj (dC rs) (ofString "...") 0 (Nat.zero_le _) with ⟨_,h⟩|⟨k,e,_⟩
 ·have h1:subAt (dC rs) (ofString "...") 0=true:=by
   refine mZ (r:=cl (Txt.join (ofString "...") rs)++cl (ofString "...")) ?_;unfold dC;rw [bF,bF,List.append_assoc];rfl
  have h2:0+(ofString "...").length<=(dC rs).length:=by
   rw [<-bK (dC rs)];unfold dC;rw [bF,bF,List.length_append,List.length_append];have:(cl (ofString "...")).length=3:=rfl;have e:(ofString "...").length=3:=rfl;exact yM this e
  rw [h 0 (Nat.le_refl _) h2] at h1
  cases h1
 ·rw [e];rfl
theorem vT (n:Int):Txt.split (Txt.join (ofString ", ") (bR n)) (ofString ", ")=bR n:=by
 refine qB (ofString ", ") _ (c:=44) (t:=[32]) rfl (by decide+kernel) ?_ fun x hx=>?_
 ·unfold bR
  intro e;have:=ls n;rw [List.map_eq_nil_iff.mp e] at this;simp at this
 ·refine am (mE hx) fun p aj=>?_;refine ak aj fun _ aZ=>?_;subst aZ
  exact jg (db p) rfl
theorem vU {n:Int} (h:n.natAbs<2 ^ 100):(Txt.join (ofString ", ") (bR n)).length<=10000:=by
 rw [<-bK,jv];have h1:=lK (ofString ", ") (bR n)
 have h2:((bR n).map (·.length)).sum<=60*(bR n).length:=kN fun x hx=>by
  refine am (mE hx) fun p aj=>?_;refine ak aj fun hp aZ=>?_;subst aZ;exact dm (oF h p hp)
 have h3:(bR n).length=(cL n).length:=by unfold bR;rw [List.length_map]
 have h4:=ls n;have e:(ofString ", ").length=2:=rfl;rw [e] at h1;exact yL h3 h2 h1 h4.2
end
theorem lO {A0 A1 A2 A3 A4 A5 A6 A7 A8 A9 q_ y_:Type} {P:A0->A1->A2->A3->A4->A5->A6->A7->A8->A9->q_->y_->Prop} {g:Prop} (h:∃a0 a1 a2 a3 a4 a5 a6 a7 a8 a9 SA Sd,P a0 a1 a2 a3 a4 a5 a6 a7 a8 a9 SA Sd) (k:∀a0 a1 a2 a3 a4 a5 a6 a7 a8 a9 SA Sd,P a0 a1 a2 a3 a4 a5 a6 a7 a8 a9 SA Sd->g):g:=by
 refine fV h fun a0 a1 a2 a3 a4 a5 a6 a7 aj=>?_;clear h;refine dU aj fun a8 a9 SA Sd h=>?_;exact k _ _ _ _ _ _ _ _ _ _ _ _ h
noncomputable def cM:Stmt->List Stmt
 | .For _ _ b _ _=>b
 |_=>[]
noncomputable def PairsLed (led:ax) (vs:List Value) (us:List (Str×Str)):Prop:=vs.length=us.length/\∀(i:Nat) u,us[i]?=some u->∃q t1 t2,vs[i]?=some (.ref q)/\(q,aO [.str u.1 t1, .str u.2 t2])∈led
theorem PairsLed.mono {led dq:ax} {vs:List Value} {us:List (Str×Str)} (h:PairsLed led vs us) (hs:∀p∈led,p∈dq):PairsLed dq vs us:=⟨h.1,fun i u hu=>by refine aW (h.2 i u hu) fun q t1 t2 aj=>?_;refine ak aj fun a b=>?_;exact ⟨q,t1,t2,a,hs _ b⟩⟩
theorem PairsLed.at {g h:Heap} {L:Addr} {led:ax} {vs:List Value} {us:List (Str×Str)} (x:PairsLed led vs us) (N:News g L h led):PairsAt h vs us:=⟨x.1,fun i v u hv hu=>by
 refine aW (x.2 i u hu) fun q t1 t2 aj=>?_;refine ak aj fun a b=>?_;rw [hv] at a;cases a
 exact ⟨q,t1,t2,rfl,N.get b⟩⟩
theorem PairsAt.app {h:Heap} {vs ws:List Value} {us xs:List (Str×Str)} (x:PairsAt h vs us) (y:PairsAt h ws xs):PairsAt h (vs++ws) (us++xs):=by
 refine ⟨by rw [List.length_append,List.length_append,x.1,y.1],fun i v u hv hu=>?_⟩
 by_cases hi:i<vs.length
 ·rw [List.getElem?_append_left hi] at hv
  rw [List.getElem?_append_left (by rw [<-x.1];exact hi)] at hu;exact x.2 i v u hv hu
 ·rw [List.getElem?_append_right (q5 hi)] at hv
  rw [List.getElem?_append_right (by rw [<-x.1];exact q5 hi),<-x.1] at hu;exact y.2 _ v u hv hu
noncomputable def RowsLed (led:ax):bk->List (List (Str×Str))->Prop
 |[],[]=>True
 |r::rs,nw::nws=>((∃k,(r.1,listOf r.2 k)∈led)/\PairsLed led r.2.toList nw)/\RowsLed led rs nws
 |_,_=>False
noncomputable def bE (nws:List (List (Str×Str))):List (Str×Str):=nws.reverse.flatten
theorem mK (nw:List (Str×Str)) (nws:List (List (Str×Str))):bE (nw::nws)=bE nws++nw:=by simp [bE]
theorem ya (r:Addr×Array Value) (rs:bk):cr (r::rs)=cr rs++r.2.toList:=by simp [cr]
theorem RowsLed.len {led:ax}:∀{rows:bk} {nws},RowsLed led rows nws->rows.length=nws.length
 |[],[],_=>rfl
 |_::_,_::_,h=>congrArg (·+1) (RowsLed.len h.2)
 |[],_::_,h=>h.elim
 |_::_,[],h=>h.elim
theorem RowsLed.mono {led dq:ax} (hs:∀p∈led,p∈dq):∀{rows:bk} {nws},RowsLed led rows nws->RowsLed dq rows nws
 |[],[],_=>trivial
 |_::_,_::_,h=>⟨⟨let ⟨k,hk⟩:=h.1.1;⟨k,hs _ hk⟩,h.1.2.mono hs⟩,RowsLed.mono hs h.2⟩
 |[],_::_,h=>h.elim
 |_::_,[],h=>h.elim
theorem RowsLed.take {led:ax}:∀{rows:bk} {nws} (k:Nat),RowsLed led rows nws->RowsLed led (rows.take k) (nws.take k)
 |_,_,0,_=>trivial
 |[],[],_+1,_=>trivial
 |_::_,_::_,k+1,h=>⟨h.1,RowsLed.take k h.2⟩
 |[],_::_,_,h=>h.elim
 |_::_,[],_,h=>h.elim
theorem RowsLed.snoc {led:ax} {r:Addr×Array Value} {nw:List (Str×Str)} {k:Nat} (hm:(r.1,listOf r.2 k)∈led) (hp:PairsLed led r.2.toList nw):∀{rows:bk} {nws},RowsLed led rows nws->RowsLed led (rows++[r]) (nws++[nw])
 |[],[],_=>⟨⟨⟨k,hm⟩,hp⟩,trivial⟩
 |_::_,_::_,h=>⟨h.1,RowsLed.snoc hm hp h.2⟩
 |[],_::_,h=>h.elim
 |_::_,[],h=>h.elim
theorem RowsLed.mem {led:ax}:∀{rows:bk} {nws},RowsLed led rows nws->∀r∈rows,(∃k,(r.1,listOf r.2 k)∈led)/\∃nw∈nws,PairsLed led r.2.toList nw
 |[],[],_,_,h=>nomatch h
 |r::_,nw::_,h,q,hq=>by
  rcases aB hq with rfl|hq
  ·exact ⟨h.1.1,nw, .head _,h.1.2⟩
  ·refine ak (RowsLed.mem h.2 q hq) fun a aj=>?_;refine am aj fun ZT aZ=>?_;refine ak aZ fun b c=>?_
   exact ⟨a,ZT, .tail _ b,c⟩
 |[],_::_,h,_,_=>h.elim
 |_::_,[],h,_,_=>h.elim
theorem RowsLed.pairs {g h:Heap} {L:Addr} {led:ax} (N:News g L h led):∀{rows:bk} {nws},RowsLed led rows nws->PairsAt h (cr rows) (bE nws)
 |[],[],_=>⟨rfl,fun i v u hv _=>by simp [cr] at hv⟩
 |r::rs,nw::nws,x=>by
  rw [ya,mK];exact (RowsLed.pairs N x.2).app (x.1.2.at N)
 |[],_::_,x=>x.elim
 |_::_,[],x=>x.elim
theorem RowsLed.at {g h:Heap} {L st:Addr} {led:ax} {rows:bk} {nws:List (List (Str×Str))} {n:Nat} (N:News g L h led) (hm:(st,listOf (bc rows).toArray n)∈led) (x:RowsLed led rows nws) (hz:∀nw∈nws,nw.length<=100000):RowsAt h st rows (bE nws):=
 ⟨bo N hm,fun r hr=>by refine ak (x.mem r hr) fun aj _=>?_;refine am aj fun k hk=>?_;exact bo N hk,fun r hr=>by
  refine ak (x.mem r hr) fun _ aj=>?_;refine am aj fun nw aZ=>?_;refine ak aZ fun hn hp=>?_;have h1:=hp.1;have h2:=hz nw hn
  have h3:r.2.size=r.2.toList.length:=by simp
  exact EN h1 h3 h2,x.pairs N⟩
theorem JM:True:=by
 (k_with "call ref"=>((k_here;(with_reducible show wpAny _ _ (call (Value.ref 133) _ _) _ _ _);refine Stop.out ?_)))
 (k_with "execs cons"=>((k_here;(with_reducible show wpAny _ _ (execs (Stmt.For (Expr.Name (ofString "word") _) _ _ _ _::_) _) _ _ _);refine Stop.out ?_)))
 (k_with "pyIter ref"=>((k_here;(with_reducible show wpAny _ _ (pyIter (Value.ref _)) (eg _ _ _ _ _ _ _ _ _) _ _);refine Stop.out ?_)))
 trivial
theorem fi {α:Type} {l:List α} {k:Nat} (h:k<l.length):l.take (k+1)=l.take k++[l[k]]:=by rw [List.take_add_one,List.getElem?_eq_getElem h];rfl
theorem iY (a:bk) (b:Addr×Array Value):bc (a++[b])=bc a++[Value.ref b.1]:=by simp [bc]
theorem qh (nws:List (List (Str×Str))) (k:Nat):bE nws=bE (nws.drop k)++bE (nws.take k):=by
 unfold bE;rw [<-List.flatten_append,<-List.reverse_append,List.take_append_drop]
theorem mJ {nws:List (List (Str×Str))} {nw:List (Str×Str)} (h:nw∈nws):nw.length<=(bE nws).length:=by
 induction nws with
 |nil=>nomatch h
 |cons a as ih=>
  rw [mK,List.length_append]
  rcases aB h with rfl|h
  ·exact DG
  ·have:=ih h;exact qS this
theorem sC {g h:Heap} {L:Addr} {led:ax} (N:News g L h led) (P:Tok->Nat->Nat->ax) (hs:∃t k1 k2,∀p∈P t k1 k2,p∈led):∃t k1 k2,News g L h (P t k1 k2):=let ⟨t,k1,k2,H⟩:=hs;⟨t,k1,k2,bf N H⟩
noncomputable def kc (x:WS) (W d pc du ar D:Addr) (n:WN) (n1 n2 n3 n4 n5 n6 n7 kd dep:Nat) (rows:bk) (nws:List (List (Str×Str))) (ni pi its dus ars vd:List Value) (oar ok:Obj) (tk:Tok) (ds:List Int) (j:Nat) (ps qs:List Str) (rest:ax) (_:Nat):Prop:=HO w fun qual body scope=>∀(B:Below callerA g [] g) (X:(hd.heap_39 w.params).In g) (T:Top p a_ bz mg mb g) (F:Fr g L s.heap m) (N:News g L s.heap (cC w.params W d pc n n1 n2 n3 n4 n5 x (bc rows).toArray ni.toArray pi.toArray its.toArray++(du,listOf dus.toArray n6)::(ar,listOf ars.toArray n7)::(L+1+1+1,oar)::(L+1+1+1+1,ok)::(D,listOf vd.toArray kd)::rest)) (hoa:oar.data= .cell (some (.ref ar))) (m_:ok.data= .cell (some (.int (j:Nat) tk))) (mW:m (ofString "writer")=some (.ref W)) (mU:m (ofString "due")=some (.ref du)) (mD:m (ofString "deeds")=some (.ref D)) (hI:IntsAre vd ds) (hj:j<ds.length) (Nz:ds.length<=6) (hdz:∀z∈ds,z.natAbs<2 ^ 64) (nd:([W,d,x.data,x.nss,x.decl,x.pres,x.write,pc,du,ar]:List Nat).Nodup) (off:∀r∈(L+1+1+1,oar)::(L+1+1+1+1,ok)::(D,listOf vd.toArray kd)::rest,r.1∉([W,d,x.data,x.nss,x.decl,x.pres,x.write,pc,du,ar]:List Nat)) (hR:RowsLed rest rows nws) (l1:rows.length=dep+1) (l2:ni.length=dep+2) (l3:pi.length=dep+1) (l4:ars.length=dep) (KM:dep<=20) (l5:its.length<=100) (l6:dus.length<=100) (PZ:StrsAre its ps) (Qe:StrsAre dus qs) (eo:∀u∈bE nws,u.1≠ofString ""/\u.2≠ofString "") (v_:(bE nws).length<1000) (bL:∀c b_ m' n' b eM n_ j_ k_ Kz ME Hk C_ (s':Shared),b_+c=dep->(1<=dep->1<=b_)->(∀y,y≠ofString "turn"->m' y=m y)->StrsAre Hk (ps++List.replicate c (ofString "</e>"))->StrsAre C_ (qs++List.replicate c (ofString "</e>"))->Fr g L s'.heap m'->
  News g L s'.heap (cC w.params W d pc ⟨n',n.seen,b⟩ n1 eM n_ j_ k_ x (bc (rows.take (b_+1))).toArray (ni.take (b_+2)).toArray (pi.take (b_+1)).toArray Hk.toArray++(du,listOf C_.toArray Kz)::(ar,listOf (ars.take b_).toArray ME)::(L+1+1+1,oar)::(L+1+1+1+1,ok)::(D,listOf vd.toArray kd)::rest)->aM s s'->
  WX w qual scope L fa cd ((cM (body.getD 9 (.Pass default))).drop 1) Q E s'),
 WX w qual scope L fa cd (cM (body.getD 9 (.Pass default))) Q E s
noncomputable def vk:=bA (iC kc) ((bw,default,[],fun _=>none,fun _=>none,fun _=>none,{},0),(0, .none,fun _=>none,{},fun _ _=>True,fun _ _=>True,⟨0,0,0,0,0,0,fun _=>0⟩,0),(0,0,0,0,0,⟨0,false,false⟩,0,0),(0,0,0,0,0,0,0,[]),([],[],[],[],[],[],[],default),(default,0,[],0,[],[],[],0))
theorem xQ:∀{w p a_ bz mg mb g L fa cd m s Q E x W d pc du ar D n n1 n2 n3 n4 n5 n6 n7 kd dep rows nws ni pi its dus ars vd oar ok tk ds j ps qs rest},kc w p a_ bz mg mb g L fa cd m s Q E x W d pc du ar D n n1 n2 n3 n4 n5 n6 n7 kd dep rows nws ni pi its dus ars vd oar ok tk ds j ps qs rest 0:=by
 intros;apply oz kc (c:=vk) rfl;apply (?zg:lZ kc);intros w p a_ bz mg mb g L fa cd m s Q E x W d pc du ar D n n1 n2 n3 n4 n5 n6 n7 kd dep rows nws ni pi its dus ars vd oar ok tk ds j ps qs rest _;intros oc an name qual params body scope dV kV gF pm cA ct l_ z_ ho B X T F N hoa m_ mW mU mD hI hj Nz hdz nd off hR l1 l2 l3 l4 KM l5 l6 PZ Qe eo v_ bL;dsimp only [WX] at bL ⊢;revert qual body scope cA;k_fill;refine' no_implicit_lambda% (dd (K:=hd.heap_39 w.params) (f:=212) ?h1 ?main)
 case h1=>k_is
 intro bL;dsimp only [List.drop,List.getD,List.getElem?_cons_succ,List.getElem?_cons_zero,Option.getD,cM] at bL ⊢;have PR:=nd;replace nd:=fw nd;dsimp only [ND,NI] at nd;refine eF nd fun aj aZ bU dK pH Lb LJ LS j9 Me=>?_;clear nd Me;refine fb aj fun a1 a2 a3 a4 a5 a6 a7 a8 a9=>?_;refine fe aZ fun b2 b3 b4 b5 b6 b7 b8 b9=>?_;refine ef bU fun c3 c4 c5 c6 c7 c8 c9=>?_;refine dI dK fun d4 d5 d6 d7 d8 d9=>?_;refine bv pH fun e5 e6 e7 e8 e9=>?_;refine bO Lb fun f6 f7 f8 f9=>?_;refine aI LJ fun g7 g8 g9=>?_;refine ak LS fun i8 i9=>?_
 have Oq:∀z∈([L+1+1+1,L+1+1+1+1,D]:List Nat),z≠du/\z≠ar:=by
  have z1:=off _ (.head _);have z2:=off _ (.tail _ (.head _));have z3:=off _ (.tail _ (.tail _ (.head _)));replace z1:=dh z1;dsimp only [NI] at z1;replace z2:=dh z2;dsimp only [NI] at z2;replace z3:=dh z3;dsimp only [NI] at z3;refine cu ?_;dsimp only [FC];exact ⟨z1.2.2.2.2.2.2.2.2,z2.2.2.2.2.2.2.2.2,z3.2.2.2.2.2.2.2.2,trivial⟩
 replace Oq:=gJ Oq;dsimp only [FA] at Oq;refine bO Oq fun aj aZ u5 u6=>?_;clear Oq;refine ak aj fun u1 u2=>?_;refine ak aZ fun u3 u4=>?_;dsimp only [cC,W0,List.cons_append,List.nil_append] at N;k_steps;refine ⟨?_⟩;rename IsRange _ _ _ _ _ _ _ _=>hrg;rename Fr _ _ _ _=>F1;rename News _ _ _ _=>N1;have Sm:0<=(ds.getD ((j:Int)).toNat 0).fmod 3/\(ds.getD ((j:Int)).toNat 0).fmod 3<3:=⟨Int.fmod_nonneg_of_pos _ (by decide),Int.fmod_lt_of_pos _ (by decide)⟩;generalize (ds.getD ((j:Int)).toNat 0).fmod 3=z at hrg Sm
 refine jp (n:=z.toNat) (Inv:=fun i m' led=>∃c b_ n' b eM n_ j_ k_ Kz ME Hk C_,c<=i/\b_+c=dep/\(1<=dep->1<=b_)/\(∀y,y≠ofString "turn"->m' y=m y)/\StrsAre Hk (ps++List.replicate c (ofString "</e>"))/\StrsAre C_ (qs++List.replicate c (ofString "</e>"))/\led=cC w.params W d pc ⟨n',n.seen,b⟩ n1 eM n_ j_ k_ x (bc (rows.take (b_+1))).toArray (ni.take (b_+2)).toArray (pi.take (b_+1)).toArray Hk.toArray++(du,listOf C_.toArray Kz)::(ar,listOf (ars.take b_).toArray ME)::(L+1+1+1,oar)::(L+1+1+1+1,ok)::(D,listOf vd.toArray kd)::rest)
  hrg F1 N1 rfl (DF Sm.1) (by decide) (DE Sm.2) ⟨0,dep,n.n,n.done,n2,n3,n4,n5,n6,n7,its,dus,Nat.le_refl _,rfl,id,fun _ _=>rfl,by simpa using PZ,by simpa using Qe,by rw [List.take_of_length_le (li l1),List.take_of_length_le (rH l2),List.take_of_length_le (li l3),List.take_of_length_le (DD l4)];rfl⟩ ?turn ?done
 case done=>
  intros aC led s₁ hJ F2 N2 S2;refine lO hJ ?_;intros c b_ n' b eM n_ j_ k_ Kz ME Hk C_ aj;refine ef aj fun aZ h1 h2 h3 h4 h5 bU=>?_;subst bU;clear hJ;clear N1 F1;k_steps;refine ⟨?_⟩;exact bL c b_ aC n' b eM n_ j_ k_ Kz ME Hk C_ _ h1 h2 h3 h4 h5 F2 N2 (SameF.trans S2 SameF.refl)
 case turn=>
  intros i NV aC led I oI s₁ hi hJ F2 N2 offI S2;refine lO hJ ?_;intros c b_ n' b eM n_ j_ k_ Kz ME Hk C_ aj;refine ef aj fun hc h1 h2 h3 h4 h5 aZ=>?_;subst aZ;clear hJ;have XH:=(h3 (ofString "writer") (by decide)).trans mW;have mU':=(h3 (ofString "due") (by decide)).trans mU;have PT:i<3:=Nat.lt_of_lt_of_le hi (Int.toNat_le_toNat (Int.le_of_lt Sm.2));dsimp only [cC,W0,List.cons_append,List.nil_append] at N2 offI;replace offI:=cj offI;dsimp only [FC] at offI;clear N1 F1 bL
  have ll4:(ars.take b_).length=b_:=by rw [List.length_take];exact Nat.min_eq_left (by rw [l4,<-h1];exact Nat.le_add_right _ _)
  k_steps
  ·refine ⟨?_⟩
   rename 1<((b_:Nat):Int)=>WF
   rename Fr _ _ _ (fun y=>if y=ofString "turn" then _ else _)=>F3
   rename News _ _ _ ((I,oI)::_)=>N3;clear N2 F2;obtain ⟨e,rfl⟩:∃e,b_=e+1:=⟨b_ - 1,(Nat.sub_add_cancel (Nat.le_of_lt (Int.ofNat_lt.mp WF))).symm⟩;have je:e<dep:=Nat.le_trans (Nat.le_add_right (e+1) c) (Nat.le_of_eq h1)
   have j1:e+1<rows.length:=by rw [l1];exact Nat.succ_lt_succ je
   have j2:e+2<ni.length:=by rw [l2];exact Nat.succ_lt_succ (Nat.succ_lt_succ je)
   have j3:e+1<pi.length:=by rw [l3];exact Nat.succ_lt_succ je
   have j4:e<ars.length:=by rw [l4];exact je
   have jd:e<20:=Nat.lt_of_lt_of_le je (by assumption);have jc:c<=20:=Nat.le_trans (Nat.le_add_left c (e+1)) (Nat.le_trans (Nat.le_of_eq h1) (by assumption));have r1:(rows.take (e+1+1))=rows.take (e+1)++[rows[e+1]'j1]:=fi j1;have r2:(ni.take (e+1+2))=ni.take (e+2)++[ni[e+2]'j2]:=fi j2;have r3:(pi.take (e+1+1))=pi.take (e+1)++[pi[e+1]'j3]:=fi j3;have r4:(ars.take (e+1))=ars.take e++[ars[e]'j4]:=fi j4;have PA:=RowsLed.take (e+1+1) hR;have Ss:∀r∈rows,∃k,(r.1,listOf r.2 k)∈rest:=fun r hr=>(hR.mem r hr).1;have hu:=qh nws (e+1+1)
   have Nk:(bE (nws.take (e+1+1))).length<1000:=by have:=congrArg List.length hu;rw [List.length_append] at this;exact Nat.lt_of_le_of_lt (Nat.le_trans (Nat.le_add_left _ _) (Nat.le_of_eq this.symm)) (by assumption)
   have OX:∀u∈bE (nws.take (e+1+1)),u.1≠ofString ""/\u.2≠ofString "":=fun u hm=>eo u (by rw [hu];exact ay _ hm);have Nt:∀r∈rows.take (e+1+1),r∈rows:=fun r hr=>List.mem_of_mem_take hr;rw [r1] at PA Nt;rw [r1,r2,r3,r4,iY] at N3;generalize rows[e+1]'j1=MT at N3 PA Nt;generalize ni[e+2]'j2=nt at N3;generalize pi[e+1]'j3=pt at N3;generalize ars[e]'j4=at' at N3;have I_:=h4.length;rw [List.length_append,List.length_replicate] at I_;have SY:=PZ.length;have Q2:=h5.length;rw [List.length_append,List.length_replicate] at Q2;have Tb:=Qe.length
   have jt:Hk.length<=1000:=by rw [I_,<-SY];exact Nat.le_trans (Nat.add_le_add (by assumption:its.length<=100) jc) (by decide)
   have Se:([W,d,x.data,x.nss,x.decl,x.pres,x.write,pc]:List Nat).Nodup:=List.Nodup.sublist (List.sublist_append_left ([W,d,x.data,x.nss,x.decl,x.pres,x.write,pc]:List Nat) [du,ar]) PR;have NO:∀r∈(L+1+1+1,oar)::(L+1+1+1+1,ok)::(D,listOf vd.toArray kd)::rest,r.1∉([W,d,x.data,x.nss,x.decl,x.pres,x.write,pc]:List Nat):=fun r hr hq=>off r hr (by exact cz [0,1,2,3,4,5,6,7] rfl _ hq);refine dO (ui W d pc ⟨n',n.seen,b⟩ n1 eM n_ j_ k_ x _ (rows.take (e+1)) MT (ni.take (e+2)) (pi.take (e+1)) nt pt Hk.toArray (bE (nws.take (e+1+1))) Nk OX (by simp;first|exact jt|exact Nat.le_trans (Nat.min_le_left _ _) (Nat.le_trans jd (by decide))|exact Nat.le_trans (Nat.min_le_left _ _) (Nat.le_trans (Nat.succ_le_succ jd) (by decide))) (by simp;first|exact jt|exact Nat.le_trans (Nat.min_le_left _ _) (Nat.le_trans jd (by decide))|exact Nat.le_trans (Nat.min_le_left _ _) (Nat.le_trans (Nat.succ_le_succ jd) (by decide))) (by simp;first|exact jt|exact Nat.le_trans (Nat.min_le_left _ _) (Nat.le_trans jd (by decide))|exact Nat.le_trans (Nat.min_le_left _ _) (Nat.le_trans (Nat.succ_le_succ jd) (by decide))) (by simp;first|exact jt|exact Nat.le_trans (Nat.min_le_left _ _) (Nat.le_trans jd (by decide))|exact Nat.le_trans (Nat.min_le_left _ _) (Nat.le_trans (Nat.succ_le_succ jd) (by decide))) Se ?hr) B F3 X N3 T rfl rfl rfl ?sub ?rows (fy _ (by decide)) (d3 _ (by decide)) ?_
   case hr=>
    intro r hr;refine am (Ss r (Nt r hr)) fun k hk=>?_;exact NO _ (.tail _ (.tail _ (.tail _ hk)))
   case sub=>dsimp only [cC,W0];exact cz [1,2,3,4,5,6,7,8] rfl
   case rows=>
    refine RowsLed.at (n:=n_) N3 ?_ (PA.mono fun q hq=>by exact bI 14 rfl hq) fun nw hn=>?_
    ·rw [iY];simp
    ·have:=mJ hn;exact Nat.le_trans this (Nat.le_of_lt (Nat.lt_trans Nk (by decide)))
   intros b2 m1 m2 m3 m4 m5 tx s' F' N' K' S';have Lk:=d0 N3 K' N' (others:=(I,oI)::(du,listOf C_.toArray Kz)::(ar,listOf (ars.take e++[at']).toArray ME)::(L+1+1+1,oar)::(L+1+1+1+1,ok)::(D,listOf vd.toArray kd)::rest) ?oh ?of
   case oh=>
    intro q hq;exact cv [0,9,10,11,12,13] 14 rfl rfl _ hq
   case of=>
    intro q hq
    rcases aB hq with rfl|hq
    ·refine bZ ?_;dsimp only [NI]
     exact ⟨Ne.symm offI.1,Ne.symm offI.2.1,Ne.symm offI.2.2.1,Ne.symm offI.2.2.2.1,Ne.symm offI.2.2.2.2.1,Ne.symm offI.2.2.2.2.2.1,Ne.symm offI.2.2.2.2.2.2.1,Ne.symm offI.2.2.2.2.2.2.2.1⟩
    ·rcases aB hq with rfl|hq
     ·refine bZ ?_;dsimp only [NI]
      exact ⟨Ne.symm a8,Ne.symm b8,Ne.symm c8,Ne.symm d8,Ne.symm e8,Ne.symm f8,Ne.symm g8,Ne.symm i8⟩
     ·rcases aB hq with rfl|hq
      ·refine bZ ?_;dsimp only [NI]
       exact ⟨Ne.symm a9,Ne.symm b9,Ne.symm c9,Ne.symm d9,Ne.symm e9,Ne.symm f9,Ne.symm g9,Ne.symm i9⟩
      ·exact NO q hq
   clear N' N3 F3;dsimp only [cC,W0,List.cons_append,List.nil_append] at Lk;refine pC offI fun q1 q2 q3 q4 q5 q6 q7 q8 q9 fJ jb fZ ja hZ=>?_;clear offI;have hru:∀r∈rest, @Ne Nat r.1 du:=fun r hr h=>off r (.tail _ (.tail _ (.tail _ hr))) (by simp [h]);have hra:∀r∈rest, @Ne Nat r.1 ar:=fun r hr h=>off r (.tail _ (.tail _ (.tail _ hr))) (by simp [h])
   have hpz:(ars.take e).length=e:=by rw [List.length_take];exact Nat.min_eq_left (Nat.le_of_lt j4)
   have hzu:C_.length<=200:=by rw [Q2,<-Tb];exact Nat.le_trans (Nat.add_le_add (by assumption:dus.length<=100) jc) (by decide)
   clear off NO PR Se PA Nt Ss hu Nk OX K';k_steps
   rename Fr _ _ _ (fun y=>if y=ofString "turn" then _ else _)=>F5
   rename News _ _ _ ((W,_)::_)=>N5;simp only [List.push_toArray] at N5
   obtain ⟨t6,k1,k2,N6⟩:=sC N5 (fun t k1 k2=>(I,oI)::(cC w.params W d pc ⟨m1,n.seen,b2⟩ n1 m2 m3 m4 m5 x (bc (rows.take (e+1))).toArray (ni.take (e+2)).toArray (pi.take (e+1)).toArray (Hk++[Value.str (ofString "</e>") tx]).toArray++(du,listOf (C_++[Value.str (ofString "</e>") t]).toArray k1)::(ar,listOf (ars.take e).toArray k2)::(L+1+1+1,oar)::(L+1+1+1+1,ok)::(D,listOf vd.toArray kd)::rest)) (by
    refine' ⟨?t,?k1,?k2,?led⟩
    case led=>dsimp only [cC,W0,List.cons_append,List.nil_append];walk_at "allinT")
   refine LoopEnd.intro F5 N6 (by (try dsimp only [cC,W0,List.cons_append,List.nil_append]);refine cu ?_;dsimp only [FC];exact ⟨q1,q2,q3,q4,q5,q6,q7,q8,q9,fJ,jb,fZ,ja,hZ⟩) (SameF.trans S2 (SameF.trans SameF.refl S')) ⟨c+1,e,m1,b2,m2,m3,m4,m5,k1,k2,Hk++[Value.str (ofString "</e>") tx],C_++[Value.str (ofString "</e>") t6],Nat.succ_le_succ hc,by rw [<-h1,Nat.add_assoc,Nat.add_comm 1 c],fun _=>Nat.le_of_lt_succ (Int.ofNat_lt.mp WF),?_,?_,?_,rfl⟩
   ·intro y hy
    dsimp only;rw [if_neg hy];exact h3 y hy
   ·rw [List.replicate_succ',<-List.append_assoc]
    exact h4.append' (.cons _ _ .nil)
   ·rw [List.replicate_succ',<-List.append_assoc]
    exact h5.append' (.cons _ _ .nil)
  ·rename Fr _ _ _ (fun y=>if y=ofString "turn" then _ else _)=>F3
   rename News _ _ _ ((I,oI)::_)=>N3;refine LoopEnd.intro F3 N3 (by refine cu ?_;dsimp only [FC];exact offI) (SameF.trans S2 SameF.refl) ⟨c,b_,n',b,eM,n_,j_,k_,Kz,ME,Hk,C_,Nat.le_succ_of_le hc,h1,h2,?_,h4,h5,rfl⟩;intro y hy;dsimp only;rw [if_neg hy];exact h3 y hy
theorem JK:True:=by
 (k_with "call ref"=>((k_here;(with_reducible show wpAny _ _ (call (Value.ref 202) _ _) _ _ _);refine Stop.out ?_)))
 (k_with "call ref"=>((k_here;(with_reducible show wpAny _ _ (call (Value.ref 113) _ _) _ _ _);refine Stop.out ?_)))
 (k_with "execs cons"=>((k_here;(with_reducible show wpAny _ _ (execs (Stmt.Assign [Expr.Name (ofString "begin") _] _ _::_) _) _ _ _);refine Stop.out ?_)))
 (k_with "subscriptTail Name BinOp ref int"=>((k_here;refine Stop.out ?_)))
 (k_with "subscriptTail Name Name ref int"=>((k_here;refine Stop.out ?_)))
 trivial
theorem gi {prog:Program} {w:World} {A:Around} {E:Value->Shared->Prop} {s:Shared} {h₀:Heap} {L l:Addr} {news:ax} {L4 slice:PySem.Expr} {vs:List Value} {v:Value} {i:Int} {k n:Nat} {u:Tok} {Q:Value->Shared->Prop} (N:News h₀ L s.heap news) (hm:(l,listOf vs.toArray n)∈news) (hv:vs[k]?=some v) (hi:i=(k:Int)) (hk:k<1000000) (h:Q v s)
  (hs:subscripted slice false (.ref l) (.int i u)=operate [.ref l, .int i u] (getItem (.ref l) (.int i u))):
  wpAny (model prog w) A (subscriptTail L4 slice (.ref l) (.int i u)) Q E s:=by
 subst hi;have hl:s.heap.IsList l vs.toArray:=bo N hm;exact tail_any hl.typeIs slot_list_getitem.lookup (wpAny_getItem_list hl (rG) (DC hk) (by simpa using hv) h) hs
theorem JJ:True:=by
 (k_with "binaryOp Mod int int"=>((k_here;refine Stop.out ?_)))
 trivial
theorem PairsLed.snoc {led:ax} {vs:List Value} {us:List (Str×Str)} {q:Addr} {u:Str×Str} {t1 t2:Tok} (h:PairsLed led vs us) (hm:(q,aO [.str u.1 t1, .str u.2 t2])∈led):PairsLed led (vs++[Value.ref q]) (us++[u]):=by
 refine ⟨by rw [List.length_append,List.length_append,h.1];rfl,fun i u' hi=>?_⟩
 by_cases hl:i<us.length
 ·rw [List.getElem?_append_left hl] at hi
  refine aW (h.2 i u' hi) fun q' TN Uw aj=>?_;refine ak aj fun a b=>?_;exact ⟨q',TN,Uw,by rw [List.getElem?_append_left (by rw [h.1];exact hl)];exact a,b⟩
 ·rw [List.getElem?_append_right (q5 hl)] at hi
  have h0:i - us.length=0:=by
   have:=(List.getElem?_eq_some_iff.mp hi).1;simp at this;exact q6 this
  rw [h0] at hi
  cases hi
  exact ⟨q,t1,t2,by rw [List.getElem?_append_right (by rw [h.1];exact q5 hl),h.1,h0];rfl,hm⟩
noncomputable def kb (x:WS) (W d top D wl:Addr) (n:WN) (n1 n2 n3 kd kw:Nat) (iN tit vd vw:List Value) (ok ow:Obj) (tk:Tok) (j:Nat) (wls:List (List Str)) (tus:List (Str×Str)) (imm rest:ax) (_ _:Nat):Prop:=HO w fun qual body scope=>∀(B:Below callerA g [] g) (X:(hd.heap_39 w.params).In g) (T:Top p a_ bz mg mb g) (F:Fr g L s.heap m) (N:News g L s.heap (W0 w.params W d n n1 x ((x.nss,listOf (iN++[Value.ref top]).toArray n2)::(top,listOf tit.toArray n3)::(L+1+1,ow)::(L+1+1+1+1,ok)::(D,listOf vd.toArray kd)::(wl,listOf vw.toArray kw)::rest))) (how:ow.data= .cell (some (.ref wl))) (m_:ok.data= .cell (some (.int (j:Nat) tk))) (mW:m (ofString "writer")=some (.ref W)) (mD:m (ofString "deeds")=some (.ref D)) (QS:vd.length=wls.length) (hj:j<wls.length) (Nz:wls.length<=6) (Mg:WordRows rest vw wls) (Lz:∀ws∈wls,ws.length<=33) (hwl:∀ws∈wls,∀u∈ws,u.length<=1000) (nd:([W,d,x.data,x.nss,top]:List Nat).Nodup) (off:∀r∈(L+1+1,ow)::(L+1+1+1+1,ok)::(D,listOf vd.toArray kd)::(wl,listOf vw.toArray kw)::rest,r.1∉([W,d,x.data,x.nss,top]:List Nat)) (hT:PairsLed imm tit tus) (htl:tus.length<=500) (bL:∀m' eM n_ Mu tl (s':Shared),(∀y,y≠ofString "word"->m' y=m y)->PairsLed (tl++imm) Mu (tus++(wls.getD ((j+1) % wls.length) []++wls.getD j []).map fun u=>(u,aH u))->(∀r∈tl,r.2.cls= .type "tuple"/\r.1∉([W,d,x.data,x.nss,top]:List Nat)/\∀z∈(L+1+1,ow)::(L+1+1+1+1,ok)::(D,listOf vd.toArray kd)::(wl,listOf vw.toArray kw)::rest, @Ne Nat z.1 r.1)->Fr g L s'.heap m'->
  News g L s'.heap (W0 w.params W d n n1 x ((x.nss,listOf (iN++[Value.ref top]).toArray eM)::(top,listOf Mu.toArray n_)::(L+1+1,ow)::(L+1+1+1+1,ok)::(D,listOf vd.toArray kd)::(wl,listOf vw.toArray kw)::(tl++rest)))->aM s s'->
  WX w qual scope L fa cd ((cM (body.getD 9 (.Pass default))).drop 2) Q E s'),
 WX w qual scope L fa cd ((cM (body.getD 9 (.Pass default))).drop 1) Q E s
noncomputable def vj:=bA (iD kb) ((bw,default,[],fun _=>none,fun _=>none,fun _=>none,{},0),(0, .none,fun _=>none,{},fun _ _=>True,fun _ _=>True,⟨0,0,0,0,0,0,fun _=>0⟩,0),(0,0,0,0,⟨0,false,false⟩,0,0,0),(0,0,[],[],[],[],default,default),(0,0,[],[],[],[],0,0))
theorem xP:∀{w p a_ bz mg mb g L fa cd m s Q E x W d top D wl n n1 n2 n3 kd kw iN tit vd vw ok ow tk j wls tus imm rest},kb w p a_ bz mg mb g L fa cd m s Q E x W d top D wl n n1 n2 n3 kd kw iN tit vd vw ok ow tk j wls tus imm rest 0 0:=by
 intros;apply lm kb (c:=vj) rfl;apply (?zg:jG kb);intros w p a_ bz mg mb g L fa cd m s Q E x W d top D wl n n1 n2 n3 kd kw iN tit vd vw ok ow tk j wls tus imm rest _ _;intros oc an name qual params body scope dV kV gF pm cA ct l_ z_ ho B X T F N how m_ mW mD QS hj Nz Mg Lz hwl nd off hT htl bL;dsimp only [WX] at bL ⊢;revert qual body scope cA;k_fill;refine' no_implicit_lambda% (dd (K:=hd.heap_39 w.params) (f:=212) ?h1 ?main)
 case h1=>k_is
 intro bL;dsimp only [List.drop,List.getD,List.getElem?_cons_succ,List.getElem?_cons_zero,Option.getD,cM] at bL ⊢;refine wpAny_execs_cons ?_;have MF:=Mg.1;have PR:=nd;replace nd:=fw nd;dsimp only [ND,NI] at nd;refine bv nd fun aj aZ bU d4 dK=>?_;clear nd dK;refine bO aj fun a1 a2 a3 a4=>?_;refine aI aZ fun b2 b3 b4=>?_;refine ak bU fun c3 c4=>?_;dsimp only [cC,W0,List.cons_append,List.nil_append] at N;k_steps;refine ⟨?_⟩;rename News _ _ _ _=>N1;rename Fr _ _ _ _=>F1
 have XD:(wls.length:Int)≠0:=by exact DB hj
 refine mod_int' XD ?_
 have ZB:((j:Int)+1).fmod (wls.length:Int)=(((j+1) % wls.length:Nat):Int):=by
  rw [Int.fmod_eq_emod_of_nonneg _ (rG)];exact (Int.natCast_emod (j+1) wls.length).symm
 rw [ZB];have NS:(j+1) % wls.length<wls.length:=Nat.mod_lt _ (DA XD);generalize (j+1) % wls.length=j1 at NS bL;refine aW (Mg.2 j1 wls[j1] (List.getElem?_eq_getElem NS)) fun w1 v1 k1 aj=>?_;refine aI aj fun e1 i1 q1=>?_;refine aW (Mg.2 j wls[j] (List.getElem?_eq_getElem hj)) fun w2 v2 k2 aj=>?_;refine aI aj fun e2 i2 q2=>?_;rw [List.getElem?_eq_getElem NS,List.getElem?_eq_getElem hj] at bL;dsimp only [Option.getD] at bL;have Ym:=Lz wls[j1] (List.getElem_mem NS);have St:=Lz wls[j] (List.getElem_mem hj);have Nk:=hwl wls[j1] (List.getElem_mem NS);have OX:=hwl wls[j] (List.getElem_mem hj);generalize wls[j1]=PP at *;generalize wls[j]=PY at *;k_steps;refine ⟨?_⟩;refine gi N1 (by k_mem) e1 rfl (rF NS Nz) ?_ ?hs
 case hs=>with_unfolding_all rfl
 k_steps;refine ⟨?_⟩;refine gi N1 (by k_mem) e2 rfl (rF hj Nz) ?_ ?hs2
 case hs2=>with_unfolding_all rfl
 k_steps;refine ⟨?_⟩;have WK:StrsAre (v1++v2) (PP++PY):=q1.append' q2;have P6:=q1.length;have P5:=q2.length;have m1:=bo N1 (vs:=v1.toArray) (n:=k1) (a:=w1) (by exact bI 9 rfl i1);have m2:=bo N1 (vs:=v2.toArray) (n:=k2) (a:=w2) (by exact bI 9 rfl i2);refine add_arrays F1 N1 m1 m2 ?_ (by simp [sizeLine_eq];exact Dz P6 P5 Ym St);intros h5 F5 N5;have Us:=fun q hq=>Heap.lt_size (N1 q hq).1;dsimp only at N5;generalize QC:Array.size _=sl at N5 Us;have N6:News g L h5 ((sl,listOf (v1++v2).toArray 0)::(W0 w.params W d n n1 x ((x.nss,listOf (iN++[Value.ref top]).toArray n2)::(top,listOf tit.toArray n3)::(L+1+1,ow)::(L+1+1+1+1,ok)::(D,listOf vd.toArray kd)::(wl,listOf vw.toArray kw)::rest))):=N5
 have hsW:∀z∈([W,d,x.data,x.nss,top]:List Nat),z≠sl:=by
  have Qi:=Us;replace Qi:=cj Qi;dsimp only [FC] at Qi;refine dI Qi fun y1 y2 y3 y4 y5 _=>?_;clear Qi;refine jB ?_;dsimp only [FA];exact ⟨Nat.ne_of_lt y1,Nat.ne_of_lt y2,Nat.ne_of_lt y3,Nat.ne_of_lt y4,Nat.ne_of_lt y5⟩
 have hsr:∀z∈(L+1+1,ow)::(L+1+1+1+1,ok)::(D,listOf vd.toArray kd)::(wl,listOf vw.toArray kw)::rest, @Ne Nat z.1 sl:=fun z hz=>Nat.ne_of_lt (Us z (.tail _ (.tail _ (.tail _ (.tail _ (.tail _ hz))))));clear N5 N1 F1 Us QC
 refine lI (l:=sl) (vs:=v1++v2) (Inv:=fun i m' led=>∃eM n_ Mu tl,(∀y,y≠ofString "word"->m' y=m y)/\PairsLed (tl++imm) Mu (tus++((PP++PY).take i).map fun u=>(u,aH u))/\(∀r∈tl,r.2.cls= .type "tuple"/\r.1∉([W,d,x.data,x.nss,top]:List Nat)/\∀z∈(L+1+1,ow)::(L+1+1+1+1,ok)::(D,listOf vd.toArray kd)::(wl,listOf vw.toArray kw)::rest, @Ne Nat z.1 r.1)/\(∀r∈tl, @Ne Nat r.1 sl)/\led=(sl,listOf (v1++v2).toArray 0)::(W0 w.params W d n n1 x ((x.nss,listOf (iN++[Value.ref top]).toArray eM)::(top,listOf Mu.toArray n_)::(L+1+1,ow)::(L+1+1+1+1,ok)::(D,listOf vd.toArray kd)::(wl,listOf vw.toArray kw)::(tl++rest))))
  F5 N6 rfl ?hl ⟨n2,n3,tit,[],fun _ _=>rfl,by simpa using hT,(fun _ h=>nomatch h),(fun _ h=>nomatch h),rfl⟩ ?turn ?done
 case hl=>
  intros i aC led s₁ aj;refine dU aj fun eM n_ Mu tl aZ=>?_;refine bv aZ fun _ _ _ _ bU=>?_;subst bU;intro F2 N2;exact bo N2 (.head _)
 case done=>
  intros aC led s₁ aj;refine dU aj fun eM n_ Mu tl aZ=>?_;refine bv aZ fun h1 h2 h3 h4 bU=>?_;subst bU;intros F2 N2 S2;rw [List.length_append,P6,P5,<-List.length_append,List.take_length] at h2;clear N6 F5;k_steps;refine ⟨?_⟩;exact bL aC eM n_ Mu tl _ h1 h2 h3 F2 (bf N2 fun q hq=> .tail _ hq) (SameF.trans SameF.refl S2)
 case turn=>
  intros i v aC led I oI s₁ hv aj;refine dU aj fun eM n_ Mu tl aZ=>?_;refine bv aZ fun h1 h2 h3 h4 bU=>?_;subst bU;intros F2 N2 offI S2;refine am (List.getElem?_eq_some_iff.mp hv) fun hi Lw=>?_
  have fW:i<(PP++PY).length:=by rw [<-WK.length];exact hi
  have eo:(PP++PY)[i]?=some (PP++PY)[i]:=List.getElem?_eq_getElem fW;have UM:(PP++PY)[i].length<=1000:=(aE (List.getElem_mem fW)).elim (Nk _) (OX _);generalize (PP++PY)[i]=u at eo UM;refine am (WK.get i u eo) fun t e=>?_;rw [hv] at e
  cases e
  have XH:=(h1 (ofString "writer") (by decide)).trans mW;have RH:=h2.1;rw [List.length_append,List.length_map,List.length_take] at RH
  have Y_:(PP++PY).length<=66:=by rw [List.length_append];exact rM Ym St
  dsimp only [cC,W0,List.cons_append,List.nil_append] at N2 offI;generalize ST:tl++rest=Pv at N2 offI;clear N6 F5 bL;k_steps;refine ⟨?_⟩;rename News _ _ _ ((I,oI)::_)=>N3
  rename Fr _ _ _ (fun y=>if y=ofString "word" then _ else _)=>F3
  clear N2 F2;refine dO (pf u t UM) B F3 X N3 T rfl rfl rfl (fun _ h=>nomatch h) trivial (fy _ (by decide)) (d3 _ (by decide)) ?_;intros t2 s' F' N' K' S';have N4:=d0 N3 K' N' (others:=_) (fun _ h=>h) (fun _ _ h=>nomatch h);rw [List.nil_append] at N4;clear N' N3 F3;k_steps;refine ⟨?_⟩
  rename Fr _ _ _ (fun y=>if y=ofString "word" then _ else _)=>F5
  refine dO (HQ W d top n n1 eM n_ x iN Mu.toArray (aH u) u _ _ (by simp;exact Dy RH htl Y_) a4 b4 c4 d4) B F5 X N4 T rfl rfl rfl ?sub trivial (fy _ (by decide)) (d3 _ (by decide)) ?_
  case sub=>dsimp only [W0];exact cz [2,3,4,5,6] rfl
  intros q Vq aG F6 N6 K6 S6 fr;have N7:=d0 N4 K6 N6 (others:=(I,oI)::(sl,listOf (v1++v2).toArray 0)::(L+1+1,ow)::(L+1+1+1+1,ok)::(D,listOf vd.toArray kd)::(wl,listOf vw.toArray kw)::Pv) ?oh ?of
  case oh=>exact cv [0,1,7,8,9,10] 11 rfl rfl
  case of=>
   replace offI:=cj offI;dsimp only [FC] at offI;refine ef offI fun y0 y1 y2 y3 y4 y5 y6=>?_;clear offI;intro z hz
   rcases aB hz with rfl|hz
   ·refine bZ ?_;dsimp only [NI]
    exact ⟨Ne.symm y1,Ne.symm y2,Ne.symm y3,Ne.symm y4,Ne.symm y5⟩
   ·rcases aB hz with rfl|hz
    ·exact fun h=>hsW _ h rfl
    ·rw [<-ST] at hz
     rcases aB hz with rfl|hz
     ·exact off _ (.head _)
     ·rcases aB hz with rfl|hz
      ·exact off _ (.tail _ (.head _))
      ·rcases aB hz with rfl|hz
       ·exact off _ (.tail _ (.tail _ (.head _)))
       ·rcases aB hz with rfl|hz
        ·exact off _ (.tail _ (.tail _ (.tail _ (.head _))))
        ·refine Or.elim (aE hz) (fun hz=>?_) fun hz=>?_
         ·exact (h3 z hz).2.1
         ·exact off z (.tail _ (.tail _ (.tail _ (.tail _ hz))))
  have ne:=dG N4 fr;clear N4 N6;dsimp only [W0,List.cons_append,List.nil_append] at N7;k_steps;simp only [List.push_toArray] at N7;have N8:News g L aG.heap ((I,oI)::(sl,listOf (v1++v2).toArray 0)::(W0 w.params W d n n1 x ((x.nss,listOf (iN++[Value.ref top]).toArray eM)::(top,listOf (Mu++[Value.ref q]).toArray Vq)::(L+1+1,ow)::(L+1+1+1+1,ok)::(D,listOf vd.toArray kd)::(wl,listOf vw.toArray kw)::(q,aO [.str u t, .str (aH u) t2])::Pv))):=bf N7 (by dsimp only [W0];exact cv [6,7,1,2,3,4,5,8,9,10,11,0] 12 rfl rfl);replace ne:=cj ne;dsimp only [FC] at ne;refine fD ne fun z0 z1 z2 z3 z4 z5 z6 z7 z8 z9 WG Wb=>?_;clear ne;subst ST;refine LoopEnd.intro F6 N8 ?_ (SameF.trans S2 (SameF.trans SameF.refl (SameF.trans S' S6))) ⟨eM,Vq,Mu++[Value.ref q],(q,aO [.str u t, .str (aH u) t2])::tl,?_,?_,?_,?_,rfl⟩
  ·replace offI:=cj offI;dsimp only [FC] at offI
   refine gT offI fun y0 y1 y2 y3 y4 y5 y6 y7 y8 y9 y10=>?_;clear offI
   (try dsimp only [W0]);refine cu ?_;dsimp only [FC]
   exact ⟨y0,y1,y2,y3,y4,y5,y6,y7,y8,y9,Ne.symm z0,y10⟩
  ·intro y hy
   dsimp only;rw [if_neg hy];exact h1 y hy
  ·rw [List.take_add_one,eo,Option.toList_some,List.map_append,<-List.append_assoc]
   exact (h2.mono fun p hp=> .tail _ hp).snoc (.head _)
  ·intro r hr
   rcases aB hr with rfl|hr
   ·refine ⟨rfl,?_,?_⟩
    ·refine bZ ?_;dsimp only [NI]
     exact ⟨Ne.symm z2,Ne.symm z3,Ne.symm z4,Ne.symm z5,Ne.symm z6⟩
    ·refine cu ?_;dsimp only [FC]
     exact ⟨z7,z8,z9,WG,cj fun z hz=>cu Wb z (ay _ hz)⟩
   ·exact h3 r hr
  ·intro r hr
   rcases aB hr with rfl|hr
   ·exact Ne.symm z1
   ·exact h4 r hr
theorem JI:True:=by
 (k_with "call ref"=>((k_here;(with_reducible show wpAny _ _ (call (Value.ref 120) _ _) _ _ _);refine Stop.out ?_)))
 (k_with "execs cons"=>((k_here;(with_reducible show wpAny _ _ (execs (Stmt.Assign [Expr.Name (ofString "used") _] _ _::_) _) _ _ _);refine Stop.out ?_)))
 trivial
theorem Iy {a b:Str} (h:aS a=aS b):a=b:=by
 have h1:(aS a).cps.toList=(aS b).cps.toList:=by rw [h]
 rw [eD,eD] at h1;simp only [Array.toList_append] at h1;have h2:=List.append_cancel_left (List.append_cancel_right h1)
 cases a;cases b
 exact congrArg _ (Array.ext' h2)
noncomputable def j8 (x:WS) (W d pc wl cT:Addr) (n:WN) (n1 n2 n3 n4 n5 kw:Nat) (nrows rows:bk) (nws nvs:List (List (Str×Str))) (pi its vw:List Value) (pv:Value) (ow ok oT:Obj) (tk:Tok) (j:Nat) (wls:List (List Str)) (ws sK sB sP:List Str) (ps:Array Value) (rest:ax) (_:Nat):Prop:=HO w fun qual body scope=>∀(B:Below callerA g [] g) (X:(hd.heap_39 w.params).In g) (T:Top p a_ bz mg mb g) (F:Fr g L s.heap m) (N:News g L s.heap (W0 w.params W d n n1 x ((x.nss,listOf (bc nrows).toArray n2)::(x.decl,listOf (bc rows).toArray n3)::(x.pres,listOf (pi++[pv]).toArray n4)::(x.write,bT pc)::(pc,listOf its.toArray n5)::(123,tabObj ps)::(cT,oT)::(L+1+1,ow)::(L+1+1+1+1,ok)::(wl,listOf vw.toArray kw)::rest))) (how:ow.data= .cell (some (.ref wl))) (m_:ok.data= .cell (some (.int (j:Nat) tk))) (mW:m (ofString "writer")=some (.ref W)) (mP:m (ofString "pieces")=some (.ref pc)) (hj:wls[j]?=some ws) (Ky:j<6) (Mg:WordRows rest vw wls) (nd:([W,d,x.data,x.nss,x.decl,x.pres,x.write,pc,123,cT]:List Nat).Nodup) (off:∀r∈(L+1+1,ow)::(L+1+1+1+1,ok)::(wl,listOf vw.toArray kw)::rest,r.1∉([W,d,x.data,x.nss,x.decl,x.pres,x.write,pc,123,cT]:List Nat)) (hR:RowsLed rest rows nws) (Ri:RowsLed rest nrows nvs) (E_:CodeHd g 125 123) (h125:125∉([W,d,x.data,x.nss,x.decl,x.pres,x.write,pc,123,cT]:List Nat)) (LH:LamTab eT eS ps cT oT) (Lz:ws.Nodup) (ba:1<=ws.length/\ws.length<=33) (TJ:∀u∈ws,WordOk u) (hK:sK.Perm ws) (Nx:(ofString "e"::sK.map (ofString "{"++·)).Pairwise be) (J_:sB.Perm ws) (B_:(sB.map aS).Pairwise be) (D_:sP.Perm (bQ ((bE nws).map (·.1)) (cg sK))) (KG:(sP.map fun u=>(bN u).1).Pairwise be) (Mv:ofString "{http://www.w3.org/XML/1998/namespace}space"∉ws.map aS) (G_:its.length<=1000) (Mq:nrows.length<=900) (Pd:rows.length<=900) (Lq:pi.length<=900) (hT:Told (bE nws) (bE nvs) ws) (Xt:∀nw∈nvs,nw.length<=100000) (bL:∀nn q n' eM n_ j_ k_ Kz Ro ta tb tc items tl Lu fk LA (s':Shared),ItemsFor tl items (bQ ((bE nws).map (·.1)) (cg sK))->LamTab eT eS Lu fk LA->
  (∀z∈W0 w.params W d n n1 x ((x.nss,listOf (bc nrows).toArray n2)::(x.decl,listOf (bc rows).toArray n3)::(x.pres,listOf (pi++[pv]).toArray n4)::(x.write,bT pc)::(pc,listOf its.toArray n5)::(123,tabObj ps)::(cT,oT)::(L+1+1,ow)::(L+1+1+1+1,ok)::(wl,listOf vw.toArray kw)::rest), @Ne Nat z.1 nn/\ @Ne Nat z.1 q/\(fk=cT\/ @Ne Nat z.1 fk)/\∀r∈tl, @Ne Nat z.1 r.1)-> @Ne Nat nn q->(∀r∈tl, @Ne Nat r.1 q/\ @Ne Nat r.1 nn/\ @Ne Nat r.1 fk)-> @Ne Nat fk q-> @Ne Nat fk nn->aM s s'->
  Fr g L s'.heap (fun y=>if y=ofString "begin" then some (.int its.length Ro) else m y)->
  News g L s'.heap (W0 w.params W d ⟨n',true,n.done⟩ n1 x ((x.nss,listOf (bc nrows++[Value.ref q]).toArray eM)::(x.decl,listOf (bc rows++[Value.ref nn]).toArray n_)::(x.pres,listOf (pi++[pv,pv]).toArray j_)::(x.write,bT pc)::
   (pc,listOf (its++[Value.str (ofString "<"++ofString "e") ta,Value.str (Txt.join (ofString "") ((sP.map bN++sB.map cm).map bD)) tb,Value.str (ofString ">") tc]).toArray k_)::(123,tabObj Lu)::(fk,LA)::(L+1+1,ow)::(L+1+1+1+1,ok)::(wl,listOf vw.toArray kw)::(nn,listOf items Kz)::(q,listOf #[] 0)::(tl++rest)))->
  WX w qual scope L fa cd ((cM (body.getD 9 (.Pass default))).drop 4) Q E s'),
 WX w qual scope L fa cd ((cM (body.getD 9 (.Pass default))).drop 2) Q E s
noncomputable def vi:=bA (iC j8) ((bw,default,[],fun _=>none,fun _=>none,fun _=>none,{},0),(0, .none,fun _=>none,{},fun _ _=>True,fun _ _=>True,⟨0,0,0,0,0,0,fun _=>0⟩,0),(0,0,0,0,⟨0,false,false⟩,0,0,0),(0,0,0,[],[],[],[],[]),([],[], .none,default,default,default,0,0),([],[],[],[],[],#[],[],0))
theorem xO:∀{w p a_ bz mg mb g L fa cd m s Q E x W d pc wl cT n n1 n2 n3 n4 n5 kw nrows rows nws nvs pi its vw pv ow ok oT tk j wls ws sK sB sP ps rest},j8 w p a_ bz mg mb g L fa cd m s Q E x W d pc wl cT n n1 n2 n3 n4 n5 kw nrows rows nws nvs pi its vw pv ow ok oT tk j wls ws sK sB sP ps rest 0:=by
 intros;apply oz j8 (c:=vi) rfl;apply (?zg:lZ j8);intros w p a_ bz mg mb g L fa cd m s Q E x W d pc wl cT n n1 n2 n3 n4 n5 kw nrows rows nws nvs pi its vw pv ow ok oT tk j wls ws sK sB sP ps rest _;intros oc an name qual params body scope dV kV gF pm cA ct l_ z_ ho B X T F N how m_ mW mP hj Ky Mg nd off hR Ri E_ h125 LH Lz ba TJ hK Nx J_ B_ D_ KG Mv G_ Mq Pd Lq hT Xt bL;dsimp only [WX] at bL ⊢;revert qual body scope cA;k_fill;refine' no_implicit_lambda% (dd (K:=hd.heap_39 w.params) (f:=212) ?h1 ?main)
 case h1=>k_is
 intro bL;dsimp only [List.drop,List.getD,List.getElem?_cons_succ,List.getElem?_cons_zero,Option.getD,cM] at bL ⊢;refine wpAny_execs_cons ?_;refine aW (Mg.2 j ws hj) fun w2 v2 k2 aj=>?_;refine aI aj fun e2 i2 q2=>?_;have PR:=nd;have Ni:=q2.length;dsimp only [cC,W0,List.cons_append,List.nil_append] at N;k_steps;rename News _ _ _ _=>N0;refine len_list (bo N0 (by k_mem)) (by simp;exact Dx G_) ?_;simp only [List.size_toArray];k_steps;refine ⟨?_⟩;rename News _ _ _ _=>N1;refine gi N1 (by k_mem) e2 rfl (i5 Ky) ?_ ?hs2
 case hs2=>with_unfolding_all rfl
 k_steps;refine ⟨?_⟩;rename Fr _ _ _ _=>F1;have Y3: @LT.lt Nat _ (L+1+1+1+1) (Array.size _):=Heap.lt_size (N1 (L+1+1+1+1,ok) (by k_mem)).1;generalize o_:((W,instObj 150 d)::_:ax)=tC at N1
 have hm2:(w2,listOf v2.toArray k2)∈tC:=by rw [<-o_];simp only [List.mem_cons,i2,or_true]
 refine uk (l:=w2) (vs:=v2) (fun i kvs led=>led=tC/\kvs.map (·.1)=(ws.take i).map aS/\∀kv∈kvs,∃t,kv.2= .str (ofString "") t) F1 N1 rfl (fun i ys led s₁ hh F2 N2=>bo (n:=k2) N2 (by rw [hh.1];exact hm2)) (nZ Ni ba.2) ⟨rfl,rfl,fun _ h=>nomatch h⟩ (fun i ys led h=>by
  have:=congrArg List.length h.2.1;rw [List.length_map,List.length_map,List.length_take] at this
  exact rE this) (by decide) rfl (by decide) ?t1 ?d1
 case t1=>
  intros i v I oI C oC D oD kvs bj led s₁ hv aj;refine aI aj fun aZ hk LU=>?_;subst aZ;intros hC hm Mm Qp F2 N2 er Lo S2;refine am (List.getElem?_eq_some_iff.mp hv) fun hi Lw=>?_
  have fW:i<ws.length:=by exact q3 hi Ni
  have eo:ws[i]?=some ws[i]:=List.getElem?_eq_getElem fW;have v_:=(TJ ws[i] (List.getElem_mem fW)).len
  have NJ:aS ws[i]∉kvs.map (·.1):=by
   rw [hk];intro hq;refine am (aP hq) fun u aj=>?_;refine ak aj fun hu he=>?_;have he:=Iy he;subst he;refine fh (List.getElem_of_mem hu) fun j' LG e'=>?_;rw [List.getElem_take] at e';rw [List.length_take] at LG;rw [List.nodup_iff_pairwise_ne,List.pairwise_iff_getElem] at Lz;exact Lz j' i (lh LG) fW (i4 LG) e'
  generalize ws[i]=u at eo v_ NJ;refine am (q2.get i u eo) fun t e=>?_;rw [hv] at e
  cases e
  clear bL;k_steps;refine ⟨_,_,_,rfl,F2,N2,er,⟨rfl,?_,?_⟩,SameF.trans S2 SameF.refl⟩
  ·rw [m0 NJ,List.map_append,List.take_add_one,eo,Option.toList_some,List.map_append,hk]
   rfl
  ·rw [m0 NJ]
   intro kv p_;refine Or.elim (aE p_) (fun h=>?_) fun h=>?_
   ·exact LU kv h
   ·rw [br h]
    exact ⟨_,rfl⟩
 case d1=>
  intros D od C s' m' kvs led hDl KF FD ND Tn hn dk Mf Mo Li aj;refine aI aj fun aZ p_ LU=>?_;subst aZ;intro SD;rw [Ni,List.take_length] at p_;refine ⟨m',hn,fun Lp L6=>?_⟩;have F3:=FD.change L6 Mf dk
  have N3:News g L Lp ((D,od)::led):=fun p hp=>⟨L6.extBut _ _ (by
   rcases aB hp with rfl|hp
   ·exact Ne.symm Mo
   ·exact Li p hp) (ND p hp).1,(ND p hp).2⟩
  have w_:(D == sysModules)=false:=by
   have:D≠sysModules:=Nat.ne_of_gt (Nat.lt_of_lt_of_le (Nat.lt_of_le_of_lt (Nat.succ_le_succ (Nat.zero_le _)) Y3) hDl)
   simpa using this
  clear ND FD N1 F1;subst o_;k_steps;refine ⟨?_⟩;have oD:=Tn;replace oD:=cj oD;dsimp only [FC] at oD;refine pC oD fun z1 z2 z3 z4 z5 z6 z7 z8 z9 WG Wb z12 z13 XZ=>?_;clear oD
  have Xe: @Ne Nat 125 D:=fun e=>by
   refine fV E_ fun o SI Tv tf flags tg W7 text aj=>?_;clear E_;refine am aj fun tt aZ=>?_;refine ak aZ fun e1 _=>?_;have:=(N3 (D,od) (.head _)).2.2;rw [<-e,e1] at this
   cases this
  have Qr:∀z:Nat,z∉([W,d,x.data,x.nss,x.decl,x.pres,x.write,pc,123,cT]:List Nat)->z≠D->z∉([W,d,x.data,x.nss,x.decl,x.pres,x.write,pc,D,123,cT]:List Nat):=fun z h1 h2 h=>by
   simp only [List.mem_cons,List.not_mem_nil,or_false,not_or] at h1 h;refine eF h1 fun w1 w2 w3 w4 w5 w6 w7 w8 w9 SL=>?_;clear h1
   rcases h with h|h|h|h|h|h|h|h|h|h|h
   ·exact w1 h
   ·exact w2 h
   ·exact w3 h
   ·exact w4 h
   ·exact w5 h
   ·exact w6 h
   ·exact w7 h
   ·exact w8 h
   ·exact h2 h
   ·exact w9 h
   ·exact SL h
  have nd1:([W,d,x.data,x.nss,x.decl,x.pres,x.write,pc,123]:List Nat).Nodup:=List.Nodup.sublist (List.sublist_append_left ([W,d,x.data,x.nss,x.decl,x.pres,x.write,pc,123]:List Nat) [cT]) nd
  have Vy:D∉([W,d,x.data,x.nss,x.decl,x.pres,x.write,pc,123]:List Nat):=by
   refine bZ ?_;dsimp only [NI];exact ⟨Ne.symm z1,Ne.symm z2,Ne.symm z3,Ne.symm z4,Ne.symm z5,Ne.symm z6,Ne.symm z7,Ne.symm z8,Ne.symm z9⟩
  have Z8:([W,d,x.data,x.nss,x.decl,x.pres,x.write,pc,D,123]:List Nat).Nodup:=(List.perm_middle (l₁:=([W,d,x.data,x.nss,x.decl,x.pres,x.write,pc]:List Nat)) (l₂:=[123]) (a:=D)).nodup_iff.mpr (List.nodup_cons.mpr ⟨Vy,nd1⟩)
  have Zv:cT∉([W,d,x.data,x.nss,x.decl,x.pres,x.write,pc,D,123]:List Nat):=by
   have h0:=(List.nodup_append (l₁:=([W,d,x.data,x.nss,x.decl,x.pres,x.write,pc,123]:List Nat)) (l₂:=[cT])).mp nd;have h1:=fun a ha=>h0.2.2 a ha cT (.head _);replace h1:=cj h1;dsimp only [FC] at h1;refine bZ ?_;dsimp only [NI];refine eF h1 fun y1 y2 y3 y4 y5 y6 y7 y8 y9 _=>?_;clear h1;exact ⟨Ne.symm y1,Ne.symm y2,Ne.symm y3,Ne.symm y4,Ne.symm y5,Ne.symm y6,Ne.symm y7,Ne.symm y8,WG,Ne.symm y9⟩
  have hro:∀r∈rest,r.1∉([W,d,x.data,x.nss,x.decl,x.pres,x.write,pc,D,123,cT]:List Nat):=fun r hr=>Qr _ (off r (.tail _ (.tail _ (.tail _ hr)))) (cu XZ r hr);have hrow:∀r∈rows,∃k,(r.1,listOf r.2 k)∈rest:=fun r hr=>(hR.mem r hr).1;have RJ:∀r∈nrows,∃k,(r.1,listOf r.2 k)∈rest:=fun r hr=>(Ri.mem r hr).1;refine dO (HR W d pc D n n1 n2 n3 n4 n5 x _ rows nrows pi pv its.toArray od ps kvs ws sK sB sP (bE nws) (bE nvs) KF p_ LU Lz ba TJ hK Nx J_ B_ D_ KG (by rw [p_];exact Mv) (by simp;exact Dw G_) Mq Pd Lq w_ cT oT LH Zv hT (fun r hr=>let ⟨k,hk⟩:=hrow r hr;hro _ hk) (fun r hr=>let ⟨k,hk⟩:=RJ r hr;hro _ hk) (Qr _ h125 Xe) Z8) B F3 X N3 T rfl rfl rfl ?sub ⟨?p1,?p2,CodeHd.kept E_ (iw (as:=[]) F3) (fun h=>nomatch h)⟩ (fy _ (by decide)) (d3 _ (by decide)) ?_
  case sub=>dsimp only [W0];exact cz [1,2,3,4,5,6,7,8,0,9,10] rfl
  case p1=>exact RowsLed.at (n:=n3) N3 (by k_mem) (hR.mono fun q hq=>by exact bI 14 rfl hq) fun nw hn=>by have:=mJ hn;have:=hT.ulen;exact Dv this (by assumption)
  case p2=>exact RowsLed.at (n:=n2) N3 (by k_mem) (Ri.mono fun q hq=>by exact bI 14 rfl hq) Xt
  intros nn q n' eM n_ j_ k_ Kz ta tb tc items tl Lu fk LA aG F' N' K' S' TS Px fnn fq nnq htl R4 cq cn;have N4:=d0 N3 K' N' (others:=(L+1+1,ow)::(L+1+1+1+1,ok)::(wl,listOf vw.toArray kw)::rest) ?oh ?of
  case oh=>exact cv [11,12,13] 14 rfl rfl
  case of=>
   intro z hz;refine Qr _ (off z hz) ?_
   rcases aB hz with rfl|hz
   ·exact Wb
   ·rcases aB hz with rfl|hz
    ·exact z12
    ·rcases aB hz with rfl|hz
     ·exact z13
     ·exact cu XZ z hz
  have Rp:=dG N3 fnn;have Lo:=dG N3 fq;clear N' F3;dsimp only [W0,List.cons_append,List.nil_append] at N4;k_steps;refine ⟨?_⟩;simp only [List.push_toArray,List.append_assoc,List.cons_append,List.nil_append] at N4;refine bL nn q n' eM n_ j_ k_ Kz _ ta tb tc items (tl.filter fun r=>decide (@Ne Nat r.1 fk)) Lu fk LA aG ⟨TS.1,?it⟩ Px ?fresh nnq ?tl cq cn (SameF.trans SameF.refl (SameF.trans SD S')) F' (bf N4 ?led)
  case it=>
   intros i u hu;refine aW (TS.2 i u hu) fun a t1 t2 aj=>?_;refine ak aj fun e1 e2=>?_;refine ⟨a,t1,t2,e1,List.mem_filter.mpr ⟨e2,decide_eq_true fun (h:a=fk)=>?_⟩⟩;have g1:=N4.get (a:=a) (o:=aO [.str u t1, .str (aH u) t2]) (by exact bI 13 rfl (aL _ e2));have g2:=N4.get (a:=fk) (o:=LA) (by k_mem);rw [<-h,g1] at g2;exact Px.nt _ (Option.some.inj g2).symm
  case fresh=>
   intro z hz;refine ⟨Rp z (.tail _ hz),Lo z (.tail _ hz),R4.imp id fun h=>dG N3 h z (.tail _ hz),fun r hr=>dG N3 (htl r (List.mem_filter.mp hr).1).1 z (.tail _ hz)⟩
  case tl=>exact fun r hr=>⟨(htl r (List.mem_filter.mp hr).1).2.1,(htl r (List.mem_filter.mp hr).1).2.2,of_decide_eq_true (List.mem_filter.mp hr).2⟩
  case led=>
   intro z hz;simp only [W0,List.mem_cons,List.mem_append,List.mem_filter] at hz ⊢
   rcases hz with h|h|h|h|h|h|h|h|h|h|h|h|h|h|h|h|h
   all_goals first|(simp only [h,true_or,or_true];done)|(simp only [h.1,true_or,or_true];done)
theorem JH:True:=by
 (k_with "storeName"=>((k_here;(with_reducible show wpAny _ _ (storeName _ (ofString "used") _) _ _ _);refine Stop.out ?_)))
 (k_with "call ref"=>((k_here;(with_reducible show wpAny _ _ (call (Value.ref 195) _ _) _ _ _);refine Stop.out ?_)))
 (k_with "call builtin:len"=>((k_here;(with_reducible show wpAny _ _ (call (Value.builtin "len") [Value.ref _]) _ _ _);refine Stop.out ?_)))
 (k_with "execs cons"=>((k_here;(with_reducible show wpAny _ _ (execs (Stmt.Assign [Expr.Name (ofString "laid") _] _ _::_) _) _ _ _);refine Stop.out ?_)))
 trivial
noncomputable def j7 (wl nl:Addr) (kw kn:Nat) (vw vn:List Value) (ow ok ou:Obj) (v₀:Option Value) (tk:Tok) (j:Nat) (wls:List (List Str)) (nums:List Int) (num:Int) (rest:ax) (_ _:Nat):Prop:=HO w fun qual body scope=>∀(B:Below callerA g [] g) (X:(hd.heap_39 w.params).In g) (T:Top p a_ bz mg mb g) (F:Fr g L s.heap m) (N:News g L s.heap ((L+1+1,ow)::(L+1+1+1+1,ok)::(L+1+1+1+1+1,ou)::(wl,listOf vw.toArray kw)::(nl,listOf vn.toArray kn)::rest)) (how:ow.data= .cell (some (.ref wl))) (m_:ok.data= .cell (some (.int (j:Nat) tk))) (O_:ou.data= .cell v₀) (mN:m (ofString "numbers")=some (.ref nl)) (hj:wls[j]?=some (bR num)) (Ky:j<6) (Mg:WordRows rest vw wls) (hI:IntsAre vn nums) (hn:nums[j]?=some num) (Ug:(num.fdiv (2 ^ Int.toNat 32)).natAbs<2 ^ 64) (I_:(cL num).length<=1000) (off:∀r∈(wl,listOf vw.toArray kw)::(nl,listOf vn.toArray kn)::rest, @Ne Nat r.1 (L+1+1+1+1+1)) (bL:∀ul vs k Og (s':Shared),IntsAre vs (cL num)->Og.data= .cell (some (.ref ul))->(∀z∈(L+1+1,ow)::(L+1+1+1+1,ok)::(L+1+1+1+1+1,ou)::(wl,listOf vw.toArray kw)::(nl,listOf vn.toArray kn)::rest, @Ne Nat z.1 ul)->aM s s'->Fr g L s'.heap m->
  News g L s'.heap ((L+1+1,ow)::(L+1+1+1+1,ok)::(L+1+1+1+1+1,Og)::(wl,listOf vw.toArray kw)::(nl,listOf vn.toArray kn)::(ul,listOf (List.toArray vs) k)::rest)->
  WX w qual scope L fa cd ((cM (body.getD 9 (.Pass default))).drop 6) Q E s'),
 WX w qual scope L fa cd ((cM (body.getD 9 (.Pass default))).drop 4) Q E s
noncomputable def vg:=bA (gj j7) ((bw,default,[],fun _=>none,fun _=>none,fun _=>none,{},0),(0, .none,fun _=>none,{},fun _ _=>True,fun _ _=>True,0,0),(0,0,[],[],default,default,default,none),(0,0,[],[],0,[],0,0))
theorem xN:∀{w p a_ bz mg mb g L fa cd m s Q E wl nl kw kn vw vn ow ok ou v₀ tk j wls nums num rest},j7 w p a_ bz mg mb g L fa cd m s Q E wl nl kw kn vw vn ow ok ou v₀ tk j wls nums num rest 0 0:=by
 intros;apply ii j7 (c:=vg) rfl;apply (?zg:gR j7);intros w p a_ bz mg mb g L fa cd m s Q E wl nl kw kn vw vn ow ok ou v₀ tk j wls nums num rest _ _;intros oc an name qual params body scope dV kV gF pm cA ct l_ z_ ho B X T F N how m_ O_ mN hj Ky Mg hI hn Ug I_ off bL;dsimp only [WX] at bL ⊢;revert qual body scope cA;k_fill;refine' no_implicit_lambda% (dd (K:=hd.heap_39 w.params) (f:=212) ?h1 ?main)
 case h1=>k_is
 intro bL;dsimp only [List.drop,List.getD,List.getElem?_cons_succ,List.getElem?_cons_zero,Option.getD,cM] at bL ⊢;refine wpAny_execs_cons ?_;refine aW (Mg.2 j _ hj) fun w2 v2 k2 aj=>?_;refine aI aj fun e2 i2 q2=>?_;have Ni:=q2.length
 have hwl:(bR num).length=(cL num).length:=by simp [bR]
 refine am (hI.get j num hn) fun tn en=>?_;k_steps;refine ⟨?_⟩;rename News _ _ _ _=>N1;refine gi N1 (by k_mem) en rfl (i5 Ky) ?_ ?hs1
 case hs1=>with_unfolding_all rfl
 k_steps;refine ⟨?_⟩;rename Fr _ _ _ _=>F1;refine dO (HX num tn Ug) B F1 X N1 T rfl rfl rfl (fun _ h=>nomatch h) trivial (fy _ (by decide)) (d3 _ (by decide)) ?_;intros ul vs k Ng s' F' N' K' S' ful;have N2:=d0 N1 K' N' (others:=_) (fun _ h=>h) (fun _ _ h=>nomatch h);have ne:=dG N1 ful;clear N' N1 F1
 have e3:vs=vs.toList.toArray:=by simp
 generalize vs.toList=vl at Ng e3;subst e3;k_steps;refine ⟨?_⟩;have zc:=N2 (L+1+1+1+1+1,ou) (by k_mem);refine wpAny_storeName_cell rfl rfl rfl ⟨ou,zc.1,O_⟩ fun bP cE cD=>?_;refine am cE fun Og aj=>?_;clear cE;refine ak aj fun g2 d2=>?_;have bV:=F'.change cD zc.2.1 zc.2.2
 have cw:News g L bP ((L+1+1,ow)::(L+1+1+1+1,ok)::(L+1+1+1+1+1,Og)::(wl,listOf vw.toArray kw)::(nl,listOf vn.toArray kn)::(ul,listOf (List.toArray vl) k)::rest):=by
  have keep:∀q:Addr×Obj,q∈(ul,listOf (List.toArray vl) k)::(L+1+1,ow)::(L+1+1+1+1,ok)::(L+1+1+1+1+1,ou)::(wl,listOf vw.toArray kw)::(nl,listOf vn.toArray kn)::rest-> @Ne Nat q.1 (L+1+1+1+1+1)->bP.get? q.1=some q.2/\q.1≠L/\g.get? q.1=none:=fun q hq dR=>by
   have z:=N2 q hq;exact ⟨cD.extBut _ _ dR z.1,z.2⟩
  intro q hq;simp only [List.mem_cons] at hq
  rcases hq with rfl|rfl|rfl|rfl|rfl|rfl|hq
  ·exact keep (L+1+1,ow) (by exact bJ 1 rfl) (neN (by lia))
  ·exact keep (L+1+1+1+1,ok) (by exact bJ 2 rfl) (neN (by lia))
  ·exact ⟨g2,zc.2⟩
  ·exact keep (wl,listOf vw.toArray kw) (by exact bJ 4 rfl) (off _ (.head _))
  ·exact keep (nl,listOf vn.toArray kn) (by exact bJ 5 rfl) (off _ (.tail _ (.head _)))
  ·exact keep (ul,listOf (List.toArray vl) k) (by exact bJ 0 rfl) (Ne.symm (ne (L+1+1+1+1+1,ou) (by exact bJ 2 rfl)))
  ·exact keep q (by exact bI 6 rfl hq) (off q (.tail _ (.tail _ hq)))
 clear N2 F' zc g2 cD;k_steps;refine ⟨?_⟩;refine gi cw (by k_mem) e2 rfl (i5 Ky) ?_ ?hs3
 case hs3=>with_unfolding_all rfl
 k_steps;refine ⟨?_⟩;refine len_list (bo cw (a:=w2) (vs:=v2.toArray) (n:=k2) (by exact bI 6 rfl i2)) (by simp;exact Du Ni hwl I_) ?_;simp only [List.size_toArray];have MF:=Ng.length;k_steps;refine ⟨?_⟩;refine len_list (bo cw (a:=ul) (vs:=vl.toArray) (n:=k) (by k_mem)) (by simp;exact Dt MF I_) ?_;simp only [List.size_toArray]
 have TX:v2.length=vl.length:=by exact Ds Ni hwl MF
 rw [TX];k_steps
 ·rename ¬((vl.length:Nat):Int)=_=>dR
  exact absurd rfl dR
 ·refine ⟨?_⟩
  exact bL ul vl k Og _ Ng d2 ne (SameF.trans SameF.refl S') bV cw
theorem JF:True:=by
 (k_with "compareOp Eq ref ref"=>((k_here;refine Stop.out ?_)))
 (k_with "execs cons"=>((k_here;(with_reducible show wpAny _ _ (execs (Stmt.Assign [Expr.Name (ofString "row") _] _ _::_) _) _ _ _);refine Stop.out ?_)))
 trivial
noncomputable def IntRows (led:ax) (rows:List Value) (il:List (List Int)):Prop:=rows.length=il.length/\∀(i:Nat) ns,il[i]?=some ns->∃a vs k,rows[i]?=some (.ref a)/\(a,listOf (List.toArray vs) k)∈led/\IntsAre vs ns
noncomputable def cJ (uss:List (List Int)) (p:Int):Bool:=uss.all fun us=>decide (p∉us)
noncomputable def j6 (ul ar:Addr) (ka ku:Nat) (ars vl:List Value) (oar ou:Obj) (uss:List (List Int)) (us:List Int) (rest:ax) (_ _ _ _ _ _ _:Nat):Prop:=HO w fun qual body scope=>∀(B:Below callerA g [] g) (X:(hd.heap_39 w.params).In g) (T:Top p a_ bz mg mb g) (F:Fr g L s.heap m) (N:News g L s.heap ((L+1+1+1,oar)::(L+1+1+1+1+1,ou)::(ar,listOf ars.toArray ka)::(ul,listOf vl.toArray ku)::rest)) (hoa:oar.data= .cell (some (.ref ar))) (O_:ou.data= .cell (some (.ref ul))) (hI:IntsAre vl us) (v_:us.length<=40) (hA:IntRows rest ars uss) (TP:uss.length<=10) (U1:∀u∈uss,u.length<=40) (bL:∀ll vs k (s':Shared),IntsAre vs (us.filter (cJ uss))->(∀z∈(L+1+1+1,oar)::(L+1+1+1+1+1,ou)::(ar,listOf ars.toArray ka)::(ul,listOf vl.toArray ku)::rest, @Ne Nat z.1 ll)->aM s s'->Fr g L s'.heap (fun y=>if y=ofString "laid" then some (.ref ll) else m y)->
  News g L s'.heap ((L+1+1+1,oar)::(L+1+1+1+1+1,ou)::(ar,listOf ars.toArray ka)::(ul,listOf vl.toArray ku)::(ll,listOf (List.toArray vs) k)::rest)->
  WX w qual scope L fa cd ((cM (body.getD 9 (.Pass default))).drop 7) Q E s'),
 WX w qual scope L fa cd ((cM (body.getD 9 (.Pass default))).drop 6) Q E s
noncomputable def vf:=bA (gj j6) ((bw,default,[],fun _=>none,fun _=>none,fun _=>none,{},0),(0, .none,fun _=>none,{},fun _ _=>True,fun _ _=>True,0,0),(0,0,[],[],default,default,[],[]),([],0,0,0,0,0,0,0))
theorem xM:∀{w p a_ bz mg mb g L fa cd m s Q E ul ar ka ku ars vl oar ou uss us rest},j6 w p a_ bz mg mb g L fa cd m s Q E ul ar ka ku ars vl oar ou uss us rest 0 0 0 0 0 0 0:=by
 intros;apply ii j6 (c:=vf) rfl;apply (?zg:gR j6);intros w p a_ bz mg mb g L fa cd m s Q E ul ar ka ku ars vl oar ou uss us rest _ _ _ _ _ _ _;intros oc an name qual params body scope dV kV gF pm cA ct l_ z_ ho B X T F N hoa O_ hI v_ hA TP U1 bL;dsimp only [WX] at bL ⊢;revert qual body scope cA;k_fill;refine' no_implicit_lambda% (dd (K:=hd.heap_39 w.params) (f:=212) ?h1 ?main)
 case h1=>k_is
 intro bL;dsimp only [List.drop,List.getD,List.getElem?_cons_succ,List.getElem?_cons_zero,Option.getD,cM] at bL ⊢;refine wpAny_execs_cons ?_;have MF:=hI.length;k_steps;refine ⟨?_⟩;rename News _ _ _ _=>N1;rename Fr _ _ _ _=>F1;generalize o_:(_::_:ax)=tC at N1;refine H7 (l:=ul) (vs:=vl) (fun i ys led=>led=tC/\ys.length<=i/\IntsAre ys ((us.take i).filter (cJ uss))) F1 N1 rfl (fun i ys led s₁ hh F2 N2=>bo (n:=ku) N2 (by rw [hh.1,<-o_];simp)) (nR MF v_) ⟨rfl,Nat.le_refl _, .nil⟩ (fun i ys led h=>h.2.1) (fun _ _=>rfl) (fun _=>rfl) rfl (by rfl) ?t1 ?d1
 case d1=>
  refine iV (n:=vl.length) (Inv:=fun i ys led=>led=tC/\ys.length<=i/\IntsAre ys ((us.take i).filter (cJ uss))) rfl rfl rfl ?_;intros ll vs led cU aj;refine aI aj fun aZ PH Ln=>?_;subst aZ;intros F4 N4 Mk S4;rw [MF,List.take_length] at Ln;subst o_;clear N1 F1;k_steps;refine ⟨?_⟩;exact bL ll vs vs.length cU Ln Mk (SameF.trans SameF.refl S4) F4 (bf N4 (by exact cv [1,2,3,4,0] 5 rfl rfl))
 case t1=>
  intros K i v I oI C oC D ys bj oK led s₁ hv aj;refine aI aj fun aZ lG f_=>?_;subst aZ;intros hC hoK F2 N2 er R6 Lo S2;refine am (List.getElem?_eq_some_iff.mp hv) fun hi Lw=>?_
  have fW:i<us.length:=by exact q3 hi MF
  have eo:us[i]?=some us[i]:=List.getElem?_eq_getElem fW;generalize us[i]=u at eo;refine am (hI.get i u eo) fun t e=>?_;rw [hv] at e
  cases e
  have aac:=o_;subst o_;clear bL N1 F1;k_steps;refine ⟨?_⟩;have RY:=hA.1;generalize OT:((I,oI)::_:ax)=PK at N2;refine pj (l:=ar) (vs:=ars) (fun i ys led=>led=PK/\ys.length<=i/\(ys=[]↔∀q∈uss.take i,u∉q)) F2 N2 rfl (fun i ys led s₁ hh F2 N2=>bo (n:=ka) N2 (by rw [hh.1,<-OT];simp)) (Dr RY TP) ⟨rfl,Nat.le_refl _,by simp⟩ (fun i ys led h=>h.2.1) (by decide) rfl (by decide) ?t2 ?d2
  case d2=>
   refine fI (n:=ars.length) (Inv:=fun i ys led=>led=PK/\ys.length<=i/\(ys=[]↔∀q∈uss.take i,u∉q)) ?_;intros D3 Ny led s3 aj;refine aI aj fun aZ WL UA=>?_;subst aZ;intros F3 N3 Th S3;rw [RY,List.take_length] at UA;subst OT;clear N2 F2;k_steps;refine ⟨?_⟩;rename News _ _ _ ((_,listOf #[] 0)::_)=>N5;rename Fr _ _ _ _=>F5
   have M9:cJ uss u=true↔Ny=[]:=by
    rw [UA];unfold cJ;rw [List.all_eq_true];simp only [decide_eq_true_eq]
   by_cases UB:Ny=[]
   ·refine PySem.SeqAt.eq_listAt (e:=fun _=>true) (bo N5 (by k_mem)) (bo N5 (.head _)) (by rw [UB]) (Nat.lt_of_le_of_lt (Nat.le_add_right _ 0) (d3 _ (n:=0) (Nat.zero_le _))) (fun j h1 h2=>absurd h2 (Nat.not_lt_zero _)) ?_
    have Tl:((List.range Ny.toArray.size).all fun _=>true)=true:=by simp
    rw [Tl];k_steps;refine ⟨_,F5,bf N5 fun z hz=> .tail _ (.tail _ hz),er,⟨_,rfl,R6,rfl,by rw [List.length_append];exact Nat.succ_le_succ lG,?_⟩,SameF.trans S2 (SameF.trans S3 SameF.refl)⟩;rw [List.take_add_one,eo,Option.toList_some,List.filter_append,List.filter_cons_of_pos (M9.mpr UB),List.filter_nil];exact ksk_snoc f_
   ·have hsz:(Ny.toArray.size != (#[]:Array Value).size)=true:=by
     cases Ny with
     |nil=>exact absurd rfl UB
     |cons a b=>simp
    refine PySem.SeqAt.eq_list_lengthsAt (bo N5 (by k_mem)) (bo N5 (.head _)) hsz (Nat.lt_of_le_of_lt (Nat.le_add_right _ 0) (d3 _ (n:=0) (Nat.zero_le _))) ?_;k_steps;refine ⟨_,F5,bf N5 fun z hz=> .tail _ (.tail _ hz),er,⟨_,rfl,R6,rfl,Nat.le_succ_of_le lG,?_⟩,SameF.trans S2 (SameF.trans S3 SameF.refl)⟩;rw [List.take_add_one,eo,Option.toList_some,List.filter_append,List.filter_cons_of_neg (fun h=>UB (M9.mp h)),List.filter_nil,List.append_nil];exact f_
  case t2=>
   intros i2 v2 I2 SG C2 oC2 D2 SR m3 led s2 Ni aj;refine aI aj fun aZ Np Qd=>?_;subst aZ;intros hC2 hm2 F3 N3 Th ne3 S3;refine am (List.getElem?_eq_some_iff.mp Ni) fun PT aaj=>?_
   have Tr:i2<uss.length:=by exact q3 PT RY
   refine aW (hA.2 i2 uss[i2] (List.getElem?_eq_getElem Tr)) fun a2 w2 k2 aj=>?_;refine aI aj fun e2 me2 YC=>?_;have Ty:uss[i2]?=some uss[i2]:=List.getElem?_eq_getElem Tr;have Zi:=U1 uss[i2] (List.getElem_mem Tr);generalize uss[i2]=q2 at YC Ty Zi;rw [Ni] at e2
   cases e2
   subst OT
   have N4:News g L s2.heap ((a2,listOf w2.toArray k2)::(I2,SG)::(C2,oC2)::(D2,bC SR)::(I,oI)::(C,oC)::(D,bC ys)::(K,oK)::(L+1+1+1,oar)::(L+1+1+1+1+1,ou)::(ar,listOf ars.toArray ka)::(ul,listOf vl.toArray ku)::rest):=fun z hz=>by
    rcases aB hz with rfl|hz
    ·exact N3 _ (by exact bI 11 rfl me2)
    ·exact N3 z hz
   have XM:=YC.length;clear N3;k_steps
   ·rename (q2.any fun x=>x == u)=true=>hany
    have H_:u∈q2:=by
     refine am (List.any_eq_true.mp hany) fun x aj=>?_;refine ak aj fun hx he=>?_;rw [<-eq_of_beq he];exact hx
    refine ⟨_,F3,bf N4 fun z hz=> .tail _ hz,Th,⟨rfl,by rw [List.length_append];exact Nat.succ_le_succ Np,?_⟩,S3⟩;refine ⟨fun h=>by simp at h,fun h=>absurd H_ (h q2 ?_)⟩;rw [List.take_add_one,Ty];simp
   ·rename (q2.any fun x=>x == u)=false=>hany
    have NJ:u∉q2:=fun hx=>by
     have:=List.any_eq_false.mp hany u hx;simp at this
    refine ⟨_,F3,bf N4 fun z hz=> .tail _ hz,Th,⟨rfl,Nat.le_succ_of_le Np,?_⟩,S3⟩;rw [Qd,List.take_add_one,Ty];simp only [Option.toList_some,List.mem_append,List.mem_singleton];exact ⟨fun h q hq=>hq.elim (h q) fun e=>e▸NJ,fun h q hq=>h q (.inl hq)⟩
theorem JE:True:=by
 (k_with "call ref"=>((k_here;(with_reducible show wpAny _ _ (call (Value.ref 207) _ _) _ _ _);refine Stop.out ?_)))
 (k_with "call builtin:list.index"=>((k_here;refine Stop.out ?_)))
 (k_with "subscriptTail"=>((k_here;(with_reducible show wpAny _ _ (subscriptTail _ (PySem.Expr.Call _ _ _ _) (Value.ref _) (Value.int _ _)) _ _ _);refine Stop.out ?_)))
 (k_with "execs cons"=>((k_here;(with_reducible show wpAny _ _ (execs (Stmt.Expr (PySem.Expr.Call (PySem.Expr.Attribute (PySem.Expr.Name (ofString "due") _) _ _) _ _ _) _::_) _) _ _ _);refine Stop.out ?_)))
 trivial
theorem GK {vl:List Value} {us:List Int} (h:IntsAre vl us):kf_ints vl=true:=by
 induction h with
 |nil=>rfl
 |cons a t h ih=>exact ih
theorem GL {vl:List Value} {us:List Int} {u:Int} (h:IntsAre vl us) (hu:u∈us):∃j,kf_at u vl=some j/\us[j]?=some u:=by
 induction h with
 |nil=>nomatch hu
 | @cons a t vs is h ih=>
  unfold kf_at
  by_cases WI:a=u
  ·subst WI
   refine ⟨0,?_,rfl⟩
   have:isInt a (Value.int a t)=true:=by simp [isInt]
   rw [this];rfl
  ·have hf:isInt u (Value.int a t)=false:=by simp [isInt,WI]
   refine am (ih ((aB hu).resolve_left fun e=>WI e.symm)) fun j aj=>?_;refine ak aj fun e1 e2=>?_;refine ⟨j+1,?_,e2⟩;rw [hf,e1];rfl
noncomputable def j5 (wl ul ll:Addr) (kw ku kl:Nat) (vw vl vs:List Value) (ow ok ou:Obj) (tk:Tok) (j:Nat) (wls:List (List Str)) (us laid:List Int) (sP sB:List Str) (rest:ax) (_ _ _ _ _ _:Nat):Prop:=HO w fun qual body scope=>∀(B:Below callerA g [] g) (X:(hd.heap_39 w.params).In g) (T:Top p a_ bz mg mb g) (F:Fr g L s.heap m) (N:News g L s.heap ((L+1+1,ow)::(L+1+1+1+1,ok)::(L+1+1+1+1+1,ou)::(wl,listOf vw.toArray kw)::(ul,listOf vl.toArray ku)::(ll,listOf vs.toArray kl)::rest)) (how:ow.data= .cell (some (.ref wl))) (m_:ok.data= .cell (some (.int (j:Nat) tk))) (O_:ou.data= .cell (some (.ref ul))) (mL:m (ofString "laid")=some (.ref ll)) (hj:wls[j]?=some (us.map aV)) (Ky:j<6) (Mg:WordRows rest vw wls) (hI:IntsAre vl us) (v_:us.length<=40) (hL:IntsAre vs laid) (Rg:laid.length<=40) (MP:∀x∈laid,x∈us) (No:∀x∈us,WordOk (aV x)) (D_:sP.Perm (laid.map aV)) (KG:(sP.map aH).Pairwise be) (J_:sB.Perm (us.map aV)) (B_:(sB.map (·++ofString "}")).Pairwise be) (Ms:∀a∈laid.map aV,∀b∈laid.map aV,aH a=aH b->a=b) (bL:∀rl vr k (s':Shared),StrsAre vr (hU sP sB)->(∀z∈(L+1+1,ow)::(L+1+1+1+1,ok)::(L+1+1+1+1+1,ou)::(wl,listOf vw.toArray kw)::(ul,listOf vl.toArray ku)::(ll,listOf vs.toArray kl)::rest, @Ne Nat z.1 rl)->aM s s'->Fr g L s'.heap (fun y=>if y=ofString "row" then some (.ref rl) else m y)->
  News g L s'.heap ((L+1+1,ow)::(L+1+1+1+1,ok)::(L+1+1+1+1+1,ou)::(wl,listOf vw.toArray kw)::(ul,listOf vl.toArray ku)::(ll,listOf vs.toArray kl)::(rl,listOf (List.toArray vr) k)::rest)->
  WX w qual scope L fa cd ((cM (body.getD 9 (.Pass default))).drop 8) Q E s'),
 WX w qual scope L fa cd ((cM (body.getD 9 (.Pass default))).drop 7) Q E s
noncomputable def ve:=bA (iD j5) ((bw,default,[],fun _=>none,fun _=>none,fun _=>none,{},0),(0, .none,fun _=>none,{},fun _ _=>True,fun _ _=>True,0,0),(0,0,0,0,[],[],[],default),(default,default,0,0,[],[],[],[]),([],[],0,0,0,0,0,0))
theorem xJ:∀{w p a_ bz mg mb g L fa cd m s Q E wl ul ll kw ku kl vw vl vs ow ok ou tk j wls us laid sP sB rest},j5 w p a_ bz mg mb g L fa cd m s Q E wl ul ll kw ku kl vw vl vs ow ok ou tk j wls us laid sP sB rest 0 0 0 0 0 0:=by
 intros;apply lm j5 (c:=ve) rfl;apply (?zg:jG j5);intros w p a_ bz mg mb g L fa cd m s Q E wl ul ll kw ku kl vw vl vs ow ok ou tk j wls us laid sP sB rest _ _ _ _ _ _;intros oc an name qual params body scope dV kV gF pm cA ct l_ z_ ho B X T F N how m_ O_ mL hj Ky Mg hI v_ hL Rg MP No D_ KG J_ B_ Ms bL;dsimp only [WX] at bL ⊢;revert qual body scope cA;k_fill;refine' no_implicit_lambda% (dd (K:=hd.heap_39 w.params) (f:=212) ?h1 ?main)
 case h1=>k_is
 intro bL;dsimp only [List.drop,List.getD,List.getElem?_cons_succ,List.getElem?_cons_zero,Option.getD,cM] at bL ⊢;refine wpAny_execs_cons ?_;refine aW (Mg.2 j _ hj) fun w2 v2 k2 aj=>?_;refine aI aj fun e2 i2 q2=>?_;have MF:=hI.length;have Ng:=hL.length;have Ni:=q2.length;rw [List.length_map] at Ni;k_steps;refine ⟨?_⟩;rename News _ _ _ _=>N1;rename Fr _ _ _ _=>F1;generalize o_:(_::_:ax)=tC at N1;refine gM (l:=ll) (vs:=vs) (fun i ys led=>led=tC/\ys.length=i/\StrsAre ys ((laid.take i).map aV)) F1 N1 rfl (fun i ys led s₁ hh F2 N2=>bo (n:=kl) N2 (by rw [hh.1,<-o_];simp)) (nR Ng Rg) ⟨rfl,rfl, .nil⟩ (fun i ys led h=>Nat.le_of_eq h.2.1) (by decide) rfl (by decide) ?t1 ?d1
 case d1=>
  refine fI (n:=vs.length) (Inv:=fun i ys led=>led=tC/\ys.length=i/\StrsAre ys ((laid.take i).map aV)) ?_;intros rl0 Pp led cU aj;refine aI aj fun aZ PH Ln=>?_;subst aZ;intros F4 N4 Mk S4;rw [Ng,List.take_length] at Ln;subst o_;clear N1 F1;k_steps;refine ⟨?_⟩;refine gi N4 (by k_mem) e2 rfl (i5 Ky) ?_ ?hs3
  case hs3=>with_unfolding_all rfl
  k_steps;refine ⟨?_⟩;refine dO (HS rl0 w2 Pp.toArray v2.toArray (laid.map aV) (us.map aV) sP sB Ln q2 (by simpa using Rg) (by simpa using v_) ?ok1 ?ok2 D_ KG J_ B_ Ms) B F4 X N4 T rfl rfl rfl (fun _ h=>nomatch h) ⟨bo N4 (.head _),bo (n:=k2) N4 (by exact bI 7 rfl i2)⟩ (fy _ (by decide)) (d3 _ (by decide)) ?_
  case ok1=>
   intro x hx;refine am (aP hx) fun y aj=>?_;refine ak aj fun hy aZ=>?_;subst aZ;exact No y (MP y hy)
  case ok2=>
   intro x hx;refine am (aP hx) fun y aj=>?_;refine ak aj fun hy aZ=>?_;subst aZ;exact No y hy
  intros rl vr k XC s' F' N' K' S' frl;have N5:=d0 N4 K' N' (others:=_) (fun _ h=>h) (fun _ _ h=>nomatch h);have ne:=dG N4 frl;clear N' N4 F4
  have e3:vr=vr.toList.toArray:=by simp
  generalize vr.toList=vrl at XC e3;subst e3;k_steps;refine ⟨?_⟩;rename News _ _ _ _=>N6;rename Fr _ _ _ _=>F6;simp only [List.cons_append,List.nil_append] at N6;exact bL rl vrl k _ XC (fun z hz=>ne z (.tail _ hz)) (SameF.trans S4 (SameF.trans SameF.refl S')) F6 (bf N6 (by exact cv [2,3,4,5,6,7,0] 8 rfl rfl))
 case t1=>
  intros i v I oI C oC D ys bj led s₁ hv aj;refine aI aj fun aZ lG f_=>?_;subst aZ;intros hC hm F2 N2 er Lo S2;refine am (List.getElem?_eq_some_iff.mp hv) fun hi Lw=>?_
  have fW:i<laid.length:=by exact q3 hi Ng
  have eo:laid[i]?=some laid[i]:=List.getElem?_eq_getElem fW;have H_:=MP laid[i] (List.getElem_mem fW);generalize laid[i]=u at eo H_;refine am (hL.get i u eo) fun t e=>?_;rw [hv] at e
  cases e
  subst o_;clear bL N1 F1;refine am (GL hI H_) fun ji aj=>?_;refine ak aj fun ej YK=>?_;refine am (q2.get ji (aV u) (by rw [List.getElem?_map,YK];rfl)) fun tw ew=>?_;have hji:ji<us.length:=(List.getElem?_eq_some_iff.mp YK).1;k_steps;refine ⟨?_⟩;refine gi N2 (by k_mem) e2 rfl (i5 Ky) ?_ ?hs1
  case hs1=>with_unfolding_all rfl
  k_steps;refine ⟨?_⟩;refine kf_index N2 (its:=vl.toArray) (n:=ku) (by k_mem) (GK hI) ej rfl (by simp [sizeLine_eq];exact Dq MF v_) ?_;k_steps;refine ⟨?_⟩;refine gi (l:=w2) (n:=k2) N2 (by exact bI 9 rfl i2) ew rfl (Dp hji v_) ?_ ?hs2
  case hs2=>with_unfolding_all rfl
  exact ⟨_,F2,N2,er,⟨rfl,by rw [List.length_append,lG];rfl,iU f_ eo rfl⟩,SameF.trans S2 SameF.refl⟩
theorem JD:True:=by
 (k_with "subscriptTail Name Slice ref ref"=>((k_here;refine Stop.out ?_)))
 (k_with "call builtin:str.join"=>((k_here;refine Stop.out ?_)))
 trivial
noncomputable def j0 (du ar td pc ul ll rl:Addr) (n1 n2 n3 n4 kr:Nat) (dus ars tds its its3 vr:List Value) (oar ou:Obj) (ts rs:List Str) (tb:Tok) (rest:ax) (_ _:Nat):Prop:=HO w fun qual body scope=>∀(B:Below callerA g [] g) (X:(hd.heap_39 w.params).In g) (T:Top p a_ bz mg mb g) (F:Fr g L s.heap m) (N:News g L s.heap ((du,listOf dus.toArray n1)::(ar,listOf ars.toArray n2)::(td,listOf tds.toArray n3)::(pc,listOf (its++its3).toArray n4)::(rl,listOf vr.toArray kr)::(L+1+1+1,oar)::(L+1+1+1+1+1,ou)::rest)) (hoa:oar.data= .cell (some (.ref ar))) (O_:ou.data= .cell (some (.ref ul))) (mU:m (ofString "due")=some (.ref du)) (mT:m (ofString "told")=some (.ref td)) (mP:m (ofString "pieces")=some (.ref pc)) (mL:m (ofString "laid")=some (.ref ll)) (mR:m (ofString "row")=some (.ref rl)) (mB:m (ofString "begin")=some (.int its.length tb)) (hr:StrsAre vr rs) (W4:(rs.map (·.length)).sum<=100000) (Nl:rs.length<=100) (h3:StrsAre its3 ts) (XB:(ts.map (·.length)).sum<=100000) (htl:ts.length<=10) (fW:its.length<=200) (MA:dus.length<=200) (TP:ars.length<=20) (ZG:tds.length<=20) (a1: @Ne Nat du ar) (a2: @Ne Nat du td) (a3: @Ne Nat du pc) (a4: @Ne Nat ar td) (a5: @Ne Nat ar pc) (a6: @Ne Nat td pc) (a7: @Ne Nat rl du) (a8: @Ne Nat rl ar) (a9: @Ne Nat rl td) (c1: @Ne Nat (L+1+1+1) du) (c2: @Ne Nat (L+1+1+1) ar) (c3: @Ne Nat (L+1+1+1) td) (c4: @Ne Nat (L+1+1+1+1+1) du) (c5: @Ne Nat (L+1+1+1+1+1) ar) (c6: @Ne Nat (L+1+1+1+1+1) td) (o1:∀r∈rest, @Ne Nat r.1 du) (o2:∀r∈rest, @Ne Nat r.1 ar) (o3:∀r∈rest, @Ne Nat r.1 td) (XA:(Txt.join (ofString "") rs).length<=200000) (bL:∀tt x1 x2 k1 k2 k3 (s':Shared),(∀z∈(du,listOf dus.toArray n1)::(ar,listOf ars.toArray n2)::(td,listOf tds.toArray n3)::(pc,listOf (its++its3).toArray n4)::(rl,listOf vr.toArray kr)::(L+1+1+1,oar)::(L+1+1+1+1+1,ou)::rest, @Ne Nat z.1 tt)->aM s s'->Fr g L s'.heap m->
  News g L s'.heap ((du,listOf (dus++[Value.str (ofString "<e"++Txt.join (ofString "") rs++ofString ">") x1]).toArray k1)::(ar,listOf (ars++[Value.ref ul]).toArray k2)::(td,listOf (tds++[Value.ref tt]).toArray k3)::(pc,listOf (its++its3).toArray n4)::(rl,listOf vr.toArray kr)::(L+1+1+1,oar)::(L+1+1+1+1+1,ou)::(tt,aO [Value.ref ll, .ref ul, .ref rl, .str (Txt.join (ofString "") ts) x2])::rest)->
  Q .next s'),
 WX w qual scope L fa cd ((cM (body.getD 9 (.Pass default))).drop 8) Q E s
noncomputable def vc:=bA (iD j0) ((bw,default,[],fun _=>none,fun _=>none,fun _=>none,{},0),(0, .none,fun _=>none,{},fun _ _=>True,fun _ _=>True,0,0),(0,0,0,0,0,0,0,0),(0,0,[],[],[],[],[],[]),(default,default,[],[],0,[],0,0))
theorem xG:∀{w p a_ bz mg mb g L fa cd m s Q E du ar td pc ul ll rl n1 n2 n3 n4 kr dus ars tds its its3 vr oar ou ts rs tb rest},j0 w p a_ bz mg mb g L fa cd m s Q E du ar td pc ul ll rl n1 n2 n3 n4 kr dus ars tds its its3 vr oar ou ts rs tb rest 0 0:=by
 intros;apply lm j0 (c:=vc) rfl;apply (?zg:jG j0);intros w p a_ bz mg mb g L fa cd m s Q E du ar td pc ul ll rl n1 n2 n3 n4 kr dus ars tds its its3 vr oar ou ts rs tb rest _ _;intros oc an name qual params body scope dV kV gF pm cA ct l_ z_ ho B X T F N hoa O_ mU mT mP mL mR mB hr W4 Nl h3 XB htl fW MA TP ZG a1 a2 a3 a4 a5 a6 a7 a8 a9 c1 c2 c3 c4 c5 c6 o1 o2 o3 XA bL;dsimp only [WX] at ⊢;revert qual body scope cA;k_fill;refine' no_implicit_lambda% (dd (K:=hd.heap_39 w.params) (f:=212) ?h1 ?main)
 case h1=>k_is
 dsimp only [List.drop,List.getD,List.getElem?_cons_succ,List.getElem?_cons_zero,Option.getD,cM];refine wpAny_execs_cons ?_;k_steps;refine ⟨?_⟩;refine join_listW (bo N (a:=rl) (vs:=vr.toArray) (n:=kr) (by k_mem)) hr (by decide) (Do Nl W4) fun t1 k1=>?_;k_steps;refine ⟨?_⟩;rename News _ _ _ _=>N1;rename Fr _ _ _ _=>F1
 have Qb:kms_pick (its++its3) (some (its.length:Int)) none=its3:=by
  unfold kms_pick kms_lo kms_hi;dsimp only;rw [if_neg (nQ)]
  have e1:min ((its.length:Int)).toNat (its++its3).length=its.length:=by rw [List.length_append];exact Dm
  rw [e1,List.drop_left,List.take_of_length_le (by rw [List.length_append];exact Dl)]
 have ZR:=h3.length;refine kms_slice_lit (lo:=some (its.length:Int)) (hi:=none) (zs:=its3) F1 N1 (bo N1 (a:=pc) (vs:=(its++its3).toArray) (n:=n4) (by k_mem)) (.int _ _) .none Qb ?main2 ?hs ?ht ?hz
 case hs=>with_unfolding_all rfl
 case ht=>intro _;rfl
 case hz=>simp [sizeLine_eq];exact Dk ZR htl fW
 case main2=>
  intros D h' F2 N2 l1
  k_lt l1
  clear N1 F1;k_steps;refine ⟨?_⟩;refine join_listW (bo N2 (a:=D) (vs:=its3.toArray) (n:=0) (.head _)) h3 (by decide) (Dj htl XB) fun t2 k2=>?_;simp only [List.push_toArray] at N2;k_steps;rename News _ _ _ _=>N9;rename Fr _ _ _ _=>F9;rename D < _/\_=>lD;refine fb lD fun aj y1 y2 y3 y4 y5 y6 y7 y8=>?_;clear lD aj;simp only [List.push_toArray] at N9;refine' bL ?tt ?xa ?xb (n1+1) (n2+1) (n3+1) _ ?fr SameF.refl F9 (bf N9 ?led)
  case led=>walk_at "allinT"
  case fr=>
   refine cu ?_;dsimp only [FC];exact ⟨Nat.ne_of_lt y1,Nat.ne_of_lt y2,Nat.ne_of_lt y3,Nat.ne_of_lt y4,Nat.ne_of_lt y5,Nat.ne_of_lt y6,Nat.ne_of_lt y7,cj fun z hz=>Nat.ne_of_lt (lV y8 z hz)⟩
theorem JC:True:=by
 (k_with "execs cons"=>((k_here;(with_reducible show wpAny _ _ (execs (Stmt.If _ _ _ _::Stmt.For (Expr.Name (ofString "asked") _) _ _ _ _::_) _) _ _ _);refine Stop.out ?_)))
 trivial
noncomputable def jZ (x:WS) (W d pc du ar D:Addr) (n:WN) (n1 n2 n3 n4 n5 n6 n7 kd dep:Nat) (rows:bk) (nws:List (List (Str×Str))) (ni pi its dus ars vd:List Value) (oar ok:Obj) (ps qs:List Str) (rest:ax) (_ _ _ _:Nat):Prop:=HO w fun qual body scope=>∀(B:Below callerA g [] g) (X:(hd.heap_39 w.params).In g) (T:Top p a_ bz mg mb g) (F:Fr g L s.heap m) (N:News g L s.heap (cC w.params W d pc n n1 n2 n3 n4 n5 x (bc rows).toArray ni.toArray pi.toArray its.toArray++(du,listOf dus.toArray n6)::(ar,listOf ars.toArray n7)::(L+1+1+1,oar)::(L+1+1+1+1,ok)::(D,listOf vd.toArray kd)::rest)) (hoa:oar.data= .cell (some (.ref ar))) (mW:m (ofString "writer")=some (.ref W)) (mU:m (ofString "due")=some (.ref du)) (nd:([W,d,x.data,x.nss,x.decl,x.pres,x.write,pc,du,ar]:List Nat).Nodup) (off:∀r∈(L+1+1+1,oar)::(L+1+1+1+1,ok)::(D,listOf vd.toArray kd)::rest,r.1∉([W,d,x.data,x.nss,x.decl,x.pres,x.write,pc,du,ar]:List Nat)) (hR:RowsLed rest rows nws) (l1:rows.length=dep+1) (l2:ni.length=dep+2) (l3:pi.length=dep+1) (l4:ars.length=dep) (KM:dep<=20) (l5:its.length<=100) (l6:dus.length<=100) (PZ:StrsAre its ps) (Qe:StrsAre dus qs) (eo:∀u∈bE nws,u.1≠ofString ""/\u.2≠ofString "") (v_:(bE nws).length<1000) (bL:∀c b_ m' n' b eM n_ j_ k_ Kz ME Hk C_ (s':Shared),b_+c=dep->b_=0->(∀y,y≠ofString "turn"->m' y=m y)->StrsAre Hk (ps++List.replicate c (ofString "</e>"))->StrsAre C_ (qs++List.replicate c (ofString "</e>"))->Fr g L s'.heap m'->
  News g L s'.heap (cC w.params W d pc ⟨n',n.seen,b⟩ n1 eM n_ j_ k_ x (bc (rows.take (b_+1))).toArray (ni.take (b_+2)).toArray (pi.take (b_+1)).toArray Hk.toArray++(du,listOf C_.toArray Kz)::(ar,listOf ars.toArray ME)::(L+1+1+1,oar)::(L+1+1+1+1,ok)::(D,listOf vd.toArray kd)::rest)->aM s s'->
  WX w qual scope L fa cd (body.drop 11) Q E s'),
 WX w qual scope L fa cd (body.drop 10) Q E s
noncomputable def u9:=bA (iC jZ) ((bw,default,[],fun _=>none,fun _=>none,fun _=>none,{},0),(0, .none,fun _=>none,{},fun _ _=>True,fun _ _=>True,⟨0,0,0,0,0,0,fun _=>0⟩,0),(0,0,0,0,0,⟨0,false,false⟩,0,0),(0,0,0,0,0,0,0,[]),([],[],[],[],[],[],[],default),(default,[],[],[],0,0,0,0))
theorem xF:∀{w p a_ bz mg mb g L fa cd m s Q E x W d pc du ar D n n1 n2 n3 n4 n5 n6 n7 kd dep rows nws ni pi its dus ars vd oar ok ps qs rest},jZ w p a_ bz mg mb g L fa cd m s Q E x W d pc du ar D n n1 n2 n3 n4 n5 n6 n7 kd dep rows nws ni pi its dus ars vd oar ok ps qs rest 0 0 0 0:=by
 intros;apply oz jZ (c:=u9) rfl;apply (?zg:lZ jZ);intros w p a_ bz mg mb g L fa cd m s Q E x W d pc du ar D n n1 n2 n3 n4 n5 n6 n7 kd dep rows nws ni pi its dus ars vd oar ok ps qs rest _ _ _ _;intros oc an name qual params body scope dV kV gF pm cA ct l_ z_ ho B X T F N hoa mW mU nd off hR l1 l2 l3 l4 KM l5 l6 PZ Qe eo v_ bL;dsimp only [WX] at bL ⊢;revert qual body scope cA;k_fill;refine' no_implicit_lambda% (dd (K:=hd.heap_39 w.params) (f:=212) ?h1 ?main)
 case h1=>k_is
 intro bL;dsimp only [List.drop,List.getD,List.getElem?_cons_succ,List.getElem?_cons_zero,Option.getD,cM] at bL ⊢;have PR:=nd;replace nd:=fw nd;dsimp only [ND,NI] at nd;refine eF nd fun aj aZ bU dK pH Lb LJ LS j9 Me=>?_;clear nd Me;refine fb aj fun a1 a2 a3 a4 a5 a6 a7 a8 a9=>?_;refine fe aZ fun b2 b3 b4 b5 b6 b7 b8 b9=>?_;refine ef bU fun c3 c4 c5 c6 c7 c8 c9=>?_;refine dI dK fun d4 d5 d6 d7 d8 d9=>?_;refine bv pH fun e5 e6 e7 e8 e9=>?_;refine bO Lb fun f6 f7 f8 f9=>?_;refine aI LJ fun g7 g8 g9=>?_;refine ak LS fun i8 i9=>?_
 have Oq:∀z∈([L+1+1+1,L+1+1+1+1,D]:List Nat),z≠du/\z≠ar:=by
  have z1:=off _ (.head _);have z2:=off _ (.tail _ (.head _));have z3:=off _ (.tail _ (.tail _ (.head _)));replace z1:=dh z1;dsimp only [NI] at z1;replace z2:=dh z2;dsimp only [NI] at z2;replace z3:=dh z3;dsimp only [NI] at z3;refine cu ?_;dsimp only [FC];exact ⟨z1.2.2.2.2.2.2.2.2,z2.2.2.2.2.2.2.2.2,z3.2.2.2.2.2.2.2.2,trivial⟩
 replace Oq:=gJ Oq;dsimp only [FA] at Oq;refine bO Oq fun aj aZ u5 u6=>?_;clear Oq;refine ak aj fun u1 u2=>?_;refine ak aZ fun u3 u4=>?_;dsimp only [cC,W0,List.cons_append,List.nil_append] at N;refine wpAny_execs_cons ?_;k_steps;refine ⟨?_⟩;refine len_list (bo N (a:=ar) (vs:=ars.toArray) (n:=n7) (by k_mem)) (by simp;exact Di l4 KM) ?_;simp only [List.size_toArray,l4];k_steps;refine ⟨?_⟩;rename IsRange _ _ _ _ _ _ _ _=>hrg;rename Fr _ _ _ _=>F1;rename News _ _ _ _=>N1
 refine jp (n:=dep) (Inv:=fun i m' led=>∃c b_ n' b eM n_ j_ k_ Kz ME Hk C_,c=i/\b_+c=dep/\(∀y,y≠ofString "turn"->m' y=m y)/\StrsAre Hk (ps++List.replicate c (ofString "</e>"))/\StrsAre C_ (qs++List.replicate c (ofString "</e>"))/\led=cC w.params W d pc ⟨n',n.seen,b⟩ n1 eM n_ j_ k_ x (bc (rows.take (b_+1))).toArray (ni.take (b_+2)).toArray (pi.take (b_+1)).toArray Hk.toArray++(du,listOf C_.toArray Kz)::(ar,listOf ars.toArray ME)::(L+1+1+1,oar)::(L+1+1+1+1,ok)::(D,listOf vd.toArray kd)::rest)
  hrg F1 N1 rfl (rK) (by decide) (Dh KM) ⟨0,dep,n.n,n.done,n2,n3,n4,n5,n6,n7,its,dus,rfl,rfl,fun _ _=>rfl,by simpa using PZ,by simpa using Qe,by rw [List.take_of_length_le (li l1),List.take_of_length_le (rH l2),List.take_of_length_le (li l3)];rfl⟩ ?turn ?done
 case done=>
  intros aC led s₁ hJ F2 N2 S2;refine lO hJ ?_;intros c b_ n' b eM n_ j_ k_ Kz ME Hk C_ aj;refine dI aj fun hc h1 h3 h4 h5 aZ=>?_;subst aZ;clear hJ;clear N1 F1;k_steps;refine ⟨?_⟩;exact bL c b_ aC n' b eM n_ j_ k_ Kz ME Hk C_ _ h1 (Dg h1 hc) h3 h4 h5 F2 N2 (SameF.trans S2 SameF.refl)
 case turn=>
  intros i NV aC led I oI s₁ hi hJ F2 N2 offI S2;refine lO hJ ?_;intros c b_ n' b eM n_ j_ k_ Kz ME Hk C_ aj;refine dI aj fun hc h1 h3 h4 h5 aZ=>?_;subst aZ;clear hJ;have XH:=(h3 (ofString "writer") (by decide)).trans mW;have mU':=(h3 (ofString "due") (by decide)).trans mU;dsimp only [cC,W0,List.cons_append,List.nil_append] at N2 offI;replace offI:=cj offI;dsimp only [FC] at offI;clear N1 F1 bL;k_steps
  ·refine ⟨?_⟩
   rename Fr _ _ _ (fun y=>if y=ofString "turn" then _ else _)=>F3
   rename News _ _ _ ((I,oI)::_)=>N3;clear N2 F2;obtain ⟨e,rfl⟩:∃e,b_=e+1:=⟨b_ - 1,by exact Df h1 hi hc⟩;have r1:(rows.take (e+1+1))=rows.take (e+1)++[rows[e+1]'(hW h1 l1)]:=fi (hW h1 l1);have r2:(ni.take (e+1+2))=ni.take (e+2)++[ni[e+2]'(nN h1 l2)]:=fi (nN h1 l2);have r3:(pi.take (e+1+1))=pi.take (e+1)++[pi[e+1]'(hW h1 l3)]:=fi (hW h1 l3);have PA:=RowsLed.take (e+1+1) hR;have Ss:∀r∈rows,∃k,(r.1,listOf r.2 k)∈rest:=fun r hr=>(hR.mem r hr).1;have hu:=qh nws (e+1+1)
   have Nk:(bE (nws.take (e+1+1))).length<1000:=by have:=congrArg List.length hu;rw [List.length_append] at this;exact De v_ this
   have OX:∀u∈bE (nws.take (e+1+1)),u.1≠ofString ""/\u.2≠ofString "":=fun u hm=>eo u (by rw [hu];exact ay _ hm);have Nt:∀r∈rows.take (e+1+1),r∈rows:=fun r hr=>List.mem_of_mem_take hr;rw [r1] at PA Nt;rw [r1,r2,r3,iY] at N3;generalize rows[e+1]'(hW h1 l1)=MT at N3 PA Nt;generalize ni[e+2]'(nN h1 l2)=nt at N3;generalize pi[e+1]'(hW h1 l3)=pt at N3;have I_:=h4.length;rw [List.length_append,List.length_replicate] at I_;have SY:=PZ.length;have Q2:=h5.length;rw [List.length_append,List.length_replicate] at Q2;have Tb:=Qe.length;have Se:([W,d,x.data,x.nss,x.decl,x.pres,x.write,pc]:List Nat).Nodup:=List.Nodup.sublist (List.sublist_append_left ([W,d,x.data,x.nss,x.decl,x.pres,x.write,pc]:List Nat) [du,ar]) PR;have NO:∀r∈(L+1+1+1,oar)::(L+1+1+1+1,ok)::(D,listOf vd.toArray kd)::rest,r.1∉([W,d,x.data,x.nss,x.decl,x.pres,x.write,pc]:List Nat):=fun r hr hq=>off r hr (by exact cz [0,1,2,3,4,5,6,7] rfl _ hq);refine dO (ui W d pc ⟨n',n.seen,b⟩ n1 eM n_ j_ k_ x _ (rows.take (e+1)) MT (ni.take (e+2)) (pi.take (e+1)) nt pt Hk.toArray (bE (nws.take (e+1+1))) Nk OX (by simp;exact Dc h1 I_ SY l5 KM) (by simp;exact rD l3 KM) (by simp;exact Db l2 KM) (by simp;exact rD l1 KM) Se ?hr) B F3 X N3 T rfl rfl rfl ?sub ?rows (fy _ (by decide)) (d3 _ (by decide)) ?_
   case hr=>
    intro r hr;refine am (Ss r (Nt r hr)) fun k hk=>?_;exact NO _ (.tail _ (.tail _ (.tail _ hk)))
   case sub=>dsimp only [cC,W0];exact cz [1,2,3,4,5,6,7,8] rfl
   case rows=>
    refine RowsLed.at (n:=n_) N3 ?_ (PA.mono fun q hq=>by exact bI 14 rfl hq) fun nw hn=>?_
    ·rw [iY];simp
    ·have:=mJ hn;exact Da Nk this
   intros b2 m1 m2 m3 m4 m5 tx s' F' N' K' S';have Lk:=d0 N3 K' N' (others:=(I,oI)::(du,listOf C_.toArray Kz)::(ar,listOf ars.toArray ME)::(L+1+1+1,oar)::(L+1+1+1+1,ok)::(D,listOf vd.toArray kd)::rest) ?oh ?of
   case oh=>
    intro q hq;exact cv [0,9,10,11,12,13] 14 rfl rfl _ hq
   case of=>
    intro q hq
    rcases aB hq with rfl|hq
    ·refine bZ ?_;dsimp only [NI]
     exact ⟨Ne.symm offI.1,Ne.symm offI.2.1,Ne.symm offI.2.2.1,Ne.symm offI.2.2.2.1,Ne.symm offI.2.2.2.2.1,Ne.symm offI.2.2.2.2.2.1,Ne.symm offI.2.2.2.2.2.2.1,Ne.symm offI.2.2.2.2.2.2.2.1⟩
    ·rcases aB hq with rfl|hq
     ·refine bZ ?_;dsimp only [NI]
      exact ⟨Ne.symm a8,Ne.symm b8,Ne.symm c8,Ne.symm d8,Ne.symm e8,Ne.symm f8,Ne.symm g8,Ne.symm i8⟩
     ·rcases aB hq with rfl|hq
      ·refine bZ ?_;dsimp only [NI]
       exact ⟨Ne.symm a9,Ne.symm b9,Ne.symm c9,Ne.symm d9,Ne.symm e9,Ne.symm f9,Ne.symm g9,Ne.symm i9⟩
      ·exact NO q hq
   clear N' N3 F3;dsimp only [cC,W0,List.cons_append,List.nil_append] at Lk;refine pC offI fun q1 q2 q3 q4 q5 q6 q7 q8 q9 fJ jb fZ ja hZ=>?_;clear offI;have hru:∀r∈rest, @Ne Nat r.1 du:=fun r hr h=>off r (.tail _ (.tail _ (.tail _ hr))) (by simp [h]);have hra:∀r∈rest, @Ne Nat r.1 ar:=fun r hr h=>off r (.tail _ (.tail _ (.tail _ hr))) (by simp [h])
   have hzu:C_.length<=200:=by exact C9 h1 Q2 Tb l6 KM
   clear off NO PR Se PA Nt Ss hu Nk OX K';k_steps;refine ⟨?_⟩;refine wpAny_execs_cons ?_;k_steps
   rename Fr _ _ _ (fun y=>if y=ofString "turn" then _ else _)=>F5
   rename News _ _ _ ((W,_)::_)=>N5;simp only [List.push_toArray] at N5
   obtain ⟨t6,k1,k2,N6⟩:=sC N5 (fun t k1 k2=>(I,oI)::(cC w.params W d pc ⟨m1,n.seen,b2⟩ n1 m2 m3 m4 m5 x (bc (rows.take (e+1))).toArray (ni.take (e+2)).toArray (pi.take (e+1)).toArray (Hk++[Value.str (ofString "</e>") tx]).toArray++(du,listOf (C_++[Value.str (ofString "</e>") t]).toArray k1)::(ar,listOf ars.toArray k2)::(L+1+1+1,oar)::(L+1+1+1+1,ok)::(D,listOf vd.toArray kd)::rest)) (by
    refine' ⟨?t,?k1,?k2,?led⟩
    case led=>dsimp only [cC,W0,List.cons_append,List.nil_append];walk_at "allinT")
   refine LoopEnd.intro F5 N6 (by (try dsimp only [cC,W0,List.cons_append,List.nil_append]);refine cu ?_;dsimp only [FC];exact ⟨q1,q2,q3,q4,q5,q6,q7,q8,q9,fJ,jb,fZ,ja,hZ⟩) (SameF.trans S2 (SameF.trans SameF.refl S')) ⟨c+1,e,m1,b2,m2,m3,m4,m5,k1,k2,Hk++[Value.str (ofString "</e>") tx],C_++[Value.str (ofString "</e>") t6],by exact C8 hc,by exact C7 h1,?_,?_,?_,rfl⟩
   ·intro y hy
    dsimp only;rw [if_neg hy];exact h3 y hy
   ·rw [List.replicate_succ',<-List.append_assoc]
    exact h4.append' (.cons _ _ .nil)
   ·rw [List.replicate_succ',<-List.append_assoc]
    exact h5.append' (.cons _ _ .nil)
theorem JB:True:=by
 (k_with "subscriptTail Name Slice ref ref"=>((k_here;refine Stop.out ?_)))
 (k_with "call builtin:str.join"=>((k_here;refine Stop.out ?_)))
 (k_with "execs cons"=>((k_here;(with_reducible show wpAny _ _ (execs (Stmt.For (Expr.Name (ofString "asked") _) _ _ _ _::_) _) _ _ _);refine Stop.out ?_)))
 trivial
noncomputable def jY (du pc:Addr) (n1 n2:Nat) (dus its:List Value) (ps qs:List Str) (rest:ax):Prop:=HO w fun qual body scope=>∀(B:Below callerA g [] g) (X:(hd.heap_39 w.params).In g) (T:Top p a_ bz mg mb g) (F:Fr g L s.heap m) (N:News g L s.heap ((du,listOf dus.toArray n1)::(pc,listOf its.toArray n2)::rest)) (mU:m (ofString "due")=some (.ref du)) (mP:m (ofString "pieces")=some (.ref pc)) (h1:StrsAre its ps) (h2:StrsAre dus qs) (TX:Txt.join (ofString "") ps=Txt.join (ofString "") qs) (XS:(ps.map (·.length)).sum+ps.length<=1048576) (Uk:(qs.map (·.length)).sum+qs.length<=1048576) (bL:∀(s':Shared),aM s s'->Fr g L s'.heap m->News g L s'.heap ((du,listOf dus.toArray n1)::(pc,listOf its.toArray n2)::rest)->
  WX w qual scope L fa cd (body.drop 12) Q E s'),
 WX w qual scope L fa cd (body.drop 11) Q E s
noncomputable def u8:=bA (gk jY) ((bw,default,[],fun _=>none,fun _=>none,fun _=>none,{},0),(0, .none,fun _=>none,{},fun _ _=>True,fun _ _=>True,0,0),(0,0,[],[],[],[],[]))
theorem xE:∀{w p a_ bz mg mb g L fa cd m s Q E du pc n1 n2 dus its ps qs rest},jY w p a_ bz mg mb g L fa cd m s Q E du pc n1 n2 dus its ps qs rest:=by
 intros;apply fp jY (c:=u8) rfl;apply (?zg:eZ jY);intros w p a_ bz mg mb g L fa cd m s Q E du pc n1 n2 dus its ps qs rest;intros oc an name qual params body scope dV kV gF pm cA ct l_ z_ ho B X T F N mU mP h1 h2 TX XS Uk bL;dsimp only [WX] at bL ⊢;revert qual body scope cA;k_fill;refine' no_implicit_lambda% (dd (K:=hd.heap_39 w.params) (f:=212) ?h1 ?main)
 case h1=>k_is
 intro bL;dsimp only [List.drop] at bL ⊢;refine wpAny_execs_cons ?_;k_steps;refine ⟨?_⟩;refine join_listW (bo N (a:=pc) (vs:=its.toArray) (n:=n2) (by k_mem)) h1 (by decide) XS fun t1 k1=>?_;k_steps;refine ⟨?_⟩;refine join_listW (bo N (a:=du) (vs:=dus.toArray) (n:=n1) (by k_mem)) h2 (by decide) Uk fun t2 k2=>?_;rw [TX];k_steps
 ·rename_i dR
  rw [bne_self_eq_false] at dR
  cases dR
 ·refine ⟨?_⟩
  exact bL _ SameF.refl F N
section
open PySem.Builtin PySem.Builtin.Str
noncomputable abbrev fG:PySem.Str:=ofString "http://www.w3.org/XML/1998/namespace"
theorem vP:58∈cl fG:=by decide+kernel
theorem p8 (p:Int):aV p≠fG:=fun e=>jg (db p) (c:=58) rfl (by rw [e];exact vP)
theorem us_mem {nws:List (List (PySem.Str×PySem.Str))} {pr:PySem.Str×PySem.Str}:pr∈bE nws↔∃nw∈nws,pr∈nw:=by simp [bE]
theorem wh {nws:List (List (PySem.Str×PySem.Str))} {k:Nat} (h:∀nw∈nws,nw.length<=k):(bE nws).length<=k*nws.length:=by
 induction nws with
 |nil=>simp [bE]
 |cons a r ih=>
  have h1:=h a (.head _);have h2:=ih fun x hx=>h x (.tail _ hx);rw [mK,List.length_append,List.length_cons,Nat.mul_succ];exact yK h2 h1
structure SOk (B j:Nat) (op:List (List Int)) (nws nvs:List (List (PySem.Str×PySem.Str))):Prop where
 opl:op.length<=j
 nwl:nws.length=op.length+1
 nvl:nvs.length=op.length+2
 opz:∀us∈op,us.length<=33
 nwz:∀nw∈nws,nw.length<=33
 cov:∀k,k<=op.length->∀u,(∃pr∈bE (nws.take (k+1)),pr.1=u)↔u=fG\/∃us∈op.take k,∃p∈us,u=aV p
 nwd:∀pr∈bE nws,pr=(fG,ofString "xml")\/∃p,pr=(aV p,aH (aV p))/\p.natAbs<2 ^ 200
 nvd:∀nv∈nvs,∀pr∈nv,58∈cl pr.1\/pr.2=aH pr.1
 nvz:∀nv∈nvs,nv.length<=B
theorem SOk.take {B j k:Nat} {op:List (List Int)} {nws nvs} (h:SOk B j op nws nvs) (hk:k<=op.length):SOk B j (op.take k) (nws.take (k+1)) (nvs.take (k+2)) where
 opl:=by rw [List.length_take];have:=h.opl;exact yJ this
 nwl:=by rw [List.length_take,List.length_take,h.nwl];exact yI
 nvl:=by rw [List.length_take,List.length_take,h.nvl];exact yH
 opz:=fun us hu=>h.opz us (List.mem_of_mem_take hu)
 nwz:=fun us hu=>h.nwz us (List.mem_of_mem_take hu)
 cov:=fun i hi u=>by
  rw [List.length_take] at hi;rw [List.take_take,List.take_take,Nat.min_eq_left (yG hi),Nat.min_eq_left (yF hi)];exact h.cov i (yE hi) u
 nwd:=fun pr hp=>by
  refine am (us_mem.mp hp) fun nw aj=>?_;refine ak aj fun h1 h2=>?_;exact h.nwd pr (us_mem.mpr ⟨nw,List.mem_of_mem_take h1,h2⟩)
 nvd:=fun nv hn=>h.nvd nv (List.mem_of_mem_take hn)
 nvz:=fun nv hn=>h.nvz nv (List.mem_of_mem_take hn)
theorem SOk.tell {B j:Nat} {op:List (List Int)} {nws init} {top X:List (PySem.Str×PySem.Str)} (h:SOk B j op nws (init++[top])) (hX:∀pr∈X,pr.2=aH pr.1) (hl:X.length<=66):SOk (B+66) j op nws (init++[top++X]) where
 opl:=h.opl
 nwl:=h.nwl
 nvl:=by have:=h.nvl;rw [List.length_append] at this ⊢;exact this
 opz:=h.opz
 nwz:=h.nwz
 cov:=h.cov
 nwd:=h.nwd
 nvd:=fun nv hn pr hp=>by
  refine Or.elim (aE hn) (fun hn=>?_) fun hn=>?_
  ·exact h.nvd nv (aL _ hn) pr hp
  ·rw [br hn] at hp
   refine Or.elim (aE hp) (fun hp=>?_) fun hp=>?_
   ·exact h.nvd top (by simp) pr hp
   ·exact .inr (hX pr hp)
 nvz:=fun nv hn=>by
  refine Or.elim (aE hn) (fun hn=>?_) fun hn=>?_
  ·have:=h.nvz nv (aL _ hn);exact yD this
  ·rw [br hn,List.length_append]
   have:=h.nvz top (by simp);exact yC hl this
theorem oQ (old:List PySem.Str) (sK:List PySem.Str):bQ old (cg sK)=sK.filter fun u=>decide (u∉old):=by
 unfold bQ cg;rw [List.map_cons,List.flatten_cons];show []++_=_;rw [List.nil_append]
 induction sK with
 |nil=>rfl
 |cons a r ih=>
  rw [List.map_cons,List.map_cons,List.flatten_cons,ih,List.filter_cons];unfold fL
  by_cases h:a∈old<;>simp [h]
theorem SOk.old {B j:Nat} {op:List (List Int)} {nws nvs} (h:SOk B j op nws nvs) (u:PySem.Str):u∈(bE nws).map (·.1)↔u=fG\/∃us∈op,∃p∈us,u=aV p:=by
 have h1:=h.cov op.length (Nat.le_refl _) u;rw [List.take_of_length_le (by rw [h.nwl];exact yB),List.take_length] at h1;rw [<-h1,List.mem_map]
theorem SOk.new {B j:Nat} {op:List (List Int)} {nws nvs} (h:SOk B j op nws nvs) (p:Int):decide (aV p∉(bE nws).map (·.1))=cJ op p:=by
 unfold cJ;rw [decide_eq_decide.mpr (not_congr (h.old (aV p)))];rw [Bool.eq_iff_iff,decide_eq_true_eq,List.all_eq_true];constructor
 ·intros hn us hu
  rw [decide_eq_true_eq];exact fun hp=>hn (.inr ⟨us,hu,p,hp,rfl⟩)
 ·rintro hn (e|⟨us,hu,q,hq,e⟩)
  ·exact p8 p e
  ·have:=hn us hu
   rw [decide_eq_true_eq] at this;exact this (by rw [gu e];exact hq)
theorem SOk.laid {B j:Nat} {op:List (List Int)} {nws nvs} (h:SOk B j op nws nvs) {us:List Int} {sK:List PySem.Str} (hK:sK.Perm (us.map aV)):(bQ ((bE nws).map (·.1)) (cg sK)).Perm ((us.filter (cJ op)).map aV):=by
 rw [oQ];refine (hK.filter _).trans ?_;rw [List.filter_map];have e:((fun u=>decide (u∉(bE nws).map (·.1))) ∘ aV)=cJ op:=funext fun p=>h.new p;rw [e]
theorem SOk.push {B j:Nat} {op:List (List Int)} {nws nvs} (h:SOk B j op nws nvs) {us:List Int} {sK:List PySem.Str} (hK:sK.Perm (us.map aV)) (hl:us.length<=33) (ha:∀p∈us,p.natAbs<2 ^ 200):SOk B (j+1) (op++[us]) (nws++[cB (bQ ((bE nws).map (·.1)) (cg sK))]) (nvs++[[]]) where
 opl:=by rw [List.length_append];have:=h.opl;simp;exact yA this
 nwl:=by rw [List.length_append,List.length_append,h.nwl];rfl
 nvl:=by rw [List.length_append,List.length_append,h.nvl];rfl
 opz:=fun x hx=>by
  refine Or.elim (aE hx) (fun hx=>?_) fun hx=>?_
  ·exact h.opz x hx
  ·rw [br hx];exact hl
 nwz:=fun x hx=>by
  refine Or.elim (aE hx) (fun hx=>?_) fun hx=>?_
  ·exact h.nwz x hx
  ·rw [br hx]
   unfold cB;rw [List.length_map,(h.laid hK).length_eq,List.length_map];exact Nat.le_trans (List.length_filter_le _ _) hl
 cov:=fun k hk u=>by
  rw [List.length_append,List.length_cons,List.length_nil] at hk
  by_cases Rt:k<=op.length
  ·rw [List.take_append_of_le_length (by rw [h.nwl];exact yz Rt),List.take_append_of_le_length Rt]
   exact h.cov k Rt u
  ·have Pq:k=op.length+1:=by exact yy hk Rt
   rw [List.take_of_length_le (by rw [List.length_append,h.nwl,Pq];simp),List.take_of_length_le (by rw [List.length_append,Pq];simp)];have h1:=h.old u
   have h2:u∈bQ ((bE nws).map (·.1)) (cg sK)↔u∈sK/\u∉(bE nws).map (·.1):=by rw [oQ,List.mem_filter,decide_eq_true_eq]
   have h3:u∈sK↔∃p∈us,u=aV p:=by
    rw [hK.mem_iff,List.mem_map];simp only [eq_comm]
   have h4:(∃pr∈bE (nws++[cB (bQ ((bE nws).map (·.1)) (cg sK))]),pr.1=u)↔u∈(bE nws).map (·.1)\/u∈bQ ((bE nws).map (·.1)) (cg sK):=by
    constructor
    ·intro aj;refine am aj fun pr aZ=>?_;refine ak aZ fun hp bU=>?_;subst bU
     refine am (us_mem.mp hp) fun nw aj=>?_;refine ak aj fun hn hp=>?_;refine Or.elim (aE hn) (fun hn=>?_) fun hn=>?_
     ·exact .inl (List.mem_map_of_mem (us_mem.mpr ⟨nw,hn,hp⟩))
     ·rw [br hn] at hp
      refine am (aP hp) fun v aj=>?_;refine ak aj fun hv aZ=>?_;subst aZ;exact .inr hv
    ·rintro (hu|hu)
     ·refine am (aP hu) fun pr aj=>?_;refine ak aj fun hp aZ=>?_;subst aZ
      refine am (us_mem.mp hp) fun nw aj=>?_;refine ak aj fun hn hp=>?_;exact ⟨pr,us_mem.mpr ⟨nw,aL _ hn,hp⟩,rfl⟩
     ·exact ⟨(u,aH u),us_mem.mpr ⟨_,ay _ (.head _),List.mem_map_of_mem hu⟩,rfl⟩
   rw [h4,h2,h3,h1];constructor
   ·rintro ((e|⟨x,hx,y⟩)|⟨y,_⟩)
    ·exact .inl e
    ·exact .inr ⟨x,aL _ hx,y⟩
    ·exact .inr ⟨us,by simp,y⟩
   ·rintro (e|⟨x,hx,y⟩)
    ·exact .inl (.inl e)
    ·refine Or.elim (aE hx) (fun hx=>?_) fun hx=>?_
     ·exact .inl (.inr ⟨x,hx,y⟩)
     ·rw [br hx] at y
      by_cases q:u=fG\/∃us∈op,∃p∈us,u=aV p
      ·exact .inl q
      ·exact .inr ⟨y,q⟩
 nwd:=fun pr hp=>by
  refine am (us_mem.mp hp) fun nw aj=>?_;refine ak aj fun hn hp=>?_;refine Or.elim (aE hn) (fun hn=>?_) fun hn=>?_
  ·exact h.nwd pr (us_mem.mpr ⟨nw,hn,hp⟩)
  ·rw [br hn] at hp
   refine am (aP hp) fun v aj=>?_;refine ak aj fun hv aZ=>?_;subst aZ;rw [oQ] at hv;refine am (aP (hK.mem_iff.mp (List.mem_filter.mp hv).1)) fun p aj=>?_;refine ak aj fun h1 aZ=>?_;subst aZ;exact .inr ⟨p,rfl,ha p h1⟩
 nvd:=fun nv hn pr hp=>by
  refine Or.elim (aE hn) (fun hn=>?_) fun hn=>?_
  ·exact h.nvd nv hn pr hp
  ·rw [br hn] at hp;cases hp
 nvz:=fun nv hn=>by
  refine Or.elim (aE hn) (fun hn=>?_) fun hn=>?_
  ·exact h.nvz nv hn
  ·rw [br hn];exact Nat.zero_le _
theorem rV (u:PySem.Str):(cl (aH u)).head?=some 95:=by rw [ic];rfl
theorem SOk.ne {B j:Nat} {op:List (List Int)} {nws nvs} (h:SOk B j op nws nvs):∀u∈bE nws,u.1≠ofString ""/\u.2≠ofString "":=by
 intro u hu
 rcases h.nwd u hu with rfl|⟨p,rfl,_⟩
 ·exact ⟨by decide,by decide⟩
 ·refine ⟨fun e=>qb p (by rw [show aV p=ofString "" from e];rfl),fun e=>?_⟩
  have:=rV (aV p);rw [show aH (aV p)=ofString "" from e] at this
  cases this
theorem SOk.ulen {B j:Nat} {op:List (List Int)} {nws nvs} (h:SOk B j op nws nvs) (hj:j<=6):(bE nws).length<=900:=by
 have h1:=wh h.nwz;have h2:=h.nwl;have h3:=h.opl;exact yx h2 h1 hj h3
theorem SOk.told {B j:Nat} {op:List (List Int)} {nws nvs} (h:SOk B j op nws nvs) (hj:j<=6) {us:List Int} (ha:∀p∈us,p.natAbs<2 ^ 200) (ht:∀p∈us,∃nv∈nvs,∃pr∈nv,pr.1=aV p):Told (bE nws) (bE nvs) (us.map aV) where
 ulen:=h.ulen hj
 ne:=h.ne
 det:=fun u hu w hw=>by
  refine am (aP hw) fun q aj=>?_;refine ak aj fun hq aZ=>?_;subst aZ
  rcases h.nwd u hu with rfl|⟨p,rfl,hp⟩
  ·refine ⟨fun e=>absurd (show fG=aV q from e) (Ne.symm (p8 q)),fun e=>?_⟩
   have:=rV (aV q);rw [<-show ofString "xml"=aH (aV q) from e] at this
   cases this
  ·constructor
   ·intro e
    rw [show aV p=aV q from e]
   ·intro e
    have l1:=dm hp;have l2:=dm (ha q hq);have e':aH (aV p)=aH (aV q):=e;show aV p=aV q;exact jf (fo l1) (fo l2) e'
 told:=fun w hw=>by
  refine am (aP hw) fun q aj=>?_;refine ak aj fun hq aZ=>?_;subst aZ;refine am (ht q hq) fun nv aj=>?_;refine ak aj fun h1 aZ=>?_;refine am aZ fun pr bU=>?_;refine ak bU fun h2 e=>?_;exact ⟨pr,us_mem.mpr ⟨nv,h1,h2⟩,e⟩
 tdet:=fun v hv w hw e=>by
  refine am (aP hw) fun q aj=>?_;refine ak aj fun hq aZ=>?_;subst aZ;refine am (us_mem.mp hv) fun nv aj=>?_;refine ak aj fun h1 h2=>?_;refine Or.elim (h.nvd nv h1 v h2) (fun h3=>?_) fun h3=>?_
  ·rw [e] at h3;exact absurd h3 (jg (db q) rfl)
  ·rw [h3,e]
 pinj:=fun v hv w hw e=>by
  refine am (aP hv) fun p aj=>?_;refine ak aj fun hp aZ=>?_;subst aZ;refine am (aP hw) fun q aj=>?_;refine ak aj fun hq aZ=>?_;subst aZ;have l1:=dm (ha p hp);have l2:=dm (ha q hq);exact jf (fo l1) (fo l2) e
theorem E3 {led:ax} {items:Array Value} {new:List PySem.Str} (h:ItemsFor led items new):PairsLed led items.toList (cB new):=by
 refine ⟨by rw [Array.length_toList,h.1];simp [cB],fun i u hu=>?_⟩;unfold cB at hu;rw [List.getElem?_map] at hu
 cases hw:new[i]? with
 |none=>rw [hw] at hu;cases hu
 |some w=>
  rw [hw] at hu
  cases hu
  refine aW (h.2 i w hw) fun q t1 t2 aj=>?_;refine ak aj fun e hm=>?_;exact ⟨q,t1,t2,by rw [Array.getElem?_toList];exact e,hm⟩
structure POk (k:Nat) (ps qs:List PySem.Str):Prop where
 eq:(ps.map cl).flatten=(qs.map cl).flatten
 pl:ps.length<=k
 ql:qs.length<=k
 pz:∀x∈ps,x.length<=10000
 qz:∀x∈qs,x.length<=10000
theorem POk.app {k c:Nat} {ps qs xs ys:List PySem.Str} (h:POk k ps qs) (e:(xs.map cl).flatten=(ys.map cl).flatten) (h1:xs.length<=c) (h2:ys.length<=c) (h3:∀x∈xs,x.length<=10000) (h4:∀x∈ys,x.length<=10000):POk (k+c) (ps++xs) (qs++ys) where
 eq:=by simp only [List.map_append,List.flatten_append,h.eq,e]
 pl:=by rw [List.length_append];have:=h.pl;exact qQ h1 this
 ql:=by rw [List.length_append];have:=h.ql;exact qQ h2 this
 pz:=fun x hx=>(aE hx).elim (h.pz x) (h3 x)
 qz:=fun x hx=>(aE hx).elim (h.qz x) (h4 x)
theorem POk.ends {k c n:Nat} {ps qs:List PySem.Str} (h:POk k ps qs) (hc:n<=c):POk (k+c) (ps++List.replicate n (ofString "</e>")) (qs++List.replicate n (ofString "</e>")):=by
 have hz:∀x∈List.replicate n (ofString "</e>"),x.length<=10000:=fun x hx=>by rw [(List.mem_replicate.mp hx).2];decide
 exact h.app rfl (by rw [List.length_replicate];exact hc) (by rw [List.length_replicate];exact hc) hz hz
theorem POk.row {k:Nat} {ps qs:List PySem.Str} (h:POk k ps qs) {t:TD} (ht:TDok t):POk (k+3) (ps++t.texts) (qs++[ofString "<e"++Txt.join (ofString "") t.row++ofString ">"]):=by
 have hr:=gZ ht;have hj:=oX t.row;refine h.app ?_ (Nat.le_refl 3) (by simp) ?_ ?_
 ·simp only [TD.texts,List.map_cons,List.map_nil,List.flatten_cons,List.flatten_nil,bF,show cl (ofString "<")=[60] from rfl,show cl (ofString "e")=[101] from rfl,show cl (ofString ">")=[62] from rfl,show cl (ofString "<e")=[60,101] from rfl]
  simp
 ·intro x hx
  simp only [TD.texts,List.mem_cons,List.not_mem_nil,or_false] at hx
  rcases hx with rfl|rfl|rfl
  ·decide
  ·exact yw hj hr
  ·decide
 ·intro x hx
  rw [br hx,<-bK,bF,bF,List.length_append,List.length_append,bK,bK,bK];have e1:(ofString "<e").length=2:=rfl;have e2:(ofString ">").length=1:=rfl;exact yv e2 e1 hj hr
theorem POk.join {k:Nat} {ps qs:List PySem.Str} (h:POk k ps qs) (hk:k<=100):Txt.join (ofString "") ps=Txt.join (ofString "") qs/\(ps.map (·.length)).sum+ps.length<=1048576/\(qs.map (·.length)).sum+qs.length<=1048576:=by
 refine ⟨ed (by rw [iv,iv];exact h.eq),?_,?_⟩
 ·have:=kN h.pz;have:=h.pl;exact qP (by assumption) hk this
 ·have:=kN h.qz;have:=h.ql;exact qP (by assumption) hk this
theorem E6 {us:List Int} (hn:us.Nodup) (ha:∀p∈us,p.natAbs<2 ^ 200) (hl:1<=us.length/\us.length<=33) (op:List (List Int)):∃sK sB sP:List PySem.Str,sK.Perm (us.map aV)/\(ofString "e"::sK.map (ofString "{"++·)).Pairwise be/\(sB.map aS).Pairwise be/\(sP.map fun u=>(bN u).1).Pairwise be/\TDok ⟨us.filter (cJ op),us,sP,sB⟩:=by
 have Lz:(us.map aV).Nodup:=by
  rw [List.nodup_iff_pairwise_ne,List.pairwise_map];exact (List.nodup_iff_pairwise_ne.mp hn).imp fun h e=>h (gu e)
 have SJ:((us.filter (cJ op)).map aV).Nodup:=by
  rw [List.nodup_iff_pairwise_ne,List.pairwise_map];exact (List.nodup_iff_pairwise_ne.mp (hn.filter _)).imp fun h e=>h (gu e)
 obtain ⟨sK,k1,k2⟩:=kQ (fun u=>ofString "{"++u) _ Lz fun a _ b _ e=>by
  have:=congrArg cl e;rw [bF,bF] at this;exact ed (List.append_cancel_left this)
 obtain ⟨sB,b1,b2⟩:=kQ (fun u=>u++ofString "}") _ Lz fun a _ b _ e=>by
  have:=congrArg cl e;rw [bF,bF] at this;exact ed (List.append_cancel_right this)
 obtain ⟨sP,p1,p2⟩:=kQ aH _ SJ fun a h1 b h2 e=>by
  refine am (aP h1) fun p aj=>?_;refine ak aj fun hp aZ=>?_;subst aZ;refine am (aP h2) fun q aj=>?_;refine ak aj fun hq aZ=>?_;subst aZ;have l1:=dm (ha p (List.mem_filter.mp hp).1);have l2:=dm (ha q (List.mem_filter.mp hq).1);exact jf (fo l1) (fo l2) e
 refine ⟨sK,sB,sP,k1,?_,?_,?_,p1,p2,b1,b2,hl,Nat.le_trans (List.length_filter_le _ _) hl.2,ha,fun p hp=>ha p (List.mem_filter.mp hp).1⟩
 ·rw [List.pairwise_cons]
  refine ⟨fun x hx=>?_,k2⟩;refine am (aP hx) fun u aj=>?_;refine ak aj fun _ aZ=>?_;subst aZ;rw [ng,bF];exact .rel (by decide)
 ·have hb:∀u∈sB,125∉cl u:=fun u hu=>by
   refine am (aP (b1.mem_iff.mp hu)) fun p aj=>?_;refine ak aj fun _ aZ=>?_;subst aZ;exact jg (db p) rfl
  rw [List.pairwise_map] at b2 ⊢;exact b2.imp_of_mem fun h1 h2 h=>xl (hb _ h1) (hb _ h2) h
 ·rw [List.pairwise_map] at p2 ⊢
  exact p2.imp fun h=>xk (ofString "xmlns:") h
theorem Ix (us:List Int):ofString "{http://www.w3.org/XML/1998/namespace}space"∉(us.map aV).map aS:=by
 intro h;rw [List.map_map] at h;refine am (aP h) fun p aj=>?_;refine ak aj fun _ e=>?_;have h1:=congrArg (fun x=>(cl x).getLast?) e
 have h2:cl (aS (aV p))=(123::(cl (aV p)++[125]))++[107]:=by
  show cl (ofString "{"++aV p++ofString "}k")=_;rw [bF,bF,show cl (ofString "{")=[123] from rfl,show cl (ofString "}k")=[125,107] from rfl];simp
 simp only [Function.comp] at h1
 have h3:(cl (ofString "{http://www.w3.org/XML/1998/namespace}space")).getLast?=some 101:=by decide+kernel
 rw [h2,List.getLast?_append,h3] at h1
 cases h1
end
noncomputable abbrev NR:=List (Addr×List Value×Nat)
noncomputable def bM (R:NR):ax:=R.map fun r=>(r.1,listOf r.2.1.toArray r.2.2)
noncomputable def ch (R:NR):List Nat:=R.map (·.1)
noncomputable def gb (R:NR):bk:=R.map fun r=>(r.1,r.2.1.toArray)
noncomputable def dN (R:NR):List Value:=R.map fun r=>Value.ref r.1
theorem sp (R:NR):bc (gb R)=dN R:=by simp [bc,gb,dN]
theorem gf (R:NR):(bM R).map (·.1)=ch R:=by simp [bM,ch]
theorem sr (R R':NR):bM (R++R')=bM R++bM R':=List.map_append ..
theorem jk (R R':NR):ch (R++R')=ch R++ch R':=List.map_append ..
theorem sq (R R':NR):dN (R++R')=dN R++dN R':=List.map_append ..
noncomputable def NROk (led:ax):NR->List (List (Str×Str))->Prop
 |[],[]=>True
 |r::rs,v::vs=>PairsLed led r.2.1 v/\NROk led rs vs
 |_,_=>False
theorem NROk.mono {led dq:ax} (hs:∀p∈led,p∈dq):∀{R:NR} {vs},NROk led R vs->NROk dq R vs
 |[],[],_=>trivial
 |_::_,_::_,h=>⟨h.1.mono hs,NROk.mono hs h.2⟩
 |[],_::_,h=>h.elim
 |_::_,[],h=>h.elim
theorem NROk.len {led:ax}:∀{R:NR} {vs},NROk led R vs->R.length=vs.length
 |[],[],_=>rfl
 |_::_,_::_,h=>congrArg (·+1) (NROk.len h.2)
 |[],_::_,h=>h.elim
 |_::_,[],h=>h.elim
theorem NROk.take {led:ax}:∀{R:NR} {vs} (k:Nat),NROk led R vs->NROk led (R.take k) (vs.take k)
 |_,_,0,_=>trivial
 |[],[],_+1,_=>trivial
 |_::_,_::_,k+1,h=>⟨h.1,NROk.take k h.2⟩
 |[],_::_,_,h=>h.elim
 |_::_,[],_,h=>h.elim
theorem NROk.snoc {led:ax} {r:Addr×List Value×Nat} {v:List (Str×Str)} (hp:PairsLed led r.2.1 v):∀{R:NR} {vs},NROk led R vs->NROk led (R++[r]) (vs++[v])
 |[],[],_=>⟨hp,trivial⟩
 |_::_,_::_,h=>⟨h.1,NROk.snoc hp h.2⟩
 |[],_::_,h=>h.elim
 |_::_,[],h=>h.elim
theorem NROk.last {led:ax} {r:Addr×List Value×Nat} {v:List (Str×Str)}:∀{R:NR} {vs},NROk led (R++[r]) (vs++[v])->NROk led R vs/\PairsLed led r.2.1 v
 |[],[],h=>⟨trivial,h.1⟩
 |_::_,_::_,h=>⟨⟨h.1,(NROk.last h.2).1⟩,(NROk.last h.2).2⟩
 |[],a::vs,h=>by
  have:=NROk.len h;simp at this
 |a::R,[],h=>by
  have:=NROk.len h;simp at this
theorem NROk.rows {led dq:ax} (hs:∀p∈led,p∈dq):∀{R:NR} {vs},(∀p∈bM R,p∈dq)->NROk led R vs->RowsLed dq (gb R) vs
 |[],[],_,_=>trivial
 |r::_,_::_,hn,h=>⟨⟨⟨r.2.2,hn _ (.head _)⟩,by
   show PairsLed dq r.2.1.toArray.toList _
   exact h.1.mono hs⟩,NROk.rows hs (fun p hp=>hn p (.tail _ hp)) h.2⟩
 |[],_::_,_,h=>h.elim
 |_::_,[],_,h=>h.elim
noncomputable def ToldL (led:ax) (vs:List Value) (ts:List TD):Prop:=vs.length=ts.length/\∀(i:Nat) t,ts[i]?=some t->∃tt ll ul rl vl vu vr k1 k2 k3 x,vs[i]?=some (.ref tt)/\(tt,aO [Value.ref ll, .ref ul, .ref rl, .str t.text x])∈led/\
 ((ll,listOf (List.toArray vl) k1)∈led/\IntsAre vl t.laid)/\((ul,listOf (List.toArray vu) k2)∈led/\IntsAre vu t.used)/\((rl,listOf (List.toArray vr) k3)∈led/\StrsAre vr t.row)
theorem ToldL.mono {led dq:ax} {vs:List Value} {ts:List TD} (h:ToldL led vs ts) (hs:∀p∈led,p∈dq):ToldL dq vs ts:=⟨h.1,fun i t ht=>by
 refine fV (h.2 i t ht) fun tt ll ul rl vl vu vr k1 aj=>?_;refine aW aj fun k2 k3 x aZ=>?_;clear aj;refine bv aZ fun e a b c d=>?_;clear aZ
 exact ⟨tt,ll,ul,rl,vl,vu,vr,k1,k2,k3,x,e,hs _ a,⟨hs _ b.1,b.2⟩,⟨hs _ c.1,c.2⟩,⟨hs _ d.1,d.2⟩⟩⟩
theorem tz {α:Type} {l:List α} {a b:α} {i:Nat} (h:(l++[a])[i]?=some b):(i<l.length/\l[i]?=some b)\/(i=l.length/\a=b):=by
 by_cases hi:i<l.length
 ·rw [List.getElem?_append_left hi] at h;exact .inl ⟨hi,h⟩
 ·rw [List.getElem?_append_right (q5 hi)] at h
  have h1:=(List.getElem?_eq_some_iff.mp h).1;simp at h1
  have h2:i - l.length=0:=by exact q6 h1
  rw [h2] at h;exact .inr ⟨by exact qO h1 hi,Option.some.inj h⟩
theorem ToldL.snoc {led:ax} {vs:List Value} {ts:List TD} {t:TD} {tt ll ul rl:Addr} {vl vu vr:List Value} {k1 k2 k3:Nat} {x:Tok} (h:ToldL led vs ts) (a:(tt,aO [Value.ref ll, .ref ul, .ref rl, .str t.text x])∈led) (b:(ll,listOf (List.toArray vl) k1)∈led/\IntsAre vl t.laid) (c:(ul,listOf (List.toArray vu) k2)∈led/\IntsAre vu t.used) (d:(rl,listOf (List.toArray vr) k3)∈led/\StrsAre vr t.row):
  ToldL led (vs++[Value.ref tt]) (ts++[t]):=by
 refine ⟨by rw [List.length_append,List.length_append,h.1];rfl,fun i t' ht=>?_⟩
 rcases tz ht with ⟨hi,e⟩|⟨hi,rfl⟩
 ·refine am (h.2 i t' e) fun tt' z=>?_
  rw [List.getElem?_append_left (by rw [h.1];exact hi)];exact ⟨tt',z⟩
 ·refine ⟨tt,ll,ul,rl,vl,vu,vr,k1,k2,k3,x,?_,a,b,c,d⟩
  rw [List.getElem?_append_right (by rw [h.1];exact ny hi),h.1,hi,Nat.sub_self];rfl
theorem IntRows.mono {led dq:ax} {vs:List Value} {il:List (List Int)} (h:IntRows led vs il) (hs:∀p∈led,p∈dq):IntRows dq vs il:=⟨h.1,fun i ns hi=>by
 refine aW (h.2 i ns hi) fun a v k aj=>?_;refine aI aj fun e m n=>?_;clear aj
 exact ⟨a,v,k,e,hs _ m,n⟩⟩
theorem IntRows.take {led:ax} {vs:List Value} {il:List (List Int)} (h:IntRows led vs il) (k:Nat):IntRows led (vs.take k) (il.take k):=⟨by rw [List.length_take,List.length_take,h.1],fun i ns hi=>by
 rw [List.getElem?_take] at hi ⊢
 split at hi
 ·rename_i TV
  rw [if_pos TV];exact h.2 i ns hi
 ·cases hi⟩
theorem IntRows.snoc {led:ax} {vs:List Value} {il:List (List Int)} {a:Addr} {v:List Value} {k:Nat} {ns:List Int} (h:IntRows led vs il) (hm:(a,listOf (List.toArray v) k)∈led) (hi:IntsAre v ns):IntRows led (vs++[Value.ref a]) (il++[ns]):=by
 refine ⟨by rw [List.length_append,List.length_append,h.1];rfl,fun i x hx=>?_⟩
 rcases tz hx with ⟨h1,e⟩|⟨h1,rfl⟩
 ·rw [List.getElem?_append_left (by rw [h.1];exact h1)]
  exact h.2 i x e
 ·refine ⟨a,v,k,?_,hm,hi⟩
  rw [List.getElem?_append_right (by rw [h.1];exact ny h1),h.1,h1,Nat.sub_self];rfl
noncomputable abbrev pk (F:List Nat) (idx:List Nat):List Nat:=idx.map fun i=>F.getD i 0
theorem EY {F:List Nat} {n:Nat} (hn:F.length=n) (idx:List Nat) (h:∀i,i<n->i∈idx):∀a∈F,a∈pk F idx:=fun a ha=>by
 refine fh (List.getElem_of_mem ha) fun i hi aj=>?_;subst aj;exact List.mem_map.mpr ⟨i,h i (hn▸hi),by simp [hi]⟩
theorem lk {F:List Nat} {idx:List Nat} (h:∀i∈idx,i<F.length):∀a∈pk F idx,a∈F:=fun a ha=>by
 refine am (aP ha) fun i aj=>?_;refine ak aj fun hi aZ=>?_;clear aj;subst aZ;rw [List.getD_eq_getElem?_getD,List.getElem?_eq_getElem (h i hi)];exact List.getElem_mem _
theorem Fc {l:List Nat} (h:l.Nodup) {i j:Nat} (hi:i<l.length) (hj:j<l.length) (e:l[i]=l[j]):i=j:=by
 rw [List.nodup_iff_pairwise_ne,List.pairwise_iff_getElem] at h
 rcases Nat.lt_trichotomy i j with q|q|q
 ·exact absurd e (h i j hi hj q)
 ·exact q
 ·exact absurd e.symm (h j i hj hi q)
theorem ig {F:List Nat} {n:Nat} (hF:F.Nodup) (hn:F.length=n) (i j:Nat) (iF:i≠j) (hi:i<n) (hj:j<n): @Ne Nat (F.getD i 0) (F.getD j 0):=by
 subst hn;intro e;simp only [List.getD_eq_getElem?_getD,List.getElem?_eq_getElem hi,List.getElem?_eq_getElem hj,Option.getD_some] at e;exact iF (Fc hF hi hj e)
theorem gz {F:List Nat} {n:Nat} (hF:F.Nodup) (hn:F.length=n) (idx:List Nat) (hi:idx.Nodup) (h:∀i∈idx,i<n):(pk F idx).Nodup:=by
 rw [List.nodup_iff_pairwise_ne] at hi ⊢;rw [List.pairwise_map];exact hi.imp_of_mem fun {i j} a b dR e=>ig hF hn i j dR (h i a) (h j b) e
theorem EX {F:List Nat} {n:Nat} (hF:F.Nodup) (hn:F.length=n) (ia:List Nat) (ha:∀i∈ia,i<n) (ib:List Nat) (hb:∀i∈ib,i<n) (hd:∀i∈ib,i∉ia) {led tail:ax} (hl:led.map (·.1)=pk F ib) (ht:∀r∈tail,r.1∉F):∀r∈led++tail,r.1∉pk F ia:=by
 intros r hr hm;refine Or.elim (aE hr) (fun hr=>?_) fun hr=>?_
 ·have h1:r.1∈pk F ib:=by rw [<-hl];exact List.mem_map_of_mem hr
  refine am (aP h1) fun i aj=>?_;refine ak aj fun hi e1=>?_;clear aj;refine am (aP hm) fun j aj=>?_;refine ak aj fun hj e2=>?_;clear aj;have dR:i≠j:=fun e=>hd i hi (by rw [e];exact hj);exact ig hF hn i j dR (hb i hi) (ha j hj) (e1.trans e2.symm)
 ·exact ht r hr (lk (fun i hi=>hn▸ha i hi) _ hm)
theorem Hz {e:Nat->Addr×Obj} (idx Ww:List Nat) {tail tail':ax} (h:∀i∈idx,i∈Ww) (ht:∀p∈tail,p∈tail'):∀p∈idx.map e++tail,p∈Ww.map e++tail':=fun p hp=>by
 refine Or.elim (aE hp) (fun hp=>?_) fun hp=>?_
 ·refine am (aP hp) fun i aj=>?_;refine ak aj fun hi aZ=>?_;clear aj;subst aZ
  exact aL _ (List.mem_map.mpr ⟨i,h i hi,rfl⟩)
 ·exact ay _ (ht p hp)
theorem gg {e:Nat->Addr×Obj} {F:List Nat} (he:∀i,(e i).1=F.getD i 0) {n:Nat} (hn:F.length=n) (idx:List Nat) {tail:ax} {a:Addr} (hz:∀z∈idx.map e++tail, @Ne Nat z.1 a) (hi:∀i,i<n->i∈idx):a∉F/\∀z∈tail, @Ne Nat z.1 a:=by
 refine ⟨fun h=>?_,fun z h=>hz z (ay _ h)⟩;refine am (aP (EY hn idx hi a h)) fun i aj=>?_;refine ak aj fun PT e2=>?_;clear aj;exact hz (e i) (aL _ (List.mem_map.mpr ⟨i,PT,rfl⟩)) ((he i).trans e2)
theorem ik {e:Nat->Addr×Obj} {F:List Nat} (he:∀i,(e i).1=F.getD i 0) {n:Nat} (hF:F.Nodup) (hn:F.length=n) (ia:List Nat) (ha:∀i∈ia,i<n) (ib:List Nat) (hb:∀i∈ib,i<n) (hd:∀i∈ib,i∉ia) {tail:ax} (ht:∀r∈tail,r.1∉F):∀r∈ib.map e++tail,r.1∉pk F ia:=
 EX hF hn ia ha ib hb hd (by rw [List.map_map];exact List.map_congr_left fun i _=>he i) ht
set_option genSizeOf false in
set_option genInjectivity false in
structure FXD where
 x:WS
 (W d pc du ar td D wl nl:Addr)
 (n1 kd kw kn:Nat)
 (vd vw vn:List Value)
 (oar ow:Obj)
set_option genSizeOf false in
set_option genInjectivity false in
structure TSD where
 n:WN
 (n2 n3 n4 n5 n6 n7 n8:Nat)
 rows:bk
 R:NR
 (nv pi its dus ars tds:List Value)
 (ok ou:Obj)
 tb:Array Value
 cT:Addr
 oT:Obj
 (imm ex:ax)
 op:List (List Int)
 (nws nvs:List (List (Str×Str)))
 (ps qs:List Str)
 ts:List TD
noncomputable def tD:FXD:=⟨⟨0,0,0,0,0,0,fun _=>0⟩,0,0,0,0,0,0,0,0,0,0,0,0,0,[],[],[],default,default⟩
noncomputable def qk:TSD:=⟨⟨0,false,false⟩,0,0,0,0,0,0,0,[],[],[],[],[],[],[],[],default,default,#[],0,default,[],[],[],[],[],[],[],[]⟩
noncomputable abbrev cO (L:Addr) (f:FXD) (cT:Addr):List Nat:=[f.W,f.d,f.x.data,f.x.nss,f.x.decl,f.x.pres,f.x.write,f.pc,f.du,f.ar,L+1+1+1,L+1+1+1+1,f.D,L+1+1,L+1+1+1+1+1,f.td,f.wl,f.nl,123,cT]
noncomputable def jy (P:Params) (f:FXD) (t:TSD):List Obj:=[instObj 150 f.d,dictOf (ci P f.x t.n.seen t.n.done) t.n.n,listOf #[] f.n1,listOf t.nv.toArray t.n2,listOf (bc t.rows).toArray t.n3,listOf t.pi.toArray t.n4,bT f.pc,listOf t.its.toArray t.n5,listOf t.dus.toArray t.n6,listOf t.ars.toArray t.n7,f.oar,t.ok,listOf f.vd.toArray f.kd,f.ow,t.ou,listOf t.tds.toArray t.n8,listOf f.vw.toArray f.kw,listOf f.vn.toArray f.kn,tabObj t.tb,t.oT]
noncomputable abbrev bH (L:Addr) (f:FXD) (t:TSD):List Nat:=cO L f t.cT++t.ex.map (·.1)
noncomputable def en (P:Params) (L:Addr) (f:FXD) (t:TSD) (i:Nat):Addr×Obj:=((bH L f t).getD i 0,(jy P f t++t.ex.map (·.2)).getD i (eC))
theorem dH (P:Params) (L:Addr) (f:FXD) (t:TSD) (i:Nat):(en P L f t i).1=(bH L f t).getD i 0:=rfl
theorem HA (P:Params) (L:Addr) (f:FXD) (t:TSD) (Yw:ax) {i:Nat} (hi:i<20):en P L f t i=en P L f {t with ex:=Yw} i:=by
 have h1:∀ex:List Nat,(cO L f t.cT++ex).getD i 0=(cO L f t.cT).getD i 0:=fun ex=>by
  rw [List.getD_eq_getElem?_getD,List.getElem?_append_left hi,<-List.getD_eq_getElem?_getD]
 have h2:∀ex:List Obj,(jy P f t++ex).getD i (eC)=(jy P f t).getD i (eC):=fun ex=>by
  rw [List.getD_eq_getElem?_getD,List.getElem?_append_left hi,<-List.getD_eq_getElem?_getD]
 unfold en bH;show ((cO L f t.cT++_).getD i 0,(jy P f t++_).getD i (eC))=((cO L f t.cT++_).getD i 0,(jy P f t++_).getD i (eC));rw [h1,h1,h2,h2]
noncomputable abbrev all20:List Nat:=[0,1,2,3,4,5,6,7,8,9,10,11,12,13,14,15,16,17,18,19]
structure FOk (f:FXD) (ds:List Int) (low:Int):Prop where
 hoa:f.oar.data= .cell (some (.ref f.ar))
 how:f.ow.data= .cell (some (.ref f.wl))
 hD:IntsAre f.vd ds
 hN:IntsAre f.vn (ds.map (bY low))
 len:ds.length<=6
 dz:∀z∈ds,z.natAbs<2 ^ 64
 nz:∀z∈ds,(bY low z).natAbs<2 ^ 92
structure MOk (f:FXD) (m:Str->Option Value):Prop where
 mW:m (ofString "writer")=some (.ref f.W)
 mU:m (ofString "due")=some (.ref f.du)
 mD:m (ofString "deeds")=some (.ref f.D)
 mN:m (ofString "numbers")=some (.ref f.nl)
 mP:m (ofString "pieces")=some (.ref f.pc)
 mT:m (ofString "told")=some (.ref f.td)
theorem MOk.upd {f:FXD} {m m':Str->Option Value} (h:MOk f m) (y:Str) (hy:y∉([ofString "writer",ofString "due",ofString "deeds",ofString "numbers",ofString "pieces",ofString "told"]:List Str)) (he:∀z,z≠y->m' z=m z):MOk f m':=by
 simp only [List.mem_cons,List.not_mem_nil,or_false,not_or] at hy;refine dI hy fun a b c d e g=>?_;clear hy;exact ⟨(he _ (Ne.symm a)).trans h.mW,(he _ (Ne.symm b)).trans h.mU,(he _ (Ne.symm c)).trans h.mD,(he _ (Ne.symm d)).trans h.mN,(he _ (Ne.symm e)).trans h.mP,(he _ (Ne.symm g)).trans h.mT⟩
structure TOk (K:ax) (L:Addr) (f:FXD) (ds:List Int) (low:Int) (j:Nat) (kv:Option Value) (t:TSD):Prop where
 keep:∀q∈K,q∈t.imm
 sok:SOk (10+66*j) j t.op t.nws t.nvs
 pok:POk (8*j) t.ps t.qs
 tok:∀d∈t.ts,TDok d
 tl:t.ts.length=j
 rows:RowsLed t.imm t.rows t.nws
 nr:NROk t.imm t.R t.nvs
 nv:t.nv=dN t.R
 pil:t.pi.length=t.op.length+1
 its:StrsAre t.its t.ps
 dus:StrsAre t.dus t.qs
 ars:IntRows t.imm t.ars t.op
 tds:ToldL t.imm t.tds t.ts
 ok:t.ok.data= .cell kv
 ou:∃v,t.ou.data= .cell v
 lam:LamTab eT eS t.tb t.cT t.oT
 ex:t.ex=[]
 nod:(cO L f t.cT++ch t.R).Nodup
 dis:∀r∈t.imm,r.1∉cO L f t.cT++ch t.R
 wr:WordRows t.imm f.vw (ds.map fun x=>bR (bY low x))
noncomputable def ee (P:Params) (L:Addr) (f:FXD) (t:TSD):ax:=all20.map (en P L f t)++(bM t.R++t.imm)
theorem kL {I:Addr} {oI:Obj} {R:NR} {imm:ax} {F:List Nat} (hI:I∉F) (hR:∀a∈ch R,a∉F) (hi:∀r∈imm,r.1∉F):∀r∈(I,oI)::(bM R++imm),r.1∉F:=by
 intro r hr
 rcases aB hr with rfl|hr
 ·exact hI
 ·refine Or.elim (aE hr) (fun hr=>?_) fun hr=>?_
  ·exact hR r.1 (by rw [<-gf];exact List.mem_map_of_mem hr)
  ·exact hi r hr
noncomputable abbrev jz (L:Addr) (f:FXD):List Nat:=[f.W,f.d,f.x.data,f.x.nss,f.x.decl,f.x.pres,f.x.write,f.pc,f.du,f.ar,L+1+1+1,L+1+1+1+1,f.D,L+1+1,L+1+1+1+1+1,f.td,f.wl,f.nl,123]
theorem Fd {F:List Nat} {c c' q:Nat} {A:List Nat} (h:((F++[c])++A).Nodup) (hc:c'=c\/(c'∉F++[c]/\c'∉A)) (hq:q∉F++[c]) (hqA:q∉A) (Sw:c'≠q):((F++[c'])++(A++[q])).Nodup:=by
 simp only [List.nodup_append,List.mem_append,List.mem_singleton,not_or,List.nodup_cons,List.not_mem_nil,not_false_eq_true,true_and,List.nodup_nil,and_true] at h hc hq ⊢;refine aI h fun aj h3 h4=>?_;clear h;refine ak aj fun h1 h2=>?_;clear aj
 have c1:c'∉F:=by
  rcases hc with rfl|hc
  ·exact fun q=>h2 _ q _ rfl rfl
  ·exact hc.1.1
 have c2:c'∉A:=by
  rcases hc with rfl|hc
  ·exact fun q=>h4 _ (.inr rfl) _ q rfl
  ·exact hc.2
 refine ⟨⟨h1,fun a ha b hb e=>c1 (by rw [<-hb,<-e];exact ha)⟩,⟨h3,fun a ha b hb e=>hqA (by rw [<-hb,<-e];exact ha)⟩,?_⟩
 rintro a (ha|rfl) b (hb|rfl)
 ·exact h4 a (.inl ha) b hb
 ·exact fun e=>hq.1 (by rw [<-e];exact ha)
 ·exact fun e=>c2 (by rw [e];exact hb)
 ·exact Sw
theorem oJ {F:List Nat} {c c' q a:Nat} {A:List Nat} (h:a∉(F++[c])++A) (hc:a≠c') (hq:a≠q):a∉(F++[c'])++(A++[q]):=by
 simp only [List.mem_append,List.mem_singleton,not_or] at h ⊢;exact ⟨⟨h.1.1,hc⟩,h.2,hq⟩
theorem nu {e:Nat->Addr×Obj} {g h:Heap} {L:Addr} (A B A' B':List Nat) {X tail:ax} (N:News g L h (A.map e++(X++(B.map e++tail)))) (hs:∀i∈A'++B',i∈A++B):News g L h (A'.map e++(X++(B'.map e++tail))):=by
 have key:∀i∈A'++B',e i∈A.map e++(X++(B.map e++tail)):=fun i hi=>by
  refine Or.elim (aE (hs i hi)) (fun h=>?_) fun h=>?_
  ·exact aL _ (List.mem_map_of_mem h)
  ·exact ay _ (ay _ (aL _ (List.mem_map_of_mem h)))
 refine bf N fun q hq=>?_;refine Or.elim (aE hq) (fun h=>?_) fun h=>?_
 ·refine am (aP h) fun i aj=>?_;refine ak aj fun hi aZ=>?_;clear aj;subst aZ
  exact key i (aL _ hi)
 ·refine Or.elim (aE h) (fun h=>?_) fun h=>?_
  ·exact ay _ (aL _ h)
  ·refine Or.elim (aE h) (fun h=>?_) fun h=>?_
   ·refine am (aP h) fun i aj=>?_;refine ak aj fun hi aZ=>?_;clear aj;subst aZ
    exact key i (ay _ hi)
   ·exact ay _ (ay _ (ay _ h))
theorem tX (P:Params) (L:Addr) (f:FXD) (t:TSD):[8,9,10,12,14,15,17].map (en P L f t)=[(f.du,listOf t.dus.toArray t.n6),(f.ar,listOf t.ars.toArray t.n7),(L+1+1+1,f.oar),(f.D,listOf f.vd.toArray f.kd),(L+1+1+1+1+1,t.ou),(f.td,listOf t.tds.toArray t.n8),(f.nl,listOf f.vn.toArray f.kn)]:=rfl
theorem HE (P:Params) (L:Addr) (f:FXD) (t:TSD) (n:WN) (n2 n3 n4 n5:Nat) (rows:bk) (R:NR) (nv pi its:List Value) (tb:Array Value) (cT:Addr) (oT:Obj) (imm:ax):[8,9,10,12,14,15,17].map (en P L f t)=[8,9,10,12,14,15,17].map (en P L f {t with n:=n,n2:=n2,n3:=n3,n4:=n4,n5:=n5,rows:=rows,R:=R,nv:=nv,pi:=pi,its:=its,tb:=tb,cT:=cT,oT:=oT,imm:=imm}):=by rw [tX,tX]
theorem tW (P:Params) (L:Addr) (f:FXD) (t:TSD):[0,1,2,3,4,5,6,7,8,9,10,12,15,18,19].map (en P L f t)=[(f.W,instObj 150 f.d),(f.d,dictOf (ci P f.x t.n.seen t.n.done) t.n.n),(f.x.data,listOf #[] f.n1),(f.x.nss,listOf t.nv.toArray t.n2),(f.x.decl,listOf (bc t.rows).toArray t.n3),(f.x.pres,listOf t.pi.toArray t.n4),(f.x.write,bT f.pc),(f.pc,listOf t.its.toArray t.n5),(f.du,listOf t.dus.toArray t.n6),(f.ar,listOf t.ars.toArray t.n7),(L+1+1+1,f.oar),(f.D,listOf f.vd.toArray f.kd),(f.td,listOf t.tds.toArray t.n8),(123,tabObj t.tb),(t.cT,t.oT)]:=rfl
theorem HD (P:Params) (L:Addr) (f:FXD) (t:TSD) (ou:Obj):[0,1,2,3,4,5,6,7,8,9,10,12,15,18,19].map (en P L f t)=[0,1,2,3,4,5,6,7,8,9,10,12,15,18,19].map (en P L f {t with ou:=ou}):=by rw [tW,tW]
theorem tV (P:Params) (L:Addr) (f:FXD) (t:TSD):[0,1,2,3,4,5,6,11,12,13,16,17,18,19].map (en P L f t)=[(f.W,instObj 150 f.d),(f.d,dictOf (ci P f.x t.n.seen t.n.done) t.n.n),(f.x.data,listOf #[] f.n1),(f.x.nss,listOf t.nv.toArray t.n2),(f.x.decl,listOf (bc t.rows).toArray t.n3),(f.x.pres,listOf t.pi.toArray t.n4),(f.x.write,bT f.pc),(L+1+1+1+1,t.ok),(f.D,listOf f.vd.toArray f.kd),(L+1+1,f.ow),(f.wl,listOf f.vw.toArray f.kw),(f.nl,listOf f.vn.toArray f.kn),(123,tabObj t.tb),(t.cT,t.oT)]:=rfl
theorem HC (P:Params) (L:Addr) (f:FXD) (t:TSD) (dus ars tds:List Value) (n6 n7 n8:Nat) (imm:ax) (op:List (List Int)) (nws nvs:List (List (Str×Str))) (ps qs:List Str) (ts:List TD):[0,1,2,3,4,5,6,11,12,13,16,17,18,19].map (en P L f t)=[0,1,2,3,4,5,6,11,12,13,16,17,18,19].map (en P L f {t with dus:=dus,ars:=ars,tds:=tds,n6:=n6,n7:=n7,n8:=n8,imm:=imm,op:=op,nws:=nws,nvs:=nvs,ps:=ps,qs:=qs,ts:=ts}):=by rw [tV,tV]
theorem Ku (P:Params) (L:Addr) (f:FXD) (t:TSD):[0,1,2,3,4,5,6,7,8,9,10,11,12,13,14,15,16,17,18,19].map (en P L f t)=[(f.W,instObj 150 f.d),(f.d,dictOf (ci P f.x t.n.seen t.n.done) t.n.n),(f.x.data,listOf #[] f.n1),(f.x.nss,listOf t.nv.toArray t.n2),(f.x.decl,listOf (bc t.rows).toArray t.n3),(f.x.pres,listOf t.pi.toArray t.n4),(f.x.write,bT f.pc),(f.pc,listOf t.its.toArray t.n5),(f.du,listOf t.dus.toArray t.n6),(f.ar,listOf t.ars.toArray t.n7),(L+1+1+1,f.oar),(L+1+1+1+1,t.ok),(f.D,listOf f.vd.toArray f.kd),(L+1+1,f.ow),(L+1+1+1+1+1,t.ou),(f.td,listOf t.tds.toArray t.n8),(f.wl,listOf f.vw.toArray f.kw),(f.nl,listOf f.vn.toArray f.kn),(123,tabObj t.tb),(t.cT,t.oT)]:=rfl
theorem oR {e:Nat->Addr×Obj} {F:List Nat} (he:∀i,(e i).1=F.getD i 0) {n:Nat} (hn:F.length=n) (A B:List Nat) {X tail:ax} {a:Addr} (hz:∀z∈A.map e++(X++(B.map e++tail)), @Ne Nat z.1 a) (hi:∀i,i<n->i∈A++B):a∉F/\(∀z∈X, @Ne Nat z.1 a)/\∀z∈tail, @Ne Nat z.1 a:=by
 have h:=gg he hn (A++B) (tail:=X++tail) (a:=a) (fun z h=>hz z (by
  rw [List.map_append] at h;simp only [List.mem_append] at h ⊢
  rcases h with (h|h)|h|h
  ·exact .inl h
  ·exact .inr (.inr (.inl h))
  ·exact .inr (.inl h)
  ·exact .inr (.inr (.inr h)))) hi
 exact ⟨h.1,fun z hz=>h.2 z (aL _ hz),fun z hz=>h.2 z (ay _ hz)⟩
theorem Jp {g h:Heap} {L:Addr} {led ex:ax} (N:News g L h led) (hs:∀p∈ex,p∈led):News g L h (ex++led):=fun p hp=>(aE hp).elim (fun h=>N p (hs p h)) (N p)
noncomputable def jQ (K:ax) (f:FXD) (t:TSD) (ds:List Int) (low:Int) (j:Nat) (tk:Tok) (I:Addr) (oI:Obj):Prop:=HO w fun qual body scope=>∀(B:Below callerA g [] g) (X:(hd.heap_39 w.params).In g) (T:Top p a_ bz mg mb g) (F:Fr g L s.heap m) (N:News g L s.heap ((I,oI)::ee w.params L f t)) (offI:∀r∈ee w.params L f t, @Ne Nat r.1 I) (ht:TOk K L f ds low j (some (.int (j:Nat) tk)) t) (hf:FOk f ds low) (hm:MOk f m) (hj:j<ds.length) (E_:CodeHd g 125 123) (h125:∃o,g.get? 125=some o) (bL:∀t' m' (s':Shared),TOk K L f ds low (j+1) (some (.int (j:Nat) tk)) t'->MOk f m'->Fr g L s'.heap m'->News g L s'.heap ((I,oI)::ee w.params L f t')->(∀r∈ee w.params L f t', @Ne Nat r.1 I)->aM s s'->Q .next s'),
 WX w qual scope L fa cd (cM (body.getD 9 (.Pass default))) Q E s
noncomputable def uU:=bA (gk jQ) ((bw,default,[],fun _=>none,fun _=>none,fun _=>none,{},0),(0, .none,fun _=>none,{},fun _ _=>True,fun _ _=>True,[],tD),(qk,[],0,0,0,0,default))
theorem wj:∀{w p a_ bz mg mb g L fa cd m s Q E K f t ds low j tk I oI},jQ w p a_ bz mg mb g L fa cd m s Q E K f t ds low j tk I oI:=by
 intros;apply fp jQ (c:=uU) rfl;apply (?zg:eZ jQ);intros w p a_ bz mg mb g L fa cd m s Q E K f t ds low j tk I oI;intros oc an name qual params body scope dV kV gF pm cA ct l_ z_ ho B X T F N offI ht hf hm hj E_ h125 bL;dsimp only [WX] at ⊢;have Ky:j<6:=Nat.lt_of_lt_of_le hj hf.len
 have Pm:(bH L f t).length=20:=by rw [List.length_append,ht.ex];rfl
 have hE:bH L f t=cO L f t.cT:=by unfold bH;rw [ht.ex];exact List.append_nil _
 have hF:(bH L f t).Nodup:=by rw [hE];exact (List.nodup_append.mp ht.nod).1
 have hRn:(ch t.R).Nodup:=(List.nodup_append.mp ht.nod).2.1;have V7:=(List.nodup_append.mp ht.nod).2.2;have KJ:=gg (dH w.params L f t) Pm all20 offI (by decide)
 have YL:∀a∈ch t.R,a≠I:=fun a ha=>by
  rw [<-gf] at ha;refine am (aP ha) fun z aj=>?_;refine ak aj fun hz aZ=>?_;subst aZ;exact KJ.2 z (aL _ hz)
 have Oo:∀r∈(I,oI)::(bM t.R++t.imm),r.1∉bH L f t:=kL KJ.1 (fun a ha h=>V7 a (by rw [<-hE];exact h) a ha rfl) fun r hr h=>ht.dis r hr (aL _ (by rw [<-hE];exact h));have rl:=ht.rows.len;have nl:=ht.nr.len;have al:=ht.ars.1;have sok:=ht.sok;have nw:=sok.nwl;have nv:=sok.nvl;have ol:=sok.opl;have ul:=sok.ulen (rS Ky);have pl:=ht.pok.pl;have ql:=ht.pok.ql;have il:=ht.its.length;have dl:=ht.dus.length
 have Rz:t.nv.length=t.R.length:=by rw [ht.nv];simp [dN]
 have R2:∀q∈t.imm,q∈[13,14,15,16,17,18,19].map (en w.params L f t)++((I,oI)::(bM t.R++t.imm)):=fun q hq=>ay _ (.tail _ (ay _ hq))
 refine xQ ho B X T (x:=f.x) (W:=f.W) (d:=f.d) (pc:=f.pc) (du:=f.du) (ar:=f.ar) (D:=f.D) (n:=t.n) (n1:=f.n1) (n2:=t.n2) (n3:=t.n3) (n4:=t.n4) (n5:=t.n5) (n6:=t.n6) (n7:=t.n7) (kd:=f.kd) (dep:=t.op.length) (rows:=t.rows) (nws:=t.nws) (ni:=t.nv) (pi:=t.pi) (its:=t.its) (dus:=t.dus) (ars:=t.ars) (vd:=f.vd) (oar:=f.oar) (ok:=t.ok) (tk:=tk) (ds:=ds) (j:=j) (ps:=t.ps) (qs:=t.qs) (rest:=[13,14,15,16,17,18,19].map (en w.params L f t)++((I,oI)::(bM t.R++t.imm)))
  F (bf N ?sub) hf.hoa ht.ok hm.mW hm.mU hm.mD hf.hD hj hf.len hf.dz (gz hF Pm [0,1,2,3,4,5,6,7,8,9] (by decide) (by decide)) (ik (dH w.params L f t) hF Pm [0,1,2,3,4,5,6,7,8,9] (by decide) [10,11,12,13,14,15,16,17,18,19] (by decide) (by decide) Oo)
  (ht.rows.mono R2) (rR nw rl) (rQ nv nl Rz) (by have:=ht.pil;exact og this) (rP al) (EM Ky ol) (rO Ky il pl) (rO Ky dl ql) ht.its ht.dus sok.ne (rN ul) ?_
 case sub=>
  have:=Hz (e:=en w.params L f t) all20 all20 (tail:=(I,oI)::(bM t.R++t.imm)) (tail':=(I,oI)::(bM t.R++t.imm)) (fun _ h=>h) (fun _ h=>h);intro q hq;have h2:=this q hq;refine Or.elim (aE h2) (fun h=>?_) fun h=>?_
  ·exact .tail _ (aL _ h)
  ·rcases aB h with rfl|h
   ·exact .head _
   ·exact .tail _ (ay _ h)
 intros c b_ m1 n' b WE VW Wl SP Sl Uc M5 PO s1 hc M3 hm1 QI R8 F1 N1 S1
 have hd:b_<=t.op.length:=by exact EL hc
 have Qg:t.R.length=t.op.length+2:=by exact EK nv nl
 have eR:t.R.take (b_+1+1)=t.R.take (b_+1)++[t.R[b_+1]'(gx Qg hd)]:=fi (gx Qg hd);have eV:t.nvs.take (b_+1+1)=t.nvs.take (b_+1)++[t.nvs[b_+1]'(gx nv hd)]:=fi (gx nv hd);have eP:t.pi.take (b_+1)=t.pi.take b_++[t.pi[b_]'(by have:=ht.pil;exact oe this hd)]:=fi (by have:=ht.pil;exact oe this hd)
 have eN:t.nv.take (b_+2)=dN (t.R.take (b_+1))++[Value.ref (t.R[b_+1]'(gx Qg hd)).1]:=by
  rw [ht.nv];show List.take (b_+1+1) (t.R.map _)=_;rw [<-List.map_take,eR,List.map_append];rfl
 have Mw:=sok.take hd;have QR:=ht.nr.take (b_+1+1);have Nf:∀q∈t.R.take (b_+1+1),q∈t.R:=fun q hq=>List.mem_of_mem_take hq
 have PB:(ch (t.R.take (b_+1+1))).Nodup:=by
  unfold ch;rw [List.map_take];exact List.Nodup.sublist (List.take_sublist _ _) hRn
 have Qa:=ht.rows.take (b_+1);have QL:=ht.ars.take b_;rw [eN,eP] at N1;rw [eR] at QR Nf PB;rw [eV] at QR;rw [show b_+2=b_+1+1 from rfl,eV] at Mw
 have pil:(t.pi.take b_).length=b_:=by rw [List.length_take];have:=ht.pil;exact EJ this hd
 have Vi:(t.rows.take (b_+1)).length=b_+1:=by rw [List.length_take];exact EI nw rl hd
 have RV:(t.op.take b_).length=b_:=by rw [List.length_take];exact EH hd
 generalize t.R[b_+1]'(gx Qg hd)=tr at N1 QR Nf PB;generalize t.nvs[b_+1]'(gx nv hd)=tv at QR Mw;generalize t.pi[b_]'(by have:=ht.pil;exact oe this hd)=pv at N1;generalize t.R.take (b_+1)=RI at N1 QR Nf PB;generalize t.nvs.take (b_+1)=VI at QR Mw;generalize t.pi.take b_=SM at N1 pil;generalize t.rows.take (b_+1)=Pc at N1 Qa Vi;generalize t.nws.take (b_+1)=Sb at Mw Qa;generalize t.op.take b_=Mi at Mw QL RV;generalize t.ars.take b_=R5 at N1 QL;clear eR eV eP eN;obtain ⟨top,tit,Qs⟩:=tr;refine ak QR.last fun Z9 hT=>?_;dsimp only at hT N1;let t1:TSD:={t with n:=⟨n',t.n.seen,b⟩,n2:=WE,n3:=VW,n4:=Wl,n5:=SP,n6:=Sl,n7:=Uc,rows:=Pc,R:=RI++[(top,tit,Qs)],nv:=dN RI++[Value.ref top],pi:=SM++[pv],its:=M5,dus:=PO,ars:=R5,ex:=[(top,listOf tit.toArray Qs)],op:=Mi,nws:=Sb,nvs:=VI++[tv]};have Yx:News g L s1.heap (all20.map (en w.params L f t1)++((I,oI)::(bM t.R++t.imm))):=N1;clear N1;have To:top∈ch t.R:=List.mem_map.mpr ⟨_,Nf (top,tit,Qs) (by exact ay _ (bJ 0 rfl)),rfl⟩
 have hRI:∀a∈ch RI,a∈ch t.R:=fun a ha=>by
  refine am (aP ha) fun r aj=>?_;refine ak aj fun hr aZ=>?_;subst aZ;exact List.mem_map.mpr ⟨r,Nf r (aL _ hr),rfl⟩
 have Sc:=PB;rw [jk] at Sc;have hRt:∀a∈ch RI,a≠top:=fun a ha=>(List.nodup_append.mp Sc).2.2 a ha top (.head _);have VT:(bH L f t1).length=21:=rfl;have XG:(bH L f t1).Nodup:=List.Nodup.sublist (List.Sublist.append (List.Sublist.refl _) (List.singleton_sublist.mpr To)) ht.nod
 have Td:∀a,a∉bH L f t->a≠top->a∉bH L f t1:=fun a h1 h2 h=>by
  refine Or.elim (aE h) (fun h=>?_) fun h=>?_
  ·exact h1 (aL _ h)
  ·exact h2 (br h)
 have Zc:∀r∈(I,oI)::(bM RI++t.imm),r.1∉bH L f t1:=kL (Td _ KJ.1 (Ne.symm (YL top To))) (fun a ha=>Td a (fun h=>V7 a (by rw [<-hE];exact h) a (hRI a ha) rfl) (hRt a ha)) fun r hr=>Td _ (fun h=>ht.dis r hr (aL _ (by rw [<-hE];exact h))) fun e=>ht.dis r hr (ay _ (by rw [e];exact To))
 have NB:News g L s1.heap ([0,1,2,3,20,13,11,12,16,4,5,6,7,8,9,10,14,15,17,18,19].map (en w.params L f t1)++((I,oI)::(bM RI++t.imm))):=bf Yx fun q hq=>by
  refine Or.elim (aE hq) (fun h=>?_) fun h=>?_
  ·refine am (aP h) fun i aj=>?_;refine ak aj fun hi aZ=>?_;subst aZ
   rcases (by decide:∀i∈[0,1,2,3,20,13,11,12,16,4,5,6,7,8,9,10,14,15,17,18,19],i=20\/i∈all20) i hi with rfl|h
   ·refine ay _ (.tail _ (aL _ ?_))
    exact List.mem_map.mpr ⟨_,Nf (top,tit,Qs) (by exact ay _ (bJ 0 rfl)),rfl⟩
   ·exact aL _ (List.mem_map.mpr ⟨i,h,rfl⟩)
  ·refine ay _ ?_
   rcases aB h with rfl|h
   ·exact .head _
   ·refine Or.elim (aE h) (fun h=>?_) fun h=>?_
    ·refine am (aP h) fun r aj=>?_;refine ak aj fun hr aZ=>?_;subst aZ
     exact .tail _ (aL _ (List.mem_map.mpr ⟨r,Nf r (aL _ hr),rfl⟩))
    ·exact .tail _ (ay _ h)
 have hwl:∀ws∈ds.map fun x=>bR (bY low x),ws.length<=33/\∀u∈ws,u.length<=60:=fun ws hw=>by
  refine am (aP hw) fun z aj=>?_;refine ak aj fun hz aZ=>?_;subst aZ;have Uk:=hf.nz z hz;refine ⟨?_,fun u hu=>?_⟩
  ·unfold bR;rw [List.length_map];exact (ls _).2
  ·refine am (mE hu) fun q aj=>?_;refine ak aj fun hq aZ=>?_;subst aZ
   exact dm (oF (Nat.lt_trans Uk (by decide)) q hq)
 refine xP ho B X T (x:=f.x) (W:=f.W) (d:=f.d) (top:=top) (D:=f.D) (wl:=f.wl) (n:=t1.n) (n1:=f.n1) (n2:=WE) (n3:=Qs) (kd:=f.kd) (kw:=f.kw) (iN:=dN RI) (tit:=tit) (vd:=f.vd) (vw:=f.vw) (ok:=t.ok) (ow:=f.ow) (tk:=tk) (j:=j) (wls:=ds.map fun x=>bR (bY low x)) (tus:=tv) (imm:=t.imm) (rest:=[4,5,6,7,8,9,10,14,15,17,18,19].map (en w.params L f t1)++((I,oI)::(bM RI++t.imm)))
  F1 NB hf.how ht.ok ((hm1 _ (by decide)).trans hm.mW) ((hm1 _ (by decide)).trans hm.mD) (by rw [List.length_map,hf.hD.length]) (by rw [List.length_map];exact hj) (by rw [List.length_map];exact hf.len) (ht.wr.mono fun q hq=>ay _ (.tail _ (ay _ hq)))
  (fun ws hw=>(hwl ws hw).1) (fun ws hw u hu=>Nat.le_trans ((hwl ws hw).2 u hu) (by decide)) (gz XG VT [0,1,2,3,20] (by decide) (by decide)) (ik (dH w.params L f t1) XG VT [0,1,2,3,20] (by decide) [13,11,12,16,4,5,6,7,8,9,10,14,15,17,18,19] (by decide) (by decide) Zc)
  hT (by have:=Mw.nvz tv (by simp);exact EG Ky this) ?_
 intros m2 XP u_ g_ tl s2 hm2 P4 RH F2 N2 S2;have So:MOk f m1:=hm.upd (ofString "turn") (by decide) hm1;have Wc:MOk f m2:=So.upd (ofString "word") (by decide) hm2;have UV:ds[j]?=some ds[j]:=List.getElem?_eq_getElem hj;have XV:=List.getElem_mem hj;generalize ds[j]=z at UV XV;have Rd:=hf.nz z XV;have OG:=oF (Nat.lt_trans Rd (by decide))
 have PQ:(ds.map fun x=>bR (bY low x))[j]?=some ((cL (bY low z)).map aV):=by rw [List.getElem?_map,UV];rfl
 have Z_:∀k,((ds.map fun x=>bR (bY low x)).getD k []).length<=33:=fun k=>by
  rw [List.getD_eq_getElem?_getD]
  cases hk:(ds.map fun x=>bR (bY low x))[k]? with
  |none=>exact Nat.zero_le _
  |some ws=>exact (hwl ws (List.mem_of_getElem? hk)).1
 have ZO:(ds.map fun x=>bR (bY low x)).getD j []=(cL (bY low z)).map aV:=by rw [List.getD_eq_getElem?_getD,PQ];rfl
 have X4:=Z_ ((j+1) % (ds.map fun x=>bR (bY low x)).length);rw [ZO] at P4;generalize (ds.map fun x=>bR (bY low x)).getD ((j+1) % (ds.map fun x=>bR (bY low x)).length) []=W1 at P4 X4;have Nc:=r9 (bY low z);have v_:=ls (bY low z);generalize eo:cL (bY low z)=us at PQ P4 OG Nc v_;have PM:=Mw.tell (X:=(W1++us.map aV).map fun u=>(u,aH u)) (fun pr hp=>by refine am (aP hp) fun u aj=>?_;refine ak aj fun _ aZ=>?_;subst aZ;rfl) (by rw [List.length_map,List.length_append,List.length_map];exact rM X4 v_.2);have UL:=PM.told (rS Ky) (us:=us) OG fun q hq=>⟨_,ay _ (.head _),(aV q,aH (aV q)),ay _ (List.mem_map.mpr ⟨aV q,ay _ (List.mem_map_of_mem hq),rfl⟩),rfl⟩;generalize ((W1++us.map aV).map fun u=>(u,aH u))=X1 at P4 PM UL;refine aW (E6 Nc OG v_ Mi) fun sK sB sP aj=>?_;refine bv aj fun k1 k2 b1 p1 Oi=>?_;have VX:NROk (tl++t.imm) (RI++[(top,g_,u_)]) (VI++[tv++X1]):=(Z9.mono fun q hq=>ay _ hq).snoc P4
 have VM:ch (RI++[(top,g_,u_)])=ch (RI++[(top,tit,Qs)]):=by simp [ch]
 have VQ:∀a∈ch (RI++[(top,tit,Qs)]),a∈ch t.R:=fun a ha=>by
  refine am (aP ha) fun r aj=>?_;refine ak aj fun hr aZ=>?_;subst aZ;exact List.mem_map.mpr ⟨r,Nf r hr,rfl⟩
 have env:dN RI++[Value.ref top]=bc (gb (RI++[(top,g_,u_)])):=by rw [sp,sq];rfl
 have Vj:(cO L f t.cT++ch (RI++[(top,g_,u_)])).Nodup:=by
  rw [VM];exact List.nodup_append.mpr ⟨by rw [<-hE];exact hF,PB,fun a ha b hb=>V7 a ha b (VQ b hb)⟩
 have hTL:∀r∈tl,r.1∉cO L f t.cT/\r.1∉ch (RI++[(top,g_,u_)])/\ @Ne Nat r.1 I:=fun r hr=>by
  refine aI (RH r hr) fun _ h1 h2=>?_
  obtain ⟨h3,h4⟩:=gg (dH w.params L f t1) VT [0,1,2,3,20,13,11,12,16,4,5,6,7,8,9,10,14,15,17,18,19] (tail:=(I,oI)::(bM RI++t.imm)) (a:=r.1) (fun z hz=>by
   refine Or.elim (aE (show z∈[0,1,2,3,20].map (en w.params L f t1)++([13,11,12,16,4,5,6,7,8,9,10,14,15,17,18,19].map (en w.params L f t1)++((I,oI)::(bM RI++t.imm))) from hz)) (fun h=>?_) fun h=>?_
   ·refine am (aP h) fun i aj=>?_;refine ak aj fun hi aZ=>?_;subst aZ
    intro e;exact h1 (show r.1∈pk (bH L f t1) [0,1,2,3,20] from List.mem_map.mpr ⟨i,hi,e⟩)
   ·exact h2 z h) (by decide)
  refine ⟨fun h=>h3 (aL _ h),fun h=>?_,Ne.symm (h4 (I,oI) (.head _))⟩;rw [jk] at h;refine Or.elim (aE h) (fun h=>?_) fun h=>?_
  ·rw [<-gf] at h
   refine am (aP h) fun z aj=>?_;refine ak aj fun hz e=>?_;exact h4 z (.tail _ (aL _ hz)) e
  ·exact h3 (ay _ h)
 have VN:∀r∈tl++t.imm,r.1∉cO L f t.cT++ch (RI++[(top,g_,u_)])/\ @Ne Nat r.1 I:=fun r hr=>by
  refine Or.elim (aE hr) (fun hr=>?_) fun hr=>?_
  ·refine aI (hTL r hr) fun h1 h2 h3=>?_
   exact ⟨fun h=>(aE h).elim h1 h2,h3⟩
  ·refine ⟨fun h=>ht.dis r hr ?_,KJ.2 r (ay _ hr)⟩
   refine Or.elim (aE h) (fun h=>?_) fun h=>?_
   ·exact aL _ h
   ·rw [VM] at h;exact ay _ (VQ _ h)
 let t2:TSD:={t1 with n2:=XP,R:=RI++[(top,g_,u_)],nv:=bc (gb (RI++[(top,g_,u_)])),imm:=tl++t.imm,nvs:=VI++[tv++X1],ex:=[]};let Xy:TSD:={t2 with ex:=[(top,listOf g_.toArray u_)]};rw [env] at N2;have Yv:News g L s2.heap ([0,1,2,3,20,13,11,12,16].map (en w.params L f Xy)++(tl++([4,5,6,7,8,9,10,14,15,17,18,19].map (en w.params L f Xy)++((I,oI)::(bM RI++t.imm))))):=N2;clear N2
 have NC:News g L s2.heap ([0,1,2,3,4,5,6,7,18,19,13,11,16,8,9,10,12,14,15,17].map (en w.params L f t2)++((I,oI)::(bM (RI++[(top,g_,u_)])++(tl++t.imm)))):=bf Yv fun q hq=>by
  refine Or.elim (aE hq) (fun h=>?_) fun h=>?_
  ·refine am (aP h) fun i aj=>?_;refine ak aj fun hi aZ=>?_;subst aZ
   rw [HA w.params L f t2 [(top,listOf g_.toArray u_)] ((by decide:∀i∈[0,1,2,3,4,5,6,7,18,19,13,11,16,8,9,10,12,14,15,17],i<20) i hi)];refine Or.elim ((by decide:∀i∈[0,1,2,3,4,5,6,7,18,19,13,11,16,8,9,10,12,14,15,17],i∈[0,1,2,3,20,13,11,12,16]\/i∈[4,5,6,7,8,9,10,14,15,17,18,19]) i hi) (fun h=>?_) fun h=>?_
   ·exact aL _ (List.mem_map.mpr ⟨i,h,rfl⟩)
   ·exact ay _ (ay _ (aL _ (List.mem_map.mpr ⟨i,h,rfl⟩)))
  ·rcases aB h with rfl|h
   ·exact ay _ (ay _ (ay _ (.head _)))
   ·refine Or.elim (aE h) (fun h=>?_) fun h=>?_
    ·rw [sr] at h
     refine Or.elim (aE h) (fun h=>?_) fun h=>?_
     ·exact ay _ (ay _ (ay _ (.tail _ (aL _ h))))
     ·rw [br h]
      exact aL _ (List.mem_map.mpr ⟨20,by decide,rfl⟩)
    ·refine Or.elim (aE h) (fun h=>?_) fun h=>?_
     ·exact ay _ (aL _ h)
     ·exact ay _ (ay _ (ay _ (.tail _ (ay _ h))))
 have Rh:bH L f t2=cO L f t.cT:=List.append_nil _;have PL:(bH L f t2).length=20:=rfl
 have Xr:(bH L f t2).Nodup:=by rw [Rh,<-hE];exact hF
 have YX:∀r∈(I,oI)::(bM (RI++[(top,g_,u_)])++(tl++t.imm)),r.1∉bH L f t2:=kL (by rw [Rh,<-hE];exact KJ.1) (fun a ha h=>(List.nodup_append.mp Vj).2.2 a (by rw [<-Rh];exact h) a ha rfl) fun r hr h=>(VN r hr).1 (aL _ (by rw [<-Rh];exact h))
 have Xi:125∉pk (bH L f t2) [0,1,2,3,4,5,6,7,18,19]:=fun h=>by
  refine am (aP h) fun i aj=>?_;refine ak aj fun hi e=>?_;have h1:=(NC (en w.params L f t2 i) (aL _ (List.mem_map.mpr ⟨i,(by decide:∀i∈[0,1,2,3,4,5,6,7,18,19],i∈[0,1,2,3,4,5,6,7,18,19,13,11,16,8,9,10,12,14,15,17]) i hi,rfl⟩))).2.2;refine am h125 fun o ho=>?_;clear h125;have h2:(en w.params L f t2 i).1=125:=e;rw [h2,ho] at h1
  cases h1
 have Tt:∀q∈(I,oI)::(bM (RI++[(top,g_,u_)])++(tl++t.imm)),q∈[8,9,10,12,14,15,17].map (en w.params L f t2)++((I,oI)::(bM (RI++[(top,g_,u_)])++(tl++t.imm))):=fun q hq=>ay _ hq;have Wt:∀q∈t.imm,q∈[8,9,10,12,14,15,17].map (en w.params L f t2)++((I,oI)::(bM (RI++[(top,g_,u_)])++(tl++t.imm))):=fun q hq=>Tt q (.tail _ (ay _ (ay _ hq)));have Zl:=VX.len;have ZL:=PM.nvl
 refine xO ho B X T (x:=f.x) (W:=f.W) (d:=f.d) (pc:=f.pc) (wl:=f.wl) (cT:=t.cT) (n:=t1.n) (n1:=f.n1) (n2:=XP) (n3:=VW) (n4:=Wl) (n5:=SP) (kw:=f.kw) (nrows:=gb (RI++[(top,g_,u_)])) (rows:=Pc) (nws:=Sb) (nvs:=VI++[tv++X1]) (pi:=SM) (pv:=pv) (its:=M5) (vw:=f.vw) (ow:=f.ow) (ok:=t.ok) (oT:=t.oT) (tk:=tk) (j:=j) (wls:=ds.map fun x=>bR (bY low x)) (ws:=us.map aV) (sK:=sK) (sB:=sB) (sP:=sP) (ps:=t.tb) (rest:=[8,9,10,12,14,15,17].map (en w.params L f t2)++((I,oI)::(bM (RI++[(top,g_,u_)])++(tl++t.imm))))
  F2 NC hf.how ht.ok Wc.mW Wc.mP PQ Ky (ht.wr.mono Wt) (gz Xr PL [0,1,2,3,4,5,6,7,18,19] (by decide) (by decide)) (ik (dH w.params L f t2) Xr PL [0,1,2,3,4,5,6,7,18,19] (by decide) [13,11,16,8,9,10,12,14,15,17] (by decide) (by decide) YX)
  (Qa.mono Wt) (VX.rows (fun q hq=>Tt q (.tail _ (ay _ hq))) (fun q hq=>Tt q (.tail _ (aL _ hq)))) E_ Xi ht.lam ?wn (by rw [List.length_map];exact v_) ?wok k1 k2 Oi.pB b1 (Oi.pP.trans (Mw.laid k1).symm) p1 (Ix us) ?il ?nl ?rl ?pl UL ?vz ?_
 case wn=>
  rw [List.nodup_iff_pairwise_ne,List.pairwise_map];exact (List.nodup_iff_pairwise_ne.mp Nc).imp fun h e=>h (gu e)
 case wok=>
  intro u hu;refine am (aP hu) fun q aj=>?_;refine ak aj fun hq aZ=>?_;subst aZ;exact p9 (OG q hq)
 case il=>have:=QI.length;rw [List.length_append,List.length_replicate] at this;exact EF hc Ky this pl ol
 case nl=>rw [gb,List.length_map];have:=PM.opl;exact EE Ky ZL Zl this
 case rl=>have:=Mw.opl;exact ED Ky Vi RV this
 case pl=>have:=Mw.opl;exact EC Ky pil RV this
 case vz=>exact fun nw hn=>Nat.le_trans (PM.nvz nw hn) (EB Ky)
 intros nn qa nC XW X9 YO Vh NT Ro ta tb tc items OO Xw fk LA s3 TS LH dR hnq ZH Sw hcn S3 F3 N3;have fn:=gg (dH w.params L f t2) PL [0,1,2,3,4,5,6,7,18,19,13,11,16,8,9,10,12,14,15,17] (tail:=(I,oI)::(bM (RI++[(top,g_,u_)])++(tl++t.imm))) (a:=nn) (fun z hz=>(dR z hz).1) (by decide);have fq:=gg (dH w.params L f t2) PL [0,1,2,3,4,5,6,7,18,19,13,11,16,8,9,10,12,14,15,17] (tail:=(I,oI)::(bM (RI++[(top,g_,u_)])++(tl++t.imm))) (a:=qa) (fun z hz=>(dR z hz).2.1) (by decide);have ft:=fun r hr=>gg (dH w.params L f t2) PL [0,1,2,3,4,5,6,7,18,19,13,11,16,8,9,10,12,14,15,17] (tail:=(I,oI)::(bM (RI++[(top,g_,u_)])++(tl++t.imm))) (a:=r.1) (fun z hz=>(dR z hz).2.2.2 r hr) (by decide)
 have fc:fk=t.cT\/(fk∉bH L f t2/\∀z∈(I,oI)::(bM (RI++[(top,g_,u_)])++(tl++t.imm)), @Ne Nat z.1 fk):=by
  by_cases e:fk=t.cT
  ·exact .inl e
  ·exact .inr (gg (dH w.params L f t2) PL [0,1,2,3,4,5,6,7,18,19,13,11,16,8,9,10,12,14,15,17] (fun z hz=>(dR z hz).2.2.1.resolve_left e) (by decide))
 rw [Rh] at fn fq fc
 have Uz:∀a:Addr,(∀z∈(I,oI)::(bM (RI++[(top,g_,u_)])++(tl++t.imm)), @Ne Nat z.1 a)->a∉ch (RI++[(top,g_,u_)]):=fun a h ha=>by
  rw [<-gf] at ha;refine am (aP ha) fun z aj=>?_;refine ak aj fun hz e=>?_;exact h z (.tail _ (aL _ hz)) e
 have R1:(cO L f fk++ch (RI++[(top,g_,u_)]++[(qa,[],0)])).Nodup:=by
  rw [jk (RI++[(top,g_,u_)])];exact Fd (F:=jz L f) Vj (fc.imp id fun h=>⟨h.1,Uz _ h.2⟩) fq.1 (Uz _ fq.2) Sw
 have Qp: @Ne Nat I fk:=by
  revert fc;refine gE (fun e=>?_) fun h=>?_
  ·rw [e];exact fun e2=>KJ.1 (by rw [hE,e2];simp)
  ·exact h.2 _ (.head _)
 have Tk:∀r∈(nn,listOf items NT)::(OO++(tl++t.imm)),r.1∉cO L f fk++ch (RI++[(top,g_,u_)]++[(qa,[],0)])/\ @Ne Nat r.1 I:=by
  rw [jk (RI++[(top,g_,u_)])];intro r hr
  rcases aB hr with rfl|hr
  ·exact ⟨oJ (F:=jz L f) (c:=t.cT) (fun h=>(aE h).elim fn.1 (Uz _ fn.2)) (Ne.symm hcn) hnq,Ne.symm (fn.2 _ (.head _))⟩
  ·refine Or.elim (aE hr) (fun hr=>?_) fun hr=>?_
   ·have h1:=ft r hr
    rw [Rh] at h1;have h2:=ZH r hr;exact ⟨oJ (F:=jz L f) (c:=t.cT) (fun h=>(aE h).elim h1.1 (Uz _ h1.2)) h2.2.2 h2.1,Ne.symm (h1.2 _ (.head _))⟩
   ·have h1:=VN r hr
    refine ⟨oJ (F:=jz L f) (c:=t.cT) h1.1 ?_ (fq.2 r (.tail _ (ay _ hr))),h1.2⟩;revert fc;refine gE (fun e=>?_) fun h=>?_
    ·rw [e];exact fun e2=>h1.1 (aL _ (by rw [e2];simp))
    ·exact h.2 r (.tail _ (ay _ hr))
 have UW:bc (gb (RI++[(top,g_,u_)]))++[Value.ref qa]=dN (RI++[(top,g_,u_)]++[(qa,[],0)]):=by rw [sp,sq (RI++[(top,g_,u_)])];rfl
 generalize Wa:RI++[(top,g_,u_)]++[(qa,[],0)]=R3 at R1 Tk UW
 have ZD:NROk ((nn,listOf items NT)::(OO++(tl++t.imm))) R3 (VI++[tv++X1]++[[]]):=by
  rw [<-Wa];exact NROk.snoc ⟨rfl,fun i u h=>by simp at h⟩ (VX.mono fun q hq=> .tail _ (ay _ hq))
 have sR3:∀q∈bM R3,q∈bM (RI++[(top,g_,u_)])\/q=(qa,listOf #[] 0):=fun q hq=>by
  rw [<-Wa,sr (RI++[(top,g_,u_)])] at hq;exact (aE hq).imp id fun h=>br h
 rw [UW,show bc Pc++[Value.ref nn]=bc (Pc++[(nn,items)]) from (iY Pc (nn,items)).symm] at N3;let t3:TSD:={t2 with n:=⟨nC,true,b⟩,n2:=XW,n3:=X9,n4:=YO,n5:=Vh,rows:=Pc++[(nn,items)],R:=R3,nv:=dN R3,pi:=SM++[pv,pv],its:=M5++[Value.str (ofString "<"++ofString "e") ta,Value.str (Txt.join (ofString "") ((sP.map bN++sB.map cm).map bD)) tb,Value.str (ofString ">") tc],tb:=Xw,cT:=fk,oT:=LA,imm:=(nn,listOf items NT)::(OO++(tl++t.imm))};have WM:News g L s3.heap ([0,1,2,3,4,5,6,7,18,19,13,11,16].map (en w.params L f t3)++([(nn,listOf items NT),(qa,listOf #[] 0)]++(OO++([8,9,10,12,14,15,17].map (en w.params L f t2)++((I,oI)::(bM (RI++[(top,g_,u_)])++(tl++t.imm))))))):=N3;rw [HE w.params L f t2 ⟨nC,true,b⟩ XW X9 YO Vh (Pc++[(nn,items)]) R3 (dN R3) (SM++[pv,pv]) (M5++[Value.str (ofString "<"++ofString "e") ta,Value.str (Txt.join (ofString "") ((sP.map bN++sB.map cm).map bD)) tb,Value.str (ofString ">") tc]) Xw fk LA ((nn,listOf items NT)::(OO++(tl++t.imm)))] at WM;clear N3 NC NB Yx Yv
 have ND:News g L s3.heap ([13,11,14,16,17,0,1,2,3,4,5,6,7,8,9,10,12,15,18,19].map (en w.params L f t3)++((I,oI)::(bM R3++((nn,listOf items NT)::(OO++(tl++t.imm)))))):=bf WM fun q hq=>by
  refine Or.elim (aE hq) (fun h=>?_) fun h=>?_
  ·refine am (aP h) fun i aj=>?_;refine ak aj fun hi aZ=>?_;subst aZ
   refine Or.elim ((by decide:∀i∈[13,11,14,16,17,0,1,2,3,4,5,6,7,8,9,10,12,15,18,19],i∈[0,1,2,3,4,5,6,7,18,19,13,11,16]\/i∈[8,9,10,12,14,15,17]) i hi) (fun h=>?_) fun h=>?_
   ·exact aL _ (List.mem_map.mpr ⟨i,h,rfl⟩)
   ·exact ay _ (ay _ (ay _ (aL _ (List.mem_map.mpr ⟨i,h,rfl⟩))))
  ·have up:∀q∈(I,oI)::(bM (RI++[(top,g_,u_)])++(tl++t.imm)),q∈[0,1,2,3,4,5,6,7,18,19,13,11,16].map (en w.params L f t3)++([(nn,listOf items NT),(qa,listOf #[] 0)]++(OO++([8,9,10,12,14,15,17].map (en w.params L f t3)++((I,oI)::(bM (RI++[(top,g_,u_)])++(tl++t.imm)))))):=fun q hq=>ay _ (ay _ (ay _ (ay _ hq)))
   rcases aB h with rfl|h
   ·exact up _ (.head _)
   ·refine Or.elim (aE h) (fun h=>?_) fun h=>?_
    ·rcases sR3 q h with h|rfl
     ·exact up _ (.tail _ (aL _ h))
     ·exact ay _ (.tail _ (.head _))
    ·rcases aB h with rfl|h
     ·exact ay _ (.head _)
     ·refine Or.elim (aE h) (fun h=>?_) fun h=>?_
      ·exact ay _ (ay _ (aL _ h))
      ·exact up _ (.tail _ (ay _ h))
 clear WM;have VA:(bH L f t3).length=20:=rfl;have SQ:bH L f t3=cO L f fk:=List.append_nil _
 have YQ:(bH L f t3).Nodup:=by rw [SQ];exact (List.nodup_append.mp R1).1
 have hqI: @Ne Nat I qa:=fq.2 _ (.head _)
 have Rs:I∉bH L f t3:=by
  rw [SQ];intro h;refine Or.elim (aE (show I∈jz L f++[fk] from h)) (fun h=>?_) fun h=>?_
  ·exact KJ.1 (by rw [hE];exact aL [t.cT] h)
  ·exact Qp (br h)
 have Zg:∀a∈ch R3, @Ne Nat a I:=fun a ha e=>by
  rw [<-Wa,jk (RI++[(top,g_,u_)]),VM] at ha;refine Or.elim (aE ha) (fun h=>?_) fun h=>?_
  ·exact YL a (VQ a h) e
  ·exact hqI (e.symm.trans (br h))
 have TA:∀r∈(I,oI)::(bM R3++((nn,listOf items NT)::(OO++(tl++t.imm)))),r.1∉bH L f t3:=kL Rs (fun a ha h=>(List.nodup_append.mp R1).2.2 a (by rw [<-SQ];exact h) a ha rfl) fun r hr h=>(Tk r hr).1 (aL _ (by rw [<-SQ];exact h));generalize OF:(I,oI)::(bM R3++((nn,listOf items NT)::(OO++(tl++t.imm))))=tail3 at ND TA
 have Tw:∀q∈t.imm,q∈tail3:=fun q hq=>by
  rw [<-OF];exact .tail _ (ay _ (.tail _ (ay _ (ay _ hq))))
 have YT:=Wc.upd (m':=fun y=>if y=ofString "begin" then some (.int M5.length Ro) else m2 y) (ofString "begin") (by decide) fun y hy=>if_neg hy
 refine am ht.ou fun vo O_=>?_
 have Ug:((bY low z).fdiv (2 ^ Int.toNat 32)).natAbs<2 ^ 64:=by
  rw [lN]
  have QT:(2:Int) ^ Int.toNat 32=4294967296:=by decide
  rw [QT];exact EA Rd
 refine xN ho B X T (wl:=f.wl) (nl:=f.nl) (kw:=f.kw) (kn:=f.kn) (vw:=f.vw) (vn:=f.vn) (ow:=f.ow) (ok:=t.ok) (ou:=t.ou) (v₀:=vo) (tk:=tk) (j:=j) (wls:=ds.map fun x=>bR (bY low x)) (nums:=ds.map (bY low)) (num:=bY low z) (rest:=[0,1,2,3,4,5,6,7,8,9,10,12,15,18,19].map (en w.params L f t3)++tail3)
  F3 ND hf.how ht.ok O_ YT.mN (by rw [PQ,<-eo];rfl) Ky (ht.wr.mono fun q hq=>ay _ (Tw q hq)) hf.hN (by rw [List.getElem?_map,UV];rfl) Ug (by rw [eo];exact Ez v_.2)
  (fun r hr e=>ik (dH w.params L f t3) YQ VA [14] (by decide) [16,17,0,1,2,3,4,5,6,7,8,9,10,12,15,18,19] (by decide) (by decide) TA r hr (List.mem_singleton.mpr e)) ?_
 intros LP vu kU Og s4 Sy RE Zz S4 F4 N4;rw [eo] at Sy;let t4:TSD:={t3 with ou:=Og};have V6:News g L s4.heap ([13,11,14,16,17].map (en w.params L f t4)++([(LP,listOf vu.toArray kU)]++([0,1,2,3,4,5,6,7,8,9,10,12,15,18,19].map (en w.params L f t3)++tail3))):=N4;rw [HD w.params L f t3 Og] at V6;clear N4 ND;have fu:=gg (dH w.params L f t3) VA [13,11,14,16,17,0,1,2,3,4,5,6,7,8,9,10,12,15,18,19] Zz (by decide);have NE:=nu [13,11,14,16,17] [0,1,2,3,4,5,6,7,8,9,10,12,15,18,19] [10,14,9] [13,11,16,17,0,1,2,3,4,5,6,7,8,12,15,18,19] V6 (by decide);have opz:=Mw.opz;have opl:=Mw.opl
 refine xM ho B X T (ul:=LP) (ar:=f.ar) (ka:=Uc) (ku:=kU) (ars:=R5) (vl:=vu) (oar:=f.oar) (ou:=Og) (uss:=Mi) (us:=us) (rest:=[13,11,16,17,0,1,2,3,4,5,6,7,8,12,15,18,19].map (en w.params L f t4)++tail3)
  F4 NE hf.hoa RE Sy (oa v_.2) (QL.mono fun q hq=>ay _ (Tw q hq)) (Ey Ky opl) (fun u hu=>Nat.le_trans (opz u hu) (by decide)) ?_
 intros ll vl kl s5 YJ Zk S5 F5 N5;have YP:News g L s5.heap ([10,14,9].map (en w.params L f t4)++([(LP,listOf vu.toArray kU),(ll,listOf vl.toArray kl)]++([13,11,16,17,0,1,2,3,4,5,6,7,8,12,15,18,19].map (en w.params L f t4)++tail3))):=N5;have fl:=oR (dH w.params L f t4) (show (bH L f t4).length=20 from rfl) [10,14,9] [13,11,16,17,0,1,2,3,4,5,6,7,8,12,15,18,19] (X:=[(LP,listOf vu.toArray kU)]) (tail:=tail3) (a:=ll) Zk (by decide);clear V6 NE N5;have NF:=nu [10,14,9] [13,11,16,17,0,1,2,3,4,5,6,7,8,12,15,18,19] [13,11,14,16] [0,1,2,3,4,5,6,7,8,9,10,12,15,17,18,19] YP (by decide)
 refine xJ ho B X T (wl:=f.wl) (ul:=LP) (ll:=ll) (kw:=f.kw) (ku:=kU) (kl:=kl) (vw:=f.vw) (vl:=vu) (vs:=vl) (ow:=f.ow) (ok:=t.ok) (ou:=Og) (tk:=tk) (j:=j) (wls:=ds.map fun x=>bR (bY low x)) (us:=us) (laid:=us.filter (cJ Mi)) (sP:=sP) (sB:=sB) (rest:=[0,1,2,3,4,5,6,7,8,9,10,12,15,17,18,19].map (en w.params L f t4)++tail3)
  F5 NF hf.how ht.ok RE (if_pos rfl) PQ Ky (ht.wr.mono fun q hq=>ay _ (Tw q hq)) Sy (oa v_.2) YJ (Nat.le_trans Oi.ll (by decide)) (fun x hx=>(List.mem_filter.mp hx).1) (fun x hx=>p9 (OG x hx)) Oi.pP Oi.oP Oi.pB Oi.oB ?inj ?_
 case inj=>
  intros a ha b' hb e;refine am (aP ha) fun q aj=>?_;refine ak aj fun hq aZ=>?_;subst aZ;refine am (aP hb) fun r aj=>?_;refine ak aj fun hr aZ=>?_;subst aZ;have l1:=dm (OG q (List.mem_filter.mp hq).1);have l2:=dm (OG r (List.mem_filter.mp hr).1);exact jf (fo l1) (fo l2) e
 intros MD vr kr s6 Rr Y4 S6 F6 N6;have Yy:News g L s6.heap ([13,11,14,16].map (en w.params L f t4)++([(LP,listOf vu.toArray kU),(ll,listOf vl.toArray kl),(MD,listOf vr.toArray kr)]++([0,1,2,3,4,5,6,7,8,9,10,12,15,17,18,19].map (en w.params L f t4)++tail3))):=N6;have fr:=oR (dH w.params L f t4) (show (bH L f t4).length=20 from rfl) [13,11,14,16] [0,1,2,3,4,5,6,7,8,9,10,12,15,17,18,19] (X:=[(LP,listOf vu.toArray kU),(ll,listOf vl.toArray kl)]) (tail:=tail3) (a:=MD) Y4 (by decide);clear YP NF N6;have Xo:=nu [13,11,14,16] [0,1,2,3,4,5,6,7,8,9,10,12,15,17,18,19] [8,9,15,7] [10,14,0,1,2,3,4,5,6,11,12,13,16,17,18,19] Yy (by decide);have NG:News g L s6.heap ([8,9,15,7].map (en w.params L f t4)++([(MD,listOf vr.toArray kr)]++([10,14,0,1,2,3,4,5,6,11,12,13,16,17,18,19].map (en w.params L f t4)++([(LP,listOf vu.toArray kU),(ll,listOf vl.toArray kl)]++tail3)))):=bf Xo (by exact cv [0,1,2,3,6,7,8,9,10,11,12,13,14,15,16,17,18,19,20,21,22,4,5] 23 rfl rfl);clear Xo Yy;have Mn:TDok ⟨us.filter (cJ Mi),us,sP,sB⟩:=Oi
 have Uv:=(YT.upd (m':=fun y=>if y=ofString "laid" then some (.ref ll) else if y=ofString "begin" then some (.int M5.length Ro) else m2 y) (ofString "laid") (by decide) fun y hy=>if_neg hy).upd (m':=fun y=>if y=ofString "row" then some (.ref MD) else if y=ofString "laid" then some (.ref ll) else if y=ofString "begin" then some (.int M5.length Ro) else m2 y) (ofString "row") (by decide) fun y hy=>if_neg hy
 have hE4:bH L f t4=cO L f fk:=List.append_nil _;have Yg:(bH L f t4).Nodup:=YQ
 have YW:∀r∈[(LP,listOf vu.toArray kU),(ll,listOf vl.toArray kl)]++tail3,r.1∉bH L f t4:=by
  intro r hr;refine Or.elim (aE hr) (fun hr=>?_) fun hr=>?_
  ·rcases aB hr with rfl|hr
   ·exact fu.1
   ·rw [br hr];exact fl.1
  ·exact TA r hr
 have Tg:=ik (dH w.params L f t4) Yg (show (bH L f t4).length=20 from rfl) [8,9,15] (by decide) [0,1,2,3,4,5,6,11,12,13,16,17,18,19] (by decide) (by decide) YW;have NP:=fun i j iF hi hj=>ig Yg (show (bH L f t4).length=20 from rfl) i j iF hi hj;have WR:∀a∈bH L f t4, @Ne Nat MD a:=fun a ha e=>fr.1 (by rw [e];exact ha);have WZ:=QI.length;rw [List.length_append,List.length_replicate] at WZ;have WO:=R8.length;rw [List.length_append,List.length_replicate] at WO;have Zr:=ht.tds.1;have Tx:=ht.tl;have Zd:=QL.1
 refine xG ho B X T (du:=f.du) (ar:=f.ar) (td:=f.td) (pc:=f.pc) (ul:=LP) (ll:=ll) (rl:=MD) (n1:=Sl) (n2:=Uc) (n3:=t.n8) (n4:=Vh) (kr:=kr) (dus:=PO) (ars:=R5) (tds:=t.tds) (its:=M5) (its3:=[Value.str (ofString "<"++ofString "e") ta,Value.str (Txt.join (ofString "") ((sP.map bN++sB.map cm).map bD)) tb,Value.str (ofString ">") tc]) (vr:=vr) (oar:=f.oar) (ou:=Og) (ts:=TD.texts ⟨us.filter (cJ Mi),us,sP,sB⟩) (rs:=TD.row ⟨us.filter (cJ Mi),us,sP,sB⟩) (tb:=Ro) (rest:=[0,1,2,3,4,5,6,11,12,13,16,17,18,19].map (en w.params L f t4)++([(LP,listOf vu.toArray kU),(ll,listOf vl.toArray kl)]++tail3))
  F6 NG hf.hoa RE Uv.mU Uv.mT Uv.mP ?mL (if_pos rfl) ?mB Rr ?z1 ?z2 (.cons _ _ (.cons _ _ (.cons _ _ .nil))) ?z3 (show 3<=10 by decide) (rL hc Ky WZ pl ol) (rL hc Ky WO ql ol) (Ex Ky Zd opl) (Ew Ky Zr Tx)
  (NP 8 9 (by decide) (by decide) (by decide)) (NP 8 15 (by decide) (by decide) (by decide)) (NP 8 7 (by decide) (by decide) (by decide)) (NP 9 15 (by decide) (by decide) (by decide)) (NP 9 7 (by decide) (by decide) (by decide)) (NP 15 7 (by decide) (by decide) (by decide)) (WR f.du (by simp)) (WR f.ar (by simp)) (WR f.td (by simp))
  (NP 10 8 (by decide) (by decide) (by decide)) (NP 10 9 (by decide) (by decide) (by decide)) (NP 10 15 (by decide) (by decide) (by decide)) (NP 14 8 (by decide) (by decide) (by decide)) (NP 14 9 (by decide) (by decide) (by decide)) (NP 14 15 (by decide) (by decide) (by decide))
  (fun r hr e=>Tg r hr (by rw [e];exact .head _)) (fun r hr e=>Tg r hr (by rw [e];exact .tail _ (.head _))) (fun r hr e=>Tg r hr (by rw [e];exact .tail _ (.tail _ (.head _)))) ?z4 ?_
 case mL=>exact (if_neg (by decide)).trans (if_pos rfl)
 case mB=>exact (if_neg (by decide)).trans ((if_neg (by decide)).trans (if_pos rfl))
 case z1=>exact Nat.le_trans (gZ Mn) (by decide)
 case z2=>exact Nat.le_trans (iW Mn).2 (by decide)
 case z3=>rw [<-oX];exact Nat.le_trans (qp Mn) (by decide)
 case z4=>rw [oX];exact Nat.le_trans (gZ Mn) (by decide)
 intros tt x1 x2 g1 g2 g3 s7 Zy S7 F7 N7;have fg:=oR (dH w.params L f t4) (show (bH L f t4).length=20 from rfl) [8,9,15,7] [10,14,0,1,2,3,4,5,6,11,12,13,16,17,18,19] (X:=[(MD,listOf vr.toArray kr)]) (tail:=[(LP,listOf vu.toArray kU),(ll,listOf vl.toArray kl)]++tail3) (a:=tt) Zy (by decide);let t5:TSD:={t4 with dus:=PO++[Value.str (ofString "<e"++Txt.join (ofString "") (TD.row ⟨us.filter (cJ Mi),us,sP,sB⟩)++ofString ">") x1],ars:=R5++[Value.ref LP],tds:=t.tds++[Value.ref tt],n6:=g1,n7:=g2,n8:=g3,imm:=[(tt,aO [Value.ref ll, .ref LP, .ref MD, .str (TD.text ⟨us.filter (cJ Mi),us,sP,sB⟩) x2]),(MD,listOf vr.toArray kr),(LP,listOf vu.toArray kU),(ll,listOf vl.toArray kl)]++((nn,listOf items NT)::(OO++(tl++t.imm))),op:=Mi++[us],nws:=Sb++[cB (bQ ((bE Sb).map (·.1)) (cg sK))],nvs:=VI++[tv++X1]++[[]],ps:=t.ps++List.replicate c (ofString "</e>")++TD.texts ⟨us.filter (cJ Mi),us,sP,sB⟩,qs:=t.qs++List.replicate c (ofString "</e>")++[ofString "<e"++Txt.join (ofString "") (TD.row ⟨us.filter (cJ Mi),us,sP,sB⟩)++ofString ">"],ts:=t.ts++[⟨us.filter (cJ Mi),us,sP,sB⟩]};have VL:News g L s7.heap ([8,9,15,7].map (en w.params L f t5)++([(MD,listOf vr.toArray kr)]++([10,14].map (en w.params L f t5)++([(tt,aO [Value.ref ll, .ref LP, .ref MD, .str (TD.text ⟨us.filter (cJ Mi),us,sP,sB⟩) x2])]++([0,1,2,3,4,5,6,11,12,13,16,17,18,19].map (en w.params L f t4)++([(LP,listOf vu.toArray kU),(ll,listOf vl.toArray kl)]++tail3)))))):=N7
 have eG:[0,1,2,3,4,5,6,11,12,13,16,17,18,19].map (en w.params L f t4)=[0,1,2,3,4,5,6,11,12,13,16,17,18,19].map (en w.params L f t5):=HC w.params L f t4 _ _ _ _ _ _ _ _ _ _ _ _ _;rw [eG] at VL;clear N7 NG
 have Yj:∀r∈t5.imm,r.1∉cO L f fk++ch R3/\ @Ne Nat r.1 I:=by
  have XL:∀a:Addr,(∀z∈tail3, @Ne Nat z.1 a)->a∉ch R3/\ @Ne Nat a I:=fun a h=>by
   rw [<-OF] at h;refine ⟨fun ha=>?_,Ne.symm (h _ (.head _))⟩;rw [<-gf] at ha;refine am (aP ha) fun z aj=>?_;refine ak aj fun hz e=>?_;exact h z (.tail _ (aL _ hz)) e
  have one:∀a:Addr,a∉bH L f t3->(∀z∈tail3, @Ne Nat z.1 a)->a∉cO L f fk++ch R3/\ @Ne Nat a I:=fun a h1 h2=>⟨fun h=>(aE h).elim (fun h=>h1 (by rw [SQ];exact h)) (XL a h2).1,(XL a h2).2⟩;intro r hr;refine Or.elim (aE hr) (fun hr=>?_) fun hr=>?_
  ·simp only [List.mem_cons,List.not_mem_nil,or_false] at hr
   rcases hr with rfl|rfl|rfl|rfl
   ·exact one tt fg.1 fun z hz=>fg.2.2 z (ay _ hz)
   ·exact one MD fr.1 fr.2.2
   ·exact one LP fu.1 fu.2
   ·exact one ll fl.1 fl.2.2
  ·exact Tk r hr
 have Sj:∀q∈(nn,listOf items NT)::(OO++(tl++t.imm)),q∈t5.imm:=fun q hq=>ay _ hq;have Sv:∀q∈t.imm,q∈t5.imm:=fun q hq=>Sj q (.tail _ (ay _ (ay _ hq)));have im2:∀q∈tl++t.imm,q∈t5.imm:=fun q hq=>Sj q (.tail _ (ay _ hq))
 have Zf:∀q∈ee w.params L f t5,q∈[8,9,15,7].map (en w.params L f t5)++([(MD,listOf vr.toArray kr)]++([10,14].map (en w.params L f t5)++([(tt,aO [Value.ref ll, .ref LP, .ref MD, .str (TD.text ⟨us.filter (cJ Mi),us,sP,sB⟩) x2])]++([0,1,2,3,4,5,6,11,12,13,16,17,18,19].map (en w.params L f t5)++([(LP,listOf vu.toArray kU),(ll,listOf vl.toArray kl)]++tail3))))):=by
  intro q hq;refine Or.elim (aE hq) (fun h=>?_) fun h=>?_
  ·refine am (aP h) fun i aj=>?_;refine ak aj fun hi aZ=>?_;subst aZ
   rcases (by decide:∀i∈all20,i∈[8,9,15,7]\/i∈[10,14]\/i∈[0,1,2,3,4,5,6,11,12,13,16,17,18,19]) i hi with h|h|h
   ·exact aL _ (List.mem_map_of_mem h)
   ·exact ay _ (ay _ (aL _ (List.mem_map_of_mem h)))
   ·exact ay _ (ay _ (ay _ (ay _ (aL _ (List.mem_map_of_mem h)))))
  ·have up:∀q∈tail3,q∈[8,9,15,7].map (en w.params L f t5)++([(MD,listOf vr.toArray kr)]++([10,14].map (en w.params L f t5)++([(tt,aO [Value.ref ll, .ref LP, .ref MD, .str (TD.text ⟨us.filter (cJ Mi),us,sP,sB⟩) x2])]++([0,1,2,3,4,5,6,11,12,13,16,17,18,19].map (en w.params L f t5)++([(LP,listOf vu.toArray kU),(ll,listOf vl.toArray kl)]++tail3))))):=fun q hq=>ay _ (ay _ (ay _ (ay _ (ay _ (ay _ hq)))))
   refine Or.elim (aE h) (fun h=>?_) fun h=>?_
   ·exact up q (by rw [<-OF];exact .tail _ (aL _ h))
   ·refine Or.elim (aE h) (fun h=>?_) fun h=>?_
    ·simp only [List.mem_cons,List.not_mem_nil,or_false] at h
     rcases h with rfl|rfl|rfl|rfl
     ·exact ay _ (ay _ (ay _ (.head _)))
     ·exact ay _ (.head _)
     ·exact ay _ (ay _ (ay _ (ay _ (ay _ (.head _)))))
     ·exact ay _ (ay _ (ay _ (ay _ (ay _ (.tail _ (.head _))))))
    ·exact up q (by rw [<-OF];exact .tail _ (ay _ h))
 refine bL t5 _ s7 ?_ Uv F7 (fun q hq=>?_) ?_ (SameF.trans S1 (SameF.trans S2 (SameF.trans S3 (SameF.trans S4 (SameF.trans S5 (SameF.trans S6 S7))))))
 ·exact {
   keep:=fun q hq=>Sv q (ht.keep q hq)
   sok:=by have:=PM.push k1 v_.2 OG;rw [show 10+66*(j+1)=10+66*j+66 by exact Ev];exact this
   pok:=by have:=(ht.pok.ends (c:=5) (n:=c) (Eu hc Ky ol)).row Mn;rw [show 8*(j+1)=8*j+5+3 by exact Et];exact this
   tok:=fun d hd=>(aE hd).elim (ht.tok d) fun h=>by rw [br h];exact Mn
   tl:=by show (t.ts++[_]).length=_;rw [List.length_append,ht.tl];rfl
   rows:=(Qa.mono Sv).snoc (r:=(nn,items)) (k:=NT) (Sj _ (.head _)) ((E3 TS).mono fun q hq=>Sj q (.tail _ (aL _ hq)))
   nr:=ZD.mono Sj
   nv:=rfl
   pil:=by show (SM++[pv,pv]).length=(Mi++[us]).length+1;rw [List.length_append,List.length_append];simp;exact Es pil RV
   its:=QI.append' (.cons _ _ (.cons _ _ (.cons _ _ .nil)))
   dus:=R8.append' (.cons _ _ .nil)
   ars:=(QL.mono Sv).snoc (aL _ (.tail _ (.tail _ (.head _)))) Sy
   tds:=(ht.tds.mono Sv).snoc (t:=⟨us.filter (cJ Mi),us,sP,sB⟩) (aL _ (.head _)) ⟨aL _ (.tail _ (.tail _ (.tail _ (.head _)))),YJ⟩ ⟨aL _ (.tail _ (.tail _ (.head _))),Sy⟩ ⟨aL _ (.tail _ (.head _)),Rr⟩
   ok:=ht.ok
   ou:=⟨_,RE⟩
   lam:=LH
   ex:=rfl
   nod:=R1
   dis:=fun r hr=>(Yj r hr).1
   wr:=ht.wr.mono Sv}
 ·rcases aB hq with rfl|hq
  ·refine VL _ ?_
   exact ay _ (ay _ (ay _ (ay _ (ay _ (ay _ (by rw [<-OF];exact .head _))))))
  ·exact VL q (Zf q hq)
 ·intros r hr e
  refine Or.elim (aE hr) (fun h=>?_) fun h=>?_
  ·refine am (aP h) fun i aj=>?_;refine ak aj fun hi aZ=>?_;subst aZ
   refine Rs ?_;rw [<-e];exact lk (F:=bH L f t3) (idx:=all20) (show ∀i∈all20,i<20 by decide) _ (List.mem_map.mpr ⟨i,hi,rfl⟩)
  ·refine Or.elim (aE h) (fun h=>?_) fun h=>?_
   ·exact Zg r.1 (by rw [<-gf];exact List.mem_map_of_mem h) e
   ·exact (Yj r h).2 e
theorem tU (P:Params) (L:Addr) (f:FXD) (t:TSD):[0,1,2,3,4,5,6,7,8,9,10,12,13,14,15,16,17,18,19].map (en P L f t)=[(f.W,instObj 150 f.d),(f.d,dictOf (ci P f.x t.n.seen t.n.done) t.n.n),(f.x.data,listOf #[] f.n1),(f.x.nss,listOf t.nv.toArray t.n2),(f.x.decl,listOf (bc t.rows).toArray t.n3),(f.x.pres,listOf t.pi.toArray t.n4),(f.x.write,bT f.pc),(f.pc,listOf t.its.toArray t.n5),(f.du,listOf t.dus.toArray t.n6),(f.ar,listOf t.ars.toArray t.n7),(L+1+1+1,f.oar),(f.D,listOf f.vd.toArray f.kd),(L+1+1,f.ow),(L+1+1+1+1+1,t.ou),(f.td,listOf t.tds.toArray t.n8),(f.wl,listOf f.vw.toArray f.kw),(f.nl,listOf f.vn.toArray f.kn),(123,tabObj t.tb),(t.cT,t.oT)]:=rfl
theorem HB (P:Params) (L:Addr) (f:FXD) (t:TSD) (ok:Obj):[0,1,2,3,4,5,6,7,8,9,10,12,13,14,15,16,17,18,19].map (en P L f t)=[0,1,2,3,4,5,6,7,8,9,10,12,13,14,15,16,17,18,19].map (en P L f {t with ok:=ok}):=by rw [tU,tU]
noncomputable def jV (K:ax) (f:FXD) (t:TSD) (ds:List Int) (low:Int) (kv:Option Value):Prop:=HO w fun qual body scope=>∀(B:Below callerA g [] g) (X:(hd.heap_39 w.params).In g) (T:Top p a_ bz mg mb g) (F:Fr g L s.heap m) (N:News g L s.heap (ee w.params L f t)) (ht:TOk K L f ds low 0 kv t) (hf:FOk f ds low) (hm:MOk f m) (E_:CodeHd g 125 123) (h125:∃o,g.get? 125=some o) (bL:∀t' TZ m' (s':Shared),TOk K L f ds low ds.length TZ t'->MOk f m'->Fr g L s'.heap m'->News g L s'.heap (ee w.params L f t')->aM s s'->
  WX w qual scope L fa cd (body.drop 10) Q E s'),
 WX w qual scope L fa cd (body.drop 9) Q E s
noncomputable def uZ:=bA (gP jV) ((bw,default,[],fun _=>none,fun _=>none,fun _=>none,{},0),(0, .none,fun _=>none,{},fun _ _=>True,fun _ _=>True,[],tD),(qk,[],0,none))
theorem xB:∀{w p a_ bz mg mb g L fa cd m s Q E K f t ds low kv},jV w p a_ bz mg mb g L fa cd m s Q E K f t ds low kv:=by
 intros;apply gB jV (c:=uZ) rfl;apply (?zg:gl jV);intros w p a_ bz mg mb g L fa cd m s Q E K f t ds low kv;intros oc an name qual params body scope dV kV gF pm cA ct l_ z_ ho B X T F N ht hf hm E_ h125 bL;dsimp only [WX] at bL ⊢;have hT:=fun {m s Q E K f t ds low j tk I oI}=> @wj w p a_ bz mg mb g L fa cd m s Q E K f t ds low j tk I oI oc an name qual params body scope dV kV gF pm cA ct l_ z_ ho;revert qual body scope cA;k_fill;refine' no_implicit_lambda% (dd (K:=hd.heap_39 w.params) (f:=212) ?h1 ?main)
 case h1=>k_is
 intro bL hT;dsimp only [List.drop,List.getD,List.getElem?_cons_succ,List.getElem?_cons_zero,Option.getD,cM] at bL hT ⊢
 have N0:News g L s.heap ((f.D,listOf f.vd.toArray f.kd)::ee w.params L f t):=fun q hq=>by
  rcases aB hq with rfl|hq
  ·exact N (en w.params L f t 12) (aL _ (List.mem_map_of_mem (by decide)))
  ·exact N q hq
 have mD:=hm.mD;have dl:=hf.hD.length;have Yp:=hf.len;generalize Ze:ee w.params L f t=tC at N0;clear N;refine wpAny_execs_cons ?_;k_steps;refine ⟨?_⟩;refine len_list (bo N0 (a:=f.D) (vs:=f.vd.toArray) (n:=f.kd) (by k_mem)) (by simp;exact Er dl Yp) ?_;simp only [List.size_toArray,dl];k_steps;refine ⟨?_⟩;rename IsRange _ _ _ _ _ _ _ _=>hrg;rename Fr _ _ _ _=>F1;rename News _ _ _ _=>N1;have N2:News g L _ tC:=bf N1 (fun q hq=> .tail _ hq);subst Ze;clear N1;refine jp (n:=ds.length) (news:=ee w.params L f t) (Inv:=fun i m' led=>∃t kv,TOk K L f ds low i kv t/\MOk f m'/\led=ee w.params L f t) hrg F1 N2 rfl (rK) (by decide) (Ep Yp) ⟨t,kv,ht,hm,rfl⟩ ?turn ?done
 case done=>
  intros aC led s₁ aj;refine bl aj fun t1 Yu aZ=>?_;refine aI aZ fun KU hm1 bU=>?_;subst bU;intros F2 N3 S2;clear N2 F1 hT;have RW:=fun s' a b c=>bL t1 Yu aC s' KU hm1 a b c;refine wpAny_execs_nil ?_;exact RW _ F2 N3 (SameF.trans S2 SameF.refl)
 case turn=>
  intros i NV aC led I oI s₁ hi aj;refine bl aj fun t1 Yu aZ=>?_;refine aI aZ fun KU hm1 bU=>?_;subst bU;intros F2 N3 offI S2;clear N2 F1 bL;have zc:=N3 (en w.params L f t1 11) (.tail _ (aL _ (List.mem_map_of_mem (by decide))));refine wpAny_assign_Name (wpAny_storeName_cell rfl rfl rfl ⟨t1.ok,zc.1,KU.ok⟩ fun bP cE cD=>?_);refine am cE fun Uy aj=>?_;clear cE;refine ak aj fun g2 d2=>?_;have F3:=F2.change cD zc.2.1 zc.2.2
  have Pm:(bH L f t1).length=20:=by rw [List.length_append,KU.ex];rfl
  have hE:bH L f t1=cO L f t1.cT:=by unfold bH;rw [KU.ex];exact List.append_nil _
  have hF:(bH L f t1).Nodup:=by rw [hE];exact (List.nodup_append.mp KU.nod).1
  have keep:∀q∈(I,oI)::ee w.params L f t1, @Ne Nat q.1 (en w.params L f t1 11).1->bP.get? q.1=some q.2/\q.1≠L/\g.get? q.1=none:=fun q hq dR=>⟨cD.extBut _ _ dR (N3 q hq).1,(N3 q hq).2⟩;have NY:(en w.params L f t1 11).1∈bH L f t1:=lk (F:=bH L f t1) (idx:=[11]) (by rw [Pm];decide) _ (.head _);have hK:=HB w.params L f t1 Uy
  have N4:News g L bP ((I,oI)::ee w.params L f {t1 with ok:=Uy}):=fun q hq=>by
   rcases aB hq with rfl|hq
   ·exact keep _ (.head _) (Ne.symm (offI _ (aL _ (List.mem_map_of_mem (by decide)))))
   ·refine Or.elim (aE hq) (fun h=>?_) fun h=>?_
    ·refine am (aP h) fun k aj=>?_;refine ak aj fun hk aZ=>?_;subst aZ
     rcases (by decide:∀k∈all20,k=11\/k∈[0,1,2,3,4,5,6,7,8,9,10,12,13,14,15,16,17,18,19]) k hk with rfl|h
     ·exact ⟨g2,zc.2⟩
     ·have h2:en w.params L f {t1 with ok:=Uy} k∈[0,1,2,3,4,5,6,7,8,9,10,12,13,14,15,16,17,18,19].map (en w.params L f t1):=by rw [hK];exact List.mem_map_of_mem h
      refine am (aP h2) fun i' aj=>?_;refine ak aj fun LV e=>?_;rw [<-e];refine keep _ (.tail _ (aL _ (List.mem_map_of_mem ((by decide:∀k∈[0,1,2,3,4,5,6,7,8,9,10,12,13,14,15,16,17,18,19],k∈all20) i' LV)))) ?_;have h3:=(by decide:∀k∈[0,1,2,3,4,5,6,7,8,9,10,12,13,14,15,16,17,18,19],k≠11/\k<20) i' LV;exact ig hF Pm i' 11 h3.1 h3.2 (by decide)
    ·refine keep q (.tail _ (ay _ h)) fun e=>?_
     refine Or.elim (aE h) (fun h=>?_) fun h=>?_
     ·exact (List.nodup_append.mp KU.nod).2.2 _ (by rw [<-hE];exact NY) q.1 (by rw [<-gf];exact List.mem_map_of_mem h) e.symm
     ·exact KU.dis q h (aL _ (by rw [e,<-hE];exact NY))
  rw [Int.zero_add] at d2;have ht2:TOk K L f ds low i (some (.int (i:Nat) NV)) {t1 with ok:=Uy}:=⟨KU.keep,KU.sok,KU.pok,KU.tok,KU.tl,KU.rows,KU.nr,KU.nv,KU.pil,KU.its,KU.dus,KU.ars,KU.tds,d2,KU.ou,KU.lam,KU.ex,KU.nod,KU.dis,KU.wr⟩;refine hT B X T F3 N4 ?_ ht2 hf hm1 hi E_ h125 ?_
  ·intros r hr e
   refine Or.elim (aE hr) (fun h=>?_) fun h=>?_
   ·refine am (aP h) fun k aj=>?_;refine ak aj fun hk aZ=>?_;subst aZ
    exact offI (en w.params L f t1 k) (aL _ (List.mem_map_of_mem hk)) e
   ·exact offI r (ay _ h) e
  ·intros t' m' s' a1 a2 a3 a4 a5 a6
   exact LoopEnd.intro a3 a4 a5 (SameF.trans S2 a6) ⟨t',_,a1,a2,rfl⟩
theorem wk {prog:Program} {w:World} {A:Around} {E:Value->Shared->Prop} {s:Shared} {h₀:Heap} {L a:Addr} {news:ax} {L4 slice:PySem.Expr} {x:Value} {l:List Value} {i:Int} {u:Tok} {Q:Value->Shared->Prop} (N:News h₀ L s.heap news) (hm:(a,aO l)∈news) (hv:l[i.toNat]?=some x) (hi:0<=i/\i<1000) (h:Q x s)
  (hs:subscripted slice false (.ref a) (.int i u)=operate [.ref a, .int i u] (getItem (.ref a) (.int i u)):=by with_unfolding_all rfl):
  wpAny (model prog w) A (subscriptTail L4 slice (.ref a) (.int i u)) Q E s:=by
 refine am (List.getElem?_eq_some_iff.mp hv) fun h1 h2=>?_;refine item_tupleT (l:=l) (j:=i.toNat) ⟨_,N.get hm,rfl,_,rfl⟩ (Eo hi.1) (En hi.2) ?_ hv h hs;unfold seqIndex?
 have e1:¬i<0:=by exact Em hi.1
 have e2:i<(l.length:Int):=by exact El h1
 simp [e1,e2,hi.1]
theorem JA:True:=by
 (k_with "subscriptTail"=>((k_here;(with_reducible show wpAny _ _ (subscriptTail _ _ (Value.ref _) (Value.int _ _)) _ _ _);(with_reducible refine' wk (by k_dflt (k_asm)) (by k_dflt (k_mem)) (by k_dflt (exact rfl)) (by k_dflt (decide)) ?_ (by k_dflt (with_unfolding_all rfl)));k_dflt (k_whole))))
 (k_with "call ref"=>((k_here;(with_reducible show wpAny _ _ (call (Value.ref 183) _ _) _ _ _);refine Stop.out ?_)))
 (k_with "call builtin:list.extend"=>((k_here;refine Stop.out ?_)))
 trivial
noncomputable def jW (td:Addr) (k0:Nat) (tds:List Value) (ts:List TD) (oh:Obj) (vh:Option Value) (rest:ax) (_ _:Nat):Prop:=HO w fun qual body scope=>∀(B:Below callerA g [] g) (X:(hd.heap_39 w.params).In g) (T:Top p a_ bz mg mb g) (F:Fr g L s.heap m) (N:News g L s.heap ((L+1+1+1+1+1+1,oh)::(td,listOf tds.toArray k0)::rest)) (X_:oh.data= .cell vh) (off:∀r∈(td,listOf tds.toArray k0)::rest, @Ne Nat r.1 (L+1+1+1+1+1+1)) (mT:m (ofString "told")=some (.ref td)) (hT:ToldL rest tds ts) (m_:∀t∈ts,TDok t) (htl:ts.length<=20) (bL:∀m' oh' (s':Shared),Fr g L s'.heap m'->News g L s'.heap ((L+1+1+1+1+1+1,oh')::(td,listOf tds.toArray k0)::rest)->aM s s'->Q (.ret (.bool true)) s'),
 WX w qual scope L fa cd (body.drop 12) Q E s
noncomputable def u7:=bA (gk jW) ((bw,default,[],fun _=>none,fun _=>none,fun _=>none,{},0),(0, .none,fun _=>none,{},fun _ _=>True,fun _ _=>True,0,0),([],[],default,none,[],0,0))
theorem xC:∀{w p a_ bz mg mb g L fa cd m s Q E td k0 tds ts oh vh rest},jW w p a_ bz mg mb g L fa cd m s Q E td k0 tds ts oh vh rest 0 0:=by
 intros;apply fp jW (c:=u7) rfl;apply (?zg:eZ jW);intros w p a_ bz mg mb g L fa cd m s Q E td k0 tds ts oh vh rest _ _;intros oc an name qual params body scope dV kV gF pm cA ct l_ z_ ho B X T F N X_ off mT hT m_ htl bL;dsimp only [WX] at ⊢;revert qual body scope cA;k_fill;refine' no_implicit_lambda% (dd (K:=hd.heap_39 w.params) (f:=212) ?h1 ?main)
 case h1=>k_is
 dsimp only [List.drop];have tl:=hT.1;refine wpAny_execs_cons ?_;k_steps;refine ⟨?_⟩;refine lI (l:=td) (vs:=tds) (Inv:=fun _ m' led=>m' (ofString "told")=some (.ref td)/\∃oh vh,oh.data= .cell vh/\led=(L+1+1+1+1+1+1,oh)::(td,listOf tds.toArray k0)::rest) F N rfl (fun i m' led s₁ hh F2 N2=>by refine ak hh fun _ aj=>?_;clear hh;refine bl aj fun oh vh aZ=>?_;refine ak aZ fun _ bU=>?_;subst bU;exact bo N2 (.tail _ (.head _))) ⟨mT,oh,vh,X_,rfl⟩ ?turn ?done
 case done=>
  intros aC led s₁ aj;refine ak aj fun X7 aZ=>?_;refine bl aZ fun Si Xx bU=>?_;refine ak bU fun VG dK=>?_;subst dK;intros F2 N2 S2;k_steps;exact bL aC Si s₁ F2 N2 S2
 case turn=>
  intros i v aC led I oI s₁ hv aj;refine ak aj fun X7 aZ=>?_;refine bl aZ fun Si Xx bU=>?_;refine ak bU fun VG dK=>?_;subst dK;intros F2 N2 offI S2;refine am (List.getElem?_eq_some_iff.mp hv) fun hi Lw=>?_
  have e_:i<ts.length:=by exact q3 hi tl
  refine fV (hT.2 i ts[i] (List.getElem?_eq_getElem e_)) fun tt ll ul rl vl vu vr k1 aj=>?_;refine aW aj fun k2 k3 x1 aZ=>?_;refine bv aZ fun e1 mt bU dK pH=>?_;refine ak bU fun ml il=>?_;refine ak dK fun mu iu=>?_;refine ak pH fun mr ir=>?_;have Oo:=m_ ts[i] (List.getElem_mem e_);generalize ts[i]=ta at *;rw [hv] at e1
  cases e1
  have N3:News g L s₁.heap ((L+1+1+1+1+1+1,Si)::(I,oI)::(tt,aO [Value.ref ll, .ref ul, .ref rl, .str ta.text x1])::(rl,listOf (List.toArray vr) k3)::(td,listOf tds.toArray k0)::rest):=bf N2 (by exact aQ ⟨bJ 1 rfl,aQ ⟨bJ 0 rfl,aQ ⟨bI 3 rfl mt,aQ ⟨bI 3 rfl mr,cv [2] 3 rfl rfl⟩⟩⟩⟩);clear N2 N F;have Ve:=gZ Oo;have Nl:=iW Oo
  have XA:(Txt.join (ofString "...") ta.row).length<=10000:=by
   rw [<-bK,jv];have h1:=lK (ofString "...") ta.row;have e:(ofString "...").length=3:=rfl;rw [e] at h1;exact Ek h1 Nl.2 Ve
  k_steps;refine ⟨?_⟩;rename News _ _ _ _=>N4;rename Fr _ _ _ _=>F4;refine join_listW (bo N4 (a:=rl) (vs:=vr.toArray) (n:=k3) (by k_mem)) ir (by decide) (by have e:(ofString "...").length=3:=rfl;exact Ej Nl.2 Ve) fun t1 kk1=>?_;k_steps;refine ⟨?_⟩;have hq:dC ta.row=ofString "..."++Txt.join (ofString "...") ta.row++ofString "...":=rfl;have Q2:=yh Oo
  rename Fr _ _ _ (fun y=>if y=ofString "question" then _ else _)=>F5
  rename News _ _ _ _=>N5;rw [<-hq] at F5;generalize P8:((I,oI)::_:ax)=tC at N5
  have Lf:∀r∈tC, @Ne Nat r.1 (L+1+1+1+1+1+1):=by
   rw [<-P8];refine cu ?_;dsimp only [FC];exact ⟨Ne.symm (offI _ (.head _)),off _ (.tail _ mt),off _ (.tail _ mr),off _ (.head _),cj fun r hr=>off _ (.tail _ hr)⟩
  have mm:∀q∈rest,q∈tC:=fun q hq=>by rw [<-P8];exact bI 4 rfl hq
  have mtd:(td,listOf tds.toArray k0)∈tC:=by rw [<-P8];exact bJ 3 rfl
  refine lI (l:=td) (vs:=tds) (Inv:=fun _ m' led=>m' (ofString "told")=some (.ref td)/\m' (ofString "asked")=some (.ref tt)/\(∃tq,m' (ofString "question")=some (.str (dC ta.row) tq))/\∃oh vh,oh.data= .cell vh/\led=(L+1+1+1+1+1+1,oh)::tC) F5 N5 rfl (fun i m' led s₁ hh F2 N2=>by refine bO hh fun _ _ _ aj=>?_;clear hh;refine bl aj fun oh vh aZ=>?_;refine ak aZ fun _ bU=>?_;subst bU;exact bo (n:=k0) N2 (.tail _ mtd)) ⟨(if_neg (by decide)).trans ((if_neg (by decide)).trans X7),(if_neg (by decide)).trans (if_pos rfl),⟨_,if_pos rfl⟩,Si,Xx,VG,rfl⟩ ?turn2 ?done2
  case done2=>
   intros aC led s₁ aj;refine bO aj fun TY _ _ aZ=>?_;refine bl aZ fun Sh XN bU=>?_;refine ak bU fun TC dK=>?_;subst dK;intros F6 N6 S6;refine wpAny_execs_nil ?_;refine wpAny_execs_nil ?_
   exact LoopEnd.intro F6 (bf N6 (by rw [<-P8];exact cv [1,0,4] 5 rfl rfl)) (fun r hr=>by
    rcases aB hr with rfl|hr
    ·exact offI (L+1+1+1+1+1+1,Si) (.head _)
    ·exact offI r (.tail _ hr)) (SameF.trans S2 S6) ⟨TY,Sh,XN,TC,rfl⟩
  case turn2=>
   intros i2 v2 m2 led I2 SG s2 Ni aj;refine bO aj fun TY Yo aZ bU=>?_;refine am aZ fun tq X3=>?_;refine bl bU fun Sh XN dK=>?_;refine ak dK fun TC pH=>?_;subst pH;intros F6 N6 R7 S6;refine am (List.getElem?_eq_some_iff.mp Ni) fun PT _=>?_
   have Qy:i2<ts.length:=by exact q3 PT tl
   refine fV (hT.2 i2 ts[i2] (List.getElem?_eq_getElem Qy)) fun t2 l2 u2 r2 wl wu wr j1 aj=>?_;refine aW aj fun j2 j3 x2 aZ=>?_;refine bv aZ fun e2 mt2 bU dK pH=>?_;refine ak bU fun ml2 jl=>?_;refine ak dK fun mu2 ju=>?_;refine ak pH fun mr2 jr=>?_;have UJ:=m_ ts[i2] (List.getElem_mem Qy);generalize ts[i2]=th at *;rw [Ni] at e2
   cases e2
   have zc:=N6 (L+1+1+1+1+1+1,Sh) (.tail _ (.head _));refine wpAny_assign_Name (wpAny_storeName_cell rfl rfl rfl ⟨Sh,zc.1,TC⟩ fun h9 Xq TO=>?_);refine am Xq fun P1 aj=>?_;clear Xq;refine ak aj fun g9 WA=>?_;have F7:Fr g L h9 m2:=F6.change TO zc.2.1 zc.2.2;have keep:∀q∈tC,h9.get? q.1=some q.2/\q.1≠L/\g.get? q.1=none:=fun q hq=>⟨TO.extBut _ _ (Lf q hq) (N6 q (.tail _ (.tail _ hq))).1,(N6 q (.tail _ (.tail _ hq))).2⟩;have TR:h9.get? I2=some SG/\I2≠L/\g.get? I2=none:=⟨TO.extBut _ _ (Ne.symm (R7 _ (.head _))) (N6 _ (.head _)).1,(N6 _ (.head _)).2⟩
   have N7:News g L h9 ((L+1+1+1+1+1+1,P1)::(I2,SG)::(t2,aO [Value.ref l2, .ref u2, .ref r2, .str th.text x2])::(l2,listOf (List.toArray wl) j1)::(u2,listOf (List.toArray wu) j2)::(tt,aO [Value.ref ll, .ref ul, .ref rl, .str ta.text x1])::(ll,listOf (List.toArray vl) k1)::(ul,listOf (List.toArray vu) k2)::tC):=by
    refine cu (P:=fun q:Addr×Obj=>h9.get? q.1=some q.2/\q.1≠L/\g.get? q.1=none) ?_;dsimp only [FC];exact ⟨⟨g9,zc.2⟩,TR,keep _ (mm _ mt2),keep _ (mm _ ml2),keep _ (mm _ mu2),keep _ (mm _ mt),keep _ (mm _ ml),keep _ (mm _ mu),cj keep⟩
   clear N5 F5 N6 F6 F2 keep TR zc g9 TO;have MF:=il.length;have UG:=iu.length;have Rg:=Oo.ll;have v_:=Oo.ul;have aag:=UJ.ll;have aaf:=UJ.ul;have OM:=jl.length;have hju:=ju.length;k_steps;refine ⟨?_⟩;rename News _ _ _ _=>N9;rename Fr _ _ _ _=>F9;generalize RP:((L+1+1+1+1+1+1,P1)::_:ax)=Wo at N9;refine pj (l:=ll) (vs:=vl) (fun i ys led=>led=Wo/\ys.length<=i/\(ys=[]↔∀q∈ta.laid.take i,q∈th.laid)) F9 N9 rfl (fun i ys led s₁ hh F2 N2=>bo (n:=k1) N2 (by rw [hh.1,<-RP];simp)) (nZ MF Rg) ⟨rfl,Nat.le_refl _,by simp⟩ (fun i ys led h=>h.2.1) (by decide) rfl (by decide) ?t1 ?d1
   case t1=>
    intros i v I oI C oC D ys bj led s₁ hv aj;refine aI aj fun aZ lG Qd=>?_;subst aZ;intros hC hm F2 N2 er Lo S2;refine am (List.getElem?_eq_some_iff.mp hv) fun hi Lw=>?_
    have fW:i<ta.laid.length:=by exact q3 hi MF
    have eo:ta.laid[i]?=some ta.laid[i]:=List.getElem?_eq_getElem fW;generalize ta.laid[i]=u at eo;refine am (il.get i u eo) fun t e=>?_;rw [hv] at e
    cases e
    subst RP;clear N9 F9 bL;k_steps
    ·rename (th.laid.any fun x=>x == u)=true=>hany
     have H_:u∈th.laid:=by
      refine am (List.any_eq_true.mp hany) fun x aj=>?_;refine ak aj fun hx he=>?_;rw [<-eq_of_beq he];exact hx
     refine ⟨_,F2,N2,er,⟨rfl,Nat.le_succ_of_le lG,?_⟩,S2⟩;rw [Qd,List.take_add_one,eo];simp only [Option.toList_some,List.mem_append,List.mem_singleton];exact ⟨fun h q hq=>hq.elim (h q) fun e=>e▸H_,fun h q hq=>h q (.inl hq)⟩
    ·rename (th.laid.any fun x=>x == u)=false=>hany
     have NJ:u∉th.laid:=fun hx=>by
      have:=List.any_eq_false.mp hany u hx;simp at this
     refine ⟨_,F2,N2,er,⟨rfl,by rw [List.length_append];exact Nat.succ_le_succ lG,?_⟩,S2⟩;refine ⟨fun h=>by simp at h,fun h=>absurd (h u ?_) NJ⟩;rw [List.take_add_one,eo];simp
   case d1=>
    refine iV (n:=vl.length) (Inv:=fun i ys led=>led=Wo/\ys.length<=i/\(ys=[]↔∀q∈ta.laid.take i,q∈th.laid)) rfl rfl rfl ?_;intros la U4 led cU aj;refine aI aj fun aZ PH RU=>?_;subst aZ;intros F4 N4 Mk S4;rw [MF,List.take_length] at RU;subst RP;clear N9 F9;k_steps;refine ⟨?_⟩;rename News _ _ _ _=>N9;rename Fr _ _ _ _=>F9;generalize RM:(_::_:ax)=Xa at N9;refine pj (l:=ul) (vs:=vu) (fun i ys led=>led=Xa/\ys.length<=i/\(ys=[]↔∀q∈ta.used.take i,q∈th.used)) F9 N9 rfl (fun i ys led s₁ hh F2 N2=>bo (n:=k2) N2 (by rw [hh.1,<-RM];simp)) (nZ UG v_.2) ⟨rfl,Nat.le_refl _,by simp⟩ (fun i ys led h=>h.2.1) (by decide) rfl (by decide) ?t2 ?d2
    case t2=>
     intros i v I oI C oC D ys bj led s₁ hv aj;refine aI aj fun aZ lG Qd=>?_;subst aZ;intros hC hm F2 N2 er Lo S2;refine am (List.getElem?_eq_some_iff.mp hv) fun hi Lw=>?_
     have fW:i<ta.used.length:=by exact q3 hi UG
     have eo:ta.used[i]?=some ta.used[i]:=List.getElem?_eq_getElem fW;generalize ta.used[i]=u at eo;refine am (iu.get i u eo) fun t e=>?_;rw [hv] at e
     cases e
     subst RM;clear N9 F9 bL;k_steps
     ·rename (th.used.any fun x=>x == u)=true=>hany
      have H_:u∈th.used:=by
       refine am (List.any_eq_true.mp hany) fun x aj=>?_;refine ak aj fun hx he=>?_;rw [<-eq_of_beq he];exact hx
      refine ⟨_,F2,N2,er,⟨rfl,Nat.le_succ_of_le lG,?_⟩,S2⟩;rw [Qd,List.take_add_one,eo];simp only [Option.toList_some,List.mem_append,List.mem_singleton];exact ⟨fun h q hq=>hq.elim (h q) fun e=>e▸H_,fun h q hq=>h q (.inl hq)⟩
     ·rename (th.used.any fun x=>x == u)=false=>hany
      have NJ:u∉th.used:=fun hx=>by
       have:=List.any_eq_false.mp hany u hx;simp at this
      refine ⟨_,F2,N2,er,⟨rfl,by rw [List.length_append];exact Nat.succ_le_succ lG,?_⟩,S2⟩;refine ⟨fun h=>by simp at h,fun h=>absurd (h u ?_) NJ⟩;rw [List.take_add_one,eo];simp
    case d2=>
     refine fI (n:=vu.length) (Inv:=fun i ys led=>led=Xa/\ys.length<=i/\(ys=[]↔∀q∈ta.used.take i,q∈th.used)) ?_;intros lb SR led gm aj;refine aI aj fun aZ UT R9=>?_;subst aZ;intros F5 N5 Nq S5;rw [UG,List.take_length] at R9;subst RM;clear N9 F9;have Tx:=qp UJ;k_steps;refine ⟨?_⟩;refine tQ F5 N5 (.head _) (.tail (Ne.symm (Nq _ (.head _))) (.head Mk)) (by simp only [List.size_toArray];exact Ei MF UG Rg v_.2 PH UT) ?_;intros n9 h6 F6 N6;have N7:News g L h6 ((la,listOf (U4++SR).toArray n9)::(L+1+1+1+1+1+1,P1)::(I2,SG)::(t2,aO [Value.ref l2, .ref u2, .ref r2, .str th.text x2])::tC):=bf N6 (by rw [List.append_toArray];exact cv [1,2,3,4] 10 rfl rfl);clear N6 N5 F5;have Sx:=wy Oo UJ
     have Qw:U4++SR=[]↔(∀q∈ta.laid,q∈th.laid)/\∀q∈ta.used,q∈th.used:=by rw [List.append_eq_nil_iff,RU,R9]
     rw [<-Qw] at Sx;generalize U4++SR=ys at N7 Sx;clear Qw RU R9;k_steps;refine ⟨?_⟩;rename Fr _ _ _ _=>F8;rename News _ _ _ _=>N8;refine dO (H3 (dC ta.row) th.text tq x2 ta.row (yg Oo) (yi _) (Eh Q2) (Eg Tx) (Ef Nl.2)) B F8 X N8 T rfl rfl rfl (fun _ h=>nomatch h) trivial (fy _ (by decide)) (d3 _ (by decide)) ?_;intros pK F9 N9 K9 S9;have W8:=d0 N8 K9 N9 (others:=_) (fun _ h=>h) (fun _ _ h=>nomatch h);rw [List.nil_append] at W8;clear N9 N8 F8;generalize cR th.text 0 (ofString ""::(ta.row++[ofString ""]))=bm at Sx;k_steps;refine ⟨?_⟩;rename News _ _ _ ((_,listOf #[] 0)::_)=>RB;rename Fr _ _ _ _=>Xz
     have Uq:∀r∈(L+1+1+1+1+1+1,P1)::tC,r.1≠I2:=fun r hr=>by
      rcases aB hr with rfl|hr
      ·exact R7 (L+1+1+1+1+1+1,Sh) (.head _)
      ·exact R7 r (.tail _ hr)
     by_cases hy:ys=[]
     ·have hb:bm=true:=Sx.mpr hy
      subst hb;refine PySem.SeqAt.eq_listAt (e:=fun _=>true) (bo RB (a:=la) (vs:=ys.toArray) (n:=n9) (.tail _ (.head _))) (bo RB (.head _)) (by rw [hy]) (Nat.lt_of_le_of_lt (Nat.le_add_right _ 0) (d3 _ (n:=0) (Nat.zero_le _))) (fun j h1 h2=>absurd h2 (Nat.not_lt_zero _)) ?_
      have Tl:((List.range ys.toArray.size).all fun _=>true)=true:=by simp
      rw [Tl];k_steps;exact LoopEnd.intro (news':=(L+1+1+1+1+1+1,P1)::tC) Xz (bf RB (by exact cv [3,2] 5 rfl rfl)) Uq (SameF.trans S6 (SameF.trans S4 (SameF.trans S5 S9))) ⟨(if_neg (by decide)).trans TY,(if_neg (by decide)).trans Yo,⟨tq,(if_neg (by decide)).trans X3⟩,P1,_,WA,rfl⟩
     ·have hb:bm=false:=by
       cases bm with
       |false=>rfl
       |true=>exact absurd (Sx.mp rfl) hy
      subst hb
      have hsz:(ys.toArray.size != (#[]:Array Value).size)=true:=by
       cases ys with
       |nil=>exact absurd rfl hy
       |cons a b=>simp
      refine PySem.SeqAt.eq_list_lengthsAt (bo RB (a:=la) (vs:=ys.toArray) (n:=n9) (.tail _ (.head _))) (bo RB (.head _)) hsz (Nat.lt_of_le_of_lt (Nat.le_add_right _ 0) (d3 _ (n:=0) (Nat.zero_le _))) ?_;k_steps;exact LoopEnd.intro (news':=(L+1+1+1+1+1+1,P1)::tC) Xz (bf RB (by exact cv [3,2] 5 rfl rfl)) Uq (SameF.trans S6 (SameF.trans S4 (SameF.trans S5 S9))) ⟨(if_neg (by decide)).trans TY,(if_neg (by decide)).trans Yo,⟨tq,(if_neg (by decide)).trans X3⟩,P1,_,WA,rfl⟩
theorem Ic (x:Int):(jC x).natAbs<=2 ^ 63:=by
 unfold jC;have h1:=Int.fmod_nonneg_of_pos (x+2 ^ 63) (by decide:(0:Int)<2 ^ 64);have h2:=Int.fmod_lt_of_pos (x+2 ^ 63) (by decide:(0:Int)<2 ^ 64);generalize (x+2 ^ 63).fmod (2 ^ 64)=y at *;exact Ee h1 h2
theorem HH (ns:List Int):∀z∈fQ ns,z.natAbs<=2 ^ 63:=by
 intro z hz;unfold fQ at hz;refine Or.elim (aE hz) (fun h=>?_) fun h=>?_
 ·simp only [List.mem_cons,List.not_mem_nil,or_false] at h
  rcases h with rfl|rfl|rfl<;>decide
 ·refine am (aP h) fun y aj=>?_;refine ak aj fun _ aZ=>?_;subst aZ
  exact Ic y
theorem HG (ns:List Int):(fQ ns).length<=6:=by
 unfold fQ;rw [List.length_append,List.length_map,List.length_take];simp;exact Ed
theorem pU {z:Int} (h:z.natAbs<=2 ^ 63):(z.fdiv 3+21).natAbs<2 ^ 64:=by
 rw [Int.fdiv_eq_ediv_of_nonneg z (by decide:(0:Int)<=3)];exact Ec h
theorem gv {l:List Nat} (h:Rise l) (i j:Nat) (iF:i<j) {n:Nat} (hn:l.length=n) (hj:j<n):l.getD i 0<l.getD j 0:=by
 subst hn;simp only [List.getD_eq_getElem?_getD,List.getElem?_eq_getElem (Nat.lt_trans iF hj),List.getElem?_eq_getElem hj,Option.getD_some];exact List.pairwise_iff_getElem.mp h.pair i j _ _ iF
theorem sI {L pc D wl nl:Nat} (hD:D<pc) (hw:wl<pc) (hn:nl<pc) (h4:L+1+1+1+1+1+1<pc) (Mj:123<L):∀a∈([D,L+1,L+1+1,L+1+1+1,L+1+1+1+1,L+1+1+1+1+1,123,nl,wl]:List Nat),a<pc:=by
 intro a ha;simp only [List.mem_cons,List.not_mem_nil,or_false] at ha
 rcases ha with rfl|rfl|rfl|rfl|rfl|rfl|rfl|rfl|rfl
 ·exact hD
 ·exact Eb h4
 ·exact Ea h4
 ·exact D9 h4
 ·exact D7 h4
 ·exact D0 h4
 ·exact DZ h4 Mj
 ·exact hn
 ·exact hw
theorem Fe {L pc du wr d W da xt r0 de ns n0 n1 pm pr ar td D wl nl:Nat} (h:Rise [L+1+1+1,pc,du,wr,d,W,da,xt,r0,de,ns,n0,n1,pm,pr,ar,td]) (hD:D<pc) (hw:wl<pc) (hn:nl<pc) (h4:L+1+1+1+1+1+1<pc) (Mj:123<L) (dD:L+1+1+1+1+1+1<D)
  (q1:∀z∈([D,L+1,L+1+1,L+1+1+1,L+1+1+1+1,L+1+1+1+1+1,123]:List Nat),z≠nl/\z≠wl) (q2:nl≠wl):
  ([D,L+1,L+1+1,L+1+1+1,L+1+1+1+1,L+1+1+1+1+1,123,nl,wl,pc,du,wr,d,W,da,de,ns,n0,n1,pr,ar,td]:List Nat).Nodup:=by
 have hr:Rise [123,L+1,L+1+1,L+1+1+1,L+1+1+1+1,L+1+1+1+1+1,D]:=⟨Nat.lt_trans Mj (Nat.lt_succ_self L),Nat.lt_succ_self _,Nat.lt_succ_self _,Nat.lt_succ_self _,Nat.lt_succ_self _,Nat.lt_trans (Nat.lt_succ_self _) dD,trivial⟩;have Vw:([D,L+1,L+1+1,L+1+1+1,L+1+1+1+1,L+1+1+1+1+1,123]:List Nat).Nodup:=gz hr.nodup (n:=7) rfl [6,1,2,3,4,5,0] (by decide) (by decide)
 have hB:([D,L+1,L+1+1,L+1+1+1,L+1+1+1+1,L+1+1+1+1+1,123]++[nl,wl]:List Nat).Nodup:=List.nodup_append.mpr ⟨Vw,by simp [q2],fun a ha b hb e=>by
  rcases aB hb with rfl|hb
  ·exact (q1 a ha).1 e
  ·exact (q1 a ha).2 (e.trans (br hb))⟩
 have hA:=gz h.nodup (n:=17) rfl [1,2,3,4,5,6,9,10,11,12,14,15,16] (by decide) (by decide);refine List.nodup_append.mpr ⟨hB,hA,fun a ha b hb e=>?_⟩;have h1:=sI hD hw hn h4 Mj a ha;refine am (aP hb) fun i aj=>?_;refine ak aj fun hi e2=>?_;have h2:=(by decide:∀i∈[1,2,3,4,5,6,9,10,11,12,14,15,16],1<=i/\i<17) i hi;refine Or.elim (Nat.lt_or_eq_of_le h2.1) (fun h3=>?_) fun h3=>?_
 ·have h4:pc < _:=gv h 1 i h3 (n:=17) rfl h2.2
  rw [e2] at h4;exact DY h1 h4 e
 ·subst h3
  have:pc=b:=e2;exact DX h1 e this
theorem E7 {L pc du wr d W da xt r0 de ns n0 n1 pm pr ar td D wl nl:Nat} (h:Rise [L+1+1+1,pc,du,wr,d,W,da,xt,r0,de,ns,n0,n1,pm,pr,ar,td]) (hD:D<pc) (hw:wl<pc) (hn:nl<pc) (h4:L+1+1+1+1+1+1<pc) (Mj:123<L) {a:Nat}
  (hl:a<pc->a∉([D,L+1,L+1+1,L+1+1+1,L+1+1+1+1,L+1+1+1+1+1,123,nl,wl]:List Nat)) (hg:a<pc\/a=xt\/a=r0\/(n0<a/\a<n1)):
  a∉([D,L+1,L+1+1,L+1+1+1,L+1+1+1+1,L+1+1+1+1+1,123,nl,wl,pc,du,wr,d,W,da,de,ns,n0,n1,pr,ar,td]:List Nat):=by
 intro hm;refine Or.elim (aE (show a∈[D,L+1,L+1+1,L+1+1+1,L+1+1+1+1,L+1+1+1+1+1,123,nl,wl]++pk [L+1+1+1,pc,du,wr,d,W,da,xt,r0,de,ns,n0,n1,pm,pr,ar,td] [1,2,3,4,5,6,9,10,11,12,14,15,16] from hm)) (fun hm=>?_) fun hm=>?_
 ·by_cases q:a<pc
  ·exact hl q hm
  ·exact q (sI hD hw hn h4 Mj a hm)
 ·refine am (aP hm) fun i aj=>?_;refine ak aj fun hi e=>?_
  have h2:=(by decide:∀i∈[1,2,3,4,5,6,9,10,11,12,14,15,16],1<=i/\i<17/\i≠7/\i≠8) i hi
  rcases hg with q|q|q|⟨q1,q2⟩
  ·refine Or.elim (Nat.lt_or_eq_of_le h2.1) (fun h3=>?_) fun h3=>?_
   ·have h4:pc < _:=gv h 1 i h3 (n:=17) rfl h2.2.1
    rw [e] at h4;exact nY q h4
   ·subst h3
    have:pc=a:=e;exact rJ q this
  ·exact ig h.nodup (n:=17) rfl i 7 h2.2.2.1 h2.2.1 (by decide) (e.trans q)
  ·exact ig h.nodup (n:=17) rfl i 8 h2.2.2.2 h2.2.1 (by decide) (e.trans q)
  ·rcases Nat.lt_trichotomy i 11 with h3|h3|h3
   ·have h4:_ < n0:=gv h i 11 h3 (n:=17) rfl (by decide)
    rw [e] at h4;exact nY q1 h4
   ·subst h3
    have:n0=a:=e;exact DW q1 this
   ·refine Or.elim (Nat.lt_or_eq_of_le h3) (fun h3=>?_) fun h3=>?_
    ·have h4:n1 < _:=gv h 12 i h3 (n:=17) rfl h2.2.1
     rw [e] at h4;exact nY q2 h4
    ·subst h3
     have:n1=a:=e;exact rJ q2 this
theorem wF:∀pr∈nsTab,58∈cl pr.1:=by decide+kernel
theorem xh:SOk 10 0 [] [[(fG,ofString "xml")]] [nsTab,[]] where
 opl:=Nat.le_refl 0
 nwl:=rfl
 nvl:=rfl
 opz:=fun _ h=>nomatch h
 nwz:=fun nw h=>by rw [br h];decide
 cov:=fun k hk u=>by
  have:k=0:=Nat.le_zero.mp hk;subst this;simp [bE,eq_comm]
 nwd:=fun pr h=>by
  refine am (us_mem.mp h) fun nw aj=>?_;refine ak aj fun h1 h2=>?_;rw [br h1] at h2;exact .inl (br h2)
 nvd:=fun nv hn pr hp=>by
  simp only [List.mem_cons,List.not_mem_nil,or_false] at hn
  rcases hn with rfl|rfl
  ·exact .inl (wF pr hp)
  ·cases hp
 nvz:=fun nv hn=>by
  simp only [List.mem_cons,List.not_mem_nil,or_false] at hn
  rcases hn with rfl|rfl<;>decide
theorem wz {g h:Heap} {L a:Addr} {led imm:ax} {o:Obj} {v:Option Value} {vs:List Value} {ts:List TD} (N:News g L h led) (hs:∀q∈imm,q∈led) (hc:(a,o)∈led) (ho:o.data= .cell v) (hT:ToldL imm vs ts):ToldL (imm.filter fun q=>decide (¬q.1=a)) vs ts:=by
 have key:∀q∈imm,(∀v,q.2.data≠ .cell v)->q∈imm.filter fun q=>decide (¬q.1=a):=fun q hq hn=>by
  refine List.mem_filter.mpr ⟨hq,decide_eq_true fun e=>hn v ?_⟩;have h1:=(N q (hs q hq)).1;have h2:=(N (a,o) hc).1;rw [e,h2] at h1;rw [<-Option.some.inj h1];exact ho
 refine ⟨hT.1,fun i t ht=>?_⟩;refine fV (hT.2 i t ht) fun tt ll ul rl vl vu vr k1 aj=>?_;refine aW aj fun k2 k3 x aZ=>?_;refine bv aZ fun e b1 bU dK pH=>?_;refine ak bU fun b2 b3=>?_;refine ak dK fun b4 b5=>?_;refine ak pH fun b6 b7=>?_;exact ⟨tt,ll,ul,rl,vl,vu,vr,k1,k2,k3,x,e,key _ b1 (fun v h=>nomatch h),⟨key _ b2 (fun v h=>nomatch h),b3⟩,⟨key _ b4 (fun v h=>nomatch h),b5⟩,⟨key _ b6 (fun v h=>nomatch h),b7⟩⟩
theorem Ik (L:Nat) (h:123<L):(L+1+1+1≠L+1/\L+1+1+1≠L+1+1)/\(L+1+1+1+1≠L+1/\L+1+1+1+1≠L+1+1)/\(L+1+1+1+1+1≠L+1/\L+1+1+1+1+1≠L+1+1)/\(L+1+1+1+1+1+1≠L+1/\L+1+1+1+1+1+1≠L+1+1)/\123≠L+1/\123≠L+1+1:=by exact DV h
theorem Ij (L:Nat) (h:123<L):L+1≠L+1+1+1/\L+1+1≠L+1+1+1/\L+1+1+1+1≠L+1+1+1/\L+1+1+1+1+1≠L+1+1+1/\L+1+1+1+1+1+1≠L+1+1+1/\123≠L+1+1+1:=by exact DU h
theorem Ii (L D wl nl:Nat) (h:123<L) (hD:L+1+1+1+1+1+1<D) (h1:wl≠L+1+1+1+1+1+1) (h2:nl≠L+1+1+1+1+1+1) (hm:L+1+1+1+1+1+1∈([D,L+1,L+1+1,L+1+1+1,L+1+1+1+1,L+1+1+1+1+1,123,nl,wl]:List Nat)):False:=by
 simp only [List.mem_cons,List.not_mem_nil,or_false] at hm
 rcases hm with h|h|h|h|h|h|h|h|h
 ·exact DT hD h
 ·exact DS h
 ·exact DR h
 ·exact DQ h
 ·exact DP h
 ·exact DO h
 ·exact DN h (by assumption)
 ·exact h2 h.symm
 ·exact h1 h.symm
noncomputable def kh (o1 o2 o3 o4 o5 o6:Obj) (sa:Addr) (vs:List Value) (ns:List Int):Prop:=HO w fun qual body scope=>∀(B:Below callerA g [] g) (X:(hd.heap_39 w.params).In g) (T:Top p a_ bz mg mb g) (F:Fr g L s.heap m) (N:News g L s.heap [(L+1+1+1+1+1+1,o6),(L+1+1+1+1+1,o5),(L+1+1+1+1,o4),(L+1+1+1,o3),(L+1+1,o2),(L+1,o1),(123,tabObj #[])]) (h1:o1.data= .cell none) (h2:o2.data= .cell none) (h3:o3.data= .cell none) (h4:o4.data= .cell none) (h5:o5.data= .cell none) (h6:o6.data= .cell none) (mS:m (ofString "script")=some (.ref sa)) (hS:g.IsList sa vs.toArray) (hI:IntsAre vs ns) (ba:ns.length<=63) (E_:CodeHd g 125 123) (h125:∃o,g.get? 125=some o) (Mj:123<L) (hQ:∀m' ps s',Fr g L s'.heap m'->s'.heap.get? 123=some (tabObj ps)->aM s s'->Q (.ret (.bool true)) s'),
 WX w qual scope L fa cd body Q E s
noncomputable def vy:=bA (gk kh) ((bw,default,[],fun _=>none,fun _=>none,fun _=>none,{},0),(0, .none,fun _=>none,{},fun _ _=>True,fun _ _=>True,default,default),(default,default,default,default,0,[],[]))
theorem Gm:∀{w p a_ bz mg mb g L fa cd m s Q E o1 o2 o3 o4 o5 o6 sa vs ns},kh w p a_ bz mg mb g L fa cd m s Q E o1 o2 o3 o4 o5 o6 sa vs ns:=by
 intros;apply fp kh (c:=vy) rfl;apply (?zg:eZ kh);intros w p a_ bz mg mb g L fa cd m s Q E o1 o2 o3 o4 o5 o6 sa vs ns;intros oc an name qual params body scope dV kV gF pm cA ct l_ z_ ho B X T F N h1 h2 h3 h4 h5 h6 mS hS hI ba E_ h125 Mj hQ;dsimp only [WX] at ⊢
 have n4:∀r∈[(L+1+1+1,o3),(L+1+1+1+1,o4),(L+1+1+1+1+1,o5),(L+1+1+1+1+1+1,o6),(123,tabObj #[])], @Ne Nat r.1 (L+1)/\ @Ne Nat r.1 (L+1+1):=by
  refine jB ?_;dsimp only [FA];exact Ik L Mj
 refine xT ho B X T (o1:=o1) (o2:=o2) (rest:=[(L+1+1+1,o3),(L+1+1+1+1,o4),(L+1+1+1+1+1,o5),(L+1+1+1+1+1+1,o6),(123,tabObj #[])]) F (bf N (by exact cz [5,4,3,2,1,0,6] rfl)) h1 h2 (fun r hr=>(n4 r hr).1) (fun r hr=>(n4 r hr).2) mS hS hI ba ?_;intros D t0 vd kd Pw s1 F1 N1 QS OV l1 l2 l3 S1;have PN:=Int.fmod_nonneg_of_pos (ns.sum+1) (by decide:(0:Int)<12);have OR:=Int.fmod_lt_of_pos (ns.sum+1) (by decide:(0:Int)<12);generalize (ns.sum+1).fmod 12=low at OV PN OR;have Nz:=HH ns;have MA:=HG ns
 have Um:3<=(fQ ns).length:=by unfold fQ;rw [List.length_append];simp
 generalize fQ ns=ds at QS Nz MA Um;have Rd:∀z∈ds,(bY low z).natAbs<2 ^ 92:=fun z hz=>Gp PN OR (pU (Nz z hz));refine xS ho B X T (D:=D) (rest:=[(L+1+1+1,o3),(L+1+1+1+1,o4),(L+1+1+1+1+1,o5),(L+1+1+1+1+1+1,o6),(123,tabObj #[])]) F1 N1 OV h2 (fun r hr=>(n4 r hr).2) (Nat.ne_of_gt l2) (if_pos rfl) QS MA PN OR (fun z hz=>pU (Nz z hz)) (fun z hz=>Nat.lt_trans (Rd z hz) (by decide)) (fun z _=>vT _) (fun z hz=>vU (Nat.lt_trans (Rd z hz) (by decide))) ?_;intros nl wl vn vw kn kw OD tl s2 F2 N2 ZY hwr WY Nv Mp Rm YH S2
 have NO:∀r∈[(wl,listOf (List.toArray vw) kw),(nl,listOf (List.toArray vn) kn),(D,listOf (List.toArray vd) kd),(L+1,Pw),(L+1+1,OD),(L+1+1+1+1,o4),(L+1+1+1+1+1,o5),(L+1+1+1+1+1+1,o6),(123,tabObj #[])]++tl, @Ne Nat r.1 (L+1+1+1):=by
  intro r hr;have z3:=Rm (L+1+1+1,o3) (.head _);have zD:=l3 (L+1+1+1,o3) (.head _);refine dI (Ij L Mj) fun y1 y2 y3 y4 y5 y6=>?_;refine Or.elim (aE hr) (fun hr=>?_) fun hr=>?_
  ·simp only [List.mem_cons,List.not_mem_nil,or_false] at hr
   rcases hr with rfl|rfl|rfl|rfl|rfl|rfl|rfl|rfl|rfl
   ·exact Ne.symm z3.2
   ·exact Ne.symm z3.1
   ·exact Nat.ne_of_gt zD
   all_goals assumption
  ·exact Ne.symm ((YH r hr).2.2 (L+1+1+1,o3) (.tail _ (.tail _ (.tail _ (.head _)))))
 refine xR ho B X T (o3:=o3) (rest:=[(wl,listOf (List.toArray vw) kw),(nl,listOf (List.toArray vn) kn),(D,listOf (List.toArray vd) kd),(L+1,Pw),(L+1+1,OD),(L+1+1+1+1,o4),(L+1+1+1+1+1,o5),(L+1+1+1+1+1+1,o6),(123,tabObj #[])]++tl) F2 (bf N2 (by exact aQ ⟨bI 5 rfl (ay _ (bJ 0 rfl)),aQ ⟨bJ 0 rfl,aQ ⟨bJ 1 rfl,aQ ⟨bJ 2 rfl,aQ ⟨bJ 3 rfl,aQ ⟨bJ 4 rfl,aQ ⟨bI 5 rfl (ay _ (bJ 1 rfl)),aQ ⟨bI 5 rfl (ay _ (bJ 2 rfl)),aQ ⟨bI 5 rfl (ay _ (bJ 3 rfl)),aQ ⟨bI 5 rfl (ay _ (bJ 4 rfl)),fun _ h=>bI 5 rfl (aL _ h)⟩⟩⟩⟩⟩⟩⟩⟩⟩⟩)) h3 NO ?_;intros x W d pc du ar td n0 n1 r0 xt t1 t2 NW nd nr na c fm NZ kp dg Q0 s3 F3 SO N3 Ri Pk ZF Za S3;have Sf:∀r∈[(wl,listOf (List.toArray vw) kw),(nl,listOf (List.toArray vn) kn),(D,listOf (List.toArray vd) kd),(L+1,Pw),(L+1+1,OD),(L+1+1+1+1,o4),(L+1+1+1+1+1,o5),(L+1+1+1+1+1+1,o6),(123,tabObj #[])]++tl, @LT.lt Nat _ r.1 pc:=ZF;have pD: @LT.lt Nat _ D pc:=Sf (D,_) (.tail _ (.tail _ (.head _)));have pw: @LT.lt Nat _ wl pc:=Sf (wl,_) (.head _);have pn: @LT.lt Nat _ nl pc:=Sf (nl,_) (.tail _ (.head _));have p6: @LT.lt Nat _ (L+1+1+1+1+1+1) pc:=Sf (L+1+1+1+1+1+1,o6) (.tail _ (.tail _ (.tail _ (.tail _ (.tail _ (.tail _ (.tail _ (.head _))))))));have d6: @LT.lt Nat _ (L+1+1+1+1+1+1) D:=l3 (L+1+1+1+1+1+1,o6) (.tail _ (.tail _ (.tail _ (.head _))))
 have q1:∀z∈([D,L+1,L+1+1,L+1+1+1,L+1+1+1+1,L+1+1+1+1+1,123]:List Nat),z≠nl/\z≠wl:=by
  intro z hz;refine Or.elim (aE (show z∈[D,L+1,L+1+1]++[L+1+1+1,L+1+1+1+1,L+1+1+1+1+1,123] from hz)) (fun h=>?_) fun h=>?_
  ·exact Nv z h
  ·simp only [List.mem_cons,List.not_mem_nil,or_false] at h
   rcases h with rfl|rfl|rfl|rfl
   ·exact Rm (L+1+1+1,o3) (.head _)
   ·exact Rm (L+1+1+1+1,o4) (.tail _ (.head _))
   ·exact Rm (L+1+1+1+1+1,o5) (.tail _ (.tail _ (.head _)))
   ·exact Rm (123,tabObj #[]) (.tail _ (.tail _ (.tail _ (.tail _ (.head _)))))
 have Yf:=Fe Pk pD pw pn p6 Mj d6 q1 Mp;have Lf:=fun {a:Nat}=> @E7 L pc du x.write d W x.data xt r0 x.decl x.nss n0 n1 x.pmap x.pres ar td D wl nl Pk pD pw pn p6 Mj a;generalize WU:([D,L+1,L+1+1,L+1+1+1,L+1+1+1+1,L+1+1+1+1+1,123,nl,wl,pc,du,x.write,d,W,x.data,x.decl,x.nss,n0,n1,x.pres,ar,td]:List Nat)=F0 at Yf Lf
 have X2:F0.length=22:=by rw [<-WU];rfl
 let f:FXD:=⟨x,W,d,pc,du,ar,td,D,wl,nl,na,kd,kw,kn,vd,vw,vn,Q0,OD⟩;let t:TSD:={n:=⟨17,false,false⟩,n2:=NW,n3:=nd,n4:=kp,n5:=0,n6:=0,n7:=0,n8:=0,rows:=[(r0,#[Value.ref xt])],R:=[(n0,fm.toList,c),(n1,[],0)],nv:=[Value.ref n0, .ref n1],pi:=[.bool false],its:=[],dus:=[],ars:=[],tds:=[],ok:=o4,ou:=o5,tb:=#[],cT:=L+1,oT:=Pw,imm:=(L+1+1+1+1+1+1,o6)::(r0,listOf #[Value.ref xt] nr)::(xt,aO [.str (ofString "http://www.w3.org/XML/1998/namespace") t1, .str (ofString "xml") t2])::(tl++dg),ex:=[],op:=[],nws:=[[(fG,ofString "xml")]],nvs:=[nsTab,[]],ps:=[],qs:=[],ts:=[]};dsimp only [List.cons_append,List.nil_append] at N3;have N4:News g L s3.heap ((W,instObj 150 d)::(d,dictOf (ci w.params x false false) 17)::(x.data,listOf #[] na)::(x.nss,listOf #[Value.ref n0, .ref n1] NW)::(x.decl,listOf #[Value.ref r0] nd)::(x.pres,listOf #[.bool false] kp)::(x.write,bT pc)::(pc,listOf #[] 0)::(du,listOf #[] 0)::(ar,listOf #[] 0)::(L+1+1+1,Q0)::(L+1+1+1+1,o4)::(D,listOf (List.toArray vd) kd)::(L+1+1,OD)::(L+1+1+1+1+1,o5)::(td,listOf #[] 0)::(wl,listOf (List.toArray vw) kw)::(nl,listOf (List.toArray vn) kn)::(123,tabObj #[])::(L+1,Pw)::(n0,listOf fm c)::(n1,listOf #[] 0)::(L+1+1+1+1+1+1,o6)::(r0,listOf #[Value.ref xt] nr)::(xt,aO [.str (ofString "http://www.w3.org/XML/1998/namespace") t1, .str (ofString "xml") t2])::(tl++dg)):=bf N3 (by exact cv [1,2,3,4,5,6,7,8,9,10,0,22,19,21,23,11,17,18,25,20,12,13,24,14,15] 26 rfl rfl);have N5:News g L s3.heap (ee w.params L f t):=N4;clear N4 N3
 have Yh:∀r∈t.imm,r.1∉F0:=by
  intro r hr
  rcases aB hr with rfl|hr
  ·refine Lf (fun _ hm=>?_) (.inl p6)
   have e1:=Rm (L+1+1+1+1+1+1,o6) (.tail _ (.tail _ (.tail _ (.head _))));exact Ii L D wl nl Mj d6 (Ne.symm e1.2) (Ne.symm e1.1) hm
  ·rcases aB hr with rfl|hr
   ·exact Lf (fun h=>absurd h (Nat.lt_asymm (gv Pk 1 8 (by decide) (n:=17) rfl (by decide)))) (.inr (.inr (.inl rfl)))
   ·rcases aB hr with rfl|hr
    ·exact Lf (fun h=>absurd h (Nat.lt_asymm (gv Pk 1 7 (by decide) (n:=17) rfl (by decide)))) (.inr (.inl rfl))
    ·refine Or.elim (aE hr) (fun hr=>?_) fun hr=>?_
     ·refine aI (YH r hr) fun e1 e2 e3=>?_
      replace e3:=gJ e3;dsimp only [FA] at e3;refine fe e3 fun b1 b2 b3 b4 b5 b6 b7 b8=>?_;clear e3;refine Lf (fun _ hm=>?_) (.inl (Sf r (ay _ hr)));simp only [List.mem_cons,List.not_mem_nil,or_false] at hm
      rcases hm with h|h|h|h|h|h|h|h|h
      ·exact b1 h.symm
      ·exact b2 h.symm
      ·exact b3 h.symm
      ·exact b4 h.symm
      ·exact b5 h.symm
      ·exact b6 h.symm
      ·exact b8 h.symm
      ·exact e1 h
      ·exact e2 h
     ·have e1:=(Za r hr).2
      exact Lf (fun h=>absurd h (Nat.lt_asymm (Nat.lt_trans (gv Pk 1 11 (by decide) (n:=17) rfl (by decide)) e1.1))) (.inr (.inr (.inr e1)))
 have Wf:cO L f (L+1)++ch t.R=pk F0 [13,12,14,16,15,19,11,9,10,20,3,4,0,2,5,21,8,7,6,1,17,18]:=by rw [<-WU];rfl
 have TG:∀q∈tl++dg,q∈t.imm:=fun q hq=> .tail _ (.tail _ (.tail _ hq))
 have hT:TOk [(L+1+1+1+1+1+1,o6)] L f ds low 0 (none:Option Value) t:={
  keep:=fun q hq=>by rw [br hq];exact .head _
  sok:=xh
  pok:=⟨rfl,Nat.le_refl 0,Nat.le_refl 0,(fun _ h=>nomatch h),(fun _ h=>nomatch h)⟩
  tok:=fun _ h=>nomatch h
  tl:=rfl
  rows:=⟨⟨⟨nr, .tail _ (.head _)⟩,rfl,fun i u h=>by
   rcases i with _|i
   ·cases h;exact ⟨xt,t1,t2,rfl, .tail _ (.tail _ (.head _))⟩
   ·simp at h⟩,trivial⟩
  nr:=⟨⟨by rw [Array.length_toList,Ri.1];rfl,fun i u h=>by
   refine aW (Ri.2 i u h) fun a t1 t2 aj=>?_;refine ak aj fun e1 e2=>?_
   exact ⟨a,t1,t2,by rw [Array.getElem?_toList];exact e1,TG _ (ay _ e2)⟩⟩,⟨rfl,fun i u h=>by simp at h⟩,trivial⟩
  nv:=rfl
  pil:=rfl
  its:= .nil
  dus:= .nil
  ars:=⟨rfl,fun i u h=>(nomatch (show none=some u from h))⟩
  tds:=⟨rfl,fun i u h=>(nomatch (show none=some u from h))⟩
  ok:=h4
  ou:=⟨_,h5⟩
  lam:=⟨trivial, .inl rfl,fun vs e=>by have h:=OV;rw [show Pw=aO vs from e] at h;cases h⟩
  ex:=rfl
  nod:=by rw [show t.cT=L+1 from rfl,Wf];exact gz Yf X2 _ (by decide) (by decide)
  dis:=fun r hr hm=>Yh r hr (by rw [show t.cT=L+1 from rfl,Wf] at hm;exact lk (by rw [X2];decide) _ hm)
  wr:=hwr.mono fun q hq=>TG q (aL _ hq)}
 have hf:FOk f ds low:=⟨SO,WY,QS,ZY,MA,fun z hz=>Nat.lt_of_le_of_lt (Nz z hz) (by decide),Rd⟩
 have hm:MOk f (fun y=>if y=ofString "told" then some (.ref td) else if y=ofString "writer" then some (.ref W) else if y=ofString "due" then some (.ref du) else if y=ofString "pieces" then some (.ref pc) else if y=ofString "numbers" then some (.ref nl) else if y=ofString "deeds" then some (.ref D) else m y):=
  ⟨(if_neg (by decide)).trans (if_pos rfl),(if_neg (by decide)).trans ((if_neg (by decide)).trans (if_pos rfl)),(if_neg (by decide)).trans ((if_neg (by decide)).trans ((if_neg (by decide)).trans ((if_neg (by decide)).trans ((if_neg (by decide)).trans (if_pos rfl))))),(if_neg (by decide)).trans ((if_neg (by decide)).trans ((if_neg (by decide)).trans ((if_neg (by decide)).trans (if_pos rfl)))),(if_neg (by decide)).trans ((if_neg (by decide)).trans ((if_neg (by decide)).trans (if_pos rfl))),if_pos rfl⟩
 refine xB ho B X T F3 N5 hT hf hm E_ h125 ?_;intros t' TZ m' s4 ht Nb F4 N6 S4
 clear_value f
 clear N5 hT Wf TG Yh
 clear_value t
 clear t;rename TSD=>t
 have Pm:(bH L f t).length=20:=by rw [List.length_append,ht.ex];rfl
 have hE:bH L f t=cO L f t.cT:=by unfold bH;rw [ht.ex];exact List.append_nil _
 have hF:(bH L f t).Nodup:=by rw [hE];exact (List.nodup_append.mp ht.nod).1
 have Oo:∀r∈bM t.R++t.imm,r.1∉bH L f t:=fun r hr h=>by
  rw [hE] at h;refine Or.elim (aE hr) (fun hr=>?_) fun hr=>?_
  ·exact (List.nodup_append.mp ht.nod).2.2 _ h r.1 (by rw [<-gf];exact List.mem_map_of_mem hr) rfl
  ·exact ht.dis r hr (aL _ h)
 have rl:=ht.rows.len;have ZQ:=ht.nr.len;have al:=ht.ars.1;have sok:=ht.sok;have nw:=sok.nwl;have nv:=sok.nvl;have ol:=sok.opl;have ul:=sok.ulen MA;have pl:=ht.pok.pl;have ql:=ht.pok.ql;have il:=ht.its.length;have dl:=ht.dus.length
 have Rz:t.nv.length=t.R.length:=by rw [ht.nv];simp [dN]
 have R2:∀q∈t.imm,q∈[13,14,15,16,17,18,19].map (en w.params L f t)++(bM t.R++t.imm):=fun q hq=>ay _ (ay _ hq)
 refine xF ho B X T (x:=f.x) (W:=f.W) (d:=f.d) (pc:=f.pc) (du:=f.du) (ar:=f.ar) (D:=f.D) (n:=t.n) (n1:=f.n1) (n2:=t.n2) (n3:=t.n3) (n4:=t.n4) (n5:=t.n5) (n6:=t.n6) (n7:=t.n7) (kd:=f.kd) (dep:=t.op.length) (rows:=t.rows) (nws:=t.nws) (ni:=t.nv) (pi:=t.pi) (its:=t.its) (dus:=t.dus) (ars:=t.ars) (vd:=f.vd) (oar:=f.oar) (ok:=t.ok) (ps:=t.ps) (qs:=t.qs) (rest:=[13,14,15,16,17,18,19].map (en w.params L f t)++(bM t.R++t.imm))
  F4 (show News g L s4.heap (all20.map (en w.params L f t)++(bM t.R++t.imm)) from N6) hf.hoa Nb.mW Nb.mU (gz hF Pm [0,1,2,3,4,5,6,7,8,9] (by decide) (by decide)) (ik (dH w.params L f t) hF Pm [0,1,2,3,4,5,6,7,8,9] (by decide) [10,11,12,13,14,15,16,17,18,19] (by decide) (by decide) Oo)
  (ht.rows.mono R2) (rR nw rl) (rQ nv ZQ Rz) (by have:=ht.pil;exact og this) (rP al) (DM MA ol) (rI il pl MA) (rI dl ql MA) ht.its ht.dus sok.ne (rN ul) ?_
 intros cc b_ m1 n' b WE VW Wl SP Sl Uc M5 PO s5 hc _ hm1 QI R8 F5 N7 S5;have So:MOk f m1:=Nb.upd (ofString "turn") (by decide) hm1
 have N8:News g L s5.heap ((f.du,listOf PO.toArray Sl)::(f.pc,listOf M5.toArray SP)::(f.td,listOf t.tds.toArray t.n8)::(123,tabObj t.tb)::t.imm):=bf N7 fun q hq=>by
  rcases aB hq with rfl|hq
  ·exact ay _ (.head _)
  ·rcases aB hq with rfl|hq
   ·exact aL _ (.tail _ (.tail _ (.tail _ (.tail _ (.tail _ (.tail _ (.tail _ (.head _))))))))
   ·refine ay _ (.tail _ (.tail _ (.tail _ (.tail _ (.tail _ ?_)))))
    rcases aB hq with rfl|hq
    ·exact aL _ (List.mem_map.mpr ⟨15,by decide,rfl⟩)
    ·rcases aB hq with rfl|hq
     ·exact aL _ (List.mem_map.mpr ⟨18,by decide,rfl⟩)
     ·exact R2 q hq
 refine aI ((ht.pok.ends (c:=6) (n:=cc) (DK hc MA ol)).join (DJ MA)) fun j1 j2 j3=>?_;refine xE ho B X T F5 N8 So.mU So.mP QI R8 j1 j2 j3 ?_;intros s6 S6 F6 N9;have m6:=ht.keep (L+1+1+1+1+1+1,o6) (.head _);have Vg:L+1+1+1+1+1+1∉cO L f t.cT:=fun h=>ht.dis _ m6 (aL _ h);have RT:∀q∈t.imm,q∈(f.du,listOf PO.toArray Sl)::(f.pc,listOf M5.toArray SP)::(f.td,listOf t.tds.toArray t.n8)::(123,tabObj t.tb)::t.imm:=fun q hq=> .tail _ (.tail _ (.tail _ (.tail _ hq)));refine xC ho B X T (td:=f.td) (k0:=t.n8) (tds:=t.tds) (ts:=t.ts) (oh:=o6) (vh:=none) (rest:=(123,tabObj t.tb)::t.imm.filter fun q=>decide (¬q.1=L+1+1+1+1+1+1)) F6 (bf N9 ?sub) h6 ?off So.mT ((wz N9 RT (RT _ m6) h6 ht.tds).mono fun q hq=> .tail _ hq) ht.tok (by have:=ht.tl;exact DI this MA) ?_
 case sub=>
  intro q hq
  rcases aB hq with rfl|hq
  ·exact RT _ m6
  ·rcases aB hq with rfl|hq
   ·exact .tail _ (.tail _ (.head _))
   ·rcases aB hq with rfl|hq
    ·exact .tail _ (.tail _ (.tail _ (.head _)))
    ·exact RT q (List.mem_filter.mp hq).1
 case off=>
  intro r hr
  rcases aB hr with rfl|hr
  ·exact fun e=>Vg (by rw [<-show f.td=L+1+1+1+1+1+1 from e];simp)
  ·rcases aB hr with rfl|hr
   ·exact fun e=>Vg (by rw [<-show 123=L+1+1+1+1+1+1 from e];simp)
   ·exact of_decide_eq_true (List.mem_filter.mp hr).2
 intros m7 oh7 s7 F7 W8 S7;exact hQ m7 t.tb s7 F7 (W8 (123,tabObj t.tb) (.tail _ (.tail _ (.head _)))).1 (SameF.trans S1 (SameF.trans S2 (SameF.trans S3 (SameF.trans S4 (SameF.trans S5 (SameF.trans S6 S7))))))
theorem I5:True:=by w_top off;trivial
theorem Gl {aT h:Heap} {L:Addr} {m:Str->Option Value} {ps:Array Value} (hT:TabsAt [(125,123)] aT) (F:Fr (ghostOf aT [(125,123)]) L h m) (hp:h.get? 123=some (tabObj ps)):OldK aT h:=by
 have keep:∀b o,b∉[123]->aT.get? b=some o->h.get? b=some o:=fun b o hb e=>F.keep b o (ghost_ne e hb);have h2:=(hT (125,123) (.head _)).2;refine ⟨fun b o e=>?_,fun b o e=>?_⟩
 ·by_cases hb:b∈[123]
  ·rw [br hb] at e ⊢
   rw [show aT.get? 123=some (tabObj #[]) from h2] at e
   cases e
   exact .inr (.inl ⟨((hT (125,123) (.head _)).1.tab h2).isCodeTable,rfl,#[],ps,rfl,by rw [Array.empty_append];exact hp⟩)
  ·exact .inl (keep b o hb e)
 ·by_cases hb:b∈[123]
  ·rw [br hb];exact ⟨_,hp⟩
  ·exact ⟨o,keep b o hb e⟩
theorem top:PySem.Challenge.rw_ty0067_01.Holds:=hd (by
 k_fill;intros w aR s₁ mg mb G Y fa o pm cd gF dV kV ho hd Pa hD XO hg args aak as ZK Zt hrd hwl P3;have KX:=km_in_of Y
 km_tabs Y
 have X:=(Ground.X G).1;have V:=(Ground.X G).2;refine Ground.open G ?_;intros T B D TE TW
 try (refine guard_noD D (by decide+kernel) ?_;clear D)
 km_lay T XO ho hd cd
 clear XO
 wrow_args ZK Zt hrd hwl P3
 all_goals (
  first|refine callC_kw (enter_call ?_)|refine enter_call ?_
  w_top on
  w_call any ho hd Pa hD T F
  clear hd
  kn_ghosts F T
  k_drop
  skip)
 rename IntsAre _ _=>hI;rename ¬(_:Int) < _=>ba;rename_i aT iO p5 p4 p3 p2 p1 p0 c5 c4 c3 c2 c1 c0 X0 XX TT BB FF NN l0;refine' o7 (K:=hd.heap_39 w.params) (f:=212) ?h1 ?main
 case h1=>k_is
 intro hof;refine Gm hof BB XX TT FF NN ?c0 ?c1 ?c2 ?c3 ?c4 ?c5 ?mS lifted hI ?len codeHd ?h125 l0.1 ?fin
 case c0=>exact c0
 case c1=>exact c1
 case c2=>exact c2
 case c3=>exact c3
 case c4=>exact c4
 case c5=>exact c5
 case mS=>rfl
 case len=>exact DH ba
 case h125=>exact codeHd.imp fun o h=>by obtain ⟨_,_,_,_,_,_,_,_,h,_⟩:=h;exact h
 case fin=>
  intros m7 ps s7 F7 hp S7;refine ⟨.inl ⟨_,_,[],rfl,(fun _=>rfl),ReadsW.bool true,?post,fun _=>⟨List.nodup_nil,fun _ hm=>(nomatch hm)⟩⟩,Gl hT9 F7 hp,S7.1,S7.2 ?g⟩
  case post=>first|rfl|wrow_post
  case g=>exact .of_eq hg)
end Mine
theorem PySem.Challenge.cw_ty0067_01_holds : PySem.Challenge.rw_ty0067_01.Holds :=
  Mine.top
