import PyProof.Rows.All
import Wide.All
import OpenK.AllK
import Wide.FinOn
import KE.KRevIter
import KE.KLam
import PyProof.Rows.TupMore
import PyProof.WalksEnum
import PyProof.ExcStr
import PyProof.RulesAs
import PyProof.ExcStrCall
import PyProof.NsDelKeeps
import PyProof.ZipIter
import PyProof.Draws
import KE.KItemsList
import KE.KDictOf
import PyProof.AttrMiss
import PyProof.AttrMissHeap
import PySem.Challenge.RW_sc0050_01
set_option genSizeOf false
set_option genInjectivity false
set_option genCtorIdx false
set_option compiler.extract_closed false
open PySem PyProof.Rows
set_option Elab.async false
set_option linter.unusedVariables false
set_option linter.unusedSimpArgs false
namespace Sc
/-! the program's end -/
noncomputable def tV:Value→Option Addr
 | .ref a=>some a
 | _=>none
theorem oB{v:Value}{a:Addr}(h:tV v=some a):v=.ref a:=by
 cases v<;>first|(cases h;rfl)| cases h
noncomputable def aDD(x:Str):Data→Option Addr
 | .dict es _=>(nsFind es x).bind tV
 | _=>none
noncomputable def aDE:Data→Option Addr
 | .func fd=>tV fd.code
 | _=>none
noncomputable def aEw:Data→Option Addr
 | .fields vs=>tV (vs.getD 11 .none)
 | _=>none
noncomputable def wX(h:Heap)(b:Addr)(f:Data→Option Addr):Option Addr:=(h.get? b).bind λo=>f o.data
noncomputable def lP(h:Heap)(x:Str)(a c P:Addr):Bool:=wX h mainGlobals (aDD x) == some a && wX h a aDE == some c && wX h c aEw == some P
noncomputable def viewP:Program:={ PySem.Challenge.pw_sc0050_01 with main:={ PySem.Challenge.pw_sc0050_01.main with body:=[1,2,4,5,6,7,8,9,10,12,14,15,16,17,18,19,20,21].map λi=>PySem.Challenge.pw_sc0050_01.main.body.getD i (.Pass ⟨0,0,0,0⟩) } }
noncomputable def seen(s:Shared):Bool:=(lP s.heap "_law_lexer" 112 111 107 && lP s.heap "_int2digits" 42 41 37) && (lP s.heap "_digits2int" 49 48 44 && lP s.heap "_law_run" 124 123 119)
set_option maxRecDepth 100000 in
theorem left_w:PySem.W.LeftO PySem.Challenge.pw_sc0050_01 viewP [] (λs=>PySem.W.xlAt viewP [] s && PySem.W.recOk [] s) seen (λ_=>true) 2036:=by
 intro w;kernel_rfl
end Sc

namespace Sc
set_option tactic.hygienic false
section
universe u u1 u2 u3 u4
theorem cL{A B P:Prop}(h:A∧B)(k:A→B→P):P:=k h.1 h.2
theorem jW{A B C P:Prop}(h:A∧B∧C)(k:A→B→C→P):P:=k h.1 h.2.1 h.2.2
theorem lQ{A B C D P:Prop}(h:A∧B∧C∧D)(k:A→B→C→D→P):P:=k h.1 h.2.1 h.2.2.1 h.2.2.2
theorem an5{A B C D E P:Prop}(h:A∧B∧C∧D∧E)(k:A→B→C→D→E→P):P:=k h.1 h.2.1 h.2.2.1 h.2.2.2.1 h.2.2.2.2
theorem an6{A B C D E F P:Prop}(h:A∧B∧C∧D∧E∧F)(k:A→B→C→D→E→F→P):P:=k h.1 h.2.1 h.2.2.1 h.2.2.2.1 h.2.2.2.2.1 h.2.2.2.2.2
theorem aN{α:Sort u}{A:α→Prop}{P:Prop}(h:∃x,A x)(k:∀x,A x→P):P:=h.elim λx h=>k x h
theorem aL{α:Sort u}{A B:α→Prop}{P:Prop}(h:∃x,A x∧B x)(k:∀x,A x→B x→P):P:=h.elim λx h=>k x h.1 h.2
theorem cZ{α:Sort u}{A B C:α→Prop}{P:Prop}(h:∃x,A x∧B x∧C x)(k:∀x,A x→B x→C x→P):P:=h.elim λx h=>k x h.1 h.2.1 h.2.2
theorem tW{α:Sort u}{A B C D:α→Prop}{P:Prop}(h:∃x,A x∧B x∧C x∧D x)(k:∀x,A x→B x→C x→D x→P):P:=h.elim λx h=>k x h.1 h.2.1 h.2.2.1 h.2.2.2
theorem tX{α:Sort u}{A B C D E:α→Prop}{P:Prop}(h:∃x,A x∧B x∧C x∧D x∧E x)(k:∀x,A x→B x→C x→D x→E x→P):P:=h.elim λx h=>k x h.1 h.2.1 h.2.2.1 h.2.2.2.1 h.2.2.2.2
theorem aFN{α:Sort u}{A B C D E F G:α→Prop}{P:Prop}(h:∃x,A x∧B x∧C x∧D x∧E x∧F x∧G x)(k:∀x,A x→B x→C x→D x→E x→F x→G x→P):P:=h.elim λx h=>k x h.1 h.2.1 h.2.2.1 h.2.2.2.1 h.2.2.2.2.1 h.2.2.2.2.2.1 h.2.2.2.2.2.2
theorem aDF{α:Sort u}{β:Sort u1}{A:α→β→Prop}{P:Prop}(h:∃x y,A x y)(k:∀x y,A x y→P):P:=h.elim λx h=>h.elim λy h=>k x y h
theorem cJ{α:Sort u}{β:Sort u1}{A B:α→β→Prop}{P:Prop}(h:∃x y,A x y∧B x y)(k:∀x y,A x y→B x y→P):P:=h.elim λx h=>h.elim λy h=>k x y h.1 h.2
theorem cU{α:Sort u}{β:Sort u1}{A B C:α→β→Prop}{P:Prop}(h:∃x y,A x y∧B x y∧C x y)(k:∀x y,A x y→B x y→C x y→P):P:=h.elim λx h=>h.elim λy h=>k x y h.1 h.2.1 h.2.2
theorem aDG{α:Sort u}{β:Sort u1}{A B C D:α→β→Prop}{P:Prop}(h:∃x y,A x y∧B x y∧C x y∧D x y)(k:∀x y,A x y→B x y→C x y→D x y→P):P:=h.elim λx h=>h.elim λy h=>k x y h.1 h.2.1 h.2.2.1 h.2.2.2
theorem aEx{α:Sort u}{β:Sort u1}{A B C D E:α→β→Prop}{P:Prop}(h:∃x y,A x y∧B x y∧C x y∧D x y∧E x y)(k:∀x y,A x y→B x y→C x y→D x y→E x y→P):P:=h.elim λx h=>h.elim λy h=>k x y h.1 h.2.1 h.2.2.1 h.2.2.2.1 h.2.2.2.2
theorem aFO{α:Sort u}{β:Sort u1}{A B C D E F:α→β→Prop}{P:Prop}(h:∃x y,A x y∧B x y∧C x y∧D x y∧E x y∧F x y)(k:∀x y,A x y→B x y→C x y→D x y→E x y→F x y→P):P:=h.elim λx h=>h.elim λy h=>k x y h.1 h.2.1 h.2.2.1 h.2.2.2.1 h.2.2.2.2.1 h.2.2.2.2.2
theorem aFP{α:Sort u}{β:Sort u1}{A B C D E F G H:α→β→Prop}{P:Prop}(h:∃x y,A x y∧B x y∧C x y∧D x y∧E x y∧F x y∧G x y∧H x y)(k:∀x y,A x y→B x y→C x y→D x y→E x y→F x y→G x y→H x y→P):P:=h.elim λx h=>h.elim λy h=>k x y h.1 h.2.1 h.2.2.1 h.2.2.2.1 h.2.2.2.2.1 h.2.2.2.2.2.1 h.2.2.2.2.2.2.1 h.2.2.2.2.2.2.2
theorem aFQ{α:Sort u}{β:Sort u1}{γ:Sort u2}{A:α→β→γ→Prop}{P:Prop}(h:∃x y z,A x y z)(k:∀x y z,A x y z→P):P:=h.elim λx h=>h.elim λy h=>h.elim λz h=>k x y z h
theorem aAq{α:Sort u}{β:Sort u1}{γ:Sort u2}{A B:α→β→γ→Prop}{P:Prop}(h:∃x y z,A x y z∧B x y z)(k:∀x y z,A x y z→B x y z→P):P:=h.elim λx h=>h.elim λy h=>h.elim λz h=>k x y z h.1 h.2
theorem dT{α:Sort u}{β:Sort u1}{γ:Sort u2}{A B C:α→β→γ→Prop}{P:Prop}(h:∃x y z,A x y z∧B x y z∧C x y z)(k:∀x y z,A x y z→B x y z→C x y z→P):P:=h.elim λx h=>h.elim λy h=>h.elim λz h=>k x y z h.1 h.2.1 h.2.2
theorem wY{α:Sort u}{β:Sort u1}{γ:Sort u2}{A B C D:α→β→γ→Prop}{P:Prop}(h:∃x y z,A x y z∧B x y z∧C x y z∧D x y z)(k:∀x y z,A x y z→B x y z→C x y z→D x y z→P):P:=h.elim λx h=>h.elim λy h=>h.elim λz h=>k x y z h.1 h.2.1 h.2.2.1 h.2.2.2
theorem aFR{α:Sort u}{β:Sort u1}{γ:Sort u2}{A B C D E:α→β→γ→Prop}{P:Prop}(h:∃x y z,A x y z∧B x y z∧C x y z∧D x y z∧E x y z)(k:∀x y z,A x y z→B x y z→C x y z→D x y z→E x y z→P):P:=h.elim λx h=>h.elim λy h=>h.elim λz h=>k x y z h.1 h.2.1 h.2.2.1 h.2.2.2.1 h.2.2.2.2
theorem aDH{α:Sort u}{β:Sort u1}{γ:Sort u2}{A B C D E F:α→β→γ→Prop}{P:Prop}(h:∃x y z,A x y z∧B x y z∧C x y z∧D x y z∧E x y z∧F x y z)(k:∀x y z,A x y z→B x y z→C x y z→D x y z→E x y z→F x y z→P):P:=h.elim λx h=>h.elim λy h=>h.elim λz h=>k x y z h.1 h.2.1 h.2.2.1 h.2.2.2.1 h.2.2.2.2.1 h.2.2.2.2.2
theorem aEy{α:Sort u}{β:Sort u1}{γ:Sort u2}{δ:Sort u3}{A B:α→β→γ→δ→Prop}{P:Prop}(h:∃x y z w,A x y z w∧B x y z w)(k:∀x y z w,A x y z w→B x y z w→P):P:=h.elim λx h=>h.elim λy h=>h.elim λz h=>h.elim λw h=>k x y z w h.1 h.2
theorem aFS{α:Sort u}{β:Sort u1}{γ:Sort u2}{δ:Sort u3}{A B C:α→β→γ→δ→Prop}{P:Prop}(h:∃x y z w,A x y z w∧B x y z w∧C x y z w)(k:∀x y z w,A x y z w→B x y z w→C x y z w→P):P:=h.elim λx h=>h.elim λy h=>h.elim λz h=>h.elim λw h=>k x y z w h.1 h.2.1 h.2.2
theorem aDI{α:Sort u}{β:Sort u1}{γ:Sort u2}{δ:Sort u3}{A B C D:α→β→γ→δ→Prop}{P:Prop}(h:∃x y z w,A x y z w∧B x y z w∧C x y z w∧D x y z w)(k:∀x y z w,A x y z w→B x y z w→C x y z w→D x y z w→P):P:=h.elim λx h=>h.elim λy h=>h.elim λz h=>h.elim λw h=>k x y z w h.1 h.2.1 h.2.2.1 h.2.2.2
theorem aDJ{α:Sort u}{β:Sort u1}{γ:Sort u2}{δ:Sort u3}{A B C D E:α→β→γ→δ→Prop}{P:Prop}(h:∃x y z w,A x y z w∧B x y z w∧C x y z w∧D x y z w∧E x y z w)(k:∀x y z w,A x y z w→B x y z w→C x y z w→D x y z w→E x y z w→P):P:=h.elim λx h=>h.elim λy h=>h.elim λz h=>h.elim λw h=>k x y z w h.1 h.2.1 h.2.2.1 h.2.2.2.1 h.2.2.2.2
theorem aEz{α:Sort u}{β:Sort u1}{γ:Sort u2}{δ:Sort u3}{ε:Sort u4}{A B C D:α→β→γ→δ→ε→Prop}{P:Prop}(h:∃x y z w v,A x y z w v∧B x y z w v∧C x y z w v∧D x y z w v)(k:∀x y z w v,A x y z w v→B x y z w v→C x y z w v→D x y z w v→P):P:=h.elim λx h=>h.elim λy h=>h.elim λz h=>h.elim λw h=>h.elim λv h=>k x y z w v h.1 h.2.1 h.2.2.1 h.2.2.2
theorem aFT{α:Sort u}{β:Sort u1}{γ:Sort u2}{δ:Sort u3}{ε:Sort u4}{A B C D E:α→β→γ→δ→ε→Prop}{P:Prop}(h:∃x y z w v,A x y z w v∧B x y z w v∧C x y z w v∧D x y z w v∧E x y z w v)(k:∀x y z w v,A x y z w v→B x y z w v→C x y z w v→D x y z w v→E x y z w v→P):P:=h.elim λx h=>h.elim λy h=>h.elim λz h=>h.elim λw h=>h.elim λv h=>k x y z w v h.1 h.2.1 h.2.2.1 h.2.2.2.1 h.2.2.2.2
theorem aCo{α:Sort u}{β:Sort u1}{γ:Sort u2}{δ:Sort u3}{ε:Sort u4}{A B C D E F:α→β→γ→δ→ε→Prop}{P:Prop}(h:∃x y z w v,A x y z w v∧B x y z w v∧C x y z w v∧D x y z w v∧E x y z w v∧F x y z w v)(k:∀x y z w v,A x y z w v→B x y z w v→C x y z w v→D x y z w v→E x y z w v→F x y z w v→P):P:=h.elim λx h=>h.elim λy h=>h.elim λz h=>h.elim λw h=>h.elim λv h=>k x y z w v h.1 h.2.1 h.2.2.1 h.2.2.2.1 h.2.2.2.2.1 h.2.2.2.2.2
theorem bN{α:Type u}{a:α}{P:Prop}(h:none=some a):P:=nomatch h
theorem dN{α:Type u}{a:α}{P:Prop}(h:some a=none):P:=nomatch h
theorem dK{P:Prop}(h:false=true):P:=nomatch h
theorem dO{P:Prop}(h:true=false):P:=nomatch h
theorem aDi{α:Type u}{a:α}{l:List α}{P:Prop}(h:a::l=[]):P:=nomatch h
end
/-! linear facts by a certificate: LX over naturals,IX over integers -/
inductive LX
 | k (n:Nat)
 | v (i:Nat)
 | a (x y:LX)
 | l (n:Nat) (x:LX)
 | r (x:LX) (n:Nat)
inductive IX
 | k (n:Int)
 | v (i:Nat)
 | c (x:LX)
 | a (x y:IX)
 | s (x y:IX)
 | g (x:IX)
 | l (n:Int) (x:IX)
inductive CX
 | le (x y:LX)
 | lt (x y:LX)
 | eq (x y:LX)
 | ile (x y:IX)
 | ilt (x y:IX)
 | ieq (x y:IX)
 | no
 | t (n:Nat) (x:CX)
noncomputable def LX.d(c:List Nat):LX→Nat
 | .k n=>n
 | .v i=>c.getD i 0
 | .a x y=>x.d c+y.d c
 | .l n x=>n*x.d c
 | .r x n=>x.d c*n
noncomputable def IX.d(c:List Nat)(e:List Int):IX→Int
 | .k n=>n
 | .v i=>e.getD i 0
 | .c x=>((x.d c:Nat):Int)
 | .a x y=>x.d c e+y.d c e
 | .s x y=>x.d c e - y.d c e
 | .g x=>- x.d c e
 | .l n x=>n*x.d c e
noncomputable def CX.d(c:List Nat)(e:List Int):CX→Prop
 | .le x y=>x.d c≤y.d c
 | .lt x y=>x.d c<y.d c
 | .eq x y=>x.d c=y.d c
 | .ile x y=>x.d c e≤y.d c e
 | .ilt x y=>x.d c e<y.d c e
 | .ieq x y=>x.d c e=y.d c e
 | .no=>False
 | .t _ x=>x.d c e
noncomputable def HX(c:List Nat)(e:List Int)(q:Prop):List CX→Prop
 | []=>q
 | x::r=>x.d c e→HX c e q r
noncomputable def dot:List Int→(Nat→Int)→Int
 | [],_=>0
 | a::as,f=>a*f 0+dot as λi=>f (i+1)
noncomputable def addL:List Int→List Int→List Int
 | [],y=>y
 | x,[]=>x
 | a::as,b::bs=>(a+b)::addL as bs
noncomputable def aAr(n:Int):List Int→List Int
 | []=>[]
 | a::as=>(n*a)::aAr n as
noncomputable def yZ:Nat→List Int
 | 0=>[1]
 | i+1=>0::yZ i
theorem aDK(a b c d:Int):a+b+(c+d)=a+c+(b+d):=by rw[Int.add_assoc,Int.add_assoc,Int.add_left_comm b]
theorem zA(x y:List Int)(f:Nat→Int):dot (addL x y) f=dot x f+dot y f:=by
 induction x generalizing y f with
 | nil=>exact (Int.zero_add _).symm
 | cons a as ih =>
  cases y with
  | nil=>exact (Int.add_zero _).symm
  | cons b bs=>exact (congr (congrArg HAdd.hAdd (Int.add_mul a b _)) (ih ..)).trans (aDK ..)
theorem zB(n:Int)(x:List Int)(f:Nat→Int):dot (aAr n x) f=n*dot x f:=by
 induction x generalizing f with
 | nil=>exact (Int.mul_zero n).symm
 | cons a as ih=>exact (congr (congrArg HAdd.hAdd (Int.mul_assoc n a _)) (ih ..)).trans (Int.mul_add ..).symm
theorem tY(i:Nat)(f:Nat→Int):dot (yZ i) f=f i:=by
 induction i generalizing f with
 | zero=>exact (Int.add_zero _).trans (Int.one_mul _)
 | succ i ih=>exact (congr (congrArg HAdd.hAdd (Int.zero_mul _)) (ih ..)).trans (Int.zero_add _)
structure PX where
 k:Int
 c:List Int
 e:List Int
noncomputable def PX.d(c e:Nat→Int)(p:PX):Int:=p.k+(dot p.c c+dot p.e e)
noncomputable def PX.add(p q:PX):PX:=⟨p.k+q.k,addL p.c q.c,addL p.e q.e⟩
noncomputable def PX.scl(n:Int)(p:PX):PX:=⟨n*p.k,aAr n p.c,aAr n p.e⟩
section
variable {c e:Nat→Int}
theorem iT(p q:PX):(p.add q).d c e=p.d c e+q.d c e:=by
 show p.k+q.k+(dot (addL p.c q.c) c+dot (addL p.e q.e) e)=_
 rw[zA,zA,aDK (dot p.c c),aDK p.k];rfl
theorem fS(n:Int)(p:PX):(p.scl n).d c e=n*p.d c e:=by
 show n*p.k+(dot (aAr n p.c) c+dot (aAr n p.e) e)=_
 rw[zB,zB,← Int.mul_add,← Int.mul_add];rfl
noncomputable def PX.sub(p q:PX):PX:=p.add (q.scl (-1))
theorem oC(p q:PX):(p.sub q).d c e=p.d c e - q.d c e :=
 (iT ..).trans (congrArg _ ((fS ..).trans (Int.neg_one_mul _)))
end
noncomputable def allZ:List Int→Bool
 | []=>true
 | a::as=>(a == 0) && allZ as
theorem allZ.spec{x:List Int}(h:allZ x=true)(f:Nat→Int):dot x f=0:=by
 induction x generalizing f with
 | nil=>rfl
 | cons a as ih =>
  have h:=Bool.and_eq_true_iff.mp h;exact (congr (congrArg HAdd.hAdd ((congrArg (·*f 0) (eq_of_beq h.1)).trans (Int.zero_mul _))) (ih h.2 _)).trans (Int.zero_add 0)
noncomputable def allP:List Int→Bool
 | []=>true
 | a::as=>(0≤a) && allP as
theorem allP.spec{x:List Int}(h:allP x=true){f:Nat→Int}(hf:∀i,0≤f i):0≤dot x f:=by
 induction x generalizing f with
 | nil=>exact Int.le_refl 0
 | cons a as ih =>
  have h:=Bool.and_eq_true_iff.mp h;exact Int.add_nonneg (Int.mul_nonneg (of_decide_eq_true h.1) (hf 0)) (ih h.2 λi=>hf (i+1))
noncomputable def LX.p:LX→PX
 | .k n=>⟨n,[],[]⟩
 | .v i=>⟨0,yZ i,[]⟩
 | .a x y=>x.p.add y.p
 | .l n x=>x.p.scl n
 | .r x n=>x.p.scl n
noncomputable def IX.p:IX→PX
 | .k n=>⟨n,[],[]⟩
 | .v i=>⟨0,[],yZ i⟩
 | .c x=>x.p
 | .a x y=>x.p.add y.p
 | .s x y=>x.p.sub y.p
 | .g x=>x.p.scl (-1)
 | .l n x=>x.p.scl n
noncomputable def CX.p:CX→PX
 | .le x y=>y.p.sub x.p
 | .lt x y=>y.p.sub (x.p.add ⟨1,[],[]⟩)
 | .eq x y=>y.p.sub x.p
 | .ile x y=>y.p.sub x.p
 | .ilt x y=>y.p.sub (x.p.add ⟨1,[],[]⟩)
 | .ieq x y=>y.p.sub x.p
 | .no=>⟨-1,[],[]⟩
 | .t n x=>x.p.scl n
noncomputable def CX.q:CX→Bool
 | .eq _ _=>false
 | .ieq _ _=>false
 | .t _ _=>false
 | _=>true
noncomputable def HW:List CX→PX→PX
 | [],p=>p
 | x::r,p=>HW r (p.sub x.p)
section
variable {c:List Nat} {e:List Int}
noncomputable abbrev eN(c:List Nat)(i:Nat):Int:=((c.getD i 0:Nat):Int)
noncomputable abbrev eI(e:List Int)(i:Nat):Int:=e.getD i 0
noncomputable abbrev PX.dd(c:List Nat)(e:List Int)(p:PX):Int:=p.d (eN c) (eI e)
theorem LX.p_d(x:LX):x.p.dd c e=((x.d c:Nat):Int):=by
 induction x with
 | k n=>exact Int.add_zero _
 | v i=>exact (Int.zero_add _).trans ((Int.add_zero _).trans (tY ..))
 | a x y h1 h2=>exact (iT ..).trans (congr (congrArg HAdd.hAdd h1) h2)
 | l n x h=>exact (fS ..).trans (congrArg _ h)
 | r x n h=>exact (fS ..).trans ((congrArg _ h).trans (Int.mul_comm ..))
theorem IX.p_d(x:IX):x.p.dd c e=x.d c e:=by
 induction x with
 | k n=>exact Int.add_zero _
 | v i=>exact (Int.zero_add _).trans ((Int.zero_add _).trans (tY ..))
 | c x=>exact x.p_d
 | a x y h1 h2=>exact (iT ..).trans (congr (congrArg HAdd.hAdd h1) h2)
 | s x y h1 h2=>exact (oC ..).trans (congr (congrArg HSub.hSub h1) h2)
 | g x h=>exact (fS ..).trans ((congrArg _ h).trans (Int.neg_one_mul _))
 | l n x h=>exact (fS ..).trans (congrArg _ h)
theorem gH(p q:PX){a b:Int}(h1:p.dd c e=a)(h2:q.dd c e=b):a≤b↔0≤(q.sub p).dd c e:=by
 rw[← h1,← h2];unfold PX.dd;rw[oC];exact Int.sub_nonneg.symm
theorem zC{p:PX}{a:Int}(h:p.dd c e=a):(p.add ⟨1,[],[]⟩).dd c e=a+1:=(iT ..).trans (congrArg (·+1) h)
theorem CX.nn{x:CX}(hx:x.d c e):0≤x.p.dd c e:=by
 induction x with
 | le x y=>exact (gH _ _ x.p_d y.p_d).mp (Int.ofNat_le.mpr hx)
 | lt x y=>exact (gH _ _ (zC x.p_d) y.p_d).mp (Int.ofNat_lt.mpr hx)
 | eq x y=>exact (gH _ _ x.p_d y.p_d).mp (Int.ofNat_le.mpr (Nat.le_of_eq hx))
 | ile x y=>exact (gH _ _ x.p_d y.p_d).mp hx
 | ilt x y=>exact (gH _ _ (zC x.p_d) y.p_d).mp hx
 | ieq x y=>exact (gH _ _ x.p_d y.p_d).mp (Int.le_of_eq hx)
 | no=>exact hx.elim
 | t n x h=>unfold PX.dd;rw[show (CX.t n x).p=x.p.scl n from rfl,fS];exact Int.mul_nonneg (Int.natCast_nonneg n) (h hx)
theorem CX.of{x:CX}(hq:x.q=true)(h:0≤x.p.dd c e):x.d c e:=by
 cases x with
 | le x y=>exact Int.ofNat_le.mp ((gH _ _ x.p_d y.p_d).mpr h)
 | lt x y=>exact Int.ofNat_lt.mp ((gH _ _ (zC x.p_d) y.p_d).mpr h)
 | eq x y=>exact nomatch hq
 | ile x y=>exact (gH _ _ x.p_d y.p_d).mpr h
 | ilt x y=>exact (gH _ _ (zC x.p_d) y.p_d).mpr h
 | ieq x y=>exact nomatch hq
 | t n x=>exact nomatch hq
 | no=>exact absurd (show (0:Int)≤-1 from h) (by decide)
theorem aDL{p q:PX}(h1:0≤q.dd c e)(h:0≤(p.sub q).dd c e):0≤p.dd c e:=by
 unfold PX.dd at h;rw[oC]at h;exact Int.le_trans h1 (Int.sub_nonneg.mp h)
theorem HX.nn{q:Prop}{h:List CX}{p:PX}(hw:0≤(HW h p).dd c e)(hq:0≤p.dd c e→q):HX c e q h:=by
 induction h generalizing p with
 | nil=>exact hq hw
 | cons x r ih=>exact λhx=>ih hw λh0=>hq (aDL (CX.nn hx) h0)
end
noncomputable def PX.ok(p:PX):Bool:=(0≤p.k) && (allP p.c && allZ p.e)
theorem PX.ok.spec{p:PX}(h:p.ok=true)(c:List Nat)(e:List Int):0≤p.dd c e:=by
 have h:=Bool.and_eq_true_iff.mp h;have h2:=Bool.and_eq_true_iff.mp h.2;exact Int.add_nonneg (of_decide_eq_true h.1) (Int.add_nonneg (allP.spec h2.1 λi=>Int.natCast_nonneg _) (Int.le_of_eq (allZ.spec h2.2 _).symm))
noncomputable def lR(m:Nat)(h:List CX)(g:CX):Bool:=g.q && (HW h ((g.p.scl (m+1)).add ⟨m,[],[]⟩)).ok
theorem aDM{m:Nat}{p:Int}(h:0≤((m:Int)+1)*p+m):0≤p:=by
 refine Int.le_of_lt_add_one (Int.lt_of_mul_lt_mul_left (a:=(m:Int)+1) ?_ (Int.natCast_nonneg (m+1)));rw[Int.mul_zero,Int.mul_add,Int.mul_one,← Int.add_assoc];exact Int.lt_add_one_of_le h
theorem bQ(m:Nat)(c:List Nat)(e:List Int)(h:List CX)(g:CX)(ok:lR m h g=true):HX c e (g.d c e) h :=
 have o:=Bool.and_eq_true_iff.mp ok
 HX.nn (PX.ok.spec o.2 c e) λh0=>CX.of o.1 (aDM (by
  unfold PX.dd at h0;rw[iT,fS]at h0
  exact Int.le_trans h0 (Int.le_of_eq (congrArg (_+·) (Int.add_zero _)))))
theorem aB:true=true:=rfl
theorem tZ{x:Int}:-x≤(x.natAbs:Int):=by rw[← Int.natAbs_neg];exact Int.le_natAbs
theorem nI{x:Int}{n:Nat}(h1:x≤n)(h2:-x≤n):x.natAbs≤n:=by
 rcases Int.natAbs_eq x with h|h
 ·exact Int.ofNat_le.mp (h▸h1)
 ·rw[h,Int.neg_neg]at h2;exact Int.ofNat_le.mp h2
theorem cF{x:Int}{n:Nat}(h1:x<n)(h2:-x<n):x.natAbs<n:=by
 rcases Int.natAbs_eq x with h|h
 ·exact Int.ofNat_lt.mp (h▸h1)
 ·rw[h,Int.neg_neg]at h2;exact Int.ofNat_lt.mp h2
section
variable {a b c d e f:Nat} {i j k:Int} (h:List CX) (g:CX)
theorem bF(o:lR 0 h g=true):HX [a] [] (g.d [a] []) h:=bQ 0 _ _ h g o
theorem bC(o:lR 0 h g=true):HX [a,b] [] (g.d [a,b] []) h:=bQ 0 _ _ h g o
theorem eF(o:lR 0 h g=true):HX [a,b,c] [] (g.d [a,b,c] []) h:=bQ 0 _ _ h g o
theorem lN(o:lR 0 h g=true):HX [a,b,c,d] [] (g.d [a,b,c,d] []) h:=bQ 0 _ _ h g o
theorem lz5(o:lR 0 h g=true):HX [a,b,c,d,e] [] (g.d [a,b,c,d,e] []) h:=bQ 0 _ _ h g o
theorem lz6(o:lR 0 h g=true):HX [a,b,c,d,e,f] [] (g.d [a,b,c,d,e,f] []) h:=bQ 0 _ _ h g o
theorem qE(o:lR 0 h g=true):HX [] [i] (g.d [] [i]) h:=bQ 0 _ _ h g o
theorem nB(o:lR 0 h g=true):HX [a] [i] (g.d [a] [i]) h:=bQ 0 _ _ h g o
theorem gZ(o:lR 0 h g=true):HX [a,b] [i] (g.d [a,b] [i]) h:=bQ 0 _ _ h g o
theorem kC(o:lR 0 h g=true):HX [] [i,j] (g.d [] [i,j]) h:=bQ 0 _ _ h g o
theorem aFU(o:lR 0 h g=true):HX [a] [i,j] (g.d [a] [i,j]) h:=bQ 0 _ _ h g o
theorem aEA(o:lR 0 h g=true):HX [a,b] [i,j] (g.d [a,b] [i,j]) h:=bQ 0 _ _ h g o
end
theorem eJ{a n m:Nat}(h:a≤n)(o:Nat.ble n m=true):a≤m:=Nat.le_trans h (Nat.le_of_ble_eq_true o)
theorem gN{a n m:Nat}(h:a≤n)(o:Nat.ble (n+1) m=true):a<m:=Nat.lt_of_le_of_lt h (Nat.le_of_ble_eq_true o)
theorem lkc{a n m:Nat}(h:a<n)(o:Nat.ble n m=true):a<m:=Nat.lt_of_lt_of_le h (Nat.le_of_ble_eq_true o)
theorem lkd{a n m:Nat}(h:a<n)(o:Nat.ble n (m+1)=true):a≤m:=Nat.le_of_lt_succ (Nat.lt_of_lt_of_le h (Nat.le_of_ble_eq_true o))
theorem lke{a n m:Nat}(h:n≤a)(o:Nat.ble m n=true):m≤a:=Nat.le_trans (Nat.le_of_ble_eq_true o) h
theorem tU{a n m:Nat}(h:n≤a)(o:Nat.ble (m+1) n=true):m<a:=Nat.le_trans (Nat.le_of_ble_eq_true o) h
theorem lO{a n:Nat}(h:a<n)(o:Nat.ble n 9223372036854775808=true):(a:Int)<2 ^ 63:=Int.ofNat_lt.mpr (lkc h o)
theorem lkh{a n:Nat}(h:a≤n)(o:Nat.ble (n+1) 9223372036854775808=true):(a:Int)<2 ^ 63:=Int.ofNat_lt.mpr (gN h o)
theorem z63:(0:Int)<2 ^ 63:=by decide
theorem o63:(1:Int)<2 ^ 63:=by decide
theorem z60:(0:Int)<1152921504606846976:=by decide
theorem aDj(n:Nat):(-1+(n:Int)).toNat=n - 1:=by rw[Int.add_comm];exact Int.toNat_sub n 1
noncomputable abbrev LX.p0:LX:=.v (nat_lit 0)
noncomputable abbrev LX.p1:LX:=.v (nat_lit 1)
noncomputable abbrev LX.p2:LX:=.v (nat_lit 2)
noncomputable abbrev LX.p3:LX:=.v (nat_lit 3)
noncomputable abbrev LX.p4:LX:=.v (nat_lit 4)
noncomputable abbrev LX.p5:LX:=.v (nat_lit 5)
noncomputable abbrev IX.p0:IX:=.v (nat_lit 0)
noncomputable abbrev IX.p1:IX:=.v (nat_lit 1)
noncomputable abbrev IX.p2:IX:=.v (nat_lit 2)
noncomputable abbrev LX.k1:LX:=.k (nat_lit 1)
noncomputable abbrev LX.k2:LX:=.k (nat_lit 2)
noncomputable abbrev LX.k3:LX:=.k (nat_lit 3)
end Sc

local macro_rules | `(tactic| erw [$rs,*]) => do
    let ts ← rs.getElems.mapM fun r => (if r.raw[0].isNone then `(term| ($(⟨r.raw[1]⟩) ..)) else `(term| (Eq.symm ($(⟨r.raw[1]⟩) ..)))) >>= fun e => `(tactic| first | refine Eq.substr $e ?_ | rewrite [$r])
    `(tactic| ($[$ts];*; try with_reducible rfl))
namespace Sc
set_option tactic.hygienic false
theorem aH{α:Type u}{x:Option α}{a:α}(e:x=none)(h:x=some a):False:=by
 rw[e]at h;exact bN h
theorem aJ{α:Type u}{x:Option α}{a b:α}(e:x=some a)(h:x=some b):a=b:=by
 rw[e]at h;exact Option.some.inj h
def cD : Lean.Syntax := Lean.Unhygienic.run `(tacticSeq| with_unfolding_all first | exact @rfl Bool true | exact @rfl Bool false | exact @rfl (Option _) (some _) | rfl)
def aDQ : Lean.Syntax := Lean.Unhygienic.run `(tacticSeq| assumption)
def dD : Lean.Syntax := Lean.Unhygienic.run `(tacticSeq| first | with_unfolding_all (first | (intros; rfl) | exact ⟨rfl, @rfl Bool true, @rfl Bool false⟩ | exact ⟨rfl, rfl, rfl⟩ | exact ⟨rfl, rfl, rfl, rfl, fun _ => rfl⟩ | exact ⟨rfl, rfl, ⟨rfl, rfl, rfl, rfl, fun _ => rfl⟩⟩ | (intro _ h; cases h <;> rfl)) | decide | lia)

set_option genCtorIdx true in
inductive D where
 | none|bool (b:Bool)| int (i:Int)| str (x:Str)
 | tup (xs:List D)| lst (xs:List D)
 | ref (a:Addr)| blt (id:String)| typ (n:String)
 | rng (a b:Int)| dct (o:Obj)| meth (f x:Addr)
 | itr (a:Addr) (more:List Addr) (items:List D)

noncomputable abbrev Fz:=Addr→Option Obj
noncomputable def FzLe(f g:Fz):Prop:=∀a o,f a=some o→g a=some o
theorem FzLe.refl(f:Fz):FzLe f f:=λ_ _ e=>e
theorem FzLe.trans(x:FzLe f g)(y:FzLe g h):FzLe f h:=λa o e=>y a o (x a o e)

noncomputable abbrev fT(vs:Array Value)(n:Nat):Obj:={ cls:=.type "list",data:=.seq vs n }
noncomputable abbrev rY(a b:Int)(t u v:Tok):Obj:={ cls:=.type "range",dict:=none,data:=.fields #[.int a t,.int b u,.int 1 v],slots:=#[] }
noncomputable abbrev jK(f x:Addr):Obj:={ cls:=.type "method",data:=.fields #[.ref f,.ref x] }
mutual
inductive Den (fz:Fz):Value→D→Prop
 | none:Den fz .none .none
 | bool (b:Bool):Den fz (.bool b) (.bool b)
 | int (i:Int) (t:Tok):Den fz (.int i t) (.int i)
 | str (x:Str) (t:Tok):Den fz (.str x t) (.str x)
 | ref (a:Addr):Den fz (.ref a) (.ref a)
 | blt (id:String):Den fz (.builtin id) (.blt id)
 | typ (n:String):Den fz (.type n) (.typ n)
 | tup {a:Addr} {o:Obj} {vs:List Value} {n:Nat} {xs:List D}:fz a=some o→o.cls=.type "tuple"→o.data=.seq vs.toArray n→Dens fz vs xs→Den fz (.ref a) (.tup xs)
 | lst {a:Addr} {vs:List Value} {n:Nat} {xs:List D}:fz a=some (fT vs.toArray n)→Dens fz vs xs→Den fz (.ref a) (.lst xs)
 | rng {r:Addr} {a b:Int} {t u v:Tok}:fz r=some (rY a b t u v)→Den fz (.ref r) (.rng a b)
 | meth {r f x:Addr}:fz r=some (jK f x)→Den fz (.ref r) (.meth f x)
 | itr (a:Addr) (more:List Addr) (items:List D):Den fz (.ref a) (.itr a more items)
 | dct {a:Addr} {o:Obj}:fz a=some o→Den fz (.ref a) (.dct o)
inductive Dens (fz:Fz):List Value→List D→Prop
 | nil:Dens fz [] []
 | cons {v:Value} {vs:List Value} {d:D} {ds:List D}:Den fz v d→Dens fz vs ds→Dens fz (v::vs) (d::ds)
end

theorem Den.mono(h:FzLe f g)(x:Den f v d):Den g v d:=by
 refine Den.rec (motive_1:=λv d _=>Den g v d) (motive_2:=λvs ds _=>Dens g vs ds) .none .bool .int .str .ref .blt .typ ?_ ?_ ?_ ?_ .itr ?_ .nil ?_ x
 ·intro a o vs n xs e hc hd _ ih;exact .tup (h _ _ e) hc hd ih
 ·intro a vs n xs e _ ih;exact .lst (h _ _ e) ih
 ·intro r a b t u v e;exact .rng (h _ _ e)
 ·intro r f x e;exact .meth (h _ _ e)
 ·intro a o e;exact .dct (h _ _ e)
 ·intro v vs d ds _ _ i1 i2;exact .cons i1 i2
/-! what a value must be -/
noncomputable def aFV(fz:Fz)(v:Value):D→Prop
 | .none=>v=.none
 | .bool b=>v=.bool b
 | .int i=>∃t,v=.int i t
 | .str x=>∃t,v=.str x t
 | .tup xs=>∃a o vs n,fz a=some o∧o.cls=.type "tuple"∧o.data=.seq (List.toArray vs) n∧Dens fz vs xs∧v=.ref a
 | .lst xs=>∃a vs n,fz a=some (fT (List.toArray vs) n)∧Dens fz vs xs∧v=.ref a
 | .ref a=>v=.ref a
 | .blt n=>v=.builtin n
 | .typ n=>v=.type n
 | .rng a b=>∃r t u w,fz r=some (rY a b t u w)∧v=.ref r
 | .meth f x=>∃r,fz r=some (jK f x)∧v=.ref r
 | .itr a _ _=>v=.ref a
 | .dct o=>∃a,fz a=some o∧v=.ref a
theorem Den.inv(e:Den fz v d):aFV fz v d:=by
 cases e with
 | none=>rfl
 | bool=>rfl
 | int i t=>exact⟨t,rfl⟩
 | str x t=>exact⟨t,rfl⟩
 | ref=>rfl
 | blt=>rfl
 | typ=>rfl
 | tup h1 h2 h3 d=>exact⟨_,_,_,_,h1,h2,h3,d,rfl⟩
 | lst h d=>exact⟨_,_,_,h,d,rfl⟩
 | rng h=>exact⟨_,_,_,_,h,rfl⟩
 | meth h=>exact⟨_,h,rfl⟩
 | itr=>rfl
 | dct h=>exact⟨_,h,rfl⟩
theorem bG{i:Int}{motive:∀v,Den fz v (.int i)→Prop}{v:Value}(e:Den fz v (.int i))(k:∀t,motive (.int i t) (.int i t)):motive v e:=by (refine aN e.inv λt o1=>?_;subst o1);exact k t
theorem bH{x:Str}{motive:∀v,Den fz v (.str x)→Prop}{v:Value}(e:Den fz v (.str x))(k:∀t,motive (.str x t) (.str x t)):motive v e:=by (refine aN e.inv λt o1=>?_;subst o1);exact k t
theorem gO{motive:∀v,Den fz v .none→Prop}{v:Value}(e:Den fz v .none)(k:motive .none .none):motive v e:=by obtain rfl:=e.inv;exact k
theorem dI{b:Bool}{motive:∀v,Den fz v (.bool b)→Prop}{v:Value}(e:Den fz v (.bool b))(k:motive (.bool b) (.bool b)):motive v e:=by obtain rfl:=e.inv;exact k
theorem aT{a:Addr}{motive:∀v,Den fz v (.ref a)→Prop}{v:Value}(e:Den fz v (.ref a))(k:motive (.ref a) (.ref a)):motive v e:=by obtain rfl:=e.inv;exact k
theorem oE{a:Addr}{m:List Addr}{xs:List D}{motive:∀v,Den fz v (.itr a m xs)→Prop}{v:Value}(e:Den fz v (.itr a m xs))(k:motive (.ref a) (.itr a m xs)):motive v e:=by obtain rfl:=e.inv;exact k
theorem bX{n:String}{motive:∀v,Den fz v (.blt n)→Prop}{v:Value}(e:Den fz v (.blt n))(k:motive (.builtin n) (.blt n)):motive v e:=by obtain rfl:=e.inv;exact k
theorem fU{n:String}{motive:∀v,Den fz v (.typ n)→Prop}{v:Value}(e:Den fz v (.typ n))(k:motive (.type n) (.typ n)):motive v e:=by obtain rfl:=e.inv;exact k
theorem qZ{f x:Addr}{motive:∀v,Den fz v (.meth f x)→Prop}{v:Value}(e:Den fz v (.meth f x))(k:∀r (h:fz r=some (jK f x)),motive (.ref r) (.meth h)):motive v e:=by (refine aL e.inv λr h o1=>?_;subst o1);exact k r h
theorem oF{o:Obj}{motive:∀v,Den fz v (.dct o)→Prop}{v:Value}(e:Den fz v (.dct o))(k:∀a (h:fz a=some o),motive (.ref a) (.dct h)):motive v e:=by (refine aL e.inv λa h o1=>?_;subst o1);exact k a h
theorem aBf{a b:Int}{motive:∀v,Den fz v (.rng a b)→Prop}{v:Value}(e:Den fz v (.rng a b))(k:∀r t u w (h:fz r=some (rY a b t u w)),motive (.ref r) (.rng h)):motive v e:=by (refine aEy e.inv λr t u w h o1=>?_;subst o1);exact k r t u w h
theorem uA{xs:List D}{motive:∀v,Den fz v (.lst xs)→Prop}{v:Value}(e:Den fz v (.lst xs))(k:∀a vs n (h:fz a=some (fT (List.toArray vs) n)) (d:Dens fz vs xs),motive (.ref a) (.lst h d)):motive v e:=by (refine dT e.inv λa vs n h d o1=>?_;subst o1);exact k a vs n h d
noncomputable def aEC(fz:Fz)(vs:List Value):List D→Prop
 | []=>vs=[]
 | d::ds=>∃v us,Den fz v d∧Dens fz us ds∧vs=v::us
theorem Dens.inv(e:Dens fz vs ds):aEC fz vs ds:=by
 cases e with
 | nil=>rfl
 | cons x y=>exact⟨_,_,x,y,rfl⟩
theorem zD{motive:∀vs,Dens fz vs []→Prop}{vs:List Value}(e:Dens fz vs [])(k:motive [] .nil):motive vs e:=by obtain rfl:=e.inv;exact k
theorem dZ{d:D}{motive:∀vs,Dens fz vs [d]→Prop}{vs:List Value}(e:Dens fz vs [d])(k:∀v (x:Den fz v d),motive [v] (.cons x .nil)):motive vs e:=by (refine cU e.inv λv us x r o1=>?_;subst o1);obtain rfl:=r.inv;exact k v x
theorem rZ{d1 d2:D}{motive:∀vs,Dens fz vs [d1,d2]→Prop}{vs:List Value}(e:Dens fz vs [d1,d2])(k:∀v u (x:Den fz v d1) (y:Den fz u d2),motive [v,u] (.cons x (.cons y .nil))):motive vs e:=by (refine cU e.inv λv us x r o1=>?_;subst o1);(refine cU r.inv λu us2 y r2 o1=>?_;subst o1);obtain rfl:=r2.inv;exact k v u x y
theorem sA{d1 d2 d3:D}{motive:∀vs,Dens fz vs [d1,d2,d3]→Prop}{vs:List Value}(e:Dens fz vs [d1,d2,d3])(k:∀v u w (x:Den fz v d1) (y:Den fz u d2) (z:Den fz w d3),motive [v,u,w] (.cons x (.cons y (.cons z .nil)))):motive vs e:=by (refine cU e.inv λv us x r o1=>?_;subst o1);(refine cU r.inv λu us2 y r2 o1=>?_;subst o1);(refine cU r2.inv λw us3 z r3 o1=>?_;subst o1);obtain rfl:=r3.inv;exact k v u w x y z
theorem Dens.mono(h:FzLe f g)(x:Dens f vs ds):Dens g vs ds:=by
 induction ds generalizing vs with
 | nil=>obtain rfl:=x.inv;exact .nil
 | cons d ds ih=>(refine cU x.inv λv us x1 y o1=>?_;subst o1);exact .cons (x1.mono h) (ih y)
theorem Dens.length(x:Dens f vs ds):vs.length=ds.length:=by
 induction ds generalizing vs with
 | nil=>obtain rfl:=x.inv;rfl
 | cons d ds ih=>(refine cU x.inv λv us x1 y o1=>?_;subst o1);erw[List.length_cons,List.length_cons,ih y]
theorem Dens.get(x:Dens f vs ds){i:Nat}(e:ds[i]?=some d):∃v,vs[i]?=some v∧Den f v d:=by
 induction ds generalizing vs i with
 | nil=>exact bN e
 | cons d' ds ih =>
  (refine cU x.inv λv us x1 y o1=>?_;subst o1)
  cases i with
  | zero=>(have e1:=Option.some.inj e;clear e;subst e1);exact⟨_,rfl,x1⟩
  | succ i=>exact ih y e
theorem Dens.get'(x:Dens f vs ds){i:Nat}(e:vs[i]?=some v):∃d,ds[i]?=some d∧Den f v d:=by
 have hi:i<ds.length:=x.length▸(List.getElem?_eq_some_iff.mp e).1;refine aL (x.get (List.getElem?_eq_getElem hi)) λu e2 y=>?_
 (first|exact (aH (e ..) e2).elim|cases aJ (e ..) e2|(rw[e]at e2;cases e2))
 exact⟨_,List.getElem?_eq_getElem hi,y⟩
theorem Dens.append(z:Dens f ws es)(x:Dens f vs ds):Dens f (vs++ws) (ds++es):=by
 induction ds generalizing vs with
 | nil=>obtain rfl:=x.inv;exact z
 | cons d ds ih=>(refine cU x.inv λv us x1 y o1=>?_;subst o1);exact .cons x1 (ih y)
theorem Dens.snoc(x:Dens f vs ds)(y:Den f v d):Dens f (vs++[v]) (ds++[d]):=Dens.append (.cons y .nil) x
theorem Dens.reverse(x:Dens f vs ds):Dens f vs.reverse ds.reverse:=by
 induction ds generalizing vs with
 | nil=>obtain rfl:=x.inv;exact .nil
 | cons d ds ih=>(refine cU x.inv λv us x1 y o1=>?_;subst o1);erw[List.reverse_cons,List.reverse_cons];exact (ih y).snoc x1

set_option genCtorIdx true in
inductive M where
 | list (xs:List D)
 | ns (m:List (Str×D))
 | cell (d:Option D)
 | raw (o:Obj)
 | fn (dict:Option Addr) (fd:FuncData)
 | obj (cl dx:Addr)
 | ns1 (m:List (Str×D))
 | flds (c:String) (ds:List D)
 | view (o:Addr→Obj) (xs:List D)
 | lit (i:Nat) (xs:List D)

noncomputable def FCode(fz:Fz)(v:Value)(q:Str):Prop:=∃c o vs t,v=.ref c∧fz c=some o∧o.data=.fields vs∧vs[1]?=some (.str q t)
theorem FCode.mono(l:FzLe f g)(x:FCode f v q):FCode g v q :=
 let ⟨c,o,vs,t,e,h,r⟩:=x;⟨c,o,vs,t,e,l _ _ h,r⟩
noncomputable def ODen(fz:Fz):Option Value→Option D→Prop
 | some v,some d=>Den fz v d
 | none,none=>True
 | _,_=>False
theorem ODen.mono{f g:Fz}(h:FzLe f g):∀{v:Option Value} {d:Option D},ODen f v d→ODen g v d
 | some _,some _,x=>Den.mono h x
 | none,none,_=>trivial
 | some _,none,x=>x.elim
 | none,some _,x=>x.elim

noncomputable def LDen(fz:Fz)(v:Option Value)(d:Option D):Prop:=∀e,d=some e→∃u,v=some u∧Den fz u e
theorem LDen.mono(h:FzLe f g)(x:LDen f v d):LDen g v d:=λe q=>let ⟨u,a,b⟩:=x e q;⟨u,a,Den.mono h b⟩
noncomputable def MAt(fz:Fz)(h:Heap)(a:Addr):M→Prop
 | .list xs=>∃vs n,h.get? a=some (fT (List.toArray vs) n)∧Dens fz vs xs
 | .ns m=>∃mv,h.Ns a mv∧∀x,LDen fz (mv x) (m.lookup x)
 | .cell d=>∃v,h.get? a=some { cls:=.type "cell",data:=.cell v }∧ODen fz v d
 | .raw o=>h.get? a=some o
 | .fn dict fd=>h.get? a=some { cls:=.type "function",dict:=dict,data:=.func fd }∧FCode fz fd.code fd.qualname
 | .obj cl dx=>∃o,h.get? a=some o∧o.cls=.ref cl∧(∀c,o.data≠.cls c)∧o.dict=some dx∧dx≠a
 | .ns1 m=>∃mv,h.Ns1 a mv∧∀x,ODen fz (mv x) (m.lookup x)
 | .view o xs=>∃l vs n,fz l=some (fT (List.toArray vs) n)∧Dens fz vs xs∧h.get? a=some (o l)
 | .lit i xs=>∃l vs n,fz l=some (fT (List.toArray vs) n)∧Dens fz vs xs∧h.IsListIter a l i
 | .flds c ds=>∃vs,h.get? a=some { cls:=.type c,data:=.fields (List.toArray vs) }∧Dens fz vs ds
theorem MAt.mono(l:FzLe f g)(x:MAt f h a m):MAt g h a m:=by
 cases m with
 | list xs=>(refine cJ x λvs n e d=>?_;clear x);exact⟨vs,n,e,d.mono l⟩
 | ns m=>(refine aL x λmv e d=>?_;clear x);exact⟨mv,e,λy=>(d y).mono l⟩
 | cell d=>(refine aL x λv e q=>?_;clear x);exact⟨v,e,q.mono l⟩
 | raw o=>exact x
 | fn dict fd=>exact⟨x.1,x.2.mono l⟩
 | obj cl dx=>exact x
 | ns1 m=>(refine aL x λmv e d=>?_;clear x);exact⟨mv,e,λy=>(d y).mono l⟩
 | flds c ds=>(refine aL x λvs e d=>?_;clear x);exact⟨vs,e,d.mono l⟩
 | view o xs=>(refine dT x λb vs n e d q=>?_;clear x);exact⟨b,vs,n,l _ _ e,d.mono l,q⟩
 | lit i xs=>(refine dT x λb vs n e d q=>?_;clear x);exact⟨b,vs,n,l _ _ e,d.mono l,q⟩
theorem MAt.at(x:MAt f h a m)(k:∀o,h.get? a=some o→h'.get? a=some o):MAt f h' a m:=by
 cases m with
 | list xs=>(refine cJ x λvs n e d=>?_;clear x);exact⟨vs,n,k _ e,d⟩
 | ns m=>(refine aL x λmv e d=>?_;clear x);exact⟨mv,e.at' k,d⟩
 | cell d=>(refine aL x λv e q=>?_;clear x);exact⟨v,k _ e,q⟩
 | raw o=>exact k _ x
 | fn dict fd=>exact⟨k _ x.1,x.2⟩
 | obj cl dx=>(refine aL x λo e r=>?_;clear x);exact⟨o,k _ e,r⟩
 | ns1 m=>(refine aL x λmv e d=>?_;clear x);exact⟨mv,e.at k,d⟩
 | flds c ds=>(refine aL x λvs e d=>?_;clear x);exact⟨vs,k _ e,d⟩
 | view o xs=>(refine dT x λb vs n e d q=>?_;clear x);exact⟨b,vs,n,e,d,k _ q⟩
 | lit i xs=>obtain ⟨b,vs,n,e,d,o,q,r⟩:=x;exact⟨b,vs,n,e,d,o,k _ q,r⟩
theorem MAt.there(x:MAt f h a m):∃o,h.get? a=some o:=by
 cases m with
 | list xs=>(refine cJ x λvs n e d=>?_;clear x);exact⟨_,e⟩
 | ns m=>(refine aL x λmv o1 d=>?_;clear x;refine aAq o1 λo _ _ e _=>?_;clear o1);exact⟨o,e⟩
 | cell d=>(refine aL x λv e q=>?_;clear x);exact⟨_,e⟩
 | raw o=>exact⟨o,x⟩
 | fn dict fd=>exact⟨_,x.1⟩
 | obj cl dx=>(refine aL x λo e _=>?_;clear x);exact⟨o,e⟩
 | ns1 m=>(refine aL x λmv o1 d=>?_;clear x;refine aAq o1 λo _ _ e _=>?_;clear o1);exact⟨o,e⟩
 | flds c ds=>(refine aL x λvs e d=>?_;clear x);exact⟨_,e⟩
 | view o xs=>(refine dT x λb vs n e d q=>?_;clear x);exact⟨_,q⟩
 | lit i xs=>obtain ⟨b,vs,n,e,d,o,q,r⟩:=x;exact⟨o,q⟩

noncomputable abbrev aF:=Addr→Option M
noncomputable def upd(T:aF)(a:Addr)(m:M):aF:=λb=>if b=a then some m else T b
noncomputable def del(T:aF)(a:Addr):aF:=λb=>if b=a then none else T b
noncomputable def Un(S T:aF):aF:=λa=>(S a).or (T a)
noncomputable def emp:aF:=λ_=>none
noncomputable def Dj(S T:aF):Prop:=∀a,S a=none∨T a=none
theorem aA(T:aF)(a:Addr)(m:M):upd T a m a=some m:=if_pos rfl
theorem aG(T:aF)(m:M)(h:b≠a):upd T a m b=T b:=if_neg h
theorem dR(T:aF)(a:Addr)(m m':M):upd (upd T a m) a m'=upd T a m':=by
 funext b;unfold upd;split<;>rfl
theorem lS(T:aF)(a:Addr)(m:M)(h:T a=some m):upd T a m=T:=by
 funext b;unfold upd;split
 ·rename_i e;erw[e,h]
 ·rfl
theorem eY(T:aF)(m m':M)(h:a≠b):upd (upd T a m) b m'=upd (upd T b m') a m:=by
 funext c;unfold upd
 by_cases h1:c=b
 ·by_cases h2:c=a
  ·exact absurd (h2.symm.trans h1) h
  ·erw[if_pos h1,if_neg h2,if_pos h1]
 ·by_cases h2:c=a
  ·erw[if_neg h1,if_pos h2,if_pos h2]
  ·erw[if_neg h1,if_neg h2,if_neg h2,if_neg h1]
theorem kS(T:aF)(a:Addr)(m:M)(h:T a=none):del (upd T a m) a=T:=by
 funext b;unfold del upd;split
 ·rename_i e;erw[e,h]
 ·rfl
theorem cX(S T:aF)(a:Addr)(m:M):Un (upd S a m) T=upd (Un S T) a m:=by
 funext b;unfold Un upd;split<;>rfl
theorem cO(S T:aF)(a:Addr)(m:M)(h:S a=none):Un S (upd T a m)=upd (Un S T) a m:=by
 funext b;unfold Un upd;split
 ·rename_i e;erw[e,h];rfl
 ·rfl
theorem aBg(S T:aF)(a:Addr)(h:T a=none):Un (del S a) T=del (Un S T) a:=by
 funext b;unfold Un del;split
 ·rename_i e;erw[e,h];rfl
 ·rfl
theorem oG(T:aF):Un emp T=T:=by funext b;rfl
theorem Un_none:Un S T a=none↔S a=none∧T a=none:=by
 unfold Un;cases S a<;>simp
theorem aC(h:S a=some m):Un S T a=some m:=by unfold Un;erw[h];rfl
theorem aE(h:S a=none):Un S T a=T a:=by unfold Un;erw[h];rfl
theorem Dj.symm(h:Dj S T):Dj T S:=λa=>(h a).symm
theorem Dj.upd(h:Dj S T)(m:M)(ha:T a=none):Dj (upd S a m) T:=λb=>by
 by_cases e:b=a
 ·subst e;exact .inr ha
 ·erw[aG _ _ e];exact h b
theorem Dj.del(h:Dj S T)(a:Addr):Dj (del S a) T:=λb=>by
 unfold Sc.del;split
 ·exact .inl rfl
 ·exact h b
theorem Dj.of_some(h:Dj S T)(e:S a=some m):T a=none:=by
 rcases h a with q|q
 ·(first|exact (aH (e ..) q).elim|cases aJ (e ..) q|(rw[e]at q;exact dN q))
 ·exact q
theorem Dj.Un(h1:Dj R S)(h2:Dj R T):Dj R (Un S T):=λa=>by
 rcases h1 a with q|q
 ·exact .inl q
 ·rcases h2 a with r|r
  ·exact .inl r
  ·exact .inr (Un_none.mpr ⟨q,r⟩)
theorem Dj.left(h:Dj R (Sc.Un S T)):Dj R S:=λa=>by
 rcases h a with q|q
 ·exact .inl q
 ·exact .inr (Un_none.mp q).1
theorem Dj.right(h:Dj R (Sc.Un S T)):Dj R T:=λa=>by
 rcases h a with q|q
 ·exact .inl q
 ·exact .inr (Un_none.mp q).2
theorem wZ(T:aF):Dj emp T:=λ_=>.inl rfl

structure Cx where
 prog:Program
 w:World
 h₀:Heap
 os:OsState
 mg:Str→Option Value
 mb:Str→Option Value
 /-- the code objects whose tables of nested codes may grow -/
 ct:Addr→Addr→Prop
 /-- the qualified name of the def that stands at a place of a code -/
 dq:Addr→Pos→Str
 g:h₀.Ns mainGlobals mg
 gt:∀c,¬ct c mainGlobals
 b:h₀.Ns builtinsNs mb
 bt:∀c,¬ct c builtinsNs
 nolimit:h₀.NoLimit
 nodigits:∃mc,h₀.Ns cStatics mc∧mc "sys.int_max_str_digits"=none
 cs:∀c,¬ct c cStatics
 bb:∀x:Str,x≠"__name__"→mb x=bootBuiltins x
 bat:∃bm o,mg "__builtins__"=some (.ref bm)∧bm≠builtinsNs∧bm≠mainGlobals∧h₀.get? bm=some o∧o.cls=.type "module"∧o.dict=some builtinsNs∧o.data=.plain∧∀c,¬ct c bm
 tabIs:∀c P,ct c P→∃ps,h₀.TableAt c P ps
 tabNo:∀c P c',ct c P→¬ct c' c
 dqe:∀c (p p':Pos),p.line=p'.line→p.col=p'.col→dq c p=dq c p'
 uniq:∀c c' P,ct c P→ct c' P→c=c'

noncomputable def Cx.tab(C:Cx)(P:Addr):Prop:=∃c,C.ct c P

noncomputable def TabOk(fz:Fz)(h:Heap)(c P:Addr)(dq:Pos→Str):Prop :=
 ∃ps,h.IsCode c P ps∧h.TableAt c P ps∧∀pos v,codeAmong pos ps.toList=some v→FCode fz v (dq pos)
theorem TabOk.mono(l:FzLe f g)(x:TabOk f h c P dq):TabOk g h c P dq :=
 let ⟨ps,a,b,d⟩:=x;⟨ps,a,b,λpos v e=>(d pos v e).mono l⟩
theorem TabOk.extBut(x:TabOk f h c P dq)(hx:Heap.ExtBut a h h')(hc:c≠a)(hP:P≠a):TabOk f h' c P dq :=
 let ⟨ps,p,q,r⟩:=x;⟨ps,p.extBut hx hc hP,q.extBut hx hc hP,r⟩
theorem TabOk.keeps(x:TabOk f h c P dq)(hk:∀b o,h.get? b=some o→h'.get? b=some o):TabOk f h' c P dq :=
 let ⟨ps,p,q,r⟩:=x;⟨ps,p.keeps hk,q.keeps hk,r⟩

structure GExt (G G':Array GenState):Prop where
 keep:∀(i:Nat) (x:GenState),G[i]?=some x→G'[i]?=some x
 bare:AllBare G→AllBare G'
theorem GExt.refl(G:Array GenState):GExt G G:=⟨λ_ _ e=>e,λh=>h⟩
theorem GExt.trans{G H K:Array GenState}(x:GExt G H)(y:GExt H K):GExt G K:=⟨λi a e=>y.keep i a (x.keep i a e),λh=>y.bare (x.bare h)⟩

structure Rel (C:Cx) (fz:Fz) (T:aF) (G:Array GenState) (s:Shared):Prop where
 fzIn:∀a o,fz a=some o→s.heap.get? a=some o
 ledIn:∀a m,T a=some m→MAt fz s.heap a m
 apart:∀a o,fz a=some o→T a=none
 fzt:∀a o,fz a=some o→¬C.tab a
 new:∀a m,T a=some m→C.h₀.get? a=none
 base:∀a o,C.h₀.get? a=some o→¬C.tab a→s.heap.get? a=some o
 tabs:∀c P,C.ct c P→TabOk fz s.heap c P (C.dq c)
 old:OldK C.h₀ s.heap
 os:s.os=C.os
 gens:s.gens=G

theorem qF(K:OldK h₀ h)(ha:h₀.get? a=none)(hs:Heap.ExtBut a h h'):OldK h₀ h':=by
 have ne:∀b o,h₀.get? b=some o→b≠a:=λb o e q=>by subst q;(first|exact (aH (ha ..) e).elim|cases aJ (ha ..) e|(rw[ha]at e;cases e))
 refine⟨λb o e=>?_,λb o e=>let ⟨o',ho'⟩:=K.there b o e;⟨o',hs b _ (ne b o e) ho'⟩⟩;rcases K.old b o e with x|⟨t,hc,vs,more,hv,x⟩| ⟨rfl,hc,⟨o',es,n,ho',r⟩,z⟩
 ·exact .inl (hs b _ (ne b o e) x)
 ·exact .inr (.inl ⟨t,hc,vs,more,hv,hs b _ (ne b o e) x⟩)
 ·have e1:=hs _ _ (ne _ o e) ho';exact .inr (.inr ⟨rfl,hc,⟨o',es,n,e1,r⟩,λkey=>by erw[OldK.staticOf_congr (e1.trans ho'.symm) key];exact z key⟩)

section
variable {C:Cx} {fz:Fz} {T:aF} {G:Array GenState} {s:Shared}

theorem Rel.ext(R:Rel C fz T G s){h':Heap}(t:Nat)(hk:∀b o,s.heap.get? b=some o→h'.get? b=some o):Rel C fz T G { s with heap:=h',toks:=t } where
 fzIn:=λa o e=>hk _ _ (R.fzIn a o e)
 ledIn:=λa m e=>(R.ledIn a m e).at (hk a)
 apart:=R.apart
 fzt:=R.fzt
 new:=R.new
 base:=λa o e n=>hk _ _ (R.base a o e n)
 tabs:=λc P e=>(R.tabs c P e).keeps hk
 old:=R.old.step_keeps hk
 os:=R.os
 gens:=R.gens
theorem Rel.tok(R:Rel C fz T G s)(t:Nat):Rel C fz T G { s with toks:=t }:=R.ext t (λ_ _ e=>e)
theorem Rel.upd(R:Rel C fz T G s){a:Addr}{m₀ m:M}(ha:T a=some m₀){h':Heap}(t:Nat)(hk:Heap.ExtBut a s.heap h')(hm:MAt fz h' a m):Rel C fz (upd T a m) G { s with heap:=h',toks:=t } where
 fzIn:=λb o e=>hk b o (λq=>by subst q;(first|exact (aH (R.apart _ _ e ..) ha).elim|cases aJ (R.apart _ _ e ..) ha|(rw[R.apart _ _ e]at ha;cases ha))) (R.fzIn b o e)
 ledIn:=λb m' e=>by
  by_cases q:b=a
  ·subst q;(first|exact (aH (aA ..) e).elim|cases aJ (aA ..) e|(rw[aA]at e;cases e));exact hm
  ·rw[aG _ _ q]at e;exact (R.ledIn b m' e).at λo=>hk b o q
 apart:=λb o e=>by
  by_cases q:b=a
  ·subst q;(first|exact (aH (R.apart _ _ e ..) ha).elim|cases aJ (R.apart _ _ e ..) ha|(rw[R.apart _ _ e]at ha;cases ha))
  ·rw[aG _ _ q];exact R.apart b o e
 fzt:=R.fzt
 new:=λb m' e=>by
  by_cases q:b=a
  ·subst q;exact R.new _ _ ha
  ·rw[aG _ _ q]at e;exact R.new b m' e
 base:=λb o e n=>hk b o (λq=>by subst q;(first|exact (aH (R.new _ _ ha ..) e).elim|cases aJ (R.new _ _ ha ..) e|(rw[R.new _ _ ha]at e;cases e))) (R.base b o e n)
 tabs:=λc P e=>by
  (refine aL (C.tabIs c P e) λps o1 e2=>?_;refine cJ o1 λo vs e1 _=>?_;clear o1)
  exact (R.tabs c P e).extBut hk (λq=>by subst q;(first|exact (aH (R.new _ _ ha ..) e1).elim|cases aJ (R.new _ _ ha ..) e1|(rw[R.new _ _ ha]at e1;cases e1))) (λq=>by subst q;(first|exact (aH (R.new _ _ ha ..) e2).elim|cases aJ (R.new _ _ ha ..) e2|(rw[R.new _ _ ha]at e2;cases e2)))
 old:=qF R.old (R.new _ _ ha) hk
 os:=R.os
 gens:=R.gens
theorem Rel.freshT(R:Rel C fz T G s)(ha:s.heap.get? a=none):T a=none:=by
 cases e:T a with
 | none=>rfl
 | some m=>refine aN ((R.ledIn a m e).there) λo q=>?_;(first|exact (aH (ha ..) q).elim|cases aJ (ha ..) q|(rw[ha]at q;cases q))
theorem Rel.freshF(R:Rel C fz T G s)(ha:s.heap.get? a=none):fz a=none:=by
 cases e:fz a with
 | none=>rfl
 | some o=>have q:=R.fzIn a o e;(first|exact (aH (ha ..) q).elim|cases aJ (ha ..) q|(rw[ha]at q;cases q))
theorem Rel.freshB(R:Rel C fz T G s)(ha:s.heap.get? a=none):C.h₀.get? a=none:=by
 cases e:C.h₀.get? a with
 | none=>rfl
 | some o=>refine aN (R.old.there a o e) λo' q=>?_;(first|exact (aH (ha ..) q).elim|cases aJ (ha ..) q|(rw[ha]at q;cases q))
theorem aO(h:Heap){a:Addr}(ha:h.objs.size≤a):h.get? a=none:=by
 cases e:h.get? a with
 | none=>rfl
 | some o=>exact absurd (Heap.lt_size e) (Nat.not_lt.mpr ha)
theorem Rel.alloc(R:Rel C fz T G s){a:Addr}(ha:s.heap.get? a=none){m:M}{h':Heap}(t:Nat)(hk:∀b o,s.heap.get? b=some o→h'.get? b=some o)(hm:MAt fz h' a m):Rel C fz (Sc.upd T a m) G { s with heap:=h',toks:=t } where
 fzIn:=λb o e=>hk _ _ (R.fzIn b o e)
 ledIn:=λb m' e=>by
  by_cases q:b=a
  ·subst q;(first|exact (aH (aA ..) e).elim|cases aJ (aA ..) e|(rw[aA]at e;cases e));exact hm
  ·rw[aG _ _ q]at e;exact (R.ledIn b m' e).at (hk b)
 apart:=λb o e=>by
  by_cases q:b=a
  ·subst q;(first|exact (aH (R.freshF ha ..) e).elim|cases aJ (R.freshF ha ..) e|(rw[R.freshF ha]at e;cases e))
  ·rw[aG _ _ q];exact R.apart b o e
 fzt:=R.fzt
 new:=λb m' e=>by
  by_cases q:b=a
  ·subst q;exact R.freshB ha
  ·rw[aG _ _ q]at e;exact R.new b m' e
 base:=λb o e n=>hk _ _ (R.base b o e n)
 tabs:=λc P e=>(R.tabs c P e).keeps hk
 old:=R.old.step_keeps hk
 os:=R.os
 gens:=R.gens
noncomputable def eZ(fz:Fz)(a:Addr)(o:Obj):Fz:=λb=>if b=a then some o else fz b
theorem cA(fz:Fz)(a:Addr)(o:Obj):eZ fz a o a=some o:=if_pos rfl
theorem bI(h:fz a=none):FzLe fz (eZ fz a o):=λb p e=>by
 unfold eZ;split
 ·rename_i q;rw[q,h]at e;exact bN e
 ·exact e
theorem fA(e:eZ fz a o b=some p):(b=a∧o=p)∨fz b=some p:=by
 unfold eZ at e;split at e
 ·exact .inl ⟨‹_›,Option.some.inj e⟩
 ·exact .inr e
theorem Rel.allocF(R:Rel C fz T G s){a:Addr}(ha:s.heap.get? a=none){o:Obj}{h':Heap}(t:Nat)(hk:∀b o,s.heap.get? b=some o→h'.get? b=some o)(hm:h'.get? a=some o):Rel C (eZ fz a o) T G { s with heap:=h',toks:=t } where
 fzIn:=λb p e=>by
  rcases fA e with ⟨rfl,rfl⟩| e
  ·exact hm
  ·exact hk _ _ (R.fzIn b p e)
 ledIn:=λb m' e=>((R.ledIn b m' e).at (hk b)).mono (bI (R.freshF ha))
 apart:=λb p e=>by
  rcases fA e with ⟨rfl,rfl⟩| e
  ·exact R.freshT ha
  ·exact R.apart b p e
 fzt:=λb p e=>by
  rcases fA e with ⟨rfl,rfl⟩| e
  ·intro o21;obtain ⟨c,hc⟩:=o21;refine aL (C.tabIs c _ hc) λps _ e2=>?_
   (first|exact (aH (R.freshB ha ..) e2).elim|cases aJ (R.freshB ha ..) e2|(rw[R.freshB ha]at e2;cases e2))
  ·exact R.fzt b p e
 new:=R.new
 base:=λb o e n=>hk _ _ (R.base b o e n)
 tabs:=λc P e=>((R.tabs c P e).keeps hk).mono (bI (R.freshF ha))
 old:=R.old.step_keeps hk
 os:=R.os
 gens:=R.gens
theorem Rel.freeze(R:Rel C fz T G s)(ha:T a=some (.list xs)):∃fz',FzLe fz fz'∧Den fz' (.ref a) (.lst xs)∧Rel C fz' (del T a) G s:=by
 refine cJ (R.ledIn _ _ ha) λvs n e d=>?_
 have hz:fz a=none:=by
  cases q:fz a with
  | none=>rfl
  | some o=>(first|exact (aH (R.apart _ _ q ..) ha).elim|cases aJ (R.apart _ _ q ..) ha|(rw[R.apart _ _ q]at ha;cases ha))
 have le:FzLe fz (eZ fz a (fT vs.toArray n)):=bI hz;refine⟨_,le,.lst (cA ..) (d.mono le),?_⟩
 exact {
  fzIn:=λb p q=>by
   rcases fA q with ⟨rfl,rfl⟩| q
   ·exact e
   ·exact R.fzIn b p q
  ledIn:=λb m' q=>by
   unfold del at q;split at q
   ·exact bN q
   ·exact (R.ledIn b m' q).mono le
  apart:=λb p q=>by
   unfold del;split
   ·rfl
   ·rename_i w;unfold eZ at q;rw[if_neg w]at q;exact R.apart b p q
  fzt:=λb p q=>by
   rcases fA q with ⟨rfl,rfl⟩| q
   ·intro o21;obtain ⟨c,hc⟩:=o21;refine aL (C.tabIs c _ hc) λps _ e2=>?_
    (first|exact (aH (R.new _ _ ha ..) e2).elim|cases aJ (R.new _ _ ha ..) e2|(rw[R.new _ _ ha]at e2;cases e2))
   ·exact R.fzt b p q
  new:=λb m' q=>by
   unfold del at q;split at q
   ·exact bN q
   ·exact R.new b m' q
  base:=R.base
  tabs:=λc P e=>(R.tabs c P e).mono le
  old:=R.old
  os:=R.os
  gens:=R.gens }
theorem Rel.forget(R:Rel C fz T G s){T':aF}(h:∀a m,T' a=some m→T a=some m):Rel C fz T' G s where
 fzIn:=R.fzIn
 ledIn:=λa m e=>R.ledIn a m (h a m e)
 apart:=λa o e=>by
  cases q:T' a with
  | none=>rfl
  | some m=>have z:=R.apart a o e;(first|exact (aH (h _ _ q ..) z).elim|cases aJ (h _ _ q ..) z|(rw[h _ _ q]at z;exact dN z))
 fzt:=R.fzt
 new:=λa m e=>R.new a m (h a m e)
 base:=R.base
 tabs:=R.tabs
 old:=R.old
 os:=R.os
 gens:=R.gens
end

structure St (C:Cx) (fz:Fz) (led Y:aF) (G:Array GenState) (s:Shared):Prop where
 dj:Dj led Y
 rel:Rel C fz (Un led Y) G s

noncomputable def Room(k:Nat)(A:Around):Prop:=A.handled=none∧A.depth+k<1000∧A.units+20*k<9900
theorem Room.mono(h:Room k A)(l:k'≤k):Room k' A:=⟨h.1,by have:=h.2.1;exact eF [.le .p0 .p1,.lt (.a .p2 .p1) (.k 1000)] (.lt (.a .p2 .p0) (.k 1000)) aB l this,by have:=h.2.2;exact eF [.t 20 (.le .p0 .p1),.lt (.a .p2 (.l 20 .p1)) (.k 9900)] (.lt (.a .p2 (.l 20 .p0)) (.k 9900)) aB l this⟩
noncomputable def FrY(A:Around)(Y:aF):Prop:=∃l,A.frames=some l∧∀e∈l,e.scope.kind=.function∧∃L m,e.frame=some L∧Y L=some (.ns m)
structure RoomY (k:Nat) (A:Around) (Y:aF):Prop where
 r:Room k A
 fr:FrY A Y
theorem RoomY.mono(h:RoomY k A Y)(l:k'≤k):RoomY k' A Y:=⟨h.r.mono l,h.fr⟩
theorem RoomY.upY(h:RoomY k A Y)(i:∀a m,Y a=some (.ns m)→Y' a=some (.ns m)):RoomY k A Y' :=
 ⟨h.r,let ⟨l,e,q⟩:=h.fr;⟨l,e,λx hx=>let ⟨a,L,m,b,c⟩:=q x hx;⟨a,L,m,b,i _ _ c⟩⟩⟩
noncomputable def No:Value→Shared→Prop:=λ_ _=>False

inductive Pst (C:Cx) (fz:Fz) (Y:aF) (G:Array GenState) (Q:D→aF→Prop) (v:Value) (s':Shared):Prop
 | mk (fz':Fz) (G':Array GenState) (d:D) (led':aF):FzLe fz fz'→GExt G G'→Den fz' v d→St C fz' led' Y G' s'→Q d led'→Pst C fz Y G Q v s'
inductive Psb (C:Cx) (fz:Fz) (Y:aF) (G:Array GenState) (Q:Bool→aF→Prop) (b:Bool) (s':Shared):Prop
 | mk (fz':Fz) (G':Array GenState) (led':aF):FzLe fz fz'→GExt G G'→St C fz' led' Y G' s'→Q b led'→Psb C fz Y G Q b s'
inductive Pss (C:Cx) (fz:Fz) (Y:aF) (G:Array GenState) (Q:List D→aF→Prop) (vs:List Value) (s':Shared):Prop
 | mk (fz':Fz) (G':Array GenState) (ds:List D) (led':aF):FzLe fz fz'→GExt G G'→Dens fz' vs ds→St C fz' led' Y G' s'→Q ds led'→Pss C fz Y G Q vs s'
theorem Pst.trans(l:FzLe fz fz')(g:GExt G G')(h:Pst C fz' Y G' Q v s):Pst C fz Y G Q v s :=
 let ⟨f,H,d,led,a,b,c,e,q⟩:=h;⟨f,H,d,led,l.trans a,g.trans b,c,e,q⟩
theorem Psb.trans(l:FzLe fz fz')(g:GExt G G')(h:Psb C fz' Y G' Q v s):Psb C fz Y G Q v s :=
 let ⟨f,H,led,a,b,c,q⟩:=h;⟨f,H,led,l.trans a,g.trans b,c,q⟩
theorem Pst.mono(i:∀d led,Q d led→Q' d led)(h:Pst C fz Y G Q v s):Pst C fz Y G Q' v s :=
 let ⟨f,H,d,led,a,b,c,e,q⟩:=h;⟨f,H,d,led,a,b,c,e,i _ _ q⟩

noncomputable def Op1(C:Cx)(Y led:aF)(k:Nat)(f:Value→Sem Value)(d:D)(Q:D→aF→Prop):Prop :=
 ∀A fz G s v,Room k A→St C fz led Y G s→Den fz v d→wpAny (model C.prog C.w) A (f v) (Pst C fz Y G Q) No s
noncomputable def Op2(C:Cx)(Y led:aF)(k:Nat)(f:Value→Value→Sem Value)(d e:D)(Q:D→aF→Prop):Prop :=
 ∀A fz G s v u,Room k A→St C fz led Y G s→Den fz v d→Den fz u e→wpAny (model C.prog C.w) A (f v u) (Pst C fz Y G Q) No s
noncomputable def CallW(C:Cx)(Y led:aF)(k:Nat)(f:D)(ds:List D)(Q:D→aF→Prop):Prop :=
 ∀A fz G s fv vs,RoomY k A Y→St C fz led Y G s→Den fz fv f→Dens fz vs ds→wpAny (model C.prog C.w) A (call fv vs) (Pst C fz Y G Q) No s
noncomputable def Tru(C:Cx)(Y led:aF)(k:Nat)(d:D)(Q:Bool→aF→Prop):Prop :=
 ∀A fz G s v,Room k A→St C fz led Y G s→Den fz v d→wpAny (model C.prog C.w) A (truthy v) (Psb C fz Y G Q) No s

noncomputable abbrev aD:=List (Str×D)
structure Fe where
 env:Env
 ow:List Str
noncomputable def FrF(A:Around)(fe:Fe)(X:aF):Prop:=∃l,A.frames=some l∧∀e∈l,e.scope.kind=.function∧∃L,e.frame=some L∧(L=fe.env.locals∨∃m,X L=some (.ns m))
structure RoomF (k:Nat) (A:Around) (fe:Fe) (X:aF):Prop where
 r:Room k A
 fr:FrF A fe X
theorem RoomF.mono(h:RoomF k A fe X)(l:k'≤k):RoomF k' A fe X:=⟨h.r.mono l,h.fr⟩
theorem RoomF.upX(h:RoomF k A fe X)(i:∀a m,X a=some (.ns m)→X' a=some (.ns m)):RoomF k A fe X' :=
 ⟨h.r,let ⟨l,e,q⟩:=h.fr;⟨l,e,λx hx=>let ⟨a,L,b,c⟩:=q x hx;⟨a,L,b,c.imp id λ⟨m,z⟩=>⟨m,i _ _ z⟩⟩⟩⟩
theorem RoomY.toF(h:RoomY k A X)(fe:Fe):RoomF k A fe X :=
 ⟨h.r,let ⟨l,e,q⟩:=h.fr;⟨l,e,λx hx=>let ⟨a,L,m,b,c⟩:=q x hx;⟨a,L,b,.inr ⟨m,c⟩⟩⟩⟩
theorem RoomY.deeper(h:RoomY (k+1) A X)(hk:env.scope.kind=.function)(hf:env.frame=some env.locals):RoomF k (A.deeper env) ⟨env,ow⟩ X :=
 ⟨⟨h.r.1,by have:=h.r.2.1;show A.depth+1+k<1000;exact bC [.lt (.a .p0 (.a .p1 .k1)) (.k 1000)] (.lt (.a (.a .p0 .k1) .p1) (.k 1000)) aB this,by have:=h.r.2.2;show A.units+3+20*k<9900;exact bC [.lt (.a .p0 (.l 20 (.a .p1 .k1))) (.k 9900)] (.lt (.a (.a .p0 .k3) (.l 20 .p1)) (.k 9900)) aB this⟩,
  let ⟨l,e,q⟩:=h.fr;⟨env::l,by show A.frames.map _=_;erw[e];rfl,λx hx=>by
   rcases List.mem_cons.mp hx with rfl|hx
   ·exact⟨hk,_,hf,.inl rfl⟩
   ·obtain ⟨a,L,m,b,c⟩:=q x hx;exact⟨a,L,b,.inr ⟨m,c⟩⟩⟩⟩
theorem RoomY.in1(h:RoomY (k+1) A X):RoomY k A.in1 X :=
 ⟨⟨h.r.1,by have:=h.r.2.1;show A.depth+k<1000;exact Nat.lt_of_succ_lt this,by have:=h.r.2.2;show A.units+1+20*k<9900;exact bC [.lt (.a .p0 (.l 20 (.a .p1 .k1))) (.k 9900)] (.lt (.a (.a .p0 .k1) (.l 20 .p1)) (.k 9900)) aB this⟩,h.fr⟩
structure FOk (fe:Fe) (vs:aD) (F X:aF):Prop where
 fn:fe.env.scope.kind=.function
 glob:fe.env.globals=mainGlobals
 blt:fe.env.builtins=builtinsNs
 loc:∃m,F fe.env.locals=some (.ns m)∧∀x d,vs.lookup x=some d→fe.env.kindOf x=some .local→m.lookup x=some d
 cel:∀x d,vs.lookup x=some d→fe.env.kindOf x≠some .local→∃c,fe.env.cells.lookup x=some c∧Un F X c=some (.cell (some d))
 own:∀x,x∈fe.ow→∃c dd,fe.env.cells.lookup x=some c∧F c=some (.cell dd)
 inj:∀x y c,fe.env.cells.lookup x=some c→fe.env.cells.lookup y=some c→x=y

noncomputable def WE(C:Cx)(led:aF)(fe:Fe)(vs:aD)(k:Nat)(t:Sem Value)(Q:D→aF→Prop):Prop :=
 ∀F X,FOk fe vs F X→Dj F X→∀A fz G s,RoomF k A fe X→St C fz led (Un F X) G s→wpAny (model C.prog C.w) A t (Pst C fz (Un F X) G Q) No s
noncomputable def WB(C:Cx)(led:aF)(fe:Fe)(vs:aD)(k:Nat)(t:Sem Bool)(Q:Bool→aF→Prop):Prop :=
 ∀F X,FOk fe vs F X→Dj F X→∀A fz G s,RoomF k A fe X→St C fz led (Un F X) G s→wpAny (model C.prog C.w) A t (Psb C fz (Un F X) G Q) No s
noncomputable def WL(C:Cx)(led:aF)(fe:Fe)(vs:aD)(k:Nat)(t:Sem (List Value))(Q:List D→aF→Prop):Prop :=
 ∀F X,FOk fe vs F X→Dj F X→∀A fz G s,RoomF k A fe X→St C fz led (Un F X) G s→wpAny (model C.prog C.w) A t (Pss C fz (Un F X) G Q) No s

set_option genCtorIdx true in
inductive Fl where
 | next|brk|cont|ret (d:D)
noncomputable def FlDen(fz:Fz):Flow→Fl→Prop
 | .next,.next=>True
 | .brk,.brk=>True
 | .cont,.cont=>True
 | .ret v,.ret d=>Den fz v d
 | _,_=>False
inductive Psf (C:Cx) (fz:Fz) (X:aF) (fe:Fe) (G:Array GenState) (Q:Fl→aD→aF→Prop) (f:Flow) (s':Shared):Prop
 | mk (fz':Fz) (G':Array GenState) (F':aF) (vs':aD) (led':aF) (fl:Fl):FzLe fz fz'→GExt G G'→FlDen fz' f fl→FOk fe vs' F' X→Dj F' X→St C fz' led' (Un F' X) G' s'→Q fl vs' led'→Psf C fz X fe G Q f s'
theorem Psf.trans(l:FzLe fz fz')(g:GExt G G')(h:Psf C fz' X fe G' Q v s):Psf C fz X fe G Q v s :=
 let ⟨f,H,F,vs,led,fl,a,b,c,d,e,s,q⟩:=h;⟨f,H,F,vs,led,fl,l.trans a,g.trans b,c,d,e,s,q⟩
noncomputable def WS(C:Cx)(led:aF)(fe:Fe)(vs:aD)(k:Nat)(t:Sem Flow)(Q:Fl→aD→aF→Prop):Prop :=
 ∀F X,FOk fe vs F X→Dj F X→∀A fz G s,RoomF k A fe X→St C fz led (Un F X) G s→wpAny (model C.prog C.w) A t (Psf C fz X fe G Q) No s
inductive Psu (C:Cx) (fz:Fz) (X:aF) (fe:Fe) (G:Array GenState) (Q:aD→aF→Prop) (u:Unit) (s':Shared):Prop
 | mk (fz':Fz) (G':Array GenState) (F':aF) (vs':aD) (led':aF):FzLe fz fz'→GExt G G'→FOk fe vs' F' X→Dj F' X→St C fz' led' (Un F' X) G' s'→Q vs' led'→Psu C fz X fe G Q u s'
noncomputable def WU(C:Cx)(led:aF)(fe:Fe)(vs:aD)(k:Nat)(t:Value→Sem Unit)(d:D)(Q:aD→aF→Prop):Prop :=
 ∀F X,FOk fe vs F X→Dj F X→∀A fz G s v,RoomF k A fe X→St C fz led (Un F X) G s→Den fz v d→wpAny (model C.prog C.w) A (t v) (Psu C fz X fe G Q) No s

theorem RoomF.y(h:RoomF k A fe X)(hF:FOk fe vs F X)(hd:Dj F X):RoomY k A (Un F X) :=
 ⟨h.r,let ⟨l,e,q⟩:=h.fr;⟨l,e,λx hx=>by
  obtain ⟨a,L,b,c⟩:=q x hx;rcases c with rfl|⟨m,c⟩
  ·refine aL hF.loc λm hm _=>?_
   exact⟨a,_,m,b,aC hm⟩
  ·exact⟨a,L,m,b,by erw[aE ((hd L).resolve_right (by erw[c];exact Option.some_ne_none _))];exact c⟩⟩⟩
end Sc

namespace Sc
set_option tactic.hygienic false

theorem St.at(S:St C fz led Y G s)(h:Y a=some m):MAt fz s.heap a m :=
 S.rel.ledIn a m (by erw[aE ((S.dj a).resolve_right (by erw[h];exact Option.some_ne_none m))];exact h)
theorem St.atL(S:St C fz led Y G s)(h:led a=some m):MAt fz s.heap a m :=
 S.rel.ledIn a m (aC h)
theorem St.tok(S:St C fz led Y G s)(t:Nat):St C fz led Y G { s with toks:=t }:=⟨S.dj,S.rel.tok t⟩
theorem St.ext(S:St C fz led Y G s)(t:Nat)(hk:∀b o,s.heap.get? b=some o→h'.get? b=some o):St C fz led Y G { s with heap:=h',toks:=t }:=⟨S.dj,S.rel.ext t hk⟩
theorem St.base(S:St C fz led Y G s):∀a o,C.h₀.get? a=some o→¬C.tab a→s.heap.get? a=some o:=S.rel.base
theorem St.nolimit(S:St C fz led Y G s):s.heap.NoLimit :=
 let ⟨mc,n,q⟩:=C.nolimit;⟨mc,n.at' λo e=>S.base _ o e (λ⟨c,e⟩=>C.cs c e),q⟩
theorem St.glob(S:St C fz led Y G s):s.heap.Ns mainGlobals C.mg:=C.g.at' λo e=>S.base _ o e (λ⟨c,e⟩=>C.gt c e)
theorem St.blt(S:St C fz led Y G s):s.heap.Ns builtinsNs C.mb:=C.b.at' λo e=>S.base _ o e (λ⟨c,e⟩=>C.bt c e)

theorem Pst.leaf(S:St C fz led Y G s)(e:Den fz v d)(q:Q d led):Pst C fz Y G Q v s :=
 ⟨fz,G,d,led,.refl _,.refl _,e,S,q⟩
theorem Psb.leaf(S:St C fz led Y G s)(q:Q b led):Psb C fz Y G Q b s :=
 ⟨fz,G,led,.refl _,.refl _,S,q⟩

/-! stores -/
noncomputable abbrev hG(vs:aD)(x:Str)(d:D):aD:=(x,d)::vs
theorem dB(vs:aD)(x:Str)(d:D)(y:Str):(hG vs x d).lookup y=if y=x then some d else vs.lookup y:=by
 show List.lookup y ((x,d)::vs)=_
 erw[List.lookup_cons];by_cases h:y=x
 ·subst h;simp
 ·have:(y == x)=false:=beq_eq_false_iff_ne.mpr h;erw[this,if_neg h]
section
variable {C:Cx} {X led:aF} {fe:Fe} {vs:aD} {k:Nat}

theorem FOk.put_local{F:aF}(hF:FOk fe vs F X){m:List (Str×D)}(hm:F fe.env.locals=some (.ns m))(hm2:∀x d,vs.lookup x=some d→fe.env.kindOf x=some .local→m.lookup x=some d)
  {x:Str} {d:D} (hk:fe.env.kindOf x=some .local):FOk fe (hG vs x d) (upd F fe.env.locals (.ns (hG m x d))) X where
 fn:=hF.fn
 glob:=hF.glob
 blt:=hF.blt
 loc:=⟨_,aA ..,λy e h1 h2=>by
  rw[dB]at h1 ⊢;by_cases q:y=x
  ·rw[if_pos q]at h1 ⊢;exact h1
  ·rw[if_neg q]at h1 ⊢;exact hm2 y e h1 h2⟩
 cel:=λy e h1 h2=>by
  rw[dB]at h1;by_cases q:y=x
  ·subst q;exact absurd hk h2
  ·rw[if_neg q]at h1;refine aL (hF.cel y e h1 h2) λc q1 q2=>?_
   refine⟨c,q1,?_⟩;rewrite[cX,aG _ _ (λz=>?_)]
   ·exact q2
   ·subst z;(first|exact (aH (aC hm ..) q2).elim|cases aJ (aC hm ..) q2|(rw[aC hm]at q2;cases q2))
 own:=λy hy=>by
  refine cJ (hF.own y hy) λc dd q1 q2=>?_
  refine⟨c,dd,q1,?_⟩;rewrite[aG _ _ (λz=>?_)]
  ·exact q2
  ·subst z;(first|exact (aH (hm ..) q2).elim|cases aJ (hm ..) q2|(rw[hm]at q2;cases q2))
 inj:=hF.inj
theorem FOk.put_cell{F:aF}(hF:FOk fe vs F X)(hd:Dj F X){x:Str}{c:Addr}{dd:Option D}{d:D}(hk:fe.env.kindOf x=some .cell)(hc:fe.env.cells.lookup x=some c)(hFc:F c=some (.cell dd)) :
  FOk fe (hG vs x d) (upd F c (.cell (some d))) X where
 fn:=hF.fn
 glob:=hF.glob
 blt:=hF.blt
 loc:=by
  refine aL hF.loc λm hm hm2=>?_
  refine⟨m,?_,λy e h1 h2=>?_⟩
  ·rewrite[aG _ _ (λz=>?_)]
   ·exact hm
   ·rw[z,hFc]at hm;(have e1:=Option.some.inj hm;clear hm;exfalso;injection e1)
  ·rw[dB]at h1;by_cases q:y=x
   ·subst q;(first|exact (aH (hk ..) h2).elim|cases aJ (hk ..) h2|(rw[hk]at h2;cases h2))
   ·rw[if_neg q]at h1;exact hm2 y e h1 h2
 cel:=λy e h1 h2=>by
  rw[dB]at h1;by_cases q:y=x
  ·subst q;(first|exact (aH (if_pos rfl ..) h1).elim|cases aJ (if_pos rfl ..) h1|(rw[if_pos rfl]at h1;cases h1));exact⟨c,hc,by rw[cX,aA]⟩
  ·rw[if_neg q]at h1;refine aL (hF.cel y e h1 h2) λc' q1 q2=>?_
   refine⟨c',q1,?_⟩;rewrite[cX,aG _ _ (λz=>?_)]
   ·exact q2
   ·subst z;exact q (hF.inj y x _ q1 hc)
 own:=λy hy=>by
  refine cJ (hF.own y hy) λc' dd' q1 q2=>?_
  by_cases z:c'=c
  ·subst z;exact⟨c',some d,q1,aA ..⟩
  ·exact⟨c',dd',q1,by rw[aG _ _ z];exact q2⟩
 inj:=hF.inj

theorem St.frame(S:St C fz led (Un F X) G s)(hd:Dj F X)(ha:F a=some m₀)(t:Nat)(hk:Heap.ExtBut a s.heap h')(hm:MAt fz h' a m) :
  St C fz led (Un (upd F a m) X) G { s with heap:=h',toks:=t }∧Dj (upd F a m) X:=by
 have hl:led a=none:=(S.dj a).resolve_right (by erw[aC ha];exact Option.some_ne_none _);refine⟨⟨?_,?_⟩,hd.upd m (hd.of_some ha)⟩
 ·erw[cX];exact (Dj.upd S.dj.symm m hl).symm
 ·erw[cX,cO _ _ _ _ hl];exact S.rel.upd (m₀:=m₀) (by erw[aE hl,aC ha]) t hk hm

theorem oH(hk:fe.env.kindOf x=some .local)(h:Q (hG vs x d) led):WU C led fe vs k (storeName fe.env x) d Q:=by
 intro F X hF hd A fz G s v hA S hv;refine aL hF.loc λm hm hm2=>?_
 refine aL (S.at (aC hm)) λmv hn ho=>?_
 refine wpAny_storeName_local hk hn (λh' hn' hs'=>?_) (by erw[hF.fn];rfl)
 obtain ⟨S',d'⟩:=S.frame hd hm (m:=.ns (hG m x d)) (s.toks+1) hs'.extBut ⟨_,hn',λy=>by
  erw[dB];by_cases q:y=x
  ·erw[if_pos q,if_pos q];intro e he;(have e1:=Option.some.inj he;clear he;subst e1);exact⟨v,rfl,hv⟩
  ·erw[if_neg q,if_neg q];exact ho y⟩
 exact⟨fz,G,_,_,led,.refl _,.refl _,hF.put_local hm hm2 hk,d',S',h⟩
theorem qG(hk:fe.env.kindOf x=some .cell)(hx:x∈fe.ow)(h:Q (hG vs x d) led):WU C led fe vs k (storeName fe.env x) d Q:=by
 intro F X hF hd A fz G s v hA S hv;refine cJ (hF.own x hx) λc dd hc hFc=>?_
 refine aL (S.at (aC hFc)) λv₀ ho _=>?_
 unfold storeName;rw[hk,hF.fn];show wpAny _ A (cellOf _ _ >>= λc=>cellSet c (some v)) _ _ _
 refine wpAny_bind (wpAny_cellOf hc ?_);unfold cellSet;refine wpAny_bind (wpAny_load ho ?_);refine wpAny_update ho ?_;refine cL (S.frame hd hFc (m:=.cell (some d)) s.toks (Heap.SameBut.update s.heap c (λo=>{ o with data:=.cell (some v) })).extBut ⟨some v,Heap.get?_update_self (λo=>{ o with data:=.cell (some v) }) ho rfl,hv⟩) λS' d'=>?_
 exact⟨fz,G,_,_,led,.refl _,.refl _,hF.put_cell hd hk hc hFc,d',S',h⟩

/-! names -/
theorem WE.mono(h:WE C led fe vs k t Q)(i:∀d led,Q d led→Q' d led):WE C led fe vs k t Q' :=
 λF X hF hd A fz G s hA S=>wpAny_mono (h F X hF hd A fz G s hA S) (λ_ _ p=>p.mono i) λ_ _ x=>x
theorem mJ(hx:vs.lookup x=some d)(hk:fe.env.kindOf x=some .local)(h:Q d led):WE C led fe vs k (loadName fe.env x) Q:=by
 intro F X hF hd A fz G s hA S;refine aL hF.loc λm hm hm2=>?_
 refine aL (S.at (aC hm)) λmv hn ho=>?_
 refine aL (ho x d (hm2 x d hx hk)) λv hv q=>?_
 exact wpAny_loadName_local hF.fn hk hn hv (Pst.leaf S q h)
theorem oJ(hx:vs.lookup x=some d)(hk:fe.env.kindOf x=some .cell)(h:Q d led):WE C led fe vs k (loadName fe.env x) Q:=by
 intro F X hF hd A fz G s hA S
 (refine aL (hF.cel x d hx (by erw[hk];intro q;(have e1:=Option.some.inj q;clear q;exfalso;injection e1))) λc hc hm=>?_)
 refine aL (S.at hm) λv ho q=>?_
 cases v with
 | none=>exact q.elim
 | some v=>exact wpAny_loadName_cell hF.fn hk hc ⟨_,ho,rfl⟩ (Pst.leaf S q h)
theorem xA(hx:vs.lookup x=some d)(hk:fe.env.kindOf x=some .free)(h:Q d led)(hn:autoParam ((x == ("__classdict__":Str))=false) dD):WE C led fe vs k (loadName fe.env x) Q:=by
 intro F X hF hd A fz G s hA S
 (refine aL (hF.cel x d hx (by erw[hk];intro q;(have e1:=Option.some.inj q;clear q;exfalso;injection e1))) λc hc hm=>?_)
 refine aL (S.at hm) λv ho q=>?_
 cases v with
 | none=>exact q.elim
 | some v=>exact wpAny_loadName_free hF.fn hk hc ⟨_,ho,rfl⟩ (Pst.leaf S q h) hn
theorem xB(h:WE C led fe vs k (loadName fe.env x) Q)(hd:autoParam ((x == ("__debug__":Str))=false) dD):WE C led fe vs k (eval (.Name x pos) fe.env) Q :=
 λF X hF hj A fz G s hA S=>wpAny_Name (h F X hF hj A fz G s hA S) hd
theorem hO(hx:C.mg x=some v)(hv:∀fz,Den fz v d)(h:Q d led)(hk:fe.env.kindOf x=some .globalImplicit)(hd:autoParam ((x == ("__debug__":Str))=false) dD):WE C led fe vs k (eval (.Name x pos) fe.env) Q :=
 λF X hF _ A fz G s hA S=>Calls.Name_function_global hF.fn hk (Calls.loadGlobal_global (by erw[hF.glob];exact S.glob) hx (Pst.leaf S (hv fz) h)) hd
theorem mK(hg:C.mg x=none)(hx:bootBuiltins x=some v)(hv:∀fz,Den fz v d)(h:Q d led)(hk:fe.env.kindOf x=some .globalImplicit)(hn:autoParam (x≠"__name__") dD)(hd:autoParam ((x == ("__debug__":Str))=false) dD):WE C led fe vs k (eval (.Name x pos) fe.env) Q :=
 λF X hF _ A fz G s hA S=>Calls.Name_function_global hF.fn hk (Calls.loadGlobal_builtin (by erw[hF.glob];exact S.glob) hg (by erw[hF.blt];exact S.blt) ((C.bb x hn).trans hx) (Pst.leaf S (hv fz) h)) hd

/-! constants -/
theorem uB(h:Q (.int i) led):WE C led fe vs k (eval (.Constant (.int i) kk pos) fe.env) Q :=
 λ_ _ _ _ _ _ _ _ _ S=>wpAny_Constant_int (Pst.leaf (S.tok _) (.int ..) h)
theorem aBh(h:Q (.str x) led):WE C led fe vs k (eval (.Constant (.str x) kk pos) fe.env) Q :=
 λ_ _ _ _ _ _ _ _ _ S=>Calls.Constant_str (Pst.leaf (S.tok _) (.str ..) h)
theorem aAs(h:Q .none led):WE C led fe vs k (eval (.Constant .none kk pos) fe.env) Q :=
 λ_ _ _ _ _ _ _ _ _ S=>wpAny_Constant_none (Pst.leaf S .none h)
theorem rA(h:Q (.bool b) led):WE C led fe vs k (eval (.Constant (.bool b) kk pos) fe.env) Q :=
 λ_ _ _ _ _ _ _ _ _ S=>wpAny_Constant_bool (Pst.leaf S (.bool b) h)

/-! what follows,named -/
noncomputable abbrev aCq(C:Cx)(k:Nat)(f:Value→Value→Sem Value)(Q:D→aF→Prop)(d1:D):D→aF→Prop:=λd2 led2=>∀Y,Op2 C Y led2 k f d1 d2 Q
noncomputable abbrev aCr(C:Cx)(fe:Fe)(vs:aD)(k:Nat)(r:Expr)(f:Value→Value→Sem Value)(Q:D→aF→Prop):D→aF→Prop:=λd1 led1=>WE C led1 fe vs k (eval r fe.env) (aCq C k f Q d1)
noncomputable abbrev KUn(C:Cx)(k:Nat)(f:Value→Sem Value)(Q:D→aF→Prop):D→aF→Prop:=λd1 led1=>∀Y,Op1 C Y led1 k f d1 Q
/-! operators -/
theorem aBi
  (h:WE C led fe vs k (eval l fe.env) (aCr C fe vs k r (binaryOp op) Q)):WE C led fe vs k (eval (.BinOp l op r pos) fe.env) Q:=by
 intro F X hF hd A fz G s hA S;refine wpAny_BinOp (wpAny_mono (h F X hF hd A fz G s hA S) (λv1 s1 p=>?_) λ_ _ x=>x);obtain ⟨fz1,G1,d1,led1,l1,g1,e1,S1,h1⟩:=p;refine wpAny_mono (h1 F X hF hd A fz1 G1 s1 hA S1) (λv2 s2 p=>?_) λ_ _ x=>x
 obtain ⟨fz2,G2,d2,led2,l2,g2,e2,S2,h2⟩:=p;exact wpAny_mono (h2 _ A fz2 G2 s2 v1 v2 hA.r S2 (e1.mono l2) e2) (λ_ _ p=>(p.trans l2 g2).trans l1 g1) λ_ _ x=>x
theorem aCs
  (h:WE C led fe vs k (eval x fe.env) (KUn C k (unaryOp op) Q)):WE C led fe vs k (eval (.UnaryOp op x pos) fe.env) Q:=by
 intro F X hF hd A fz G s hA S;refine wpAny_UnaryOp (wpAny_mono (h F X hF hd A fz G s hA S) (λv1 s1 p=>?_) λ_ _ x=>x);obtain ⟨fz1,G1,d1,led1,l1,g1,e1,S1,h1⟩:=p;exact wpAny_mono (h1 _ A fz1 G1 s1 v1 hA.r S1 e1) (λ_ _ p=>p.trans l1 g1) λ_ _ x=>x
theorem WE.cmp1
  (h:WE C led fe vs k (eval l fe.env) (aCr C fe vs k r (compareOp op) Q)) (hm:autoParam (behindInMarks op r=false) cD) :
  WE C led fe vs k (eval (.Compare l [op] [r] pos) fe.env) Q:=by
 intro F X hF hd A fz G s hA S;refine wpAny_Compare1 (wpAny_mono (h F X hF hd A fz G s hA S) (λv1 s1 p=>?_) λ_ _ x=>x) hm;obtain ⟨fz1,G1,d1,led1,l1,g1,e1,S1,h1⟩:=p;refine wpAny_mono (h1 F X hF hd A fz1 G1 s1 hA S1) (λv2 s2 p=>?_) λ_ _ x=>x
 obtain ⟨fz2,G2,d2,led2,l2,g2,e2,S2,h2⟩:=p;exact wpAny_mono (h2 _ A fz2 G2 s2 v1 v2 hA.r S2 (e1.mono l2) e2) (λ_ _ p=>(p.trans l2 g2).trans l1 g1) λ_ _ x=>x
end
end Sc

namespace Sc
set_option tactic.hygienic false

theorem aW{M:Model}{t:Sem Value}{G:Array GenState}{P:D→aF→Prop}{R:Value→Shared→Prop}{E:Value→Shared→Prop}
  (h:wpAny M A t (Pst C fz Y G P) No s)
  (k:∀v s' fz' G' d led',FzLe fz fz'→GExt G G'→Den fz' v d→St C fz' led' Y G' s'→P d led'→R v s'):wpAny M A t R E s :=
 wpAny_mono h (λv s' ⟨fz',G',d,led',a,b,c,e,q⟩=>k v s' fz' G' d led' a b c e q) λ_ _ x=>x.elim
theorem hU{M:Model}{t:Sem Bool}{G:Array GenState}{P:Bool→aF→Prop}{R:Bool→Shared→Prop}{E:Value→Shared→Prop}
  (h:wpAny M A t (Psb C fz Y G P) No s)
  (k:∀b s' fz' G' led',FzLe fz fz'→GExt G G'→St C fz' led' Y G' s'→P b led'→R b s'):wpAny M A t R E s :=
 wpAny_mono h (λv s' ⟨fz',G',led',a,b,e,q⟩=>k v s' fz' G' led' a b e q) λ_ _ x=>x.elim
theorem kD{M:Model}{t:Sem (List Value)}{G:Array GenState}{P:List D→aF→Prop}{R:List Value→Shared→Prop}{E:Value→Shared→Prop}
  (h:wpAny M A t (Pss C fz Y G P) No s)
  (k:∀vs s' fz' G' ds led',FzLe fz fz'→GExt G G'→Dens fz' vs ds→St C fz' led' Y G' s'→P ds led'→R vs s'):wpAny M A t R E s :=
 wpAny_mono h (λv s' ⟨fz',G',ds,led',a,b,c,e,q⟩=>k v s' fz' G' ds led' a b c e q) λ_ _ x=>x.elim
theorem fin{M:Model}{t:Sem Value}{fz fz':Fz}{G G':Array GenState}{P:D→aF→Prop}{E:Value→Shared→Prop}
  (h:wpAny M A t (Pst C fz' Y G' P) No s) (l:FzLe fz fz') (g:GExt G G'):wpAny M A t (Pst C fz Y G P) E s :=
 wpAny_mono h (λ_ _ p=>p.trans l g) λ_ _ x=>x.elim
theorem aDR{M:Model}{t:Sem Bool}{fz fz':Fz}{G G':Array GenState}{P:Bool→aF→Prop}{E:Value→Shared→Prop}
  (h:wpAny M A t (Psb C fz' Y G' P) No s) (l:FzLe fz fz') (g:GExt G G'):wpAny M A t (Psb C fz Y G P) E s :=
 wpAny_mono h (λ_ _ p=>p.trans l g) λ_ _ x=>x.elim
structure KIfE (C:Cx) (fe:Fe) (vs:aD) (k:Nat) (body orelse:Expr) (Q:D→aF→Prop) (b:Bool) (led1:aF):Prop where
 t:b=true→WE C led1 fe vs k (eval body fe.env) Q
 f:b=false→WE C led1 fe vs k (eval orelse fe.env) Q
noncomputable abbrev aFW(Q:Bool→aF→Prop):Bool→aF→Prop:=λb led1=>Q (!b) led1
inductive KTru (Q:Bool→aF→Prop) (d:D) (led1:aF):Prop
 | mk (b:Bool):d=.bool b→Q b led1→KTru Q d led1
noncomputable abbrev aFX(C:Cx)(k:Nat)(Q:Bool→aF→Prop):D→aF→Prop:=λd led1=>∀Y,Tru C Y led1 k d Q
structure KAnd (C:Cx) (fe:Fe) (vs:aD) (k:Nat) (rest:List Expr) (Q:Bool→aF→Prop) (b:Bool) (led1:aF):Prop where
 t:b=true→WB C led1 fe vs k (allTrue .And rest fe.env) Q
 f:b=false→Q false led1
structure KOr (C:Cx) (fe:Fe) (vs:aD) (k:Nat) (rest:List Expr) (Q:Bool→aF→Prop) (b:Bool) (led1:aF):Prop where
 f:b=false→WB C led1 fe vs k (allTrue .Or rest fe.env) Q
 t:b=true→Q true led1
noncomputable abbrev aFY(C:Cx)(fe:Fe)(vs:aD)(k:Nat)(f2:Value→Value→Sem Value)(r2:Expr)(Q:Bool→aF→Prop)(d2:D):D→aF→Prop:=λd led3=>∃b,d=.bool b∧(b=false→Q false led3)∧(b=true→WE C led3 fe vs k (eval r2 fe.env) (aCq C k f2 (KTru Q) d2))
noncomputable abbrev aFZ(C:Cx)(fe:Fe)(vs:aD)(k:Nat)(f1 f2:Value→Value→Sem Value)(r2:Expr)(Q:Bool→aF→Prop)(d1:D):D→aF→Prop:=λd2 led2=>∀Y,Op2 C Y led2 k f1 d1 d2 (aFY C fe vs k f2 r2 Q d2)
noncomputable abbrev aF0(C:Cx)(fe:Fe)(vs:aD)(k:Nat)(f1:Value→Value→Sem Value)(r1:Expr)(f2:Value→Value→Sem Value)(r2:Expr)(Q:Bool→aF→Prop):D→aF→Prop:=λd1 led1=>WE C led1 fe vs k (eval r1 fe.env) (aFZ C fe vs k f1 f2 r2 Q d1)
section
variable {C:Cx} {led:aF} {fe:Fe} {vs:aD} {k:Nat}

theorem WB.mono(h:WB C led fe vs k t Q)(i:∀d led,Q d led→Q' d led):WB C led fe vs k t Q' :=
 λF X hF hd A fz G s hA S=>wpAny_mono (h F X hF hd A fz G s hA S) (λ_ _ ⟨f,H,l,a,b,c,q⟩=>⟨f,H,l,a,b,c,i _ _ q⟩) λ_ _ x=>x
theorem aBj
  (h:WB C led fe vs k (isTrue test fe.env (eval test fe.env)) (KIfE C fe vs k body orelse Q)) :
  WE C led fe vs k (eval (.IfExp test body orelse pos) fe.env) Q:=by
 intro F X hF hd A fz G s hA S;refine wpAny_IfExp (hU (h F X hF hd A fz G s hA S) λb s1 fz1 G1 led1 l1 g1 S1 h1=>?_);cases b
 ·exact fin (h1.2 rfl F X hF hd A fz1 G1 s1 hA S1) l1 g1
 ·exact fin (h1.1 rfl F X hF hd A fz1 G1 s1 hA S1) l1 g1

/-! truth -/
theorem Tru.bool(h:Q b led):Tru C Y led k (.bool b) Q:=by
 intro A fz G s v hA S e;induction e using dI;exact wpAny_truthy_bool (Psb.leaf S h)
theorem WB.not(h:WB C led fe vs k (isTrue x fe.env (eval x fe.env)) (aFW Q)) :
  WB C led fe vs k (isTrue (.UnaryOp .Not x pos) fe.env whole) Q:=by
 intro F X hF hd A fz G s hA S;exact wpAny_isTrue_Not (hU (h F X hF hd A fz G s hA S) λb s1 fz1 G1 led1 l1 g1 S1 h1=>⟨fz1,G1,led1,l1,g1,S1,h1⟩)
theorem WB.cmp1
  (h:WE C led fe vs k (eval l fe.env) (aCr C fe vs k r (compareOp op) (KTru Q)))
  (hm:autoParam (behindInMarks op r=false) cD) :
  WB C led fe vs k (isTrue (.Compare l [op] [r] pos) fe.env whole) Q:=by
 intro F X hF hd A fz G s hA S;refine wpAny_isTrue_Compare1 (aW (h F X hF hd A fz G s hA S) λv1 s1 fz1 G1 d1 led1 l1 g1 e1 S1 h1=>?_) hm;refine aW (h1 F X hF hd A fz1 G1 s1 hA S1) λv2 s2 fz2 G2 d2 led2 l2 g2 e2 S2 h2=>?_
 refine aW (h2 _ A fz2 G2 s2 v1 v2 hA.r S2 (e1.mono l2) e2) λv3 s3 fz3 G3 d3 led3 l3 g3 e3 S3 h3=>?_
 obtain ⟨b,rfl,q⟩:=h3;induction e3 using dI;exact wpAny_truthy_bool ⟨fz3,G3,led3,(l1.trans l2).trans l3,(g1.trans g2).trans g3,S3,q⟩
theorem WB.val(h:WE C led fe vs k (eval e fe.env) (aFX C k Q))
  (he:autoParam (∀whole,isTrue e fe.env whole=(do let v←whole;standAt e.pos;holding [v] (truthy v))) dD) :
  WB C led fe vs k (isTrue e fe.env (eval e fe.env)) Q:=by
 intro F X hF hd A fz G s hA S;refine wpAny_isTrue_value (aW (h F X hF hd A fz G s hA S) λv1 s1 fz1 G1 d1 led1 l1 g1 e1 S1 h1=>?_) (he _);exact aDR (h1 _ A fz1 G1 s1 v1 hA.r S1 e1) l1 g1
theorem rB(h:WB C led fe vs k (allTrue op values fe.env) Q) :
  WB C led fe vs k (isTrue (.BoolOp op values pos) fe.env whole) Q :=
 λF X hF hd A fz G s hA S=>wpAny_isTrue_BoolOp (h F X hF hd A fz G s hA S)
theorem xC(h:Q true led):WB C led fe vs k (allTrue .And [] fe.env) Q :=
 λF X hF hd A fz G s hA S=>wpAny_allTrue_And_nil (Psb.leaf S h)
theorem aAt(h:Q false led):WB C led fe vs k (allTrue .Or [] fe.env) Q :=
 λF X hF hd A fz G s hA S=>wpAny_allTrue_Or_nil (Psb.leaf S h)
theorem uC(h:WB C led fe vs k (isTrue x fe.env (eval x fe.env)) (KAnd C fe vs k rest Q)):WB C led fe vs k (allTrue .And (x::rest) fe.env) Q:=by
 intro F X hF hd A fz G s hA S;refine wpAny_allTrue_And_cons (hU (h F X hF hd A fz G s hA S) λb s1 fz1 G1 led1 l1 g1 S1 h1=>?_);cases b
 ·exact⟨fz1,G1,led1,l1,g1,S1,h1.2 rfl⟩
 ·exact aDR (h1.1 rfl F X hF hd A fz1 G1 s1 hA S1) l1 g1
theorem kE(h:WB C led fe vs k (isTrue x fe.env (eval x fe.env)) (KOr C fe vs k rest Q)):WB C led fe vs k (allTrue .Or (x::rest) fe.env) Q:=by
 intro F X hF hd A fz G s hA S;refine wpAny_allTrue_Or_cons (hU (h F X hF hd A fz G s hA S) λb s1 fz1 G1 led1 l1 g1 S1 h1=>?_);cases b
 ·exact aDR (h1.1 rfl F X hF hd A fz1 G1 s1 hA S1) l1 g1
 ·exact⟨fz1,G1,led1,l1,g1,S1,h1.2 rfl⟩
theorem zE
  (h:WE C led fe vs k (eval l fe.env) (aF0 C fe vs k (compareOp op1) r1 (compareOp op2) r2 Q))
  (hm:autoParam (lastMarks [op1,op2] [r1,r2]=false) cD) :
  WB C led fe vs k (isTrue (.Compare l [op1,op2] [r1,r2] pos) fe.env whole) Q:=by
 intro F X hF hd A fz G s hA S;refine isTrue_chain (aW (h F X hF hd A fz G s hA S) λv1 s1 fz1 G1 d1 led1 l1 g1 e1 S1 h1=>?_) hm;refine wpAny_bind (wpAny_holding (aW (h1 F X hF hd A fz1 G1 s1 hA S1) λv2 s2 fz2 G2 d2 led2 l2 g2 e2 S2 h2=>?_));refine wpAny_bind (wpAny_standAt (wpAny_bind (wpAny_holding (aW (h2 _ A fz2 G2 s2 v1 v2 hA.r S2 (e1.mono l2) e2) λv3 s3 fz3 G3 d3 led3 l3 g3 e3 S3 h3=>?_))))
 (refine cZ h3 λb o1 hf ht=>?_;clear h3;subst o1)
 induction e3 using dI;refine wpAny_bind ?_;have rel:∀(vs keep:List Value) (Q':Unit→Shared→Prop),Q' () s3→wpAny (model C.prog C.w) A (release vs keep) Q' No s3:=λvs keep Q' q Γ p _=>by erw[Sem.wp_release];exact q
 refine rel _ _ _ (wpAny_bind (wpAny_holding (wpAny_truthy_bool ?_)));cases b
 ·erw[if_neg Bool.false_ne_true];exact wpAny_pure ⟨fz3,G3,led3,(l1.trans l2).trans l3,(g1.trans g2).trans g3,S3,hf rfl⟩
 ·erw[if_pos rfl];show wpAny _ _ (testChain pos v2 [op2] [eval r2 fe.env]) _ _ _
  refine wpAny_bind (wpAny_holding (aW (ht rfl F X hF hd A fz3 G3 s3 hA S3) λv4 s4 fz4 G4 d4 led4 l4 g4 e4 S4 h4=>?_));refine wpAny_bind (wpAny_standAt (wpAny_bind (wpAny_operating (aW (h4 _ A fz4 G4 s4 v2 v4 hA.r S4 ((e2.mono l3).mono l4) e4) λv5 s5 fz5 G5 d5 led5 l5 g5 e5 S5 h5=>?_))));obtain ⟨b,rfl,q⟩:=h5;induction e5 using dI;exact wpAny_holding (wpAny_truthy_bool ⟨fz5,G5,led5,(((l1.trans l2).trans l3).trans l4).trans l5,(((g1.trans g2).trans g3).trans g4).trans g5,S5,q⟩)
end
end Sc

namespace Sc
set_option tactic.hygienic false

theorem gI{M:Model}{t:Sem Flow}{G:Array GenState}{P:Fl→aD→aF→Prop}{R:Flow→Shared→Prop}{E:Value→Shared→Prop}
  (h:wpAny M A t (Psf C fz X fe G P) No s)
  (k:∀f s' fz' G' F' vs' led' fl,FzLe fz fz'→GExt G G'→FlDen fz' f fl→FOk fe vs' F' X→Dj F' X→St C fz' led' (Un F' X) G' s'→P fl vs' led'→R f s'):wpAny M A t R E s :=
 wpAny_mono h (λf s' ⟨fz',G',F',vs',led',fl,a,b,c,d,e,g,q⟩=>k f s' fz' G' F' vs' led' fl a b c d e g q) λ_ _ x=>x.elim
theorem eK{M:Model}{t:Sem Unit}{G:Array GenState}{P:aD→aF→Prop}{R:Unit→Shared→Prop}{E:Value→Shared→Prop}
  (h:wpAny M A t (Psu C fz X fe G P) No s)
  (k:∀s' fz' G' F' vs' led',FzLe fz fz'→GExt G G'→FOk fe vs' F' X→Dj F' X→St C fz' led' (Un F' X) G' s'→P vs' led'→R () s'):wpAny M A t R E s :=
 wpAny_mono h (λf s' ⟨fz',G',F',vs',led',a,b,d,e,g,q⟩=>k s' fz' G' F' vs' led' a b d e g q) λ_ _ x=>x.elim
theorem aCt{M:Model}{t:Sem Flow}{fz fz':Fz}{G G':Array GenState}{P:Fl→aD→aF→Prop}{E:Value→Shared→Prop}
  (h:wpAny M A t (Psf C fz' X fe G' P) No s) (l:FzLe fz fz') (g:GExt G G'):wpAny M A t (Psf C fz X fe G P) E s :=
 wpAny_mono h (λ_ _ p=>p.trans l g) λ_ _ x=>x.elim
theorem Psu.trans(l:FzLe fz fz')(g:GExt G G')(h:Psu C fz' X fe G' Q v s):Psu C fz X fe G Q v s :=
 let ⟨f,H,F,vs,led,a,b,c,d,e,q⟩:=h;⟨f,H,F,vs,led,l.trans a,g.trans b,c,d,e,q⟩
theorem aF1{M:Model}{t:Sem Unit}{fz fz':Fz}{G G':Array GenState}{P:aD→aF→Prop}{E:Value→Shared→Prop}
  (h:wpAny M A t (Psu C fz' X fe G' P) No s) (l:FzLe fz fz') (g:GExt G G'):wpAny M A t (Psu C fz X fe G P) E s :=
 wpAny_mono h (λ_ _ p=>p.trans l g) λ_ _ x=>x.elim

noncomputable def SubC:aD→aD→Prop
 | [],_=>True
 | (x,d)::r,vs=>vs.lookup x=some d∧SubC r vs
noncomputable def Sub(a b:aD):Prop:=a.map (λp=>b.lookup p.1)=a.map λp=>some p.2
theorem Sub.of:∀{a b:aD},SubC a b→Sub a b
 | [],_,_=>rfl
 | (x,d)::r,vs,h=>show vs.lookup x::r.map (λp=>vs.lookup p.1)=some d::r.map λp=>some p.2 from congr (congrArg List.cons h.1) (Sub.of h.2)
theorem Sub.toC:∀{a b:aD},Sub a b→SubC a b
 | [],_,_=>True.intro
 | (_,_)::_,_,h=>⟨(List.cons.inj h).1,Sub.toC (List.cons.inj h).2⟩
theorem SubC.spec:∀{r vs:aD},SubC r vs→∀x d,r.lookup x=some d→vs.lookup x=some d
 | [],_,_,x,d,e=>by exact bN e
 | (y,e')::r,vs,h,x,d,e=>by
  rw[List.lookup_cons]at e;cases hb:x == y with
  | true=>(first|exact (aH (hb ..) e).elim|cases aJ (hb ..) e|(rw[hb]at e;(have e1:=Option.some.inj e;clear e;subst e1)));rw[beq_iff_eq.mp hb];exact h.1
  | false=>rw[hb]at e;exact SubC.spec h.2 x d e
theorem Sub.spec(h:Sub r vs)(x:Str)(d:D)(e:r.lookup x=some d):vs.lookup x=some d:=SubC.spec h.toC x d e
theorem FOk.sub{fe:Fe}{vs vs':aD}{F X:aF}(h:FOk fe vs' F X)(i:Sub vs vs'):FOk fe vs F X where
 fn:=h.fn
 glob:=h.glob
 blt:=h.blt
 loc:=let ⟨m,a,b⟩:=h.loc;⟨m,a,λx d e q=>b x d (i.spec x d e) q⟩
 cel:=λx d e q=>h.cel x d (i.spec x d e) q
 own:=h.own
 inj:=h.inj
theorem FOk.up{fe:Fe}{vs:aD}{F X X':aF}(h:FOk fe vs F X)(i:∀a m,X a=some m→X' a=some m):FOk fe vs F X' where
 fn:=h.fn
 glob:=h.glob
 blt:=h.blt
 loc:=h.loc
 cel:=λx d e q=>let ⟨c,a,b⟩:=h.cel x d e q;⟨c,a,by
  cases hF:F c with
  | some m=>rw[aC hF]at b;rw[aC hF];exact b
  | none=>rw[aE hF]at b;rw[aE hF];exact i _ _ b⟩
 own:=h.own
 inj:=h.inj

section
variable {C:Cx} {led:aF} {fe:Fe} {vs:aD} {k:Nat} {Q:Fl→aD→aF→Prop}

theorem WS.sub(h:WS C led fe vs k t Q)(i:Sub vs vs'):WS C led fe vs' k t Q :=
 λF X hF hd=>h F X (hF.sub i) hd
theorem WS.mono(h:WS C led fe vs k t Q)(i:∀f vs led,Q f vs led→Q' f vs led):WS C led fe vs k t Q' :=
 λF X hF hd A fz G s hA S=>gI (h F X hF hd A fz G s hA S) λf s' fz' G' F' vs' led' fl a b c d e g q=>⟨fz',G',F',vs',led',fl,a,b,c,d,e,g,i _ _ _ q⟩
theorem WU.mono{t:Value→Sem Unit}{d:D}{Q Q':aD→aF→Prop}(h:WU C led fe vs k t d Q)(i:∀vs led,Q vs led→Q' vs led):WU C led fe vs k t d Q' :=
 λF X hF hd A fz G s v hA S e=>eK (h F X hF hd A fz G s v hA S e) λs' fz' G' F' vs' led' a b d e g q=>⟨fz',G',F',vs',led',a,b,d,e,g,i _ _ q⟩
theorem WS.nil(h:Q .next vs led):WS C led fe vs k (execs [] fe.env) Q :=
 λF X hF hd A fz G s hA S=>wpAny_execs_nil ⟨fz,G,F,vs,led,.next,.refl _,.refl _,trivial,hF,hd,S,h⟩
noncomputable abbrev aED(C:Cx)(fe:Fe)(k:Nat)(rest:List Stmt)(Q:Fl→aD→aF→Prop):Fl→aD→aF→Prop:=λfl vs led =>
 match fl with
 | .next=>WS C led fe vs k (execs rest fe.env) Q
 | fl=>Q fl vs led
noncomputable abbrev aF2(vs:aD)(Q:Fl→aD→aF→Prop):D→aF→Prop:=λd led1=>Q (.ret d) vs led1
structure KIf (C:Cx) (fe:Fe) (vs:aD) (k:Nat) (body orelse:List Stmt) (Q:Fl→aD→aF→Prop) (b:Bool) (led1:aF):Prop where
 t:b=true→WS C led1 fe vs k (execs body fe.env) Q
 f:b=false→WS C led1 fe vs k (execs orelse fe.env) Q
structure KExpr (vs:aD) (Q:Fl→aD→aF→Prop) (d:D) (led1:aF):Prop where
 e:d=.none
 q:Q .next vs led1
noncomputable abbrev aEE(C:Cx)(fe:Fe)(vs:aD)(k:Nat)(x:Str)(Q:Fl→aD→aF→Prop):D→aF→Prop:=λd led1=>WU C led1 fe vs k (storeName fe.env x) d (Q .next)
inductive KLess (I:Nat→aD→aF→Prop) (n:Nat) (vs:aD) (led:aF):Prop
 | mk (m:Nat) (vs3:aD):m<n→Sub vs3 vs→I m vs3 led→KLess I n vs led
noncomputable abbrev aDk(I:Nat→aD→aF→Prop)(n:Nat)(Q:Fl→aD→aF→Prop):Fl→aD→aF→Prop:=λfl vs2 led2=>match fl with
    | .next|.cont=>KLess I n vs2 led2
    | .brk=>Q .next vs2 led2
    | .ret d=>Q (.ret d) vs2 led2
structure KWh (C:Cx) (fe:Fe) (vs:aD) (k:Nat) (body:List Stmt) (I:Nat→aD→aF→Prop) (n:Nat) (Q:Fl→aD→aF→Prop) (b:Bool) (led1:aF):Prop where
 t:b=true→WS C led1 fe vs k (execs body fe.env) (aDk I n Q)
 f:b=false→Q .next vs led1
theorem jL{motive:∀f fl,FlDen fz f fl→Prop}{f:Flow}{fl:Fl}(e:FlDen fz f fl)(next:motive .next .next trivial)(brk:motive .brk .brk trivial)(cont:motive .cont .cont trivial)
  (ret:∀v d (e:Den fz v d),motive (.ret v) (.ret d) e):motive f fl e:=by
 cases fl<;>cases f<;>first|exact False.elim e|exact next|exact brk|exact cont|exact ret _ _ e
theorem WS.cons{st:Stmt}{rest:List Stmt}(h:WS C led fe vs k (exec st fe.env) (aED C fe k rest Q)):WS C led fe vs k (execs (st::rest) fe.env) Q:=by
 intro F X hF hd A fz G s hA S;refine wpAny_execs_cons (gI (h F X hF hd A fz G s hA S) λf s1 fz1 G1 F1 vs1 led1 fl l1 g1 e1 hF1 hd1 S1 h1=>?_);induction e1 using jL with
 | next=>exact aCt (h1 F1 X hF1 hd1 A fz1 G1 s1 hA S1) l1 g1
 | brk=>exact⟨fz1,G1,F1,vs1,led1,.brk,l1,g1,trivial,hF1,hd1,S1,h1⟩
 | cont=>exact⟨fz1,G1,F1,vs1,led1,.cont,l1,g1,trivial,hF1,hd1,S1,h1⟩
 | ret v d e1=>exact⟨fz1,G1,F1,vs1,led1,.ret d,l1,g1,e1,hF1,hd1,S1,h1⟩

theorem WS.brk(h:Q .brk vs led):WS C led fe vs k (exec (.Break pos) fe.env) Q :=
 λF X hF hd A fz G s hA S=>wpAny_Break ⟨fz,G,F,vs,led,.brk,.refl _,.refl _,trivial,hF,hd,S,h⟩
theorem WS.cont(h:Q .cont vs led):WS C led fe vs k (exec (.Continue pos) fe.env) Q :=
 λF X hF hd A fz G s hA S=>wpAny_Continue ⟨fz,G,F,vs,led,.cont,.refl _,.refl _,trivial,hF,hd,S,h⟩
theorem WS.ret(h:WE C led fe vs k (eval e fe.env) (aF2 vs Q)):WS C led fe vs k (exec (.Return (some e) pos) fe.env) Q :=
 λF X hF hd A fz G s hA S=>wpAny_Return_some (aW (h F X hF hd A fz G s hA S) λv1 s1 fz1 G1 d1 led1 l1 g1 e1 S1 h1=>⟨fz1,G1,F,vs,led1,.ret d1,l1,g1,e1,hF,hd,S1,h1⟩)
theorem mL(h:Q (.ret .none) vs led):WS C led fe vs k (exec (.Return none pos) fe.env) Q :=
 λF X hF hd A fz G s hA S=>wpAny_Return_none ⟨fz,G,F,vs,led,.ret .none,.refl _,.refl _,Den.none,hF,hd,S,h⟩
theorem zF
  (h:WB C led fe vs k (isTrue test fe.env (eval test fe.env)) (KIf C fe vs k body orelse Q)) :
  WS C led fe vs k (exec (.If test body orelse pos) fe.env) Q:=by
 intro F X hF hd A fz G s hA S;refine wpAny_If (hU (h F X hF hd A fz G s hA S) λb s1 fz1 G1 led1 l1 g1 S1 h1=>?_);cases b
 ·exact aCt (h1.2 rfl F X hF hd A fz1 G1 s1 hA S1) l1 g1
 ·exact aCt (h1.1 rfl F X hF hd A fz1 G1 s1 hA S1) l1 g1
theorem WS.expr(h:WE C led fe vs k (eval e fe.env) (KExpr vs Q))
  (hi:autoParam (interactive fe.env=false) cD) (hs:autoParam (swapsWith e none pos.line fe.env=pure false) cD):WS C led fe vs k (exec (.Expr e pos) fe.env) Q:=by
 intro F X hF hd A fz G s hA S;refine wpAny_Expr (aW (h F X hF hd A fz G s hA S) λv1 s1 fz1 G1 d1 led1 l1 g1 e1 S1 h1=>?_) hi hs;obtain ⟨rfl,q⟩:=h1;induction e1 using gO;exact⟨fz1,G1,F,vs,led1,.next,l1,g1,trivial,hF,hd,S1,q⟩
theorem WS.assign(h:WE C led fe vs k (eval e fe.env) (aEE C fe vs k x Q))
  (hs:autoParam (swapsWith e (some (.Name x px)) pos.line fe.env=pure false) cD):WS C led fe vs k (exec (.Assign [.Name x px] e pos) fe.env) Q:=by
 intro F X hF hd A fz G s hA S;refine wpAny_Assign_Name (aW (h F X hF hd A fz G s hA S) λv1 s1 fz1 G1 d1 led1 l1 g1 e1 S1 h1=>?_) hs;exact eK (h1 F X hF hd A fz1 G1 s1 v1 hA S1 e1) λs2 fz2 G2 F2 vs2 led2 l2 g2 hF2 hd2 S2 q=>⟨fz2,G2,F2,vs2,led2,.next,l1.trans l2,g1.trans g2,trivial,hF2,hd2,S2,q⟩
theorem aDS(h:WE C led fe vs k (loadName fe.env x) (aCr C fe vs k e (inplaceOp op) (aEE C fe vs k x Q))) :
  WS C led fe vs k (exec (.AugAssign (.Name x px) op e pos) fe.env) Q:=by
 intro F X hF hd A fz G s hA S;refine wpAny_AugAssign_Name (aW (h F X hF hd A fz G s hA S) λv1 s1 fz1 G1 d1 led1 l1 g1 e1 S1 h1=>?_);refine aW (h1 F X hF hd A fz1 G1 s1 hA S1) λv2 s2 fz2 G2 d2 led2 l2 g2 e2 S2 h2=>?_
 refine aW (h2 _ A fz2 G2 s2 v1 v2 hA.r S2 (e1.mono l2) e2) λv3 s3 fz3 G3 d3 led3 l3 g3 e3 S3 h3=>?_
 exact eK (h3 F X hF hd A fz3 G3 s3 v3 hA S3 e3) λs4 fz4 G4 F4 vs4 led4 l4 g4 hF4 hd4 S4 q =>
  ⟨fz4,G4,F4,vs4,led4,.next,((l1.trans l2).trans l3).trans l4,((g1.trans g2).trans g3).trans g4,trivial,hF4,hd4,S4,q⟩

theorem iU(I:Nat→aD→aF→Prop)(n:Nat)(h0:I n vs led)
  (turn:∀n vs led,I n vs led→WB C led fe vs k (isTrue test fe.env (eval test fe.env)) (KWh C fe vs k body I n Q)) :
  WS C led fe vs k (exec (.While test body [] pos) fe.env) Q:=by
 intro F X hF hd A fz G s hA S;refine wpAny_While (codeAny_whileLoop (λn s'=>∃fz' G' F' vs' led',FzLe fz fz'∧GExt G G'∧FOk fe vs' F' X∧Dj F' X∧St C fz' led' (Un F' X) G' s'∧I n vs' led') (λn s1 hI=>?_) n ⟨fz,G,F,vs,led,.refl _,.refl _,hF,hd,S,h0⟩)
 (refine aCo hI ?_;clear hI;intro fz1 G1 F1 vs1 led1 l1 g1 hF1 hd1 S1 hI)
 refine hU (turn n vs1 led1 hI F1 X hF1 hd1 A fz1 G1 s1 hA S1) λb s2 fz2 G2 led2 l2 g2 S2 h2=>?_
 cases b
 ·exact wpAny_execs_nil ⟨fz2,G2,F1,vs1,led2,.next,l1.trans l2,g1.trans g2,trivial,hF1,hd1,S2,h2.2 rfl⟩
 ·refine gI (h2.1 rfl F1 X hF1 hd1 A fz2 G2 s2 hA S2) λf s3 fz3 G3 F3 vs3 led3 fl l3 g3 e3 hF3 hd3 S3 h3=>?_
  induction e3 using jL with
  | next=>obtain ⟨m,vs4,hm,hs,q⟩:=h3;exact⟨m,hm,fz3,G3,F3,vs4,led3,(l1.trans l2).trans l3,(g1.trans g2).trans g3,hF3.sub hs,hd3,S3,q⟩
  | cont=>obtain ⟨m,vs4,hm,hs,q⟩:=h3;exact⟨m,hm,fz3,G3,F3,vs4,led3,(l1.trans l2).trans l3,(g1.trans g2).trans g3,hF3.sub hs,hd3,S3,q⟩
  | brk=>exact⟨fz3,G3,F3,vs3,led3,.next,(l1.trans l2).trans l3,(g1.trans g2).trans g3,trivial,hF3,hd3,S3,h3⟩
  | ret v d e3=>exact⟨fz3,G3,F3,vs3,led3,.ret d,(l1.trans l2).trans l3,(g1.trans g2).trans g3,e3,hF3,hd3,S3,h3⟩
end
end Sc

namespace Sc
set_option tactic.hygienic false

structure PosFn (fd:FuncData) (ns:List Str) (body:List Stmt):Prop where
 po:fd.params.posonlyargs=[]
 args:fd.params.args.map (·.arg)=ns
 va:fd.params.vararg=none
 ko:fd.params.kwonlyargs=[]
 kd:fd.params.kw_defaults=[]
 kwa:fd.params.kwarg=none
 nodup:ns.Nodup
 dfl:fd.defaults=.none
 body:fd.body=.stmts body
 co:fd.scope.isCoroutine=false

theorem oK:∀(ns:List Str) (vs:List Value),ns.Nodup→vs.length=ns.length→∀n∈ns,∃v,(ns.zip vs).lookup n=some v
 | [],_,_,_,n,h=>by cases h
 | m::ns,[],_,hl,n,h=>by (exfalso;injection hl)
 | m::ns,v::vs,hn,hl,n,h=>by
  rw[List.zip_cons_cons,List.lookup_cons];by_cases e:n=m
  ·subst e;rw[beq_self_eq_true];exact⟨v,rfl⟩
  ·rw[beq_eq_false_iff_ne.mpr e];exact oK ns vs (List.nodup_cons.mp hn).2 (by simpa using hl) n ((List.mem_cons.mp h).resolve_left e)
theorem uD{α β:Type}{f g:α→Option β}:∀{l:List α},(∀x∈l,f x=g x)→l.filterMap f=l.filterMap g
 | [],_=>rfl
 | x::l,h=>by rw[List.filterMap_cons,List.filterMap_cons,h x List.mem_cons_self,uD λy hy=>h y (List.mem_cons_of_mem _ hy)]
theorem jX:∀(ns:List Str) (vs:List Value),ns.Nodup→vs.length=ns.length→ns.filterMap (λn=>((ns.zip vs).lookup n).map (n,·))=ns.zip vs
 | [],_,_,_=>rfl
 | m::ns,[],_,hl=>by (exfalso;injection hl)
 | m::ns,v::vs,hn,hl=>by
  have hx_0:=List.nodup_cons.mp hn;have hm:=hx_0.1;have hn':=hx_0.2;have ih:=jX ns vs hn' (by simpa using hl);rw[List.zip_cons_cons,List.filterMap_cons,List.lookup_cons,beq_self_eq_true];simp only[Option.map_some]
  congr 1
  rw[← ih];refine uD λn hn=>?_
  have e:(n == m)=false:=beq_eq_false_iff_ne.mpr λq=>hm (q▸hn)
  rw[List.lookup_cons,e];simp only[ih]
theorem sB(h:PosFn fd ns body)(vs:List Value)(hl:vs.length=ns.length):bindArgs fd ⟨vs,[]⟩=pure (ns.zip vs):=by
 have hm:(ns.filter λn=>((ns.zip vs).lookup n).isNone)=[]:=by
  erw[List.filter_eq_nil_iff];intro n hn;refine aN (oK ns vs h.nodup hl n hn) λv e=>?_
  erw[e];simp
 have hz:=jX ns vs h.nodup hl;obtain ⟨name,qn,⟨po,as,va,ko,kd,kwa,df⟩,bd,sc,gl,cl,dfl,kwd,doc,pm,an,co,ct,bi⟩:=fd;obtain ⟨rfl,e,rfl,rfl,_,rfl,hn,rfl,_,_⟩:=h
 dsimp only at e
 subst e;refine (if_neg (c:=(decide (vs.length > (as.map (·.arg)).length) && true)=true) (by erw[hl];simp)).trans ?_;have e0:∀k,((none:Option (Array Value)).getD #[]).toList.drop k=[]:=λk=>List.drop_nil
 have hd:(as.map (·.arg)).take ((as.map (·.arg)).length - ([]:List Value).length)=as.map (·.arg):=List.take_of_length_le (Nat.le_refl _);erw[e0];refine (if_neg (c:=(!(((as.map (·.arg)).take ((as.map (·.arg)).length - ([]:List Value).length)).filter λn=>(((as.map (·.arg)).zip vs).lookup n).isNone).isEmpty)=true) (by erw[hd,hm];simp)).trans ?_;erw[List.zip_nil_right];show (pure ((as.map (λx:Arg=>x.arg)++[]).filterMap λn=>(((as.map (λx:Arg=>x.arg)).zip vs).lookup n).map (n,·)):Sem (List (Str×Value)))=_
 erw[List.append_nil,hz]
theorem St.newF(S:St C fz led (Un F X) G s)(hd:Dj F X)(ha:s.heap.get? a=none)(t:Nat)
  (hk:∀b o,s.heap.get? b=some o→h'.get? b=some o) (hm:MAt fz h' a m):St C fz led (Un (upd F a m) X) G { s with heap:=h',toks:=t }∧Dj (upd F a m) X:=by
 have hT:=S.rel.freshT ha;have hl:led a=none:=(Un_none.mp hT).1;have hX:X a=none:=(Un_none.mp (Un_none.mp hT).2).2;refine⟨⟨?_,?_⟩,hd.upd m hX⟩
 ·erw[cX];exact (Dj.upd S.dj.symm m hl).symm
 ·erw[cX,cO _ _ _ _ hl];exact S.rel.alloc ha t hk hm
theorem St.fresh(S:St C fz led Y G s)(ha:s.heap.get? a=none):led a=none∧Y a=none:=Un_none.mp (S.rel.freshT ha)

structure CloOk (cl:List (Str×Addr)) (Y:aF) (fv:aD):Prop where
 al:∀x c,cl.lookup x=some c→∃d,Y c=some (.cell d)
 inj:∀x y c,cl.lookup x=some c→cl.lookup y=some c→x=y
 fv:∀x d,fv.lookup x=some d→∃c,cl.lookup x=some c∧Y c=some (.cell (some d))

noncomputable def aS(sc:Scope):List Str:=(sc.names.filter (·.2 == .cell)).map (·.1)

structure CellsInv (cl acc:List (Str×Addr)) (seen:List Str) (F:aF):Prop where
 from':∀x c,acc.lookup x=some c→(∃dd,F c=some (.cell dd))∨cl.lookup x=some c
 inj:∀x y c,acc.lookup x=some c→acc.lookup y=some c→x=y
 other:∀x,x∉seen→acc.lookup x=cl.lookup x
 own:∀x,x∈seen→∃c,acc.lookup x=some c∧F c=some (.cell none)

theorem CellsInv.push{cl acc:List (Str×Addr)}{seen:List Str}{name:Str}{a:Addr}(i:CellsInv cl acc seen F)(hcl:∀x,cl.lookup x≠some a)(hF:F a=none):CellsInv cl ((name,a)::acc) (name::seen) (upd F a (.cell none)):=by
 have keep:∀{c m},F c=some m→upd F a (.cell none) c=some m:=λ{c m} e=>by erw[aG _ _ (λz=>by subst z;(first|exact (aH (hF ..) e).elim|cases aJ (hF ..) e|(rw[hF]at e;cases e)))];exact e
 have hno:∀x,acc.lookup x≠some a:=λx e=>by
  rcases i.from' x _ e with ⟨dd,q⟩| q
  ·(first|exact (aH (hF ..) q).elim|cases aJ (hF ..) q|(rw[hF]at q;cases q))
  ·exact hcl x q
 have key:∀x c,((name,a)::acc).lookup x=some c→(x=name∧c=a)∨acc.lookup x=some c:=λx c e=>by
  rw[List.lookup_cons]at e;cases hb:x == name with
  | true=>(first|exact (aH (hb ..) e).elim|cases aJ (hb ..) e|(rw[hb]at e;(have e1:=Option.some.inj e;clear e;subst e1)));exact .inl ⟨beq_iff_eq.mp hb,rfl⟩
  | false=>rw[hb]at e;exact .inr e
 refine⟨λx c e=>?_,λx y c e1 e2=>?_,λx hx=>?_,λx hx=>?_⟩
 ·rcases key x c e with ⟨_,rfl⟩| e
  ·exact .inl ⟨none,aA ..⟩
  ·rcases i.from' x c e with ⟨dd,q⟩| q
   ·exact .inl ⟨dd,keep q⟩
   ·exact .inr q
 ·rcases key x c e1 with ⟨rfl,rfl⟩| z1<;>rcases key y _ e2 with ⟨rfl,h⟩| z2
  ·rfl
  ·exact absurd z2 (hno y)
  ·subst h;exact absurd z1 (hno x)
  ·exact i.inj x y c z1 z2
 ·erw[List.lookup_cons,beq_eq_false_iff_ne.mpr (λ(z:x=name)=>hx (by erw[z];exact List.mem_cons_self))];exact i.other x λq=>hx (List.mem_cons_of_mem _ q)
 ·erw[List.lookup_cons];cases hb:x == name with
  | true=>exact⟨_,rfl,aA ..⟩
  | false =>
   refine aL (i.own x ((List.mem_cons.mp hx).resolve_left (beq_eq_false_iff_ne.mp hb))) λc q1 q2=>?_
   exact⟨c,q1,keep q2⟩
theorem aAu{M:Model}{E:Value→Shared→Prop}{G:Array GenState}{cl:List (Str×Addr)}(hc:CloOk cl X fv){L:Addr}(f:Str×NameKind→List (Str×Addr)→Sem (ForInStep (List (Str×Addr))))
  (hf:∀name kind cells,f (name,kind) cells=if kind == .cell then (do let a←alloc { cls:=.type "cell",data:=.cell none };pure (.yield ((name,a)::cells))) else pure (.yield cells)) (names:List (Str×NameKind)) :
  ∀(acc:List (Str×Addr)) (seen:List Str) (F:aF) (s:Shared) (Q:List (Str×Addr)→Shared→Prop),
   CellsInv cl acc seen F→F L=some (.ns [])→Dj F X→St C fz led (Un F X) G s →
   (∀acc' F' s',CellsInv cl acc' (((names.filter (·.2 == .cell)).map (·.1)).reverse++seen) F'→F' L=some (.ns [])→Dj F' X→St C fz led (Un F' X) G s'→Q acc' s')→wpAny M A (forIn names acc f) Q E s:=by
 induction names with
 | nil=>intro acc seen F s Q i hL hd S h;erw[List.forIn_nil];exact wpAny_pure (h acc F s i hL hd S)
 | cons p r ih =>
  obtain ⟨name,kind⟩:=p;intro acc seen F s Q i hL hd S h;erw[List.forIn_cons,hf];cases hk:kind == .cell with
  | true =>
   erw[if_pos rfl];refine wpAny_bind (wpAny_bind (wpAny_alloc (wpAny_pure ?_)));have ha:s.heap.get? s.heap.objs.size=none:=aO _ (Nat.le_refl _);have N:=S.newF hd ha (m:=.cell none) (h':=s.heap.push { cls:=.type "cell",data:=.cell none }) s.toks (λb o e=>Heap.get?_push_of_some _ e) ⟨none,Heap.get?_push_size _ rfl,trivial⟩;have hfr:=Un_none.mp (S.fresh ha).2;refine ih _ (name::seen) _ _ Q (i.push (λx q=>?_) hfr.1) ?_ N.2 N.1 λacc' F' s' i'=>h acc' F' s' ?_
   ·refine aN (hc.al x _ q) λd q=>?_;(first|exact (aH (hfr.2 ..) q).elim|cases aJ (hfr.2 ..) q|(rw[hfr.2]at q;cases q))
   ·erw[aG _ _ (λz=>by subst z;(first|exact (aH (hfr.1 ..) hL).elim|cases aJ (hfr.1 ..) hL|(rw[hfr.1]at hL;cases hL)))];exact hL
   ·erw[List.filter_cons_of_pos (p:=λx:Str×NameKind=>x.2 == .cell) (a:=(name,kind)) hk,List.map_cons,List.reverse_cons,List.append_assoc];exact i'
  | false =>
   erw[if_neg Bool.false_ne_true];refine wpAny_bind (wpAny_pure (ih acc seen F s Q i hL hd S λacc' F' s' i'=>h acc' F' s' ?_));erw[List.filter_cons_of_neg (p:=λx:Str×NameKind=>x.2 == .cell) (a:=(name,kind)) (by erw[show ((name,kind).2 == NameKind.cell)=false from hk];exact Bool.false_ne_true)];exact i'

section
variable {C:Cx} {led:aF} {fe:Fe} {vs:aD} {k:Nat}
theorem oM(hk:fe.env.kindOf x=some .local∨(fe.env.kindOf x=some .cell∧x∈fe.ow))(h:Q (hG vs x d) led):WU C led fe vs k (storeName fe.env x) d Q:=by
 rcases hk with hk|⟨hk,hx⟩
 ·exact oH hk h
 ·exact qG hk hx h
end

noncomputable def uE(vs:aD):List (Str×D)→aD
 | []=>vs
 | (x,d)::r=>uE (hG vs x d) r

theorem uF(hA:RoomF 0 A fe X)(f:Str×Value→PUnit→Sem (ForInStep PUnit))(hf:∀n v u,f (n,v) u=(do storeName fe.env n v;pure (.yield ⟨⟩))) :
  ∀(ns:List Str) (vals:List Value) (ds:List D) (vs:aD) (F:aF) (fz:Fz) (G:Array GenState) (s:Shared) (Q:PUnit→Shared→Prop),Dens fz vals ds→FOk fe vs F X→Dj F X→St C fz led (Un F X) G s →
   (∀x∈ns,fe.env.kindOf x=some .local∨(fe.env.kindOf x=some .cell∧x∈fe.ow)) →
   (∀fz' G' F' s',FzLe fz fz'→GExt G G'→FOk fe (uE vs (ns.zip ds)) F' X→Dj F' X→St C fz' led (Un F' X) G' s'→Q ⟨⟩ s')→wpAny (model C.prog C.w) A (forIn (ns.zip vals) ⟨⟩ f) Q No s:=by
 intro ns;induction ns with
 | nil=>intro vals ds vs F fz G s Q hv hF hd S hk h;erw[List.zip_nil_left,List.forIn_nil];rw[List.zip_nil_left]at h;exact wpAny_pure (h fz G F s (.refl _) (.refl _) hF hd S)
 | cons n ns ih =>
  intro vals ds vs F fz G s Q hv hF hd S hk h;cases ds with
  | nil =>
   obtain rfl:=hv.inv;erw[List.zip_nil_right,List.forIn_nil];rw[List.zip_nil_right]at h;exact wpAny_pure (h fz G F s (.refl _) (.refl _) hF hd S)
  | cons d ds =>
   (refine cU hv.inv λv vals hv1 hvs o1=>?_;subst o1)
   erw[List.zip_cons_cons,List.forIn_cons,hf];refine wpAny_bind (wpAny_bind (eK (oM (Q:=λvs' led'=>vs'=hG vs n d∧led'=led) (hk n List.mem_cons_self) ⟨rfl,rfl⟩ F X hF hd A fz G s v hA S hv1) λs1 fz1 G1 F1 vs1 led1 l1 g1 hF1 hd1 S1 q=>wpAny_pure ?_))
   (refine cL q λo1 o2=>?_;clear q;subst o1;subst o2)
   exact ih vals ds _ _ fz1 G1 _ Q (hvs.mono l1) hF1 hd1 S1 (λx hx=>hk x (List.mem_cons_of_mem _ hx)) λfz' G' F' s' a b=>h fz' G' F' s' (l1.trans a) (g1.trans b)

theorem aAv(e1:env.scope=scope)(e2:env.locals=L)(e3:env.globals=mainGlobals)(e4:env.cells=cs)(e5:env.builtins=builtinsNs)
  (hk:scope.kind=.function) (hL:F L=some (.ns [])) (hc:CloOk cl X fv) (hd:Dj F X) (hfv:∀x d,fv.lookup x=some d→scope.names.lookup x≠some .local∧x∉aS scope) (i:CellsInv cl cs (aS scope).reverse F):FOk ⟨env,aS scope⟩ fv F X:=by
 subst e1 e2 e4
 exact {
  fn:=hk
  glob:=e3
  blt:=e5
  loc:=⟨[],hL,λx d e q=>absurd q (hfv x d e).1⟩
  cel:=λx d e _=>by
   refine aL (hc.fv x d e) λc q1 q2=>?_
   exact⟨c,(i.other x (λz=>(hfv x d e).2 (List.mem_reverse.mp z))).trans q1,by erw[aE];exact q2;exact (hd c).resolve_right (by erw[q2];exact Option.some_ne_none _)⟩
  own:=λx hx=>by
   refine aL (i.own x (List.mem_reverse.mpr hx)) λc q1 q2=>?_
   exact⟨c,none,q1,q2⟩
  inj:=i.inj }
theorem zG{G:Array GenState}(hA:RoomY 0 A X){scope:Scope}{cl:List (Str×Addr)}{ns:List Str}{vals:List Value}{ds:List D}{qual:Str}
  {func:Option Addr} {code:Value} {around:Option Env} {bi:Addr} {Q:Env→Shared→Prop}
  (hk:scope.kind=.function) (hc:CloOk cl X fv) (hv:Dens fz vals ds) (S:St C fz led X G s) (hb:around.elim bi (·.builtins)=builtinsNs)
  (hkind:∀x∈ns,scope.names.lookup x=some .local∨(scope.names.lookup x=some .cell∧x∈aS scope))
  (hfv:∀x d,fv.lookup x=some d→scope.names.lookup x≠some .local∧x∉aS scope)
  (hQ:∀L cs fz' G' F s',FzLe fz fz'→GExt G G'→(∀x,x∉aS scope→cs.lookup x=cl.lookup x) →
   FOk ⟨newEnv scope L mainGlobals cs qual func code around bi,aS scope⟩ (uE fv (ns.zip ds)) F X→Dj F X→St C fz' led (Un F X) G' s'→Q (newEnv scope L mainGlobals cs qual func code around bi) s') :
  wpAny (model C.prog C.w) A (newFunctionEnv scope mainGlobals cl (ns.zip vals) qual func code around bi) Q No s:=by
 have ha:s.heap.get? s.heap.objs.size=none:=aO _ (Nat.le_refl _)
 have key:∀cls:Value,(newEnv scope s.heap.objs.size mainGlobals cl qual func code around bi).builtins=builtinsNs:=λ_=>by
  cases around<;>exact hb
 have go:∀cls:Value,wpAny (model C.prog C.w) A (do
   let locals←alloc { cls:=cls,data:=.dict #[] }
   let mut cells:=cl
   for (name,kind) in scope.names do
    if kind == .cell then cells:=(name,← alloc { cls:=.type "cell",data:=.cell none })::cells
   for (name,v) in ns.zip vals do storeName (newEnv scope locals mainGlobals cells qual func code around bi) name v
   return newEnv scope locals mainGlobals cells qual func code around bi) Q No s:=by
  intro cls;refine wpAny_bind (wpAny_alloc ?_)
  obtain ⟨S',hd'⟩:=(show St C fz led (Un emp X) G s from by erw[oG];exact S).newF (wZ X) ha (m:=.ns []) (h':=s.heap.push { cls:=cls,data:=.dict #[] }) s.toks (λb o e=>Heap.get?_push_of_some _ e)
   ⟨_,Heap.Ns.new s.heap cls,λx e he=>by exact bN he⟩
  refine wpAny_bind (aAu hc (L:=s.heap.objs.size) _ (λname kind cells=>by cases hkc:kind == NameKind.cell<;>simp[hkc]) scope.names cl [] _ _ _
   ⟨λx c e=>.inr e,hc.inj,λx _=>rfl,λx hx=>nomatch hx⟩ (aA ..) hd' S' λacc F s1 i hL hd1 S1=>?_)
  rw[List.append_nil]at i
  have hF0:FOk ⟨newEnv scope s.heap.objs.size mainGlobals acc qual func code around bi,aS scope⟩ fv F X :=
   aAv (L:=s.heap.objs.size) (cs:=acc) (by cases around<;>rfl) (by cases around<;>rfl) (by cases around<;>rfl) (by cases around<;>rfl) (by cases around<;>exact hb) hk hL hc hd1 hfv i
  refine wpAny_bind (uF (fe:=⟨newEnv scope s.heap.objs.size mainGlobals acc qual func code around bi,aS scope⟩) (hA.toF _) _ (λ_ _ _=>rfl) ns vals ds fv F fz G s1 _ hv hF0 hd1 S1 ?_ λfz' G' F' s' a b hF1 hd2 S2=>wpAny_pure ?_)
  ·intro x hx;rcases hkind x hx with q|q
   ·exact .inl (by cases around<;>exact q)
   ·exact .inr ⟨by cases around<;>exact q.1,q.2⟩
  ·exact hQ _ acc fz' G' F' s' a b (λx hx=>i.other x λz=>hx (List.mem_reverse.mp z)) hF1 hd2 S2
 cases around with
 | none=>exact go (.type "frame")
 | some o=>exact go (.type "dict")
end Sc

namespace Sc
set_option tactic.hygienic false

theorem St.drop(S:St C fz led (Un F X) G s)(hd:Dj F X):St C fz led X G s:=by
 refine⟨S.dj.right,S.rel.forget λa m e=>?_⟩;cases hl:led a with
 | some m'=>rw[aC hl]at e ⊢;exact e
 | none =>
  rw[aE hl]at e ⊢;erw[aE ((hd a).resolve_right (by erw[e];exact Option.some_ne_none _))];exact e

noncomputable def Callable(C:Cx)(Y led:aF)(a:Addr)(fd:FuncData):Prop :=
 ∀fz G s,St C fz led Y G s→∃o,s.heap.get? a=some o∧o.data=.func fd∧s.heap.CodeRec fd.code fd.qualname
theorem FCode.rec(S:St C fz led Y G s)(x:FCode fz v q):s.heap.CodeRec v q :=
 let ⟨c,o,vs,t,e,h,r⟩:=x;⟨c,o,vs,t,e,S.rel.fzIn _ _ h,r⟩
theorem cC{Y led:aF}{a:Addr}{dict:Option Addr}{fd:FuncData}(h:led a=some (.fn dict fd)):Callable C Y led a fd:=λfz G s S =>
 let ⟨x,y⟩:=S.atL h;⟨_,x,rfl,y.rec S⟩
theorem Callable.glob{C:Cx}{Y led:aF}{a:Addr}{o:Obj}{fd:FuncData}(h:C.h₀.get? a=some o)(hd:o.data=.func fd)(hc:C.h₀.CodeRec fd.code fd.qualname)(ha:¬C.tab a)(hcd:∀c,fd.code=.ref c→¬C.tab c) :
  Callable C Y led a fd:=λfz G s S=>by
 (refine aFS hc λc oc vs t e g r=>?_;clear hc)
 exact⟨o,S.base _ _ h ha,hd,c,oc,vs,t,e,S.base _ _ g (hcd c e),r⟩

theorem CallW.mono(h:CallW C Y led k f ds Q)(i:∀d led,Q d led→Q' d led):CallW C Y led k f ds Q' :=
 λA fz G s fv vs hA S e1 e2=>wpAny_mono (h A fz G s fv vs hA S e1 e2) (λ_ _ p=>p.mono i) λ_ _ x=>x
theorem CallW.up(h:CallW C Y led k f ds Q)(i:k≤k'):CallW C Y led k' f ds Q :=
 λA fz G s fv vs hA S e1 e2=>h A fz G s fv vs (hA.mono i) S e1 e2

noncomputable abbrev Back(Q:D→aF→Prop):Fl→aD→aF→Prop:=λfl _ led'=>match fl with
 | .ret d=>Q d led'
 | .next=>Q .none led'
 | _=>False

noncomputable def CodeW(C:Cx)(Y led:aF)(k:Nat)(f:D)(ds:List D)(Q:D→aF→Prop):Prop :=
 ∀A fz G s fv vs,RoomY k A Y→St C fz led Y G s→Den fz fv f→Dens fz vs ds→codeAny (model C.prog C.w) A (.call fv ⟨vs,[]⟩) (λr s'=>match r with|.ok (.ret v)=>Pst C fz Y G Q v s'|.ok _=>False|.error e=>No e s') s
theorem CodeW.call(h:CodeW C Y led k f ds Q):CallW C Y led k f ds Q :=
 λA fz G s fv vs hA S e1 e2=>wpAny_call (h A fz G s fv vs hA S e1 e2)
structure FnIs (fd:FuncData) (args:Arguments) (body:FuncBody) (scope:Scope) (cl:List (Str×Addr)):Prop where
 params:fd.params=args
 body:fd.body=body
 scope:fd.scope=scope
 globals:fd.globals=mainGlobals
 closure:fd.closure=cl
 builtins:fd.builtins=builtinsNs
 dfl:fd.defaults=.none
noncomputable def aEF(scope:Scope)(L:Addr)(cs:List (Str×Addr))(q:Str)(a:Addr)(code:Value):Env:=newEnv scope L mainGlobals cs q (some a) code none builtinsNs
noncomputable def dF(scope:Scope)(L:Addr)(cs:List (Str×Addr))(q:Str)(a:Addr)(code:Value):Fe:=⟨aEF scope L cs q a code,aS scope⟩

noncomputable def argsOkB(g:Bool)(args:Arguments)(ns:List Str)(scope:Scope):Bool :=
 args.posonlyargs.isEmpty && args.args.map (·.arg) == ns && args.vararg.isNone && args.kwonlyargs.isEmpty && args.kw_defaults.isEmpty && args.kwarg.isNone && decide ns.Nodup && !scope.isCoroutine && scope.isGenerator == g && decide (scope.kind=.function) &&
  ns.all λx=>scope.names.lookup x == some .local || (scope.names.lookup x == some .cell && (aS scope).contains x)
noncomputable abbrev fK:=argsOkB false
theorem kT:∀(r:List (Str×D)) (vs:aD) (x:Str),(r.map (·.1)).Nodup→(uE vs r).lookup x=(r.lookup x).or (vs.lookup x)
 | [],vs,x,_=>rfl
 | (y,e)::r,vs,x,h=>by
  have hx_1:=List.nodup_cons.mp h;have h1:=hx_1.1;have h2:=hx_1.2;show (uE ((y,e)::vs) r).lookup x=_
  rw[kT r _ x h2,List.lookup_cons,List.lookup_cons];by_cases hx:x=y
  ·subst hx
   have hn:r.lookup x=none:=by
    cases q:r.lookup x with
    | none=>rfl
    | some d=>exact absurd (List.mem_map.mpr ⟨_,mem_of_lookup q,rfl⟩) h1
   rw[hn,beq_self_eq_true];rfl
  ·rw[beq_eq_false_iff_ne.mpr hx]
theorem uG:∀vs:aD,(vs.map (·.1)).zip (vs.map (·.2))=vs
 | []=>rfl
 | p::r=>by rw[List.map_cons,List.map_cons,List.zip_cons_cons,uG r]
theorem FOk.vars{fe:Fe}{vs vs':aD}{F X:aF}(h:FOk fe vs F X)(i:∀x,vs'.lookup x=vs.lookup x):FOk fe vs' F X where
 fn:=h.fn
 glob:=h.glob
 blt:=h.blt
 loc:=let ⟨m,a,b⟩:=h.loc;⟨m,a,λx d e q=>b x d (by rw[← i];exact e) q⟩
 cel:=λx d e q=>h.cel x d (by rw[← i];exact e) q
 own:=h.own
 inj:=h.inj
theorem FOk.toNil(h:FOk fe (vs++[]) F X):FOk fe vs F X:=by rw[List.append_nil]at h;exact h
theorem CloOk.nil:CloOk [] Y []:=⟨(λ_ _ e=>by exact bN e),(λ_ _ _ e=>by exact bN e),λ_ _ e=>by exact bN e⟩
noncomputable def WT(C:Cx)(led:aF)(fe:Fe)(vs:aD)(k:Nat)(t:Sem Flow)(Q:Fl→aD→aF→Prop):Prop :=
 ∀F X,FOk fe vs F X→Dj F X→∀A fz G s,RoomF k A fe X→(∃l,A.frames=some (fe.env::l))→St C fz led (Un F X) G s→wpAny (model C.prog C.w) A t (Psf C fz X fe G Q) No s
theorem WS.t{k:Nat}{Q:Fl→aD→aF→Prop}{t:Sem Flow}(h:WS C led fe vs k t Q):WT C led fe vs k t Q:=λF X hF hd A fz G s hA _ S=>h F X hF hd A fz G s hA S
theorem argsOkB.spec(h:argsOkB g args ns scope=true)(hi:FnIs fd args (.stmts body) scope cl) :
  PosFn fd ns body∧fd.scope.isGenerator=g∧fd.scope.kind=.function∧∀x∈ns,fd.scope.names.lookup x=some .local∨(fd.scope.names.lookup x=some .cell∧x∈aS fd.scope):=by
 simp only[argsOkB,Bool.and_eq_true,List.isEmpty_iff,beq_iff_eq,Option.isNone_iff_eq_none,decide_eq_true_eq,Bool.not_eq_true',List.all_eq_true,Bool.or_eq_true,List.contains_iff_mem]at h;rw[← hi.params,← hi.scope]at h;have h1:=h.1.1.1;have h2:=h1.1.1.1;exact⟨⟨h2.1.1.1.1,h2.1.1.1.2,h2.1.1.2,h2.1.2,h2.2,h1.1.1.2,h1.1.2,hi.dfl,hi.body,h1.2⟩,h.1.1.2,h.1.2,h.2⟩
theorem rC
  (hi:FnIs fd args (.stmts body) scope cl) (hp:PosFn fd (vs.map (·.1)) body) (hkd:fd.scope.kind=.function) (hkind:∀x∈vs.map (·.1),fd.scope.names.lookup x=some .local∨(fd.scope.names.lookup x=some .cell∧x∈aS fd.scope))
  (hc:CloOk cl Y fv) (hfvs:(fv.all λp=>(scope.names.lookup p.1 == some .free) && !(aS scope).contains p.1)=true) (hA:RoomY 0 A Y) (e2:Dens fz vals (vs.map (·.2))) (S:St C fz led Y G s)
  (hQ:∀L cs fz1 G1 F s1,FzLe fz fz1→GExt G G1→(∀x,x∉aS scope→cs.lookup x=cl.lookup x)→FOk (dF scope L cs (fd.qualname++".<locals>.") a fd.code) (vs++fv) F Y→Dj F Y→St C fz1 led (Un F Y) G1 s1 →
   Q (dF scope L cs (fd.qualname++".<locals>.") a fd.code).env s1) :
  wpAny (model C.prog C.w) A (bindArgs fd ⟨vals,[]⟩) (λbinds s₁=>wpAny (model C.prog C.w) A (newFunctionEnv fd.scope fd.globals fd.closure binds (fd.qualname++".<locals>.") (some a) fd.code none fd.builtins) Q E s₁) E s:=by
 obtain ⟨_,_,rfl,hgl,rfl,hbi,_⟩:=hi;erw[sB hp vals (by erw[e2.length,List.length_map,List.length_map])];refine wpAny_pure ?_;erw[hgl,hbi];refine wpAny_mono (zG (around:=none) hA hkd hc e2 S rfl hkind (λx d e=>?_) λL cs fz1 G1 F s1 l1 g1 hcs hF hd S1=>hQ L cs fz1 G1 F s1 l1 g1 hcs (hF.vars λx=>?_) hd S1) (λ_ _ x=>x) λ_ _ x=>x.elim
 ·have:=List.all_eq_true.mp hfvs _ (mem_of_lookup e);simp only[Bool.and_eq_true,beq_iff_eq,Bool.not_eq_true',List.contains_eq_mem,decide_eq_false_iff_not]at this;exact⟨(by erw[this.1];intro z;(have e1:=Option.some.inj z;clear z;exfalso;injection e1)),this.2⟩
 ·erw[uG,kT _ _ _ hp.nodup,List.lookup_append]
theorem CodeW.of{k:Nat}{a:Addr}{fd:FuncData}{args:Arguments}{body:List Stmt}{scope:Scope}{cl:List (Str×Addr)}{ds:List D}{Q:D→aF→Prop}{R:List (Str×Addr)→Fl→aD→aF→Prop}(hcall:Callable C Y led a fd)(hi:FnIs fd args (.stmts body) scope cl)
  (hok:fK args (vs.map (·.1)) scope=true) (hds:ds=vs.map (·.2)) (hc:CloOk cl Y fv) (hfvs:(fv.all λp=>(scope.names.lookup p.1 == some .free) && !(aS scope).contains p.1)=true)
  (h:∀L cs,(∀x,x∉aS scope→cs.lookup x=cl.lookup x)→WT C led (dF scope L cs (fd.qualname++".<locals>.") a fd.code) (vs++fv) k (execs body (dF scope L cs (fd.qualname++".<locals>.") a fd.code).env) (R cs))
  (fin:∀L cs F vs2 led2 fz2 G2 s2 fl,FOk (dF scope L cs (fd.qualname++".<locals>.") a fd.code) vs2 F Y→Dj F Y→St C fz2 led2 (Un F Y) G2 s2→R cs fl vs2 led2→Back (λd _=>∃led3,St C fz2 led3 Y G2 s2∧Q d led3) fl vs2 led2) :
  CodeW C Y led (k+1) (.ref a) ds Q:=by
 intro A fz G s fv' vals hA S e1 e2;induction e1 using aT;subst hds;refine cZ (hcall fz G s S) λo ho hod hcr=>?_
 have P:=argsOkB.spec hok hi;have hp:=P.1;have hA0:RoomY 0 A.in1 Y:=(hA.mono (Nat.le_add_left 1 k)).in1;refine codeAny_call_function (Nat.lt_of_le_of_lt (Nat.le_add_right _ _) hA.r.2.1) ho hod hp.co P.2.1 hp.body hcr (rC hi hp P.2.2.1 P.2.2.2 hc hfvs hA0 e2 S λL cs fz1 G1 F s1 l1 g1 hcs hF hd S1=>⟨S1.nolimit,codeAny_func ?_⟩);have hA1:RoomF k (A.deeper (dF scope L cs (fd.qualname++".<locals>.") a fd.code).env) (dF scope L cs (fd.qualname++".<locals>.") a fd.code) Y:=hA.deeper (hi.scope▸P.2.2.1) rfl
 have hfr:∃l,(A.deeper (dF scope L cs (fd.qualname++".<locals>.") a fd.code).env).frames=some ((dF scope L cs (fd.qualname++".<locals>.") a fd.code).env::l):=by
  refine aL hA.fr λl e _=>?_
  exact⟨l,by show A.frames.map _=_;erw[e];rfl⟩
 refine gI (h L cs hcs F Y hF hd _ fz1 G1 s1 hA1 hfr S1) λf s2 fz2 G2 F2 vs2 led2 fl l2 g2 e3 hF2 hd2 S2 q=>?_
 have r:=fin L cs F2 vs2 led2 fz2 G2 s2 fl hF2 hd2 S2 q;induction e3 using jL with
 | ret v d e3=>(refine aL r λled3 S3 q3=>?_;clear r);exact⟨fz2,G2,d,led3,l1.trans l2,g1.trans g2,e3,S3,q3⟩
 | next=>(refine aL r λled3 S3 q3=>?_;clear r);exact⟨fz2,G2,.none,led3,l1.trans l2,g1.trans g2,.none,S3,q3⟩
 | _=>exact r.elim
theorem Back.mono{Q Q':D→aF→Prop}{led:aF}{vs:aD}(i:∀d,Q d led→Q' d led):∀{fl:Fl},Back Q fl vs led→Back Q' fl vs led
 | .ret d,h=>i d h
 | .next,h=>i .none h
 | .brk,h=>h
 | .cont,h=>h
theorem gP(hcall:Callable C Y led a fd)(hi:FnIs fd args (.stmts body) scope cl)
  (hok:fK args (vs.map (·.1)) scope=true) (hds:ds=vs.map (·.2)) (hc:CloOk cl Y fv) (hfvs:(fv.all λp=>(scope.names.lookup p.1 == some .free) && !(aS scope).contains p.1)=true)
  (h:∀L cs,(∀x,x∉aS scope→cs.lookup x=cl.lookup x)→WT C led (dF scope L cs (fd.qualname++".<locals>.") a fd.code) (vs++fv) k (execs body (dF scope L cs (fd.qualname++".<locals>.") a fd.code).env) (Back Q)) :
  CodeW C Y led (k+1) (.ref a) ds Q :=
 CodeW.of (R:=λ_=>Back Q) hcall hi hok hds hc hfvs h λ_ _ _ _ _ _ _ _ _ _ hd S q=>q.mono λ_ q=>⟨_,S.drop hd,q⟩
end Sc

namespace Sc
set_option tactic.hygienic false

noncomputable abbrev KL2(Q:List D→aF→Prop)(d:D):List D→aF→Prop:=λds led2=>Q (d::ds) led2
noncomputable abbrev KL(C:Cx)(fe:Fe)(vs:aD)(k:Nat)(pos:Pos)(rest:List Expr)(Q:List D→aF→Prop):D→aF→Prop:=λd led1=>WL C led1 fe vs k (spliced (backTo pos (starEach rest fe.env))) (KL2 Q d)
structure KTup (Q:D→aF→Prop) (ds:List D) (led1:aF):Prop where
 l:ds.length≤1000000
 q:Q (.tup ds) led1
structure KLst (Q:D→aF→Prop) (ds:List D) (led1:aF):Prop where
 l:ds.length≤1000000
 q:Q (.lst ds) led1
structure KLstM (Q:D→aF→Prop) (ds:List D) (led1:aF):Prop where
 l:ds.length≤1000000
 q:∀a,led1 a=none→Q (.ref a) (upd led1 a (.list ds))
section
variable {C:Cx} {led:aF} {fe:Fe} {vs:aD} {k:Nat}

/-! arguments -/
theorem WL.nil(h:Q [] led):WL C led fe vs k (spliced (backTo pos (starEach [] fe.env))) Q :=
 λF X hF hd A fz G s hA S=>wpAny_items_nil ⟨fz,G,[],led,.refl _,.refl _,.nil,S,h⟩
theorem WL.cons
  (h:WE C led fe vs k (eval e fe.env) (KL C fe vs k pos rest Q))
  (he:autoParam (starEach (e::rest) fe.env=(false,eval e fe.env)::starEach rest fe.env) cD):WL C led fe vs k (spliced (backTo pos (starEach (e::rest) fe.env))) Q:=by
 intro F X hF hd A fz G s hA S;refine wpAny_items_cons (aW (h F X hF hd A fz G s hA S) λv1 s1 fz1 G1 d1 led1 l1 g1 e1 S1 h1=>?_) he;exact kD (h1 F X hF hd A fz1 G1 s1 hA S1) λvs2 s2 fz2 G2 ds2 led2 l2 g2 e2 S2 h2=>⟨fz2,G2,_,led2,l1.trans l2,g1.trans g2,.cons (e1.mono l2) e2,S2,h2⟩

/-! displays -/
theorem WE.tuple
  (h:WL C led fe vs k (spliced (backTo pos (starEach elts fe.env))) (KTup Q)):WE C led fe vs k (eval (.Tuple elts kk pos) fe.env) Q:=by
 intro F X hF hd A fz G s hA S;refine wpAny_Tuple (kD (h F X hF hd A fz G s hA S) λvs1 s1 fz1 G1 ds led1 l1 g1 e1 S1 h1=>⟨by rw[e1.length];exact Nat.le_trans h1.1 (by decide),?_⟩);have ha:=aO s1.heap (Nat.le_refl _);have hz:=S1.rel.freshF ha
 exact⟨_,G1,.tup ds,led1,l1.trans (bI hz),g1,.tup (n:=0) (cA ..) rfl rfl (e1.mono (bI hz)),
  ⟨S1.dj,S1.rel.allocF ha s1.toks (λb o e=>Heap.get?_push_of_some _ e) (Heap.get?_push_size _ rfl)⟩,h1.2⟩
theorem WE.list
  (h:WL C led fe vs k (spliced (backTo pos (starEach elts fe.env))) (KLst Q)):WE C led fe vs k (eval (.List elts pos) fe.env) Q:=by
 intro F X hF hd A fz G s hA S;refine wpAny_List (kD (h F X hF hd A fz G s hA S) λvs1 s1 fz1 G1 ds led1 l1 g1 e1 S1 h1=>⟨by erw[e1.length];exact Nat.le_trans h1.1 (by decide),?_⟩);have ha:=aO s1.heap (Nat.le_refl _);have hz:=S1.rel.freshF ha
 exact⟨_,G1,.lst ds,led1,l1.trans (bI hz),g1,.lst (n:=0) (cA ..) (e1.mono (bI hz)),
  ⟨S1.dj,S1.rel.allocF ha s1.toks (λb o e=>Heap.get?_push_of_some _ e) (Heap.get?_push_size _ rfl)⟩,h1.2⟩
theorem St.newL(S:St C fz led Y G s)(ha:s.heap.get? a=none)(t:Nat)
  (hk:∀b o,s.heap.get? b=some o→h'.get? b=some o) (hm:MAt fz h' a m):St C fz (upd led a m) Y G { s with heap:=h',toks:=t }:=by
 refine⟨S.dj.upd m (S.fresh ha).2,?_⟩;erw[cX];exact S.rel.alloc ha t hk hm
theorem WE.listM
  (h:WL C led fe vs k (spliced (backTo pos (starEach elts fe.env))) (KLstM Q)):WE C led fe vs k (eval (.List elts pos) fe.env) Q:=by
 intro F X hF hd A fz G s hA S;refine wpAny_List (kD (h F X hF hd A fz G s hA S) λvs1 s1 fz1 G1 ds led1 l1 g1 e1 S1 h1=>⟨by rw[e1.length];exact Nat.le_trans h1.1 (by decide),?_⟩);have ha:=aO s1.heap (Nat.le_refl _);exact⟨fz1,G1,.ref _,_,l1,g1,.ref _,S1.newL ha (m:=.list ds) s1.toks (λb o e=>Heap.get?_push_of_some _ e) ⟨vs1,0,Heap.get?_push_size _ rfl,e1⟩,h1.2 _ (S1.fresh ha).1⟩

/-! calls -/
noncomputable def KeepOk(C:Cx)(Y led:aF)(f:D):Prop :=
 ∀A fz G s v (Q:Keeper→Shared→Prop),St C fz led Y G s→Den fz v f→(∀b,Q b s)→wpAny (model C.prog C.w) A (keeperOf v) Q No s
structure KCal (C:Cx) (Y led:aF) (k:Nat) (f:D) (ds:List D) (Q:D→aF→Prop):Prop where
 keep:KeepOk C Y led f
 call:CallW C Y led k f ds Q
noncomputable abbrev aBk(C:Cx)(k:Nat)(Q:D→aF→Prop)(f:D):List D→aF→Prop:=λds led2=>∀Y,KCal C Y led2 k f ds Q
noncomputable abbrev aEG(C:Cx)(fe:Fe)(vs:aD)(k:Nat)(pos:Pos)(args:List Expr)(Q:D→aF→Prop):D→aF→Prop:=λf led1=>WL C led1 fe vs k (spliced (backTo pos (starEach args fe.env))) (aBk C k Q f)
theorem KeepOk.blt(id:String):KeepOk C Y led (.blt id):=λA fz G s v Q S e q=>by induction e using bX;exact wpAny_pure (q _)
theorem KeepOk.typ(id:String):KeepOk C Y led (.typ id):=λA fz G s v Q S e q=>by induction e using fU;exact wpAny_pure (q _)
theorem KeepOk.fn(h:Callable C Y led a fd):KeepOk C Y led (.ref a):=λA fz G s v Q S e q=>by
 induction e using aT;refine cZ (h fz G s S) λo ho hd _=>?_
 unfold keeperOf;refine wpAny_bind (wpAny_load ho ?_);erw[hd];exact wpAny_pure (q _)

theorem fL{M:Model}{E:Value→Shared→Prop}{f:Value}{args:List Expr}{env:Env}{pos:Pos}{Q:Args→Shared→Prop}(hp:(starEach args env).all (λx=>!x.1)=true)
  (h:wpAny M A (spliced (backTo pos (starEach args env))) (λvs s'=>Q ⟨vs,[]⟩ s') E s):wpAny M A (evalArgs f true (backTo pos (starEach args env)) []) Q E s:=by
 generalize starEach args env=xs at *
 have tail:∀{t:Sem (List Value)},wpAny M A t (λvs s'=>Q ⟨vs,[]⟩ s') E s→wpAny M A (t >>= λvs=>(pure (vs,none):Sem (List Value×Option Value)) >>= λ(pl:List Value×Option Value)=>holding (pl.1++pl.2.toList) (do
   let readLate (keep:List Value):Sem (List Value):=do
    let some s:=pl.2|return pl.1
    if←notIterableAtAll s then
     rule "call.star.not-iterable"
     raiseError "TypeError" s!"{← functionStr f} argument after * must be an iterable, not {← typeNameOf s}"
    holding keep (collect s)
   if ([]:List (Option Str×Sem Value)).all (·.1.isSome) then
    let kw:=(([]:List (Option Str×Sem Value)).filterMap (·.1)).zip (← evalAll (([]:List (Option Str×Sem Value)).map (·.2)))
    return ⟨← readLate (kw.map (·.2)),kw⟩
   let d←mergedKeywords f []
   let pos←readLate [.ref d]
   return ⟨pos,← holding (.ref d::pos) (keywordsIn f d)⟩)) Q E s:=by
  intro t ht;refine wpAny_bind (wpAny_mono ht (λvs s1 h1=>wpAny_bind (wpAny_pure (wpAny_holding ?_))) λ_ _ x=>x);exact wpAny_bind (wpAny_pure (wpAny_bind (wpAny_pure (wpAny_pure h1))))
 cases xs with
 | nil=>exact tail h
 | cons x r =>
  obtain ⟨b,t⟩:=x;cases b with
  | false=>exact Calls.evalArgs_plain h
  | true=>simp at hp

theorem rD
  (hF:FOk fe vs F X) (hd:Dj F X) (hA:RoomF k A fe X) (S:St C fz led (Un F X) G s) (e1:Den fz fv f) (e2:Dens fz firstv first)
  (h:WL C led fe vs k (spliced (backTo pos (starEach args fe.env))) λds led2=>∀F X,FOk fe vs F X→Dj F X→KeepOk C (Un F X) led2 f∧CallW C (Un F X) led2 k f (first++ds) Q)
  (hp:(starEach args fe.env).all (λx=>!x.1)=true) (hp2:(backTo pos (starEach args fe.env)).any (·.1)=false) :
  wpAny (model C.prog C.w) A (callWith pos fv firstv (backTo pos (starEach args fe.env)) []) (Pst C fz (Un F X) G Q) No s:=by
 unfold callWith;refine wpAny_bind (wpAny_holding (fL hp (kD (h F X hF hd A fz G s hA S) λvs1 s1 fz1 G1 ds led1 l1 g1 e3 S1 h1=>?_)));refine wpAny_bind (wpAny_standAt ?_);refine cL (h1 F X hF hd) λhk hc=>?_
 rw[hp2]
 have tail:∀{t:Sem Value},wpAny (model C.prog C.w) A t (Pst C fz1 (Un F X) G1 Q) No s1→wpAny (model C.prog C.w) A (t >>= λr=>holding [r] point >>= λ_=>pure r) (Pst C fz (Un F X) G Q) No s1 :=
  λht=>wpAny_bind (wpAny_mono ht (λr s₂ hr=>wpAny_bind (wpAny_holding (wpAny_point (wpAny_pure (hr.trans l1 g1))))) λ_ _ x=>x)
 have call0:=hc A fz1 G1 s1 fv (firstv++vs1) (hA.y hF hd) S1 (e1.mono l1) (Dens.append e3 (e2.mono l1));refine wpAny_bind (hk A fz1 G1 s1 fv _ S1 (e1.mono l1) λb=>?_);cases b with
 | frame =>
  show wpAny _ _ (ite _ _ _) _ _ _
  split
  ·exact tail call0
  ·exact tail (by unfold callMarked;exact Calls.wpAny_keep call0)
 | boundFrame =>
  show wpAny _ _ (ite _ _ _) _ _ _
  split
  ·exact tail call0
  ·exact tail (by unfold callMarked;exact Calls.wpAny_keep call0)
 | machine=>exact tail call0
 | caller=>exact tail (wpAny_operating call0)

structure CallOk (func:Expr) (args:List Expr) (pos:Pos) (fe:Fe):Prop where
 e:eval (.Call func args [] pos) fe.env=(do callWith pos (← eval func fe.env) [] (backTo pos (starEach args fe.env)) (backToKw pos (keywordEach [] fe.env)))
 p:(starEach args fe.env).all (λx=>!x.1)=true
 p2:(backTo pos (starEach args fe.env)).any (·.1)=false
structure MetOk (o:Expr) (name:Str) (args:List Expr) (apos pos:Pos) (pl:Sem Bool) (fe:Fe):Prop where
 e:eval (.Call (.Attribute o name apos) args [] pos) fe.env=(do
   let ov←eval o fe.env
   standAt apos.atName
   let (f,first)←holding [ov] (getMethod ov name pl)
   callWith pos f first (backTo pos (starEach args fe.env)) [])
 p:(starEach args fe.env).all (λx=>!x.1)=true
 p2:(backTo pos (starEach args fe.env)).any (·.1)=false
theorem WE.call
  (h:WE C led fe vs k (eval func fe.env) λf led1=>WL C led1 fe vs k (spliced (backTo pos (starEach args fe.env))) λds led2=>∀F X,FOk fe vs F X→Dj F X→KeepOk C (Un F X) led2 f∧CallW C (Un F X) led2 k f ds Q)
  (ok:autoParam (CallOk func args pos fe) dD) :
  WE C led fe vs k (eval (.Call func args [] pos) fe.env) Q:=by
 intro F X hF hd A fz G s hA S;erw[ok.e];refine wpAny_bind (aW (h F X hF hd A fz G s hA S) λv1 s1 fz1 G1 d1 led1 l1 g1 e1 S1 h1=>?_);exact fin (rD (first:=[]) hF hd hA S1 e1 .nil h1 ok.p ok.p2) l1 g1

noncomputable def GetM(C:Cx)(Y led:aF)(d:D)(name:Str)(f:D)(first:List D):Prop :=
 ∀A fz G s v pl (Q:Value×List Value→Shared→Prop),Room 0 A→St C fz led Y G s→Den fz v d →
  (∀fz' s' fv firstv,FzLe fz fz'→St C fz' led Y G s'→Den fz' fv f→Dens fz' firstv first→Q (fv,firstv) s')→wpAny (model C.prog C.w) A (getMethod v name pl) Q No s

theorem aBl
  (h:WE C led fe vs k (eval o fe.env) λd led1=>∃f first,(∀F X,FOk fe vs F X→Dj F X→GetM C (Un F X) led1 d name f first) ∧
   WL C led1 fe vs k (spliced (backTo pos (starEach args fe.env))) λds led2=>∀F X,FOk fe vs F X→Dj F X→KeepOk C (Un F X) led2 f∧CallW C (Un F X) led2 k f (first++ds) Q)
  (ok:MetOk o name args apos pos pl fe) :
  WE C led fe vs k (eval (.Call (.Attribute o name apos) args [] pos) fe.env) Q:=by
 intro F X hF hd A fz G s hA S;refine MethodCall_ (pl:=pl) (aW (h F X hF hd A fz G s hA S) λv1 s1 fz1 G1 d1 led1 l1 g1 e1 S1 h1=>?_) ok.e
 (refine cJ h1 λf first hm hw=>?_;clear h1)
 refine hm F X hF hd A fz1 G1 s1 v1 pl _ (hA.r.mono (Nat.zero_le _)) S1 e1 λfz2 s2 fv firstv l2 S2 e2 e3=>?_
 exact fin (rD hF hd hA S2 e2 e3 hw ok.p ok.p2) (l1.trans l2) g1

theorem GetM.builtin{d:D}{name:Str}{T id:String}(hT:∀fz G s v,St C fz led Y G s→Den fz v d→s.TypeIs v T∧∀a,v=.ref a→∃o,s.heap.get? a=some o∧o.dict=none)
  (pa:PlainAttrs T) (slot:Slot T name id) (hty:typeOf (.builtin id)=pure (.type "method_descriptor")):GetM C Y led d name (.blt id) [d]:=by
 intro A fz G s v pl Q hA S e h;refine cL (hT fz G s v S e) λh1 h2=>?_
 exact getMethod_builtin h1 pa slot hty h2 (h fz s _ _ (.refl _) S (.blt id) (.cons e .nil))
theorem WL.mono(h:WL C led fe vs k t Q)(i:∀ds led,Q ds led→Q' ds led):WL C led fe vs k t Q' :=
 λF X hF hd A fz G s hA S=>wpAny_mono (h F X hF hd A fz G s hA S) (λ_ _ ⟨f,H,ds,l,a,b,c,e,q⟩=>⟨f,H,ds,l,a,b,c,e,i _ _ q⟩) λ_ _ x=>x
theorem aI
  (h:WE C led fe vs k (eval func fe.env) (aEG C fe vs k pos args Q))
  (ok:autoParam (CallOk func args pos fe) dD) :
  WE C led fe vs k (eval (.Call func args [] pos) fe.env) Q :=
 WE.call (h.mono λf led1 w=>w.mono λds led2 q F X _ _=>⟨(q (Un F X)).1,(q (Un F X)).2⟩) ok
theorem rE
  (h:WE C led fe vs k (eval o fe.env) λd led1=>∃f first,(∀Y,GetM C Y led1 d name f first) ∧
   WL C led1 fe vs k (spliced (backTo pos (starEach args fe.env))) λds led2=>∀Y,KeepOk C Y led2 f∧CallW C Y led2 k f (first++ds) Q)
  (ok:MetOk o name args apos pos pl fe) :
  WE C led fe vs k (eval (.Call (.Attribute o name apos) args [] pos) fe.env) Q :=
 aBl (pl:=pl) (h.mono λd led1 ⟨f,first,g,w⟩=>⟨f,first,λF X _ _=>g (Un F X),w.mono λds led2 q F X _ _=>q (Un F X)⟩) ok
end
end Sc

namespace Sc
set_option tactic.hygienic false

theorem iV{h₀ h h':Heap}(K:OldK h₀ h){p:Addr→Prop}(hp:∀b o,h₀.get? b=some o→¬p b)(hs:∀b o,¬p b→h.get? b=some o→h'.get? b=some o):OldK h₀ h':=by
 refine⟨λb o e=>?_,λb o e=>let ⟨o',ho'⟩:=K.there b o e;⟨o',hs b _ (hp b o e) ho'⟩⟩;rcases K.old b o e with x|⟨t,hc,vs,more,hv,x⟩| ⟨rfl,hc,⟨o',es,n,ho',r⟩,z⟩
 ·exact .inl (hs b _ (hp b o e) x)
 ·exact .inr (.inl ⟨t,hc,vs,more,hv,hs b _ (hp b o e) x⟩)
 ·have e1:=hs _ _ (hp _ o e) ho';exact .inr (.inr ⟨rfl,hc,⟨o',es,n,e1,r⟩,λkey=>by erw[OldK.staticOf_congr (e1.trans ho'.symm) key];exact z key⟩)

theorem Rel.many{C:Cx}{fz:Fz}{T T':aF}{G:Array GenState}{s:Shared}(R:Rel C fz T G s){h':Heap}(t:Nat)(p:Addr→Prop)(hw:∀b,p b→∃m,T b=some m)
  (hk:∀b o,¬p b→s.heap.get? b=some o→h'.get? b=some o) (hT:∀b,¬p b→T' b=T b) (hm:∀b m,p b→T' b=some m→MAt fz h' b m):Rel C fz T' G { s with heap:=h',toks:=t } where
 fzIn:=λb o e=>hk b o (λq=>by refine aN (hw b q) λm z=>?_;(first|exact (aH (R.apart _ _ e ..) z).elim|cases aJ (R.apart _ _ e ..) z|(rw[R.apart _ _ e]at z;cases z))) (R.fzIn b o e)
 ledIn:=λb m e=>by
  by_cases q:p b
  ·exact hm b m q e
  ·rw[hT b q]at e;exact (R.ledIn b m e).at λo=>hk b o q
 apart:=λb o e=>by
  by_cases q:p b
  ·refine aN (hw b q) λm z=>?_;(first|exact (aH (R.apart _ _ e ..) z).elim|cases aJ (R.apart _ _ e ..) z|(rw[R.apart _ _ e]at z;cases z))
  ·rw[hT b q];exact R.apart b o e
 fzt:=R.fzt
 new:=λb m e=>by
  by_cases q:p b
  ·refine aN (hw b q) λm' z=>?_;exact R.new _ _ z
  ·rw[hT b q]at e;exact R.new b m e
 base:=λb o e n=>hk b o (λq=>by refine aN (hw b q) λm z=>?_;(first|exact (aH (R.new _ _ z ..) e).elim|cases aJ (R.new _ _ z ..) e|(rw[R.new _ _ z]at e;cases e))) (R.base b o e n)
 tabs:=λc P e=>by
  (refine aL (C.tabIs c P e) λps o1 e2=>?_;refine cJ o1 λo vs e1 _=>?_;clear o1)
  refine cZ (R.tabs c P e) λps' x y z=>?_
  have nc:¬p c:=λq=>by refine aN (hw c q) λm w=>?_;(first|exact (aH (R.new _ _ w ..) e1).elim|cases aJ (R.new _ _ w ..) e1|(rw[R.new _ _ w]at e1;cases e1))
  have nP:¬p P:=λq=>by refine aN (hw P q) λm w=>?_;(first|exact (aH (R.new _ _ w ..) e2).elim|cases aJ (R.new _ _ w ..) e2|(rw[R.new _ _ w]at e2;cases e2))
  refine⟨ps',?_,?_,z⟩
  ·obtain ⟨o,vs,file,tf,flags,tg,inF,text,tt,op,a1,a2,a3,a4,a5,a6,a7,a8,a9⟩:=x;exact⟨o,vs,file,tf,flags,tg,inF,text,tt,op,hk _ _ nc a1,a2,a3,a4,a5,a6,a7,hk _ _ nP a8,a9⟩
  ·(refine cL y λo1 a3=>?_;clear y;refine cJ o1 λo vs a1 a2=>?_;clear o1)
   exact⟨⟨o,vs,hk _ _ nc a1,a2⟩,hk _ _ nP a3⟩
 old:=iV R.old (p:=p) (λb o e q=>by refine aN (hw b q) λm z=>?_;(first|exact (aH (R.new _ _ z ..) e).elim|cases aJ (R.new _ _ z ..) e|(rw[R.new _ _ z]at e;cases e))) hk
 os:=R.os
 gens:=R.gens

structure Raws (wr:List Addr) (R:aF):Prop where
 here:∀b,b∈wr→∃o,R b=some (.raw o)
 not:∀b,b∉wr→R b=none

structure Itr (C:Cx) (fz:Fz) (I:Addr) (wr:List Addr) (items:List D) (St₀:Nat→Heap→Prop):Prop where
 walks:∃fp P,(∀A,A.handled=none→Walks C.prog C.w A I fp wr items.length P St₀)∧(∀i v d,P i v→items[i]?=some d→Den fz v d)∧(∀b,b∈fp→b∉wr→∃o,fz b=some o)
 alive:∀i h b,St₀ i h→b∈wr→∃o,h.get? b=some o
theorem Itr.mono(l:FzLe fz fz')(x:Itr C fz I wr items St₀):Itr C fz' I wr items St₀ :=
 ⟨let ⟨fp,P,a,b,c⟩:=x.walks;⟨fp,P,a,λi v d p q=>(b i v d p q).mono l,λy hy hn=>let ⟨o,z⟩:=c y hy hn;⟨o,l _ _ z⟩⟩,x.alive⟩

noncomputable def oN(led:aF):List Addr→aF
 | []=>led
 | a::r=>oN (del led a) r
noncomputable def sC(led:aF):D→aF
 | .itr a more _=>oN led (a::more)
 | _=>led
inductive ItRes (C:Cx) (fz:Fz) (Y:aF) (G:Array GenState) (led':aF) (items:List D) (it:Value) (s':Shared):Prop
 | mk (fz':Fz) (I:Addr) (wr:List Addr) (R:aF) (St₀:Nat→Heap→Prop):it=.ref I→FzLe fz fz'→Itr C fz' I wr items St₀→Raws wr R→Dj R Y→St₀ 0 s'.heap→St C fz' led' (Un R Y) G s'→ItRes C fz Y G led' items it s'
noncomputable def IterOf(C:Cx)(Y led:aF)(d:D)(items:List D):Prop :=
 ∀A fz G s v,Room 0 A→St C fz led Y G s→Den fz v d→wpAny (model C.prog C.w) A (pyIter v) (ItRes C fz Y G (sC led d) items) No s

theorem nJ(h:Heap)(wr:List Addr)(ha:∀b,b∈wr→∃o,h.get? b=some o):∃R,Raws wr R∧∀b m,R b=some m→∃o,m=.raw o∧h.get? b=some o:=by
 classical
 refine⟨λb=>if b∈wr then (h.get? b).map M.raw else none,⟨λb hb=>?_,λb hb=>if_neg hb⟩,λb m e=>?_⟩
 ·refine aN (ha b hb) λo e=>?_;exact⟨o,by simp only[if_pos hb,e];rfl⟩
 ·by_cases hb:b∈wr
  ·refine aN (ha b hb) λo q=>?_;simp only[if_pos hb,q,Option.map_some]at e;(have e1:=Option.some.inj e;clear e;subst e1);exact⟨o,rfl,q⟩
  ·simp only[if_neg hb]at e;exact bN e

theorem Itr.next(x:Itr C fz I wr items St₀)(hA:A.handled=none)
  (hR:Raws wr R) (hd:Dj R Y) (S:St C fz led (Un R Y) G s) (hs:St₀ i s.heap) (hi:i≤items.length)
  (h1:∀v d R' s',items[i]?=some d→Den fz v d→Raws wr R'→Dj R' Y→St C fz led (Un R' Y) G s'→St₀ (i+1) s'.heap→Q (some v) s')
  (h2:∀s',i=items.length→St C fz led Y G s'→Q none s'):wpAny (model C.prog C.w) A (pyNext (.ref I)) Q E s:=by
 obtain ⟨fp,P,hW,hP,hfp⟩:=x.walks
 have dom:∀R':aF,Raws wr R'→Dj R' Y:=λR' hR' a=>by
  by_cases ha:a∈wr
  ·refine aN (hR.here a ha) λo e=>?_
   exact .inr (hd.of_some e)
  ·exact .inl (hR'.not a ha)
 by_cases hlt:i<items.length
 ·refine (hW A hA).item i s Q E hlt hs λv h' tk p st' hk=>?_
  refine aL (nJ h' wr (λb hb=>x.alive _ _ b st' hb)) λR' hR' hr=>?_
  obtain ⟨d,e⟩:∃d,items[i]?=some d:=⟨items[i],List.getElem?_eq_getElem hlt⟩;refine h1 v d R' _ e (hP i v d p e) hR' (dom R' hR') ⟨λa=>?_,?_⟩ st'
  ·rcases S.dj a with q|q
   ·exact .inl q
   ·by_cases ha:a∈wr
    ·obtain ⟨o,z⟩:=hR.here a ha
     (first|exact (aH (aC z ..) q).elim|cases aJ (aC z ..) q|(rw[aC z]at q;cases q))
    ·exact .inr (Un_none.mpr ⟨hR'.not a ha,(Un_none.mp q).2⟩)
  ·refine S.rel.many tk (·∈wr) (λb hb=>?_) hk (λb hb=>?_) λb m hb e=>?_
   ·obtain ⟨o,z⟩:=hR.here b hb;have hl:led b=none:=(S.dj b).resolve_right (by erw[aC z];exact Option.some_ne_none _);exact⟨_,by erw[aE hl,aC z]⟩
   ·cases hl:led b with
    | some m=>erw[aC hl,aC hl]
    | none=>erw[aE hl,aE hl,aE (hR'.not b hb),aE (hR.not b hb)]
   ·obtain ⟨o,z⟩:=hR.here b hb;have hl:led b=none:=(S.dj b).resolve_right (by erw[aC z];exact Option.some_ne_none _);obtain ⟨o',z'⟩:=hR'.here b hb;rw[aE hl,aC z']at e;cases e;obtain ⟨o'',q1,q2⟩:=hr b _ z';cases q1;exact q2
 ·have hi':i=items.length:=Nat.le_antisymm (bC [.le .p0 .p1] (.le .p0 .p1) aB hi) (bC [.le .p0 .p1] (.le .p0 .p1) aB (Nat.le_of_not_lt hlt));subst hi';refine (hW A hA).done s Q E hs λh' tk hk=>h2 _ rfl ⟨S.dj.right,?_⟩
  have R0:Rel C fz (Un led Y) G s:=S.rel.forget λa m e=>by
   cases hl:led a with
   | some m'=>rw[aC hl]at e ⊢;exact e
   | none =>
    rw[aE hl]at e ⊢;erw[aE ((hd a).resolve_right (by erw[e];exact Option.some_ne_none _))];exact e
  -- the raw objects may have been aR
  have key:=S.rel.many (T':=Un led Y) (h':=h') tk (·∈wr) (λb hb=>?_) hk (λb hb=>?_) λb m hb e=>?_
  ·exact key
  ·obtain ⟨o,z⟩:=hR.here b hb;have hl:led b=none:=(S.dj b).resolve_right (by erw[aC z];exact Option.some_ne_none _);exact⟨_,by erw[aE hl,aC z]⟩
  ·cases hl:led b with
   | some m=>erw[aC hl,aC hl]
   | none=>erw[aE hl,aE hl,aE (hR.not b hb)]
  ·obtain ⟨o,z⟩:=hR.here b hb;have hl:led b=none:=(S.dj b).resolve_right (by erw[aC z];exact Option.some_ne_none _);rw[aE hl,hd.of_some z]at e;cases e

theorem Itr.keep(x:Itr C fz I wr items St₀)
  (l:FzLe fz fz') (hR:Raws wr R) (hY:∀a m,R a=some m→Y a=some m) (hY':∀a m,R a=some m→Y' a=some m) (S:St C fz led Y G s) (S':St C fz' led' Y' G' s') (hs:St₀ i s.heap):St₀ i s'.heap:=by
 refine cU x.walks λfp P hW hP hfp=>?_
 refine (hW {} rfl).frame i _ _ hs λb hb o e=>?_
 by_cases hw:b∈wr
 ·refine aN (hR.here b hw) λo' z=>?_
  have a1:s.heap.get? b=some o':=S.at (hY _ _ z);have a2:s'.heap.get? b=some o':=S'.at (hY' _ _ z)
  (first|exact (aH (a1 ..) e).elim|cases aJ (a1 ..) e|(rw[a1]at e;cases e));exact a2
 ·refine aN (hfp b hb hw) λo' z=>?_
  have a1:=S.rel.fzIn _ _ z;have a2:=S'.rel.fzIn _ _ (l _ _ z)
  (first|exact (aH (a1 ..) e).elim|cases aJ (a1 ..) e|(rw[a1]at e;cases e));exact a2

structure ItrT (C:Cx) (fz:Fz) (I:Addr) (wr:List Addr) (items:List D) (St₀:Nat→Heap→Prop) (target:Expr):Prop where
 next:∀{A:Around} {fz':Fz} {led Y R:aF} {G:Array GenState} {s:Shared} {i:Nat},A.handled=none→FzLe fz fz'→Raws wr R→Dj R Y→St C fz' led (Un R Y) G s→St₀ i s.heap→i≤items.length →
  ∀{Q:Option Value→Shared→Prop} {E:Value→Shared→Prop},
  (∀v d R' s' fz'',items[i]?=some d→FzLe fz' fz''→Den fz'' v d→Raws wr R'→Dj R' Y→St C fz'' led (Un R' Y) G s'→St₀ (i+1) s'.heap→Q (some v) s') →
  (∀s',i=items.length→St C fz' led Y G s'→Q none s') →
  wpAny (model C.prog C.w) A (pyNext (.ref I)) (λo s1=>match o with|none=>Q none s1|some v=>wpAny (model C.prog C.w) A (letOwnedTupleGo target (.ref I) v) (λ_ s2=>Q (some v) s2) E s1) E s
 keep:∀{fz1 fz2:Fz} {led led' Y Y' R:aF} {G G':Array GenState} {s s':Shared} {i:Nat},FzLe fz fz1→FzLe fz1 fz2→Raws wr R→(∀a m,R a=some m→Y a=some m)→(∀a m,R a=some m→Y' a=some m) →
  St C fz1 led Y G s→St C fz2 led' Y' G' s'→St₀ i s.heap→St₀ i s'.heap
 self:∀{A:Around} {s:Shared} {i:Nat} {Q:Value→Shared→Prop} {E:Value→Shared→Prop},A.handled=none→St₀ i s.heap→Q (.ref I) s→wpAny (model C.prog C.w) A (pyIter (.ref I)) Q E s
theorem ItrT.mono{C:Cx}{fz fz':Fz}(l:FzLe fz fz'){I:Addr}{wr:List Addr}{items:List D}{St₀:Nat→Heap→Prop}{target:Expr}(x:ItrT C fz I wr items St₀ target):ItrT C fz' I wr items St₀ target where
 next:=λhA l' hR hd S hs hi _ _ h1 h2=>x.next hA (l.trans l') hR hd S hs hi h1 h2
 keep:=λl1 l2 hR hY hY' S S' hs=>x.keep (l.trans l1) l2 hR hY hY' S S' hs
 self:=x.self
theorem Itr.toT{C:Cx}{fz:Fz}{I:Addr}{wr:List Addr}{items:List D}{St₀:Nat→Heap→Prop}{target:Expr}(x:Itr C fz I wr items St₀)(ht:∀it v,letOwnedTupleGo target it v=pure ()):ItrT C fz I wr items St₀ target where
 next:=λhA l hR hd S hs hi _ _ h1 h2=>(x.mono l).next hA hR hd S hs hi (λv d R' s' a b c e f g=>wpAny_of_eq (ht _ _) (h1 v d R' s' _ a (.refl _) b c e f g)) h2
 keep:=λl1 l2 hR hY hY' S S' hs=>(x.mono l1).keep l2 hR hY hY' S S' hs
 self:=λhA hs h=>let ⟨fp,P,hW,_,_⟩:=x.walks;(hW _ hA).self _ _ _ _ hs h
inductive ItResT (C:Cx) (fz:Fz) (Y:aF) (G:Array GenState) (led':aF) (items:List D) (target:Expr) (it:Value) (s':Shared):Prop
 | mk (fz':Fz) (I:Addr) (wr:List Addr) (R:aF) (St₀:Nat→Heap→Prop):it=.ref I→FzLe fz fz'→ItrT C fz' I wr items St₀ target→Raws wr R→Dj R Y→St₀ 0 s'.heap→St C fz' led' (Un R Y) G s'→ItResT C fz Y G led' items target it s'
noncomputable def IterOfT(C:Cx)(Y led:aF)(target:Expr)(d:D)(items:List D):Prop :=
 ∀A fz G s v,Room 0 A→St C fz led Y G s→Den fz v d→wpAny (model C.prog C.w) A (pyIter v) (ItResT C fz Y G (sC led d) items target) No s
theorem IterOf.toT(h:IterOf C Y led d items)(ht:∀it v,letOwnedTupleGo target it v=pure ()):IterOfT C Y led target d items :=
 λA fz G s v hA S e=>wpAny_mono (h A fz G s v hA S e) (λit s' ⟨fz',I,wr,R,St₀,a,b,c,e1,e2,e3,e4⟩=>⟨fz',I,wr,R,St₀,a,b,c.toT ht,e1,e2,e3,e4⟩) λ_ _ x=>x
end Sc

namespace Sc

noncomputable def gQ(a b:Int):List D:=(List.range (b - a).toNat).map λi=>.int (a+(i:Nat))
theorem aV(a b:Int):(gQ a b).length=(b - a).toNat:=by simp[gQ]
theorem cP(h:(gQ a b)[i]?=some d):d=.int (a+(i:Nat))∧i<(b - a).toNat:=by
 unfold gQ at h;rw[List.getElem?_map]at h;by_cases hi:i<(b - a).toNat
 ·rw[List.getElem?_range hi]at h;simp at h;exact⟨h.symm,hi⟩
 ·rw[List.getElem?_eq_none (by simpa using hi)]at h;exact bN h
theorem zH(a b:Int):Builtin.Range.rangeSize a b 1=((b - a).toNat:Int):=by
 unfold Builtin.Range.rangeSize;simp only[show (1:Int) > 0 from by decide,if_true];split<;>first|lia|skip
theorem aBm(h1:-2 ^ 60<a)(h2:a<2 ^ 60)(h3:-2 ^ 60<b)(h4:b<2 ^ 60):Builtin.Range.small a b 1=true:=by
 have hs:=zH a b;have f1:∀{c:Int},-2 ^ 60<c→-9223372036854775808≤c:=λh=>Int.le_trans (by decide) (Int.le_of_lt h)
 have f2:∀{c:Int},c<2 ^ 60→c<9223372036854775808:=λh=>Int.lt_trans h (by decide)
 have hm:max (b - a) 0<9223372036854775808:=Int.lt_of_le_of_lt (Int.max_le.mpr ⟨(by exact kC [.ilt (.g (.k 1152921504606846976)) .p0,.ilt .p1 (.k 1152921504606846976)] (.ile (.s .p1 .p0) (.k 2305843009213693952)) aB h1 h4:b - a≤2 ^ 61),by decide⟩) (by decide:(2:Int) ^ 61<9223372036854775808);unfold Builtin.Range.small Builtin.Range.rangeFitsLong;erw[hs];simp;exact⟨⟨⟨⟨f1 h1,f2 h2⟩,f1 h3,f2 h4⟩,Int.le_trans (by decide) (Int.le_max_right _ _),hm⟩,.inr ⟨f1 h3,f2 h4⟩⟩

theorem zI{h:Heap}{I:Addr}{o:Obj}(e:h.get? I=some o):Raws [I] (upd emp I (.raw o)) :=
 ⟨λb hb=>by simp at hb;subst hb;exact⟨o,aA ..⟩,λb hb=>by simp at hb;erw[aG _ _ hb];rfl⟩

section
variable {C:Cx} {Y led:aF}

theorem St.newI(S:St C fz led Y G s)(o:Obj)(hf:o.isFreed=false) :
  Raws [s.heap.objs.size] (upd emp s.heap.objs.size (.raw o))∧Dj (upd emp s.heap.objs.size (.raw o)) Y∧St C fz led (Un (upd emp s.heap.objs.size (.raw o)) Y) G { s with heap:=s.heap.push o }:=by
 have ha:=aO s.heap (Nat.le_refl _);have hg:(s.heap.push o).get? s.heap.objs.size=some o:=Heap.get?_push_size _ hf
 (refine cL ((show St C fz led (Un emp Y) G s from by erw[oG];exact S).newF (wZ Y) ha (m:=.raw o) (h':=s.heap.push o) s.toks (λb o e=>Heap.get?_push_of_some _ e) hg) λS' d=>?_)
 exact⟨zI hg,d,S'⟩

theorem IterOf.lst:IterOf C Y led (.lst xs) xs:=by
 intro A fz G s v hA S e;induction e using uA with
 | k a vs n e1 e2 =>
  have h1:s.heap.get? a=some (fT vs.toArray n):=S.rel.fzIn _ _ e1;have hl:s.heap.IsList a vs.toArray:=⟨_,h1,rfl,n,rfl⟩;refine jW (S.newI { cls:=.type "list_iterator",data:=.fields #[.ref a,.int 0 0] } rfl) λr1 r2 r3=>?_
  have hne:a≠s.heap.objs.size:=Nat.ne_of_lt (Heap.lt_size h1);have hlen:xs.length=vs.toArray.size:=by simp[e2.length]
  have W:=λ(A:Around) (hA:A.handled=none)=>Walks.list (prog:=C.prog) (w:=C.w) hA s.heap.objs.size a hne vs.toArray
  rw[← hlen]at W;refine wpAny_pyIter_list hl ⟨fz,_,_,_,_,rfl,.refl _,⟨⟨_,_,W,?_,?_⟩,?_⟩,r1,r2,?_,r3⟩
  ·intro i v d p q;refine aL (e2.get' (i:=i) (v:=v) (by simpa using p)) λd' q1 q2=>?_
   (first|exact (aH (q ..) q1).elim|cases aJ (q ..) q1|(rw[q]at q1;cases q1));exact q2
  ·intro b hb hn;simp at hb hn;rcases hb with rfl|rfl
   ·exact absurd rfl hn
   ·exact⟨_,e1⟩
  ·intro i h b st hb;simp at hb;subst hb
   (refine cL st λo1 _=>?_;clear st;refine aL o1 λo ho _=>?_;clear o1);exact⟨o,ho⟩
  ·exact⟨⟨_,Heap.get?_push_size _ rfl,rfl,rfl⟩,⟨_,Heap.get?_push_of_some _ h1,rfl,n,rfl⟩⟩
theorem IterOf.tup:IterOf C Y led (.tup xs) xs:=by
 intro A fz G s v hA S e;cases e with
 | tup e1 hgc hgd e2 =>
  rename_i a o vs n;have h1:s.heap.get? a=some o:=S.rel.fzIn _ _ e1;have hl:s.heap.IsTuple a vs.toArray:=⟨_,h1,hgc,n,hgd⟩;refine jW (S.newI { cls:=.type "tuple_iterator",data:=.fields #[.ref a,.int 0 0] } rfl) λr1 r2 r3=>?_
  have hne:a≠s.heap.objs.size:=Nat.ne_of_lt (Heap.lt_size h1);have hlen:xs.length=vs.toArray.size:=by simp[e2.length]
  have W:=λ(A:Around) (hA:A.handled=none)=>Walks.tuple (prog:=C.prog) (w:=C.w) hA s.heap.objs.size a hne vs.toArray
  rw[← hlen]at W;refine wpAny_pyIter_tuple hl ⟨fz,_,_,_,_,rfl,.refl _,⟨⟨_,_,W,?_,?_⟩,?_⟩,r1,r2,?_,r3⟩
  ·intro i v d p q;refine aL (e2.get' (i:=i) (v:=v) (by simpa using p)) λd' q1 q2=>?_
   (first|exact (aH (q ..) q1).elim|cases aJ (q ..) q1|(rw[q]at q1;cases q1));exact q2
  ·intro b hb hn;simp at hb hn;rcases hb with rfl|rfl
   ·exact absurd rfl hn
   ·exact⟨_,e1⟩
  ·intro i h b st hb;simp at hb;subst hb
   (refine cL st λo1 _=>?_;clear st;refine aL o1 λo ho _=>?_;clear o1);exact⟨o,ho⟩
  ·exact⟨⟨_,Heap.get?_push_size _ rfl,rfl,rfl⟩,⟨_,Heap.get?_push_of_some _ h1,hgc,n,hgd⟩⟩
theorem IterOf.rng(h1:autoParam (-2 ^ 60<a) dD)(h2:autoParam (a<2 ^ 60) dD)(h3:autoParam (-2 ^ 60<b) dD)(h4:autoParam (b<2 ^ 60) dD):IterOf C Y led (.rng a b) (gQ a b):=by
 intro A fz G s v hA S e;induction e using aBf with
 | k r t u v e1 =>
  have g1:s.heap.get? r=some (rY a b t u v):=S.rel.fzIn _ _ e1;refine jW (S.newI { cls:=.type "range_iterator",data:=.fields #[rawInt a,rawInt (Builtin.Range.rangeSize a b 1),rawInt 1] } rfl) λr1 r2 r3=>?_
  have W:=λ(A:Around) (hA:A.handled=none)=>Walks.range (prog:=C.prog) (w:=C.w) hA s.heap.objs.size a 1 (b - a).toNat
  rw[← aV]at W;refine wpAny_pyIter_range g1 (aBm h1 h2 h3 h4) ⟨fz,_,_,_,_,rfl,.refl _,⟨⟨_,_,W,?_,?_⟩,?_⟩,r1,r2,?_,r3⟩
  ·intro i v d p q
   (refine aN p λt o1=>?_;clear p;subst o1)
   (refine cL (cP q) λo1 _=>?_;subst o1)
   erw[Int.mul_one];exact .int _ _
  ·intro b hb hn;exact absurd hb hn
  ·intro i h b st hb;simp at hb;subst hb;exact⟨_,st⟩
  ·have e0:(s.heap.push { cls:=.type "range_iterator",data:=.fields #[rawInt a,rawInt (Builtin.Range.rangeSize a b 1),rawInt 1] }).get? s.heap.objs.size=some { cls:=.type "range_iterator",dict:=none,data:=.fields #[rawInt a,rawInt (Builtin.Range.rangeSize a b 1),rawInt 1],slots:=#[] }:=Heap.get?_push_size _ rfl;have x1:a+((0:Nat):Int)*1=a:=by simp
   have x2:((gQ a b).length:Int) - ((0:Nat):Int)=Builtin.Range.rangeSize a b 1:=by erw[aV,zH];simp
   erw[x1,x2];exact e0
noncomputable def bL(x:Str):List D:=x.cps.toList.map λc=>.str ⟨#[c]⟩
theorem IterOf.str:IterOf C Y led (.str x) (bL x):=by
 intro A fz G s v hA S e;induction e using bH with
 | k t =>
  have len:(bL x).length=x.cps.size:=by simp[bL]
  have item:∀(i:Nat) (v:Value) (d:D),SignAt x i v→(bL x)[i]?=some d→Den fz v d:=by
   intro i v d ⟨c,u,hc,hv⟩ q;subst hv;unfold bL at q;rw[List.getElem?_map,Array.getElem?_toList,hc]at q
   (have e1:=Option.some.inj q;clear q;subst e1);exact .str _ _
  cases ha:x.cps.all (·<128)
  ·refine jW (S.newI { cls:=.type "str_iterator",data:=.fields #[.str x t,.int 0 0] } rfl) λr1 r2 r3=>?_
   have W:=λ(A:Around) (hA:A.handled=none)=>Walks.strWide (prog:=C.prog) (w:=C.w) hA s.heap.objs.size x t
   rw[← len]at W;refine wpAny_pyIter_wide ha ⟨fz,_,_,_,_,rfl,.refl _,⟨⟨_,_,W,item,λb hb hn=>absurd hb hn⟩,?_⟩,r1,r2,⟨_,Heap.get?_push_size _ rfl,rfl,rfl⟩,r3⟩;intro i h b st hb;simp at hb;subst hb;(refine aL st λo ho _=>?_;clear st);exact⟨o,ho⟩
  ·refine jW (S.newI { cls:=.type "str_ascii_iterator",data:=.fields #[.str x t,.int 0 0] } rfl) λr1 r2 r3=>?_
   have W:=λ(A:Around) (hA:A.handled=none)=>Walks.strAscii (prog:=C.prog) (w:=C.w) hA s.heap.objs.size x t
   rw[← len]at W;refine wpAny_pyIter_ascii ha ⟨fz,_,_,_,_,rfl,.refl _,⟨⟨_,_,W,item,λb hb hn=>absurd hb hn⟩,?_⟩,r1,r2,⟨_,Heap.get?_push_size _ rfl,rfl,rfl⟩,r3⟩;intro i h b st hb;simp at hb;subst hb;(refine aL st λo ho _=>?_;clear st);exact⟨o,ho⟩
end

section
variable {C:Cx} {led:aF} {fe:Fe} {vs:aD} {k:Nat}

theorem WU.name(h:WU C led fe vs k (storeName fe.env x) d Q):WU C led fe vs k (PySem.assign (.Name x px) fe.env) d Q:=by
 intro F X hF hd A fz G s v hA S e;show wpAny _ _ (standAt px >>= λ_=>bindName fe.env x v) _ _ s
 exact wpAny_bind (wpAny_standAt (wpAny_bindName (h F X hF hd A fz G s v hA S e)))

inductive KSome (I:aD→aF→Prop) (vs:aD) (led:aF):Prop
 | mk (vs5:aD):Sub vs5 vs→I vs5 led→KSome I vs led
noncomputable abbrev KFT(I:aD→aF→Prop)(Q:Fl→aD→aF→Prop):Fl→aD→aF→Prop:=λfl vs4 led4=>match fl with
     | .next|.cont=>KSome I vs4 led4
     | .brk=>Q .next vs4 led4
     | .ret d=>Q (.ret d) vs4 led4
noncomputable abbrev KFB(C:Cx)(fe:Fe)(k:Nat)(body:List Stmt)(Q:Fl→aD→aF→Prop):aD→aF→Prop:=λvs3 led3=>WS C led3 fe vs3 k (execs body fe.env) Q
inductive KFor (C:Cx) (fe:Fe) (vs:aD) (k:Nat) (target:Expr) (body:List Stmt) (Q:Fl→aD→aF→Prop) (d:D) (led1:aF):Prop
 | mk (items:List D) (I:Nat→aD→aF→Prop):(∀Y,IterOf C Y led1 d items)→KSome (I 0) vs (sC led1 d) →
   (∀i x vs2 led2,items[i]?=some x→I i vs2 led2→WU C led2 fe vs2 k (PySem.assign target fe.env) x (KFB C fe k body (KFT (I (i+1)) Q))) →
   (∀vs2 led2,I items.length vs2 led2→Q .next vs2 led2)→KFor C fe vs k target body Q d led1
structure KThis (vs:aD) (led:aF) (vs4:aD) (led4:aF):Prop where
 s:Sub vs vs4
 e:led4=led
noncomputable abbrev aF3(vs:aD)(led:aF)(Q:Fl→aD→aF→Prop):Fl→aD→aF→Prop:=λfl vs4 led4=>match fl with
     | .next|.cont=>KThis vs led vs4 led4
     | .brk=>Q .next vs4 led4
     | .ret d=>Q (.ret d) vs4 led4
theorem sD(h:Dj R F):Un R (Un F X)=Un F (Un R X):=by
 funext b
 rcases h b with q|q
 ·erw[aE q];cases hf:F b with
  | some m=>erw[aC hf,aC hf]
  | none=>erw[aE hf,aE hf,aE q]
 ·erw[aE q];cases hr:R b with
  | some m=>erw[aC hr,aC hr]
  | none=>erw[aE hr,aE hr,aE q]
theorem uH(h:Dj R (Un F X))(a:Addr)(m:M)(e:X a=some m):(Un R X) a=some m:=by
 erw[aE ((h.right a).resolve_right (by erw[e];exact Option.some_ne_none _))];exact e
theorem Raws.backF{wr:List Addr}{R F X:aF}{fe:Fe}{vs:aD}(hR:Raws wr R)(hF:FOk fe vs F (Un R X)):FOk fe vs F X where
 fn:=hF.fn
 glob:=hF.glob
 blt:=hF.blt
 loc:=hF.loc
 own:=hF.own
 inj:=hF.inj
 cel:=λx d e q=>by
  refine aL (hF.cel x d e q) λc a b=>?_
  refine⟨c,a,?_⟩;cases hf:F c with
  | some m=>rw[aC hf]at b;rw[aC hf];exact b
  | none =>
   rw[aE hf]at b;rw[aE hf];cases hr:R c with
   | none=>rw[aE hr]at b;exact b
   | some m =>
    rw[aC hr]at b;by_cases hw:c∈wr
    ·refine aN (hR.here c hw) λo z=>?_;(first|exact (aH (hr ..) z).elim|cases aJ (hr ..) z|(rw[hr]at z;cases z));(have e1:=Option.some.inj b;clear b;exfalso;injection e1)
    ·(first|exact (aH (hR.not c hw ..) hr).elim|cases aJ (hR.not c hw ..) hr|(rw[hR.not c hw]at hr;cases hr))
inductive ForInv (C:Cx) (fe:Fe) (wr:List Addr) (items:List D) (St₀:Nat→Heap→Prop) (I:Nat→aD→aF→Prop) (X:aF) (fz:Fz) (G:Array GenState) (n:Nat) (s':Shared):Prop
 | mk (i:Nat) (fz':Fz) (G':Array GenState) (F':aF) (vs':aD) (led' R':aF):n=items.length - i→i≤items.length→FzLe fz fz'→GExt G G'→FOk fe vs' F' X→Dj F' X→Raws wr R'→Dj R' (Un F' X)→St₀ i s'.heap →
   St C fz' led' (Un R' (Un F' X)) G' s'→I i vs' led'→ForInv C fe wr items St₀ I X fz G n s'
theorem aBn
  (step:WU C led3 fe vs3 k (PySem.assign target fe.env) d (KFB C fe k body (KFT (I (i+1)) Q)))
  (hn:n=items.length - i) (hi:i<items.length) (hA:RoomF k A fe X) (itr:Itr C fz2 Ia wr items St₀) (hF3:FOk fe vs3 F3 X) (hd3:Dj F3 X) (hR4:Raws wr R4) (l2:FzLe fz fz2) (l3:FzLe fz2 fz3) (g3:GExt G G3) (e4:Den fz3 v d) (hdR4:Dj R4 (Un F3 X)) (hst4:St₀ (i+1) s4.heap)
  (S4:St C fz3 led3 (Un R4 (Un F3 X)) G3 s4) (hnext:∀s,(∃m,m<n∧ForInv C fe wr items St₀ I X fz2 G m s)→P .next s) (hcont:∀s,(∃m,m<n∧ForInv C fe wr items St₀ I X fz2 G m s)→P .cont s)
  (hbrk:∀s,Psf C fz X fe G Q .next s→P .brk s) (hret:∀v s,Psf C fz X fe G Q (.ret v) s→P (.ret v) s) :
  wpAny (model C.prog C.w) A (PySem.assign target fe.env v) (λ_ s₂=>wpAny (model C.prog C.w) A (execs body fe.env) P EX s₂) EY s4:=by
 have sw3:=sD (X:=X) hdR4.left;have hA4:RoomF k A fe (Un R4 X):=hA.upX λa m e=>uH hdR4 a _ e
 have S4':=S4;rw[sw3]at S4';refine eK (step F3 (Un R4 X) (hF3.up λa m e=>uH hdR4 a m e) (Dj.Un hdR4.left.symm hd3) A fz3 G3 s4 v hA4 S4' e4) λs5 fz5 G5 F5 vs5 led5 l5 g5 hF5 hd5 S5 h5=>?_
 refine gI (h5 F5 (Un R4 X) hF5 hd5 A fz5 G5 s5 hA4 S5) λf s6 fz6 G6 F6 vs6 led6 fl l6 g6 e6 hF6 hd6 S6 h6=>?_
 have hdR6:Dj R4 (Un F6 X):=Dj.Un hd6.left.symm hdR4.right;have S6':St C fz6 led6 (Un R4 (Un F6 X)) G6 s6:=by erw[sD hdR6.left];exact S6
 have keep:=itr.mono l3 |>.keep (i:=i+1) (l5.trans l6) hR4 (λa m e=>aC e) (λa m e=>aC e) S4 S6' hst4
 have back:FOk fe vs6 F6 X:=hR4.backF hF6
 have go:KSome (I (i+1)) vs6 led6→∃m,m<n∧ForInv C fe wr items St₀ I X fz2 G m s6:=λ⟨vs7,hs7,hI7⟩ =>
  ⟨items.length - (i+1),hn▸Nat.sub_succ_lt_self _ _ hi,.mk (i+1) fz6 G6 F6 vs7 led6 R4 rfl hi ((l3.trans l5).trans l6) ((g3.trans g5).trans g6) (back.sub hs7) hd6.right hR4 hdR6 keep S6' hI7⟩
 have en:∀f' fl',FlDen fz6 f' fl'→Q fl' vs6 led6→Psf C fz X fe G Q f' s6:=λf' fl' e q=>⟨fz6,G6,F6,vs6,led6,fl',(l2.trans l3).trans (l5.trans l6),(g3.trans g5).trans g6,e,back,hd6.right,S6'.drop hdR6,q⟩
 clear keep S6 S5 S4 S4' h5 step hst4;induction e6 using jL with
 | next=>exact hnext _ (go h6)
 | cont=>exact hcont _ (go h6)
 | brk=>exact hbrk _ (en .next .next trivial h6)
 | ret v d e6=>exact hret _ _ (en (.ret v) (.ret d) e6 h6)
theorem aBo
  (h:WE C led fe vs k (eval iter fe.env) (KFor C fe vs k target body Q))
  (ht:autoParam (∀it v,letOwnedTupleGo target it v=pure ()) dD) (hs:autoParam (∀x,foldedSetIterable iter fe.env x=pure x) dD) :
  WS C led fe vs k (exec (.For target iter body [] pos) fe.env) Q:=by
 intro F X hF hd A fz G s hA S;refine wpAny_For (aW (h F X hF hd A fz G s hA S) λv1 s1 fz1 G1 d1 led1 l1 g1 e1 S1 h1=>?_) hs;obtain ⟨items,I,hit,⟨vs0,hsub,hI0⟩,step,done⟩:=h1;refine wpAny_mono (hit _ A fz1 G1 s1 v1 (hA.r.mono (Nat.zero_le _)) S1 e1) (λit s2 p=>?_) λ_ _ x=>x.elim
 obtain ⟨fz2,Ia,wr,R,St₀,rfl,l2,itr,hR,hdR,hst,S2⟩:=p
 refine codeAny_forLoop (λn s'=>ForInv C fe wr items St₀ I X fz2 G n s')
  (λn s3 hI=>?_) items.length (.mk 0 fz2 G1 F vs0 (sC led1 d1) R (Eq.symm (Nat.sub_zero items.length)) (Nat.zero_le _) (.refl _) g1 (hF.sub hsub) hd hR hdR hst S2 hI0) (ht _)
 obtain ⟨i,fz3,G3,F3,vs3,led3,R3,hn,hi,l3,g3,hF3,hd3,hR3,hdR3,hst3,S3,hI⟩:=hI;refine (itr.mono l3).next hA.r.1 hR3 hdR3 S3 hst3 hi (λv d R4 s4 hx e4 hR4 hdR4 S4 hst4=>?_) λs4 hi' S4=>?_
 ·exact aBn (step i d vs3 led3 hx hI) hn (List.getElem?_eq_some_iff.mp hx).1 hA itr hF3 hd3 hR4 (l1.trans l2) l3 g3 e4 hdR4 hst4 S4 (λ_ h=>h) (λ_ h=>h) (λ_ h=>h) λ_ _ h=>h
 ·subst hi';exact wpAny_execs_nil ⟨fz3,G3,F3,vs3,led3,.next,(l1.trans l2).trans l3,g3,trivial,hF3,hd3,S4,done _ _ hI⟩

theorem sE(V:Nat→aD)(Ld:Nat→aF)
  (h:WE C led fe vs k (eval iter fe.env) λd led1=>∃(items:List D),(∀Y,IterOf C Y led1 d items)∧Sub (V 0) vs∧sC led1 d=Ld 0 ∧
   (∀i x,items[i]?=some x→WU C (Ld i) fe (V i) k (PySem.assign target fe.env) x (KFB C fe k body (aF3 (V (i+1)) (Ld (i+1)) Q))) ∧
   Q .next (V items.length) (Ld items.length))
  (ht:autoParam (∀it v,letOwnedTupleGo target it v=pure ()) dD) (hs:autoParam (∀x,foldedSetIterable iter fe.env x=pure x) dD) :
  WS C led fe vs k (exec (.For target iter body [] pos) fe.env) Q:=by
 refine aBo (h.mono λd led1 q=>?_) ht hs
 (refine tX q λitems a b c e f=>?_;clear q)
 refine⟨items,λi vs led'=>vs=V i∧led'=Ld i,a,⟨_,b,rfl,c⟩,?_,?_⟩
 ·intro i x vs2 led2 hx o21;(refine cL o21 λo1 o2=>?_;clear o21;subst o1;subst o2);refine (e i x hx).mono λvs3 led3 w=>w.mono λfl vs4 led4 q=>?_
  cases fl with
  | next=>exact⟨_,q.1,rfl,q.2⟩
  | cont=>exact⟨_,q.1,rfl,q.2⟩
  | brk=>exact q
  | ret d=>exact q
 ·intro vs2 led2 o21;(refine cL o21 λo1 o2=>?_;clear o21;subst o1;subst o2);exact f
end
end Sc

namespace Sc
set_option tactic.hygienic false

noncomputable def zJ(elt:Expr)(acc:Value)(env:Env):Sem Unit:=do let _←call (.builtin "list.append") [acc,← eval elt env]
noncomputable def aBp(e:Expr)(g:Comprehension)(depth:Nat)(acc:Value)(env:Env):Sem Unit:=do
 let x←eval g.iter env
 standAt g.iter.pos
 let x←foldedSetIterable g.iter env x
 let _←runOwn (.compStart e (depth+1) (← holding [x] (pyIter x)) acc env) env
noncomputable def fF(elt:Expr)(gens:List Comprehension)(scope:Scope)(pos:Pos)(depth:Nat)(acc:Value)(env:Env):Sem Unit :=
 match gens[depth+1]? with
 | some g=>aBp (.ListComp elt gens scope pos) g depth acc env
 | none=>zJ elt acc env
noncomputable def fG(ifs:List Expr)(env:Env):Sem Bool:=forIn ifs true λc r=>if r=true then do let ok←isTrue c env (eval c env);pure (ForInStep.yield ok) else pure (ForInStep.yield r)

theorem uI{elt target iter:Expr}{ifs:List Expr}{gens:List Comprehension}{scope:Scope}{pos:Pos}{depth:Nat}{it acc:Value}{env:Env}
  (hg:gens[depth]?=some ⟨target,iter,ifs,0⟩) (hn:∀g,gens[depth+1]?=some g→g.is_async=0) :
  compTurn (.ListComp elt gens scope pos) depth it acc env=(do
   standAt iter.pos
   match←pyNext it with
   | none=>pure (.done .next)
   | some v =>
    letOwnedTupleGo target it v
    PySem.assign target env v
    let ok←fG ifs env
    if ok then fF elt gens scope pos depth acc env
    again (.compLoop (.ListComp elt gens scope pos) depth it acc env)):=by
 unfold compTurn fF aBp zJ fG
 dsimp only
 rw[hg];cases h:gens[depth+1]? with
 | none=>rfl
 | some g =>
  obtain ⟨t,i,f,a⟩:=g;have ha:a=0:=hn _ h;subst ha;simp only[bind_assoc];rfl

theorem FOk.down{fe:Fe}{vs:aD}{F X X':aF}(h:FOk fe vs F X')(i:∀c d,X' c=some (.cell (some d))→X c=some (.cell (some d))):FOk fe vs F X where
 fn:=h.fn
 glob:=h.glob
 blt:=h.blt
 loc:=h.loc
 cel:=λx d e q=>let ⟨c,a,b⟩:=h.cel x d e q;⟨c,a,by
  cases hF:F c with
  | some m=>rw[aC hF]at b;rw[aC hF];exact b
  | none=>rw[aE hF]at b;rw[aE hF];exact i _ _ b⟩
 own:=h.own
 inj:=h.inj
theorem hV(h:Dj R F):Un R (Un F Z)=Un F (Un R Z):=sD h
theorem Raws.cell(h:Raws wr R)(e:Un R X c=some (.cell d)):X c=some (.cell d):=by
 cases hr:R c with
 | none=>rw[aE hr]at e;exact e
 | some m =>
  rw[aC hr]at e;by_cases hw:c∈wr
  ·refine aN (h.here c hw) λo z=>?_;(first|exact (aH (hr ..) z).elim|cases aJ (hr ..) z|(rw[hr]at z;cases z));(have e1:=Option.some.inj e;clear e;exfalso;injection e1)
  ·(first|exact (aH (h.not c hw ..) hr).elim|cases aJ (h.not c hw ..) hr|(rw[h.not c hw]at hr;cases hr))

inductive Psc (C:Cx) (fz:Fz) (X:aF) (fe:Fe) (G:Array GenState) (Da:Addr) (Q:aD→aF→List D→Prop) (s':Shared):Prop
 | mk (fz':Fz) (G':Array GenState) (F':aF) (vs':aD) (led':aF) (acc':List D):FzLe fz fz'→GExt G G'→FOk fe vs' F' X→Dj F' (upd X Da (.list acc'))→St C fz' led' (Un F' (upd X Da (.list acc'))) G' s'→Q vs' led' acc'→Psc C fz X fe G Da Q s'
noncomputable def WC(C:Cx)(led:aF)(fe:Fe)(vs:aD)(k:Nat)(Da:Addr)(acc:List D)(t:Sem Unit)(Q:aD→aF→List D→Prop):Prop :=
 ∀F X,FOk fe vs F X→X Da=none→Dj F (upd X Da (.list acc))→∀A fz G s,RoomF k A fe X→St C fz led (Un F (upd X Da (.list acc))) G s →
  wpAny (model C.prog C.w) A t (λ_ s'=>Psc C fz X fe G Da Q s') No s

theorem St.outer(S:St C fz led (Un F X) G s)(hd:Dj F X)(ha:X a=some m₀)(t:Nat)(hk:Heap.ExtBut a s.heap h')(hm:MAt fz h' a m) :
  St C fz led (Un F (upd X a m)) G { s with heap:=h',toks:=t }∧Dj F (upd X a m):=by
 have hF:F a=none:=(hd a).resolve_right (by erw[ha];exact Option.some_ne_none _);have hl:led a=none:=(S.dj a).resolve_right (by erw[aE hF,ha];exact Option.some_ne_none _);refine⟨⟨?_,?_⟩,(hd.symm.upd m hF).symm⟩
 ·erw[cO _ _ _ _ hF];exact (Dj.upd S.dj.symm m hl).symm
 ·erw[cO _ _ _ _ hF,cO _ _ _ _ hl];exact S.rel.upd (m₀:=m₀) (by erw[aE hl,aE hF,ha]) t hk hm

section
variable {C:Cx} {led:aF} {fe:Fe} {vs:aD} {k:Nat}

theorem aCu(h:WE C led fe vs k (eval elt fe.env) λd led'=>acc.length≤1000000∧Q vs led' (acc++[d])) :
  WC C led fe vs k Da acc (zJ elt (.ref Da) fe.env) Q:=by
 intro F X hF hD hd A fz G s hA S;unfold zJ;refine wpAny_bind (aW (h F (upd X Da (.list acc)) (hF.up λa m e=>by erw[aG _ _ (λz=>by subst z;(first|exact (aH (hD ..) e).elim|cases aJ (hD ..) e|(rw[hD]at e;cases e)))];exact e) hd A fz G s (hA.upX λa m e=>by erw[aG _ _ (λz=>by subst z;(first|exact (aH (hD ..) e).elim|cases aJ (hD ..) e|(rw[hD]at e;cases e)))];exact e) S) λv1 s1 fz1 G1 d1 led1 l1 g1 e1 S1 h1=>?_);have hY:(upd X Da (.list acc)) Da=some (.list acc):=aA ..;have hFD:F Da=none:=(hd Da).resolve_right (by erw[hY];exact Option.some_ne_none _);obtain ⟨xs,n,hg,hds⟩:=S1.at (by erw[aE hFD];exact hY);have hz:xs.toArray.size≤sizeLine:=by erw[List.size_toArray,hds.length];exact Nat.le_trans h1.1 (by decide)
 refine wpAny_bind (call_meets PySem.F.slot_list_append ⟨_,hg,rfl⟩ PySem.F.entry_list_append (PySem.F.args_list_append_2 _ _) (list_append Da xs.toArray n v1 hz) ⟨hg,wpAny_pure ?_⟩);have hu:=IsL.update hg (λx=>x.push v1)
 obtain ⟨S2,hd2⟩:=S1.outer hd hY (m:=.list (acc++[d1])) (h':=s1.heap.update Da (Obj.mapSeq λx=>x.push v1)) s1.toks (Heap.SameBut.update ..).extBut
  ⟨xs++[v1],n+1,by erw[hu];simp,hds.snoc e1⟩
 rw[dR]at S2 hd2;exact⟨fz1,G1,F,vs,led1,_,l1,g1,hF,hd2,S2,h1.2⟩

structure CompLed (F X R:aF) (Da:Addr) (acc:List D):Prop where
 hRD:R Da=none
 eqY:Un R (Un F (upd X Da (.list acc)))=Un F (upd (Un R X) Da (.list acc))
 hdX:Dj R X
 hd2:Dj F (upd (Un R X) Da (.list acc))
 upX:∀a m,X a=some m→(upd (Un R X) Da (.list acc)) a=some m
 upX2:∀a m,X a=some m→(Un R X) a=some m
 downX:∀c d,(upd (Un R X) Da (.list acc)) c=some (.cell (some d))→(Un R X) c=some (.cell (some d))
 hXD:(Un R X) Da=none
theorem CompLed.of(hD:X Da=none)(hd1:Dj F (upd X Da (.list acc)))(hdR2:Dj R (Un F (upd X Da (.list acc)))):CompLed F X R Da acc:=by
 have hY:(upd X Da (.list acc)) Da=some (.list acc):=aA ..;have hFD:F Da=none:=(hd1 Da).resolve_right (by erw[hY];exact Option.some_ne_none _);have hRD:R Da=none:=(hdR2 Da).resolve_right (by erw[aE hFD,hY];exact Option.some_ne_none _)
 have hdX:Dj R X:=λa=>by
  by_cases ha:a=Da
  ·subst ha;exact .inl hRD
  ·exact (hdR2.right a).imp id λq=>by rwa [aG _ _ ha]at q
 have upX2:∀a m,X a=some m→(Un R X) a=some m:=λa m e=>by
  erw[aE ((hdX a).resolve_right (by erw[e];exact Option.some_ne_none _))];exact e
 refine⟨hRD,by erw[hV hdR2.left,cO _ _ _ _ hRD],hdX,by erw[← cO _ _ _ _ hRD];exact Dj.Un hdR2.left.symm hd1,λa m e=>?_,upX2,λc d e=>?_,Un_none.mpr ⟨hRD,hD⟩⟩
 ·erw[aG _ _ (λz=>by subst z;(first|exact (aH (hD ..) e).elim|cases aJ (hD ..) e|(rw[hD]at e;cases e)))];exact upX2 a m e
 ·by_cases hc:c=Da
  ·subst hc;(first|exact (aH (aA ..) e).elim|cases aJ (aA ..) e|(rw[aA]at e;cases e))
  ·rwa [aG _ _ hc]at e
theorem CompLed.back(L:CompLed F X R Da acc)(hd5:Dj F5 (upd (Un R X) Da (.list acc5))) :
  Dj F5 (upd X Da (.list acc5))∧Dj R (Un F5 (upd X Da (.list acc5)))∧Un R (Un F5 (upd X Da (.list acc5)))=Un F5 (upd (Un R X) Da (.list acc5)):=by
 have hd5':Dj F5 (Un R (upd X Da (.list acc5))):=by erw[cO _ _ _ _ L.hRD];exact hd5
 have hdR5:Dj R (Un F5 (upd X Da (.list acc5))):=Dj.Un hd5'.left.symm λa=>by
  by_cases ha:a=Da
  ·subst ha;exact .inl L.hRD
  ·erw[aG _ _ ha];exact L.hdX a
 exact⟨hd5'.right,hdR5,by erw[hV hdR5.left,cO _ _ _ _ L.hRD]⟩
inductive CompInv (C:Cx) (fe:Fe) (Da:Addr) (wr:List Addr) (items:List D) (St₀:Nat→Heap→Prop) (Iv:Nat→aD→aF→List D→Prop) (X:aF) (fz:Fz) (G:Array GenState) (n:Nat) (s':Shared):Prop
 | mk (i:Nat) (fz':Fz) (G':Array GenState) (F':aF) (vs':aD) (led' R':aF) (acc':List D):n=items.length - i→i≤items.length→FzLe fz fz'→GExt G G'→FOk fe vs' F' X→Dj F' (upd X Da (.list acc'))→Raws wr R' →
   Dj R' (Un F' (upd X Da (.list acc')))→St₀ i s'.heap→St C fz' led' (Un R' (Un F' (upd X Da (.list acc')))) G' s'→Iv i vs' led' acc'→CompInv C fe Da wr items St₀ Iv X fz G n s'
noncomputable abbrev aCv(I:aD→aF→List D→Prop):aD→aF→List D→Prop:=λvs5 led5 acc5=>∃vs6,Sub vs6 vs5∧I vs6 led5 acc5
theorem aAw
  (step:WU C led1 fe vs1 k (PySem.assign target fe.env) d λvs3 led3=>WB C led3 fe vs3 k (fG ifs fe.env) λok led4=>(ok=true→WC C led4 fe vs3 k Da acc1 t (aCv (Iv (i+1))))∧(ok=false→∃vs6,Sub vs6 vs3∧Iv (i+1) vs6 led4 acc1))
  (hn1:n=items.length - i) (hlt:i<items.length) (hA:RoomF k A fe X) (itr:ItrT C fz I wr items St₀ target) (hF1:FOk fe vs1 F1 X) (hd1:Dj F1 (upd X Da (.list acc1)))
  (hR2:Raws wr R2) (l1:FzLe fz fzn) (g1:GExt G G1) (e2:Den fzn v d) (hst2:St₀ (i+1) s2.heap) (S2:St C fzn led1 (Un R2 (Un F1 (upd X Da (.list acc1)))) G1 s2) (L:CompLed F1 X R2 Da acc1) :
  wpAny (model C.prog C.w) A (do
     PySem.assign target fe.env v
     let ok←fG ifs fe.env
     if ok then t
     again c) (λr s₁=>r=.again c∧∃m,m<n∧CompInv C fe Da wr items St₀ Iv X fz G m s₁) No s2:=by
 have S2':=S2;rw[L.eqY]at S2';have hAX:RoomF k A fe (upd (Un R2 X) Da (.list acc1)):=hA.upX λa m e=>L.upX a _ e
 refine wpAny_bind ?_;refine eK (step F1 _ (hF1.up L.upX) L.hd2 A fzn G1 s2 v hAX S2' e2) λs3 fz3 G3 F3 vs3 led3 l3 g3 hF3 hd3 S3 h3=>?_
 refine wpAny_bind (hU (h3 F3 _ hF3 hd3 A fz3 G3 s3 hAX S3) λok s4 fz4 G4 led4 l4 g4 S4 h4=>?_);have hF3':FOk fe vs3 F3 (Un R2 X):=hF3.down L.downX
 have close:∀(s5:Shared) (fz5:Fz) (G5:Array GenState) (F5:aF) (vs5:aD) (led5:aF) (acc5:List D) ,FzLe fz4 fz5→GExt G4 G5→FOk fe vs5 F5 (Un R2 X)→Dj F5 (upd (Un R2 X) Da (.list acc5)) →
   St C fz5 led5 (Un F5 (upd (Un R2 X) Da (.list acc5))) G5 s5→(∃vs6,Sub vs6 vs5∧Iv (i+1) vs6 led5 acc5)→∃m,m<n∧CompInv C fe Da wr items St₀ Iv X fz G m s5:=by
  intro s5 fz5 G5 F5 vs5 led5 acc5 l5 g5 hF5 hd5 S5 ⟨vs6,hs6,hI6⟩;have hx_3:=L.back hd5;have hd5':=hx_3.1;have hdR5:=hx_3.2.1;have eq5:=hx_3.2.2;have S5':St C fz5 led5 (Un R2 (Un F5 (upd X Da (.list acc5)))) G5 s5:=by erw[eq5];exact S5
  refine⟨items.length - (i+1),hn1▸Nat.sub_succ_lt_self _ _ hlt,.mk (i+1) fz5 G5 F5 vs6 led5 R2 acc5 rfl (Nat.succ_le_of_lt hlt) (((l1.trans l3).trans l4).trans l5) (((g1.trans g3).trans g4).trans g5) ((hF5.sub hs6).down λc d e=>hR2.cell e) hd5' hR2 hdR5 ?_ S5' hI6⟩;exact itr.keep (i:=i+1) l1 ((l3.trans l4).trans l5) hR2 (λa m e=>aC e) (λa m e=>aC e) S2 S5' hst2
 clear step S2 S2' hst2 h3 S3;cases ok with
 | false =>
  erw[if_neg Bool.false_ne_true];exact wpAny_pure ⟨rfl,close s4 fz4 G4 F3 vs3 led4 acc1 (.refl _) (.refl _) hF3' hd3 S4 (h4.2 rfl)⟩
 | true =>
  erw[if_pos rfl];refine wpAny_bind (wpAny_mono (h4.1 rfl F3 (Un R2 X) hF3' L.hXD hd3 A fz4 G4 s4 (hA.upX λa m e=>L.upX2 a _ e) S4) (λ_ s5 p=>?_) λ_ _ x=>x.elim);obtain ⟨fz5,G5,F5,vs5,led5,acc5,l5,g5,hF5,hd5,S5,q⟩:=p;exact wpAny_pure ⟨rfl,close s5 fz5 G5 F5 vs5 led5 acc5 l5 g5 hF5 hd5 S5 q⟩
theorem aAx
  (hg:gens[depth]?=some ⟨target,iter,ifs,0⟩) (hn:∀g,gens[depth+1]?=some g→g.is_async=0)
  (Iv:Nat→aD→aF→List D→Prop)
  (step:∀i x vs2 led2 acc2,items[i]?=some x→Iv i vs2 led2 acc2→WU C led2 fe vs2 k (PySem.assign target fe.env) x λvs3 led3 =>
   WB C led3 fe vs3 k (fG ifs fe.env) λok led4=>(ok=true→WC C led4 fe vs3 k Da acc2 (fF elt gens scope pos depth (.ref Da) fe.env) λvs5 led5 acc5=>∃vs6,Sub vs6 vs5∧Iv (i+1) vs6 led5 acc5) ∧
    (ok=false→∃vs6,Sub vs6 vs3∧Iv (i+1) vs6 led4 acc2))
  (hA:RoomF k A fe X) (itr:ItrT C fz I wr items St₀ target) (hF:FOk fe vs F X) (hD:X Da=none) (hd:Dj F (upd X Da (.list acc)))
  (hR:Raws wr R) (hdR:Dj R (Un F (upd X Da (.list acc)))) (hst:St₀ 0 s.heap) (S:St C fz led (Un R (Un F (upd X Da (.list acc)))) G s) (h0:Iv 0 vs led acc)
  (hRR:∀s',Psc C fz X fe G Da (Iv items.length) s'→RR (.ok .next) s') :
  codeAny (model C.prog C.w) A (.compLoop (.ListComp elt gens scope pos) depth (.ref I) (.ref Da) fe.env) RR s:=by
 refine codeAny_loop (n:=items.length) (by rfl) (λn s'=>CompInv C fe Da wr items St₀ Iv X fz G n s')
  (λn s1 hI=>?_) (.mk 0 fz G F vs led R acc (Eq.symm (Nat.sub_zero items.length)) (Nat.zero_le _) (.refl _) (.refl _) hF hd hR hdR hst S h0)
 obtain ⟨i,fz1,G1,F1,vs1,led1,R1,acc1,hn1,hi,l1,g1,hF1,hd1,hR1,hdR1,hst1,S1,hI1⟩:=hI;show wpAny _ A ((compTurn (.ListComp elt gens scope pos) depth (.ref I) (.ref Da) fe.env).onRaise (λx=>do noteFrame x fe.env;theTreesLotGoes x)) _ _ s1
 refine wpAny_noted ?_;erw[uI hg hn];refine wpAny_bind (wpAny_standAt (wpAny_bind ?_))
 refine wpAny_mono (itr.next (Q:=λo s2=>match o with
   | none=>wpAny (model C.prog C.w) A (pure (PySem.Fin.done Flow.next)) _ _ s2
   | some v=>wpAny (model C.prog C.w) A (do
     PySem.assign target fe.env v
     let ok←fG ifs fe.env
     if ok then fF elt gens scope pos depth (.ref Da) fe.env
     again (.compLoop (.ListComp elt gens scope pos) depth (.ref I) (.ref Da) fe.env)) _ _ s2) hA.r.1 l1 hR1 hdR1 S1 hst1 hi (λv d R2 s2 fzn hx ln e2 hR2 hdR2 S2 hst2=>?_) λs2 hi2 S2=>?_) (λo s2 h=>match o with
   | none=>h
   | some v=>wpAny_bind h) λ_ _ x=>x
 ·exact wpAny_mono (aAw (step i d vs1 led1 acc1 hx hI1) hn1 (List.getElem?_eq_some_iff.mp hx).1 hA itr hF1 hd1 hR2 (l1.trans ln) g1 e2 hst2 S2 (.of hD hd1 hdR2)) (λr s3 h=>by (refine cL h ?_;clear h;intro o1 h;subst o1);exact⟨rfl,h⟩) λ_ _ x=>x.elim
 ·subst hi2;exact wpAny_pure (hRR _ ⟨fz1,G1,F1,vs1,led1,acc1,l1,g1,hF1,hd1,S2,hI1⟩)
end
end Sc

namespace Sc
set_option tactic.hygienic false

theorem fV{env:Env}:∀{names:List (Str×NameKind)} {x:Str},
  (names.map λ(n,k)=>if (k == NameKind.free && env.scope.kind == .function && env.kindOf n == some .cell) then (n,NameKind.cell) else (n,k)).lookup x=some .local→names.lookup x=some .local
 | [],_,h=>by simp at h
 | (n,k)::r,x,h=>by
  have ih:=@fV env r x
  have h':List.lookup x ((if (k == NameKind.free && env.scope.kind == .function && env.kindOf n == some .cell)=true then (n,NameKind.cell) else (n,k)) ::
   (r.map λ(n,k)=>if (k == NameKind.free && env.scope.kind == .function && env.kindOf n == some .cell) then (n,NameKind.cell) else (n,k)))=some .local:=h
  by_cases hc:(k == NameKind.free && env.scope.kind == .function && env.kindOf n == some .cell)=true
  ·rw[if_pos hc]at h';rw[List.lookup_cons]at h' ⊢;cases hx:x == n with
   | true=>(first|exact (aH (hx ..) h').elim|cases aJ (hx ..) h'|(rw[hx]at h';(have e1:=Option.some.inj h';clear h';exfalso;injection e1)))
   | false=>rw[hx]at h';exact ih h'
  ·rw[if_neg hc]at h';rw[List.lookup_cons]at h' ⊢;cases hx:x == n with
   | true=>rw[hx]at h';exact h'
   | false=>rw[hx]at h';exact ih h'
theorem FOk.relabel{env env₀:Env}{ow:List Str}{vs:aD}{F X:aF}(h:FOk ⟨env,ow⟩ vs F X):FOk ⟨{ env with scope:=PySem.relabel env.scope env₀ },ow⟩ vs F X where
 fn:=h.fn
 glob:=h.glob
 blt:=h.blt
 loc:=let ⟨m,a,b⟩:=h.loc;⟨m,a,λx d e q=>b x d e (fV q)⟩
 cel:=λx d e q=>h.cel x d e λz=>q (lookup_relabel_local z)
 own:=h.own
 inj:=h.inj

noncomputable def qH(scope:Scope)(vs:aD):aD:=vs.filter λp=>scope.names.lookup p.1 == some .free
noncomputable def xD(scope:Scope)(vs:aD):Bool:=scope.names.all λp=>p.2 != .free || vs.any (λq=>q.1 == p.1)
noncomputable def nK(scope:Scope):Bool:=scope.names.all λp=>scope.names.lookup p.1 == some p.2

theorem kF:∀{l:aD} {x:Str},(∃q∈l,q.1=x)→∃d,l.lookup x=some d
 | (y,e)::r,x,⟨q,hq,he⟩=>by
  rw[List.lookup_cons];cases hb:x == y with
  | true=>exact⟨e,rfl⟩
  | false =>
   rcases List.mem_cons.mp hq with rfl|hq
   ·subst he;simp at hb
   ·exact kF ⟨q,hq,he⟩
theorem gC{scope:Scope}:∀{vs:aD} {x:Str} {d:D},(qH scope vs).lookup x=some d→vs.lookup x=some d∧scope.names.lookup x=some .free
 | [],x,d,h=>by exact bN h
 | (y,e)::r,x,d,h=>by
  unfold qH at h;rw[List.filter_cons]at h;split at h
  ·rename_i hf;rw[List.lookup_cons]at h ⊢;cases hb:x == y with
   | true=>rw[hb]at h;exact⟨h,by rw[beq_iff_eq.mp hb];exact beq_iff_eq.mp hf⟩
   | false=>rw[hb]at h;exact gC h
  ·rename_i hf;refine cL (gC (scope:=scope) h) λh1 h2=>?_
   rw[List.lookup_cons];cases hb:x == y with
   | true=>exact absurd (by rw[← beq_iff_eq.mp hb];exact beq_iff_eq.mpr h2) hf
   | false=>exact⟨h1,h2⟩

theorem aAy(hn:nK scope=true)(h:scope.names.lookup x=some .free):x∉aS scope:=λq=>by
 unfold aS at q
 (refine aL (List.mem_map.mp q) λp hp o1=>?_;subst o1)
 refine cL (List.mem_filter.mp hp) λhp1 hp2=>?_
 have:=List.all_eq_true.mp hn p hp1;rw[beq_iff_eq.mp this,beq_iff_eq.mp hp2]at h
 (have e1:=Option.some.inj h;clear h;exfalso;injection e1)

noncomputable def cI(sc:Scope):List Str:=(sc.names.filter (·.2 == .free)).map (·.1)
noncomputable def bS(sc:Scope)(cells:List (Str×Addr)):List (Str×Addr):=(cI sc).reverse.map λx=>(x,(cells.lookup x).getD 0)

theorem gJ(h:∀x∈cI sc,∃c,env.cells.lookup x=some c):closureFor sc env=pure (bS sc env.cells):=by
 have key:∀(names:List (Str×NameKind)) (acc:List (Str×Addr)),(∀x∈(names.filter (·.2 == .free)).map (·.1),∃c,env.cells.lookup x=some c) →
   (forIn names acc (λ(p:Str×NameKind) (cs:List (Str×Addr))=>if p.2 == .free then (do let a←cellOf env p.1;pure (ForInStep.yield ((p.1,a)::cs))) else pure (ForInStep.yield cs)):Sem (List (Str×Addr))) =
    pure ((((names.filter (·.2 == .free)).map (·.1)).reverse.map λx=>(x,(env.cells.lookup x).getD 0))++acc):=by
  intro names;induction names with
  | nil=>intro acc _;rfl
  | cons p r ih =>
   intro acc hh;obtain ⟨x,k⟩:=p;erw[List.forIn_cons];cases hk:k == NameKind.free with
   | true =>
    refine aN (hh x (by simp[List.filter_cons,hk])) λc hc=>?_
    have hco:cellOf env x=pure c:=by unfold cellOf;erw[hc]
    simp only[hk,if_true,hco,pure_bind];erw[ih _ (λy hy=>hh y (by simp only[List.filter_cons,hk,if_true,List.map_cons];exact List.mem_cons_of_mem _ hy))];simp[List.filter_cons,hk,hc]
   | false =>
    simp only[hk,Bool.false_eq_true,if_false,pure_bind];erw[ih _ (λy hy=>hh y (by simpa only [List.filter_cons,hk,Bool.false_eq_true,if_false] using hy))];simp[List.filter_cons,hk]
 have:=key sc.names [] h;unfold closureFor bS cI;rw[List.append_nil]at this;erw[← this];exact bind_pure _

theorem cH(h:(bS sc cells).lookup x=some c):x∈cI sc∧c=(cells.lookup x).getD 0:=by
 unfold bS at h
 have key:∀l:List Str,(l.map λy=>(y,(cells.lookup y).getD 0)).lookup x=some c→x∈l∧c=(cells.lookup x).getD 0:=by
  intro l;induction l with
  | nil=>intro e;exact bN e
  | cons y r ih =>
   intro e;rw[List.map_cons,List.lookup_cons]at e;by_cases hx:x=y
   ·subst hx;simp at e;exact⟨List.mem_cons_self,e.symm⟩
   ·rw[beq_eq_false_iff_ne.mpr hx]at e;exact⟨List.mem_cons_of_mem _ (ih e).1,(ih e).2⟩
 exact⟨List.mem_reverse.mp (key _ h).1,(key _ h).2⟩
theorem iA(h:x∈cI sc):(bS sc cells).lookup x=some ((cells.lookup x).getD 0):=by
 unfold bS
 have key:∀l:List Str,x∈l→(l.map λy=>(y,(cells.lookup y).getD 0)).lookup x=some ((cells.lookup x).getD 0):=by
  intro l;induction l with
  | nil=>intro e;cases e
  | cons y r ih =>
   intro e;erw[List.map_cons,List.lookup_cons];by_cases hx:x=y
   ·subst hx;simp
   ·erw[beq_eq_false_iff_ne.mpr hx];exact ih ((List.mem_cons.mp e).resolve_left hx)
 exact key _ (List.mem_reverse.mpr h)
theorem uJ(hF:FOk fe vs F X)(hn:nK scope=true)(hfree:xD scope vs=true)
  (hk:∀p∈scope.names,p.2=.free→fe.env.kindOf p.1≠some .local) :
  ∃cl,closureFor scope fe.env=pure cl∧(∀x c,cl.lookup x=some c→fe.env.cells.lookup x=some c∧scope.names.lookup x=some .free)∧(∀x,scope.names.lookup x=some .free→cl.lookup x=fe.env.cells.lookup x):=by
 have cell:∀p∈scope.names,p.2=.free→∃c,fe.env.cells.lookup p.1=some c:=λp hp hf=>by
  have h1:=List.all_eq_true.mp hfree p hp;rw[hf]at h1;simp only[bne_self_eq_false,Bool.false_or,List.any_eq_true,beq_iff_eq]at h1;refine aN (kF h1) λd e=>?_
  refine aL (hF.cel p.1 d e (hk p hp hf)) λc q _=>?_
  exact⟨c,q⟩
 have mem:∀x∈cI scope,(x,NameKind.free)∈scope.names:=λx hx=>by
  (refine aL (List.mem_map.mp hx) λp hp o1=>?_;subst o1)
  have h2:=List.mem_filter.mp hp;erw[← beq_iff_eq.mp h2.2];exact h2.1
 refine⟨bS scope fe.env.cells,gJ λx hx=>cell _ (mem x hx) rfl,λx c q=>?_,λx hx=>?_⟩
 ·(refine cL (cH q) λhx o1=>?_;subst o1)
  refine aN (cell _ (mem x hx) rfl) λc hc=>?_
  exact⟨by erw[hc];rfl,beq_iff_eq.mp (List.all_eq_true.mp hn _ (mem x hx))⟩
 ·refine aN (cell _ (mem_of_lookup hx) rfl) λc hc=>?_
  erw[iA (List.mem_map.mpr ⟨_,List.mem_filter.mpr ⟨mem_of_lookup hx,beq_self_eq_true _⟩,rfl⟩),hc];rfl
end Sc

namespace Sc
set_option tactic.hygienic false

theorem oO
  (hg:gens[depth]?=some ⟨target,iter,ifs,0⟩)
  (h0:codeAny (model prog w) A (.compLoop (.ListComp elt gens scope pos) depth it acc env) R s)
  (h:wpAny (model prog w) A (pyIter it) (λit' s'=>codeAny (model prog w) A (.compLoop (.ListComp elt gens scope pos) depth it' acc env) R s') No s) :
  codeAny (model prog w) A (.compStart (.ListComp elt gens scope pos) depth it acc env) R s:=by
 refine codeAny_of_tree ?_;refine (?_:wpAny _ _ ((compStart (.ListComp elt gens scope pos) depth it acc env).onRaise (λx=>do noteFrame x env;standAt theWindowsPlace)) _ _ s);refine wpAny_notedAt ?_;unfold compStart;have hc:(clausesOf (.ListComp elt gens scope pos))[depth]?=some ⟨target,iter,ifs,0⟩:=hg;simp only[hc];have he:(Option.elim (some (⟨target,iter,ifs,0⟩:Comprehension)) false λx=>x.is_async != 0)=false:=rfl;simp only[he,Bool.false_eq_true,if_false];refine wpAny_bind (wpAny_askSetting (wpAny_ite ?_));split
 ·exact wpAny_pure ⟨rfl,h0⟩
 ·refine wpAny_bind (wpAny_rule (wpAny_bind (wpAny_standAt (wpAny_bind (wpAny_mono h (λit' s' h'=>wpAny_pure ⟨rfl,h'⟩) λ_ _ x=>x.elim)))))

section
variable {C:Cx} {led:aF} {fe:Fe} {vs:aD} {k:Nat}

theorem oP
  (hg:gens[depth]?=some ⟨target,iter,ifs,0⟩) (hn:∀g,gens[depth+1]?=some g→g.is_async=0)
  (Iv:Nat→aD→aF→List D→Prop)
  (step:∀i x vs2 led2 acc2,items[i]?=some x→Iv i vs2 led2 acc2→WU C led2 fe vs2 k (PySem.assign target fe.env) x λvs3 led3 =>
   WB C led3 fe vs3 k (fG ifs fe.env) λok led4=>(ok=true→WC C led4 fe vs3 k Da acc2 (fF elt gens scope pos depth (.ref Da) fe.env) λvs5 led5 acc5=>∃vs6,Sub vs6 vs5∧Iv (i+1) vs6 led5 acc5) ∧
    (ok=false→∃vs6,Sub vs6 vs3∧Iv (i+1) vs6 led4 acc2))
  (hA:RoomF k A fe X) (itr:ItrT C fz I wr items St₀ target) (hF:FOk fe vs F X) (hD:X Da=none) (hd:Dj F (upd X Da (.list acc)))
  (hR:Raws wr R) (hdR:Dj R (Un F (upd X Da (.list acc)))) (hst:St₀ 0 s.heap) (S:St C fz led (Un R (Un F (upd X Da (.list acc)))) G s) (h0:Iv 0 vs led acc)
  (hRR:∀s',Psc C fz X fe G Da (Iv items.length) s'→RR (.ok .next) s') :
  codeAny (model C.prog C.w) A (.compStart (.ListComp elt gens scope pos) depth (.ref I) (.ref Da) fe.env) RR s :=
 have L:=aAx hg hn Iv step hA itr hF hD hd hR hdR hst S h0 hRR
 oO hg L (itr.self hA.r.1 hst L)

theorem WC.nest
  (hg:gens[depth+1]?=some ⟨target,iter,ifs,0⟩)
  (h:WE C led fe vs k (eval iter fe.env) λd led1=>∃(items:List D) (Iv:Nat→aD→aF→List D→Prop),(∀Y,IterOf C Y led1 d items)∧(∃vs0,Sub vs0 vs∧Iv 0 vs0 (sC led1 d) acc) ∧
   (∀i x vs2 led2 acc2,items[i]?=some x→Iv i vs2 led2 acc2→WU C led2 fe vs2 k (PySem.assign target fe.env) x λvs3 led3 =>
    WB C led3 fe vs3 k (fG ifs fe.env) λok led4=>(ok=true→WC C led4 fe vs3 k Da acc2 (fF elt gens scope pos (depth+1) (.ref Da) fe.env) λvs5 led5 acc5=>∃vs6,Sub vs6 vs5∧Iv (i+1) vs6 led5 acc5) ∧
     (ok=false→∃vs6,Sub vs6 vs3∧Iv (i+1) vs6 led4 acc2)) ∧
   (∀vs2 led2 acc2,Iv items.length vs2 led2 acc2→Q vs2 led2 acc2))
  (hn:∀g,gens[depth+2]?=some g→g.is_async=0) (ht:autoParam (∀it v,letOwnedTupleGo target it v=pure ()) dD) (hs:autoParam (∀x,foldedSetIterable iter fe.env x=pure x) dD) :
  WC C led fe vs k Da acc (fF elt gens scope pos depth (.ref Da) fe.env) Q:=by
 intro F X hF hD hd A fz G s hA S;unfold fF;erw[hg]
 dsimp only
 unfold aBp;have hFu:FOk fe vs F (upd X Da (.list acc)):=hF.up λa m e=>by erw[aG _ _ (λz=>by subst z;(first|exact (aH (hD ..) e).elim|cases aJ (hD ..) e|(rw[hD]at e;cases e)))];exact e
 refine wpAny_bind (aW (h F _ hFu hd A fz G s (hA.upX λa m e=>by erw[aG _ _ (λz=>by subst z;(first|exact (aH (hD ..) e).elim|cases aJ (hD ..) e|(rw[hD]at e;cases e)))];exact e) S) λv1 s1 fz1 G1 d1 led1 l1 g1 e1 S1 h1=>?_)
 (refine aDG h1 λitems Iv hit o1 step done=>?_;clear h1;refine aL o1 λvs0 hsub hI0=>?_;clear o1)
 refine wpAny_bind (wpAny_standAt (wpAny_bind (wpAny_of_eq (hs _) (wpAny_bind (wpAny_holding ?_)))));refine wpAny_mono (hit _ A fz1 G1 s1 v1 (hA.r.mono (Nat.zero_le _)) S1 e1) (λit s2 p=>?_) λ_ _ x=>x.elim
 obtain ⟨fz2,Ia,wr,R,St₀,rfl,l2,itr,hR,hdR,hst,S2⟩:=p;refine wpAny_bind (wpAny_runOwn (oP (Da:=Da) hg hn Iv step hA (itr.toT ht) (hF.sub hsub) hD hd hR hdR hst S2 hI0 (RR:=λr s'=>match r with|.ok f=>wpAny (model C.prog C.w) A (pure ()) (λ_ s'=>Psc C fz X fe G Da Q s') No s'|.error e=>cameBackBy (model C.prog C.w) A fe.env No e s') λs3 p=>?_));obtain ⟨fz3,G3,F3,vs3,led3,acc3,l3,g3,hF3,hd3,S3,q⟩:=p;exact wpAny_pure ⟨fz3,G3,F3,vs3,led3,acc3,(l1.trans l2).trans l3,g1.trans g3,hF3,hd3,S3,done _ _ _ q⟩
theorem WC.last(hg:gens[depth+1]?=none)
  (h:WE C led fe vs k (eval elt fe.env) λd led'=>acc.length≤1000000∧Q vs led' (acc++[d])):WC C led fe vs k Da acc (fF elt gens scope pos depth (.ref Da) fe.env) Q:=by
 unfold fF;erw[hg];exact aCu h

theorem St.lose(S:St C fz led (Un F X) G s)(hd:Dj F X)(hL:F L=some m)(hs:Heap.SameBut L s.heap h'):St C fz led X G { s with heap:=h' }:=by
 have hl:led L=none:=(S.dj L).resolve_right (by erw[aC hL];exact Option.some_ne_none _);refine⟨S.dj.right,?_⟩
 have R0:Rel C fz (upd (Un led X) L m) G s:=S.rel.forget λa m' e=>by
  by_cases ha:a=L
  ·subst ha;(first|exact (aH (aA ..) e).elim|cases aJ (aA ..) e|(rw[aA]at e;cases e));erw[aE hl,aC hL]
  ·rw[aG _ _ ha]at e;cases hla:led a with
   | some m''=>rw[aC hla]at e ⊢;exact e
   | none =>
    rw[aE hla]at e ⊢;erw[aE ((hd a).resolve_right (by erw[e];exact Option.some_ne_none _))];exact e
 have hn:Un led X L=none:=Un_none.mpr ⟨hl,hd.of_some hL⟩;exact R0.many (T':=Un led X) s.toks (·=L) (λb hb=>by subst hb;exact⟨m,aA ..⟩) (λb o hb e=>hs.extBut b o hb e) (λb hb=>by erw[aG _ _ hb]) (λb m' hb e=>by subst hb;(first|exact (aH (hn ..) e).elim|cases aJ (hn ..) e|(rw[hn]at e;cases e)))

theorem St.freeze_out(S:St C fz led (upd X Da (.list xs)) G s)(hX:X Da=none):∃fz',FzLe fz fz'∧Den fz' (.ref Da) (.lst xs)∧St C fz' led X G s:=by
 have hl:led Da=none:=(S.dj Da).resolve_right (by erw[aA];exact Option.some_ne_none _);refine cZ (S.rel.freeze (a:=Da) (xs:=xs) (by erw[aE hl,aA])) λfz' a b c=>?_
 refine⟨fz',a,b,λx=>?_,?_⟩
 ·rcases S.dj x with q|q
  ·exact .inl q
  ·by_cases hx:x=Da
   ·subst hx;(first|exact (aH (aA ..) q).elim|cases aJ (aA ..) q|(rw[aA]at q;exact dN q))
   ·rw[aG _ _ hx]at q;exact .inr q
 ·have:del (Un led (upd X Da (.list xs))) Da=Un led X:=by
   erw[cO _ _ _ _ hl];exact kS _ _ _ (Un_none.mpr ⟨hl,hX⟩)
  rw[this]at c;exact c

noncomputable def dJ(scope:Scope)(L:Addr)(cs:List (Str×Addr))(fe:Fe):Fe:=⟨compEnvC scope cs L fe.env,aS scope⟩

theorem uK
  (hkind:scope.kind=.function) (hnames:nK scope=true) (hfree:xD scope vs=true) (hk:(scope.names.all λp=>p.2 != .free || fe.env.kindOf p.1 != some .local)=true)
  (hF:FOk fe vs F X) (hd:Dj F X) (hA:RoomF k A fe X) (S:St C fz led (Un F X) G s)
  (h:WE C led fe vs k (eval iter fe.env) λd led1=>∃(items:List D) (Iv:Nat→aD→aF→List D→Prop),(∀Y,IterOfT C Y led1 target d items)∧(∃vs0,Sub vs0 (qH scope vs)∧Iv 0 vs0 (sC led1 d) []) ∧
   (∀L cs Da i x vs2 led2 acc2,items[i]?=some x→Iv i vs2 led2 acc2→WU C led2 (dJ scope L cs fe) vs2 k (PySem.assign target (dJ scope L cs fe).env) x λvs3 led3 =>
    WB C led3 (dJ scope L cs fe) vs3 k (fG ifs (dJ scope L cs fe).env) λok led4 =>
     (ok=true→WC C led4 (dJ scope L cs fe) vs3 k Da acc2 (fF elt (⟨target,iter,ifs,0⟩::rest) scope pos 0 (.ref Da) (dJ scope L cs fe).env) λvs5 led5 acc5=>∃vs6,Sub vs6 vs5∧Iv (i+1) vs6 led5 acc5) ∧
     (ok=false→∃vs6,Sub vs6 vs3∧Iv (i+1) vs6 led4 acc2)) ∧
   (∀vs2 led2 acc2 L Fc Da fz2 G2 s2,Iv items.length vs2 led2 acc2→FzLe fz fz2→GExt G G2→(∃m,Fc L=some (.ns m))→Dj Fc (Un F X)→Den fz2 (.ref Da) (.lst acc2)→St C fz2 led2 (Un Fc (Un F X)) G2 s2 →
    compPost (model C.prog C.w) A No use Qv (.ref Da) L (.ok .next) s2))
  (hn:∀g,rest[0]?=some g→g.is_async=0) (hs:∀x,foldedSetIterable iter fe.env x=pure x) :
  wpAny (model C.prog C.w) A (comprehension (.ListComp elt (⟨target,iter,ifs,0⟩::rest) scope pos) scope fe.env pos2 (newList []) false (eval iter fe.env) use) Qv No s:=by
 have hk':∀p∈scope.names,p.2=.free→fe.env.kindOf p.1≠some .local:=λp hp hf q=>by
  have:=List.all_eq_true.mp hk p hp;rw[hf,q]at this;simp at this
 refine cZ (uJ hF hnames hfree hk') λcl hcl cl1 cl2=>?_
 refine wpAny_comprehension_free (use:=use) rfl hs hcl hkind (λx hx hl=>by erw[← hl];exact beq_iff_eq.mp (List.all_eq_true.mp hnames x hx)) ?_;refine aW (h F X hF hd A fz G s hA S) λv1 s1 fz1 G1 d1 led1 l1 g1 e1 S1 h1=>?_
 (refine aDG h1 λitems Iv hit o1 step done=>?_;clear h1;refine aL o1 λvs0 hsub hI0=>?_;clear o1)
 refine wpAny_mono (hit _ A fz1 G1 s1 v1 (hA.r.mono (Nat.zero_le _)) S1 e1) (λit s2 p=>?_) λ_ _ x=>x.elim
 obtain ⟨fz2,Ia,wr,R,St₀,rfl,l2,itr,hR,hdR,hst,S2⟩:=p;refine wpAny_newList ?_ (by decide);have ha:s2.heap.get? s2.heap.objs.size=none:=aO _ (Nat.le_refl _);have hx_2:=S2.fresh ha;have hla:=hx_2.1;have hYa:=hx_2.2;have hRD:R s2.heap.objs.size=none:=(Un_none.mp hYa).1;have hXD:(Un F X) s2.heap.objs.size=none:=(Un_none.mp hYa).2;have keep:∀b o,s2.heap.get? b=some o→(s2.heap.push { cls:=.type "list",data:=.seq ([]:List Value).toArray }).get? b=some o:=λb o e=>Heap.get?_push_of_some _ e
 have S3:St C fz2 (sC led1 d1) (upd (Un R (Un F X)) s2.heap.objs.size (.list [])) G1 { s2 with heap:=s2.heap.push { cls:=.type "list",data:=.seq ([]:List Value).toArray } }:=by
  obtain ⟨q,_⟩:=(show St C fz2 (sC led1 d1) (Un emp (Un R (Un F X))) G1 s2 from by erw[oG];exact S2).newF (wZ _) (a:=s2.heap.objs.size) ha (m:=.list []) (h':=s2.heap.push { cls:=.type "list",data:=.seq ([]:List Value).toArray }) s2.toks keep
   ⟨[],0,Heap.get?_push_size _ rfl,.nil⟩
  rw[cX,oG]at q;exact q
 rw[← cO _ _ _ _ hRD]at S3
 have hdR3:Dj R (upd (Un F X) s2.heap.objs.size (.list [])):=λa=>by
  by_cases hx:a=s2.heap.objs.size
  ·subst hx;exact .inl hRD
  ·erw[aG _ _ hx];exact hdR a
 have hYup:∀a m,(Un F X) a=some (.ns m)→(Un R (upd (Un F X) s2.heap.objs.size (.list []))) a=some (.ns m):=λa m e=>by
  erw[aE ((hdR a).resolve_right (by erw[e];exact Option.some_ne_none _)),aG _ _ (λz=>by subst z;(first|exact (aH (hXD ..) e).elim|cases aJ (hXD ..) e|(rw[hXD]at e;cases e)))];exact e
 -- the frame
 have hclo:CloOk cl (Un R (upd (Un F X) s2.heap.objs.size (.list []))) (qH scope vs):={
  al:=λx c e=>by
   have hx_3:=cl1 x c e;have q1:=hx_3.1;have q2:=hx_3.2;have h1:=List.all_eq_true.mp hfree (x,.free) (mem_of_lookup q2);simp only[bne_self_eq_false,Bool.false_or,List.any_eq_true,beq_iff_eq]at h1;refine aN (kF h1) λd e'=>?_
   refine aL (hF.cel x d e' (hk' (x,.free) (mem_of_lookup q2) rfl)) λc' w1 w2=>?_
   (first|exact (aH (q1 ..) w1).elim|cases aJ (q1 ..) w1|(rw[q1]at w1;cases w1))
   refine⟨some d,?_⟩;erw[aE ((hdR c).resolve_right (by erw[w2];exact Option.some_ne_none _)),aG _ _ (λz=>by subst z;(first|exact (aH (hXD ..) w2).elim|cases aJ (hXD ..) w2|(rw[hXD]at w2;cases w2)))];exact w2
  inj:=λx y c e1 e2=>hF.inj x y c (cl1 x c e1).1 (cl1 y c e2).1
  fv:=λx d e=>by
   have hx_6:=gC e;have q1:=hx_6.1;have q2:=hx_6.2;refine aL (hF.cel x d q1 (hk' (x,.free) (mem_of_lookup q2) rfl)) λc w1 w2=>?_
   refine⟨c,by erw[cl2 x q2];exact w1,?_⟩
   erw[aE ((hdR c).resolve_right (by erw[w2];exact Option.some_ne_none _)),aG _ _ (λz=>by subst z;(first|exact (aH (hXD ..) w2).elim|cases aJ (hXD ..) w2|(rw[hXD]at w2;cases w2)))];exact w2 }
 erw[hF.glob]
 refine wpAny_mono (zG (ns:=[]) (vals:=[]) (ds:=[]) (bi:=builtinsNs) (Q:=λcenv s₄=>codeAny (model C.prog C.w) A (.compStart (.ListComp elt (⟨target,iter,ifs,0⟩::rest) scope pos) 0 (.ref Ia) (.ref s2.heap.objs.size) { cenv with scope:=relabel scope fe.env })
   (compPost (model C.prog C.w) A No use Qv (.ref s2.heap.objs.size) cenv.locals) s₄) (((hA.y hF hd).mono (Nat.zero_le _)).upY hYup) hkind hclo .nil S3 hF.blt (λx hx=>absurd hx List.not_mem_nil) (λx d e=>?_) λL cs fz4 G4 Fc s4 l4 g4 hcs hFc hdc S4=>?_) (λ_ _ x=>x) λ_ _ x=>x
 ·have hx_8:=gC e;have q:=hx_8.2;exact⟨(by erw[q];intro z;(have e2:=Option.some.inj z;clear z;exfalso;injection e2)),aAy hnames q⟩
 ·have henv:({ newEnv scope L mainGlobals cs fe.env.qual none .none (some fe.env) builtinsNs with scope:=relabel scope fe.env }:Env)=(dJ scope L cs fe).env:=by
   unfold dJ compEnvC;erw[hF.glob];rfl
  have hFc':FOk (dJ scope L cs fe) (qH scope vs) Fc (Un R (upd (Un F X) s2.heap.objs.size (.list []))):=by
   have:=hFc.relabel (env₀:=fe.env);unfold dJ;erw[show compEnvC scope cs L fe.env=({ newEnv scope L mainGlobals cs fe.env.qual none .none (some fe.env) builtinsNs with scope:=relabel scope fe.env }:Env) from henv.symm];exact this
  have hFc2:FOk (dJ scope L cs fe) (qH scope vs) Fc (Un F X):=(hFc'.down λc d e=>hR.cell e).down λc d e=>by
   by_cases hx:c=s2.heap.objs.size
   ·subst hx;(first|exact (aH (aA ..) e).elim|cases aJ (aA ..) e|(rw[aA]at e;cases e))
   ·rw[aG _ _ hx]at e;exact e
  refine (?_:codeAny _ A (.compStart _ 0 (.ref Ia) (.ref s2.heap.objs.size) ({ newEnv scope L mainGlobals cs fe.env.qual none .none (some fe.env) builtinsNs with scope:=relabel scope fe.env }:Env)) (compPost (model C.prog C.w) A No use Qv (.ref s2.heap.objs.size) L) s4);erw[henv];have hdc':Dj Fc (upd (Un F X) s2.heap.objs.size (.list [])):=hdc.right;have hdR4:Dj R (Un Fc (upd (Un F X) s2.heap.objs.size (.list []))):=Dj.Un hdc.left.symm hdR3;rw[← hV hdc.left.symm]at S4;have hst4:St₀ 0 s4.heap:=itr.keep (i:=0) (.refl _) l4 hR (λa m e=>aC e) (λa m e=>aC e) S2 S4 hst;refine oP (Da:=s2.heap.objs.size) (F:=Fc) (X:=Un F X) rfl (λg hg=>hn g hg) Iv (step L cs s2.heap.objs.size) ((hA.y hF hd).toF _) (itr.mono l4) (hFc2.sub hsub) hXD hdc' hR hdR4 hst4 S4 hI0 λs5 p=>?_
  obtain ⟨fz5,G5,F5,vs5,led5,acc5,l5,g5,hF5,hd5,S5,q⟩:=p;have hF5D:F5 s2.heap.objs.size=none:=(hd5 s2.heap.objs.size).resolve_right (by erw[aA];exact Option.some_ne_none _);rw[cO _ _ _ _ hF5D]at S5;refine cZ (S5.freeze_out (Un_none.mpr ⟨hF5D,hXD⟩)) λfz6 l6 e6 S6=>?_
  have hd5':Dj F5 (Un F X):=λa=>by
   by_cases hx:a=s2.heap.objs.size
   ·subst hx;exact .inl hF5D
   ·rcases hd5 a with w|w
    ·exact .inl w
    ·rw[aG _ _ hx]at w;exact .inr w
  refine aL hF5.loc λm hm _=>?_
  exact done vs5 led5 acc5 L F5 s2.heap.objs.size fz6 G5 s5 q ((((l1.trans l2).trans l4).trans l5).trans l6) ((g1.trans g4).trans g5) ⟨m,hm⟩ hd5' e6 S6
end
end Sc

namespace Sc
set_option tactic.hygienic false

section
variable {C:Cx} {led:aF} {fe:Fe} {vs:aD} {k:Nat}

structure CompOk (scope:Scope) (vs:aD) (fe:Fe) (iter:Expr):Prop where
 kind:scope.kind=.function
 names:nK scope=true
 free:xD scope vs=true
 hk:(scope.names.all λp=>p.2 != .free || fe.env.kindOf p.1 != some .local)=true
 hs:∀x,foldedSetIterable iter fe.env x=pure x
noncomputable abbrev aF4(I:aD→aF→List D→Prop):aD→aF→List D→Prop:=λvs5 led5 acc5=>∃vs6,Sub vs6 vs5∧I vs6 led5 acc5
noncomputable abbrev aF5(C:Cx)(fe:Fe)(vs3:aD)(k:Nat)(t:Sem Unit)(Da:Addr)(acc2:List D)(I:aD→aF→List D→Prop):Bool→aF→Prop:=λok led4=>(ok=true→WC C led4 fe vs3 k Da acc2 t (aF4 I))∧(ok=false→∃vs6,Sub vs6 vs3∧I vs6 led4 acc2)
noncomputable abbrev KCS(C:Cx)(fe:Fe)(k:Nat)(ifs:List Expr)(t:Sem Unit)(Da:Addr)(acc2:List D)(I:aD→aF→List D→Prop):aD→aF→Prop:=λvs3 led3=>WB C led3 fe vs3 k (fG ifs fe.env) (aF5 C fe vs3 k t Da acc2 I)
noncomputable def uM(C:Cx)(fe:Fe)(k:Nat)(elt target:Expr)(ifs:List Expr)(gens:List Comprehension)(scope:Scope)(pos:Pos)(items:List D)(Iv:Nat→aD→aF→List D→Prop):Prop :=
 ∀L cs Da i x vs2 led2 acc2,items[i]?=some x→Iv i vs2 led2 acc2→WU C led2 (dJ scope L cs fe) vs2 k (PySem.assign target (dJ scope L cs fe).env) x (KCS C (dJ scope L cs fe) k ifs (fF elt gens scope pos 0 (.ref Da) (dJ scope L cs fe).env) Da acc2 (Iv (i+1)))

noncomputable abbrev KLs(Q:D→aF→Prop):List D→aF→Prop:=λds led=>Q (.lst ds) led
noncomputable abbrev KSt(vs:aD)(x:Str)(Q:Fl→aD→aF→Prop):List D→aF→Prop:=λds led=>Q .next (hG vs x (.lst ds)) led
inductive KLCT (C:Cx) (fe:Fe) (vs:aD) (k:Nat) (elt target:Expr) (ifs:List Expr) (gens:List Comprehension) (scope:Scope) (pos:Pos) (R:List D→aF→Prop) (d:D) (led1:aF):Prop
 | mk (items:List D) (Iv:Nat→aD→aF→List D→Prop):(∀Y,IterOfT C Y led1 target d items)→(∃vs0,Sub vs0 (qH scope vs)∧Iv 0 vs0 (sC led1 d) []) →
   uM C fe k elt target ifs gens scope pos items Iv→(∀vs2 led2 acc2,Iv items.length vs2 led2 acc2→R acc2 led2)→KLCT C fe vs k elt target ifs gens scope pos R d led1
inductive KLC (C:Cx) (fe:Fe) (vs:aD) (k:Nat) (elt target:Expr) (ifs:List Expr) (gens:List Comprehension) (scope:Scope) (pos:Pos) (R:List D→aF→Prop) (d:D) (led1:aF):Prop
 | mk (items:List D) (Iv:Nat→aD→aF→List D→Prop):(∀Y,IterOf C Y led1 d items)→(∃vs0,Sub vs0 (qH scope vs)∧Iv 0 vs0 (sC led1 d) []) →
   uM C fe k elt target ifs gens scope pos items Iv→(∀vs2 led2 acc2,Iv items.length vs2 led2 acc2→R acc2 led2)→KLC C fe vs k elt target ifs gens scope pos R d led1
theorem iB
  (h:WE C led fe vs k (eval iter fe.env) (KLCT C fe vs k elt target ifs (⟨target,iter,ifs,0⟩::rest) scope pos (KLs Q)))
  (ok:CompOk scope vs fe iter)
  (hn:∀g,rest[0]?=some g→g.is_async=0) :
  WE C led fe vs k (eval (.ListComp elt (⟨target,iter,ifs,0⟩::rest) scope pos) fe.env) Q:=by
 intro F X hF hd A fz G s hA S;erw[eval_ListComp];refine uK (vs:=vs) (use:=none) ok.kind ok.names ok.free ok.hk hF hd hA S (h.mono λd led1 ⟨items,Iv,a,b,c,e⟩=>⟨items,Iv,a,b,c,λvs2 led2 acc2 L Fc Da fz2 G2 s2 q l2 g2 hm hdc den S2=>?_⟩) hn ok.hs
 (refine aN hm ?_;clear hm;intro m hm)
 refine aL (S2.at (aC hm)) λmv hns _=>?_
 refine⟨mv,hns,λh' hs'=>⟨fz2,G2,.lst acc2,led2,l2,g2,den,S2.lose hdc hm hs',e _ _ _ q⟩⟩

theorem nC
  (h:WE C led fe vs k (eval iter fe.env) (KLCT C fe vs k elt target ifs (⟨target,iter,ifs,0⟩::rest) scope pos (KSt vs x Q)))
  (hx:fe.env.kindOf x=some .local∨(fe.env.kindOf x=some .cell∧x∈fe.ow))
  (hsw:swapsWith (.ListComp elt (⟨target,iter,ifs,0⟩::rest) scope pos) (some (.Name x pos')) pos2.line fe.env=pure true)
  (ok:CompOk scope vs fe iter)
  (hn:∀g,rest[0]?=some g→g.is_async=0) :
  WS C led fe vs k (exec (.Assign [.Name x pos'] (.ListComp elt (⟨target,iter,ifs,0⟩::rest) scope pos) pos2) fe.env) Q:=by
 intro F X hF hd A fz G s hA S;erw[exec_Assign_Name_used _ _ _ _ hsw];refine wpAny_bind (wpAny_standAt (wpAny_bind ?_));refine (?_:wpAny _ A (do let _←comprehension (.ListComp elt (⟨target,iter,ifs,0⟩::rest) scope pos) scope fe.env _ (newList []) false (eval iter fe.env) (some (PySem.assign (.Name x pos') fe.env))) _ _ s)
 refine wpAny_bind (wpAny_mono (uK (vs:=vs) (use:=some (PySem.assign (.Name x pos') fe.env)) (Qv:=λ_ s'=>Psf C fz X fe G Q .next s') ok.kind ok.names ok.free ok.hk hF hd hA S
  (h.mono λd led1 ⟨items,Iv,a,b,c,e⟩=>⟨items,Iv,a,b,c,λvs2 led2 acc2 L Fc Da fz2 G2 s2 q l2 g2 hm hdc den S2=>?_⟩) hn ok.hs) (λ_ s' hq=>wpAny_pure (wpAny_pure hq)) λ_ _ e=>e)
 (refine aN hm ?_;clear hm;intro m hm)
 rw[hV hdc.left]at S2;have up:∀a m',X a=some m'→(Un Fc X) a=some m':=λa m' e=>by erw[aE ((hdc.right a).resolve_right (by erw[e];exact Option.some_ne_none _))];exact e
 have w:WU C led2 fe vs k (PySem.assign (.Name x pos') fe.env) (.lst acc2) λvs' led'=>vs'=hG vs x (.lst acc2)∧led'=led2:=WU.name (oM hx ⟨rfl,rfl⟩)
 refine (?_:wpAny _ A (PySem.assign (.Name x pos') fe.env (.ref Da)) _ _ _);refine eK (w F (Un Fc X) (hF.up up) (Dj.Un hdc.left.symm hd) A fz2 G2 s2 _ (hA.upX λa m e=>up a _ e) S2 den) λs3 fz3 G3 F3 vs3 led3 l3 g3 hF3 hd3 S3 q3=>?_
 (refine cL q3 λo1 o2=>?_;clear q3;subst o1;subst o2)
 rw[← hV hd3.left.symm]at S3;refine aL (S3.at (aC hm)) λmv hns _=>?_
 have hd3':Dj Fc (Un F3 X):=Dj.Un hd3.left.symm hdc.right;refine⟨mv,hns,λh' hs'=>⟨fz3,G3,F3,_,led3,.next,l2.trans l3,g2.trans g3,trivial,?_,hd3.right,S3.lose hd3' hm hs',e _ _ _ q⟩⟩
 have noFc:∀y c d,(hG vs x (.lst acc2)).lookup y=some d→fe.env.kindOf y≠some .local→fe.env.cells.lookup y=some c→Fc c=none:=by
  intro y c d hy hky hc;by_cases hyx:y=x
  ·subst hyx;rcases hx with z|⟨_,z⟩
   ·exact absurd z hky
   ·refine cJ (hF.own y z) λc' dd w1 w2=>?_
    (first|exact (aH (hc ..) w1).elim|cases aJ (hc ..) w1|(rw[hc]at w1;cases w1))
    exact (hdc.left c).resolve_right (by erw[w2];exact Option.some_ne_none _)
  ·rw[dB,if_neg hyx]at hy;refine aL (hF.cel y d hy hky) λc' w1 w2=>?_
   (first|exact (aH (hc ..) w1).elim|cases aJ (hc ..) w1|(rw[hc]at w1;cases w1))
   exact (hdc c).resolve_right (by erw[w2];exact Option.some_ne_none _)
 exact {
  fn:=hF3.fn,glob:=hF3.glob,blt:=hF3.blt,loc:=hF3.loc,own:=hF3.own,inj:=hF3.inj
  cel:=λy d hy hky=>by
   refine aL (hF3.cel y d hy hky) λc a1 a2=>?_
   refine⟨c,a1,?_⟩;cases hf:F3 c with
   | some m'=>rw[aC hf]at a2;erw[aC hf];exact a2
   | none=>rw[aE hf,aE (noFc y c d hy hky a1)]at a2;erw[aE hf];exact a2 }

theorem mM
  (h:WE C led fe vs k (eval iter fe.env) (KLC C fe vs k elt target ifs (⟨target,iter,ifs,0⟩::rest) scope pos (KLs Q)))
  (ok:autoParam (CompOk scope vs fe iter) dD)
  (hn:autoParam (∀g,rest[0]?=some g→g.is_async=0) dD) (ht:autoParam (∀it v,letOwnedTupleGo target it v=pure ()) dD) :
  WE C led fe vs k (eval (.ListComp elt (⟨target,iter,ifs,0⟩::rest) scope pos) fe.env) Q :=
 iB (h.mono λd led1 ⟨items,Iv,a,b,c,e⟩=>⟨items,Iv,λY=>(a Y).toT ht,b,c,e⟩) ok hn
/-! tests of a clause -/
theorem sF(h:Q true led):WB C led fe vs k (fG [] fe.env) Q :=
 λF X hF hd A fz G s hA S=>wpAny_tests_nil (Psb.leaf S h)
end
end Sc

namespace Sc
set_option tactic.hygienic false

theorem aDl(h:b.natAbs<2 ^ 64):Builtin.divisionGoesByPylong a b=false:=by
 refine PyProof.noPylong_of_log2 ?_;have h1:=intBits_le h;unfold Builtin.Int.intBits at h1;by_cases hb:b=0
 ·subst hb;decide
 ·have:(b == 0)=false:=by simpa using hb
  rw[this]at h1;simp at h1;omega
noncomputable def isNone:D→Bool
 | .none=>true
 | _=>false

section
variable {C:Cx} {Y led:aF} {k:Nat} {a b:Int} {Q:D→aF→Prop}

theorem cK(h:∀A fz G s t u,Room k A→St C fz led Y G s→wpAny (model C.prog C.w) A (f (.int a t) (.int b u)) (Pst C fz Y G Q) No s):Op2 C Y led k f (.int a) (.int b) Q:=λA fz G s v u hA S e1 e2 =>
 by induction e1 using bG;induction e2 using bG;exact h _ _ _ _ _ _ hA S
theorem Op2.add(h:Q (.int (a+b)) led):Op2 C Y led k (binaryOp .Add) (.int a) (.int b) Q:=cK λA fz G s t u hA S=>PyProof.Rows.add_int (Pst.leaf (S.tok _) (.int ..) h)
theorem Op2.sub(h:Q (.int (a - b)) led):Op2 C Y led k (binaryOp .Sub) (.int a) (.int b) Q:=cK λA fz G s t u hA S=>PyProof.Rows.sub_int (Pst.leaf (S.tok _) (.int ..) h)
theorem Op2.mul(h:Q (.int (a*b)) led)(hs:a.natAbs<2 ^ 64∨b.natAbs<2 ^ 64):Op2 C Y led k (binaryOp .Mult) (.int a) (.int b) Q:=cK λA fz G s t u hA S=>PyProof.Rows.mul_int (Pst.leaf (S.tok _) (.int ..) h) (hs.elim (λz=>.of_left (intBits_le z)) λz=>.of_right (intBits_le z))
theorem OpY.mul(h:Q (.int (a*b)) led)(hs:a.natAbs<2 ^ 64∨b.natAbs<2 ^ 64):∀Y,Op2 C Y led k (binaryOp .Mult) (.int a) (.int b) Q:=λ_=>Op2.mul h hs
theorem Op2.fdiv(hb:b≠0)(h:Q (.int (a.fdiv b)) led)(hs:b.natAbs<2 ^ 64):Op2 C Y led k (binaryOp .FloorDiv) (.int a) (.int b) Q:=cK λA fz G s t u hA S=>PyProof.Rows.floordiv_int hb (Pst.leaf (S.tok _) (.int ..) h) (Or.inl (aDl hs))
theorem OpY.fdiv(hb:b≠0)(h:Q (.int (a.fdiv b)) led)(hs:b.natAbs<2 ^ 64):∀Y,Op2 C Y led k (binaryOp .FloorDiv) (.int a) (.int b) Q:=λ_=>Op2.fdiv hb h hs
theorem Op2.mod(hb:b≠0)(h:Q (.int (a.fmod b)) led):Op2 C Y led k (binaryOp .Mod) (.int a) (.int b) Q:=cK λA fz G s t u hA S=>PyProof.Rows.mod_int' hb (Pst.leaf (S.tok _) (.int ..) h)
theorem OpY.mod(hb:b≠0)(h:Q (.int (a.fmod b)) led):∀Y,Op2 C Y led k (binaryOp .Mod) (.int a) (.int b) Q:=λ_=>Op2.mod hb h
theorem Op2.pow(hb:0≤b)(hb2:b≤1000000)(ha:a.natAbs<2 ^ 64)(h:Q (.int (a ^ b.toNat)) led):Op2 C Y led k (binaryOp .Pow) (.int a) (.int b) Q:=cK λA fz G s t u hA S=>PyProof.Rows.pow_int_small hb hb2 ha (Pst.leaf (S.tok _) (.int ..) h)
theorem OpY.pow(hb:0≤b)(hb2:b≤1000000)(ha:a.natAbs<2 ^ 64)(h:Q (.int (a ^ b.toNat)) led):∀Y,Op2 C Y led k (binaryOp .Pow) (.int a) (.int b) Q:=λ_=>Op2.pow hb hb2 ha h
theorem Op2.shl(hb:0≤b)(hb2:b≤1000000)(ha:a.natAbs<2 ^ 64)(h:Q (.int (a*2 ^ b.toNat)) led):Op2 C Y led k (binaryOp .LShift) (.int a) (.int b) Q:=cK λA fz G s t u hA S=>PyProof.Rows.lshift_int_small hb hb2 ha (Pst.leaf (S.tok _) (.int ..) h)
theorem OpY.shl(hb:0≤b)(hb2:b≤1000000)(ha:a.natAbs<2 ^ 64)(h:Q (.int (a*2 ^ b.toNat)) led):∀Y,Op2 C Y led k (binaryOp .LShift) (.int a) (.int b) Q:=λ_=>Op2.shl hb hb2 ha h
theorem Op2.shr(hb:0≤b)(h:Q (.int (a.fdiv (2 ^ b.toNat))) led):Op2 C Y led k (binaryOp .RShift) (.int a) (.int b) Q:=cK λA fz G s t u hA S=>PyProof.Rows.rshift_int hb (Pst.leaf (S.tok _) (.int ..) h)
theorem OpY.shr(hb:0≤b)(h:Q (.int (a.fdiv (2 ^ b.toNat))) led):∀Y,Op2 C Y led k (binaryOp .RShift) (.int a) (.int b) Q:=λ_=>Op2.shr hb h
theorem Op2.xor(h:Q (.int (Builtin.bitXor a b)) led):Op2 C Y led k (binaryOp .BitXor) (.int a) (.int b) Q:=cK λA fz G s t u hA S=>PyProof.Rows.xor_int (Pst.leaf (S.tok _) (.int ..) h)
theorem Op1.neg(h:Q (.int (-a)) led):Op1 C Y led k (unaryOp .USub) (.int a) Q:=λA fz G s v hA S e1=>by induction e1 using bG;exact PyProof.Rows.neg_int (Pst.leaf (S.tok _) (.int ..) h)
theorem Op1.inv(h:Q (.int (-a - 1)) led):Op1 C Y led k (unaryOp .Invert) (.int a) Q:=λA fz G s v hA S e1=>by induction e1 using bG;exact PyProof.Rows.invert_int (Pst.leaf (S.tok _) (.int ..) h)
/-! in place -/
theorem Op2.iadd(h:Q (.int (a+b)) led):Op2 C Y led k (inplaceOp .Add) (.int a) (.int b) Q:=cK λA fz G s t u hA S=>PyProof.Rows.iadd_int (Pst.leaf (S.tok _) (.int ..) h)
/-! comparisons -/
theorem Op2.lt(h:Q (.bool (decide (a<b))) led):Op2 C Y led k (compareOp .Lt) (.int a) (.int b) Q:=cK λA fz G s t u hA S=>PyProof.Rows.lt_int (Pst.leaf S (.bool _) h)
theorem Op2.le(h:Q (.bool (decide (a≤b))) led):Op2 C Y led k (compareOp .LtE) (.int a) (.int b) Q:=cK λA fz G s t u hA S=>PyProof.Rows.le_int (Pst.leaf S (.bool _) h)
theorem Op2.gt(h:Q (.bool (decide (b<a))) led):Op2 C Y led k (compareOp .Gt) (.int a) (.int b) Q:=cK λA fz G s t u hA S=>PyProof.Rows.gt_int (Pst.leaf S (.bool _) h)
theorem Op2.ge(h:Q (.bool (decide (b≤a))) led):Op2 C Y led k (compareOp .GtE) (.int a) (.int b) Q:=cK λA fz G s t u hA S=>PyProof.Rows.ge_int (Pst.leaf S (.bool _) h)
theorem Op2.eqi(h:Q (.bool (a == b)) led):Op2 C Y led k (compareOp .Eq) (.int a) (.int b) Q:=cK λA fz G s t u hA S=>PyProof.Rows.eq_int (Pst.leaf S (.bool _) h)
end
section
variable {C:Cx} {Y led:aF} {k:Nat} {x y:Str} {Q:D→aF→Prop}
theorem uN(h:∀A fz G s t u,Room k A→St C fz led Y G s→wpAny (model C.prog C.w) A (f (.str x t) (.str y u)) (Pst C fz Y G Q) No s):Op2 C Y led k f (.str x) (.str y) Q:=λA fz G s v u hA S e1 e2 =>
 by induction e1 using bH;induction e2 using bH;exact h _ _ _ _ _ _ hA S
theorem Op2.eqs(h:Q (.bool (x == y)) led):Op2 C Y led k (compareOp .Eq) (.str x) (.str y) Q:=uN λA fz G s t u hA S=>PyProof.Rows.eq_str (Pst.leaf S (.bool _) h)
theorem Op2.adds(h:Q (.str (x++y)) led)(hs:x.length+y.length≤10000000):Op2 C Y led k (binaryOp .Add) (.str x) (.str y) Q:=uN λA fz G s t u hA S=>PyProof.Rows.add_str (λt' tk=>Pst.leaf (S.tok _) (.str ..) h) (Nat.le_trans hs (by decide))
theorem OpY.adds(h:Q (.str (x++y)) led)(hs:x.length+y.length≤10000000):∀Y,Op2 C Y led k (binaryOp .Add) (.str x) (.str y) Q:=λ_=>Op2.adds h hs
theorem Op2.is_none(h:Q (.bool (isNone d)) led):Op2 C Y led k (compareOp .Is) d .none Q:=λA fz G s v u hA S e1 e2=>by
 induction e2 using gO;refine PySem.is_none ?_;have e:(v == Value.none)=isNone d:=by cases e1<;>rfl
 erw[e];exact Pst.leaf S (.bool _) h
theorem OpY.is_none(h:Q (.bool (isNone d)) led):∀Y,Op2 C Y led k (compareOp .Is) d .none Q:=λ_=>Op2.is_none h
end
end Sc

namespace Sc
set_option tactic.hygienic false

theorem nD(slice:Expr)(o i:Value):∃ops,subscripted slice false o i=operate ops (getItem o i):=by
 cases slice with
 | Slice _ _ c _=>cases c<;>exact⟨_,rfl⟩
 | _=>exact⟨_,rfl⟩
theorem fW{prog:Program}{w:World}{E:Value→Shared→Prop}{value slice:Expr}{o i:Value}{T id:String}{Q:Value→Shared→Prop}(hT:s.TypeIs o T)
  (hl:typeLookup (.type T) "__getitem__"=pure (some (.builtin id))) (h:wpAny (model prog w) A (getItem o i) Q E s):wpAny (model prog w) A (subscriptTail value slice o i) Q E s :=
 let ⟨ops,e⟩:=nD slice o i;tail_any hT hl h e

noncomputable def SubW(C:Cx)(Y led:aF)(value slice:Expr)(d i:D)(Q:D→aF→Prop):Prop :=
 ∀A fz G s v u,Room 0 A→St C fz led Y G s→Den fz v d→Den fz u i→wpAny (model C.prog C.w) A (subscriptTail value slice v u) (Pst C fz Y G Q) No s
noncomputable def aEH:Option Int→D
 | none=>.none
 | some i=>.int i
theorem Den.part(h:Den fz v (aEH p)):IsPart v p:=by
 cases p with
 | none=>induction h using gO;exact .none
 | some i=>induction h using bG;exact .int i _

noncomputable def iW(xs:List D)(lo hi st:Option Int):List D :=
 (sliceRange (sliceBounds lo hi st xs.length).1 (sliceBounds lo hi st xs.length).2.1 (sliceBounds lo hi st xs.length).2.2).filterMap (xs[·]?)
theorem Dens.places{f:Fz}{vs:List Value}{ds:List D}(h:Dens f vs ds):∀l:List Nat,Dens f (l.filterMap (vs[·]?)) (l.filterMap (ds[·]?))
 | []=>.nil
 | i::l=>by
  rw[List.filterMap_cons,List.filterMap_cons];cases hv:vs[i]? with
  | none =>
   have:ds[i]?=none:=by
    cases hd:ds[i]? with
    | none=>rfl
    | some d=>refine aL (h.get hd) λv e _=>?_;(first|exact (aH (hv ..) e).elim|cases aJ (hv ..) e|(rw[hv]at e;cases e))
   rw[this];exact h.places l
  | some v =>
   refine aL (h.get' hv) λd e x=>?_
   rw[e];exact .cons x (h.places l)
theorem Dens.pick(h:Dens f vs ds)(lo hi st:Option Int):Dens f (slicePick vs.toArray lo hi st).toList (iW ds lo hi st):=by
 have e:(slicePick vs.toArray lo hi st).toList=(sliceRange (sliceBounds lo hi st ds.length).1 (sliceBounds lo hi st ds.length).2.1 (sliceBounds lo hi st ds.length).2.2).filterMap (vs[·]?):=by
  simp[slicePick,h.length]
 erw[e];exact h.places _

noncomputable abbrev aEI(C:Cx)(k:Nat)(value slice:Expr)(Q:D→aF→Prop)(d:D):D→aF→Prop:=λi led2=>∀Y,SubW C Y led2 value slice d i Q
noncomputable abbrev aF7(C:Cx)(fe:Fe)(vs:aD)(k:Nat)(value slice:Expr)(Q:D→aF→Prop):D→aF→Prop:=λd led1=>WE C led1 fe vs k (eval slice fe.env) (aEI C k value slice Q d)
section
variable {C:Cx} {led:aF} {fe:Fe} {vs:aD} {k:Nat}

theorem aCw
  (h:WE C led fe vs k (eval value fe.env) (aF7 C fe vs k value slice Q)):WE C led fe vs k (eval (.Subscript value slice pos) fe.env) Q:=by
 intro F X hF hd A fz G s hA S;refine PyProof.Rows.Subscript_ (aW (h F X hF hd A fz G s hA S) λv1 s1 fz1 G1 d1 led1 l1 g1 e1 S1 h1=>?_);refine aW (h1 F X hF hd A fz1 G1 s1 hA S1) λv2 s2 fz2 G2 d2 led2 l2 g2 e2 S2 h2=>?_
 exact fin (h2 _ A fz2 G2 s2 v1 v2 (hA.r.mono (Nat.zero_le _)) S2 (e1.mono l2) e2) (l1.trans l2) (g1.trans g2)

noncomputable def SliceW(C:Cx)(Y led:aF)(d:D)(lo hi st:Option Int)(Q:D→aF→Prop):Prop :=
 ∀A fz G s v sl vl vu vk,Room 0 A→St C fz led Y G s→Den fz v d→s.heap.IsSliceOf sl vl vu vk→IsPart vl lo→IsPart vu hi→IsPart vk st→∀value slice,wpAny (model C.prog C.w) A (subscriptTail value slice v (.ref sl)) (Pst C fz Y G Q) No s
noncomputable def WP(C:Cx)(led:aF)(fe:Fe)(vs:aD)(k:Nat)(o:Option Expr)(Q:Option Int→aF→Prop):Prop :=
 WE C led fe vs k (evalPart o fe.env) λd led1=>∃p,d=aEH p∧Q p led1
inductive KPart (Q:Option Int→aF→Prop) (d:D) (led1:aF):Prop
 | mk (i:Int):d=.int i→Q (Option.some i) led1→KPart Q d led1
noncomputable abbrev aF8(C:Cx)(k:Nat)(Q:D→aF→Prop)(d:D)(l u:Option Int):Option Int→aF→Prop:=λs led4=>∀Y,SliceW C Y led4 d l u s Q
noncomputable abbrev aF9(C:Cx)(fe:Fe)(vs:aD)(k:Nat)(st:Option Expr)(Q:D→aF→Prop)(d:D)(l:Option Int):Option Int→aF→Prop:=λu led3=>WP C led3 fe vs k st (aF8 C k Q d l u)
noncomputable abbrev aGa(C:Cx)(fe:Fe)(vs:aD)(k:Nat)(hi st:Option Expr)(Q:D→aF→Prop)(d:D):Option Int→aF→Prop:=λl led2=>WP C led2 fe vs k hi (aF9 C fe vs k st Q d l)
noncomputable abbrev aGb(C:Cx)(fe:Fe)(vs:aD)(k:Nat)(lo hi st:Option Expr)(Q:D→aF→Prop):D→aF→Prop:=λd led1=>WP C led1 fe vs k lo (aGa C fe vs k hi st Q d)
theorem WP.none(h:Q Option.none led):WP C led fe vs k Option.none Q :=
 λF X hF hd A fz G s hA S=>wpAny_pure (Pst.leaf S .none ⟨_,rfl,h⟩)
theorem WP.some(h:WE C led fe vs k (eval e fe.env) (KPart Q)):WP C led fe vs k (Option.some e) Q :=
 WE.mono h λd led ⟨i,e,q⟩=>⟨Option.some i,e,q⟩
theorem WE.slice{value:Expr}{lo hi st:Option Expr}{p pos:Pos}{Q:D→aF→Prop}
  (h:WE C led fe vs k (eval value fe.env) (aGb C fe vs k lo hi st Q)) :
  WE C led fe vs k (eval (.Subscript value (.Slice lo hi st p) pos) fe.env) Q:=by
 intro F X hF hd A fz G s hA S;refine PyProof.Rows.Subscript_ (aW (h F X hF hd A fz G s hA S) λv1 s1 fz1 G1 d1 led1 l1 g1 e1 S1 h1=>?_);refine wpAny_Slice (aW (h1 F X hF hd A fz1 G1 s1 hA S1) λv2 s2 fz2 G2 d2 led2 l2 g2 e2 S2 h2=>?_)
 (refine aL h2 ?_;clear h2;intro pl o1 h2;subst o1)
 refine aW (h2 F X hF hd A fz2 G2 s2 hA S2) λv3 s3 fz3 G3 d3 led3 l3 g3 e3 S3 h3=>?_
 (refine aL h3 ?_;clear h3;intro pu o1 h3;subst o1)
 refine aW (h3 F X hF hd A fz3 G3 s3 hA S3) λv4 s4 fz4 G4 d4 led4 l4 g4 e4 S4 h4=>?_
 (refine aL h4 ?_;clear h4;intro pk o1 h4;subst o1)
 have S5:=S4.ext s4.toks (h':=s4.heap.push { cls:=.type "slice",data:=.fields #[v2,v3,v4] }) (λb o e=>Heap.get?_push_of_some _ e);exact fin (h4 _ A fz4 G4 _ v1 _ v2 v3 v4 (hA.r.mono (Nat.zero_le _)) S5 (((e1.mono l2).mono l3).mono l4) (Heap.IsSliceOf.new ..) e2.part e3.part e4.part _ _) (((l1.trans l2).trans l3).trans l4) (((g1.trans g2).trans g3).trans g4)
end

section
variable {C:Cx} {Y led:aF} {value slice:Expr} {Q:D→aF→Prop}

theorem St.frozenList(S:St C fz led Y G s)(e:Den fz v (.lst xs)):∃a vs n,v=.ref a∧s.heap.get? a=some (fT vs.toArray n)∧Dens fz vs xs:=by
 cases e with|lst e1 e2=>exact⟨_,_,_,rfl,S.rel.fzIn _ _ e1,e2⟩
theorem St.frozenTup(S:St C fz led Y G s)(e:Den fz v (.tup xs)):∃a vs n o,v=.ref a∧s.heap.get? a=some o∧o.cls=.type "tuple"∧o.data=.seq (List.toArray vs) n∧Dens fz vs xs:=by
 cases e with|tup e1 hc hd e2=>exact⟨_,_,_,_,rfl,S.rel.fzIn _ _ e1,hc,hd,e2⟩

theorem SubW.lst(h0:0≤i)(hi:i<2 ^ 63)(hx:xs[i.toNat]?=some d)(h:Q d led):SubW C Y led value slice (.lst xs) (.int i) Q:=by
 intro A fz G s v u hA S e1 e2
 (refine dT (S.frozenList e1) λa vs n o1 hg hd=>?_;subst o1)
 induction e2 using bG;refine aL (hd.get hx) λy hy ey=>?_
 have hl:s.heap.IsList a vs.toArray:=⟨_,hg,rfl,n,rfl⟩;exact fW hl.typeIs list_getitem_lookup (wpAny_getItem_list hl h0 hi (by simpa using hy) (Pst.leaf S ey h))
theorem SuY.lst(h0:0≤i)(hi:i<2 ^ 63)(hx:xs[i.toNat]?=some d)(h:Q d led):∀Y,SubW C Y led value slice (.lst xs) (.int i) Q:=λ_=>SubW.lst h0 hi hx h
theorem SubW.lst_neg(h0:i<0)(h1:-(xs.length:Int)≤i)(hl':xs.length<2 ^ 62)(hx:xs[(i+xs.length).toNat]?=some d)(h:Q d led):SubW C Y led value slice (.lst xs) (.int i) Q:=by
 intro A fz G s v u hA S e1 e2
 (refine dT (S.frozenList e1) λa vs n o1 hg hd=>?_;subst o1)
 induction e2 using bG;refine aL (hd.get hx) λy hy ey=>?_
 have hl:s.heap.IsList a vs.toArray:=⟨_,hg,rfl,n,rfl⟩;refine fW hl.typeIs list_getitem_lookup (wpAny_getItem_list_neg hl h0 (by simpa [hd.length] using h1) (nB [.ile (.g (.c .p0)) .p0,.lt .p0 (.k 4611686018427387904)] (.ile (.g (.k 9223372036854775808)) .p0) aB h1 hl') (x:=y) ?_ (Pst.leaf S ey h));simp only[List.size_toArray,hd.length,List.getElem?_toArray];exact hy
theorem SuY.lst_neg(h0:i<0)(h1:-(xs.length:Int)≤i)(hl':xs.length<2 ^ 62)(hx:xs[(i+xs.length).toNat]?=some d)(h:Q d led):∀Y,SubW C Y led value slice (.lst xs) (.int i) Q:=λ_=>SubW.lst_neg h0 h1 hl' hx h
theorem SubW.ref_neg(ha:led a=some (.list xs))(h0:i<0)(h1:-(xs.length:Int)≤i)(hl':xs.length<2 ^ 62)(hx:xs[(i+xs.length).toNat]?=some d)(h:Q d led):SubW C Y led value slice (.ref a) (.int i) Q:=by
 intro A fz G s v u hA S e1 e2;induction e1 using aT;refine cJ (S.atL ha) λvs n hg hd=>?_
 induction e2 using bG;refine aL (hd.get hx) λy hy ey=>?_
 have hl:s.heap.IsList a vs.toArray:=⟨_,hg,rfl,n,rfl⟩;refine fW hl.typeIs list_getitem_lookup (wpAny_getItem_list_neg hl h0 (by simpa [hd.length] using h1) (nB [.ile (.g (.c .p0)) .p0,.lt .p0 (.k 4611686018427387904)] (.ile (.g (.k 9223372036854775808)) .p0) aB h1 hl') (x:=y) ?_ (Pst.leaf S ey h));simp only[List.size_toArray,hd.length,List.getElem?_toArray];exact hy
theorem SuY.ref_neg(ha:led a=some (.list xs))(h0:i<0)(h1:-(xs.length:Int)≤i)(hl':xs.length<2 ^ 62)(hx:xs[(i+xs.length).toNat]?=some d)(h:Q d led):∀Y,SubW C Y led value slice (.ref a) (.int i) Q:=λ_=>SubW.ref_neg ha h0 h1 hl' hx h
theorem aBq(h0:0≤i)(h:i.toNat<n):seqIndex? i n=some i.toNat:=by
 have hn:¬i<0:=Int.not_lt_of_ge h0;have h2:i<(n:Int):=(Int.toNat_lt h0).mp h;exact seqIndex_of h0 h2
theorem SubW.str(h0:0≤i)(hi:i<2 ^ 63)(hx:x.cps[i.toNat]?=some c)(h:Q (.str ⟨#[c]⟩) led):SubW C Y led value slice (.str x) (.int i) Q:=by
 intro A fz G s v u hA S e1 e2;induction e1 using bH;induction e2 using bG;refine fW (typeIs_str s x _) F.slot_str_getitem.lookup (P.getItem_str (c:=c) ?_ ?_ (Pst.leaf (S.tok _) (.str ..) h))
 ·simp;exact⟨(qE [.ile (.k 0) .p0] (.ile (.g (.k 9223372036854775808)) .p0) aB h0),(qE [.ilt .p0 (.k 9223372036854775808)] (.ilt .p0 (.k 9223372036854775808)) aB hi)⟩
 ·erw[aBq (n:=x.length) h0 (Array.getElem?_eq_some_iff.mp hx).1];exact hx

theorem SuY.str(h0:0≤i)(hi:i<2 ^ 63)(hx:x.cps[i.toNat]?=some c)(h:Q (.str ⟨#[c]⟩) led):∀Y,SubW C Y led value slice (.str x) (.int i) Q:=λ_=>SubW.str h0 hi hx h
/-! slices -/
theorem SliceW.lst{xs:List D}{lo hi st:Option Int}(hst:st≠some 0)(hl:xs.length≤1000000)(h:Q (.lst (iW xs lo hi st)) led):SliceW C Y led (.lst xs) lo hi st Q:=by
 intro A fz G s v sl vl vu vk hA S e1 hs pl pu pk value slice
 (refine dT (S.frozenList e1) λa vs n o1 hg hd=>?_;subst o1)
 have hL:s.heap.IsList a vs.toArray:=⟨_,hg,rfl,n,rfl⟩;have ha:=aO s.heap (Nat.le_refl _);have hz:=S.rel.freshF ha;have hle:=hd.length;have hp:=hd.pick lo hi st;refine fW hL.typeIs list_getitem_lookup (wpAny_getItem_list_slice hL hs pl pu pk hst ?_ (by erw[List.size_toArray,hle];exact Nat.le_trans hl (by decide)))
 refine⟨_,G,.lst _,led,bI hz,.refl _,.lst (vs:=(slicePick vs.toArray lo hi st).toList) (n:=0) (by erw[Array.toArray_toList];exact cA ..) (hp.mono (bI hz)),
  ⟨S.dj,S.rel.allocF ha s.toks (λb o e=>Heap.get?_push_of_some _ e) (Heap.get?_push_size _ rfl)⟩,h⟩
theorem SlY.lst{xs:List D}{lo hi st:Option Int}(hst:st≠some 0)(hl:xs.length≤1000000)(h:Q (.lst (iW xs lo hi st)) led):∀Y,SliceW C Y led (.lst xs) lo hi st Q:=λ_=>SliceW.lst hst hl h
theorem mO(h:IsPart v p):∃q:Option (Int×Tok),q.map (·.1)=p∧partValue q=v:=by
 cases h with
 | none=>exact⟨none,rfl,rfl⟩
 | int i t=>exact⟨some (i,t),rfl,rfl⟩
theorem SliceW.str{x:Str}{lo hi:Option Int}(hl:x.length≤10000000)(h:Q (.str (Txt.slice x lo hi)) led):SliceW C Y led (.str x) lo hi none Q:=by
 intro A fz G s v sl vl vu vk hA S e1 hs pl pu pk value slice;induction e1 using bH
 (refine aL (mO pl) λl o1 o2=>?_;subst o1;subst o2)
 (refine aL (mO pu) λu o1 o2=>?_;subst o1;subst o2)
 cases pk;refine fW (typeIs_str s x _) F.slot_str_getitem.lookup (wpAny_getItem_str_slice (l:=l) (u:=u) (st:=none) (a:=sl) hs rfl (post_val_or_str ⟨Nat.le_trans (Txt.slice_le x _ _) (Nat.le_trans hl (by decide)),λt' k=>Pst.leaf (S.tok _) (.str ..) h⟩))
theorem SlY.str{x:Str}{lo hi:Option Int}(hl:x.length≤10000000)(h:Q (.str (Txt.slice x lo hi)) led):∀Y,SliceW C Y led (.str x) lo hi none Q:=λ_=>SliceW.str hl h
end
end Sc

namespace Sc
set_option tactic.hygienic false

theorem iX(xs:List Int):∀n,n≤xs.length→preSum (λi=>xs.getD i 0) n=(xs.take n).sum
 | 0,_=>by simp[preSum]
 | n+1,h=>by
  have e:xs.take (n+1)=xs.take n++[xs[n]]:=by rw[List.take_add_one,List.getElem?_eq_getElem (by exact Nat.lt_of_succ_le h)];rfl
  have e2:xs.getD n 0=xs[n]:=by rw[List.getD_eq_getElem?_getD,List.getElem?_eq_getElem (by exact Nat.lt_of_succ_le h)];rfl
  rw[preSum,iX xs n (by exact Nat.le_of_succ_le h),e,List.sum_append];show _+xs.getD n 0=_
  rw[e2];simp

section
variable {C:Cx} {Y led:aF} {k:Nat} {Q:D→aF→Prop}

theorem CallW.len_lst(hl:xs.length<2 ^ 62)(h:Q (.int xs.length) led):CallW C Y led k (.blt "len") [.lst xs] Q:=by
 intro A fz G s fv vs hA S e1 e2;induction e1 using bX;induction e2 using dZ with|k _ x =>
 (refine dT (S.frozenList x) λa us n o1 hg hd=>?_;subst o1)
 have hsz:us.toArray.size=xs.length:=by simp[hd.length]
 refine Calls.call_len_list (items:=us.toArray) ⟨_,hg,rfl,n,rfl⟩ (by erw[hsz];exact lO hl aB) ?_;erw[hsz];exact Pst.leaf (S.tok _) (.int ..) h
theorem KcY.len_lst(hl:xs.length<2 ^ 62)(h:Q (.int xs.length) led):∀Y,KCal C Y led k (.blt "len") [.lst xs] Q:=λ_=>⟨KeepOk.blt _,CallW.len_lst hl h⟩
theorem CallW.len_ref(ha:led a=some (.list xs))(hl:xs.length<2 ^ 62)(h:Q (.int xs.length) led):CallW C Y led k (.blt "len") [.ref a] Q:=by
 intro A fz G s fv vs hA S e1 e2;induction e1 using bX;induction e2 using dZ with|k _ x =>
 induction x using aT;refine cJ (S.atL ha) λus n hg hd=>?_
 have hsz:us.toArray.size=xs.length:=by simp[hd.length]
 refine Calls.call_len_list (items:=us.toArray) ⟨_,hg,rfl,n,rfl⟩ (by erw[hsz];exact lO hl aB) ?_;erw[hsz];exact Pst.leaf (S.tok _) (.int ..) h
theorem KcY.len_ref(ha:led a=some (.list xs))(hl:xs.length<2 ^ 62)(h:Q (.int xs.length) led):∀Y,KCal C Y led k (.blt "len") [.ref a] Q:=λ_=>⟨KeepOk.blt _,CallW.len_ref ha hl h⟩
theorem CallW.len_str(hl:x.length<2 ^ 62)(h:Q (.int x.length) led):CallW C Y led k (.blt "len") [.str x] Q:=by
 intro A fz G s fv vs hA S e1 e2;induction e1 using bX;induction e2 using dZ with|k _ x =>
 induction x using bH;exact P.len_str (Int.not_le.mpr (lO hl aB)) (Pst.leaf (S.tok _) (.int ..) h)
theorem KcY.len_str(hl:x.length<2 ^ 62)(h:Q (.int x.length) led):∀Y,KCal C Y led k (.blt "len") [.str x] Q:=λ_=>⟨KeepOk.blt _,CallW.len_str hl h⟩
theorem CallW.range1(h:Q (.rng 0 n) led):CallW C Y led k (.typ "range") [.int n] Q:=by
 intro A fz G s fv vs hA S e1 e2;induction e1 using fU;induction e2 using dZ with|k _ x =>
 induction x using bG;have ha:=aO s.heap (Nat.le_refl _);have hz:=S.rel.freshF ha;exact call_range_1 ⟨_,G,.rng 0 n,led,bI hz,.refl _,.rng (cA ..),⟨S.dj,S.rel.allocF ha _ (λb o e=>Heap.get?_push_of_some _ e) (Heap.get?_push_size _ rfl)⟩,h⟩
theorem CallW.min2(h:Q (.int (if b<a then b else a)) led):CallW C Y led k (.blt "min") [.int a,.int b] Q:=by
 intro A fz G s fv vs hA S e1 e2;induction e1 using bX;cases e2 with|cons x y=>cases y with|cons x' y'=>cases y' with|nil =>
 induction x using bG;cases x';refine min_two_ints hA.r.1 λh' tk hk=>?_
 split
 ·rename_i hc;rw[if_pos hc]at h;exact Pst.leaf (S.ext _ hk) (.int ..) h
 ·rename_i hc;rw[if_neg hc]at h;exact Pst.leaf (S.ext _ hk) (.int ..) h
theorem KcY.min2(h:Q (.int (if b<a then b else a)) led):∀Y,KCal C Y led k (.blt "min") [.int a,.int b] Q:=λ_=>⟨KeepOk.blt _,CallW.min2 h⟩
theorem sG(hb:b≠0)(hs:b.natAbs<2 ^ 64)(h:Q (.tup [.int (a.fdiv b),.int (a.fmod b)]) led):CallW C Y led k (.blt "divmod") [.int a,.int b] Q:=by
 intro A fz G s fv vs hA S e1 e2;induction e1 using bX;cases e2 with|cons x y=>cases y with|cons x' y'=>cases y' with|nil =>
 induction x using bG;cases x';have ha:=aO s.heap (Nat.le_refl _);have hz:=S.rel.freshF ha;refine PyProof.Rows.divmod_int hb ?_ (Or.inl (aDl hs))
 exact⟨_,G,_,led,bI hz,.refl _,.tup (n:=0) (vs:=[.int (a.fdiv b) s.toks,.int (a.fmod b) (s.toks+1)]) (cA ..) rfl rfl (.cons (.int ..) (.cons (.int ..) .nil)),
  ⟨S.dj,S.rel.allocF ha _ (λb o e=>Heap.get?_push_of_some _ e) (Heap.get?_push_size _ rfl)⟩,h⟩
theorem aBr{vs:List Value}{ns:List Int}(h:Dens fz vs (ns.map .int)){i:Nat}{v:Value}(e:vs[i]?=some v):∃t,v=.int (ns.getD i 0) t:=by
 refine aL (h.get' e) λd q x=>?_
 rw[List.getElem?_map]at q;cases hn:ns[i]? with
 | none=>(first|exact (aH (hn ..) q).elim|cases aJ (hn ..) q|(rw[hn]at q;exact bN q))
 | some z=>(first|exact (aH (hn ..) q).elim|cases aJ (hn ..) q|(rw[hn]at q;(have e1:=Option.some.inj q;clear q;subst e1)));induction x using bG;exact⟨_,by erw[List.getD_eq_getElem?_getD,hn];rfl⟩
noncomputable def zK(ns:List Int):Prop:=(∀n∈ns,InLong n)∧∀j,j≤ns.length→InLong (ns.take j).sum
theorem CallW.sum(hs:zK ns)(h:Q (.int ns.sum) led):CallW C Y led k (.blt "sum") [.lst (ns.map .int)] Q:=by
 intro A fz G s fv vs hA S e1 e2;induction e1 using bX;induction e2 using dZ with|k _ x =>
 (refine dT (S.frozenList x) λa us n o1 hg hd=>?_;subst o1)
 have hlen:us.length=ns.length:=by erw[hd.length,List.length_map]
 have hL:s.heap.IsList a us.toArray:=⟨_,hg,rfl,n,rfl⟩;have hne:a≠s.heap.objs.size:=Nat.ne_of_lt (Heap.lt_size hg)
 refine call_sum_walk (wpAny_pyIter_list hL ⟨s.heap.objs.size,[s.heap.objs.size,a],[s.heap.objs.size],us.toArray.size,_,_,λi=>ns.getD i 0,rfl,Walks.list (A:=A.in1) hA.r.1 s.heap.objs.size a hne us.toArray,
  ⟨⟨_,Heap.get?_push_size _ rfl,rfl,rfl⟩,hL.push _⟩,λb hb=>?_,λi v p=>?_,λj hj=>?_,λh' tk t' hk=>?_⟩)
 ·show b<(s.heap.push _).objs.size
  erw[Heap.size_push];have h2:=Heap.lt_size hg;rcases List.mem_cons.mp hb with rfl|hb
  ·exact Nat.lt_succ_self _
  ·rcases List.mem_cons.mp hb with rfl|hb
   ·exact Nat.lt_succ_of_lt h2
   ·cases hb
 ·exact aBr hd (by simpa using p)
 ·rw[List.size_toArray,hlen]at hj;refine⟨hs.1 _ ?_,?_⟩
  ·show ns.getD j 0∈ns
   erw[List.getD_eq_getElem?_getD,List.getElem?_eq_getElem hj];exact List.getElem_mem hj
  ·erw[iX ns (j+1) (Nat.succ_le_of_lt hj)];exact hs.2 _ (Nat.succ_le_of_lt hj)
 ·erw[List.size_toArray,hlen,iX ns _ (Nat.le_refl _),List.take_length];refine Pst.leaf ?_ (.int ..) h;exact S.ext tk λb o e=>hk b o (by have h2:=Heap.lt_size e;intro hm;rw[List.mem_singleton]at hm;rw[hm]at h2;exact Nat.lt_irrefl _ h2) (Heap.get?_push_of_some _ e)
theorem KcY.sum(hs:zK ns)(h:Q (.int ns.sum) led):∀Y,KCal C Y led k (.blt "sum") [.lst (ns.map .int)] Q:=λ_=>⟨KeepOk.blt _,CallW.sum hs h⟩
end
end Sc

namespace Sc
set_option tactic.hygienic false

noncomputable def GFnF(C:Cx)(a:Addr)(st:Stmt)(fd:FuncData):Prop :=
 (∀Y led,Callable C Y led a fd)∧∃name args body scope pos,st=.FunctionDef name args body [] none [] scope none name pos∧FnIs fd args (.stmts body) scope []
noncomputable def GFn(C:Cx)(a:Addr)(st:Stmt):Prop:=∃fd,GFnF C a st fd
theorem GFnF.is{a:Addr}{st:Stmt}{fd:FuncData}{name name':Str}{args:Arguments}{body:List Stmt}{scope:Scope}{pos:Pos}(h:GFnF C a st fd)(hst:st=.FunctionDef name args body [] none [] scope none name' pos):FnIs fd args (.stmts body) scope []:=by
 obtain ⟨_,_,_,_,_,_,h1,h2⟩:=h
 (first|exact (aH (hst ..) h1).elim|cases aJ (hst ..) h1|(rw[hst]at h1;cases h1))
 exact h2
theorem GFn.keep{a:Addr}{st:Stmt}(h:GFn C a st):KeepOk C Y led (.ref a) :=
 let ⟨_,h,_⟩:=h;KeepOk.fn (h Y led)
theorem CodeW.gfn{k:Nat}{a:Addr}{st:Stmt}{name name':Str}{args:Arguments}{body:List Stmt}{scope:Scope}{pos:Pos}{ds:List D}{Q:D→aF→Prop}(h:GFn C a st)
  (hst:st=.FunctionDef name args body [] none [] scope none name' pos) (vs:aD) (hok:fK args (vs.map (·.1)) scope=true) (hds:ds=vs.map (·.2))
  (hb:∀L cs q code,WS C led (dF scope L cs q a code) vs k (execs body (dF scope L cs q a code).env) (Back Q)):CodeW C Y led (k+1) (.ref a) ds Q :=
 let ⟨_,h⟩:=h;gP (h.1 Y led) (h.is hst) hok hds CloOk.nil rfl λL cs _ F X hF=>(hb L cs _ _).t F X hF.toNil

theorem CallW.gfn{k:Nat}{a:Addr}{st:Stmt}{name name':Str}{args:Arguments}{body:List Stmt}{scope:Scope}{pos:Pos}{ds:List D}{Q:D→aF→Prop}(h:GFn C a st)
  (hst:st=.FunctionDef name args body [] none [] scope none name' pos) (vs:aD) (hok:fK args (vs.map (·.1)) scope=true) (hds:ds=vs.map (·.2))
  (hb:∀L cs q code,WS C led (dF scope L cs q a code) vs k (execs body (dF scope L cs q a code).env) (Back Q)):CallW C Y led (k+1) (.ref a) ds Q :=
 (CodeW.gfn h hst vs hok hds hb).call

theorem rF(h:Q d led)(hx:autoParam (vs.lookup x=some d) cD)(hk:autoParam ((fe.env.kindOf x == some .local || fe.env.kindOf x == some .cell || fe.env.kindOf x == some .free)=true) cD)
  (hd:autoParam ((x == ("__debug__":Str))=false) cD) (hc:autoParam ((x == ("__classdict__":Str))=false) cD):WE C led fe vs k (eval (.Name x pos) fe.env) Q:=by
 refine xB ?_ hd;simp only[Bool.or_eq_true,beq_iff_eq]at hk;rcases hk with (hk|hk)| hk
 ·exact mJ hx hk h
 ·exact oJ hx hk h
 ·exact xA hx hk h hc
theorem aEJ(h:Q d led)(hx:autoParam (vs.lookup x=some d) cD)(hk:autoParam ((fe.env.kindOf x == some .local || fe.env.kindOf x == some .cell)=true) cD)
  : WE C led fe vs k (loadName fe.env x) Q:=by
 simp only[Bool.or_eq_true,beq_iff_eq]at hk;rcases hk with hk|hk
 ·exact mJ hx hk h
 ·exact oJ hx hk h
theorem WU.st(h:Q (hG vs x d) led)(hk:autoParam ((fe.env.kindOf x == some .local || (fe.env.kindOf x == some .cell && fe.ow.contains x))=true) cD):WU C led fe vs k (storeName fe.env x) d Q:=by
 simp only[Bool.or_eq_true,Bool.and_eq_true,beq_iff_eq,List.contains_iff_mem]at hk;exact oM hk h
end Sc

namespace Sc
set_option tactic.hygienic false
noncomputable def nL:List Str:=["len","range","sum","min","iter","reversed","divmod","list","str","dict","zip","enumerate"]
noncomputable def iO(C:Cx):Prop:=∀x∈nL,C.mg x=none
section
variable {C:Cx} {led:aF} {fe:Fe} {vs:aD} {k:Nat} {pos:Pos} {Q:D→aF→Prop}
noncomputable def biL:List (Str×Value):=[("len",.builtin "len"),("range",.type "range"),("sum",.builtin "sum"),("min",.builtin "min"),("iter",.builtin "iter"),("reversed",.type "reversed"),("divmod",.builtin "divmod"),("list",.type "list"),("str",.type "str"),("dict",.type "dict"),("zip",.type "zip"),("enumerate",.type "enumerate")]
noncomputable abbrev bvD:Value→D
 | .builtin n=>.blt n
 | .type n=>.typ n
 | _=>.none
noncomputable def aEK:Value→Bool
 | .builtin _=>true
 | .type _=>true
 | _=>false
theorem aEL(h:aEK v=true):Den fz v (bvD v):=by
 cases v<;>first|exact .blt _|exact .typ _|exact dK h
theorem aEM:∀p∈biL,bootBuiltins p.1=some p.2∧p.1∈nL∧p.1≠"__name__"∧(p.1 == ("__debug__":Str))=false∧aEK p.2=true:=by decide +kernel
theorem aCx(h:Q d led)(N:autoParam (iO C) aDQ)(hx:autoParam ((biL.lookup x).map bvD=some d) cD)(hk:autoParam (fe.env.kindOf x=some .globalImplicit) cD):WE C led fe vs k (eval (.Name x pos) fe.env) Q:=by
 cases hl:biL.lookup x with
 | none=>(first|exact (aH (hl ..) hx).elim|cases aJ (hl ..) hx|(rw[hl]at hx;exact bN hx))
 | some v =>
  (first|exact (aH (hl ..) hx).elim|cases aJ (hl ..) hx|(rw[hl]at hx;(have e1:=Option.some.inj hx;clear hx;subst e1)))
  refine an5 (aEM (x,v) (mem_of_lookup hl)) λh1 h2 h3 h4 h5=>?_
  exact mK (v:=v) (N _ h2) h1 (λfz=>aEL h5) h hk h3 h4
end
theorem sH(h:Q (.ref a) led)(hx:autoParam (C.mg x=some (.ref a)) aDQ)(hk:autoParam (fe.env.kindOf x=some .globalImplicit) cD)
  (hd:autoParam ((x == ("__debug__":Str))=false) cD):WE C led fe vs k (eval (.Name x pos) fe.env) Q:=hO hx (λ_=>.ref a) h hk hd
theorem aBs(h:Q (.int i) led)(hx:autoParam (C.mg x=some (.int i t)) aDQ)(hk:autoParam (fe.env.kindOf x=some .globalImplicit) cD)
  (hd:autoParam ((x == ("__debug__":Str))=false) cD):WE C led fe vs k (eval (.Name x pos) fe.env) Q:=hO hx (λ_=>.int i t) h hk hd
end Sc

namespace Sc
set_option tactic.hygienic false

theorem St.wr(S:St C fz led Y G s)(ha:led a=some m₀)(t:Nat)(hk:Heap.ExtBut a s.heap h')(hm:MAt fz h' a m):St C fz (upd led a m) Y G { s with heap:=h',toks:=t }:=by
 refine⟨S.dj.upd m (S.dj.of_some ha),?_⟩;erw[cX];exact S.rel.upd (m₀:=m₀) (aC ha) t hk hm
theorem St.listAt(S:St C fz led Y G s)(ha:led a=some (.list xs)):∃vs n,IsL s.heap a vs.toArray n∧Dens fz vs xs :=
 let ⟨vs,n,e,d⟩:=S.atL ha;⟨vs,n,e,d⟩
theorem St.setL{G:Array GenState}(S:St C fz led Y G s){a:Addr}{xs ys:List D}(ha:led a=some (.list xs)){vs ws:List Value}{n:Nat}(hl:IsL s.heap a vs.toArray n){f:Array Value→Array Value}
  (hf:f vs.toArray=ws.toArray) (hd:Dens fz ws ys) (t:Nat):St C fz (upd led a (.list ys)) Y G { s with heap:=s.heap.update a (Obj.mapSeq f),toks:=t }:=by
 have hu:=IsL.update hl f;rw[hf]at hu;exact S.wr ha (m:=.list ys) t (Heap.SameBut.update ..).extBut ⟨ws,_,hu,hd⟩

theorem Dens.set(x:Den f v d)(i:Nat)(h:Dens f vs ds):Dens f (vs.set i v) (ds.set i d):=by
 induction ds generalizing vs i with
 | nil=>obtain rfl:=h.inv;exact .nil
 | cons d' ds ih =>
  (refine cU h.inv λu us x1 y o1=>?_;subst o1)
  cases i with
  | zero=>exact .cons x y
  | succ i=>exact .cons x1 (ih i y)
theorem oQ(i:Nat)(h:Dens f vs ds):Dens f (vs.eraseIdx i) (ds.eraseIdx i):=by
 induction ds generalizing vs i with
 | nil=>obtain rfl:=h.inv;exact .nil
 | cons d' ds ih =>
  (refine cU h.inv λu us x1 y o1=>?_;subst o1)
  cases i with
  | zero=>exact y
  | succ i=>exact .cons x1 (ih i y)
theorem Dens.repl{f:Fz}{vs:List Value}{ds:List D}(h:Dens f vs ds):∀n:Nat,Dens f (List.replicate n vs).flatten (List.replicate n ds).flatten
 | 0=>.nil
 | n+1=>by rw[List.replicate_succ,List.replicate_succ,List.flatten_cons,List.flatten_cons];exact Dens.append (h.repl n) h

section
variable {C:Cx} {Y led:aF} {k:Nat} {Q:D→aF→Prop} {a:Addr} {xs:List D}

theorem GetM.listM{name:Str}{id:String}(ha:led a=some (.list xs))(slot:Slot "list" name id)(hty:typeOf (.builtin id)=pure (.type "method_descriptor")):GetM C Y led (.ref a) name (.blt id) [.ref a] :=
 GetM.builtin (T:="list") (λfz G s v S e=>by
  induction e using aT;refine cJ (S.listAt ha) λvs n hl _=>?_
  exact⟨⟨_,hl,rfl⟩,λb hb=>by (injection hb with e1;subst e1);exact⟨_,hl,rfl⟩⟩) F.plainAttrs_list slot hty
theorem GetM.append(ha:led a=some (.list xs)):GetM C Y led (.ref a) "append" (.blt "list.append") [.ref a]:=GetM.listM ha F.slot_list_append F.type_list_append
theorem GetM.extend(ha:led a=some (.list xs)):GetM C Y led (.ref a) "extend" (.blt "list.extend") [.ref a]:=GetM.listM ha F.slot_list_extend F.type_list_extend
theorem GetM.pop(ha:led a=some (.list xs)):GetM C Y led (.ref a) "pop" (.blt "list.pop") [.ref a]:=GetM.listM ha F.slot_list_pop F.type_list_pop
theorem GetM.reverse(ha:led a=some (.list xs)):GetM C Y led (.ref a) "reverse" (.blt "list.reverse") [.ref a]:=GetM.listM ha F.slot_list_reverse F.type_list_reverse
theorem rG{x:Str}{name:Str}{id:String}(slot:Slot "str" name id)(hty:typeOf (.builtin id)=pure (.type "method_descriptor")):GetM C Y led (.str x) name (.blt id) [.str x] :=
 GetM.builtin (T:="str") (λfz G s v S e=>by induction e using bH;exact⟨typeIs_str _ _ _,λb hb=>by (exfalso;injection hb)⟩) F.plainAttrs_str slot hty
theorem GetM.join:GetM C Y led (.str x) "join" (.blt "str.join") [.str x]:=rG F.slot_str_join F.type_str_join
theorem GetM.count:GetM C Y led (.str x) "count" (.blt "str.count") [.str x]:=rG F.slot_str_count F.type_str_count
theorem GetM.bitlen:GetM C Y led (.int i) "bit_length" (.blt "int.bit_length") [.int i] :=
 GetM.builtin (T:="int") (λfz G s v S e=>by induction e using bG;exact⟨typeIs_int _ _ _,λb hb=>by (exfalso;injection hb)⟩) F.plainAttrs_int F.slot_int_bit_length F.type_int_bit_length

theorem CallW.append(ha:led a=some (.list xs))(hl:xs.length≤1000000)(h:Q .none (upd led a (.list (xs++[d])))):CallW C Y led k (.blt "list.append") [.ref a,d] Q:=by
 intro A fz G s fv vs hA S e1 e2;induction e1 using bX;cases e2 with|cons x y=>cases y with|cons x' y'=>cases y' with|nil =>
 induction x using aT;refine cJ (S.listAt ha) λus n hL hd=>?_
 have hz:us.toArray.size≤sizeLine:=by erw[List.size_toArray,hd.length];exact Nat.le_trans hl (by decide)
 refine call_meets F.slot_list_append ⟨_,hL,rfl⟩ F.entry_list_append (F.args_list_append_2 _ _) (list_append a us.toArray n _ hz) ⟨hL,?_⟩;exact Pst.leaf (S.setL ha hL (ws:=us++[_]) (by simp) (hd.snoc x') s.toks) .none h
theorem KcY.append(ha:led a=some (.list xs))(hl:xs.length≤1000000)(h:Q .none (upd led a (.list (xs++[d])))):∀Y,KCal C Y led k (.blt "list.append") [.ref a,d] Q:=λ_=>⟨KeepOk.blt _,CallW.append ha hl h⟩
theorem CallW.extend(ha:led a=some (.list xs))(hl:xs.length+ys.length≤1000000)(h:Q .none (upd led a (.list (xs++ys)))):CallW C Y led k (.blt "list.extend") [.ref a,.lst ys] Q:=by
 intro A fz G s fv vs hA S e1 e2;induction e1 using bX;cases e2 with|cons x y=>cases y with|cons x' y'=>cases y' with|nil =>
 induction x using aT;refine cJ (S.listAt ha) λus n hL hd=>?_
 (refine dT (S.frozenList x') λb ws m o1 hB hd2=>?_;subst o1)
 have hs:us.toArray.size+ws.toArray.size≤sizeLine:=by erw[List.size_toArray,List.size_toArray,hd.length,hd2.length];exact Nat.le_trans hl (by decide)
 have hno:¬(!us.toArray.isEmpty && Builtin.List.listTooLong (us.toArray.size+ws.toArray.size))=true:=by
  unfold Builtin.List.listTooLong;have:decide (us.toArray.size+ws.toArray.size > sizeLine)=false:=decide_eq_false (Nat.not_lt.mpr hs);erw[this];simp
 refine call_meets F.slot_list_extend ⟨_,hL,rfl⟩ F.entry_list_extend (F.args_list_extend_2 _ _) (AutoSeq1.list_extend_list_list_0 a us.toArray n b ws.toArray m hno (Nat.le_of_add_right_le hs) (Nat.le_add_right_of_le hs)) ⟨hL,hB,?_⟩;exact Pst.leaf (S.setL ha hL (ws:=us++ws) (List.append_toArray us ws) (Dens.append hd2 hd) s.toks) .none h
theorem KcY.extend(ha:led a=some (.list xs))(hl:xs.length+ys.length≤1000000)(h:Q .none (upd led a (.list (xs++ys)))):∀Y,KCal C Y led k (.blt "list.extend") [.ref a,.lst ys] Q:=λ_=>⟨KeepOk.blt _,CallW.extend ha hl h⟩
theorem CallW.reverse(ha:led a=some (.list xs))(hl:xs.length≤1000000)(h:Q .none (upd led a (.list xs.reverse))):CallW C Y led k (.blt "list.reverse") [.ref a] Q:=by
 intro A fz G s fv vs hA S e1 e2;induction e1 using bX;induction e2 using dZ with|k _ x =>
 induction x using aT;refine cJ (S.listAt ha) λus n hL hd=>?_
 have hz:us.toArray.size≤sizeLine:=by erw[List.size_toArray,hd.length];exact Nat.le_trans hl (by decide)
 refine call_meets F.slot_list_reverse ⟨_,hL,rfl⟩ F.entry_list_reverse (F.args_list_reverse_1 _) (AutoSeq1.list_reverse_list_0 a us.toArray n hz) ⟨hL,?_⟩;exact Pst.leaf (S.setL ha hL (ws:=us.reverse) List.reverse_toArray hd.reverse s.toks) .none h
theorem KcY.reverse(ha:led a=some (.list xs))(hl:xs.length≤1000000)(h:Q .none (upd led a (.list xs.reverse))):∀Y,KCal C Y led k (.blt "list.reverse") [.ref a] Q:=λ_=>⟨KeepOk.blt _,CallW.reverse ha hl h⟩
theorem CallW.pop_at(ha:led a=some (.list xs))(hl:xs.length≤1000000)(h0:0≤i)(hx:xs[i.toNat]?=some d)(h:Q d (upd led a (.list (xs.eraseIdx i.toNat)))):CallW C Y led k (.blt "list.pop") [.ref a,.int i] Q:=by
 intro A fz G s fv vs hA S e1 e2;induction e1 using bX;cases e2 with|cons x y=>cases y with|cons x' y'=>cases y' with|nil =>
 induction x using aT;cases x';refine cJ (S.listAt ha) λus n hL hd=>?_
 refine aL (hd.get hx) λy hy ey=>?_
 have hlt:i.toNat<us.length:=(List.getElem?_eq_some_iff.mp hy).1;have hz:us.toArray.size≤sizeLine:=by erw[List.size_toArray,hd.length];exact Nat.le_trans hl (by decide)
 have hi:i<2 ^ 63:=by have:=hd.length;exact bQ 0 [_,_,_] [_] [.le .p0 (.k 1000000),.lt .p1 .p2,.eq .p2 .p0,.ile .p0 (.c .p1)] (.ilt .p0 (.k 9223372036854775808)) aB hl hlt this (Int.self_le_toNat _)
 refine call_meets F.slot_list_pop ⟨_,hL,rfl⟩ F.entry_list_pop (F.args_list_pop_2 _ _) (MeetsSeq.list_pop_at a us.toArray n i _ i.toNat y (by simp[Builtin.List.listFitsIndex];exact⟨(qE [.ile (.k 0) .p0] (.ile (.g (.k 9223372036854775808)) .p0) aB h0),(qE [.ilt .p0 (.k 9223372036854775808)] (.ilt .p0 (.k 9223372036854775808)) aB hi)⟩) (aBq h0 (by simpa using hlt)) (by simpa using hy) hz) ⟨hL,?_⟩;exact Pst.leaf (S.setL ha hL (ws:=us.eraseIdx i.toNat) (List.eraseIdxIfInBounds_toArray us i.toNat) (oQ _ hd) s.toks) ey h
theorem KcY.pop_at(ha:led a=some (.list xs))(hl:xs.length≤1000000)(h0:0≤i)(hx:xs[i.toNat]?=some d)(h:Q d (upd led a (.list (xs.eraseIdx i.toNat)))):∀Y,KCal C Y led k (.blt "list.pop") [.ref a,.int i] Q:=λ_=>⟨KeepOk.blt _,CallW.pop_at ha hl h0 hx h⟩
theorem CallW.pop_last(ha:led a=some (.list xs))(hl:xs.length≤1000000)(hx:xs[xs.length - 1]?=some d)(h:Q d (upd led a (.list xs.dropLast))):CallW C Y led k (.blt "list.pop") [.ref a] Q:=by
 intro A fz G s fv vs hA S e1 e2;induction e1 using bX;induction e2 using dZ with|k _ x =>
 induction x using aT;refine cJ (S.listAt ha) λus n hL hd=>?_
 refine aL (hd.get hx) λy hy ey=>?_
 have hlt:xs.length - 1<us.length:=(List.getElem?_eq_some_iff.mp hy).1;have hlen:=hd.length;have hz:us.toArray.size≤sizeLine:=by erw[List.size_toArray,hd.length];exact Nat.le_trans hl (by decide)
 refine call_meets F.slot_list_pop ⟨_,hL,rfl⟩ F.entry_list_pop (F.args_list_pop_1 _) (MeetsSeq.list_pop_last a us.toArray n y (by simpa [hlen] using hy) hz) ⟨hL,?_⟩;have e:xs.dropLast=xs.eraseIdx (xs.length - 1):=by erw[List.eraseIdx_length_sub_one]
 rw[e]at h;exact Pst.leaf (S.setL ha hL (ws:=us.eraseIdx (xs.length - 1)) (by simp[Array.eraseIdxIfInBounds,hlen];lia) (oQ _ hd) s.toks) ey h
theorem KcY.pop_last(ha:led a=some (.list xs))(hl:xs.length≤1000000)(hx:xs[xs.length - 1]?=some d)(h:Q d (upd led a (.list xs.dropLast))):∀Y,KCal C Y led k (.blt "list.pop") [.ref a] Q:=λ_=>⟨KeepOk.blt _,CallW.pop_last ha hl hx h⟩
theorem CallW.bitlen(h:Q (.int (Builtin.Int.intBits i)) led):CallW C Y led k (.blt "int.bit_length") [.int i] Q:=by
 intro A fz G s fv vs hA S e1 e2;induction e1 using bX;induction e2 using dZ with|k _ x =>
 induction x using bG;exact PyProof.Rows.call_int_bit_length (Pst.leaf (S.tok _) (.int ..) h)
end
end Sc

namespace Sc

/-! data as the library writes them -/
mutual
noncomputable def D.py:D→PyData
 | .none=>.none
 | .bool b=>.bool b
 | .int i=>.int i
 | .str x=>.str x
 | .tup xs=>.tuple (fX xs)
 | .lst xs=>.list (fX xs)
 | _=>.none
noncomputable def fX:List D→List PyData
 | []=>[]
 | x::xs=>x.py::fX xs
end
mutual
noncomputable def D.pure:D→Bool
 | .none=>true
 | .bool _=>true
 | .int _=>true
 | .str x=>PyData.strOk x
 | .tup xs=>cE xs
 | .lst xs=>cE xs
 | _=>false
noncomputable def cE:List D→Bool
 | []=>true
 | x::xs=>x.pure && cE xs
end
mutual
theorem fB:∀d:D,d.pure=true→d.py.canLay0=true
 | .none,_=>rfl
 | .bool _,_=>rfl
 | .int _,_=>rfl
 | .str x,h=>h
 | .tup xs,h=>gR xs h
 | .lst xs,h=>gR xs h
 | .ref _,h=>by exact dK h
 | .blt _,h=>by exact dK h
 | .typ _,h=>by exact dK h
 | .rng _ _,h=>by exact dK h
 | .dct _,h=>by exact dK h
 | .meth _ _,h=>by exact dK h
 | .itr _ _ _,h=>by exact dK h
theorem gR:∀ds:List D,cE ds=true→PyData.canLayAll0 (fX ds)=true
 | [],_=>rfl
 | x::xs,h=>by
  have h':x.pure=true∧cE xs=true:=by simpa [cE] using h
  show (x.py.canLay0 && PyData.canLayAll0 (fX xs))=true
  rw[fB x h'.1,gR xs h'.2];rfl
end
mutual
theorem iC{fz:Fz}{h:Heap}(hz:∀a o,fz a=some o→h.get? a=some o):∀(d:D) (v:Value),d.pure=true→Den fz v d→∃as,Reads h v d.py as
 | .none,v,p,e=>by induction e using gO;exact⟨_,.none⟩
 | .bool _,v,p,e=>by induction e using dI;exact⟨_,.bool _⟩
 | .int _,v,p,e=>by induction e using bG;exact⟨_,.int ..⟩
 | .str _,v,p,e=>by induction e using bH;exact⟨_,.str ..⟩
 | .tup xs,v,p,e=>by
  cases e with
  | tup e1 hc hd e2=>refine aN (iY hz xs _ p e2) λas r=>?_;exact⟨_,.tuple (hz _ _ e1) hc hd r⟩
 | .lst xs,v,p,e=>by
  cases e with
  | lst e1 e2=>refine aN (iY hz xs _ p e2) λas r=>?_;exact⟨_,.list (hz _ _ e1) rfl rfl r⟩
 | .ref _,_,h,_=>by exact dK h
 | .blt _,_,h,_=>by exact dK h
 | .typ _,_,h,_=>by exact dK h
 | .rng _ _,_,h,_=>by exact dK h
 | .dct _,_,h,_=>by exact dK h
 | .meth _ _,_,h,_=>by exact dK h
 | .itr _ _ _,_,h,_=>by exact dK h
theorem iY{fz:Fz}{h:Heap}(hz:∀a o,fz a=some o→h.get? a=some o):∀(ds:List D) (vs:List Value),cE ds=true→Dens fz vs ds→∃as,ReadsAll h vs (fX ds) as
 | [],vs,p,e=>by induction e using zD;exact⟨_,.nil⟩
 | x::xs,vs,p,e=>by
  have p':x.pure=true∧cE xs=true:=by simpa [cE] using p
  cases e with
  | cons e1 e2 =>
   refine aN (iC hz x _ p'.1 e1) λas r=>?_
   refine aN (iY hz xs _ p'.2 e2) λbs r'=>?_
   exact⟨_,.cons r r'⟩
end
noncomputable def D.eqv(d e:D):Bool:=PyData.eqv d.py e.py

section
variable {C:Cx} {Y led:aF} {k:Nat} {Q:D→aF→Prop} {d e:D}
theorem St.hz(S:St C fz led Y G s):∀a o,fz a=some o→s.heap.get? a=some o:=S.rel.fzIn
theorem zL(h:a≤20∨b≤20):min a b≤20:=h.elim (Nat.le_trans (Nat.min_le_left ..)) (Nat.le_trans (Nat.min_le_right ..))
theorem sI(h:u+20*(k+1)<9900)(hm:m≤20):u+m<9900:=Nat.lt_of_le_of_lt (Nat.add_le_add_left (Nat.le_trans hm (Nat.le_mul_of_pos_right 20 (Nat.succ_pos k))) u) h
theorem aCy(hd:d.pure=true)(he:e.pure=true)(hn:d.py.depth≤20∨e.py.depth≤20)(h:Q (.bool (d.eqv e)) led):Op2 C Y led (k+1) (compareOp .Eq) d e Q:=λA fz G s v u hA S e1 e2=>by
 refine aN (iC S.hz d v hd e1) λas r=>?_
 refine aN (iC S.hz e u he e2) λbs r'=>?_
 refine SeqAt.compareEq_reads r r' (fB d hd) (fB e he) ?_ (Pst.leaf S (.bool _) h);exact sI hA.2.2 (zL hn)
theorem nM(hd:d.pure=true)(he:e.pure=true)(hn:d.py.depth≤20∨e.py.depth≤20)(h:Q (.bool (!d.eqv e)) led):Op2 C Y led (k+1) (compareOp .NotEq) d e Q:=λA fz G s v u hA S e1 e2=>by
 refine aN (iC S.hz d v hd e1) λas r=>?_
 refine aN (iC S.hz e u he e2) λbs r'=>?_
 refine SeqAt.compareNe_reads r r' (fB d hd) (fB e he) ?_ (Pst.leaf S (.bool _) h);exact sI hA.2.2 (zL hn)
theorem Op2.ne_ref(ha:led a=some (.list xs))(hd:cE xs=true)(he:e.pure=true)(hn:e.py.depth≤20)(h:Q (.bool (!(D.lst xs).eqv e)) led):Op2 C Y led (k+1) (compareOp .NotEq) (.ref a) e Q:=λA fz G s v u hA S e1 e2=>by
 induction e1 using aT;refine cJ (S.listAt ha) λvs n hl hv=>?_
 refine aN (iY S.hz xs vs hd hv) λas r=>?_
 refine aN (iC S.hz e u he e2) λbs r'=>?_
 refine SeqAt.compareNe_reads (da:=.list (fX xs)) (.list hl rfl rfl r) r' (gR xs hd) (fB e he) ?_ (Pst.leaf S (.bool _) h);exact sI hA.2.2 (zL (.inr hn))
theorem OpY.ne_ref(ha:led a=some (.list xs))(hd:cE xs=true)(he:e.pure=true)(hn:e.py.depth≤20)(h:Q (.bool (!(D.lst xs).eqv e)) led):∀Y,Op2 C Y led (k+1) (compareOp .NotEq) (.ref a) e Q:=λ_=>Op2.ne_ref ha hd he hn h
theorem Op2.ins(h:Q (.bool (Txt.contains x y)) led):Op2 C Y led k (compareOp .In) (.str y) (.str x) Q:=λA fz G s v u hA S e1 e2=>by
 induction e1 using bH;induction e2 using bH;exact SB.contains (Pst.leaf S (.bool _) h)
theorem OpY.ins(h:Q (.bool (Txt.contains x y)) led):∀Y,Op2 C Y led k (compareOp .In) (.str y) (.str x) Q:=λ_=>Op2.ins h
/-! truth -/
theorem Tru.int{i:Int}{Q:Bool→aF→Prop}(h:Q (i != 0) led):Tru C Y led k (.int i) Q:=λA fz G s v hA S e=>by
 induction e using bG;exact PyProof.Rows.truthy_int (Psb.leaf S h)
theorem Tru.lst{xs:List D}{Q:Bool→aF→Prop}(hl:xs.length≤10000000)(h:Q (!xs.isEmpty) led):Tru C Y led k (.lst xs) Q:=λA fz G s v hA S e=>by
 (refine dT (S.frozenList e) λa vs n o1 hg hd=>?_;subst o1)
 have hlen:=hd.length;refine wpAny_truthy_list (items:=vs.toArray) ⟨_,hg,rfl,n,rfl⟩ (by erw[List.size_toArray];lia) ?_;have e2:vs.toArray.isEmpty=xs.isEmpty:=by cases vs<;>cases xs<;>first|rfl|(exfalso;injection hlen)
 erw[e2];exact Psb.leaf (S.tok _) h
theorem TrY.lst{xs:List D}{Q:Bool→aF→Prop}(hl:xs.length≤10000000)(h:Q (!xs.isEmpty) led):∀Y,Tru C Y led k (.lst xs) Q:=λ_=>Tru.lst hl h
theorem Tru.ref{a:Addr}{xs:List D}{Q:Bool→aF→Prop}(ha:led a=some (.list xs))(hl:xs.length≤10000000)(h:Q (!xs.isEmpty) led):Tru C Y led k (.ref a) Q:=λA fz G s v hA S e=>by
 induction e using aT;refine cJ (S.listAt ha) λvs n hg hd=>?_
 have hlen:=hd.length;refine wpAny_truthy_list (items:=vs.toArray) ⟨_,hg,rfl,n,rfl⟩ (by erw[List.size_toArray];lia) ?_;have e2:vs.toArray.isEmpty=xs.isEmpty:=by cases vs<;>cases xs<;>first|rfl|(exfalso;injection hlen)
 erw[e2];exact Psb.leaf (S.tok _) h

/-! lists -/
theorem Op2.addl(hl:xs.length+ys.length≤1000000)(h:Q (.lst (xs++ys)) led):Op2 C Y led k (binaryOp .Add) (.lst xs) (.lst ys) Q:=λA fz G s v u hA S e1 e2=>by
 (refine dT (S.frozenList e1) λa vs n o1 hg hd=>?_;subst o1)
 (refine dT (S.frozenList e2) λb us m o1 hg2 hd2=>?_;subst o1)
 have h1:=hd.length;have h2:=hd2.length;have ha:=aO s.heap (Nat.le_refl _);have hz:=S.rel.freshF ha;refine P.add_list (items:=vs.toArray) (items2:=us.toArray) hg hg2 ?_ (by erw[List.size_toArray,List.size_toArray,h1,h2];exact Nat.le_trans hl (by decide));have e3:vs.toArray++us.toArray=(vs++us).toArray:=List.append_toArray vs us;erw[e3]
 exact⟨_,G,.lst (xs++ys),led,bI hz,.refl _,.lst (n:=0) (cA ..) ((Dens.append hd2 hd).mono (bI hz)),
  ⟨S.dj,S.rel.allocF ha s.toks (λb o e=>Heap.get?_push_of_some _ e) (Heap.get?_push_size _ rfl)⟩,h⟩
theorem OpY.addl(hl:xs.length+ys.length≤1000000)(h:Q (.lst (xs++ys)) led):∀Y,Op2 C Y led k (binaryOp .Add) (.lst xs) (.lst ys) Q:=λ_=>Op2.addl hl h
theorem aAz{α:Type}(x:Array α):∀(l:List (Array α)),List.foldl (λx1 x2=>x1++x2) x l=x++(l.map Array.toList).flatten.toArray:=by
 intro l;induction l generalizing x with
 | nil=>simp
 | cons y l ih=>erw[List.foldl_cons,ih];apply Array.toList_inj.mp;simp
theorem Op2.mull(h0:0≤i)(hl:xs.length*i.toNat≤1000000)(hi:i≤1000000)(hx:xs≠[])
  (h:∀a,led a=none→Q (.ref a) (upd led a (.list (List.replicate i.toNat xs).flatten))):Op2 C Y led k (binaryOp .Mult) (.lst xs) (.int i) Q:=λA fz G s v u hA S e1 e2=>by
 (refine dT (S.frozenList e1) λa vs n o1 hg hd=>?_;subst o1)
 induction e2 using bG;rename_i u;have h1:=hd.length;have ha:=aO s.heap (Nat.le_refl _);have hsz:vs.toArray.size*i.toNat≤1000000:=by erw[List.size_toArray,h1];exact hl
 refine wpAny_binaryOp_repeat_ref (T:="list") (U:="int") (by decide) ⟨_,hg,rfl⟩ (λs'=>typeIs_int s' i u) noFill_list_mul F.fills_int_mul F.slot_int_rmul repeat_list F.slot_int_index.lookup
  (call_meets F.slot_int_rmul (typeIs_int s i u) F.entry_int_rmul (F.args_int_rmul_2 _ _) (int___rmul___int_list i u a vs.toArray n)
   ⟨hg,rfl,⟨_,hg,rfl⟩,call_meets F.slot_list_mul ⟨_,hg,rfl⟩ F.entry_list_mul (F.args_list_mul_2 _ _)
    (AutoListH.list___mul___list_int_3 a vs.toArray n i u (by simp[Builtin.List.listFitsIndex];lia) (by lia) (by unfold Builtin.List.listTooLong sizeLine;simp only[decide_eq_true_eq];lia))
    ⟨hg,?_⟩⟩)
 have hne:vs.toArray.isEmpty=false:=by cases vs<;>cases xs<;>first|exact absurd rfl hx|rfl|(exfalso;injection h1)
 have e3:List.foldl (λx1 x2=>x1++x2) #[] (List.replicate (if vs.toArray.isEmpty=true then 0 else i.toNat) vs.toArray)=((List.replicate i.toNat vs).flatten).toArray:=by
  erw[hne,aAz];simp
 erw[e3];refine⟨fz,G,.ref _,_,.refl _,.refl _,.ref _,S.newL ha (m:=.list _) s.toks (λb o e=>Heap.get?_push_of_some _ e) ⟨_,0,Heap.get?_push_size _ rfl,hd.repl _⟩,h _ (S.fresh ha).1⟩

theorem OpY.mull(h0:0≤i)(hl:xs.length*i.toNat≤1000000)(hi:i≤1000000)(hx:xs≠[])(h:∀a,led a=none→Q (.ref a) (upd led a (.list (List.replicate i.toNat xs).flatten))):∀Y,Op2 C Y led k (binaryOp .Mult) (.lst xs) (.int i) Q:=λ_=>Op2.mull h0 hl hi hx h
/-! texts -/
theorem CallW.count(h:Q (.int (Txt.count x y)) led):CallW C Y led k (.blt "str.count") [.str x,.str y] Q:=by
 intro A fz G s fv vs hA S e1 e2;induction e1 using bX;cases e2 with|cons x y=>cases y with|cons x' y'=>cases y' with|nil =>
 induction x using bH;cases x';exact SC.count (Pst.leaf (S.tok _) (.int ..) h)
theorem KcY.count(h:Q (.int (Txt.count x y)) led):∀Y,KCal C Y led k (.blt "str.count") [.str x,.str y] Q:=λ_=>⟨KeepOk.blt _,CallW.count h⟩
theorem zM{fz:Fz}:∀{vs:List Value} {xs:List Str},Dens fz vs (xs.map .str)→∃l:List (Str×Tok),vs=strValues l∧l.map (·.1)=xs
 | _,[],h=>by induction h using zD;exact⟨[],rfl,rfl⟩
 | _,x::xs,h=>by
  cases h with
  | cons a b =>
   induction a using bH;refine aL (zM b) λl e1 e2=>?_
   exact⟨(x,_)::l,by rw[e1];rfl,by rw[List.map_cons,e2]⟩
theorem CallW.join(hok:JoinOk x xs=true)(h:Q (.str (Txt.join x xs)) led):CallW C Y led k (.blt "str.join") [.str x,.lst (xs.map .str)] Q:=by
 intro A fz G s fv vs hA S e1 e2;induction e1 using bX;cases e2 with|cons x y=>cases y with|cons x' y'=>cases y' with|nil =>
 induction x using bH
 (refine dT (S.frozenList x') λa vs n o1 hg hd=>?_;subst o1)
 (refine aL (zM hd) λl o1 e3=>?_;subst o1)
 exact SC.join (D:=a) ⟨_,hg,rfl,n,rfl⟩ e3 hok λt' k=>Pst.leaf (S.tok _) (.str ..) h
theorem KcY.join(hok:JoinOk x xs=true)(h:Q (.str (Txt.join x xs)) led):∀Y,KCal C Y led k (.blt "str.join") [.str x,.lst (xs.map .str)] Q:=λ_=>⟨KeepOk.blt _,CallW.join hok h⟩
theorem Op2.muls(hl:MulOk x i)(h:Q (.str (Txt.mul x i)) led):Op2 C Y led k (binaryOp .Mult) (.str x) (.int i) Q:=λA fz G s v u hA S e1 e2=>by
 induction e1 using bH;induction e2 using bG;exact SB.mul hl λt' k=>Pst.leaf (S.tok _) (.str ..) h
theorem OpY.muls(hl:MulOk x i)(h:Q (.str (Txt.mul x i)) led):∀Y,Op2 C Y led k (binaryOp .Mult) (.str x) (.int i) Q:=λ_=>Op2.muls hl h
theorem Op2.iadds(h:Q (.str (x++y)) led)(hs:x.length+y.length≤10000000):Op2 C Y led k (inplaceOp .Add) (.str x) (.str y) Q:=λA fz G s v u hA S e1 e2=>by
 induction e1 using bH;induction e2 using bH;exact PyProof.Rows.iadd_str (λt' tk=>Pst.leaf (S.tok _) (.str ..) h) (Nat.le_trans hs (by decide))
theorem OpY.iadds(h:Q (.str (x++y)) led)(hs:x.length+y.length≤10000000):∀Y,Op2 C Y led k (inplaceOp .Add) (.str x) (.str y) Q:=λ_=>Op2.iadds h hs
theorem uO(h:ItemsOf (SignAt x) acc x.cps.size):Dens fz acc.toList (bL x):=by
 have key:∀n:Nat,n≤x.cps.size→Dens fz (acc.toList.take n) ((bL x).take n):=by
  intro n;induction n with
  | zero=>intro _;simpa using Dens.nil
  | succ n ih =>
   intro hn;have hv:acc[n]?=some acc[n]!:=by erw[getElem!_pos acc n (by erw[h.1];lia)];exact Array.getElem?_eq_getElem _
   refine cJ (h.2 n _ hv) λc u hc hvv=>?_
   have hs:(bL x)[n]?=some (.str ⟨#[c]⟩):=by
    unfold bL;erw[List.getElem?_map];have:x.cps.toList[n]?=some c:=by simpa using hc
    erw[this];rfl
   erw[List.take_add_one,List.take_add_one,hs];have hl:acc.toList[n]?=some (Value.str ⟨#[c]⟩ u):=by erw[Array.getElem?_toList,hv,hvv]
   erw[hl];exact (ih (Nat.le_of_succ_le hn)).snoc (.str ..)
 have k2:=key x.cps.size (Nat.le_refl _)
 rwa [List.take_of_length_le (by simp[h.1]),List.take_of_length_le (by simp[bL])]at k2
theorem CallW.list_strM(hl:x.cps.size≤1000000)(h:∀a,led a=none→Q (.ref a) (upd led a (.list (bL x)))):CallW C Y led k (.typ "list") [.str x] Q:=by
 intro A fz G s fv vs hA S e1 e2;induction e1 using fU;induction e2 using dZ with|k _ x =>
 induction x using bH;have ha:=aO s.heap (Nat.le_refl _);refine call_list_str hA.r.1 x _ (λh' tk acc' c' hk hg hi=>?_) (Nat.le_trans hl (by decide));exact⟨fz,G,.ref _,_,.refl _,.refl _,.ref _,S.newL ha (m:=.list (bL x)) tk hk ⟨acc'.toList,c',by erw[Array.toArray_toList];exact hg,uO hi⟩,h _ (S.fresh ha).1⟩
theorem KcY.list_strM(hl:x.cps.size≤1000000)(h:∀a,led a=none→Q (.ref a) (upd led a (.list (bL x)))):∀Y,KCal C Y led k (.typ "list") [.str x] Q:=λ_=>⟨KeepOk.typ _,CallW.list_strM hl h⟩
end
end Sc

set_option maxRecDepth 100000
namespace Sc
set_option tactic.hygienic false
open Builtin Builtin.ObjectAttr
theorem store_function:StoreFacts "function" [.type "function",.type "object"] "object.__setattr__" "object" where
 mro:=by kernel_rfl
 slot:=.of (owner:="object") (n:="__setattr__") (by rw[typeLookup_type,builtinLookup_eq_fast];kernel_rfl) (by decide +kernel) (by decide +kernel) (by decide +kernel)
  (by first|exact .inl (by decide +kernel)| exact .inr (by decide +kernel)) (by rw[isSubtype_type];kernel_rfl)
 entry:=PySem.F.entry_object_sa
 kind:=by decide +kernel
 split:=by decide +kernel
 hasOwner:=by decide +kernel
 args:=λa b c=>by unfold argsOk;kernel_rfl
 passes:=λself=>by kernel_rfl

section
variable {prog:Program} {w:World} {A:Around} {E:Value→Shared→Prop} {h:Heap} {g:Array GenState} {d:Drawn} {t:Nat} {os:OsState} {x:Addr} {o:Obj} {name:Str} {v:Value}

theorem xE(hns:s.heap.Ns1 dx mA)(hw:Within mA ns)(hsz:ns.length≤1000)
  (hq:∀h' tk',h'.Ns1 dx (λy=>if y=name then some v else mA y)→Heap.SameBut dx s.heap h'→Q (.done (.ret .none)) { s with heap:=h',toks:=tk' }) :
  wpAny (model prog w) A (storeInDict dx (.str name tk) name v) Q E s:=by
 unfold storeInDict newKeyGuard;refine wpAny_bind (wpAny_pure (wpAny_bind (wpAny_nsSet1 hns λh' hn' hs=>?_)));refine dT (hn'.count (Within.cons name v hw)) λoD esD epD hoD hdD hcD=>?_
 refine wpAny_bind (wpAny_lookBehind hoD (by erw[hdD];exact pastItsLine_dict (Nat.le_trans hcD (by erw[List.length_cons,sizeLine_eq];omega))) ?_)
 wp_walk
 exact hq h' _ hn' hs
noncomputable abbrev mP(dict:Option Addr)(fd:FuncData):Obj:={ cls:=.type "function",dict:=dict,data:=.func fd }
set_option maxHeartbeats 4000000 in
theorem oR(hx:h.get? x=some (mP none fd))(hB:typeLookup (.type "function") name=pure none)
  (hq:∀h' tk',h'.Ns1 h.objs.size (λy=>if y=name then some v else none)→h'.get? x=some (mP (some h.objs.size) fd) →
   (∀b ob,b≠x→h.get? b=some ob→h'.get? b=some ob)→Q (.done (.ret .none)) ⟨h',g,d,tk',os⟩) :
  wpAny (model prog w) A (Builtin.«object.__setattr__» ⟨[.ref x,.str name tk,v],[]⟩) Q E ⟨h,g,d,t,os⟩:=by
 have hpass:=store_function.passes (.ref x);have hmro:=store_function.mro;have hT:(⟨h,g,d,t,os⟩:Shared).TypeIs (.ref x) "function":=⟨_,hx,rfl⟩;have hx₁:(h.push { cls:=.type "dict",data:=.dict #[] }).get? x=some (mP none fd):=Heap.get?_push_of_some _ hx;have hxs:x≠h.objs.size:=Nat.ne_of_lt (Heap.lt_size hx)
 have hgd:((h.push { cls:=.type "dict",data:=.dict #[] }).update x λo=>{ cls:=o.cls,dict:=some h.objs.size,data:=o.data,slots:=o.slots }).get? h.objs.size
   = some { cls:=.type "dict",data:=.dict #[] }:=(Heap.get?_update_ne _ _ _ _ hxs.symm).trans (Heap.get?_push_at rfl rfl)
 have hnd:((h.push { cls:=.type "dict",data:=.dict #[] }).update x λo=>{ cls:=o.cls,dict:=some h.objs.size,data:=o.data,slots:=o.slots }).Ns h.objs.size (λ_=>none) :=
  ⟨_,#[],_,hgd,rfl,λe he=>absurd he (Array.not_mem_empty e),λ_=>rfl⟩
 unfold Builtin.«object.__setattr__»
 repeat (first|rw[refuse_eq]| rw[hpass]| (with_reducible refine wpAny_loadPart_at hx ?_)| (with_reducible refine xE (ns:=[]) (Heap.Ns1.of_empty hnd) Within.nil (Nat.zero_le _) λh' tk' hn' hs'=>?_)| wp_step)
 refine hq h' _ hn' ((hs'.2 x hxs).trans (Heap.get?_update_self _ hx₁ rfl)) λb ob hb e=>?_
 exact (hs'.2 b (Nat.ne_of_lt (Heap.lt_size e))).trans ((Heap.get?_update_ne _ _ _ _ hb).trans (Heap.get?_push_of_some _ e))
theorem aBt(hx:h.get? x=some (mP none fd))(hB:typeLookup (.type "function") name=pure none)
  (hq:∀h' tk',h'.Ns1 h.objs.size (λy=>if y=name then some v else none)→h'.get? x=some (mP (some h.objs.size) fd) →
   (∀b ob,b≠x→h.get? b=some ob→h'.get? b=some ob)→Q () ⟨h',g,d,tk',os⟩) :
  wpAny (model prog w) A (setAttr (.ref x) name v) Q E ⟨h,g,d,t,os⟩:=by
 have f3:=store_function.slot.bind (.ref x);have f4:=store_function.slot.lookup;have hT:(⟨h,g,d,t,os⟩:Shared).TypeIs (.ref x) "function":=⟨_,hx,rfl⟩;have hT':∀t',(⟨h,g,d,t',os⟩:Shared).TypeIs (.ref x) "function":=λ_=>⟨_,hx,rfl⟩
 unfold setAttr callSpecial? specialOf
 repeat (any_goals (first|assumption|wp_step))
 refine codeAny_call_builtin store_function.slot.plain store_function.entry (store_function.slot.check _ _ _ _ _ _ _ _ (hT' _) (store_function.args _ _ _) (oR hx hB λh' tk' a b c=>?_))
 repeat (any_goals (first|assumption|wp_step))
 exact hq h' _ a b c
theorem qI(hx:h.get? x=some (mP (some dx) fd))(hB:typeLookup (.type "function") name=pure none)(hn:h.Ns1 dx mA)(hv:mA name=some v)
  (hq:Q (.done (.ret v)) ⟨h,g,d,t,os⟩):wpAny (model prog w) A (Builtin.«object.__getattribute__» ⟨[.ref x,.str name tk],[]⟩) Q E ⟨h,g,d,t,os⟩:=by
 have hT:(⟨h,g,d,t,os⟩:Shared).TypeIs (.ref x) "function":=⟨_,hx,rfl⟩;unfold Builtin.«object.__getattribute__»
 repeat (first|(with_reducible refine wpAny_loadPart_at hx ?_)| (with_reducible refine wpAny_nsGet hn.ns ?_;rw[hv])| wp_step)
 exact hq
theorem slot_fn_ga:Slot "function" "__getattribute__" "object.__getattribute__":=.of (owner:="object") (n:="__getattribute__") (by erw[typeLookup_type,builtinLookup_eq_fast];kernel_rfl) (by decide +kernel) (by decide +kernel) (by decide +kernel)
  (by first|exact .inl (by decide +kernel)| exact .inr (by decide +kernel)) (by erw[isSubtype_type];kernel_rfl)
theorem uP:entryFor table "object.__getattribute__"=some Builtin.«object.__getattribute__»:=entryFor_of_tree (by kernel_rfl)
theorem xF(a b:Value):argsOk "object.__getattribute__" ⟨[a,b],[]⟩:=by unfold argsOk;kernel_rfl
theorem qJ:typeLookup (.type "function") "__getattr__"=pure none:=by erw[typeLookup_type,builtinLookup_eq_fast];kernel_rfl
theorem aBu:(Manifest.canonical "object.__getattribute__" != "object.__getattribute__")=false:=by decide +kernel
theorem aAA{fd:FuncData}{tk:Tok}{dx:Addr}{mA:Str→Option Value}{Q:Value→Shared→Prop}(hx:h.get? x=some (mP (some dx) fd))(hB:typeLookup (.type "function") name=pure none)(hn:h.Ns1 dx mA)(hv:mA name=some v)
  (hh:handedOut v=pure v) (hq:Q v ⟨h,g,d,t,os⟩) {fill ex:Bool}:wpAny (model prog w) A (getAttrBy (.ref x) (.str name tk) fill ex) Q E ⟨h,g,d,t,os⟩:=by
 have hT:(⟨h,g,d,t,os⟩:Shared).TypeIs (.ref x) "function":=⟨_,hx,rfl⟩;have f2:=slot_fn_ga.lookup;have f3:=slot_fn_ga.bind (.ref x)
 repeat (any_goals (first|assumption|wp_step))
 have e:(ex && onTheHeap (Value.builtin "object.__getattribute__"))=false:=by cases ex<;>rfl
 erw[e,if_neg Bool.false_ne_true];unfold boundAndCalled
 repeat (any_goals (first|assumption|wp_step))
 refine codeAny_call_builtin slot_fn_ga.plain uP (slot_fn_ga.check _ _ _ _ _ _ _ _ hT (xF _ _) (qI hx hB hn hv ?_))
 repeat (any_goals (first|assumption|wp_step))
theorem aAB(hx:h.get? x=some (mP (some dx) fd))(hB:typeLookup (.type "function") name=pure none)(hn:h.Ns1 dx mA)(hv:mA name=some v)
  (hh:handedOut v=pure v) (hq:Q (v,[]) ⟨h,g,d,t+1,os⟩):wpAny (model prog w) A (getMethod (.ref x) name pl) Q E ⟨h,g,d,t,os⟩:=by
 have hT:(⟨h,g,d,t,os⟩:Shared).TypeIs (.ref x) "function":=⟨_,hx,rfl⟩;have f2:=slot_fn_ga.lookup;have f4:=qJ;have f5:=aBu;unfold getMethod;refine wpAny_bind (wpAny_specialOf hT f2 ?_);refine (?_:wpAny _ _ (if (Manifest.canonical "object.__getattribute__" != "object.__getattribute__")=true then _ else _) _ _ _);erw[f5,if_neg Bool.false_ne_true];refine wpAny_bind (wpAny_specialOf hT f4 ?_);refine wpAny_bind (wpAny_specialOf hT hB ?_);refine (?_:wpAny _ _ (getAttr (.ref x) name >>= λr=>pure (r,[])) _ _ _);unfold getAttr;refine wpAny_bind (wpAny_bind (wpAny_mkText ?_));exact aAA hx hB hn hv hh (wpAny_pure hq)
end
end Sc

set_option maxRecDepth 100000
namespace Sc
set_option tactic.hygienic false
open Builtin Builtin.ObjectAttr

structure GCls (C:Cx) (cl:Addr) (mN:Str→Option Value):Prop where
 ex:∃N,ClsAt C.h₀ cl N mN∧¬C.tab cl∧¬C.tab N
 ga:mN "__getattribute__"=none
 gh:mN "__getattr__"=none
 sa:mN "__setattr__"=none
theorem GCls.at_(X:GCls C cl mN)(S:St C fz led Y G s):∃N,ClsAt s.heap cl N mN:=by
 (refine cZ X.ex λN o1 n1 n2=>?_;obtain ⟨⟨nm,q,bs,sn,sub,col,dd,k0,k1,k2,k3,k5,e⟩,hn⟩:=o1)
 exact⟨N,⟨nm,q,bs,sn,sub,col,dd,k0,k1,k2,k3,k5,S.base _ _ e n1⟩,hn.at' λo e=>S.base _ o e n2⟩

noncomputable def uQ(m:List (Str×D))(x:Str)(d:D):List (Str×D) :=
 match m with
 | []=>[(x,d)]
 | (y,e)::r=>if x=y then (x,d)::r else (y,e)::uQ r x d
theorem uR(m:List (Str×D))(x:Str)(d:D)(y:Str):(uQ m x d).lookup y=if y=x then some d else m.lookup y:=by
 induction m with
 | nil =>
  unfold uQ;erw[List.lookup_cons];by_cases h:y=x
  ·subst h;simp
  ·erw[beq_eq_false_iff_ne.mpr h,if_neg h]
 | cons p r ih =>
  obtain ⟨z,e⟩:=p;unfold uQ;by_cases hz:x=z
  ·subst hz;erw[if_pos rfl,List.lookup_cons,List.lookup_cons];by_cases h:y=x
   ·subst h;simp
   ·erw[beq_eq_false_iff_ne.mpr h,if_neg h]
  ·erw[if_neg hz,List.lookup_cons,List.lookup_cons,ih];by_cases h:y=z
   ·subst h;have hz':¬y=x:=λq=>hz q.symm;simp[hz']
   ·erw[beq_eq_false_iff_ne.mpr h]
theorem aAC{mv:Str→Option Value}{m:List (Str×D)}(h:∀x,ODen fz (mv x) (m.lookup x)):Within mv (m.map (·.1)):=by
 intro y hy;cases hm:m.lookup y with
 | none =>
  have q:=h y;rw[hm]at q;cases hv:mv y with
  | none=>exact absurd hv hy
  | some v=>rw[hv]at q;exact q.elim
 | some d=>exact List.mem_map.mpr ⟨_,mem_of_lookup hm,rfl⟩
theorem rH(e:Den fz v d)(h:∀id,d≠.blt id):handedOut v=pure v:=by
 cases e with
 | blt id=>exact absurd rfl (h id)
 | _=>rfl

noncomputable def SetA(C:Cx)(Y led:aF)(od:D)(name:Str)(d:D)(K:aF→Prop):Prop :=
 ∀A fz G s v u,Room 0 A→St C fz led Y G s→Den fz v od→Den fz u d→wpAny (model C.prog C.w) A (setAttr v name u) (λ_ s'=>∃fz' G' led',FzLe fz fz'∧GExt G G'∧St C fz' led' Y G' s'∧K led') No s
noncomputable def GetA(C:Cx)(Y led:aF)(od:D)(name:Str)(Q:D→aF→Prop):Prop :=
 ∀A fz G s v ex,Room 0 A→St C fz led Y G s→Den fz v od→wpAny (model C.prog C.w) A (getAttr v name ex) (Pst C fz Y G Q) No s

section
variable {C:Cx} {Y led:aF} {cl x dx:Addr} {mN:Str→Option Value} {m:List (Str×D)} {name:Str} {d:D} {Q:D→aF→Prop} {K:aF→Prop}

theorem St.setA{G:Array GenState}{u:Value}{mv:Str→Option Value}{h':Heap}(S:St C fz led Y G s)(hx:led x=some (.obj cl dx))(hd:led dx=some (.ns1 m))(e2:Den fz u d)(hm:∀y,ODen fz (mv y) (m.lookup y))(tk':Nat)
  (I':h'.Inst x cl (λy=>if y=name then some u else mv y)) (hk:∀b o,b≠x→(∀o₀ dx,s.heap.get? x=some o₀→o₀.dict=some dx→b≠dx)→s.heap.get? b=some o→h'.get? b=some o)
  (hsame:∀o₀,s.heap.get? x=some o₀→∃o₁,h'.get? x=some o₁∧o₁.cls=o₀.cls∧o₁.data=o₀.data∧o₁.slots=o₀.slots∧∀dx,o₀.dict=some dx→o₁.dict=some dx):St C fz (upd led dx (.ns1 (uQ m name d))) Y G { s with heap:=h',toks:=tk' }:=by
 refine tX (S.atL hx) λo ho hoc hod hoi hne=>?_
 refine tX (hsame o ho) λo₁ ho₁ hc₁ hd₁ _ hi₁=>?_
 (refine tW I' λo₂ ho₂ hc₂ _ hdd=>?_;clear I')
 (first|exact (aH (ho₁ ..) ho₂).elim|cases aJ (ho₁ ..) ho₂|(rw[ho₁]at ho₂;cases ho₂))
 have hdx:=hi₁ dx hoi;refine⟨S.dj.upd _ (S.dj.of_some hd),?_⟩;erw[cX];refine S.rel.many tk' (λb=>b=x∨b=dx) (λb hb=>?_) (λb ob hb e=>hk b ob (λz=>hb (.inl z)) (λo₀ dy e0 ed z=>hb (.inr (by (first|exact (aH (ho ..) e0).elim|cases aJ (ho ..) e0|(rw[ho]at e0;cases e0));(first|exact (aH (hoi ..) ed).elim|cases aJ (hoi ..) ed|(rw[hoi]at ed;cases ed));exact z))) e) (λb hb=>aG _ _ (λz=>hb (.inr z))) (λb mm hb e=>?_)
 ·rcases hb with rfl|rfl
  ·exact⟨_,aC hx⟩
  ·exact⟨_,aC hd⟩
 ·rcases hb with rfl|rfl
  ·rw[aG _ _ hne.symm,aC hx]at e
   (have e1:=Option.some.inj e;clear e;subst e1)
   exact⟨o₁,ho₁,hc₂,λc=>by erw[hd₁];exact hod c,hdx,hne⟩
  ·(first|exact (aH (aA ..) e).elim|cases aJ (aA ..) e|(rw[aA]at e;cases e))
   rcases hdd with ⟨hn,_⟩| ⟨d',hd',hne',hns'⟩
   ·(first|exact (aH (hdx ..) hn).elim|cases aJ (hdx ..) hn|(rw[hdx]at hn;exact dN hn))
   ·(first|exact (aH (hdx ..) hd').elim|cases aJ (hdx ..) hd'|(rw[hdx]at hd';cases hd'))
    refine⟨_,hns',λy=>?_⟩;erw[uR];by_cases hy:y=name
    ·erw[if_pos hy,if_pos hy];exact e2
    ·erw[if_neg hy,if_neg hy];exact hm y
theorem GCls.ne(X:GCls C cl mN)(S:St C fz led Y G s)(hx:led x=some (.obj cl dx)):x≠cl:=λq=>by
 (refine cZ X.ex λN o1 _ _=>?_;obtain ⟨⟨_,_,_,_,_,_,_,_,_,_,_,_,e⟩,_⟩:=o1)
 have:=S.rel.new x _ (aC hx);subst q;(first|exact (aH (this ..) e).elim|cases aJ (this ..) e|(rw[this]at e;cases e))
theorem SetA.inst(X:GCls C cl mN)(hx:led x=some (.obj cl dx))(hd:led dx=some (.ns1 m))(hna:mN name=none)(hB:typeLookup (.type "object") name=pure none)(hl:m.length≤1000)(h:K (upd led dx (.ns1 (uQ m name d)))) :
  SetA C Y led (.ref x) name d K:=by
 intro A fz G s v u hA S e1 e2;induction e1 using aT;refine aL (S.atL hd) λmv hns hm=>?_
 have I:s.heap.Inst x cl mv:=by
  refine tX (S.atL hx) λo ho hoc hod hoi hne=>?_
  exact⟨o,ho,hoc,hod,.inr ⟨dx,hoi,hne,hns⟩⟩
 obtain ⟨N,⟨nm,q,bs,sn,sub,col,dd,k0,k1,k2,k3,k5,hC⟩,hN⟩:=X.at_ S;exact store_attr (ns:=m.map (·.1)) PySem.F.store_object hC hN X.sa hna hB (X.ne S hx) I (λh' tk' I' hk hsame=>⟨fz,G,_,.refl _,.refl _,S.setA hx hd e2 hm tk' I' hk hsame,h⟩) (aAC hm) (by erw[List.length_map];exact Nat.le_trans hl (by decide))

theorem SaY.inst(X:GCls C cl mN)(hx:led x=some (.obj cl dx))(hd:led dx=some (.ns1 m))(hna:mN name=none)(hB:typeLookup (.type "object") name=pure none)(hl:m.length≤1000)(h:K (upd led dx (.ns1 (uQ m name d)))):∀Y,SetA C Y led (.ref x) name d K:=λ_=>SetA.inst X hx hd hna hB hl h
theorem GetA.inst(X:GCls C cl mN)(hx:led x=some (.obj cl dx))(hd:led dx=some (.ns1 m))(hna:mN name=none)(hB:typeLookup (.type "object") name=pure none)(hm:m.lookup name=some d)(hb:∀id,d≠.blt id)(h:Q d led) :
  GetA C Y led (.ref x) name Q:=by
 intro A fz G s v ex hA S e1;induction e1 using aT;obtain ⟨N,⟨nm,q,bs,sn,sub,col,dd,k0,k1,k2,k3,k5,hC⟩,hN⟩:=X.at_ S;refine tX (S.atL hx) λo ho hoc hod hoi hne=>?_
 refine aL (S.atL hd) λmv hns hmv=>?_
 have hq:=hmv name;rw[hm]at hq;cases hv:mv name with
 | none=>rw[hv]at hq;exact hq.elim
 | some v =>
  rw[hv]at hq;exact load_attr hC hN X.ga hna hB ⟨o,ho,hoc,hod,.inr ⟨dx,hoi,hne,hns⟩⟩ hv (rH hq hb) (Pst.leaf (S.tok _) hq h)

theorem GaY.inst(X:GCls C cl mN)(hx:led x=some (.obj cl dx))(hd:led dx=some (.ns1 m))(hna:mN name=none)(hB:typeLookup (.type "object") name=pure none)(hm:m.lookup name=some d)(hb:∀id,d≠.blt id)(h:Q d led):∀Y,GetA C Y led (.ref x) name Q:=λ_=>GetA.inst X hx hd hna hB hm hb h
theorem GetM.inst(X:GCls C cl mN)(hx:led x=some (.obj cl dx))(hd:led dx=some (.ns1 m))(hf:mN name=some (.ref f))(hfo:C.h₀.get? f=some of)(hft:¬C.tab f)(hfc:of.cls=.type "function")
  (hB:typeLookup (.type "object") name=pure y) (hm:m.lookup name=none):GetM C Y led (.ref x) name (.ref f) [.ref x]:=by
 intro A fz G s v pl Q hA S e1 h;induction e1 using aT;obtain ⟨N,⟨nm,q,bs,sn,sub,col,dd,k0,k1,k2,k3,k5,hC⟩,hN⟩:=X.at_ S;refine tX (S.atL hx) λo ho hoc hod hoi hne=>?_
 refine aL (S.atL hd) λmv hns hmv=>?_
 have hq:=hmv name;rw[hm]at hq;cases hv:mv name with
 | some v=>rw[hv]at hq;exact hq.elim
 | none =>
  have S':=S;obtain ⟨hh,g,dr,t,os⟩:=s;exact method_of hC hN X.ga X.gh hf (S.base _ _ hfo hft) hfc hB ⟨o,ho,hoc,hod,.inr ⟨dx,hoi,hne,hns⟩⟩ hv (h fz _ _ _ (.refl _) S' (.ref f) (.cons (.ref x) .nil))

theorem SetA.fn(hx:led x=some (.fn none fd))(hB:typeLookup (.type "function") name=pure none)(h:∀a,led a=none→K (upd (upd led x (.fn (some a) fd)) a (.ns1 [(name,d)]))):SetA C Y led (.ref x) name d K:=by
 intro A fz G s v u hA S e1 e2;induction e1 using aT;refine cL (S.atL hx) λho hcd=>?_
 have ha:=aO s.heap (Nat.le_refl _);have S':=S;obtain ⟨hh,g,dr,t,os⟩:=s;refine aBt ho hB λh' tk' hn hxx hk=>?_
 have hxs:x≠hh.objs.size:=Nat.ne_of_lt (Heap.lt_size ho);have S1:St C fz (upd led x (.fn (some hh.objs.size) fd)) Y G ⟨h',g,dr,tk',os⟩:=S'.wr hx (m:=.fn (some hh.objs.size) fd) (h':=h') tk' (λb o hb e=>hk b o hb e) ⟨hxx,hcd⟩;refine⟨fz,G,_,.refl _,.refl _,?_,h hh.objs.size (S'.fresh ha).1⟩;refine⟨S1.dj.upd _ (S'.fresh ha).2,?_⟩;erw[cX]
 have fresh:Un (upd led x (.fn (some hh.objs.size) fd)) Y hh.objs.size=none:=by
  erw[cX,aG _ _ hxs.symm];exact S'.rel.freshT ha
 exact {
  fzIn:=S1.rel.fzIn
  ledIn:=λb mm e=>by
   by_cases hb:b=hh.objs.size
   ·subst hb;(first|exact (aH (aA ..) e).elim|cases aJ (aA ..) e|(rw[aA]at e;cases e));refine⟨_,hn,λy=>?_⟩;by_cases hy:y=name
    ·subst hy;simp only[if_pos];erw[List.lookup_cons_self];exact e2
    ·simp only[if_neg hy];erw[List.lookup_cons,beq_eq_false_iff_ne.mpr hy];exact trivial
   ·rw[aG _ _ hb]at e;exact S1.rel.ledIn b mm e
  apart:=λb o e=>by
   by_cases hb:b=hh.objs.size
   ·subst hb;(first|exact (aH (S'.rel.freshF ha ..) e).elim|cases aJ (S'.rel.freshF ha ..) e|(rw[S'.rel.freshF ha]at e;cases e))
   ·erw[aG _ _ hb];exact S1.rel.apart b o e
  fzt:=S1.rel.fzt
  new:=λb mm e=>by
   by_cases hb:b=hh.objs.size
   ·subst hb;exact S'.rel.freshB ha
   ·rw[aG _ _ hb]at e;exact S1.rel.new b mm e
  base:=S1.rel.base
  tabs:=S1.rel.tabs
  old:=S1.rel.old
  os:=S1.rel.os
  gens:=S1.rel.gens }
theorem SaY.fn(hx:led x=some (.fn none fd))(hB:typeLookup (.type "function") name=pure none)(h:∀a,led a=none→K (upd (upd led x (.fn (some a) fd)) a (.ns1 [(name,d)]))):∀Y,SetA C Y led (.ref x) name d K:=λ_=>SetA.fn hx hB h
theorem uS(hx:led x=some (.fn (some dx) fd))(hd:led dx=some (.ns1 m))(hB:typeLookup (.type "function") name=pure none)(hm:m.lookup name=some r)(hb:∀id,r≠.blt id) :
  GetM C Y led (.ref x) name r []:=by
 intro A fz G s v pl Q hA S e1 h;induction e1 using aT;refine cL (S.atL hx) λho hcd=>?_
 refine aL (S.atL hd) λmv hns hmv=>?_
 have hq:=hmv name;rw[hm]at hq;cases hv:mv name with
 | none=>rw[hv]at hq;exact hq.elim
 | some v =>
  rw[hv]at hq;have S':=S;obtain ⟨hh,g,dr,t,os⟩:=s;exact aAB ho hB hns hv (rH hq hb) (h fz _ _ _ (.refl _) (S'.tok _) hq .nil)
end

section
variable {C:Cx} {led:aF} {fe:Fe} {vs:aD} {k:Nat}
noncomputable abbrev aEN(C:Cx)(k:Nat)(attr:Str)(Q:D→aF→Prop):D→aF→Prop:=λd led1=>∀Y,GetA C Y led1 d attr Q
noncomputable abbrev aGc(C:Cx)(vs:aD)(k:Nat)(attr:Str)(Q:Fl→aD→aF→Prop)(d:D):D→aF→Prop:=λod led2=>∀Y,SetA C Y led2 od attr d (Q .next vs)
noncomputable abbrev aGd(C:Cx)(fe:Fe)(vs:aD)(k:Nat)(o:Expr)(attr:Str)(Q:Fl→aD→aF→Prop):D→aF→Prop:=λd led1=>WE C led1 fe vs k (eval o fe.env) (aGc C vs k attr Q d)
noncomputable abbrev aGe(C:Cx)(vs:aD)(k:Nat)(attr:Str)(Q:Fl→aD→aF→Prop)(od:D):D→aF→Prop:=λd3 led4=>∀Y,SetA C Y led4 od attr d3 (Q .next vs)
noncomputable abbrev aGf(C:Cx)(fe:Fe)(vs:aD)(k:Nat)(e:Expr)(f:Value→Value→Sem Value)(attr:Str)(Q:Fl→aD→aF→Prop)(od:D):D→aF→Prop:=λd led2=>WE C led2 fe vs k (eval e fe.env) (aCq C k f (aGe C vs k attr Q od) d)
noncomputable abbrev aGg(C:Cx)(fe:Fe)(vs:aD)(k:Nat)(e:Expr)(f:Value→Value→Sem Value)(attr:Str)(Q:Fl→aD→aF→Prop):D→aF→Prop:=λod led1=>∀Y,GetA C Y led1 od attr (aGf C fe vs k e f attr Q od)
theorem aCz{value:Expr}{attr:Str}{pos:Pos}{Q:D→aF→Prop}(h:WE C led fe vs k (eval value fe.env) (aEN C k attr Q))
  (he:autoParam (eval (.Attribute value attr pos) fe.env=(do
   let o←eval value fe.env
   standAt pos.atName
   let r←holding [o] (getAttr o attr true)
   letTemporaryGo value o r
   pure r)) cD):WE C led fe vs k (eval (.Attribute value attr pos) fe.env) Q:=by
 intro F X hF hd A fz G s hA S;refine Attribute_any_ (aW (h F X hF hd A fz G s hA S) λv1 s1 fz1 G1 d1 led1 l1 g1 e1 S1 h1=>?_) he;exact fin (h1 _ A fz1 G1 s1 v1 true (hA.r.mono (Nat.zero_le _)) S1 e1) l1 g1
theorem oS(h:WE C led fe vs k (eval e fe.env) (aGd C fe vs k o attr Q))
  (hs:autoParam (swapsWith e (some (.Attribute o attr px)) pos.line fe.env=pure false) cD):WS C led fe vs k (exec (.Assign [.Attribute o attr px] e pos) fe.env) Q:=by
 intro F X hF hd A fz G s hA S;refine plainObj_wpAny_Assign_Attribute (aW (h F X hF hd A fz G s hA S) λv1 s1 fz1 G1 d1 led1 l1 g1 e1 S1 h1=>?_) hs;refine aW (h1 F X hF hd A fz1 G1 s1 hA S1) λv2 s2 fz2 G2 d2 led2 l2 g2 e2 S2 h2=>?_
 refine wpAny_mono (h2 _ A fz2 G2 s2 v2 v1 (hA.r.mono (Nat.zero_le _)) S2 e2 (e1.mono l2)) (λ_ s3 p=>?_) λ_ _ x=>x.elim
 (refine wY p λfz3 G3 led3 l3 g3 S3 q=>?_;clear p)
 exact⟨fz3,G3,F,vs,led3,.next,(l1.trans l2).trans l3,(g1.trans g2).trans g3,trivial,hF,hd,S3,q⟩
theorem uT
  (h:WE C led fe vs k (eval o fe.env) (aGg C fe vs k e (inplaceOp op) attr Q)) :
  WS C led fe vs k (exec (.AugAssign (.Attribute o attr px) op e pos) fe.env) Q:=by
 intro F X hF hd A fz G s hA S;have hA0:=hA.r.mono (Nat.zero_le k);refine wpAny_AugAssign_AttributeAny (aW (h F X hF hd A fz G s hA S) λv1 s1 fz1 G1 d1 led1 l1 g1 e1 S1 h1=>?_);refine aW (h1 _ A fz1 G1 s1 v1 true hA0 S1 e1) λv2 s2 fz2 G2 d2 led2 l2 g2 e2 S2 h2=>?_
 refine aW (h2 F X hF hd A fz2 G2 s2 hA S2) λv3 s3 fz3 G3 d3 led3 l3 g3 e3 S3 h3=>?_
 refine aW (h3 _ A fz3 G3 s3 v2 v3 hA.r S3 (e2.mono l3) e3) λv4 s4 fz4 G4 d4 led4 l4 g4 e4 S4 h4=>?_
 refine wpAny_mono (h4 _ A fz4 G4 s4 v1 v4 hA0 S4 (((e1.mono l2).mono l3).mono l4) e4) (λ_ s5 p=>?_) λ_ _ x=>x.elim
 (refine wY p λfz5 G5 led5 l5 g5 S5 q=>?_;clear p)
 exact⟨fz5,G5,F,vs,led5,.next,(((l1.trans l2).trans l3).trans l4).trans l5,(((g1.trans g2).trans g3).trans g4).trans g5,trivial,hF,hd,S5,q⟩
end
end Sc

set_option maxRecDepth 100000
namespace Sc
open Builtin Builtin.ObjectAttr

theorem uU:typeLookup (.type "function") "__set__"=pure none:=by erw[typeLookup_type,builtinLookup_eq_fast];kernel_rfl
theorem oU:typeLookup (.type "function") "__delete__"=pure none:=by erw[typeLookup_type,builtinLookup_eq_fast];kernel_rfl

section
variable {prog:Program} {w:World} {A:Around} {E:Value→Shared→Prop} {h:Heap} {g:Array GenState} {d:Drawn} {t:Nat} {os:OsState}
variable {nm q:Str} {C N x:Addr} {bs:List Value} {sn:List Str} {sub:List Value} {ab:Bool} {col:Option Bool} {dd:Option Addr} {k0 k1 k2 k3 k5:Option Value} {newId:String}
 {mN mA:Str→Option Value} {name:Str} {v:Value}

theorem aEO(hfo:s.heap.get? f=some of)(hfc:of.cls=.type "function")
  (h:R (.ok (.ret (.ref s.heap.objs.size))) { s with heap:=s.heap.push (jK f x) }):codeAny (model prog w) A (.call (.builtin "function.__get__") ⟨[.ref f,.ref x,tp],[]⟩) R s :=
 PySem.W.fn_get (K:=[(f,of)]) (λb o e=>by
  rw[List.lookup_cons]at e;by_cases z:b=f
  ·subst z;simp at e;subst e;exact hfo
  ·rw[beq_eq_false_iff_ne.mpr z]at e;exact bN e) (by show Option.map _ (List.lookup f [(f,of)])=_;erw[List.lookup_cons_self];simp[hfc]) h

theorem uV
  (hC:h.get? C=some (excClassObj nm q C N bs [.type "object"] true sn sub ab col dd k0 k1 k2 k3 k5 newId)) (hn:h.Ns N mN) (hf:mN name=some (.ref f)) (hfo:h.get? f=some of) (hfc:of.cls=.type "function")
  (hgh:mN "__getattr__"=none) (hB:typeLookup (.type "object") name=pure y) (I:∃o dx,h.get? x=some o∧o.cls=.ref C∧(∀c,o.data≠.cls c)∧o.dict=some dx∧h.Ns1 dx mA) (hv:mA name=none) (hcp:(["__module__","__name__","__qualname__","__doc__","__annotations__"]:List Str).contains name=false)
  (hq:Q (.done (.ret (.ref h.objs.size))) ⟨h.push (jK f x),g,d,t,os⟩) :
  wpAny (model prog w) A (Builtin.«proto.getattr_hooked» ⟨[.ref x,.str name tk],[]⟩) Q E ⟨h,g,d,t,os⟩:=by
 (refine aEx I λo dx hx hc hnc hdx hns=>?_;clear I)
 have hT:(⟨h,g,d,t,os⟩:Shared).TypeIs (.ref f) "function":=⟨_,hfo,hfc⟩;have f1:=PySem.W.KF.slot_fn.lookup;have f2:=uU;have f3:=oU;unfold Builtin.«proto.getattr_hooked»
 repeat (first|(with_reducible refine wpAny_loadPart_at hx ?_;rw[hc])| (with_reducible refine wpAny_typeLookup_exc hC hn F.mro_object hB ?_;rw[hf])| (with_reducible refine wpAny_typeLookup_exc hC hn F.mro_object F.lk_object_getattr ?_;rw[hgh])| wp_step)
 split
 ·rename_i c hcd;exact absurd hcd (hnc c)
 unfold instanceDict
 repeat (first|(with_reducible refine wpAny_loadPart_at hx ?_;rw[hc])| with_reducible refine wpAny_loadPart_at hC ?_|wp_step)
 erw[hdx];have hcg:copiedAttributeGuard name (Value.ref x)=pure ():=by unfold copiedAttributeGuard;erw[hcp];rfl
 repeat (first|(with_reducible refine wpAny_nsGet hns.ns ?_;rw[hv])| rw[hcg]| (with_reducible refine wpAny_typeLookup_exc hC hn F.mro_object F.lk_object_getattr ?_;rw[hgh])| wp_step)
 refine aEO (s:=⟨h,g,d,t,os⟩) hfo hfc ?_
 repeat (first|exact hq|wp_step)
theorem xG
  (hC:h.get? C=some (excClassObj nm q C N bs [.type "object"] true sn sub ab col dd k0 k1 k2 k3 k5 newId)) (hn:h.Ns N mN) (hf:mN name=some (.ref f)) (hfo:h.get? f=some of) (hfc:of.cls=.type "function") (hng:mN "__getattribute__"=none)
  (hgh:mN "__getattr__"=none) (hB:typeLookup (.type "object") name=pure y) (I:∃o dx,h.get? x=some o∧o.cls=.ref C∧(∀c,o.data≠.cls c)∧o.dict=some dx∧h.Ns1 dx mA) (hv:mA name=none) (hcp:(["__module__","__name__","__qualname__","__doc__","__annotations__"]:List Str).contains name=false)
  (hq:Q (.ref h.objs.size) ⟨h.push (jK f x),g,d,t+1,os⟩) :
  wpAny (model prog w) A (getAttr (.ref x) name expr) Q E ⟨h,g,d,t,os⟩:=by
 refine cU (id I) λo dx hx hc _=>?_
 unfold getAttr getAttrBy
 repeat (first|(with_reducible refine wpAny_loadPart_at hx ?_;rw[hc])| (with_reducible refine wpAny_typeLookup_exc hC hn F.mro_object F.lk_object_ga ?_;rw[hng])| wp_step)
 refine (?_:wpAny _ _ ((runValue (.builtin "proto.getattr_hooked" ⟨[.ref x,.str name t],[]⟩)).onRaise (noteIf true (.ref x) (.str name t))) _ _ _);refine wpAny_onRaise (wpAny_runValue (codeAny_builtin F.plainObj_entry_getattr_hooked (uV hC hn hf hfo hfc hgh hB I hv hcp ?_)));exact wpAny_pure hq
end
section
variable {C:Cx} {Y led:aF} {cl x dx:Addr} {mN:Str→Option Value} {m:List (Str×D)} {name:Str} {d:D} {Q:D→aF→Prop} {K:aF→Prop} {k:Nat}
theorem GetA.bound(X:GCls C cl mN)(hx:led x=some (.obj cl dx))(hd:led dx=some (.ns1 m))(hf:mN name=some (.ref f))(hfo:C.h₀.get? f=some of)(hft:¬C.tab f)(hfc:of.cls=.type "function")
  (hB:typeLookup (.type "object") name=pure y) (hm:m.lookup name=none) (hcp:(["__module__","__name__","__qualname__","__doc__","__annotations__"]:List Str).contains name=false) (h:Q (.meth f x) led):GetA C Y led (.ref x) name Q:=by
 intro A fz G s v ex hA S e1;induction e1 using aT;obtain ⟨N,⟨nm,q,bs,sn,sub,col,dd,k0,k1,k2,k3,k5,hC⟩,hN⟩:=X.at_ S;refine tX (S.atL hx) λo ho hoc hod hoi hne=>?_
 refine aL (S.atL hd) λmv hns hmv=>?_
 have hq:=hmv name;rw[hm]at hq;cases hv:mv name with
 | some v=>rw[hv]at hq;exact hq.elim
 | none =>
  have ha:=aO s.heap (Nat.le_refl _);have hz:=S.rel.freshF ha;have S':=S;have hfo':=S.base _ _ hfo hft;obtain ⟨hh,g,dr,t,os⟩:=s;refine xG hC hN hf hfo' hfc X.ga X.gh hB ⟨o,dx,ho,hoc,hod,hoi,hns⟩ hv hcp ?_;exact⟨_,G,.meth f x,led,bI hz,.refl _,.meth (cA ..),⟨S'.dj,S'.rel.allocF ha _ (λb o e=>Heap.get?_push_of_some _ e) (Heap.get?_push_size _ rfl)⟩,h⟩
theorem GaY.bound(X:GCls C cl mN)(hx:led x=some (.obj cl dx))(hd:led dx=some (.ns1 m))(hf:mN name=some (.ref f))(hfo:C.h₀.get? f=some of)(hft:¬C.tab f)(hfc:of.cls=.type "function")(hB:typeLookup (.type "object") name=pure y)(hm:m.lookup name=none)(hcp:(["__module__","__name__","__qualname__","__doc__","__annotations__"]:List Str).contains name=false)(h:Q (.meth f x) led):∀Y,GetA C Y led (.ref x) name Q:=λ_=>GetA.bound X hx hd hf hfo hft hfc hB hm hcp h
end
end Sc

set_option maxRecDepth 100000
namespace Sc
open Builtin

theorem CodeW.meth(h:CodeW C Y led k (.ref f) (.ref x::ds) Q):CodeW C Y led k (.meth f x) ds Q:=by
 intro A fz G s fv vs hA S e1 e2;cases e1 with
 | meth e =>
  exact PySem.W.method_call (S.rel.fzIn _ _ e) (h A fz G s _ _ hA S (.ref f) (.cons (.ref x) e2))

theorem slot_ci_next:Slot "callable_iterator" "__next__" "callable_iterator.__next__":=.of (owner:="callable_iterator") (n:="__next__") (by erw[typeLookup_type,builtinLookup_eq_fast];kernel_rfl) (by decide +kernel) (by decide +kernel) (by decide +kernel)
  (by first|exact .inl (by decide +kernel)| exact .inr (by decide +kernel)) (by erw[isSubtype_type];kernel_rfl)
theorem qK:entryFor table "callable_iterator.__next__"=some Builtin.«callable_iterator.__next__»:=entryFor_of_tree (by kernel_rfl)
theorem sJ(a:Value):argsOk "callable_iterator.__next__" ⟨[a],[]⟩:=by unfold argsOk;kernel_rfl
theorem kU:Slot "callable_iterator" "__iter__" "callable_iterator.__iter__":=.of (owner:="callable_iterator") (n:="__iter__") (by erw[typeLookup_type,builtinLookup_eq_fast];kernel_rfl) (by decide +kernel) (by decide +kernel) (by decide +kernel)
  (by first|exact .inl (by decide +kernel)| exact .inr (by decide +kernel)) (by erw[isSubtype_type];kernel_rfl)
theorem qL:entryFor table "callable_iterator.__iter__"=some Builtin.«dict_keyiterator.__iter__» :=
 entryFor_alias (id':="dict_keyiterator.__iter__") (by kernel_rfl) rfl (by decide +kernel) (by kernel_rfl)
theorem sK(a:Value):argsOk "callable_iterator.__iter__" ⟨[a],[]⟩:=by unfold argsOk;kernel_rfl
theorem rI:builtinKind "iter"=none:=by decide +kernel
theorem oV:plainId "iter"=true:=by decide +kernel
theorem oW:entryFor table "iter"=some Builtin.«iter»:=entryFor_of_tree (by kernel_rfl)
theorem mQ(a b:Value):argsOk "iter" ⟨[a,b],[]⟩:=by unfold argsOk;kernel_rfl
theorem oX:∃v,typeLookup (.type "method") "__call__"=pure (some v):=⟨.builtin "method.__call__",by erw[typeLookup_type,builtinLookup_eq_fast];kernel_rfl⟩

noncomputable abbrev iD:M:=.flds "callable_iterator" [.none,.none,.bool true]
section
variable {C:Cx} {Y led:aF} {k:Nat}

theorem CallW.iter2(h:∀a,led a=none→Q (.ref a) (upd led a (.flds "callable_iterator" [.meth f x,e,.bool false]))):CallW C Y led k (.blt "iter") [.meth f x,e] Q:=by
 intro A fz G s fv vs hA S e1 e2;induction e1 using bX;induction e2 using rZ with|k _ v x1 x2 =>
 cases x1 with
 | meth em =>
  rename_i r;have ho:=S.rel.fzIn _ _ em;refine aN oX λcv hcv=>?_
  refine Calls.call_function_entry rI oV oW (mQ _ _) ?_;refine (?_:wpAny _ _ (specialOf (.ref r) "__call__" >>= λb=>if b.isNone then _ else _) _ _ s);refine wpAny_bind (wpAny_specialOf (T:="method") ⟨_,ho,rfl⟩ hcv ?_);refine (?_:wpAny _ _ (rule "iter.sentinel" >>= λ_=>newFields "callable_iterator" [.ref r,v,.bool false] >>= λv=>ret v) _ _ s);refine wpAny_bind (wpAny_rule ?_);have ha:=aO s.heap (Nat.le_refl _);refine wpAny_bind (wpAny_newObj_type (wpAny_pure ⟨_,rfl,?_⟩));exact⟨fz,G,.ref _,_,.refl _,.refl _,.ref _,S.newL ha (m:=.flds "callable_iterator" [.meth f x,e,.bool false]) s.toks (λb o e=>Heap.get?_push_of_some _ e) ⟨[.ref r,v,.bool false],Heap.get?_push_size _ rfl,.cons (.meth em) (.cons x2 (.cons (.bool _) .nil))⟩,h _ (S.fresh ha).1⟩

theorem KcY.iter2(h:∀a,led a=none→Q (.ref a) (upd led a (.flds "callable_iterator" [.meth f x,e,.bool false]))):∀Y,KCal C Y led k (.blt "iter") [.meth f x,e] Q:=λ_=>⟨KeepOk.blt _,CallW.iter2 h⟩
theorem rJ{prog:Program}{w:World}{E:Value→Shared→Prop}{a:Addr}{vs:List Value}{Q:Value→Shared→Prop}(ho:s.heap.get? a=some { cls:=.type "callable_iterator",data:=.fields vs.toArray })(h:Q (.ref a) s) :
  wpAny (model prog w) A (pyIter (.ref a)) Q E s:=by
 have hT:s.TypeIs (.ref a) "callable_iterator":=⟨_,ho,rfl⟩;refine wpAny_pyIter_slot hT kU (wpAny_call_entry kU hT qL ?_ (sK _));refine (?_:wpAny _ _ (ret (.ref a)) _ _ s);exact wpAny_pure ⟨_,rfl,"callable_iterator",_,hT,slot_ci_next.lookup,h⟩

inductive PsnN (C:Cx) (fz:Fz) (Y:aF) (G:Array GenState) (P:Option D→aF→Prop) (s':Shared):Prop
 | mk (fz':Fz) (G':Array GenState) (led':aF):FzLe fz fz'→GExt G G'→St C fz' led' Y G' s'→P none led'→PsnN C fz Y G P s'
inductive PsnS (C:Cx) (fz:Fz) (Y:aF) (G:Array GenState) (P:Option D→aF→Prop) (v:Value) (s':Shared):Prop
 | mk (fz':Fz) (G':Array GenState) (d:D) (led':aF):FzLe fz fz'→GExt G G'→Den fz' v d→St C fz' led' Y G' s'→P (some d) led'→PsnS C fz Y G P v s'
noncomputable def Psn(C:Cx)(fz:Fz)(Y:aF)(G:Array GenState)(P:Option D→aF→Prop):Option Value→Shared→Prop:=λo s' =>
 match o with
 | none=>PsnN C fz Y G P s'
 | some v=>PsnS C fz Y G P v s'
noncomputable def NextW(C:Cx)(Y led:aF)(k:Nat)(a:Addr)(P:Option D→aF→Prop):Prop :=
 ∀A fz G s,RoomY k A Y→St C fz led Y G s→wpAny (model C.prog C.w) A (pyNext (.ref a)) (Psn C fz Y G P) No s

theorem kG{M:Model}{E:Value→Shared→Prop}{f:Value}{pos:List Value}{Q:Value→Shared→Prop}
  (hc:codeAny M A (.call f ⟨pos,[]⟩) (λr s'=>match r with|.ok (.ret v)=>Q v s'|.ok _=>False|.error e=>E e s') s):wpAny M A (callBorrowed f pos) Q E s:=by
 intro Γ p hΓ;unfold callBorrowed;erw[Sem.wp_call];refine wpCode_mono (λr s' q=>?_) (hc _ p rfl (hΓ.enter _ none p (by intro x;exact bN x)))
 match r,q with
 | .ok (.ret v),q=>erw[Sem.wp_pure];exact q
 | .error e,q=>erw[Sem.wp_raise];exact q

theorem sL(hA:A.handled=none)
  (h:∀e h',(∀b o,s.heap.get? b=some o→h'.get? b=some o)→Shared.TypeIs { s with heap:=h' } (.ref e) "StopIteration"→E (.ref e) { s with heap:=h' }):wpAny (model prog w) A (Builtin.SmallTypes.stopIteration:Sem α) Q E s:=by
 unfold Builtin.SmallTypes.stopIteration;refine wpAny_bind ?_;simp only[newExc,newTuple];refine wpAny_bind (wpAny_newObj_type ?_ (by size_fits));refine wpAny_bind (m:=firstArgMember _ _) (wpAny_of_eq (a:=Value.none) (by first|rfl|(simp only[firstArgMember];rfl)) ?_);refine wpAny_newObj_type ?_ (by size_fits);unfold raiseNew;refine wpAny_bind (wpAny_handled ?_);erw[hA];exact wpAny_bind (wpAny_pure (wpAny_throw (h _ _ (λb o e=>Heap.get?_push_of_some _ (Heap.get?_push_of_some _ e)) ⟨_,Heap.get?_push_size _ rfl,rfl⟩)))
noncomputable def aBv(Q:Option Value→Shared→Prop):PySem.Fin→Shared→Prop:=λfin s'=>∃v,fin=.done (.ret v)∧Q (some v) s'
noncomputable def CiStop(Q:Option Value→Shared→Prop):Value→Shared→Prop:=λx s'=>∃e,x=.ref e∧s'.TypeIs (.ref e) "StopIteration"∧Q none s'
theorem rK(ho:s.heap.get? a=some { cls:=.type "callable_iterator",data:=.fields vs })
  (h:wpAny (model prog w) A.in1 (Builtin.«callable_iterator.__next__» ⟨[.ref a],[]⟩) (aBv Q) (CiStop Q) s):wpAny (model prog w) A (pyNext (.ref a)) Q E s:=by
 have hT:s.TypeIs (.ref a) "callable_iterator":=⟨_,ho,rfl⟩;unfold pyNext;refine wpAny_bind (wpAny_attempt (wpAny_callSpecial?_slot (name:=Str.ofString "__next__") hT slot_ci_next (wpAny_call_entry slot_ci_next hT qK (wpAny_mono h (λfin s' q=>?_) λx s' q=>?_) (sJ _))))
 ·(refine aL q ?_;clear q;intro v e q)
  exact⟨v,e,wpAny_pure q⟩
 ·(refine cZ q ?_;clear q;intro e o1 hs q;subst o1)
  exact wpAny_bind (wpAny_isInstance (T:="StopIteration") (b:=true) hs isSubtype_stop (wpAny_pure q))
theorem CiStop.of(l:FzLe fz0 fz)(g:GExt G0 G)(S:St C fz led Y G s)(h:P none led):∀e h',(∀b o,s.heap.get? b=some o→h'.get? b=some o)→Shared.TypeIs { s with heap:=h' } (.ref e) "StopIteration"→CiStop (Psn C fz0 Y G0 P) (.ref e) { s with heap:=h' } :=
 λe h' hk ht=>⟨e,rfl,ht,fz,G,led,l,g,S.ext s.toks hk,h⟩
theorem St.ciAt(S:St C fz led Y G s)(ha:led a=some (.flds "callable_iterator" [c,e,.bool false])) :
  ∃u v,s.heap.get? a=some { cls:=.type "callable_iterator",data:=.fields #[u,v,.bool false] }∧Den fz u c∧Den fz v e:=by
 refine aL (S.atL ha) λvs ho hd=>?_
 induction hd using sA with|k v u w d0 d1 d2 =>
 induction d2 using dI with|k =>
 exact⟨v,u,ho,d0,d1⟩
noncomputable abbrev oY(C:Cx)(Y:aF)(c:D)(f:Addr)(fd:FuncData):Prop:=(∀fz u,Den fz u c→∃r,u=.ref r)∧∀(led:aF) (fz:Fz) (G:Array GenState) (s:Shared) (u:Value) (A:Around) (Q:Bool→Shared→Prop) (E:Value→Shared→Prop),St C fz led Y G s→Callable C Y led f fd→Den fz u c→Q true s→wpAny (model C.prog C.w) A (borrowsExactly u) Q E s
noncomputable abbrev aCA(C:Cx){α:Type}(e:α)(mk:α→D):Prop:=∀(y:α) (fz:Fz) (u v:Value) (A:Around) (s:Shared) (Q:Bool→Shared→Prop) (E:Value→Shared→Prop),Den fz u (mk y)→Den fz v (mk e)→(y=e→Q true s)→(y≠e→Q false s)→wpAny (model C.prog C.w) A (eqBool v u) Q E s
theorem aBw:oY C Y (.meth f x) f fd:=⟨λfz u d=>by induction d using qZ;exact⟨_,rfl⟩,λled fz G s u A Q E S hf d h=>by
 refine cZ (hf fz G s S) λfo hfo hfd _=>?_
 induction d using qZ with|k r em =>
 unfold borrowsExactly;refine wpAny_bind (wpAny_load (S.rel.fzIn _ _ em) ?_);refine wpAny_bind (m:=load f) (wpAny_load hfo ?_);erw[hfd]
 exact wpAny_pure h⟩
theorem aDT:aCA C e .str:=λy fz u v A s Q E du dv h1 h2=>by
 induction du using bH;induction dv using bH;refine wpAny_eqBool_str ?_;by_cases hy:y=e
 ·erw[decide_eq_true hy.symm];exact h1 hy
 ·erw[decide_eq_false (Ne.symm hy)];exact h2 hy
theorem aCB(L:oY C Y c f fd)(S:St C fz led Y G s)(ha:led a=some (.flds "callable_iterator" [c,e,.bool false]))(hf:Callable C Y led f fd)
  (ho:s.heap.get? a=some { cls:=.type "callable_iterator",data:=.fields #[u,v,.bool false] }) (em:Den fz u c)
  (h:∀h',St C fz (upd led a iD) Y G { s with heap:=h' }→Q () { s with heap:=h' }) :
  wpAny (model C.prog C.w) A (slotLetsGo "callable_iterator.__next__" u (fun|.builtin "callable_iterator.__next__" x=>x.pos.head? == some (.ref a)| _=>false) >>= λ_=>setField (.ref a) 0 .none >>= λ_=>setField (.ref a) 1 .none >>= λ_=>setField (.ref a) 2 (.bool true)) Q E s:=by
 (refine aN (L.1 _ _ em) λr o1=>?_;subst o1)
 unfold slotLetsGo;refine wpAny_bind (wpAny_bind (L.2 _ _ _ _ _ _ _ _ S hf em (wpAny_pure ?_)));have o2:=Heap.get?_update_self (Obj.mapFields (·.setIfInBounds 0 .none)) ho rfl;have o3:=Heap.get?_update_self (Obj.mapFields (·.setIfInBounds 1 .none)) o2 rfl;have o4:=Heap.get?_update_self (Obj.mapFields (·.setIfInBounds 2 (.bool true))) o3 rfl;refine wpAny_bind (wpAny_setField ho rfl (Nat.le_of_ble_eq_true rfl) (wpAny_bind (wpAny_setField o2 rfl (Nat.le_of_ble_eq_true rfl) (wpAny_setField o3 rfl (Nat.le_refl _) (h _ ?_)))));exact S.wr ha (m:=iD) s.toks (λb o hb ho=>((Heap.SameBut.update ..).2 b hb).trans (((Heap.SameBut.update ..).2 b hb).trans (((Heap.SameBut.update ..).2 b hb).trans ho))) ⟨[.none,.none,.bool true],o4,.cons .none (.cons .none (.cons (.bool _) .nil))⟩
theorem aAD{α:Type}{mk:α→D}{a f:Addr}{c:D}{e y:α}{w:Value}{fd:FuncData}{P:Option D→aF→Prop}{G G0:Array GenState}(L:oY C Y c f fd)(K:aCA C e mk)(hA:A.handled=none)(S:St C fz led Y G s)(ha:led a=some (.flds "callable_iterator" [c,mk e,.bool false]))(hcal:Callable C Y led f fd)
  (l:FzLe fz0 fz) (g:GExt G0 G) (dw:Den fz w (mk y)) (hend:y=e→P none (upd led a iD)) (hitem:y≠e→P (some (mk y)) led) :
  wpAny (model C.prog C.w) A (do
   if (← field (.ref a) 2) == .bool true then rule "callable_iterator.__next__.ended-meanwhile"; Builtin.SmallTypes.stopIteration
   if !(← holding [w] (eqBool (← field (.ref a) 1) w)) then return←ret w
   rule "callable_iterator.__next__.sentinel"; (do slotLetsGo "callable_iterator.__next__" (← field (.ref a) 0) (fun|.builtin "callable_iterator.__next__" x=>x.pos.head? == some (.ref a)| _=>false);setField (.ref a) 0 .none;setField (.ref a) 1 .none;setField (.ref a) 2 (.bool true):Sem Unit);Builtin.SmallTypes.stopIteration)
   (aBv (Psn C fz0 Y G0 P)) (CiStop (Psn C fz0 Y G0 P)) s:=by
 refine cU (S.ciAt ha) λu v ho em dv=>?_
 refine wpAny_bind (m:=field (.ref a) 2) (wpAny_field ho rfl (x:=.bool false) rfl ?_);refine wpAny_bind (m:=field (.ref a) 1) (wpAny_field ho rfl (x:=v) rfl ?_);refine wpAny_bind (wpAny_holding (K y fz w v _ _ _ _ dw dv (λhy=>?_) λhy=>?_))
 ·refine wpAny_bind (m:=rule "callable_iterator.__next__.sentinel") (wpAny_rule ?_);refine wpAny_bind (wpAny_bind (m:=field (.ref a) 0) (wpAny_field ho rfl (x:=u) rfl (aCB L S ha hcal ho em λh' S2=>?_)));exact sL hA (CiStop.of l g S2 (hend hy))
 ·exact wpAny_pure ⟨_,rfl,fz,G,mk y,led,l,g,dw,S,hitem hy⟩
theorem rL{α:Type}{mk:α→D}{a f:Addr}{c:D}{e:α}{fd:FuncData}{P:Option D→aF→Prop}(L:oY C Y c f fd)(K:aCA C e mk)(ha:led a=some (.flds "callable_iterator" [c,mk e,.bool false]))(hf:Callable C Y led f fd)
  (h:CodeW C Y led k c [] λd led'=>∃y,d=mk y∧led' a=led a∧Callable C Y led' f fd∧(y=e→P none (upd led' a iD))∧(y≠e→P (some (mk y)) led')):NextW C Y led (k+1) a P:=by
 intro A fz G s hA S;refine cU (S.ciAt ha) λu v ho em dv=>?_
 refine rK ho ?_;refine wpAny_bind (m:=field (.ref a) 2) (wpAny_field ho rfl (x:=.bool false) rfl ?_);refine wpAny_bind (m:=field (.ref a) 0) (wpAny_field ho rfl (x:=u) rfl ?_)
 (refine aN (L.1 _ _ em) λr o1=>?_;subst o1)
 refine wpAny_bind (wpAny_attempt ?_);unfold callOutOfASlot;refine wpAny_bind (L.2 _ _ _ _ _ _ _ _ S hf em ?_);refine kG (codeAny_mono (h A.in1 fz G s _ [] hA.in1 S em .nil) λr s1 p=>?_)
 match r,p with
 | .ok (.ret v),p =>
  obtain ⟨fz1,G1,d1,led1,l1,g1,e1,S1,y,rfl,hkeep,hcal,hend,hitem⟩:=p;exact aAD L K hA.r.1 S1 (hkeep.trans ha) hcal l1 g1 e1 hend hitem
 | .error e,p=>exact p.elim
theorem uW(ha:led a=some (.flds "callable_iterator" [.meth f x,.str e,.bool false]))(hf:Callable C Y led f fd)
  (h:CodeW C Y led k (.ref f) [.ref x] λd led'=>∃y,d=.str y∧led' a=led a∧Callable C Y led' f fd∧(y=e→P none (upd led' a iD))∧(y≠e→P (some (.str y)) led')):NextW C Y led (k+1) a P :=
 rL aBw aDT ha hf (CodeW.meth h)
theorem sM(ha:led a=some iD)(h:P none led):NextW C Y led k a P:=by
 intro A fz G s hA S;refine aL (S.atL ha) λvs ho hd=>?_
 induction hd using sA with|k v0 v1 v2 d0 d1 d2 =>
 induction d2 using dI with|k =>
 refine rK ho ?_;refine wpAny_bind (m:=field (.ref a) 2) (wpAny_field ho rfl (x:=.bool true) rfl ?_);refine wpAny_bind (m:=rule "callable_iterator.__next__.ended") (wpAny_rule (wpAny_bind ?_));exact sL hA.r.1 (CiStop.of (.refl _) (.refl _) S h)
end
end Sc
namespace Sc
section
variable {C:Cx} {led:aF} {fe:Fe} {vs:aD} {k:Nat}
theorem uX{M:Model}{t:Sem (Option Value)}{G:Array GenState}{P:Option D→aF→Prop}{R:Option Value→Shared→Prop}{E:Value→Shared→Prop}
  (h:wpAny M A t (Psn C fz Y G P) No s)
  (k1:∀v s' fz' G' d led',FzLe fz fz'→GExt G G'→Den fz' v d→St C fz' led' Y G' s'→P (some d) led'→R (some v) s')
  (k2:∀s' fz' G' led',FzLe fz fz'→GExt G G'→St C fz' led' Y G' s'→P none led'→R none s'):wpAny M A t R E s :=
 wpAny_mono h (λo s' p=>by
  cases o with
  | none=>cases p with|mk fz' G' led' a b c q=>exact k2 s' fz' G' led' a b c q
  | some v=>cases p with|mk fz' G' d led' a b c e q=>exact k1 v s' fz' G' d led' a b c e q) λ_ _ x=>x.elim
noncomputable abbrev KNx(C:Cx)(fe:Fe)(vs2:aD)(k:Nat)(target:Expr)(body:List Stmt)(I:Nat→aD→aF→Prop)(n:Nat)(Q:Fl→aD→aF→Prop):Option D→aF→Prop:=λo led3=>match o with
    | none=>Q .next vs2 led3
    | some x=>WU C led3 fe vs2 k (PySem.assign target fe.env) x (KFB C fe k body (aDk I n Q))
structure KForN2 (C:Cx) (fe:Fe) (vs:aD) (k:Nat) (target:Expr) (body:List Stmt) (I:Nat→aD→aF→Prop) (n:Nat) (Q:Fl→aD→aF→Prop) (a:Addr) (led1:aF):Prop where
 at_:∃f x e b,led1 a=some (.flds "callable_iterator" [f,x,b])∧e=()
 s:KSome (I n) vs led1
 go:∀n vs2 led2,I n vs2 led2→∀Y,NextW C Y led2 k a (KNx C fe vs2 k target body I n Q)
inductive KForN (C:Cx) (fe:Fe) (vs:aD) (k:Nat) (target:Expr) (body:List Stmt) (I:Nat→aD→aF→Prop) (n:Nat) (Q:Fl→aD→aF→Prop) (d:D) (led1:aF):Prop
 | mk (a:Addr):d=.ref a→KForN2 C fe vs k target body I n Q a led1→KForN C fe vs k target body I n Q d led1
theorem sN(I:Nat→aD→aF→Prop)(n:Nat) 
  (h:WE C led fe vs k (eval iter fe.env) (KForN C fe vs k target body I n Q))
  (ht:autoParam (∀it v,letOwnedTupleGo target it v=pure ()) dD) (hs:autoParam (∀x,foldedSetIterable iter fe.env x=pure x) dD) :
  WS C led fe vs k (exec (.For target iter body [] pos) fe.env) Q:=by
 intro F X hF hd A fz G s hA S;refine wpAny_For (aW (h F X hF hd A fz G s hA S) λv1 s1 fz1 G1 d1 led1 l1 g1 e1 S1 h1=>?_) hs;obtain ⟨a,rfl,⟨f,x,e,b,hci,_⟩,⟨vs0,hsub,hI0⟩,step⟩:=h1;induction e1 using aT;refine aL (S1.atL hci) λus ho _=>?_
 refine rJ ho ?_
 refine codeAny_forLoop (λn s'=>∃fz' G' F' vs' led',FzLe fz1 fz'∧GExt G1 G'∧FOk fe vs' F' X∧Dj F' X∧St C fz' led' (Un F' X) G' s'∧I n vs' led')
  (λn s3 hI=>?_) n ⟨fz1,G1,F,vs0,led1,.refl _,.refl _,hF.sub hsub,hd,S1,hI0⟩ (ht _)
 (refine aCo hI ?_;clear hI;intro fz3 G3 F3 vs3 led3 l3 g3 hF3 hd3 S3 hI)
 refine uX (step n vs3 led3 hI _ A fz3 G3 s3 (hA.y hF3 hd3) S3) (λv s4 fz4 G4 d led4 l4 g4 e4 S4 h4=>?_) λs4 fz4 G4 led4 l4 g4 S4 h4=>?_
 ·refine eK (h4 F3 X hF3 hd3 A fz4 G4 s4 v hA S4 e4) λs5 fz5 G5 F5 vs5 led5 l5 g5 hF5 hd5 S5 h5=>?_
  refine gI (h5 F5 X hF5 hd5 A fz5 G5 s5 hA S5) λf s6 fz6 G6 F6 vs6 led6 fl l6 g6 e6 hF6 hd6 S6 h6=>?_
  have L:FzLe fz1 fz6:=((l3.trans l4).trans l5).trans l6;have GG:GExt G1 G6:=((g3.trans g4).trans g5).trans g6;induction e6 using jL with
  | next=>obtain ⟨m,vs7,hm,hs7,hI7⟩:=h6;exact⟨m,hm,fz6,G6,F6,vs7,led6,L,GG,hF6.sub hs7,hd6,S6,hI7⟩
  | cont=>obtain ⟨m,vs7,hm,hs7,hI7⟩:=h6;exact⟨m,hm,fz6,G6,F6,vs7,led6,L,GG,hF6.sub hs7,hd6,S6,hI7⟩
  | brk=>exact⟨fz6,G6,F6,vs6,led6,.next,l1.trans L,g1.trans GG,trivial,hF6,hd6,S6,h6⟩
  | ret v d e6=>exact⟨fz6,G6,F6,vs6,led6,.ret d,l1.trans L,g1.trans GG,e6,hF6,hd6,S6,h6⟩
 ·exact wpAny_execs_nil ⟨fz4,G4,F3,vs3,led4,.next,(l1.trans l3).trans l4,(g1.trans g3).trans g4,trivial,hF3,hd3,S4,h4⟩
end
end Sc

set_option maxRecDepth 100000
namespace Sc
set_option tactic.hygienic false
open PySem.W (CodeHd tabObj fnX kla_fn kla_obj fnMade)

theorem xH{pos p:Pos}{c:Value}:∀(l:List Value),TriplesOk l→∀{v:Value},codeAmong p (l++[rawInt pos.line,rawInt pos.col,c])=some v→codeAmong p l=some v∨(p.line=pos.line∧p.col=pos.col∧v=c):=by
 intro l h
 fun_induction TriplesOk l with
 | case1 =>
  intro v e;simp only[List.nil_append,codeAmong,rawInt]at e;split at e
  ·rename_i hc;simp only[Bool.and_eq_true,beq_iff_eq]at hc
   (have e1:=Option.some.inj e;clear e;subst e1)
   exact .inr ⟨by exact Nat.le_antisymm (bC [.ieq (.c .p0) (.c .p1)] (.le .p0 .p1) aB hc.1.symm) (bC [.ieq (.c .p0) (.c .p1)] (.le .p0 .p1) aB hc.1),by exact Nat.le_antisymm (bC [.ieq (.c .p0) (.c .p1)] (.le .p0 .p1) aB hc.2.symm) (bC [.ieq (.c .p0) (.c .p1)] (.le .p0 .p1) aB hc.2),rfl⟩
  ·exact bN e
 | case2 a t b u x rest ih =>
  intro v e;simp only[List.cons_append,codeAmong]at e ⊢;split at e
  ·rename_i hc;erw[if_pos hc];exact .inl e
  ·rename_i hc;erw[if_neg hc];exact ih h e
 | case3 l h1 h2=>exact h.elim

section
variable {C:Cx} {fz:Fz} {led Y:aF} {G:Array GenState} {s:Shared}
theorem sO{h:Heap}{c P:Addr}{ps:Array Value}(x:h.IsCode c P ps):c≠P∧TriplesOk ps.toList:=by
 obtain ⟨_,_,_,_,_,_,_,_,_,_,_,_,_,_,_,_,_,_,_,x,y⟩:=x;exact⟨y,x⟩
theorem St.table(S:St C fz led Y G s)(tk:Nat)(hct:C.ct c P)(hic:s.heap.IsCode c P ps)(hta:s.heap.TableAt c P ps)
  (hfc:∀pos v,codeAmong pos ps.toList=some v→FCode fz v (C.dq c pos)) (hx:Heap.ExtBut P s.heap h') (hP:h'.get? P=some (tabObj (ps++#[rawInt pos.line,rawInt pos.col,.ref c'])))
  (hn:s.heap.objs.size≤c') (hoc:h'.get? c'=some oc) (hd:oc.data=.fields vs) (hq:vs[1]?=some (.str q t)) (hdq:C.dq c pos=q):∃fz',FzLe fz fz'∧FCode fz' (.ref c') q∧St C fz' led Y G { s with heap:=h',toks:=tk }:=by
 have hz:=S.rel.freshF (aO s.heap hn);have le:FzLe fz (eZ fz c' oc):=bI hz;refine aN (C.tabIs c P hct) λps₀ hta₀=>?_
 have hne:∀b o,fz b=some o→b≠P:=λb o e z=>S.rel.fzt b o e ⟨c,z▸hct⟩
 have hneT:∀b m,Un led Y b=some m→b≠P:=λb m e z=>by
  have:=S.rel.new b m e;rw[z]at this;(first|exact (aH (hta₀.2 ..) this).elim|cases aJ (hta₀.2 ..) this|(rw[hta₀.2]at this;exact dN this))
 refine cL (sO hic) λhcP tri=>?_
 have fc:FCode (eZ fz c' oc) (.ref c') q:=⟨c',oc,vs,t,rfl,cA ..,hd,hq⟩;have hd2:CodeHd s.heap c P:=CodeHd.of hic hta;have hd3:CodeHd h' c P:=by obtain ⟨o,vs,file,tf,flags,tg,inF,text,tt,e,r⟩:=hd2;exact⟨o,vs,file,tf,flags,tg,inF,text,tt,hx c o hcP e,r⟩
 have tri':TriplesOk (ps++#[rawInt pos.line,rawInt pos.col,.ref c']).toList:=by
  have:=TriplesOk_snoc pos.line pos.col (.ref c') ps.toList tri
  simpa using this
 refine⟨_,le,fc,S.dj,?_⟩
 exact {
  fzIn:=λb p e=>by
   rcases fA e with ⟨rfl,rfl⟩| e
   ·exact hoc
   ·exact hx b p (hne b p e) (S.rel.fzIn b p e)
  ledIn:=λb m e=>((S.rel.ledIn b m e).at λo=>hx b o (hneT b m e)).mono le
  apart:=λb p e=>by
   rcases fA e with ⟨rfl,rfl⟩| e
   ·exact S.rel.freshT (aO s.heap hn)
   ·exact S.rel.apart b p e
  fzt:=λb p e=>by
   rcases fA e with ⟨rfl,rfl⟩| e
   ·intro o21;obtain ⟨c₁,hc₁⟩:=o21;refine aL (C.tabIs c₁ _ hc₁) λps _ e2=>?_
    (first|exact (aH (S.rel.freshB (aO s.heap hn) ..) e2).elim|cases aJ (S.rel.freshB (aO s.heap hn) ..) e2|(rw[S.rel.freshB (aO s.heap hn)]at e2;cases e2))
   ·exact S.rel.fzt b p e
  new:=S.rel.new
  base:=λb o e n=>hx b o (λz=>n ⟨c,z▸hct⟩) (S.rel.base b o e n)
  tabs:=λc₁ P₁ e=>by
   by_cases hPP:P₁=P
   ·subst hPP;have:=C.uniq _ _ _ e hct;subst this;refine⟨_,hd3.code hP tri',hd3.tab hP,λp v hv=>?_⟩;rw[show (ps++#[rawInt pos.line,rawInt pos.col,Value.ref c']).toList=ps.toList++[rawInt pos.line,rawInt pos.col,.ref c'] by simp]at hv;rcases xH _ tri hv with hv|⟨p1,p2,rfl⟩
    ·exact (hfc p v hv).mono le
    ·erw[C.dqe c₁ p pos p1 p2,hdq];exact fc
   ·have hcP1:c₁≠P:=λz=>C.tabNo c₁ P₁ c e (z▸hct)
    exact ((S.rel.tabs c₁ P₁ e).extBut hx hcP1 hPP).mono le
  old:=OldK.step_table S.rel.old hta₀ hta (hd3.tab hP) hx (λz=>C.cs c (z▸hct))
  os:=S.rel.os
  gens:=S.rel.gens }
end

section
variable {C:Cx} {fz:Fz} {led Y:aF} {G:Array GenState} {s:Shared} {A:Around} {E:Value→Shared→Prop}
theorem St.builtinsAt(S:St C fz led Y G s)(hct:C.ct c P):s.heap.BuiltinsAt C.mg P:=by
 refine aFP C.bat λbm o e n1 n2 h r1 r2 r3 r4=>?_
 exact⟨bm,o,e,n1,n2,λz=>r4 c (z▸hct),S.base _ _ h (λ⟨c',hc'⟩=>r4 c' hc'),r1,r2,r3⟩
theorem zN(hct:C.ct c P):mainGlobals≠P:=λz=>C.gt c (z▸hct)
theorem sP{h:Heap}{c P:Addr}{ps:Array Value}(hic:h.IsCode c P ps):TriplesOk ps.toList:=by obtain ⟨_,_,_,_,_,_,_,_,_,_,_,_,_,_,_,_,_,_,e,h,_⟩:=hic;exact h
theorem aDU(S:St C fz led Y G s)(hg:env.globals=mainGlobals)(hcode:env.code=.ref c)(hct:C.ct c P)(hdq:C.dq c pos=qual)
  (hcl:closureFor scope env=pure clos)
  (h:∀fz' f fd s',FzLe fz fz'→FnIs fd params (.stmts body) scope clos→led f=none→St C fz' (upd led f (.fn none fd)) Y G s'→Q (.ref f) s') :
  wpAny (model prog w) A (makeFunction name qual params (.stmts body) scope env [] [] [] pos fl) Q E s:=by
 refine cZ (S.rel.tabs c P hct) λps hic hta hfc=>?_
 cases hf:codeAmong pos ps.toList with
 | none =>
  refine PySem.W.makeFunction_K hcl hg S.glob hcode (CodeHd.of hic hta) hta.2 (sP hic) hf (zN hct) (S.builtinsAt hct) λc' ctv doc h' tk hx hge hlt hrec hP=>?_
  (refine aDI hrec λc₂ oc vs t e2 hoc hd hv=>?_;clear hrec)
  (injection e2 with e1;subst e1)
  refine cZ (S.table tk hct hic hta hfc hx hP hge hoc hd hv hdq) λfz' le fc S'=>?_
  have ha:=aO h' (Nat.le_refl _);exact h fz' _ _ _ le ⟨rfl,rfl,rfl,rfl,rfl,rfl,rfl⟩ (S'.fresh ha).1 (S'.newL ha (m:=.fn none _) tk (λb o e=>Heap.get?_push_of_some _ e) ⟨Heap.get?_push_size _ rfl,fc⟩)
 | some cv =>
  refine PySem.W.makeFunction_hit hcl hg S.glob hcode (CodeHd.of hic hta) hta.2 (sP hic) hf (S.builtinsAt hct) λctv doc h' tk hk hsz=>?_
  have S':=S.ext tk hk;have ha:=aO h' (Nat.le_refl _);exact h fz _ _ _ (.refl _) ⟨rfl,rfl,rfl,rfl,rfl,rfl,rfl⟩ (S'.fresh ha).1 (S'.newL ha (m:=.fn none _) tk (λb o e=>Heap.get?_push_of_some _ e) ⟨Heap.get?_push_size _ rfl,by erw[← hdq];exact hfc pos cv hf⟩)
theorem aCC(S:St C fz led Y G s)(hg:env.globals=mainGlobals)(hcode:env.code=.ref c)(hct:C.ct c P)(hdq:C.dq c pos=qual)
  (hcl:closureFor scope env=pure clos)
  (h:∀fz' f fd s',FzLe fz fz'→FnIs fd params (.expr body) scope clos→led f=none→St C fz' (upd led f (.fn none fd)) Y G s'→Q (.ref f) s') :
  wpAny (model prog w) A (makeFunction name qual params (.expr body) scope env [] [] [] pos fl) Q E s:=by
 refine cZ (S.rel.tabs c P hct) λps hic hta hfc=>?_
 cases hf:codeAmong pos ps.toList with
 | none =>
  refine PySem.W.kla_makeFunction hcl hg S.glob hcode (CodeHd.of hic hta) hta.2 (sP hic) hf (zN hct) (S.builtinsAt hct) λc' ctv h' tk hx hge hlt hrec hP=>?_
  (refine aDI hrec λc₂ oc vs t e2 hoc hd hv=>?_;clear hrec)
  (injection e2 with e1;subst e1)
  refine cZ (S.table tk hct hic hta hfc hx hP hge hoc hd hv hdq) λfz' le fc S'=>?_
  have ha:=aO h' (Nat.le_refl _);exact h fz' _ _ _ le ⟨rfl,rfl,rfl,rfl,rfl,rfl,rfl⟩ (S'.fresh ha).1 (S'.newL ha (m:=.fn none _) tk (λb o e=>Heap.get?_push_of_some _ e) ⟨Heap.get?_push_size _ rfl,fc⟩)
 | some cv =>
  refine PySem.W.kla_makeFunctionHit hcl hg S.glob hcode (CodeHd.of hic hta) hta.2 (sP hic) hf (S.builtinsAt hct) λctv h' tk hk hsz=>?_
  have S':=S.ext tk hk;have ha:=aO h' (Nat.le_refl _);exact h fz _ _ _ (.refl _) ⟨rfl,rfl,rfl,rfl,rfl,rfl,rfl⟩ (S'.fresh ha).1 (S'.newL ha (m:=.fn none _) tk (λb o e=>Heap.get?_push_of_some _ e) ⟨Heap.get?_push_size _ rfl,by erw[← hdq];exact hfc pos cv hf⟩)
end

section
variable {C:Cx} {led:aF} {fe:Fe} {vs:aD} {k:Nat}
theorem nO(hcode:fe.env.code=.ref c)(hct:C.ct c P)(hdq:C.dq c pos=qualnameIn fe.env name name) 
  (h:∀f fd,FnIs fd params (.stmts body) scope (bS scope fe.env.cells)→led f=none→WU C (upd led f (.fn none fd)) fe vs k (storeName fe.env name) (.ref f) λvs' led'=>Q .next vs' led')
  (hfree:autoParam ((cI scope).all fe.ow.contains=true) cD) (hd0:autoParam (params.defaults=[]) cD) (hk0:autoParam (params.kw_defaults=[]) cD) (ha:autoParam (annTrees params none fe.env=[]) cD) :
  WS C led fe vs k (exec (.FunctionDef name params body [] none [] scope none name pos) fe.env) Q:=by
 intro F X hF hd A fz G s hA S
 have hcl:closureFor scope fe.env=pure (bS scope fe.env.cells):=gJ λx hx=>by
  refine cJ (hF.own x (List.contains_iff_mem.mp (List.all_eq_true.mp hfree x hx))) λc dd e _=>?_
  exact⟨c,e⟩
 refine PySem.W.nestDef_K hd0 hk0 ha (aDU S hF.glob hcode hct hdq hcl λfz1 f fd s1 l1 hi hf S1=>?_);exact eK (h f fd hi hf F X hF hd A fz1 G s1 (.ref f) hA S1 (.ref f)) λs2 fz2 G2 F2 vs2 led2 l2 g2 hF2 hd2 S2 q=>⟨fz2,G2,F2,vs2,led2,.next,l1.trans l2,g2,trivial,hF2,hd2,S2,q⟩
theorem aAE(hcode:fe.env.code=.ref c)(hct:C.ct c P)(hdq:C.dq c pos=fe.env.qual++"<lambda>") 
  (h:∀f fd,FnIs fd params (.expr body) scope (bS scope fe.env.cells)→led f=none→Q (.ref f) (upd led f (.fn none fd)))
  (hfree:autoParam ((cI scope).all fe.ow.contains=true) cD) (hdef:autoParam (defaultsOf params fe.env=([],[])) cD) :
  WE C led fe vs k (eval (.Lambda params body scope pos) fe.env) Q:=by
 intro F X hF hd A fz G s hA S
 have hcl:closureFor scope fe.env=pure (bS scope fe.env.cells):=gJ λx hx=>by
  refine cJ (hF.own x (List.contains_iff_mem.mp (List.all_eq_true.mp hfree x hx))) λc dd e _=>?_
  exact⟨c,e⟩
 refine PySem.W.kla_eval hdef (aCC S hF.glob hcode hct hdq hcl λfz1 f fd s1 l1 hi hf S1=>?_);exact⟨fz1,G,.ref f,_,l1,.refl _,.ref f,S1,h f fd hi hf⟩
end
end Sc

namespace Sc
set_option tactic.hygienic false
theorem St.keepCell(S:St C fz led (Un F X) G s)(hd:Dj F X)(hc:F c=some m):St C fz (upd led c m) X G s:=by
 have hl:led c=none:=(S.dj c).resolve_right (by erw[aC hc];exact Option.some_ne_none _);refine⟨(S.dj.right).upd m (hd.of_some hc),?_⟩;refine S.rel.forget λa m' e=>?_
 rw[cX]at e;by_cases ha:a=c
 ·subst ha;(first|exact (aH (aA ..) e).elim|cases aJ (aA ..) e|(rw[aA]at e;cases e));erw[aE hl,aC hc]
 ·rw[aG _ _ ha]at e;cases hl':led a with
  | some m''=>rw[aC hl']at e ⊢;exact e
  | none =>
   rw[aE hl']at e ⊢;erw[aE ((hd a).resolve_right (by erw[e];exact Option.some_ne_none _))];exact e
noncomputable def aDm(cs:List (Str×Addr))(x₀:Str)(Q:D→aF→Prop):Fl→aD→aF→Prop:=λfl vs led'=>match fl with
 | .ret d=>∃dx,vs.lookup x₀=some dx∧∀c,cs.lookup x₀=some c→led' c=none→Q d (upd led' c (.cell (some dx)))
 | _=>False
noncomputable def GFnC(C:Cx)(a:Addr)(st:Stmt)(c:Addr)(q:Str):Prop:=∃fd,GFnF C a st fd∧fd.code=.ref c∧fd.qualname=q
theorem GFnC.fn{a:Addr}{st:Stmt}{c:Addr}{q:Str}(h:GFnC C a st c q):GFn C a st:=let ⟨fd,h,_⟩:=h;⟨fd,h⟩
theorem oZ{k:Nat}{a:Addr}{st:Stmt}{name name':Str}{args:Arguments}{body:List Stmt}{scope:Scope}{pos:Pos}{ds:List D}{Q:D→aF→Prop}{c:Addr}{q:Str}(h:GFnC C a st c q)
  (hst:st=.FunctionDef name args body [] none [] scope none name' pos) (vs:aD) (hok:fK args (vs.map (·.1)) scope=true) (hds:ds=vs.map (·.2))
  (hb:∀L cs,WS C led (dF scope L cs (q++".<locals>.") a (.ref c)) vs k (execs body (dF scope L cs (q++".<locals>.") a (.ref c)).env) (Back Q)):CodeW C Y led (k+1) (.ref a) ds Q :=
 let ⟨fd,h,e1,e2⟩:=h;gP (h.1 Y led) (h.is hst) hok hds CloOk.nil rfl λL cs _ F X hF=>by rw[e1,e2]at hF ⊢;exact (hb L cs).t F X hF.toNil
theorem xI{k:Nat}{a:Addr}{st:Stmt}{name name':Str}{args:Arguments}{body:List Stmt}{scope:Scope}{pos:Pos}{ds:List D}{Q:D→aF→Prop}{c:Addr}{q:Str}(h:GFnC C a st c q)
  (hst:st=.FunctionDef name args body [] none [] scope none name' pos) (vs:aD) (hok:fK args (vs.map (·.1)) scope=true) (hds:ds=vs.map (·.2))
  (x₀:Str) (hx₀:((aS scope).contains x₀ && (scope.names.lookup x₀ == some .cell))=true) (hb:∀L cs,WS C led (dF scope L cs (q++".<locals>.") a (.ref c)) vs k (execs body (dF scope L cs (q++".<locals>.") a (.ref c)).env) (aDm cs x₀ Q)):CodeW C Y led (k+1) (.ref a) ds Q:=by
 (refine cZ h ?_;clear h;intro fd h e1 e2)
 simp only[Bool.and_eq_true,List.contains_iff_mem,beq_iff_eq]at hx₀;refine CodeW.of (R:=λcs=>aDm cs x₀ Q) (h.1 Y led) (h.is hst) hok hds CloOk.nil rfl (λL cs _ F X hF=>by rw[e1,e2]at hF ⊢;exact (hb L cs).t F X hF.toNil) λL cs F vs2 led2 fz2 G2 s2 fl hF hd S q=>?_
 cases fl with
 | ret d =>
  (refine aL q λdx hdx hq=>?_;clear q)
  refine cJ (hF.own x₀ hx₀.1) λc dd hc1 hc2=>?_
  (refine aL (hF.cel x₀ dx hdx (show scope.names.lookup x₀≠some .local by erw[hx₀.2];intro z;(have e3:=Option.some.inj z;clear z;exfalso;injection e3))) λc' h1 h2=>?_)
  (first|exact (aH (hc1 ..) h1).elim|cases aJ (hc1 ..) h1|(rw[hc1]at h1;cases h1))
  (first|exact (aH (aC hc2 ..) h2).elim|cases aJ (aC hc2 ..) h2|(rw[aC hc2]at h2;cases h2))
  exact⟨_,S.keepCell hd hc2,hq c hc1 ((S.dj c).resolve_right (by erw[aC hc2];exact Option.some_ne_none _))⟩
 | _=>exact q.elim
theorem CodeW.nest(hl₀:led a=some (.fn dict fd))(hi:FnIs fd args (.stmts body) scope cl)(vs:aD)(hok:fK args (vs.map (·.1)) scope=true)(hds:ds=vs.map (·.2))
  (fv:aD) (hc:CloOk cl Y fv) (hfvs:(fv.all λp=>(scope.names.lookup p.1 == some .free) && !(aS scope).contains p.1)=true)
  (hb:∀L cs q code,(∀x,x∉aS scope→cs.lookup x=cl.lookup x)→WS C led (dF scope L cs q a code) (vs++fv) k (execs body (dF scope L cs q a code).env) (Back Q)):CodeW C Y led (k+1) (.ref a) ds Q :=
 gP (cC hl₀) hi hok hds hc hfvs λL cs i=>(hb L cs _ _ i).t

theorem FOk.clo{fe:Fe}{vs:aD}{F X:aF}(hF:FOk fe vs F X){sc:Scope}{fv:aD}(hfree:(cI sc).all fe.ow.contains=true)
  (hfv:(fv.all λp=>(cI sc).contains p.1 && !(fe.env.kindOf p.1 == some .local))=true) (hs:Sub fv vs):CloOk (bS sc fe.env.cells) (Un F X) fv where
 al:=λx c e=>by
  (refine cL (cH e) λhx o1=>?_;subst o1)
  refine cJ (hF.own x (List.contains_iff_mem.mp (List.all_eq_true.mp hfree x hx))) λc dd e1 e2=>?_
  exact⟨dd,by rw[e1];exact aC e2⟩
 inj:=λx y c ex ey=>by
  (refine cL (cH ex) λhx o1=>?_;subst o1)
  have hx_9:=cH ey;have hy:=hx_9.1;have e:=hx_9.2;refine cJ (hF.own x (List.contains_iff_mem.mp (List.all_eq_true.mp hfree x hx))) λc1 dd e1 _=>?_
  refine cJ (hF.own y (List.contains_iff_mem.mp (List.all_eq_true.mp hfree y hy))) λc2 dd2 e2 _=>?_
  rw[e1,e2]at e;exact hF.inj x y c1 e1 (by rw[e2];exact congrArg some e.symm)
 fv:=λx d e=>by
  have:=List.all_eq_true.mp hfv _ (mem_of_lookup e);simp only[Bool.and_eq_true,List.contains_iff_mem,Bool.not_eq_true',beq_eq_false_iff_ne]at this;refine aL (hF.cel x d (hs.spec x d e) this.2) λc e1 e2=>?_
  exact⟨c,by rw[iA this.1,e1];rfl,e2⟩
theorem aBx{fe:Fe}{vs:aD}{F X:aF}(hF:FOk fe vs F X){cl:List (Str×Addr)}{fv:aD}(hcl:∀x c,cl.lookup x=some c→fe.env.cells.lookup x=some c∧x∈fv.map (·.1))
  (hfv:∀p∈fv,fe.env.kindOf p.1≠some .local∧∃c,cl.lookup p.1=some c) (hn:(fv.map (·.1)).Nodup) (hs:Sub fv vs):CloOk cl (Un F X) fv where
 al:=λx c e=>by
  have hx_13:=hcl x c e;have e1:=hx_13.1;have e2:=hx_13.2
  (refine aL (List.mem_map.mp e2) λp hp o1=>?_;subst o1)
  have hd:∃d,fv.lookup p.1=some d:=by
   cases q:fv.lookup p.1 with
   | some d=>exact⟨d,rfl⟩
   | none=>exact absurd hp (by
     intro hp
     have:∀l:aD,p∈l→l.lookup p.1≠none:=by
      intro l;induction l with
      | nil=>intro h;cases h
      | cons r l ih =>
       intro h;rw[List.lookup_cons];by_cases hr:p.1=r.1
       ·rw[hr];simp
       ·rw[beq_eq_false_iff_ne.mpr hr];exact ih ((List.mem_cons.mp h).resolve_left (λz=>hr (by rw[z])))
     exact this fv hp q)
  (refine aN hd ?_;clear hd;intro d hd)
  refine aL (hF.cel p.1 d (hs.spec _ _ hd) (hfv p hp).1) λc' q1 q2=>?_
  (first|exact (aH (e1 ..) q1).elim|cases aJ (e1 ..) q1|(rw[e1]at q1;cases q1))
  exact⟨_,q2⟩
 inj:=λx y c ex ey=>hF.inj x y c (hcl x c ex).1 (hcl y c ey).1
 fv:=λx d e=>by
  have hm:=mem_of_lookup e;obtain ⟨k1,c,hc⟩:=hfv _ hm;refine aL (hF.cel x d (hs.spec _ _ e) k1) λc' q1 q2=>?_
  (first|exact (aH ((hcl x c hc).1 ..) q1).elim|cases aJ ((hcl x c hc).1 ..) q1|(rw[(hcl x c hc).1]at q1;cases q1))
  exact⟨c,hc,q2⟩
theorem xJ(hl:led c=none)(h:CodeW C (upd Y c m) led k f ds Q0)(hq:∀d led',Q0 d led'→led' c=none→Q d (upd led' c m)):CodeW C Y (upd led c m) k f ds Q:=by
 intro A fz G s fv vs hA S e1 e2;have hY:Y c=none:=S.dj.of_some (aA ..)
 have S':St C fz led (upd Y c m) G s:=by
  refine⟨λa=>?_,?_⟩
  ·by_cases ha:a=c
   ·subst ha;exact .inl hl
   ·erw[aG _ _ ha];have:=S.dj a
    rwa [aG _ _ ha]at this
  ·erw[cO _ _ _ _ hl,← cX];exact S.rel
 refine codeAny_mono (h A fz G s fv vs (hA.upY λa m e=>by erw[aG _ _ (λz=>by subst z;(first|exact (aH (hY ..) e).elim|cases aJ (hY ..) e|(rw[hY]at e;cases e)))];exact e) S' e1 e2) λr s' p=>?_
 match r,p with
 | .ok (.ret v),⟨fz',G',d,led',a,b,e,S2,q⟩ =>
  have hl2:led' c=none:=(S2.dj c).resolve_right (by erw[aA];exact Option.some_ne_none _);refine⟨fz',G',d,_,a,b,e,⟨λx=>?_,?_⟩,hq d led' q hl2⟩
  ·by_cases hx:x=c
   ·subst hx;exact .inr hY
   ·erw[aG _ _ hx];have:=S2.dj x
    rwa [aG _ _ hx]at this
  ·erw[cX,← cO _ _ _ _ hl2];exact S2.rel
 | .error e,p=>exact p.elim
end Sc

namespace Sc
set_option tactic.hygienic false

section
variable {C:Cx} {led:aF} {fe:Fe} {vs:aD} {k:Nat}
noncomputable def WUL(C:Cx)(led:aF)(fe:Fe)(vs:aD)(k:Nat)(ts:List (Value→Sem Unit))(ds:List D)(Q:aD→aF→Prop):Prop :=
 ∀F X,FOk fe vs F X→Dj F X→∀A fz G s us,RoomF k A fe X→St C fz led (Un F X) G s→Dens fz us ds→wpAny (model C.prog C.w) A (assignInOrder ts us) (Psu C fz X fe G Q) No s
noncomputable abbrev KUL(C:Cx)(fe:Fe)(k:Nat)(ts:List (Value→Sem Unit))(ds:List D)(Q:aD→aF→Prop):aD→aF→Prop:=λvs' led'=>WUL C led' fe vs' k ts ds Q
noncomputable abbrev KAT(C:Cx)(fe:Fe)(vs:aD)(k:Nat)(e:Expr)(Q:Fl→aD→aF→Prop):D→aF→Prop:=λd led1=>WU C led1 fe vs k (PySem.assign e fe.env) d (Q .next)
theorem WUL.nil(h:Q vs led):WUL C led fe vs k [] [] Q:=by
 intro F X hF hd A fz G s us hA S e;exact wpAny_pure ⟨fz,G,F,vs,led,.refl _,.refl _,hF,hd,S,h⟩
theorem WUL.cons(h:WU C led fe vs k t d (KUL C fe k ts ds Q)):WUL C led fe vs k (t::ts) (d::ds) Q:=by
 intro F X hF hd A fz G s us hA S e;cases e with
 | cons e1 e2 =>
  show wpAny _ _ (holding _ (t _) >>= λ_=>assignInOrder ts _) _ _ s
  refine wpAny_bind (wpAny_holding (eK (h F X hF hd A fz G s _ hA S e1) λs1 fz1 G1 F1 vs1 led1 l1 g1 hF1 hd1 S1 q=>?_));exact aF1 (q F1 X hF1 hd1 A fz1 G1 s1 _ hA S1 (e2.mono l1)) l1 g1
theorem WU.tuple(h:WUL C led fe vs k ((assignEach elts fe.env).map (·.2)) ds Q)(hn:autoParam ((assignEach elts fe.env).length=ds.length) cD)(hs:autoParam ((assignEach elts fe.env).findIdx? (·.1)=none) cD) :
  WU C led fe vs k (PySem.assign (.Tuple elts kk pos) fe.env) (.tup ds) Q:=by
 intro F X hF hd A fz G s v hA S e
 (refine aDJ (S.frozenTup e) λa us n o o1 hg hgc hgd hv=>?_;subst o1)
 refine wpAny_assign_Tuple hA.r.1 (items:=us.toArray) ⟨_,hg,hgc,n,hgd⟩ (by erw[hn,List.size_toArray,hv.length]) hs λh' hx=>?_
 have S':=S.ext s.toks (h':=h') λb o e=>hx b o (Nat.ne_of_lt (Heap.lt_size e)) e
 exact h F X hF hd A fz G _ us hA S' hv
theorem qM(h:WE C led fe vs k (eval e fe.env) (KAT C fe vs k (.Tuple elts kk tpos) Q))
  (hs:autoParam (swapsWithSole [.Tuple elts kk tpos] e pos.line fe.env=pure false) cD) (hw:autoParam (swappedStores [.Tuple elts kk tpos] e fe.env=pure none) cD) :
  WS C led fe vs k (exec (.Assign [.Tuple elts kk tpos] e pos) fe.env) Q:=by
 intro F X hF hd A fz G s hA S;refine PyProof.Rows.Assign_Tuple (aW (h F X hF hd A fz G s hA S) λv1 s1 fz1 G1 d1 led1 l1 g1 e1 S1 h1=>?_) hs hw;exact eK (h1 F X hF hd A fz1 G1 s1 v1 hA S1 e1) λs2 fz2 G2 F2 vs2 led2 l2 g2 hF2 hd2 S2 q=>⟨fz2,G2,F2,vs2,led2,.next,l1.trans l2,g1.trans g2,trivial,hF2,hd2,S2,q⟩
theorem WU.bind(h:WU C led fe vs k (storeName fe.env x) d Q):WU C led fe vs k (bindName fe.env x) d Q :=
 λF X hF hd A fz G s v hA S e=>wpAny_bindName (h F X hF hd A fz G s v hA S e)
theorem fY(h:WE C led fe vs k (eval e fe.env) λd led1=>∃ds,d=.tup ds∧ds.length=names.length∧WUL C led1 fe vs k (names.reverse.map λn=>bindName fe.env n) ds.reverse λvs' led2=>Q .next vs' led2)
  (hw:autoParam (swappedStores [.Tuple elts kk tpos] e fe.env=pure (some names)) cD) (hs:autoParam (swapsWithSole [.Tuple elts kk tpos] e pos.line fe.env=pure false) cD) :
  WS C led fe vs k (exec (.Assign [.Tuple elts kk tpos] e pos) fe.env) Q:=by
 intro F X hF hd A fz G s hA S;refine PyProof.Rows.Assign_Tuple_swapped (names:=names) (aW (h F X hF hd A fz G s hA S) λv1 s1 fz1 G1 d1 led1 l1 g1 e1 S1 h1=>?_) hs hw
 (refine cZ h1 ?_;clear h1;intro ds o1 hl h1;subst o1)
 (refine aDJ (S1.frozenTup e1) λa us n o o1 hg hgc hgd hv=>?_;subst o1)
 have hsz:names.length=us.toArray.size:=by erw[List.size_toArray,hv.length,hl]
 erw[hsz];refine wpAny_unpackItems_tuple hA.r.1 (items:=us.toArray) ⟨_,hg,hgc,n,hgd⟩ λh' hx=>?_
 have S':=S1.ext s1.toks (h':=h') λb o e=>hx b o (Nat.ne_of_lt (Heap.lt_size e)) e
 exact eK (h1 F X hF hd A fz1 G1 _ us.reverse hA S' hv.reverse) λs2 fz2 G2 F2 vs2 led2 l2 g2 hF2 hd2 S2 q=>⟨fz2,G2,F2,vs2,led2,.next,l1.trans l2,g1.trans g2,trivial,hF2,hd2,S2,q⟩
end

section
variable {C:Cx} {Y led:aF} {k:Nat}
theorem CallW.new(X:GCls C cl mN)(hi:mN "__init__"=some (.ref fI))(hfo:C.h₀.get? fI=some oI)(hft:¬C.tab fI)(hfc:oI.cls=.type "function")
  (h:∀x dx,led x=none→led dx=none→dx≠x→CallW C Y (upd (upd led x (.obj cl dx)) dx (.ns1 [])) k (.ref fI) (.ref x::ds) λd led'=>d=.none∧Q (.ref x) led'):CallW C Y led (k+1) (.ref cl) ds Q:=by
 intro A fz G s fv vs hA S e1 e2;induction e1 using aT;obtain ⟨N,⟨nm,q,bs,sn,sub,col,dd,k0,k1,k2,k3,k5,hC⟩,hN⟩:=X.at_ S;have hfo':=S.base _ _ hfo hft;have S0:=S;obtain ⟨hh,g,dr,t,os⟩:=s;refine wpAny_call_obj_init PySem.F.objNew hC hN hi hfo' hfc λh' x dx M=>?_
 refine tW M.inst λo ho hoc hod hdd=>?_
 have hdict:=M.dict o ho
 have hne:dx≠x∧h'.Ns1 dx λ_=>none:=by
  rcases hdd with ⟨z,_⟩| ⟨d,z,z1,z2⟩
  ·(first|exact (aH (hdict ..) z).elim|cases aJ (hdict ..) z|(rw[hdict]at z;exact dN z))
  ·(first|exact (aH (hdict ..) z).elim|cases aJ (hdict ..) z|(rw[hdict]at z;cases z));exact⟨z1,z2⟩
 have S1:St C fz (upd led x (.obj cl dx)) Y G ⟨h',g,dr,t,os⟩:=S0.newL M.newX (m:=.obj cl dx) t M.keeps ⟨o,ho,hoc,hod,hdict,hne.1⟩;have hdx0:=S0.fresh M.newD
 have S2:St C fz (upd (upd led x (.obj cl dx)) dx (.ns1 [])) Y G ⟨h',g,dr,t,os⟩:=by
  refine⟨S1.dj.upd _ hdx0.2,?_⟩;erw[cX]
  exact {
   fzIn:=S1.rel.fzIn
   ledIn:=λb mm e=>by
    by_cases hb:b=dx
    ·subst hb;(first|exact (aH (aA ..) e).elim|cases aJ (aA ..) e|(rw[aA]at e;cases e));exact⟨_,hne.2,λy=>trivial⟩
    ·rw[aG _ _ hb]at e;exact S1.rel.ledIn b mm e
   apart:=λb o e=>by
    by_cases hb:b=dx
    ·subst hb;(first|exact (aH (S0.rel.freshF M.newD ..) e).elim|cases aJ (S0.rel.freshF M.newD ..) e|(rw[S0.rel.freshF M.newD]at e;cases e))
    ·erw[aG _ _ hb];exact S1.rel.apart b o e
   fzt:=S1.rel.fzt
   new:=λb mm e=>by
    by_cases hb:b=dx
    ·subst hb;exact S0.rel.freshB M.newD
    ·rw[aG _ _ hb]at e;exact S1.rel.new b mm e
   base:=S1.rel.base
   tabs:=S1.rel.tabs
   old:=S1.rel.old
   os:=S1.rel.os
   gens:=S1.rel.gens }
 have hA1:RoomY k (A.under (.builtin "type.__call__" ⟨.ref cl::vs,[]⟩)) Y:=by
  refine⟨⟨hA.r.1,?_,?_⟩,?_⟩
  ·show A.depth+1+k<1000;have:=hA.r.2.1;exact bC [.lt (.a .p0 (.a .p1 .k1)) (.k 1000)] (.lt (.a (.a .p0 .k1) .p1) (.k 1000)) aB this
  ·have:=hA.r.2.2;show (A.under _).units+20*k<9900
   have hu:(A.under (.builtin "type.__call__" ⟨.ref cl::vs,[]⟩)).units=A.units+(1+3*0):=by
    show A.units+(1+3*Code.frames _)=_
    erw[show Code.frames (.builtin "type.__call__" ⟨.ref cl::vs,[]⟩)=0 from rfl]
   exact eF [.lt (.a .p0 (.l 20 (.a .p1 .k1))) (.k 9900),.eq .p2 (.a .p0 (.a .k1 (.l 3 (.k 0))))] (.lt (.a .p2 (.l 20 .p1)) (.k 9900)) aB this hu
  ·refine aL hA.fr λl e q=>?_
   refine⟨l,?_,q⟩;show pushEnvs (Code.builtin "type.__call__" ⟨.ref cl::vs,[]⟩).envs A.frames=some l
   erw[show (Code.builtin "type.__call__" ⟨.ref cl::vs,[]⟩).envs=[] from rfl];exact e
 refine wpAny_mono (h x dx (S0.fresh M.newX).1 hdx0.1 hne.1 _ fz G _ (.ref fI) (.ref x::vs) hA1 S2 (.ref fI) (.cons (.ref x) e2)) (λr s' p=>?_) λ_ _ z=>z.elim
 obtain ⟨fz',G',d,led',l,g',e,S3,rfl,hq⟩:=p;induction e using gO;exact⟨rfl,fz',G',.ref x,led',l,g',.ref x,S3,hq⟩
theorem KeepOk.cls(X:GCls C cl mN):KeepOk C Y led (.ref cl):=by
 intro A fz G s v Q S e q;induction e using aT;obtain ⟨N,⟨nm,q',bs,sn,sub,col,dd,k0,k1,k2,k3,k5,hC⟩,hN⟩:=X.at_ S;obtain ⟨hh,g,dr,t,os⟩:=s;exact wpAny_keeperOf_exc hC (q _)
end
end Sc

namespace Sc

theorem St.move(S:St C fz led Y G s)(hI:led I=some m)(hm:MAt fz s.heap I m'):St C fz (del led I) (Un (upd emp I m') Y) G s∧Dj (upd emp I m') Y:=by
 have hY:=S.dj.of_some hI
 have hdj:Dj (upd emp I m') Y:=λa=>by
  by_cases h:a=I
  ·subst h;exact .inr hY
  ·erw[aG _ _ h];exact .inl rfl
 refine⟨⟨λa=>?_,?_⟩,hdj⟩
 ·by_cases h:a=I
  ·subst h;left;unfold del;erw[if_pos rfl]
  ·rcases S.dj a with q|q
   ·left;unfold del;erw[if_neg h];exact q
   ·right;erw[aE (by erw[aG _ _ h];rfl)];exact q
 ·have R:=S.rel.upd (a:=I) (m₀:=m) (m:=m') (aC hI) (h':=s.heap) s.toks (λb o hb e=>e) hm
  have e:Un (del led I) (Un (upd emp I m') Y)=upd (Un led Y) I m':=by
   funext a
   by_cases h:a=I
   ·subst h;erw[aE (by unfold del;erw[if_pos rfl]),aC (aA ..),aA]
   ·erw[aG _ _ h];cases hl:led a with
    | some x=>erw[aC (show del led I a=some x by unfold del;erw[if_neg h];exact hl),aC hl]
    | none=>erw[aE (show del led I a=none by unfold del;erw[if_neg h];exact hl),aE hl,aE (by erw[aG _ _ h];rfl)]
  erw[e];exact R

section
variable {C:Cx} {Y led:aF} {k:Nat}
noncomputable abbrev jM(n:Nat):Addr→Obj:=λl=>revObj l ((n:Int) - 1)
theorem CallW.reversed(h:∀I,led I=none→Q (.itr I [] xs.reverse) (upd led I (.view (jM xs.length) xs))):CallW C Y led k (.typ "reversed") [.lst xs] Q:=by
 intro A fz G s fv vs hA S e1 e2;induction e1 using fU;induction e2 using dZ with|k _ x =>
 cases x with
 | lst ez ed =>
  rename_i a us n;have hg:=S.rel.fzIn _ _ ez;have ha:=aO s.heap (Nat.le_refl _);have hlen:=ed.length;refine call_reversed_list (items:=us.toArray) ⟨_,hg,rfl,n,rfl⟩ ?_;refine⟨fz,G,.itr _ [] xs.reverse,_,.refl _,.refl _,.itr ..,S.newL ha (m:=.view (jM xs.length) xs) s.toks (λb o e=>Heap.get?_push_of_some _ e) ⟨a,us,n,ez,ed,?_⟩,h _ (S.fresh ha).1⟩;erw[List.size_toArray,hlen];exact Heap.get?_push_size _ rfl
theorem KcY.reversed(h:∀I,led I=none→Q (.itr I [] xs.reverse) (upd led I (.view (jM xs.length) xs))):∀Y,KCal C Y led k (.typ "reversed") [.lst xs] Q:=λ_=>⟨KeepOk.typ _,CallW.reversed h⟩
theorem xK(hI:led I=some (.view (jM xs.length) xs)):IterOf C Y led (.itr I [] xs.reverse) xs.reverse:=by
 intro A fz G s v hA S e;induction e using oE;refine dT (S.atL hI) λl us n hz hd hg=>?_
 have hlen:=hd.length;have hL:s.heap.IsList l us.toArray:=⟨_,S.rel.fzIn _ _ hz,rfl,n,rfl⟩;have hne:l≠I:=λq=>by subst q;have:=S.rel.apart _ _ hz;(first|exact (aH (aC hI ..) this).elim|cases aJ (aC hI ..) this|(rw[aC hI]at this;exact dN this))
 have hrv:s.heap.IsRevIter I l ((us.toArray.size:Int) - 1 - ((0:Nat):Int)):=⟨_,hg,rfl,by erw[List.size_toArray,hlen];simp[revObj]⟩;refine cL (S.move hI (m':=.raw (jM xs.length l)) hg) λS' hdj=>?_
 refine wpAny_pyIter_revIter hrv ⟨fz,I,[I],upd emp I (.raw (jM xs.length l)),(λi h=>i≤us.toArray.size∧h.IsRevIter I l ((us.toArray.size:Int) - 1 - (i:Int))∧h.IsList l us.toArray),rfl,.refl _,⟨⟨[I,l],(λi v=>us.toArray[us.toArray.size - 1 - i]?=some v),λA hA=>?_,λi v d p q=>?_,λb hb hn=>?_⟩,λi h b st hb=>?_⟩,zI hg,hdj,⟨Nat.zero_le _,hrv,hL⟩,S'⟩
 ·have hn:xs.reverse.length=us.toArray.size:=by erw[List.length_reverse,List.size_toArray,hlen]
  erw[hn];exact Walks.listRev (A:=A) hA I l hne us.toArray
 ·rw[List.size_toArray]at p
  have hi:i<xs.length:=by
   have:=(List.getElem?_eq_some_iff.mp q).1
   rwa [List.length_reverse]at this
  rw[List.getElem?_reverse hi]at q;rw[hlen]at p;refine aL (hd.get q) λv' e1 e2=>?_
  rw[List.getElem?_toArray,e1]at p
  (have e3:=Option.some.inj p;clear p;subst e3);exact e2
 ·rcases List.mem_cons.mp hb with rfl|hb
  ·exact absurd (List.mem_singleton.mpr rfl) hn
  ·rcases List.mem_cons.mp hb with rfl|hb
   ·exact⟨_,hz⟩
   ·cases hb
 ·rw[List.mem_singleton]at hb;subst hb;have st':i≤us.toArray.size∧h.IsRevIter b l ((us.toArray.size:Int) - 1 - (i:Int))∧h.IsList l us.toArray:=st
  (refine jW st' λ_ o1 _=>?_;clear st';refine aL o1 λo ho _=>?_;clear o1)
  exact⟨o,ho⟩

noncomputable def SetIW(C:Cx)(Y led:aF)(od i d:D)(K:aF→Prop):Prop :=
 ∀A fz G s v iv u,Room 0 A→St C fz led Y G s→Den fz v od→Den fz iv i→Den fz u d→wpAny (model C.prog C.w) A (setItem v iv u) (λ_ s'=>∃fz' G' led',FzLe fz fz'∧GExt G G'∧St C fz' led' Y G' s'∧K led') No s
theorem SetIW.ref{a:Addr}{xs:List D}{i:Int}{d:D}{K:aF→Prop}(ha:led a=some (.list xs))(h0:0≤i)(hi:i.toNat<xs.length)(hsz:xs.length≤1000000)(h:K (upd led a (.list (xs.set i.toNat d)))):SetIW C Y led (.ref a) (.int i) d K:=by
 intro A fz G s v iv u hA S e1 e2 e3;induction e1 using aT;induction e2 using bG;refine cJ (S.listAt ha) λus n ho hd=>?_
 have hlen:=hd.length;have hl:s.heap.IsList a us.toArray:=⟨_,ho,rfl,n,rfl⟩;unfold setItem
 try with_reducible refine wpAny_holding ?_
 first|refine wpAny_bind (wpAny_pure ?_)| skip
 refine wpAny_bind (wpAny_sequenceKey hl.typeIs (by decide) ?_)
 refine wpAny_bind (wpAny_callSpecial?_slot (name:=Str.ofString "__setitem__") hl.typeIs slot_list_setitem
  (wpAny_call_entry slot_list_setitem hl.typeIs entry_list_setitem ?_ (args_list_setitem _ _ _)))
 refine (?_:wpAny _ _ (Builtin.List.listSubscript? (.int i _) >>= _) _ _ s);refine wpAny_bind (wpAny_listSubscript_int (fitsIndex_of h0 (gZ [.lt .p0 .p1,.le .p1 (.k 1000000),.ile .p0 (.c .p0)] (.ilt .p0 (.k 9223372036854775808)) aB hi hsz (Int.self_le_toNat _))) ?_)
 (refine aN (Int.eq_ofNat_of_zero_le h0) λj o1=>?_;subst o1)
 have hj:j<us.toArray.size:=by erw[List.size_toArray,hlen];exact hi
 have hx':us.toArray[j]?=some us.toArray[j]:=Array.getElem?_eq_getElem hj;refine (?_:wpAny _ _ ((seqItemAt a j >>= λr=>pure (r.map (j,·))) >>= _) _ _ s);refine wpAny_bind (wpAny_bind (wpAny_seqItemAt ho rfl (wpAny_pure ?_)));erw[hx'];refine (?_:wpAny _ _ (setSeqItemAt a j u >>= _) _ _ s);have S':=S.setL ha ho (f:=(·.setIfInBounds j u)) (ws:=us.set j u) (ys:=xs.set j d) (List.setIfInBounds_toArray us j u) (Dens.set e3 j hd) s.toks;refine wpAny_bind (wpAny_setSeqItemAt ho rfl ?_);have fin:∃fz' G' led',FzLe fz fz'∧GExt G G'∧St C fz' led' Y G' { s with heap:=s.heap.update a (Obj.mapSeq (·.setIfInBounds j u)) }∧K led':=⟨fz,G,_,.refl _,.refl _,S',h⟩
 first
  | exact wpAny_bind (wpAny_pure (wpAny_pure ⟨.none,rfl,wpAny_pure fin⟩))
  | exact wpAny_pure ⟨.none,rfl,wpAny_pure fin⟩
end
section
variable {C:Cx} {led:aF} {fe:Fe} {vs:aD} {k:Nat}
noncomputable abbrev aGh(C:Cx)(vs:aD)(k:Nat)(Q:Fl→aD→aF→Prop)(d od:D):D→aF→Prop:=λid led3=>∀Y,SetIW C Y led3 od id d (Q .next vs)
noncomputable abbrev aGi(C:Cx)(fe:Fe)(vs:aD)(k:Nat)(i:Expr)(Q:Fl→aD→aF→Prop)(d:D):D→aF→Prop:=λod led2=>WE C led2 fe vs k (eval i fe.env) (aGh C vs k Q d od)
noncomputable abbrev aGj(C:Cx)(fe:Fe)(vs:aD)(k:Nat)(o i:Expr)(Q:Fl→aD→aF→Prop):D→aF→Prop:=λd led1=>WE C led1 fe vs k (eval o fe.env) (aGi C fe vs k i Q d)
inductive KFrz (Q:D→aF→Prop) (d:D) (led1:aF):Prop
 | mk (a:Addr) (xs:List D):d=.ref a→led1 a=some (.list xs)→Q (.lst xs) (del led1 a)→KFrz Q d led1
noncomputable abbrev aGk(C:Cx)(k:Nat)(Q:D→aF→Prop)(f x:D):List D→aF→Prop:=λds led2=>∀Y,KCal C Y led2 k f (x::ds) Q
inductive KM1 (C:Cx) (fe:Fe) (vs:aD) (k:Nat) (pos:Pos) (name:Str) (args:List Expr) (Q:D→aF→Prop) (d:D) (led1:aF):Prop
 | mk (f x:D):(∀Y,GetM C Y led1 d name f [x])→WL C led1 fe vs k (spliced (backTo pos (starEach args fe.env))) (aGk C k Q f x)→KM1 C fe vs k pos name args Q d led1
inductive KM0 (C:Cx) (fe:Fe) (vs:aD) (k:Nat) (pos:Pos) (name:Str) (args:List Expr) (Q:D→aF→Prop) (d:D) (led1:aF):Prop
 | mk (f:D):(∀Y,GetM C Y led1 d name f [])→WL C led1 fe vs k (spliced (backTo pos (starEach args fe.env))) (aBk C k Q f)→KM0 C fe vs k pos name args Q d led1
theorem qN(h:WE C led fe vs k (eval e fe.env) (aGj C fe vs k o i Q))
  (hs:autoParam (swapsWith e (some (.Subscript o i px)) pos.line fe.env=pure false) cD):WS C led fe vs k (exec (.Assign [.Subscript o i px] e pos) fe.env) Q:=by
 intro F X hF hd A fz G s hA S;refine wpAny_Assign_Subscript (aW (h F X hF hd A fz G s hA S) λv1 s1 fz1 G1 d1 led1 l1 g1 e1 S1 h1=>?_) hs;refine aW (h1 F X hF hd A fz1 G1 s1 hA S1) λv2 s2 fz2 G2 d2 led2 l2 g2 e2 S2 h2=>?_
 refine aW (h2 F X hF hd A fz2 G2 s2 hA S2) λv3 s3 fz3 G3 d3 led3 l3 g3 e3 S3 h3=>?_
 refine wpAny_mono (h3 _ A fz3 G3 s3 v2 v3 v1 (hA.r.mono (Nat.zero_le _)) S3 (e2.mono l3) e3 ((e1.mono l2).mono l3)) (λ_ s4 p=>?_) λ_ _ x=>x.elim
 (refine wY p λfz4 G4 led4 l4 g4 S4 q=>?_;clear p)
 exact⟨fz4,G4,F,vs,led4,.next,((l1.trans l2).trans l3).trans l4,((g1.trans g2).trans g3).trans g4,trivial,hF,hd,S4,q⟩
theorem St.freezeL(S:St C fz led Y G s)(ha:led a=some (.list xs)):∃fz',FzLe fz fz'∧Den fz' (.ref a) (.lst xs)∧St C fz' (del led a) Y G s:=by
 refine cZ (S.rel.freeze (aC ha)) λfz' l e R=>?_
 refine⟨fz',l,e,S.dj.del a,?_⟩;erw[aBg _ _ _ (S.dj.of_some ha)];exact R
theorem WE.frz(h:WE C led fe vs k t (KFrz Q)):WE C led fe vs k t Q:=by
 intro F X hF hd A fz G s hA S;refine aW (h F X hF hd A fz G s hA S) λv1 s1 fz1 G1 d1 led1 l1 g1 e1 S1 h1=>?_
 obtain ⟨a,xs,rfl,ha,q⟩:=h1;induction e1 using aT;refine cZ (S1.freezeL ha) λfz' l e S'=>?_
 exact⟨fz',G1,_,_,l1.trans l,g1,e,S',q⟩
theorem CallW.frz(h:CallW C Y led k f ds (KFrz Q)):CallW C Y led k f ds Q:=by
 intro A fz G s fv us hA S e1 e2;refine aW (h A fz G s fv us hA S e1 e2) λv1 s1 fz1 G1 d1 led1 l1 g1 e3 S1 h1=>?_
 obtain ⟨a,xs,rfl,ha,q⟩:=h1;induction e3 using aT;refine cZ (S1.freezeL ha) λfz' l e S'=>?_
 exact⟨fz',G1,_,_,l1.trans l,g1,e,S',q⟩
theorem cQ
  (h:WE C led fe vs k (eval o fe.env) (KM1 C fe vs k pos name args Q))
  (ok:autoParam (MetOk o name args apos pos pl fe) dD) :
  WE C led fe vs k (eval (.Call (.Attribute o name apos) args [] pos) fe.env) Q :=
 rE (pl:=pl) (h.mono λd led1 ⟨f,x,a,b⟩=>⟨f,[x],a,b.mono λ_ _ q Y=>⟨(q Y).1,(q Y).2⟩⟩) ok
theorem aEQ
  (h:WE C led fe vs k (eval o fe.env) (KM0 C fe vs k pos name args Q))
  (ok:autoParam (MetOk o name args apos pos pl fe) dD) :
  WE C led fe vs k (eval (.Call (.Attribute o name apos) args [] pos) fe.env) Q :=
 rE (pl:=pl) (h.mono λd led1 ⟨f,a,b⟩=>⟨f,[],a,b.mono λ_ _ q Y=>⟨(q Y).1,(q Y).2⟩⟩) ok
end
end Sc

namespace Sc
set_option tactic.hygienic false
section
variable {C:Cx} {led:aF} {fe:Fe} {vs:aD} {k:Nat}
theorem rM:∀{vs vs':aD},(∀x d,vs.lookup x=some d→vs'.lookup x=some d)→(vs.map (·.1)).Nodup→Sub vs vs'
 | [],_,_,_=>rfl
 | (x,d)::r,vs',h,hn=>by
  have hx_0:=List.nodup_cons.mp hn;have h1:=hx_0.1;have h2:=hx_0.2;show vs'.lookup x::r.map (λp=>vs'.lookup p.1)=some d::r.map λp=>some p.2
  refine congr (congrArg List.cons (h x d (by rw[List.lookup_cons_self]))) (rM (λy e he=>h y e ?_) h2);rw[List.lookup_cons];by_cases hy:y=x
  ·subst hy;exact absurd (List.mem_map.mpr ⟨_,mem_of_lookup he,rfl⟩) h1
  ·rw[beq_eq_false_iff_ne.mpr hy];exact he
structure KCV (outs:List (Option D)) (i:Nat) (led0:aF) (e:D) (led5:aF):Prop where
 o:outs[i]?=some (some e)
 l:led5=led0
structure KCN (outs:List (Option D)) (i:Nat) (led0 led4:aF):Prop where
 o:outs[i]?=some none
 l:led4=led0
structure KCI (C:Cx) (fe:Fe) (vs:aD) (k:Nat) (elt:Expr) (outs:List (Option D)) (i:Nat) (led0:aF) (ok:Bool) (led4:aF):Prop where
 t:ok=true→WE C led4 fe vs k (eval elt fe.env) (KCV outs i led0)
 f:ok=false→KCN outs i led0 led4
structure KCT (C:Cx) (fe:Fe) (k:Nat) (elt:Expr) (ifs:List Expr) (vs0:aD) (outs:List (Option D)) (i:Nat) (led0:aF) (vs3:aD) (led3:aF):Prop where
 s:Sub vs0 vs3
 w:WB C led3 fe vs3 k (fG ifs fe.env) (KCI C fe vs3 k elt outs i led0)
noncomputable abbrev KCB(C:Cx)(fe:Fe)(k:Nat)(elt target:Expr)(ifs:List Expr)(scope:Scope)(vs0:aD)(items:List D)(outs:List (Option D))(led0:aF):Prop :=
 ∀(L:Addr) (cs:List (Str×Addr)) (i:Nat) (x:D),items[i]?=some x→WU C led0 (dJ scope L cs fe) vs0 k (PySem.assign target (dJ scope L cs fe).env) x (KCT C (dJ scope L cs fe) k elt ifs vs0 outs i led0)
inductive KComp (C:Cx) (fe:Fe) (k:Nat) (elt target:Expr) (ifs:List Expr) (scope:Scope) (vs0:aD) (R:List D→aF→Prop) (d:D) (led1:aF):Prop
 | mk (items:List D) (outs:List (Option D)):(∀Y,IterOf C Y led1 d items)→items.length≤1000000→outs.length=items.length→KCB C fe k elt target ifs scope vs0 items outs (sC led1 d)→R (outs.filterMap id) (sC led1 d)→KComp C fe k elt target ifs scope vs0 R d led1
inductive KCompT (C:Cx) (fe:Fe) (k:Nat) (elt target:Expr) (ifs:List Expr) (scope:Scope) (vs0:aD) (R:List D→aF→Prop) (d:D) (led1:aF):Prop
 | mk (items:List D) (outs:List (Option D)):(∀Y,IterOfT C Y led1 target d items)→items.length≤1000000→outs.length=items.length→KCB C fe k elt target ifs scope vs0 items outs (sC led1 d)→R (outs.filterMap id) (sC led1 d)→KCompT C fe k elt target ifs scope vs0 R d led1
structure CompV (scope:Scope) (vs vs0:aD) (fe:Fe) (iter:Expr):Prop where
 v:qH scope vs=vs0
 vn:decide (vs0.map (·.1)).Nodup=true
 ok:CompOk scope vs fe iter
theorem KCompT.lc(hv:qH scope vs=vs0)(hvn:decide (vs0.map (·.1)).Nodup=true)(h:KCompT C fe k elt target ifs scope vs0 R d led1) :
  KLCT C fe vs k elt target ifs [⟨target,iter,ifs,0⟩] scope pos R d led1:=by
 obtain ⟨items,outs,a,hl,ho,b,c⟩:=h;refine⟨items,λi vs' led' acc=>vs'=vs0∧led'=sC led1 d∧acc=(outs.take i).filterMap id∧i≤items.length,a,⟨vs0,?_,rfl,rfl,rfl,Nat.zero_le _⟩,?_,?_⟩
 ·erw[hv];exact rM (λ_ _ e=>e) (of_decide_eq_true hvn)
 ·intro L cs Da i x vs2 led2 acc2 hx o21;(refine lQ o21 λo1 o2 o3 hi=>?_;clear o21;subst o1;subst o2;subst o3);have hil:i<items.length:=(List.getElem?_eq_some_iff.mp hx).1;refine (b L cs i x hx).mono λvs3 led3 ⟨hsub,w⟩=>w.mono λok led4 ⟨w1,w2⟩=>⟨λhok=>?_,λhok=>?_⟩
  ·refine WC.last rfl ((w1 hok).mono λe led5 ⟨q1,q2⟩=>⟨?_,vs2,hsub,rfl,q2,?_,hil⟩)
   ·exact Nat.le_trans (List.length_filterMap_le _ _) (by erw[List.length_take];exact eF [.le .p0 (.k 1000000),.lt .p1 .p0,.le .p2 .p1] (.le .p2 (.k 1000000)) aB hl hil (Nat.min_le_left _ _))
   ·erw[List.take_add_one,q1,Option.toList_some,List.filterMap_append];rfl
  ·have hx_2:=w2 hok;have q1:=hx_2.1;have q2:=hx_2.2;refine⟨vs2,hsub,rfl,q2,?_,hil⟩;erw[List.take_add_one,q1,Option.toList_some,List.filterMap_append];simp
 ·intro vs2 led2 acc2 o21;(refine lQ o21 λo1 o2 o3 _=>?_;clear o21;subst o1;subst o2;subst o3);erw[← ho,List.take_length];exact c
theorem uY(vs0:aD)
  (h:WE C led fe vs k (eval iter fe.env) (KCompT C fe k elt target ifs scope vs0 (KLs Q)))
  (ok:autoParam (CompV scope vs vs0 fe iter) dD) :
  WE C led fe vs k (eval (.ListComp elt [⟨target,iter,ifs,0⟩] scope pos) fe.env) Q :=
 iB (h.mono λd led1 q=>q.lc ok.v ok.vn) ok.ok (λg hg=>by exact bN hg)
theorem dS(vs0:aD)
  (h:WE C led fe vs k (eval iter fe.env) (KComp C fe k elt target ifs scope vs0 (KLs Q)))
  (ok:autoParam (CompV scope vs vs0 fe iter) dD)
  (ht:autoParam (∀it v,letOwnedTupleGo target it v=pure ()) dD) :
  WE C led fe vs k (eval (.ListComp elt [⟨target,iter,ifs,0⟩] scope pos) fe.env) Q :=
 uY vs0 (h.mono λd led1 ⟨items,outs,a,b,c,e,r⟩=>⟨items,outs,λY=>(a Y).toT ht,b,c,e,r⟩) ok
end
end Sc

namespace Sc
set_option tactic.hygienic false
end Sc

namespace Sc
theorem Rel.addF{C:Cx}{fz:Fz}{T:aF}{G:Array GenState}{s:Shared}(R:Rel C fz T G s){a:Addr}{o:Obj}(hT:T a=none)(hz:fz a=none)(h0:C.h₀.get? a=none)(ho:s.heap.get? a=some o):Rel C (eZ fz a o) T G s where
 fzIn:=λb p e=>by
  unfold eZ at e;split at e
  ·rename_i q;subst q;(have e1:=Option.some.inj e;clear e;subst e1);exact ho
  ·exact R.fzIn b p e
 ledIn:=λb m' e=>(R.ledIn b m' e).mono (bI hz)
 apart:=λb p e=>by
  unfold eZ at e;split at e
  ·rename_i q;subst q;exact hT
  ·exact R.apart b p e
 fzt:=λb p e=>by
  unfold eZ at e;split at e
  ·rename_i q;subst q;intro o21;obtain ⟨c,hc⟩:=o21;obtain ⟨ps,_,e2⟩:=C.tabIs c _ hc
   (first|exact (aH (h0 ..) e2).elim|cases aJ (h0 ..) e2|(rw[h0]at e2;cases e2))
  ·exact R.fzt b p e
 new:=R.new
 base:=R.base
 tabs:=λc P e=>(R.tabs c P e).mono (bI hz)
 old:=R.old
 os:=R.os
 gens:=R.gens
theorem St.addL(S:St C fz led Y G s)(hY:Y a=none)(hz:fz a=none)(h0:C.h₀.get? a=none)(hm:MAt fz s.heap a m):St C fz (upd led a m) Y G s:=by
 refine⟨S.dj.upd _ hY,?_⟩;erw[cX]
 exact {
  fzIn:=S.rel.fzIn
  ledIn:=λb mm e=>by
   by_cases hb:b=a
   ·subst hb;(first|exact (aH (aA ..) e).elim|cases aJ (aA ..) e|(rw[aA]at e;cases e));exact hm
   ·rw[aG _ _ hb]at e;exact S.rel.ledIn b mm e
  apart:=λb o e=>by
   by_cases hb:b=a
   ·subst hb;(first|exact (aH (hz ..) e).elim|cases aJ (hz ..) e|(rw[hz]at e;cases e))
   ·erw[aG _ _ hb];exact S.rel.apart b o e
  fzt:=S.rel.fzt
  new:=λb mm e=>by
   by_cases hb:b=a
   ·subst hb;exact h0
   ·rw[aG _ _ hb]at e;exact S.rel.new b mm e
  base:=S.rel.base
  tabs:=S.rel.tabs
  old:=S.rel.old
  os:=S.rel.os
  gens:=S.rel.gens }
noncomputable def cN(xs:List D):List D:=(List.range xs.length).map λ(i:Nat)=>.tup [.int (i:Int),xs.getD i .none]
theorem lT(xs:List D):(cN xs).length=xs.length:=by simp[cN]
theorem qO{i:Nat}(h:xs[i]?=some d):(cN xs)[i]?=some (.tup [.int (i:Int),d]):=by
 have hi:=(List.getElem?_eq_some_iff.mp h).1;unfold cN;erw[List.getElem?_map,List.getElem?_range hi];simp only[Option.map_some];erw[List.getD_eq_getElem?_getD,h];rfl
noncomputable abbrev eA(it:Addr):Obj:={ cls:=.type "enumerate",data:=.fields #[.none,.bool false,.ref it,rawInt 0,.none,.none] }
section
variable {C:Cx} {Y led:aF} {k:Nat}
theorem CallW.enumerate(h:∀e it,e≠it→led e=none→led it=none→Q (.itr e [it] (cN xs)) (upd (upd led it (.lit 0 xs)) e (.raw (eA it)))):CallW C Y led k (.typ "enumerate") [.lst xs] Q:=by
 intro A fz G s fv vs hA S e1 e2;induction e1 using fU;induction e2 using dZ with|k _ x =>
 cases x with
 | lst ez ed =>
  rename_i a us n;have hg:=S.rel.fzIn _ _ ez;have ha:=aO s.heap (Nat.le_refl _);have hb:=aO s.heap (Nat.le_succ s.heap.objs.size);refine call_enumerate_1 hg λh' he hit hsz hk=>?_
  have S1:=S.newL ha (m:=.lit 0 xs) (h':=h') s.toks hk ⟨a,us,n,ez,ed,hit⟩;have hne:s.heap.objs.size+1≠s.heap.objs.size:=Nat.succ_ne_self _;have S2:=S1.addL (a:=s.heap.objs.size+1) (m:=.raw (eA s.heap.objs.size)) (S.fresh hb).2 (S.rel.freshF hb) (S.rel.freshB hb) he;exact⟨fz,G,_,_,.refl _,.refl _,.itr _ _ _,S2,h _ _ hne (S.fresh hb).1 (S.fresh ha).1⟩
theorem KcY.enumerate(h:∀e it,e≠it→led e=none→led it=none→Q (.itr e [it] (cN xs)) (upd (upd led it (.lit 0 xs)) e (.raw (eA it)))):∀Y,KCal C Y led k (.typ "enumerate") [.lst xs] Q:=λ_=>⟨KeepOk.typ _,CallW.enumerate h⟩
theorem sQ(he:led e=some (.raw (eA it)))(hi:led it=some (.lit 0 xs))(hne:e≠it):IterOfT C Y led (.Tuple elts kk pos) (.itr e [it] (cN xs)) (cN xs):=by
 intro A fz G s v hA S ev;induction ev using oE;obtain ⟨l,us,n,hz,hd,oit,hit,hitc,hitd⟩:=S.atL hi;have hen:s.heap.get? e=some (eA it):=S.atL he;have hL:s.heap.IsList l us.toArray:=⟨_,S.rel.fzIn _ _ hz,rfl,n,rfl⟩;have hlen:(cN xs).length=us.toArray.size:=by erw[lT,List.size_toArray,hd.length]
 have hle:l≠e:=λq=>by subst q;have:=S.rel.apart _ _ hz;(first|exact (aH (aC he ..) this).elim|cases aJ (aC he ..) this|(rw[aC he]at this;exact dN this))
 have hli:l≠it:=λq=>by subst q;have:=S.rel.apart _ _ hz;(first|exact (aH (aC hi ..) this).elim|cases aJ (aC hi ..) this|(rw[aC hi]at this;exact dN this))
 refine wpAny_pyIter_enum (it:=it) (i:=0) (old:=.none) hen ?_;refine cL (S.move he (m':=.raw (eA it)) hen) λS1 d1=>?_
 have hi1:del led e it=some (.lit 0 xs):=by unfold del;erw[if_neg (Ne.symm hne)];exact hi
 obtain ⟨S2,d2⟩:=S1.move hi1 (m':=.raw (oit)) hit
 have hR:Un (upd emp it (.raw oit)) (Un (upd emp e (.raw (eA it))) Y)=Un (upd (upd emp e (.raw (eA it))) it (.raw oit)) Y:=by
  erw[cX,oG,cX (upd emp e _)]
 rw[hR]at S2
 have hraw:Raws [e,it] (upd (upd emp e (.raw (eA it))) it (.raw oit)):=by
  refine⟨λb hb=>?_,λb hb=>?_⟩
  ·rcases List.mem_cons.mp hb with rfl|hb
   ·exact⟨_,by erw[aG _ _ hne,aA]⟩
   ·rcases List.mem_cons.mp hb with rfl|hb
    ·exact⟨_,aA ..⟩
    ·cases hb
  ·simp only[List.mem_cons,List.not_mem_nil,or_false,not_or]at hb;erw[aG _ _ hb.2,aG _ _ hb.1];rfl
 have hdj:Dj (upd (upd emp e (.raw (eA it))) it (.raw oit)) Y:=λa=>by
  by_cases h1:a=it
  ·subst h1;exact .inr (S.dj.of_some hi)
  ·erw[aG _ _ h1];exact d1 a
 refine⟨fz,e,[e,it],_,(λi h=>(∃old,IsEnum h e it i old)∧h.IsListIter it l i∧h.IsList l us.toArray),rfl,.refl _,⟨?_,?_,?_⟩,hraw,hdj,⟨⟨.none,hen⟩,⟨_,hit,hitc,hitd⟩,hL⟩,?_⟩
 ·-- a step
  intro A' fz' led' Y' R G' s' i hA' lz hR' hdR S' hst hi' Q E h1 h2;have W:=WalksT.enumerate (prog:=C.prog) (w:=C.w) hA' e it l hne hle hli us.toArray;by_cases hlt:i<us.toArray.size
  ·refine W.item i s' _ E hlt hst λT vals h' tk hP hsz hT hm hk=>?_
   (refine cJ hP λt x hx o1=>?_;clear hP;subst o1)
   refine W.go elts kk pos i T _ _ E hm λhh hst2 hk2=>?_
   have hkk:∀b o,b∉[e,it]→s'.heap.get? b=some o→hh.get? b=some o:=λb o hb q=>hk2 b o hb (hk b o hb q)
   have hTwr:=W.apart i T h' hm;obtain ⟨oT,hoT,hcT,nT,hdT⟩:=hT;have hTh:hh.get? T=some oT:=hk2 T oT hTwr hoT;have hTs:s'.heap.get? T=none:=aO _ hsz
   obtain ⟨R',hR'2,hr⟩:=nJ hh [e,it] (λb hb=>by
    (refine jW hst2 λo1 o2 _=>?_;clear hst2;refine aN o1 λold q1=>?_;clear o1;refine aL o2 ?_;clear o2;intro o2 q2 _)
    rcases List.mem_cons.mp hb with rfl|hb
    ·exact⟨_,q1⟩
    ·rcases List.mem_cons.mp hb with rfl|hb
     ·exact⟨_,q2⟩
     ·cases hb)
   have dom:Dj R' Y':=λa=>by
    by_cases ha:a∈[e,it]
    ·obtain ⟨o,q⟩:=hR'.here a ha;exact .inr (hdR.of_some q)
    ·exact .inl (hR'2.not a ha)
   have Rm:Rel C fz' (Un led' (Un R' Y')) G' { s' with heap:=hh,toks:=tk }:=by
    refine S'.rel.many tk (·∈[e,it]) (λb hb=>?_) hkk (λb hb=>?_) λb m hb q=>?_
    ·obtain ⟨o,z⟩:=hR'.here b hb;have hl:led' b=none:=(S'.dj b).resolve_right (by erw[aC z];exact Option.some_ne_none _);exact⟨_,by erw[aE hl,aC z]⟩
    ·cases hl:led' b with
     | some m=>erw[aC hl,aC hl]
     | none=>erw[aE hl,aE hl,aE (hR'2.not b hb),aE (hR'.not b hb)]
    ·obtain ⟨o,z⟩:=hR'.here b hb;have hl:led' b=none:=(S'.dj b).resolve_right (by erw[aC z];exact Option.some_ne_none _);obtain ⟨o',z'⟩:=hR'2.here b hb;rw[aE hl,aC z']at q
     (have e1:=Option.some.inj q;clear q;subst e1)
     refine aL (hr b _ z') λo'' q1 q2=>?_
     cases q1;exact q2
   have hTn:=S'.rel.freshT hTs
   have hTn2:Un led' (Un R' Y') T=none:=by
    have hx_8:=Un_none.mp hTn;have a1:=hx_8.1;have a2:=hx_8.2;exact Un_none.mpr ⟨a1,Un_none.mpr ⟨hR'2.not T hTwr,(Un_none.mp a2).2⟩⟩
   have hzT:=S'.rel.freshF hTs;obtain ⟨d,q1,q2⟩:=hd.get' (i:=i) (v:=x) (by simpa using hx);refine h1 (.ref T) (.tup [.int (i:Int),d]) R' _ (eZ fz' T oT) (qO q1) (bI hzT) ?_ hR'2 dom ⟨λa=>?_,Rm.addF hTn2 hzT (S'.rel.freshB hTs) hTh⟩ hst2
   ·exact .tup (vs:=[.int i t,x]) (n:=nT) (cA ..) hcT (by erw[hdT]) (.cons (.int ..) (.cons ((q2.mono lz).mono (bI hzT)) .nil))
   ·rcases S'.dj a with q|q
    ·exact .inl q
    ·by_cases ha:a∈[e,it]
     ·refine aN (hR'.here a ha) λo z=>?_
      (first|exact (aH (aC z ..) q).elim|cases aJ (aC z ..) q|(rw[aC z]at q;cases q))
     ·exact .inr (Un_none.mpr ⟨hR'2.not a ha,(Un_none.mp q).2⟩)
  ·have hie:i=us.toArray.size:=by rw[hlen]at hi';exact Nat.le_antisymm (bC [.le .p0 .p1] (.le .p0 .p1) aB hi') (bC [.le .p0 .p1] (.le .p0 .p1) aB (Nat.le_of_not_lt hlt))
   subst hie;refine W.done s' _ E hst λh' tk hk=>h2 _ hlen.symm ⟨S'.dj.right,?_⟩
   refine S'.rel.many (T':=Un led' Y') (h':=h') tk (·∈[e,it]) (λb hb=>?_) hk (λb hb=>?_) λb m hb q=>?_
   ·refine aN (hR'.here b hb) λo z=>?_
    have hl:led' b=none:=(S'.dj b).resolve_right (by erw[aC z];exact Option.some_ne_none _);exact⟨_,by erw[aE hl,aC z]⟩
   ·cases hl:led' b with
    | some m=>erw[aC hl,aC hl]
    | none=>erw[aE hl,aE hl,aE (hR'.not b hb)]
   ·refine aN (hR'.here b hb) λo z=>?_
    have hl:led' b=none:=(S'.dj b).resolve_right (by erw[aC z];exact Option.some_ne_none _);rw[aE hl,hdR.of_some z]at q;exact bN q
 ·intro fz1 fz2 led' led'' Y1 Y2 R G1 G2 s1 s2 i l1 l2 hR' hY hY' S' S'' hst;have W:=WalksT.enumerate (prog:=C.prog) (w:=C.w) (A:={}) rfl e it l hne hle hli us.toArray;refine W.frame i _ _ hst λb hb o q=>?_
  by_cases hw:b∈[e,it]
  ·refine aN (hR'.here b hw) λo' z=>?_
   have a1:s1.heap.get? b=some o':=S'.at (hY _ _ z);have a2:s2.heap.get? b=some o':=S''.at (hY' _ _ z)
   (first|exact (aH (a1 ..) q).elim|cases aJ (a1 ..) q|(rw[a1]at q;cases q));exact a2
  ·have hbl:b=l:=by simp at hb hw;rcases hb with h|h|h<;>first|exact h|exact absurd h hw.1|exact absurd h hw.2
   subst hbl;have a1:=S'.rel.fzIn _ _ (l1 _ _ hz);have a2:=S''.rel.fzIn _ _ (l2 _ _ (l1 _ _ hz))
   (first|exact (aH (a1 ..) q).elim|cases aJ (a1 ..) q|(rw[a1]at q;cases q));exact a2
 ·intro A' s' i Q E hA' hst hq
  (refine cL hst λo1 _=>?_;clear hst;refine aN o1 λold hq1=>?_;clear o1)
  exact wpAny_pyIter_enum hq1 hq
 ·exact S2
end
end Sc

namespace Sc
set_option tactic.hygienic false
section
variable {C:Cx} {led:aF} {fe:Fe} {vs:aD} {k:Nat}
theorem sR(vs0:aD)
  (h:WE C led fe vs k (eval iter fe.env) (KCompT C fe k elt target ifs scope vs0 (KSt vs x Q)))
  (hx:autoParam ((fe.env.kindOf x == some .local || (fe.env.kindOf x == some .cell && fe.ow.contains x))=true) cD)
  (hsw:autoParam (swapsWith (.ListComp elt [⟨target,iter,ifs,0⟩] scope pos) (some (.Name x pos')) pos2.line fe.env=pure true) cD)
  (ok:autoParam (CompV scope vs vs0 fe iter) dD) :
  WS C led fe vs k (exec (.Assign [.Name x pos'] (.ListComp elt [⟨target,iter,ifs,0⟩] scope pos) pos2) fe.env) Q :=
 nC (h.mono λd led1 q=>q.lc ok.v ok.vn)
  (by simpa only [Bool.or_eq_true,Bool.and_eq_true,beq_iff_eq,List.contains_iff_mem] using hx) hsw ok.ok (λg hg=>by exact bN hg)
theorem mR(vs0:aD)
  (h:WE C led fe vs k (eval iter fe.env) (KComp C fe k elt target ifs scope vs0 (KSt vs x Q)))
  (hx:autoParam ((fe.env.kindOf x == some .local || (fe.env.kindOf x == some .cell && fe.ow.contains x))=true) cD)
  (hsw:autoParam (swapsWith (.ListComp elt [⟨target,iter,ifs,0⟩] scope pos) (some (.Name x pos')) pos2.line fe.env=pure true) cD)
  (ok:autoParam (CompV scope vs vs0 fe iter) dD)
  (ht:autoParam (∀it v,letOwnedTupleGo target it v=pure ()) dD) :
  WS C led fe vs k (exec (.Assign [.Name x pos'] (.ListComp elt [⟨target,iter,ifs,0⟩] scope pos) pos2) fe.env) Q :=
 sR vs0 (h.mono λd led1 ⟨items,outs,a,b,c,e,r⟩=>⟨items,outs,λY=>(a Y).toT ht,b,c,e,r⟩) hx hsw ok
end
end Sc

namespace Sc
set_option tactic.hygienic false
/-! the same,whatever the frame -/
section
variable {C:Cx} {led:aF} {k:Nat} {a b:Int} {x y:Str} {Q:D→aF→Prop}
theorem OpY.add(h:Q (.int (a+b)) led):∀Y,Op2 C Y led k (binaryOp .Add) (.int a) (.int b) Q:=λ_=>Op2.add h
theorem OpY.sub(h:Q (.int (a - b)) led):∀Y,Op2 C Y led k (binaryOp .Sub) (.int a) (.int b) Q:=λ_=>Op2.sub h
theorem OpY.lt(h:Q (.bool (decide (a<b))) led):∀Y,Op2 C Y led k (compareOp .Lt) (.int a) (.int b) Q:=λ_=>Op2.lt h
theorem OpY.le(h:Q (.bool (decide (a≤b))) led):∀Y,Op2 C Y led k (compareOp .LtE) (.int a) (.int b) Q:=λ_=>Op2.le h
theorem OpY.gt(h:Q (.bool (decide (b<a))) led):∀Y,Op2 C Y led k (compareOp .Gt) (.int a) (.int b) Q:=λ_=>Op2.gt h
theorem OpY.ge(h:Q (.bool (decide (b≤a))) led):∀Y,Op2 C Y led k (compareOp .GtE) (.int a) (.int b) Q:=λ_=>Op2.ge h
theorem OpY.eqi(h:Q (.bool (a == b)) led):∀Y,Op2 C Y led k (compareOp .Eq) (.int a) (.int b) Q:=λ_=>Op2.eqi h
theorem OpY.iadd(h:Q (.int (a+b)) led):∀Y,Op2 C Y led k (inplaceOp .Add) (.int a) (.int b) Q:=λ_=>Op2.iadd h
theorem OpY.eqs(h:Q (.bool (x == y)) led):∀Y,Op2 C Y led k (compareOp .Eq) (.str x) (.str y) Q:=λ_=>Op2.eqs h
theorem OpY.neg(h:Q (.int (-a)) led):∀Y,Op1 C Y led k (unaryOp .USub) (.int a) Q:=λ_=>Op1.neg h
theorem OpY.inv(h:Q (.int (-a - 1)) led):∀Y,Op1 C Y led k (unaryOp .Invert) (.int a) Q:=λ_=>Op1.inv h
theorem TrY.int{Q:Bool→aF→Prop}(h:Q (a != 0) led):∀Y,Tru C Y led k (.int a) Q:=λ_=>Tru.int h
theorem TrY.bool{b:Bool}{Q:Bool→aF→Prop}(h:Q b led):∀Y,Tru C Y led k (.bool b) Q:=λ_=>Tru.bool h
theorem KpK.blt{id:String}{ds:List D}(h:CallW C Y led k (.blt id) ds Q):KCal C Y led k (.blt id) ds Q:=⟨KeepOk.blt id,h⟩
theorem KcY.range1(h:Q (.rng 0 a) led):∀Y,KCal C Y led k (.typ "range") [.int a] Q:=λ_=>⟨KeepOk.typ _,CallW.range1 h⟩
theorem Y1{P:Prop}{R:aF→Prop}(f:∀Y,P→R Y)(h:P):∀Y,R Y:=λY=>f Y h
end
end Sc

namespace Sc
set_option tactic.hygienic false
noncomputable def cM(M:Model)(A:Around)(P:End→Shared→Prop)(c:Code)(t:Sem PySem.Fin)(fs:List Frame)(s:Shared):Prop :=
 ∀Γ p,Γ.code=c→Γ.Woken A→∃e s',Runs M Γ p t fs s e s'∧P e s'
section
variable {M:Model} {A:Around} {P:End→Shared→Prop} {c:Code} {fs:List Frame} {s:Shared} {env:Env}
 {K:Flow→Sem PySem.Fin} {H:Value→Sem PySem.Fin} {gd:Bool→Bool} {lv:List Value→List Value}
theorem cY{α:Type}{m:Sem α}{K:α→Sem PySem.Fin}{H:Value→Sem PySem.Fin}{gd lv}
  (h:wpAny M (A.over c fs) m (λa s'=>cM M A P c (K a) fs s') (λx s'=>cM M A P c (H x) fs s') s):cM M A P c (m.wrap K H gd lv) fs s:=by
 rintro Γ p rfl hΓ;exact runs_wrap_of_wp K H gd lv m (h (Γ.over fs) p (hΓ.over fs)) (λa p' s' h'=>h' Γ p' rfl hΓ) λx p' s' h'=>h' Γ p' rfl hΓ
theorem kH(h:cM M A P c (k ()) fs s):cM M A P c (.at p' k) fs s :=
 cY (m:=standAt p') (K:=k) (H:=.raise) (gd:=id) (lv:=id) (wpAny_standAt h)
theorem aAF(h:cM M A P c (k ()) fs s):cM M A P c (.point l k) fs s :=
 cY (m:=point) (K:=k) (H:=.raise) (gd:=id) (lv:=λ_=>l) (wpAny_point h)
theorem uZ{h g l}(hc:∀p,cM M A P c' (M.den c') (.ret k h g l c p []::fs) s):cM M A P c (.call c' h g l k) fs s:=by
 rintro Γ p rfl hΓ;refine cJ (hc p (Γ.goto c') p rfl (hΓ.goto c')) λe s' hr he=>?_
 exact⟨e,s',runs_call_seg hr,he⟩
theorem pA{k h g l c₁ p₁ kp}(r:Result)(hk:cM M A P c₁ (k r) fs s):cM M A P c (leafOf r) (.ret k h g l c₁ p₁ kp::fs) s:=by
 rintro Γ p rfl hΓ;refine cJ (hk (Γ.goto c₁) p₁ rfl (hΓ.goto c₁)) λe s' hr he=>?_
 exact⟨e,s',Runs.pop r hr,he⟩
theorem lU(hq:c'.quiet=true)(hc:cM M A P c' (M.den c') fs s):cM M A P c (.pure (.again c')) fs s:=by
 rintro Γ p rfl hΓ;refine cJ (hc (Γ.goto c') p rfl (hΓ.goto c')) λe s' hr he=>?_
 exact⟨e,s',Runs.head (c₁:=c') (λ_ _ x=>.again hq x) hr,he⟩
theorem sS(r:Result)(h:P (.ret r) s):cM M A P c (leafOf r) [] s:=by
 rintro Γ p rfl _;exact⟨.ret r,s,Runs.leaf r,h⟩
theorem aAG{v g l}(hfs:splitAtGen fs=none)(h:∀p,P (.susp v g l k c p fs) s):cM M A P c (.yield v g l k) fs s:=by
 rintro Γ p rfl _;exact⟨_,s,Runs.yield' fs hfs,h p⟩
/-! statements -/
theorem dW(h:cM M A P c (K .next) fs s):cM M A P c ((execs [] env).wrap K H gd lv) fs s:=h
theorem bJ{st:Stmt}{rest:List Stmt}
  (h:cM M A P c ((exec st env).wrap (λf=>match f with|.next=>(execs rest env).wrap K H gd lv|f=>K f) H gd lv) fs s) :
  cM M A P c ((execs (st::rest) env).wrap K H gd lv) fs s:=by erw[execs_cons_wrap];exact h
theorem rN{st:Stmt}(h:wpAny M (A.over c fs) (exec st env) (λf s'=>cM M A P c (K f) fs s') (λx s'=>cM M A P c (H x) fs s') s):cM M A P c ((exec st env).wrap K H gd lv) fs s:=cY h
theorem aDV
  (h:wpAny M (A.over c fs) (isTrue test env (eval test env)) (λb s'=>(b=true→cM M A P c ((execs body env).wrap K H gd lv) fs s')∧(b=false→cM M A P c ((execs orelse env).wrap K H gd lv) fs s'))
   (λx s'=>cM M A P c (H x) fs s') s):cM M A P c ((exec (.If test body orelse pos) env).wrap K H gd lv) fs s:=by
 have e:exec (.If test body orelse pos) env=(do standAt pos;let b←isTrue test env (eval test env);if b then execs body env else execs orelse env):=rfl;erw[e];show cM M A P c (.at pos λ_=>((isTrue test env (eval test env)) >>= λb=>if b then execs body env else execs orelse env).wrap K H gd lv) fs s
 refine kH ?_;erw[Sem.bind_eq_wrap',Sem.wrap_wrap];refine cY (wpAny_mono h (λb s' hb=>?_) λ_ _ x=>x);cases b with
 | true=>exact hb.1 rfl
 | false=>exact hb.2 rfl
noncomputable abbrev aCD(env:Env)(r:Result):Sem Flow:=(match r with|.ok f=>(.pure f:Sem Flow)| .error e=>.raise e).onRaise λ(x:Value)=>do
    if (← field x 1) == Value.none then unsupported "frame.own-activation:exception-without-traceback"
    setFlight x env.frame
theorem aCE
  (h:wpAny M (A.over c fs) (eval iter env) (λv s'=>wpAny M (A.over c fs) (pyIter v) (λit s''=>∀p,cM M A P (.forLoop target it body orelse env) (M.den (.forLoop target it body orelse env))
   (.ret (λr=>(aCD env r).wrap K H gd lv) none (gd false) (lv []) c p []::fs) s'') (λx s'=>cM M A P c (H x) fs s') s')
   (λx s'=>cM M A P c (H x) fs s') s) (hs:autoParam (∀x,foldedSetIterable iter env x=pure x) dD) :
  cM M A P c ((exec (.For target iter body orelse pos) env).wrap K H gd lv) fs s:=by
 erw[exec_For];show cM M A P c (.at pos λ_=>(eval iter env >>= λx=>foldedSetIterable iter env x >>= λx=>standAt iter.pos >>= λ_=>holding [x] (pyIter x) >>= λit=>runOwn (.forLoop target it body orelse env) env).wrap K H gd lv) fs s
 refine kH ?_;erw[Sem.bind_eq_wrap',Sem.wrap_wrap];refine cY (wpAny_mono h (λx s1 h1=>?_) λ_ _ x=>x);erw[hs x];show cM M A P c (.at iter.pos λ_=>(holding [x] (pyIter x) >>= λit=>runOwn (.forLoop target it body orelse env) env).wrap K H gd lv) fs s1
 refine kH ?_;erw[Sem.bind_eq_wrap',Sem.wrap_wrap];refine cY (wpAny_holding (wpAny_mono h1 (λit s2 h2=>?_) λ_ _ x=>x));exact uZ h2
theorem aAH
  (h:∀p,cM M A P (.whileLoop test body orelse env) (M.den (.whileLoop test body orelse env)) (.ret (λr=>(aCD env r).wrap K H gd lv) none (gd false) (lv []) c p []::fs) s) :
  cM M A P c ((exec (.While test body orelse pos) env).wrap K H gd lv) fs s :=
 kH (uZ h)
theorem aAI(hfs:splitAtGen fs=none)
  (h:wpAny M (A.over c fs) (eval e env) (λv s'=>∀(k:Resume→Sem PySem.Fin) l p,(∀A' P' s'',cM M A' P' c (K .next) fs s''→cM M A' P' c (k (.send .none)) fs s'')→P (.susp v (gd false) l k c p fs) s')
   (λx s'=>cM M A P c (H x) fs s') s) (hco:autoParam (env.scope.isCoroutine=false) cD) (hi:autoParam (interactive env=false) cD) :
  cM M A P c ((exec (.Expr (.Yield (some e) ypos) pos) env).wrap K H gd lv) fs s:=by
 erw[exec_Expr env _ pos hi rfl];show cM M A P c (.at pos λ_=>((eval e env >>= λv=>(standAt ypos >>= λ_=>yieldOut env v)) >>= λx=>dropValue (.Yield (some e) ypos) pos x).wrap K H gd lv) fs s
 have hy:∀v,yieldOut env v=yieldValue v:=λv=>by simp only[yieldOut,hco,Bool.false_eq_true,if_false]
 simp only[hy];refine kH ?_;erw[Sem.bind_eq_wrap',Sem.bind_eq_wrap',Sem.wrap_wrap,Sem.wrap_wrap];refine cY (wpAny_mono h (λv s' h'=>?_) λ_ _ x=>x);refine kH (aAG hfs λp=>h' _ _ _ λA' P' s'' hx=>hx)
end
section
variable {prog:Program} {w:World} {A:Around} {P:End→Shared→Prop} {fs:List Frame} {s:Shared} {env:Env}
noncomputable abbrev eG(env:Env):Value→Sem PySem.Fin:=λe=>(do noteFrame e env;theTreesLotGoes e:Sem Unit).wrap (λ_=>.raise e) .raise id id
noncomputable abbrev sT(env:Env):Value→Sem PySem.Fin:=λe=>(leaving env e).wrap (λ_=>.raise e) .raise id id
noncomputable abbrev aAJ(target:Expr)(it:Value)(body orelse:List Stmt)(env:Env):Flow→Sem PySem.Fin:=λf=>match f with
 | .next|.cont=>.pure (.again (.forLoop target it body orelse env))
 | .brk=>.pure (.done .next)
 | .ret v=>.pure (.done (.ret v))
noncomputable abbrev xL(test:Expr)(body orelse:List Stmt)(env:Env):Flow→Sem PySem.Fin:=λf=>match f with
 | .next|.cont=>.pure (.again (.whileLoop test body orelse env))
 | .brk=>.pure (.done .next)
 | .ret v=>.pure (.done (.ret v))
noncomputable abbrev aBy:Flow→Sem PySem.Fin:=λf=>.pure (.done (.ret (match f with|.ret v=>v|_=>.none)))
theorem vA{target:Expr}{it:Value}{body orelse:List Stmt}
  (h:wpAny (model prog w) (A.over (.forLoop target it body orelse env) fs) (pyNext it) (λr s1=>match r with
    | none=>cM (model prog w) A P (.forLoop target it body orelse env) (.pure (.again (.block orelse env))) fs s1
    | some v=>wpAny (model prog w) (A.over (.forLoop target it body orelse env) fs) (PySem.assign target env v) (λ_ s2 =>
      cM (model prog w) A P (.forLoop target it body orelse env) ((execs body env).wrap (aAJ target it body orelse env) (eG env) id id) fs s2) (λx s'=>cM (model prog w) A P (.forLoop target it body orelse env) (eG env x) fs s') s1)
   (λx s'=>cM (model prog w) A P (.forLoop target it body orelse env) (eG env x) fs s') s) (ht:autoParam (∀v,letOwnedTupleGo target it v=pure ()) dD) :
  cM (model prog w) A P (.forLoop target it body orelse env) ((model prog w).den (.forLoop target it body orelse env)) fs s:=by
 have conv:∀x,((do noteFrame x env;theTreesLotGoes x:Sem Unit).bind λ_=>(.raise x:Sem PySem.Fin))=eG env x:=λx=>Sem.bind_eq_wrap _ _
 show cM _ A P _ ((forTurn target it body orelse env).onRaise (λx=>do noteFrame x env;theTreesLotGoes x)) fs s
 unfold forTurn;rw[Sem.onRaise_eq_wrap];show cM _ A P _ (.at target.pos λ_=>(((pyNext it).onRaise (λ_=>standAt { target.pos with line:=0 })) >>= _).wrap _ _ _ _) fs s
 refine kH ?_;rw[Sem.bind_eq_wrap',Sem.wrap_wrap];refine cY (wpAny_onRaise (wpAny_mono h (λr s1 h1=>?_) λx s1 h1=>wpAny_standAt (by show cM _ A P _ ((do noteFrame x env;theTreesLotGoes x:Sem Unit).bind λ_=>(.raise x:Sem PySem.Fin)) fs s1;rw[conv];exact h1)));cases r with
 | none=>exact h1
 | some v =>
  simp only[ht v];show cM _ A P _ ((PySem.assign target env v >>= λ_=>execs body env >>= _).wrap _ _ _ _) fs s1
  rw[Sem.bind_eq_wrap',Sem.wrap_wrap];refine cY (wpAny_mono h1 (λ_ s2 h2=>?_) λx s2 h2=>by show cM _ A P _ ((do noteFrame x env;theTreesLotGoes x:Sem Unit).bind λ_=>(.raise x:Sem PySem.Fin)) fs s2;rw[conv];exact h2);rw[Sem.bind_eq_wrap',Sem.wrap_wrap];refine (congrArg (λt=>cM (model prog w) A P (.forLoop target it body orelse env) t fs s2) (Sem.wrap_congr (execs body env) id id (K':=aAJ target it body orelse env) (H':=eG env) (λf=>?_) (λe=>?_))).mpr h2
  ·cases f<;>rfl
  ·exact conv e
theorem qP
  (h:wpAny (model prog w) (A.over (.whileLoop test body orelse env) fs) (isTrue test env (eval test env)) (λb s' =>
    (b=true→cM (model prog w) A P (.whileLoop test body orelse env) ((execs body env).wrap (xL test body orelse env) (eG env) id id) fs s') ∧
    (b=false→cM (model prog w) A P (.whileLoop test body orelse env) ((execs orelse env).wrap (λf=>.pure (.done f)) (eG env) id id) fs s'))
   (λx s'=>cM (model prog w) A P (.whileLoop test body orelse env) (eG env x) fs s') s) :
  cM (model prog w) A P (.whileLoop test body orelse env) ((model prog w).den (.whileLoop test body orelse env)) fs s:=by
 have conv:∀x,((do noteFrame x env;theTreesLotGoes x:Sem Unit).bind λ_=>(.raise x:Sem PySem.Fin))=eG env x:=λx=>Sem.bind_eq_wrap _ _
 show cM _ A P _ ((whileTurn test body orelse env).onRaise (λx=>do noteFrame x env;theTreesLotGoes x)) fs s
 unfold whileTurn;erw[Sem.onRaise_eq_wrap,Sem.bind_eq_wrap',Sem.wrap_wrap];refine cY (wpAny_mono h (λb s' hb=>?_) λx s' hx=>?_)
 ·cases b with
  | true =>
   show cM _ A P _ (Sem.wrap _ _ _ _ (if true=true then _ else _)) fs s'
   erw[if_pos rfl,Sem.bind_eq_wrap',Sem.wrap_wrap];refine (congrArg (λt=>cM (model prog w) A P (.whileLoop test body orelse env) t fs s') (Sem.wrap_congr (execs body env) id id (K':=xL test body orelse env) (H':=eG env) (λf=>?_) (λe=>?_))).mpr (hb.1 rfl)
   ·cases f<;>rfl
   ·exact conv e
  | false =>
   show cM _ A P _ (Sem.wrap _ _ _ _ (if false=true then _ else _)) fs s'
   erw[if_neg Bool.false_ne_true,Sem.bind_eq_wrap',Sem.wrap_wrap];refine (congrArg (λt=>cM (model prog w) A P (.whileLoop test body orelse env) t fs s') (Sem.wrap_congr (execs orelse env) id id (K':=λf=>(.pure (.done f):Sem PySem.Fin)) (H':=eG env) (λf=>?_) (λe=>?_))).mpr (hb.2 rfl)
   ·rfl
   ·exact conv e
 ·show cM _ A P _ ((do noteFrame x env;theTreesLotGoes x:Sem Unit).bind λ_=>(.raise x:Sem PySem.Fin)) fs s';erw[conv];exact hx
theorem aBz(h:cM (model prog w) A P (.func body env) ((execs body env).wrap aBy (sT env) id id) fs s) :
  cM (model prog w) A P (.func body env) ((model prog w).den (.func body env)) fs s:=by
 show cM _ A P (.func body env) (.point [] λ_=>((execs body env).onRaise (leaving env)) >>= _) fs s
 refine aAF ?_;erw[Sem.onRaise_eq_wrap,Sem.bind_eq_wrap',Sem.wrap_wrap];refine (congrArg (λt=>cM (model prog w) A P (.func body env) t fs s) (Sem.wrap_congr (execs body env) id id (K':=aBy) (H':=sT env) (λf=>?_) (λe=>?_))).mpr h
 ·cases f<;>rfl
 ·erw[Sem.bind_eq_wrap,Sem.wrap_wrap];rfl
theorem qQ(h:cM (model prog w) A P (.block [] env) (.pure (.done .next)) fs s):cM (model prog w) A P (.block [] env) ((model prog w).den (.block [] env)) fs s:=h
end
end Sc

namespace Sc
theorem sU:isSubtype (.type "ValueError") (.type "StopIteration")=pure false:=by erw[isSubtype_type];kernel_rfl
noncomputable def Gos(M:Model)(A:Around)(P:End→Shared→Prop)(gs:GenState)(r:Resume)(s:Shared):Prop :=
 match gs with
 | .fresh c=>r=.send .none∧cM M A P c (M.den c) [] s
 | .suspended k _ c _ fs _=>cM M A P c (k r) fs s
 | _=>False
theorem aCF{M:Model}{P:End→Shared→Prop}{E:Value→Shared→Prop}{g:Nat}{gs:GenState}
  {r:Resume} {l:List Value} {α:Type} {k:GenResult→Sem α} {Q:α→Shared→Prop} (hg:s.gens[g]?=some gs)
  (hgo:Gos M A P gs r (s.setGen g .running)) (hP:∀e s₁,P e s₁→e.quiet=true∧wpAny M A (k e.result) Q E (s₁.setGen g e.genState)) :
  wpAny M A (.resume g r l k) Q E s:=by
 intro Γ p hΓ;erw[Sem.wp_resume];have hB:∀c,(Γ.wake c p).Woken A:=λc=>hΓ.wake c p
 cases gs with
 | fresh c =>
  (refine cL hgo λo1 hs=>?_;clear hgo;subst o1)
  refine cJ (hs (Γ.wake c p) p rfl (hB c)) λe₁ s₁ hr he=>?_
  exact⟨_,_,by unfold Wakes;erw[hg];exact⟨e₁,s₁,hr,(hP _ _ he).1,rfl,rfl⟩,(hP _ _ he).2 Γ p hΓ⟩
 | suspended k₀ l₀ c₀ p₀ fs₀ cl =>
  refine cJ (hgo (Γ.wake c₀ p) p₀ rfl (hB c₀)) λe₁ s₁ hr he=>?_
  exact⟨_,_,by unfold Wakes;erw[hg];exact⟨e₁,s₁,hr,(hP _ _ he).1,rfl,rfl⟩,(hP _ _ he).2 Γ p hΓ⟩
 | running=>exact hgo.elim
 | finished=>exact hgo.elim
section
variable {prog:Program} {w:World} {A:Around} {E:Value→Shared→Prop} {s:Shared}
inductive GenOut (a:Addr) (g:Nat) (Q:Option Value→Shared→Prop) (E:Value→Shared→Prop):End→Shared→Prop where
 | done {s₁:Shared} (h:∀h',(∀b o,s₁.heap.get? b=some o→h'.get? b=some o)→Q none { s₁.setGen g .finished with heap:=h' }):GenOut a g Q E (.ret (.ok (.ret .none))) s₁
 | error {s₁:Shared} {e:Addr} (hT:s₁.TypeIs (.ref e) "ValueError") (hg:s₁.heap.IsGen a g) (h:E (.ref e) (s₁.setGen g .finished)):GenOut a g Q E (.ret (.error (.ref e))) s₁
 | yld {s₁:Shared} {v:Value} {gd:Bool} {l:List Value} {k:Resume→Sem PySem.Fin} {c:Code} {p:Pos} {fs:List Frame} (hq:(gd || fs.any Frame.guarded)=false) (h:Q (some v) (s₁.setGen g (.suspended k l c p fs false))):GenOut a g Q E (.susp v gd l k c p fs) s₁
theorem iZ(hh:A.handled=none)
  (hl:s.heap.NoLimit) (hroom:A.depth<recursionLimit) (hg:s.heap.IsGen a g) (hgs:s.gens[g]?=some gs)
  (hgo:Gos (model prog w) A.in1 (GenOut a g Q E) gs (.send .none) (s.setGen g .running)) :
  wpAny (model prog w) A (pyNext (.ref a)) Q E s:=by
 unfold pyNext
 refine wpAny_bind (wpAny_attempt (wpAny_callSpecial?_slot (name:=Str.ofString "__next__") hg.typeIs slot_gen_next
  (wpAny_call_entry slot_gen_next hg.typeIs entry_gen_next ?_ (args_gen_next _))))
 show wpAny _ _ (Builtin.Generator.genWake (.ref a) (.send .none)) _ _ s
 unfold Builtin.Generator.genWake;refine wpAny_bind (wpAny_holding (wpAny_genNumber hg (wpAny_bind (wpAny_genState hgs ?_))));cases gs with
 | running=>exact hgo.elim
 | finished=>exact hgo.elim
 | _ =>
  refine wpAny_bind (wpAny_roomToWake hl hroom ?_);show wpAny _ _ (.resume g (.send .none) [] _) _ _ s
  refine aCF hgs hgo λe₁ s₁ he=>?_
  cases he with
  | done hp =>
   refine⟨rfl,?_⟩;refine wpAny_bind (m:=(Builtin.SmallTypes.stopIteration:Sem _)) (sL hh λe h' hk ht=>?_);refine wpAny_bind (wpAny_isInstance (T:="StopIteration") (b:=true) ht isSubtype_stop ?_);exact wpAny_pure (hp _ hk)
  | error hT hgen hp =>
   rename_i e;refine⟨rfl,?_⟩
   (refine wY hgen λo nm qn ho hc hd hsl=>?_;clear hgen)
   show wpAny _ _ (Builtin.Generator.genLeft (.ref a) (.ref e)) _ _ (s₁.setGen g .finished)
   unfold Builtin.Generator.genLeft Builtin.Generator.madeByALambda;refine wpAny_bind (wpAny_bind (wpAny_load (s:=s₁.setGen g .finished) ho (wpAny_pure ?_)));erw[hd];have hT':(s₁.setGen g .finished).TypeIs (.ref e) "ValueError":=hT;refine wpAny_bind (wpAny_isInstance hT' sU ?_);erw[Bool.and_false,if_neg Bool.false_ne_true];show wpAny _ _ (Builtin.Generator.genEscaped (.ref e)) _ _ _
   unfold Builtin.Generator.genEscaped;refine wpAny_bind (wpAny_isInstance hT' sU ?_);show wpAny _ _ (throw (Value.ref e) >>= _) _ _ _
   refine wpAny_bind (wpAny_throw ?_);refine wpAny_bind (wpAny_isInstance hT' sU ?_);exact wpAny_throw hp
  | yld hq hp =>
   rename_i v gd l k c p fs;refine⟨?_,?_⟩
   ·show (!(gd || fs.any Frame.guarded))=true;erw[hq];rfl
   ·have e:(End.susp v gd l k c p fs).genState=.suspended k l c p fs false:=by show GenState.suspended k l c p fs (gd || fs.any Frame.guarded)=_;erw[hq]
    erw[e];exact wpAny_pure ⟨v,rfl,wpAny_pure hp⟩
end
end Sc

namespace Sc
set_option tactic.hygienic false
theorem St.withGens(S:St C fz led Y G s)(G':Array GenState):St C fz led Y G' { s with gens:=G' } :=
 ⟨S.dj,{ fzIn:=S.rel.fzIn,ledIn:=S.rel.ledIn,apart:=S.rel.apart,fzt:=S.rel.fzt,new:=S.rel.new,base:=S.rel.base,tabs:=S.rel.tabs,old:=S.rel.old,os:=S.rel.os,gens:=rfl }⟩
theorem aAK(h:Heap)(p:Addr→Prop):∃b:Heap,(∀a,p a→b.get? a=none)∧(∀a,¬p a→b.get? a=h.get? a):=by
 classical
 refine⟨⟨h.objs.mapIdx λi o=>if p i then { o with data:=.freed } else o,h.life⟩,λa ha=>?_,λa ha=>?_⟩
 ·unfold Heap.get?;erw[Array.getElem?_mapIdx];cases h.objs[a]? with
  | none=>rfl
  | some o=>rw[Option.map_some,if_pos ha]
 ·unfold Heap.get?;erw[Array.getElem?_mapIdx];cases h.objs[a]? with
  | none=>rfl
  | some o=>rw[Option.map_some,if_neg ha]
theorem Rel.many2{C:Cx}{fz:Fz}{T:aF}{G:Array GenState}{s:Shared}(R:Rel C fz T G s){h':Heap}(t:Nat)(p:Addr→Prop)(hz:∀b,p b→fz b=none)(h0:∀b,p b→C.h₀.get? b=none)
  (hk:∀b o,¬p b→s.heap.get? b=some o→h'.get? b=some o) (hm:∀b m,p b→T b=some m→MAt fz h' b m):Rel C fz T G { s with heap:=h',toks:=t } where
 fzIn:=λb o e=>hk b o (λq=>by (first|exact (aH (hz b q ..) e).elim|cases aJ (hz b q ..) e|(rw[hz b q]at e;cases e))) (R.fzIn b o e)
 ledIn:=λb m e=>by
  by_cases q:p b
  ·exact hm b m q e
  ·exact (R.ledIn b m e).at λo=>hk b o q
 apart:=R.apart
 fzt:=R.fzt
 new:=R.new
 base:=λb o e n=>hk b o (λq=>by (first|exact (aH (h0 b q ..) e).elim|cases aJ (h0 b q ..) e|(rw[h0 b q]at e;cases e))) (R.base b o e n)
 tabs:=λc P e=>by
  (refine aL (C.tabIs c P e) λps o1 e2=>?_;refine cJ o1 λo vs e1 _=>?_;clear o1)
  refine cZ (R.tabs c P e) λps' x y z=>?_
  have nc:¬p c:=λq=>by (first|exact (aH (h0 c q ..) e1).elim|cases aJ (h0 c q ..) e1|(rw[h0 c q]at e1;cases e1))
  have nP:¬p P:=λq=>by (first|exact (aH (h0 P q ..) e2).elim|cases aJ (h0 P q ..) e2|(rw[h0 P q]at e2;cases e2))
  refine⟨ps',?_,?_,z⟩
  ·obtain ⟨o,vs,file,tf,flags,tg,inF,text,tt,op,a1,a2,a3,a4,a5,a6,a7,a8,a9⟩:=x;exact⟨o,vs,file,tf,flags,tg,inF,text,tt,op,hk _ _ nc a1,a2,a3,a4,a5,a6,a7,hk _ _ nP a8,a9⟩
  ·(refine cL y λo1 a3=>?_;clear y;refine cJ o1 λo vs a1 a2=>?_;clear o1)
   exact⟨⟨o,vs,hk _ _ nc a1,a2⟩,hk _ _ nP a3⟩
 old:=iV R.old (p:=p) (λb o e q=>by (first|exact (aH (h0 b q ..) e).elim|cases aJ (h0 b q ..) e|(rw[h0 b q]at e;cases e))) hk
 os:=R.os
 gens:=R.gens
noncomputable def aER(C:Cx)(fz:Fz)(T:aF)(b:Addr):Prop:=fz b≠none∨C.h₀.get? b≠none∨∃m,T b=some m∧∀m',m≠.ns m'
structure Cov (C:Cx) (fz:Fz) (T:aF) (base h:Heap):Prop where
 cov:∀b,aER C fz T b→base.get? b≠none
 stays:base.StaysIn h
theorem St.slots{G:Array GenState}(S:St C fz led Y G s){base h':Heap}(t:Nat)(hc:Cov C fz (Un led Y) base s.heap)(hs:base.StaysIn h')
  (hu:s.heap.UpToSlots h'):St C fz led Y G { s with heap:=h',toks:=t }∧Cov C fz (Un led Y) base h':=by
 refine⟨⟨S.dj,S.rel.many2 t (λb=>¬aER C fz (Un led Y) b) (λb hb=>?_) (λb hb=>?_) (λb o hb e=>?_) λb m hb e=>?_⟩,hc.cov,hs⟩
 ·cases q:fz b with
  | none=>rfl
  | some o=>exact absurd (.inl (by erw[q];exact Option.some_ne_none _)) hb
 ·cases q:C.h₀.get? b with
  | none=>rfl
  | some o=>exact absurd (.inr (.inl (by erw[q];exact Option.some_ne_none _))) hb
 ·have hf:=Classical.not_not.mp hb;cases q:base.get? b with
  | none=>exact absurd q (hc.cov b hf)
  | some o'=>have e1:=hc.stays b o' q;(first|exact (aH (e ..) e1).elim|cases aJ (e ..) e1|(rw[e]at e1;cases e1));exact hs b _ q
 ·have hns:∃m',m=.ns m':=Classical.byContradiction λq=>hb (.inr (.inr ⟨m,e,λm' z=>q ⟨m',z⟩⟩))
  (refine aN hns λm' o1=>?_;clear hns;subst o1)
  refine aL (S.rel.ledIn b _ e) λmv hn q=>?_
  exact⟨mv,hu.ns hn,q⟩
theorem Cov.less(x:Cov C fz T base h)(i:∀a m,T' a=some m→T a=some m):Cov C fz T' base h :=
 ⟨λb hb=>x.cov b (hb.elim .inl λq=>.inr (q.elim .inl λ⟨m,q,r⟩=>.inr ⟨m,i _ _ q,r⟩)),x.stays⟩
noncomputable def zO(l:List Env)(b:Addr):Prop:=∃e∈l,e.frame=some b
theorem FrY.base(hl:∀e∈l,e.scope.kind=.function∧∃L m,e.frame=some L∧Y L=some (.ns m))(S:St C fz led Y G s) :
  ∃base,Cov C fz (Un led Y) base s.heap∧s.heap.FunFrames base l:=by
 refine aL (aAK s.heap (zO l)) λbase b1 b2=>?_
 have hT:∀b,zO l b→∃m,Un led Y b=some (.ns m):=λb ⟨e,he,hf⟩=>by
  obtain ⟨_,L,m,h2,h3⟩:=hl e he
  (first|exact (aH (hf ..) h2).elim|cases aJ (hf ..) h2|(rw[hf]at h2;cases h2))
  exact⟨m,by erw[aE ((S.dj b).resolve_right (by erw[h3];exact Option.some_ne_none _))];exact h3⟩
 refine⟨base,⟨λb hb=>?_,λb o e=>?_⟩,?_⟩
 ·have hno:¬zO l b:=λq=>by
   refine aN (hT b q) λm e=>?_
   rcases hb with z|z|⟨m',z,r⟩
   ·cases q2:fz b with
    | none=>exact z q2
    | some o=>(first|exact (aH (S.rel.apart _ _ q2 ..) e).elim|cases aJ (S.rel.apart _ _ q2 ..) e|(rw[S.rel.apart _ _ q2]at e;cases e))
   ·exact z (S.rel.new _ _ e)
   ·(first|exact (aH (e ..) z).elim|cases aJ (e ..) z|(rw[e]at z;cases z));exact r m rfl
  erw[b2 b hno];rcases hb with z|z|⟨m',z,r⟩
  ·cases q2:fz b with
   | none=>exact absurd q2 z
   | some o=>erw[S.rel.fzIn _ _ q2];exact Option.some_ne_none _
  ·cases q2:C.h₀.get? b with
   | none=>exact absurd q2 z
   | some o=>refine aN (S.rel.old.there _ _ q2) λo' q3=>?_;erw[q3];exact Option.some_ne_none _
  ·refine aN ((S.rel.ledIn _ _ z).there) λo q3=>?_;erw[q3];exact Option.some_ne_none _
 ·by_cases hb:zO l b
  ·(first|exact (aH (b1 b hb ..) e).elim|cases aJ (b1 b hb ..) e|(rw[b1 b hb]at e;cases e))
  ·rw[b2 b hb]at e;exact e
 ·have key:∀l':List Env,(∀e∈l',e∈l)→s.heap.FunFrames base l':=by
   intro l';induction l' with
   | nil=>intro _;trivial
   | cons env r ih =>
    intro hs;obtain ⟨h1,L,m,h2,h3⟩:=hl env (hs env List.mem_cons_self)
    (refine aL (S.at h3) λmv o1 _=>?_;refine dT o1 λo es ep ho hd _=>?_;clear o1)
    exact⟨(by erw[h1];intro z;(exfalso;injection z)),⟨L,o,h2,b1 L ⟨env,hs env List.mem_cons_self,h2⟩,ho,λvs q=>(by (first|exact (aH (hd ..) q).elim|cases aJ (hd ..) q|(rw[hd]at q;(exfalso;injection q))))⟩,ih λe he=>hs e (List.mem_cons_of_mem _ he)⟩
  exact key l λ_ h=>h
section
variable {M:Model} {A:Around} {E:Value→Shared→Prop} {s:Shared}
theorem aBA
  (hfr:A.frames=some (env::outer)) (hl:s.heap.FunFrames base (env::outer)) (hf:env.frame=some L)
  (he:s.heap.get? e=some oe) (hkb:base.StaysIn s.heap) (hen:base.get? e=none) (hd:oe.data=.fields vs) (h1:vs[1]?=some .none) (h0:vs[0]?=some a0)
  (h:∀h',Heap.HeldW base (env::outer) e oe.cls a0 L h'→s.heap.UpToSlots h'→Q () { s with heap:=h' }):wpAny M A (noteFrame (.ref e) env) Q E s:=by
 unfold noteFrame;simp only[hf];refine wpAny_bind (wpAny_field he hd h1 ?_);erw[if_neg (by decide)];exact wpAny_entryW hfr hl hf he hkb hen hd (Array.getElem?_eq_some_iff.mp h1).1 h0 λh' hN=>let ⟨k1,k2,k3,k4⟩:=hN;h h' ⟨k1,hen,k2,k3⟩ k4
theorem aBB{base:Heap}{env:Env}{l:List Env}{L e:Addr}{cls a0:Value}{Q:Unit→Shared→Prop}(hf:env.frame=some L)(hh:Heap.HeldW base l e cls a0 L s.heap)
  (hQ:∀h',Heap.HeldW base l e cls a0 L h'→s.heap.UpToSlots h'→Q () { s with heap:=h' }) :
  wpAny M A (do
    if (← field (.ref e) 1) == Value.none then unsupported "frame.own-activation:exception-without-traceback"
    setFlight (.ref e) env.frame) Q E s:=by
 obtain ⟨f1,f2,f3,oe,vs,T,oT,ts,he,hcls,hd,h1,hnT,hTe,hT,hdT,h3⟩:=hh;have hsz3:3<ts.size:=(Array.getElem?_eq_some_iff.mp h3).1;refine wpAny_bind (wpAny_field he hd h1 ?_);erw[if_neg (show ¬((Value.ref T == Value.none)=true) from by exact ne_true_of_eq_false rfl)];erw[hf];unfold setFlight;refine wpAny_bind (wpAny_field he hd h1 ?_);erw[if_pos (show (Value.ref T != Value.none)=true from by exact rfl)]
 have other:∀b,b≠T→(s.heap.update T (Obj.mapFields (·.setIfInBounds 3 ((some L:Option Addr).elim Value.none λf=>rawInt f)))).get? b=s.heap.get? b :=
  λb hb=>Heap.get?_update_other _ _ (Ne.symm hb)
 have noRecord:∀b o,s.heap.get? b=some o→(∀vs,o.data≠.fields vs)→b≠T:=λb o hb hnf q=>by
  rw[q,hT]at hb;injection hb with hb;subst hb;exact hnf ts hdT
 refine wpAny_setField hT hdT hsz3 (hQ _ ⟨λb o hbo=>(other b λq=>by rw[q,hnT]at hbo;exact bN hbo).trans (f1 b o hbo),f2,
  f3.of_keeps λb o hb hnf=>⟨o,(other b (noRecord b o hb hnf)).trans hb,rfl⟩,?_⟩ λb o hb hnf=>⟨o.slots,(other b (noRecord b o hb hnf)).trans hb⟩)
 exact⟨oe,vs,T,_,_,(other e (Ne.symm hTe)).trans he,hcls,hd,h1,hnT,hTe,Heap.get?_update_self _ hT (Obj.isFreed_of_fields (Obj.data_mapFields hdT _)),Obj.data_mapFields hdT _,by exact Array.getElem?_setIfInBounds_self_of_lt hsz3⟩
end
end Sc

namespace Sc
set_option tactic.hygienic false
theorem GExt.size(h:GExt G G'):G.size≤G'.size:=by
 rcases Nat.lt_or_ge G'.size G.size with hlt|hge
 ·have e:=h.keep G'.size _ (Array.getElem?_eq_getElem hlt)
  (first|exact (aH (Array.getElem?_eq_none (Nat.le_refl _) ..) e).elim|cases aJ (Array.getElem?_eq_none (Nat.le_refl _) ..) e|(rw[Array.getElem?_eq_none (Nat.le_refl _)]at e;cases e))
 ·exact hge
theorem GExt.push(G:Array GenState)(hx:x.bare=true):GExt G (G.push x) :=
 ⟨λi y e=>by
  have:=(Array.getElem?_eq_some_iff.mp e).1
  erw[Array.getElem?_push_lt this];rw[Array.getElem?_eq_getElem this]at e;exact e,λh=>h.push hx⟩
theorem vB{G:Array GenState}{g:Nat}{x y:GenState}(h:G[g]?=some x):(G.setIfInBounds g y)[g]?=some y:=by
 have hlt:=(Array.getElem?_eq_some_iff.mp h).1;exact Array.getElem?_setIfInBounds_self_of_lt hlt
theorem AllBare.set(h:AllBare G)(hx:x.bare=true):AllBare (G.setIfInBounds g x):=by
 intro y hy;rcases Array.mem_or_eq_of_mem_setIfInBounds hy with q|q
 ·exact h y q
 ·subst q;exact hx
theorem rO(s:Shared)(g:Nat)(x:GenState):s.setGen g x={ s with gens:=s.gens.setIfInBounds g x }:=rfl

noncomputable def GenObj(fz:Fz)(a:Addr)(g:Nat):Prop:=∃o nm qn,fz a=some o∧o.cls=.type "generator"∧o.data=.fields #[.int g 0,nm,qn]∧o.slots=#[]
theorem GenObj.mono(x:GenObj f a g)(l:FzLe f h):GenObj h a g:=let ⟨o,nm,qn,e,r⟩:=x;⟨o,nm,qn,l _ _ e,r⟩
theorem GenObj.at_(x:GenObj fz a g)(S:St C fz led Y G s):s.heap.IsGen a g :=
 let ⟨o,nm,qn,e,r⟩:=x;⟨o,nm,qn,S.rel.fzIn _ _ e,r⟩
noncomputable def zP(C:Cx)(fz:Fz)(led Y:aF)(G:Array GenState)(a:Addr)(scope:Scope)(body:List Stmt)(vs0:aD):Value→Shared→Prop:=λv s' =>
 ∃fz' G' F L cs q code ga g,v=.ref ga∧FzLe fz fz'∧GExt G G'∧G.size≤g∧FOk (dF scope L cs q a code) vs0 F Y∧Dj F Y∧St C fz' led (Un F Y) G' s' ∧
  G'[g]?=some (.fresh (.func body (dF scope L cs q a code).env))∧GenObj fz' ga g
noncomputable abbrev aCG:=argsOkB true
theorem aBC{k:Nat}{a:Addr}{st:Stmt}{name name':Str}{args:Arguments}{body:List Stmt}{scope:Scope}{pos:Pos}{ds:List D}(h:GFn C a st)
  (hst:st=.FunctionDef name args body [] none [] scope none name' pos) (vs:aD) (hok:aCG args (vs.map (·.1)) scope=true) (hds:ds=vs.map (·.2))
  {G:Array GenState} {vals:List Value} (hA:RoomY (k+1) A Y) (S:St C fz led Y G s) (e2:Dens fz vals ds) :
  wpAny (model C.prog C.w) A (call (.ref a) vals) (zP C fz led Y G a scope body vs) No s:=by
 (refine aN h ?_;clear h;intro fd h)
 have hi:=h.is hst;subst hds;have P:=argsOkB.spec hok hi;have hp:=P.1;refine cZ (h.1 Y led fz G s S) λo' ho hod hcr=>?_
 have hA0:RoomY 0 A.in1 Y:=(hA.mono (Nat.le_add_left 1 k)).in1;refine wpAny_call (codeAny_call_generator (Nat.lt_of_le_of_lt (Nat.le_add_right _ _) hA.r.2.1) ho hod hp.co P.2.1 hp.body hcr (rC hi hp P.2.2.1 P.2.2.2 CloOk.nil rfl hA0 e2 S λL cs fz1 G1 F s1 l1 g1 hcs hF hd S1=>⟨S1.nolimit,?_⟩));have ha:=aO s1.heap (Nat.le_refl _);have hz1:=S1.rel.freshF ha;refine⟨_,_,F,L,cs,_,_,_,s1.gens.size,rfl,l1.trans (bI hz1),(g1.trans (GExt.push G1 (x:=.fresh (.func body (dF scope L cs (fd.qualname++".<locals>.") a fd.code).env)) rfl)),?_,hF.toNil,hd,?_,?_,⟨{ cls:=.type "generator",data:=.fields #[.int s1.gens.size 0,.str fd.name s1.toks,.str fd.qualname (s1.toks+1)] },.str fd.name s1.toks,.str fd.qualname (s1.toks+1),cA ..,rfl,rfl,rfl⟩⟩
 ·erw[S1.rel.gens];exact g1.size
 ·have S2:St C (eZ fz1 s1.heap.objs.size { cls:=.type "generator",data:=.fields #[.int s1.gens.size 0,.str fd.name s1.toks,.str fd.qualname (s1.toks+1)] }) led (Un F Y) G1 _:=⟨S1.dj,S1.rel.allocF ha (s1.toks+1+1) (λb o e=>Heap.get?_push_of_some _ e) (Heap.get?_push_size _ rfl)⟩;have S3:=S2.withGens (G1.push (.fresh (.func body (dF scope L cs (fd.qualname++".<locals>.") a fd.code).env)));have e:=S1.rel.gens;rw[← e]at S3;erw[← e];exact S3
 ·erw[S1.rel.gens];show (G1.push _)[G1.size]?=_
  erw[Array.getElem?_push_size]
end Sc

namespace Sc
section
variable {C:Cx} {Y led:aF} {k:Nat}
theorem St.gone(S:St C fz led Y G s)(ha:led a=some m)(hx:Heap.ExtBut a s.heap h'):St C fz (del led a) Y G { s with heap:=h' }:=by
 have hY:=S.dj.of_some ha
 have S1:St C fz (del led a) Y G s:=⟨S.dj.del a,by erw[aBg _ _ _ hY];exact S.rel.forget (λb m' e=>by
  unfold del at e;split at e
  ·exact bN e
  ·exact e)⟩
 have hn:Un (del led a) Y a=none:=Un_none.mpr ⟨by unfold del;erw[if_pos rfl],hY⟩;refine⟨S1.dj,S1.rel.many2 s.toks (·=a) (λb hb=>?_) (λb hb=>?_) (λb o hb e=>hx b o hb e) λb m' hb e=>by subst hb;(first|exact (aH (hn ..) e).elim|cases aJ (hn ..) e|(rw[hn]at e;cases e))⟩
 ·subst hb;cases q:fz b with
  | none=>rfl
  | some o=>have:=S.rel.apart b o q;(first|exact (aH (aC ha ..) this).elim|cases aJ (aC ha ..) this|(rw[aC ha]at this;exact dN this))
 ·subst hb;exact S.rel.new _ _ (aC ha)
theorem NextW.lit(ha:led a=some (.lit i xs))(h1:∀d,xs[i]?=some d→P (some d) (upd led a (.lit (i+1) xs)))(h2:xs[i]?=none→P none (del led a)):NextW C Y led k a P:=by
 intro A fz G s hA S;refine dT (S.atL ha) λl us n hz hd hit=>?_
 have hL:s.heap.IsList l us.toArray:=⟨_,S.rel.fzIn _ _ hz,rfl,n,rfl⟩;cases hx:us[i]? with
 | some v =>
  refine aL (hd.get' hx) λd e1 e2=>?_
  refine wpAny_pyNext_list_item hit hL (by simpa using hx) λh' hi hs=>?_
  exact⟨fz,G,d,_,.refl _,.refl _,e2,S.wr ha (m:=.lit (i+1) xs) s.toks hs.extBut ⟨l,us,n,hz,hd,hi⟩,h1 d e1⟩
 | none =>
  have hn:xs[i]?=none:=by
   cases q:xs[i]? with
   | none=>rfl
   | some d=>refine aL (hd.get q) λv e _=>?_;(first|exact (aH (hx ..) e).elim|cases aJ (hx ..) e|(rw[hx]at e;cases e))
  refine wpAny_pyNext_list_end hA.r.1 hit hL (by simpa using hx) λh' hs=>?_
  exact⟨fz,G,_,.refl _,.refl _,S.gone ha hs,h2 hn⟩
noncomputable def IterN(C:Cx)(Y led:aF)(d:D)(K:Addr→aF→Prop):Prop :=
 ∀A fz G s v,Room 0 A→St C fz led Y G s→Den fz v d→wpAny (model C.prog C.w) A (pyIter v) (λit s'=>∃I fz' led',it=.ref I∧FzLe fz fz'∧St C fz' led' Y G s'∧K I led') No s
theorem IterN.lst{xs:List D}{K:Addr→aF→Prop}(h:∀I,led I=none→K I (upd led I (.lit 0 xs))):IterN C Y led (.lst xs) K:=by
 intro A fz G s v hA S e;cases e with
 | lst e1 e2 =>
  rename_i a vs n;have h1:s.heap.get? a=some (fT vs.toArray n):=S.rel.fzIn _ _ e1;have ha:=aO s.heap (Nat.le_refl _);refine wpAny_pyIter_list (items:=vs.toArray) ⟨_,h1,rfl,n,rfl⟩ ⟨_,fz,_,rfl,.refl _,S.newL ha (m:=.lit 0 xs) s.toks (λb o e=>Heap.get?_push_of_some _ e) ⟨a,vs,n,e1,e2,_,Heap.get?_push_size _ rfl,rfl,rfl⟩,h _ (S.fresh ha).1⟩
theorem aBD{a:Addr}{ds:List D}{K:Addr→aF→Prop}(ha:led a=some (.flds "callable_iterator" ds))(h:K a led):IterN C Y led (.ref a) K:=by
 intro A fz G s v hA S e;induction e using aT;refine aL (S.atL ha) λvs ho hd=>?_
 exact rJ ho ⟨a,fz,led,rfl,.refl _,S,h⟩
end
noncomputable def Flying(C:Cx)(fz:Fz)(T:aF)(l:List Env)(e:Addr)(txt:Str)(h:Heap):Prop :=
 ∃base t tk,Cov C fz T base h∧Heap.FlyingW base l e (.type "ValueError") (.ref t) h∧h.TupAt t [.str txt tk]
noncomputable def Held(C:Cx)(fz:Fz)(T:aF)(l:List Env)(e:Addr)(L:Addr)(txt:Str)(h:Heap):Prop :=
 ∃base t tk,Cov C fz T base h∧Heap.HeldW base l e (.type "ValueError") (.ref t) L h∧h.TupAt t [.str txt tk]
section
variable {C:Cx} {fz:Fz} {led Y:aF} {G:Array GenState} {s:Shared} {M:Model} {A:Around} {E:Value→Shared→Prop} {l:List Env} {e L:Addr} {txt:Str} {env:Env}
theorem sV(S:St C fz led Y G s)(hfr:A.frames=some (env::l))(hf:env.frame=some L)(x:Flying C fz (Un led Y) (env::l) e txt s.heap)
  (h:∀h',St C fz led Y G { s with heap:=h' }→Held C fz (Un led Y) (env::l) e L txt h'→Q () { s with heap:=h' }):wpAny M A (noteFrame (.ref e) env) Q E s:=by
 (refine dT x λbase t tk hc hw ht=>?_;clear x)
 refine wpAny_looks_onW hfr hf hw λh' hh hu=>?_
 have hx_4:=S.slots s.toks hc hh.1 hu;have S':=hx_4.1;have hc':=hx_4.2;exact h h' S' ⟨base,t,tk,hc',hh,ht.of_slots hu⟩
theorem Held.own(S:St C fz led Y G s)(hf:env.frame=some L)(x:Held C fz (Un led Y) l e L txt s.heap)
  (h:∀h',St C fz led Y G { s with heap:=h' }→Held C fz (Un led Y) l e L txt h'→Q () { s with heap:=h' }):wpAny M A (do
    if (← field (.ref e) 1) == Value.none then unsupported "frame.own-activation:exception-without-traceback"
    setFlight (.ref e) env.frame) Q E s:=by
 (refine dT x λbase t tk hc hw ht=>?_;clear x)
 refine aBB hf hw λh' hh hu=>?_
 have hx_6:=S.slots s.toks hc hh.1 hu;have S':=hx_6.1;have hc':=hx_6.2;exact h h' S' ⟨base,t,tk,hc',hh,ht.of_slots hu⟩
theorem Held.again(hf:env.frame=some L)(x:Held C fz (Un led Y) l e L txt s.heap)(h:Q () s):wpAny M A (noteFrame (.ref e) env) Q E s :=
 let ⟨base,t,tk,hc,hw,ht⟩:=x;wpAny_noteFrame_againW hf hw.2.2.2 h
theorem Held.lands(S:St C fz led Y G s)(x:Held C fz (Un led Y) l e L txt s.heap)
  (h:∀h',St C fz led Y G { s with heap:=h' }→Flying C fz (Un led Y) l e txt h'→Q () { s with heap:=h' }):wpAny M A (setFlight (.ref e) none) Q E s:=by
 (refine dT x λbase t tk hc hw ht=>?_;clear x)
 refine wpAny_landsW hw λh' hh hu=>?_
 have hx_8:=S.slots s.toks hc hh.1 hu;have S':=hx_8.1;have hc':=hx_8.2;exact h h' S' ⟨base,t,tk,hc',hh,ht.of_slots hu⟩
theorem vC(S:St C fz led Y G s)(hf:env.frame=some L)(x:Held C fz (Un led Y) (env::l) e L txt s.heap)
  (h:∀h',St C fz led Y G { s with heap:=h' }→Flying C fz (Un led Y) l e txt h'→Q () { s with heap:=h' }):wpAny M A (leaving env (.ref e)) Q E s:=by
 unfold leaving;refine wpAny_bind (x.again hf (x.lands S λh' S' hh=>h h' S' ?_))
 (refine dT hh λbase t tk hc o1 ht=>?_;clear hh;refine lQ o1 λk1 k2 o2 k4=>?_;clear o1;refine jW o2 λ_ _ k3=>?_;clear o2)
 exact⟨base,t,tk,hc,⟨k1,k2,k3,k4⟩,ht⟩
theorem Flying.less(x:Flying C fz (Un led Y) l e txt s.heap)(i:∀a m,T' a=some m→Un led Y a=some m):Flying C fz T' l e txt s.heap :=
 let ⟨base,t,tk,hc,r⟩:=x;⟨base,t,tk,hc.less i,r⟩
theorem xM(S:St C fz led Y G s)(hfr:A.frames=some (env::l))(hfY:FrY A Y)(hf:env.frame=some L)(hm:Heap.MadeExc s.heap h₁ e "ValueError" [.str txt tk])
  (h:∀h',St C fz led Y G { s with heap:=h' }→Held C fz (Un led Y) (env::l) e L txt h'→Q () { s with heap:=h' }):wpAny M A (noteFrame (.ref e) env) Q E { s with heap:=h₁ }:=by
 (refine aL hfY λl' el' hl'=>?_;clear hfY)
 (first|exact (aH (hfr ..) el').elim|cases aJ (hfr ..) el'|(rw[hfr]at el';cases el'))
 refine aL (FrY.base hl' S) λbase hc hff=>?_
 refine cZ hm.there λt he htn ht=>?_
 have st1:base.StaysIn h₁:=λb o hb=>hm.keeps b o (hc.stays b o hb)
 have fresh:∀b,s.heap.get? b=none→base.get? b=none:=λb hb=>by
  cases q:base.get? b with
  | none=>rfl
  | some o=>have:=hc.stays b o q;(first|exact (aH (hb ..) this).elim|cases aJ (hb ..) this|(rw[hb]at this;cases this))
 have S1:=S.ext s.toks hm.keeps;have hc1:Cov C fz (Un led Y) base h₁:=⟨hc.cov,st1⟩;refine aBA (s:={ s with heap:=h₁ }) hfr (hff.of_keeps λb o hb _=>⟨o,hm.keeps b o hb,rfl⟩) hf he st1 (fresh _ hm.new) rfl rfl rfl λh' hh hu=>?_
 have hx_12:=St.slots S1 s.toks hc1 hh.1 hu;have S':=hx_12.1;have hc':=hx_12.2;exact h h' S' ⟨base,t,tk,hc',hh,Heap.TupAt.of_slots ⟨_,_,ht,rfl,rfl⟩ hu⟩
end
end Sc

namespace Sc
set_option tactic.hygienic false
section
variable {C:Cx} {led:aF} {fe:Fe} {vs:aD} {k:Nat} {A:Around} {P:End→Shared→Prop} {c:Code} {fs:List Frame} {s:Shared} {fz:Fz} {F X:aF} {G:Array GenState}
 {K:Flow→Sem PySem.Fin} {H:Value→Sem PySem.Fin} {gd:Bool→Bool} {lv:List Value→List Value}
theorem xN{st:Stmt}{Q:Fl→aD→aF→Prop}(hA:RoomF k (A.over c fs) fe X)(hF:FOk fe vs F X)(hd:Dj F X)(S:St C fz led (Un F X) G s)(h:WS C led fe vs k (exec st fe.env) Q)
  (cont:∀f s1 fz1 G1 F1 vs1 led1 fl,FzLe fz fz1→GExt G G1→FlDen fz1 f fl→FOk fe vs1 F1 X→Dj F1 X→St C fz1 led1 (Un F1 X) G1 s1→Q fl vs1 led1→cM (model C.prog C.w) A P c (K f) fs s1) :
  cM (model C.prog C.w) A P c ((exec st fe.env).wrap K H gd lv) fs s :=
 rN (gI (h F X hF hd _ fz G s hA S) cont)
theorem aDW(hA:RoomF k (A.over c fs) fe X)(hF:FOk fe vs F X)(hd:Dj F X)(S:St C fz led (Un F X) G s)(h:WB C led fe vs k (isTrue test fe.env (eval test fe.env)) Q)
  (cont:∀b s1 fz1 G1 led1,FzLe fz fz1→GExt G G1→St C fz1 led1 (Un F X) G1 s1→Q b led1→(b=true→cM (model C.prog C.w) A P c ((execs body fe.env).wrap K H gd lv) fs s1)∧(b=false→cM (model C.prog C.w) A P c ((execs orelse fe.env).wrap K H gd lv) fs s1)) :
  cM (model C.prog C.w) A P c ((exec (.If test body orelse pos) fe.env).wrap K H gd lv) fs s :=
 aDV (hU (h F X hF hd _ fz G s hA S) cont)
theorem aCH(hfs:splitAtGen fs=none)(hA:RoomF k (A.over c fs) fe X)(hF:FOk fe vs F X)(hd:Dj F X)(S:St C fz led (Un F X) G s)(h:WE C led fe vs k (eval e fe.env) Q)
  (cont:∀v s1 fz1 G1 d led1,FzLe fz fz1→GExt G G1→Den fz1 v d→St C fz1 led1 (Un F X) G1 s1→Q d led1 →
   ∀(k:Resume→Sem PySem.Fin) l p,(∀A' P' s'',cM (model C.prog C.w) A' P' c (K .next) fs s''→cM (model C.prog C.w) A' P' c (k (.send .none)) fs s'')→P (.susp v (gd false) l k c p fs) s1)
  (hco:autoParam (fe.env.scope.isCoroutine=false) cD) (hi:autoParam (interactive fe.env=false) cD) :
  cM (model C.prog C.w) A P c ((exec (.Expr (.Yield (some e) ypos) pos) fe.env).wrap K H gd lv) fs s :=
 aAI hfs (aW (h F X hF hd _ fz G s hA S) cont) hco hi
end
noncomputable abbrev aBE(rest:List Stmt)(env:Env)(K:Flow→Sem PySem.Fin)(H:Value→Sem PySem.Fin):Flow→Sem PySem.Fin:=λf=>match f with|.next=>(execs rest env).wrap K H id id|f=>K f
noncomputable abbrev kI(fe:Fe)(body:List Stmt)(p:Pos):Frame :=
 .ret (λr=>(aCD fe.env r).wrap (aBE [] fe.env aBy (sT fe.env)) (sT fe.env) id id) none false [] (.func body fe.env) p []
noncomputable abbrev aCI(fe:Fe)(tgt:Expr)(it:Value)(fb:List Stmt)(rest1 rest2:List Stmt)(p:Pos):Frame :=
 .ret (λr=>(aCD fe.env r).wrap (aBE rest1 fe.env (aBE rest2 fe.env (aAJ tgt it fb [] fe.env) (eG fe.env)) (eG fe.env)) (eG fe.env) id id) none false [] (.forLoop tgt it fb [] fe.env) p []
theorem vD(hA:RoomY (k+1) A X)(hk:fe.env.scope.kind=.function)(hf:fe.env.frame=some fe.env.locals)(hc:c.weight=0)(hu:c.cUnits=0) :
  RoomF k (A.over c [kI fe body p]) fe X∧(A.over c [kI fe body p]).frames=A.frames.map (fe.env::·):=by
 have hfr:(A.over c [kI fe body p]).frames=A.frames.map (fe.env::·):=by
  refine (?_:pushEnvs c.envs (pushEnvs (envsOf [(Code.func body fe.env,p)]) A.frames)=_);erw[Code.envs_of_weight hc];rfl
 refine⟨⟨⟨hA.r.1,?_,?_⟩,?_⟩,hfr⟩
 ·refine (?_:A.depth+frameCount [(Code.func body fe.env,p)]+c.weight+k<1000);erw[hc];have:frameCount [(Code.func body fe.env,p)]=1:=rfl;have:=hA.r.2.1;lia
 ·refine (?_:A.units+unitsOf [(Code.func body fe.env,p)]+c.cUnits+20*k<9900);erw[hu];have:unitsOf [(Code.func body fe.env,p)]=3:=rfl;have:=hA.r.2.2;lia
 ·refine aL hA.fr λl e q=>?_
  refine⟨fe.env::l,by erw[hfr,e];rfl,λx hx=>?_⟩;rcases List.mem_cons.mp hx with rfl|hx
  ·exact⟨hk,_,hf,.inl rfl⟩
  ·obtain ⟨a,L,m,b,c⟩:=q x hx;exact⟨a,L,b,.inr ⟨m,c⟩⟩
theorem xO(hA:RoomY (k+1) A X)(hk:fe.env.scope.kind=.function)(hf:fe.env.frame=some fe.env.locals)(hc:c.weight=0)(hu:c.cUnits=0) :
  RoomF k (A.over c [aCI fe tgt it fb r1 r2 p2,kI fe body p]) fe X:=by
 have hfr:(A.over c [aCI fe tgt it fb r1 r2 p2,kI fe body p]).frames=A.frames.map (fe.env::·):=by
  refine (?_:pushEnvs c.envs (pushEnvs (envsOf [(Code.forLoop tgt it fb [] fe.env,p2),(Code.func body fe.env,p)]) A.frames)=_);erw[Code.envs_of_weight hc];rfl
 refine⟨⟨hA.r.1,?_,?_⟩,?_⟩
 ·refine (?_:A.depth+frameCount [(Code.forLoop tgt it fb [] fe.env,p2),(Code.func body fe.env,p)]+c.weight+k<1000);erw[hc];have:frameCount [(Code.forLoop tgt it fb [] fe.env,p2),(Code.func body fe.env,p)]=1:=rfl;have:=hA.r.2.1;lia
 ·refine (?_:A.units+unitsOf [(Code.forLoop tgt it fb [] fe.env,p2),(Code.func body fe.env,p)]+c.cUnits+20*k<9900);erw[hu];have:unitsOf [(Code.forLoop tgt it fb [] fe.env,p2),(Code.func body fe.env,p)]=3:=rfl;have:=hA.r.2.2;lia
 ·refine aL hA.fr λl e q=>?_
  refine⟨fe.env::l,by erw[hfr,e];rfl,λx hx=>?_⟩;rcases List.mem_cons.mp hx with rfl|hx
  ·exact⟨hk,_,hf,.inl rfl⟩
  ·obtain ⟨a,L,m,b,c⟩:=q x hx;exact⟨a,L,b,.inr ⟨m,c⟩⟩
theorem aAL(hA:RoomY (k+1) A X)(hk:fe.env.scope.kind=.function)(hf:fe.env.frame=some fe.env.locals):RoomF k (A.over (.func body fe.env) []) fe X:=by
 refine⟨⟨hA.r.1,?_,?_⟩,?_⟩
 ·refine (?_:A.depth+0+1+k<1000);have:=hA.r.2.1;exact bC [.lt (.a .p0 (.a .p1 .k1)) (.k 1000)] (.lt (.a (.a (.a .p0 (.k 0)) .k1) .p1) (.k 1000)) aB this
 ·refine (?_:A.units+0+3+20*k<9900);have:=hA.r.2.2;exact bC [.lt (.a .p0 (.l 20 (.a .p1 .k1))) (.k 9900)] (.lt (.a (.a (.a .p0 (.k 0)) .k3) (.l 20 .p1)) (.k 9900)) aB this
 ·refine aL hA.fr λl e q=>?_
  refine⟨fe.env::l,by show pushEnvs [fe.env] (pushEnvs [] A.frames)=_;erw[e];rfl,λx hx=>?_⟩;rcases List.mem_cons.mp hx with rfl|hx
  ·exact⟨hk,_,hf,.inl rfl⟩
  ·obtain ⟨a,L,m,b,c⟩:=q x hx;exact⟨a,L,b,.inr ⟨m,c⟩⟩
end Sc

namespace Sc
set_option tactic.hygienic false
section
variable {C:Cx} {led:aF} {fe:Fe} {vs:aD} {k:Nat} {Q:Fl→aD→aF→Prop}
theorem WT.sub(h:WT C led fe vs k t Q)(i:Sub vs vs'):WT C led fe vs' k t Q:=λF X hF hd=>h F X (hF.sub i) hd
noncomputable abbrev aDX(C:Cx)(fe:Fe)(k:Nat)(rest:List Stmt)(Q:Fl→aD→aF→Prop):Fl→aD→aF→Prop:=λfl vs led =>
 match fl with
 | .next=>WT C led fe vs k (execs rest fe.env) Q
 | fl=>Q fl vs led
theorem WT.cons{st:Stmt}{rest:List Stmt}(h:WT C led fe vs k (exec st fe.env) (aDX C fe k rest Q)):WT C led fe vs k (execs (st::rest) fe.env) Q:=by
 intro F X hF hd A fz G s hA hfr S;refine wpAny_execs_cons (gI (h F X hF hd A fz G s hA hfr S) λf s1 fz1 G1 F1 vs1 led1 fl l1 g1 e1 hF1 hd1 S1 h1=>?_);induction e1 using jL with
 | next=>exact aCt (h1 F1 X hF1 hd1 A fz1 G1 s1 hA hfr S1) l1 g1
 | brk=>exact⟨fz1,G1,F1,vs1,led1,.brk,l1,g1,trivial,hF1,hd1,S1,h1⟩
 | cont=>exact⟨fz1,G1,F1,vs1,led1,.cont,l1,g1,trivial,hF1,hd1,S1,h1⟩
 | ret v d e1=>exact⟨fz1,G1,F1,vs1,led1,.ret d,l1,g1,e1,hF1,hd1,S1,h1⟩
end
theorem xP{k:Nat}{a:Addr}{st:Stmt}{name name':Str}{args:Arguments}{body:List Stmt}{scope:Scope}{pos:Pos}{ds:List D}{Q:D→aF→Prop}(h:GFn C a st)
  (hst:st=.FunctionDef name args body [] none [] scope none name' pos) (vs:aD) (hok:fK args (vs.map (·.1)) scope=true) (hds:ds=vs.map (·.2))
  (hb:∀L cs q code,WT C led (dF scope L cs q a code) vs k (execs body (dF scope L cs q a code).env) (Back Q)):CallW C Y led (k+1) (.ref a) ds Q:=by
 (refine aN h ?_;clear h;intro fd h)
 exact (gP (h.1 Y led) (h.is hst) hok hds CloOk.nil rfl λL cs _ F X hF=>hb L cs _ _ F X hF.toNil).call
noncomputable def jN(fe:Fe)(vs:aD):Bool:=vs.all λp=>fe.env.kindOf p.1 == some .local || fe.ow.contains p.1
theorem FOk.back{fe:Fe}{vs:aD}{F R X:aF}(h:FOk fe vs F (Un R X))(hk:jN fe vs=true):FOk fe vs F X where
 fn:=h.fn
 glob:=h.glob
 blt:=h.blt
 loc:=h.loc
 cel:=λx d e q=>by
  refine aL (h.cel x d e q) λc a b=>?_
  refine⟨c,a,?_⟩;have:=List.all_eq_true.mp hk _ (mem_of_lookup e);simp only[Bool.or_eq_true,beq_iff_eq,List.contains_iff_mem]at this;rcases this with z|z
  ·exact absurd z q
  ·refine cJ (h.own x z) λc' dd e1 e2=>?_
   (first|exact (aH (a ..) e1).elim|cases aJ (a ..) e1|(rw[a]at e1;cases e1))
   rw[aC e2]at b ⊢;exact b
 own:=h.own
 inj:=h.inj
theorem FOk.front(h:FOk fe vs F X)(hd:Dj R X):FOk fe vs F (Un R X) :=
 h.up λa m e=>by erw[aE ((hd a).resolve_right (by erw[e];exact Option.some_ne_none _))];exact e
theorem RoomF.front(h:RoomF k A fe X)(hd:Dj R X):RoomF k A fe (Un R X) :=
 h.upX λa m e=>by erw[aE ((hd a).resolve_right (by erw[e];exact Option.some_ne_none _))];exact e
theorem aAM
  (hF:FOk fe vs F X) (hd:Dj F X) (hA:RoomF k A fe X) (S:St C fz led (Un F X) G s)
  (h:WE C led fe vs k (eval func fe.env) λf led1=>WL C led1 fe vs k (spliced (backTo pos (starEach args fe.env))) λds led2=>(∀Y,KeepOk C Y led2 f) ∧
   ∀fz2 G2 s2 fv vals,FzLe fz fz2→GExt G G2→St C fz2 led2 (Un F X) G2 s2→Den fz2 fv f→Dens fz2 vals ds→wpAny (model C.prog C.w) A (call fv vals) R No s2)
  (he:autoParam (eval (.Call func args [] pos) fe.env=(do callWith pos (← eval func fe.env) [] (backTo pos (starEach args fe.env)) (backToKw pos (keywordEach [] fe.env)))) cD)
  (hp:autoParam ((starEach args fe.env).all (λx=>!x.1)=true) cD) (hp2:autoParam ((backTo pos (starEach args fe.env)).any (·.1)=false) cD) :
  wpAny (model C.prog C.w) A (eval (.Call func args [] pos) fe.env) R No s:=by
 erw[he];refine wpAny_bind (aW (h F X hF hd A fz G s hA S) λfv s0 fz0 G0 f led0 l0 g0 e1 S0 h0=>?_);show wpAny _ _ (callWith pos fv [] (backTo pos (starEach args fe.env)) []) _ _ _
 unfold callWith;refine wpAny_bind (wpAny_holding (fL hp (kD (h0 F X hF hd A fz0 G0 s0 hA S0) λvs1 s1 fz1 G1 ds led1 l1 g1 e3 S1 h1=>?_)));refine wpAny_bind (wpAny_standAt ?_);have hk:=h1.1;have hc:=h1.2;rw[hp2]
 have tail:∀{t:Sem Value},wpAny (model C.prog C.w) A t R No s1→wpAny (model C.prog C.w) A (t >>= λr=>holding [r] point >>= λ_=>pure r) R No s1 :=
  λht=>wpAny_bind (wpAny_mono ht (λr s₂ hr=>wpAny_bind (wpAny_holding (wpAny_point (wpAny_pure hr)))) λ_ _ x=>x)
 have call0:=hc fz1 G1 s1 fv ([]++vs1) (l0.trans l1) (g0.trans g1) S1 (e1.mono l1) e3;refine wpAny_bind (hk _ A fz1 G1 s1 fv _ S1 (e1.mono l1) λb=>?_);cases b with
 | frame =>
  show wpAny _ _ (ite _ _ _) _ _ _
  split
  ·exact tail call0
  ·exact tail (by unfold callMarked;exact Calls.wpAny_keep call0)
 | boundFrame =>
  show wpAny _ _ (ite _ _ _) _ _ _
  split
  ·exact tail call0
  ·exact tail (by unfold callMarked;exact Calls.wpAny_keep call0)
 | machine=>exact tail call0
 | caller=>exact tail (wpAny_operating call0)
end Sc

namespace Sc
set_option tactic.hygienic false
theorem Flying.lands{G:Array GenState}{M:Model}{E:Value→Shared→Prop}{l:List Env}{e:Addr}{txt:Str}{Q:Unit→Shared→Prop}(S:St C fz led Y G s)(x:Flying C fz (Un led Y) l e txt s.heap)
  (h:∀h',St C fz led Y G { s with heap:=h' }→Flying C fz (Un led Y) l e txt h'→Q () { s with heap:=h' }):wpAny M A (setFlight (.ref e) none) Q E s:=by
 (refine dT x λbase t tk hc o1 ht=>?_;clear x;refine lQ o1 λk1 k2 k3 k4=>?_;clear o1)
 refine wpAny_setFlight_noneW k1 k3 k4.at λh' a1 a2 a3 a4=>?_
 have hu:s.heap.UpToSlots h':=λb o hb hn=>⟨o.slots,a4 b o hb hn⟩
 have hx_0:=S.slots s.toks hc a1 hu;have S':=hx_0.1;have hc':=hx_0.2;exact h h' S' ⟨base,t,tk,hc',⟨a1,k2,a2,a3⟩,ht.of_slots hu⟩
noncomputable def aCJ(C:Cx)(e:Addr)(txt:Str)(s:Shared):Prop :=
 ∀(A:Around) (Q:Value→Shared→Prop) (E:Value→Shared→Prop) (s':Shared),(∀b o,s.heap.get? b=some o→s'.heap.get? b=some o)→A.units+2<cLine→(∀tk,Q (.str txt tk) s')→wpAny (model C.prog C.w) A (call (.type "str") [.ref e]) Q E s'
theorem aCK(x:s.heap.ExcAt e "ValueError" (.ref t))(ht:s.heap.TupAt t [.str txt tk]):aCJ C e txt s:=by
 intro A Q E s' hk hu hq
 (refine aDG x λo vs ho hc hd h0=>?_;clear x)
 exact P.str_of_exc_one PySem.F.excStr_ValueError hu ⟨o,vs,hk _ _ ho,hc,hd,h0⟩ (ht.keeps hk) (hq tk)
theorem aCL:isSubtype (.type "ValueError") (.type "BaseException")=pure true:=by erw[isSubtype_type];kernel_rfl
theorem aCM:isSubtype (.type "ValueError") (.type "ValueError")=pure true:=by erw[isSubtype_type];kernel_rfl
theorem aBF:isSubtype (.type ((Manifest.find? "ValueError").elim "type" λx=>x.metatype)) (.type "tuple")=pure false:=by
 have:((Manifest.find? "ValueError").elim "type" λx=>x.metatype)="type":=by decide +kernel
 erw[this,isSubtype_type];kernel_rfl
theorem aBG{k:Nat}
  (l0:FzLe fz0 fz) (g0:GExt G0 G) (hF:FOk fe vs F X) (hd:Dj F X) (S:St C fz led (Un F X) G s) (hloc:fe.env.kindOf n=some .local) (hL:fe.env.frame=some L) (hh:Held C fz (Un led (Un F X)) l e L txt s.heap)
  (hve:C.mg "ValueError"=none) (hkk:fe.env.kindOf "ValueError"=some .globalImplicit)
  (hsuite:∀A' s' F',A'.units=A.units→FOk fe (hG vs n (.ref e)) F' X→Dj F' X→St C fz led (Un F' X) G s'→aCJ C e txt s' →
   wpAny (model C.prog C.w) A' (execs [suite] fe.env) (λf s4=>∃fz4 G4 d led4 v,f=.ret v∧FzLe fz fz4∧GExt G G4∧Den fz4 v d∧St C fz4 led4 (Un F' X) G4 s4∧Qs (.ret d) [] led4) No s') :
  wpAny (model C.prog C.w) A (noteFrame (.ref e) fe.env) (λ_ s₂=>wpAny (model C.prog C.w) A (setFlight (.ref e) none) (λ_ s₃=>wpAny (model C.prog C.w) A (handleBy (.ref e) fe.env [.ExceptHandler (some (.Name "ValueError" np)) (some n) [suite] hp]) (Psf C fz0 X fe G0 Qs) E s₃) E s₂) E s:=by
 refine hh.again hL (hh.lands S λh1 S1 hf1=>?_);refine wpAny_handleBy_builtin_as (X:="ValueError") (T:="ValueError") (b:=true) aCL aBF aCM ?_;have hbb:C.mb "ValueError"=some (.type "ValueError"):=(C.bb "ValueError" (by decide)).trans (by decide +kernel);refine Calls.Name_function_global hF.fn hkk (Calls.loadGlobal_builtin (by erw[hF.glob];exact S1.glob) hve (by erw[hF.blt];exact S1.blt) hbb ?_) (by with_unfolding_all rfl);refine⟨rfl,?_,?_⟩
 ·(refine dT hf1 λbase t tk hc hw ht=>?_;clear hf1)
  refine aL hw.there λob ho1 ho2=>?_
  exact⟨ob,ho1,ho2⟩
 ·erw[if_pos rfl];refine Flying.lands S1 hf1 λh2 S2 hf2=>?_
  refine aL hF.loc λm hm hm2=>?_
  refine aL (S2.at (aC hm)) λmv hn ho=>?_
  refine wpAny_storeName_local hloc hn (λh' hn' hs'=>?_) (by erw[hF.fn];rfl)
  obtain ⟨S3,d3⟩:=S2.frame hd hm (m:=.ns (hG m n (.ref e))) (s.toks+1) hs'.extBut ⟨_,hn',λy=>by
   erw[dB];by_cases q:y=n
   ·erw[if_pos q,if_pos q];intro e' he;(have e1:=Option.some.inj he;clear he;subst e1);exact⟨_,rfl,.ref e⟩
   ·erw[if_neg q,if_neg q];exact ho y⟩
  have hF3:=hF.put_local (d:=.ref e) hm hm2 hloc
  have hsays:aCJ C e txt { s with heap:=h',toks:=s.toks+1 }:=by
   obtain ⟨base,t,tk,hc,⟨_,_,_,oe,vs',T,oT,ts,he,⟨hcls,h0⟩,hdd,_⟩,ht⟩:=hf2;obtain ⟨oL,es,ep,hoL,hdL,_⟩:=hn;have ne1:e≠fe.env.locals:=λq=>by rw[q,hoL]at he;cases he;(first|exact (aH (hdL ..) hdd).elim|cases aJ (hdL ..) hdd|(rw[hdL]at hdd;cases hdd))
   obtain ⟨ot,nt,hot,hct,hdt⟩:=ht;have ne2:t≠fe.env.locals:=λq=>by rw[q,hoL]at hot;cases hot;(first|exact (aH (hdL ..) hdt).elim|cases aJ (hdL ..) hdt|(rw[hdL]at hdt;cases hdt))
   refine aCK (t:=t) (tk:=tk) ⟨oe,vs',hs'.extBut _ _ ne1 he,hcls,hdd,h0⟩ ⟨ot,nt,hs'.extBut _ _ ne2 hot,hct,hdt⟩
  refine wpAny_mono (hsuite (A.mark (some (.ref e))) _ _ rfl hF3 d3 S3 hsays) (λf s4 h4=>?_) λ_ _ x=>x.elim
  (refine aCo h4 λfz4 G4 d led4 v o1 l4 g4 e4 S4 q4=>?_;clear h4;subst o1)
  obtain ⟨mv4,hn4,_⟩:=S4.at (aC (aA F fe.env.locals (.ns (hG m n (.ref e)))));refine wpAny_nameGoes hloc hn4 (by erw[hF.fn];rfl) λh5 m5 hn5 hs5=>?_
  obtain ⟨S5,d5⟩:=S4.frame d3 (aA F fe.env.locals (.ns (hG m n (.ref e)))) (m:=.ns []) (s4.toks+1) hs5.extBut ⟨_,hn5,λy e' he=>by cases he⟩;refine⟨fz4,G4,_,[],led4,.ret d,l0.trans l4,g0.trans g4,e4,?_,d5,S5,q4⟩
  exact {
   fn:=hF.fn,glob:=hF.glob,blt:=hF.blt,inj:=hF.inj
   loc:=⟨[],aA ..,λx d h=>by cases h⟩
   cel:=λx d h=>by cases h
   own:=λy hy=>by
    obtain ⟨c,dd,q1,q2⟩:=hF3.own y hy;refine⟨c,dd,q1,?_⟩;rewrite[aG _ _ (λz=>?_)]
    ·exact q2
    ·rw[z,aA]at q2;cases q2 }
end Sc

set_option maxRecDepth 100000
namespace Sc
set_option tactic.hygienic false
open Builtin
theorem qR:∃v,typeLookup (.type "function") "__call__"=pure (some v):=⟨.builtin "function.__call__",by erw[typeLookup_type,builtinLookup_eq_fast];kernel_rfl⟩
section
variable {C:Cx} {Y led:aF} {k:Nat}
theorem CallW.iterF(hf:led f=some (.fn dict fd))(h:∀a,led a=none→Q (.ref a) (upd led a (.flds "callable_iterator" [.ref f,.int e,.bool false]))):CallW C Y led k (.blt "iter") [.ref f,.int e] Q:=by
 intro A fz G s fv vs hA S e1 e2;cases e1;cases e2 with|cons x1 y1=>cases y1 with|@cons v _ _ _ x2 y2=>cases y2 with|nil =>
 cases x1;refine cL (S.atL hf) λho hc=>?_
 refine aN qR λcv hcv=>?_
 refine Calls.call_function_entry rI oV oW (mQ _ _) ?_;show wpAny _ _ (specialOf (.ref f) "__call__" >>= λb=>if b.isNone then _ else _) _ _ s
 refine wpAny_bind (wpAny_specialOf (T:="function") ⟨_,ho,rfl⟩ hcv ?_);show wpAny _ _ (rule "iter.sentinel" >>= λ_=>newFields "callable_iterator" [.ref f,v,.bool false] >>= λv=>ret v) _ _ s
 refine wpAny_bind (wpAny_rule ?_);have ha:=aO s.heap (Nat.le_refl _);refine wpAny_bind (wpAny_newObj_type (wpAny_pure ⟨_,rfl,?_⟩));exact⟨fz,G,.ref _,_,.refl _,.refl _,.ref _,S.newL ha (m:=.flds "callable_iterator" [.ref f,.int e,.bool false]) s.toks (λb o e=>Heap.get?_push_of_some _ e) ⟨[.ref f,v,.bool false],Heap.get?_push_size _ rfl,.cons (.ref f) (.cons x2 (.cons (.bool _) .nil))⟩,h _ (S.fresh ha).1⟩
theorem KcY.iterF(hf:led f=some (.fn dict fd))(h:∀a,led a=none→Q (.ref a) (upd led a (.flds "callable_iterator" [.ref f,.int e,.bool false]))):∀Y,KCal C Y led k (.blt "iter") [.ref f,.int e] Q:=λ_=>⟨KeepOk.blt _,CallW.iterF hf h⟩
theorem aAN:oY C Y (.ref f) f fd:=⟨λfz u d=>by induction d using aT;exact⟨_,rfl⟩,λled fz G s u A Q E S hf d h=>by
 refine cZ (hf fz G s S) λfo hfo hfd _=>?_
 induction d using aT;unfold borrowsExactly;refine wpAny_bind (wpAny_load hfo ?_);erw[hfd]
 exact wpAny_pure h⟩
theorem aDY:aCA C e .int:=λy fz u v A s Q E du dv h1 h2=>by
 induction du using bG;induction dv using bG;refine wpAny_eqBool_int ?_;by_cases hy:y=e
 ·erw[show (e == y)=true from beq_iff_eq.mpr hy.symm];exact h1 hy
 ·erw[show (e == y)=false from beq_eq_false_iff_ne.mpr (Ne.symm hy)];exact h2 hy
theorem aAO(ha:led a=some (.flds "callable_iterator" [.ref f,.int e,.bool false]))(hf:Callable C Y led f fd)
  (h:CodeW C Y led k (.ref f) [] λd led'=>∃y,d=.int y∧led' a=led a∧Callable C Y led' f fd∧(y=e→P none (upd led' a iD))∧(y≠e→P (some (.int y)) led')):NextW C Y led (k+1) a P :=
 rL aAN aDY ha hf h
end
end Sc

set_option maxRecDepth 100000
namespace Sc
set_option tactic.hygienic false
noncomputable abbrev dU(f0:Value)(b:Bool)(TI TO:Addr):Obj:={ cls:=.type "zip",dict:=none,data:=.fields #[f0,.bool b,.bool false,.ref TI,.ref TO],slots:=#[] }
structure ZipSt (z TI TO i1 i2:Addr) (h:Heap):Prop where
 zo:∃f0 b,h.get? z=some (dU f0 b TI TO)∧(f0=.none∨∃T:Nat,f0=rawInt T)
 ti:IsPair h TI (.ref i1) (.ref i2)
 to:∃a b,IsPair h TO a b
structure ZA (z TI TO i1 i2:Addr) (fp1 fp2:List Addr):Prop where
 TIz:TI≠z
 TOz:TO≠z
 i1z:i1≠z
 i2z:i2≠z
 TITO:TI≠TO
 TIi1:TI≠i1
 TIi2:TI≠i2
 TOi1:TO≠i1
 TOi2:TO≠i2
 i12:i1≠i2
 zf1:z∉fp1
 TOf1:TO∉fp1
 i2f1:i2∉fp1
 zf2:z∉fp2
 TOf2:TO∉fp2
 i1f2:i1∉fp2
section
variable {prog:Program} {w:World} {A:Around} {E:Value→Shared→Prop} {s:Shared} {z TI TO i1 i2:Addr} {fp1 fp2:List Addr} {n1 n2 i j:Nat} {P1 P2:Nat→Value→Prop} {S1 S2:Nat→Heap→Prop}
theorem aAP(h:Q (s.heap.get? a) s):wpAny (model prog w) A (loadIfAlive a) Q E s:=λ_ _ _=>h
theorem vE(hz:s.heap.get? z=some (dU f0 b TI TO))(hf:f0=.none∨∃T:Nat,f0=rawInt T)
  (h1:Q true s) (h2:∀h' b',h'.get? z=some (dU f0 b' TI TO)→Heap.ExtBut z s.heap h'→h'.objs.size=s.heap.objs.size→Q false { s with heap:=h' }):wpAny (model prog w) A (Builtin.SmallTypes.ownedTupleIsFree (.ref z)) Q E s:=by
 unfold Builtin.SmallTypes.ownedTupleIsFree;refine wpAny_bind (wpAny_field hz rfl (x:=f0) rfl ?_);rcases hf with rfl|⟨T,rfl⟩
 ·exact wpAny_pure h1
 ·show wpAny _ _ (loadIfAlive ((T:Int).toNat) >>= _) _ _ _
  have ht:((T:Int).toNat)=T:=rfl;refine wpAny_bind (aAP ?_);erw[ht];cases hT:s.heap.get? T with
  | none=>exact wpAny_pure h1
  | some o =>
   show wpAny _ _ (field (.ref z) 1 >>= _) _ _ _
   refine wpAny_bind (wpAny_field hz rfl (x:=.bool b) rfl ?_);cases b with
   | true=>exact wpAny_pure (h2 s.heap true hz (λ_ _ _ e=>e) rfl)
   | false =>
    show wpAny _ _ (setField (.ref z) 1 (.bool true) >>= _) _ _ _
    refine wpAny_bind (wpAny_setField_rec hz (Nat.le_of_ble_eq_true rfl) λh' hz' hs'=>wpAny_pure ?_);exact h2 h' true hz' hs'.extBut hs'.1
theorem aAQ(Z:ZA z TI TO i1 i2 fp1 fp2)(D1:Draws prog w A i1 fp1 n1 P1 S1)(D2:Draws prog w A i2 fp2 n2 P2 S2)(hz:ZipSt z TI TO i1 i2 s.heap)(hs1:S1 i s.heap)(hs2:S2 j s.heap)(hi:i<n1)(hj:j<n2){Q:Value→Shared→Prop}
  (hQ:∀x y T h' tk,P1 i x→P2 j y→ZipSt z TI TO i1 i2 h'→S1 (i+1) h'→S2 (j+1) h'→s.heap.get? T=none→IsPair h' T x y →
   (∀c o,c≠z→c≠TO→c≠i1→c≠i2→s.heap.get? c=some o→h'.get? c=some o)→Q (.ref T) { s with heap:=h',toks:=tk }) :
  wpAny (model prog w) A (Builtin.«zip.__next__» ⟨[.ref z],[]⟩) (λfin s'=>∃v,fin=.done (.ret v)∧Q v s') E s:=by
 obtain ⟨⟨f0,b,hz,hf0⟩,hTI,a,b',hTO⟩:=hz;refine aN (D1.live _ _ hs1) λo1 ho1=>?_
 refine aN (D2.live _ _ hs2) λo2 ho2=>?_
 have f1:∀{n h h'} (c:Addr),c∉fp1→S1 n h→Heap.ExtBut c h h'→S1 n h':=λc hc hS hx=>D1.frame _ _ _ hS λb hb o q=>hx b o (λe=>hc (e▸hb)) q
 have f2:∀{n h h'} (c:Addr),c∉fp2→S2 n h→Heap.ExtBut c h h'→S2 n h':=λc hc hS hx=>D2.frame _ _ _ hS λb hb o q=>hx b o (λe=>hc (e▸hb)) q
 obtain ⟨hp,g,d,tk,os⟩:=s;show wpAny _ _ (field (.ref z) 2 >>= _) _ _ _
 refine wpAny_bind (wpAny_field hz rfl (x:=.bool false) rfl ?_);show wpAny _ _ (field (.ref z) 3 >>= _) _ _ _
 refine wpAny_bind (wpAny_field hz rfl (x:=.ref TI) rfl ?_);refine wpAny_bind (wpAny_seqItems hTI rfl ?_);show wpAny _ _ (Builtin.SmallTypes.ownedTupleIsFree (.ref z) >>= _) _ _ _
 refine wpAny_bind (vE hz hf0 ?_ λh₁ b₁ hz₁ hx₁ hsz₁=>?_)
 ·simp only[if_true];refine wpAny_bind (wpAny_rule ?_);refine wpAny_bind (wpAny_field hz rfl (x:=.ref TO) rfl ?_);refine wpAny_bind (wpAny_setField_rec hz (Nat.le_of_ble_eq_true rfl) λh₁ hz₁ hs₁=>?_);replace hz₁:h₁.get? z=some (dU .ellipsis b TI TO):=hz₁;replace hs₁:Heap.SameBut z hp h₁:=hs₁;refine wpAny_bind ?_;simp only[List.zipIdx_cons,List.zipIdx_nil,List.forIn_cons,List.forIn_nil];refine wpAny_bind (wpAny_bind (wpAny_onRaise ?_));show wpAny _ _ (Builtin.SmallTypes.nextOf (.ref i1) >>= _) _ _ ⟨h₁,g,d,tk,os⟩
  refine wpAny_bind (D1.item i _ _ _ hi (f1 z Z.zf1 hs1 hs₁.extBut) λx h₂ tk₂ hPx h1₂ hs₂=>wpAny_pure ?_);replace hs₂:Heap.SameBut i1 h₁ h₂:=hs₂;have hTO₂:IsPair h₂ TO a b':=hs₂.extBut _ _ Z.TOi1 (hs₁.extBut _ _ Z.TOz hTO);refine wpAny_bind (wpAny_seqItems hTO₂ rfl ?_);refine wpAny_bind (wpAny_updateSeq_pair hTO₂ λh₃ hTO₃ hs₃=>?_);replace hTO₃:IsPair h₃ TO x b':=hTO₃;replace hs₃:Heap.SameBut TO h₂ h₃:=hs₃;refine wpAny_bind (wpAny_letGo (wpAny_pure ?_));refine wpAny_bind (wpAny_bind (wpAny_onRaise ?_));show wpAny _ _ (Builtin.SmallTypes.nextOf (.ref i2) >>= _) _ _ ⟨h₃,g,d,tk₂,os⟩
  refine wpAny_bind (D2.item j _ _ _ hj (f2 TO Z.TOf2 (f2 i1 Z.i1f2 (f2 z Z.zf2 hs2 hs₁.extBut) hs₂.extBut) hs₃.extBut) λy h₄ tk₄ hPy h2₄ hs₄=>wpAny_pure ?_);replace hs₄:Heap.SameBut i2 h₃ h₄:=hs₄;have hTO₄:IsPair h₄ TO x b':=hs₄.extBut _ _ Z.TOi2 hTO₃;refine wpAny_bind (wpAny_seqItems hTO₄ rfl ?_);refine wpAny_bind (wpAny_updateSeq_pair hTO₄ λh₅ hTO₅ hs₅=>?_);replace hTO₅:IsPair h₅ TO x y:=hTO₅;replace hs₅:Heap.SameBut TO h₄ h₅:=hs₅;refine wpAny_bind (wpAny_letGo (wpAny_pure (wpAny_pure ?_)));refine wpAny_bind (wpAny_seqItems hTO₅ rfl ?_);refine wpAny_bind (wpAny_newTuple ?_);have hsz:h₅.objs.size=hp.objs.size:=by erw[hs₅.1,hs₄.1,hs₃.1,hs₂.1,hs₁.1]
  have hz₅:h₅.get? z=some (dU .ellipsis b TI TO):=hs₅.extBut _ _ Z.TOz.symm (hs₄.extBut _ _ Z.i2z.symm (hs₃.extBut _ _ Z.TOz.symm (hs₂.extBut _ _ Z.i1z.symm hz₁)))
  have hk₅:∀c o,c≠z→c≠TO→c≠i1→c≠i2→hp.get? c=some o→h₅.get? c=some o:=λc o c1 c2 c3 c4 e =>
   hs₅.extBut _ _ c2 (hs₄.extBut _ _ c4 (hs₃.extBut _ _ c2 (hs₂.extBut _ _ c3 (hs₁.extBut _ _ c1 e))))
  have h1₅:S1 (i+1) h₅:=f1 TO Z.TOf1 (f1 i2 Z.i2f1 (f1 TO Z.TOf1 h1₂ hs₃.extBut) hs₄.extBut) hs₅.extBut;have h2₅:S2 (j+1) h₅:=f2 TO Z.TOf2 h2₄ hs₅.extBut;have hzlt:z<h₅.objs.size:=Heap.lt_size hz₅;show wpAny _ _ (Builtin.SmallTypes.ownedTupleHandOut (.ref z) (.ref h₅.objs.size) >>= _) _ _ ⟨h₅.push { cls:=.type "tuple",data:=.seq #[x,y] },g,d,tk₄,os⟩
  refine wpAny_bind ?_;unfold Builtin.SmallTypes.ownedTupleHandOut;have hz₆:(h₅.push { cls:=.type "tuple",data:=.seq #[x,y] }).get? z=some (dU .ellipsis b TI TO):=Heap.get?_push_of_some _ hz₅;refine wpAny_bind (wpAny_setField_rec hz₆ (Nat.le_of_ble_eq_true rfl) λh₇ hz₇ hs₇=>?_);replace hz₇:h₇.get? z=some (dU (rawInt h₅.objs.size) b TI TO):=hz₇;replace hs₇:Heap.SameBut z _ h₇:=hs₇;refine wpAny_setField_rec hz₇ (Nat.le_of_ble_eq_true rfl) λh₈ hz₈ hs₈=>?_
  replace hz₈:h₈.get? z=some (dU (rawInt h₅.objs.size) false TI TO):=hz₈;replace hs₈:Heap.SameBut z h₇ h₈:=hs₈;have up:∀c o,c≠z→h₅.get? c=some o→h₈.get? c=some o:=λc o c1 e=>hs₈.extBut _ _ c1 (hs₇.extBut _ _ c1 (Heap.get?_push_of_some _ e))
  have hT₈:IsPair h₈ h₅.objs.size x y:=hs₈.extBut _ _ (Nat.ne_of_gt hzlt) (hs₇.extBut _ _ (Nat.ne_of_gt hzlt) (Heap.get?_push_size _ rfl));refine wpAny_pure ⟨_,rfl,?_⟩
  exact hQ x y h₅.objs.size h₈ tk₄ hPx hPy ⟨⟨_,_,hz₈,.inr ⟨_,rfl⟩⟩,up _ _ Z.TIz (hk₅ _ _ Z.TIz Z.TITO Z.TIi1 Z.TIi2 hTI),_,_,up _ _ Z.TOz hTO₅⟩ (D1.frame _ _ _ h1₅ λc hc o e=>up c o (λq=>Z.zf1 (q▸hc)) e) (D2.frame _ _ _ h2₅ λc hc o e=>up c o (λq=>Z.zf2 (q▸hc)) e)
   (by erw[hsz];exact aO _ (Nat.le_refl _)) hT₈ λc o c1 c2 c3 c4 e=>up c o c1 (hk₅ c o c1 c2 c3 c4 e)
 ·replace hz₁:h₁.get? z=some (dU f0 b₁ TI TO):=hz₁;replace hx₁:Heap.ExtBut z hp h₁:=hx₁;have hsz₁':h₁.objs.size=hp.objs.size:=hsz₁;simp only[Bool.false_eq_true,if_false];refine wpAny_bind ?_;simp only[List.forIn_toArray,List.forIn_cons,List.forIn_nil];refine wpAny_bind (wpAny_bind (wpAny_holding ?_));show wpAny _ _ (Builtin.SmallTypes.nextOf (.ref i1) >>= _) _ _ ⟨h₁,g,d,tk,os⟩
  refine wpAny_bind (D1.item i _ _ _ hi (f1 z Z.zf1 hs1 hx₁) λx h₂ tk₂ hPx h1₂ hs₂=>wpAny_pure (wpAny_pure ?_));replace hs₂:Heap.SameBut i1 h₁ h₂:=hs₂;refine wpAny_bind (wpAny_bind (wpAny_holding ?_));show wpAny _ _ (Builtin.SmallTypes.nextOf (.ref i2) >>= _) _ _ ⟨h₂,g,d,tk₂,os⟩
  refine wpAny_bind (D2.item j _ _ _ hj (f2 i1 Z.i1f2 (f2 z Z.zf2 hs2 hx₁) hs₂.extBut) λy h₃ tk₃ hPy h2₃ hs₃=>wpAny_pure (wpAny_pure (wpAny_pure ?_)));replace hs₃:Heap.SameBut i2 h₂ h₃:=hs₃;show wpAny _ _ (newTuple [x,y] >>= _) _ _ ⟨h₃,g,d,tk₃,os⟩
  refine wpAny_bind (wpAny_newTuple (wpAny_pure ⟨_,rfl,?_⟩));have hsz:h₃.objs.size=hp.objs.size:=by erw[hs₃.1,hs₂.1,hsz₁']
  have hk:∀c o,c≠z→c≠i1→c≠i2→hp.get? c=some o→h₃.get? c=some o:=λc o c1 c3 c4 e=>hs₃.extBut _ _ c4 (hs₂.extBut _ _ c3 (hx₁ _ _ c1 e))
  have up:∀c o,h₃.get? c=some o→(h₃.push { cls:=.type "tuple",data:=.seq #[x,y] }).get? c=some o:=λc o e=>Heap.get?_push_of_some _ e
  exact hQ x y h₃.objs.size _ tk₃ hPx hPy ⟨⟨f0,b₁,up _ _ (hs₃.extBut _ _ Z.i2z.symm (hs₂.extBut _ _ Z.i1z.symm hz₁)),hf0⟩,up _ _ (hk _ _ Z.TIz Z.TIi1 Z.TIi2 hTI),_,_,up _ _ (hk _ _ Z.TOz Z.TOi1 Z.TOi2 hTO)⟩
   (D1.frame _ _ _ (f1 i2 Z.i2f1 h1₂ hs₃.extBut) λc hc o e=>up c o e) (D2.frame _ _ _ h2₃ λc hc o e=>up c o e) (by erw[hsz];exact aO _ (Nat.le_refl _)) (Heap.get?_push_size _ rfl) λc o c1 c2 c3 c4 e=>up c o (hk c o c1 c3 c4 e)
theorem aBH(Z:ZA z TI TO i1 i2 fp1 fp2)(D1:Draws prog w A i1 fp1 n1 P1 S1)(D2:Draws prog w A i2 fp2 n2 P2 S2)(hz:ZipSt z TI TO i1 i2 s.heap)(hs1:S1 i s.heap)(hs2:S2 i s.heap)(hi:i=min n1 n2)
  (hE:∀h' e tk,(∀c o,c≠z→c≠TO→c≠i1→c≠i2→s.heap.get? c=some o→h'.get? c=some o)→(∃o,h'.get? e=some o∧o.cls=.type "StopIteration")→E (.ref e) { s with heap:=h',toks:=tk }) :
  wpAny (model prog w) A (Builtin.«zip.__next__» ⟨[.ref z],[]⟩) Q E s:=by
 obtain ⟨⟨f0,b,hz,hf0⟩,hTI,a,b',hTO⟩:=hz;have f1:∀{n h h'} (c:Addr),c∉fp1→S1 n h→Heap.ExtBut c h h'→S1 n h':=λc hc hS hx=>D1.frame _ _ _ hS λb hb o q=>hx b o (λe=>hc (e▸hb)) q
 have f2:∀{n h h'} (c:Addr),c∉fp2→S2 n h→Heap.ExtBut c h h'→S2 n h':=λc hc hS hx=>D2.frame _ _ _ hS λb hb o q=>hx b o (λe=>hc (e▸hb)) q
 obtain ⟨hp,g,d,tk,os⟩:=s;show wpAny _ _ (field (.ref z) 2 >>= _) _ _ _
 refine wpAny_bind (wpAny_field hz rfl (x:=.bool false) rfl ?_);show wpAny _ _ (field (.ref z) 3 >>= _) _ _ _
 refine wpAny_bind (wpAny_field hz rfl (x:=.ref TI) rfl ?_);refine wpAny_bind (wpAny_seqItems hTI rfl ?_);show wpAny _ _ (Builtin.SmallTypes.ownedTupleIsFree (.ref z) >>= _) _ _ _
 refine wpAny_bind (vE hz hf0 ?_ λh₁ b₁ hz₁ hx₁ hsz₁=>?_)
 ·simp only[if_true];refine wpAny_bind (wpAny_rule ?_);refine wpAny_bind (wpAny_field hz rfl (x:=.ref TO) rfl ?_);refine wpAny_bind (wpAny_setField_rec hz (Nat.le_of_ble_eq_true rfl) λh₁ hz₁ hs₁=>?_);replace hz₁:h₁.get? z=some (dU .ellipsis b TI TO):=hz₁;replace hs₁:Heap.SameBut z hp h₁:=hs₁;refine wpAny_bind ?_;simp only[List.zipIdx_cons,List.zipIdx_nil,List.forIn_cons,List.forIn_nil];refine wpAny_bind (wpAny_bind (wpAny_onRaise ?_));show wpAny _ _ (Builtin.SmallTypes.nextOf (.ref i1) >>= _) _ _ ⟨h₁,g,d,tk,os⟩
  have hs1₁:=f1 z Z.zf1 hs1 hs₁.extBut;have hs2₁:=f2 z Z.zf2 hs2 hs₁.extBut;by_cases hlt:i<n1
  ·have hin2:i=n2:=by omega
   refine wpAny_bind (D1.item i _ _ _ hlt hs1₁ λx h₂ tk₂ hPx h1₂ hs₂=>wpAny_pure ?_);replace hs₂:Heap.SameBut i1 h₁ h₂:=hs₂;have hTO₂:IsPair h₂ TO a b':=hs₂.extBut _ _ Z.TOi1 (hs₁.extBut _ _ Z.TOz hTO);refine wpAny_bind (wpAny_seqItems hTO₂ rfl ?_);refine wpAny_bind (wpAny_updateSeq_pair hTO₂ λh₃ hTO₃ hs₃=>?_);replace hs₃:Heap.SameBut TO h₂ h₃:=hs₃;refine wpAny_bind (wpAny_letGo (wpAny_pure ?_));refine wpAny_bind (wpAny_bind (wpAny_onRaise ?_));show wpAny _ _ (Builtin.SmallTypes.nextOf (.ref i2) >>= _) _ _ ⟨h₃,g,d,tk₂,os⟩
   have hs2₃:=f2 TO Z.TOf2 (f2 i1 Z.i1f2 hs2₁ hs₂.extBut) hs₃.extBut;rw[hin2]at hs2₃;refine wpAny_bind (D2.done _ _ _ hs2₃ λh₄ e hs₄ he=>?_)
   (refine aL he λoe hoe hce=>?_;clear he)
   replace hs₄:Heap.ExtBut i2 h₃ h₄:=hs₄;have hz₄:h₄.get? z=some (dU .ellipsis b TI TO):=hs₄ _ _ Z.i2z.symm (hs₃.extBut _ _ Z.TOz.symm (hs₂.extBut _ _ Z.i1z.symm hz₁));have hez:e≠z:=λx=>by subst x;rw[hz₄]at hoe;(have e1:=Option.some.inj hoe;clear hoe;subst e1);simp at hce
   refine wpAny_setField_rec hz₄ (Nat.le_of_ble_eq_true rfl) λh₅ _ hs₅=>hE h₅ e tk₂ (λc o c1 c2 c3 c4 x=>hs₅.extBut _ _ c1 (hs₄ _ _ c4 (hs₃.extBut _ _ c2 (hs₂.extBut _ _ c3 (hs₁.extBut _ _ c1 x))))) ⟨oe,hs₅.extBut _ _ hez hoe,hce⟩
  ·have hin1:i=n1:=by omega
   rw[hin1]at hs1₁;refine wpAny_bind (D1.done _ _ _ hs1₁ λh₂ e hs₂ he=>?_)
   (refine aL he λoe hoe hce=>?_;clear he)
   replace hs₂:Heap.ExtBut i1 h₁ h₂:=hs₂;have hz₂:h₂.get? z=some (dU .ellipsis b TI TO):=hs₂ _ _ Z.i1z.symm hz₁;have hez:e≠z:=λx=>by subst x;rw[hz₂]at hoe;(have e1:=Option.some.inj hoe;clear hoe;subst e1);simp at hce
   refine wpAny_setField_rec hz₂ (Nat.le_of_ble_eq_true rfl) λh₃ _ hs₃=>hE h₃ e tk (λc o c1 _ c3 _ x=>hs₃.extBut _ _ c1 (hs₂ _ _ c3 (hs₁.extBut _ _ c1 x))) ⟨oe,hs₃.extBut _ _ hez hoe,hce⟩
 ·replace hx₁:Heap.ExtBut z hp h₁:=hx₁;simp only[Bool.false_eq_true,if_false];refine wpAny_bind ?_;simp only[List.forIn_toArray,List.forIn_cons,List.forIn_nil];refine wpAny_bind (wpAny_bind (wpAny_holding ?_));show wpAny _ _ (Builtin.SmallTypes.nextOf (.ref i1) >>= _) _ _ ⟨h₁,g,d,tk,os⟩
  have hs1₁:=f1 z Z.zf1 hs1 hx₁;have hs2₁:=f2 z Z.zf2 hs2 hx₁;by_cases hlt:i<n1
  ·have hin2:i=n2:=by omega
   refine wpAny_bind (D1.item i _ _ _ hlt hs1₁ λx h₂ tk₂ hPx h1₂ hs₂=>wpAny_pure (wpAny_pure ?_));replace hs₂:Heap.SameBut i1 h₁ h₂:=hs₂;refine wpAny_bind (wpAny_bind (wpAny_holding ?_));show wpAny _ _ (Builtin.SmallTypes.nextOf (.ref i2) >>= _) _ _ ⟨h₂,g,d,tk₂,os⟩
   have hs2₃:=f2 i1 Z.i1f2 hs2₁ hs₂.extBut;rw[hin2]at hs2₃;refine wpAny_bind (D2.done _ _ _ hs2₃ λh₄ e hs₄ he=>?_);exact hE h₄ e tk₂ (λc o c1 c2 c3 c4 x=>hs₄ _ _ c4 (hs₂.extBut _ _ c3 (hx₁ _ _ c1 x))) he
  ·have hin1:i=n1:=by omega
   rw[hin1]at hs1₁;refine wpAny_bind (D1.done _ _ _ hs1₁ λh₂ e hs₂ he=>?_);exact hE h₂ e tk (λc o c1 _ c3 _ x=>hs₂ _ _ c3 (hx₁ _ _ c1 x)) he
end
structure WalksF (prog:Program) (w:World) (A:Around) (I:Addr) (fp wr:List Addr) (n:Nat) (P:Nat→List Value→Prop) (St:Nat→Heap→Prop):Prop where
 frame:∀i h h',St i h→(∀b∈fp,∀o,h.get? b=some o→h'.get? b=some o)→St i h'
 alive:∀i h b,St i h→b∈wr→∃o,h.get? b=some o
 item:∀i (s:Shared) (Q:Option Value→Shared→Prop) (E:Value→Shared→Prop),i<n→St i s.heap →
  (∀T vals h' tk,P i vals→s.heap.get? T=none→h'.get? T=some { cls:=.type "tuple",data:=.seq vals.toArray }→St (i+1) h'→(∀b o,b∉wr→s.heap.get? b=some o→h'.get? b=some o)→Q (some (.ref T)) { s with heap:=h',toks:=tk })→wpAny (model prog w) A (pyNext (.ref I)) Q E s
 done:∀(s:Shared) (Q:Option Value→Shared→Prop) (E:Value→Shared→Prop),St n s.heap →
  (∀h' tk,(∀b o,b∉wr→s.heap.get? b=some o→h'.get? b=some o)→Q none { s with heap:=h',toks:=tk })→wpAny (model prog w) A (pyNext (.ref I)) Q E s
 self:∀i (s:Shared) (Q:Value→Shared→Prop) (E:Value→Shared→Prop),St i s.heap→Q (.ref I) s→wpAny (model prog w) A (pyIter (.ref I)) Q E s
section
variable {prog:Program} {w:World} {z TI TO i1 i2:Addr} {fp1 fp2:List Addr} {n1 n2:Nat} {P1 P2:Nat→Value→Prop} {S1 S2:Nat→Heap→Prop}
theorem WalksF.zip(Z:ZA z TI TO i1 i2 fp1 fp2)(D1:∀A:Around,A.handled=none→Draws prog w A i1 fp1 n1 P1 S1)(D2:∀A:Around,A.handled=none→Draws prog w A i2 fp2 n2 P2 S2)(A:Around)(hA:A.handled=none) :
  WalksF prog w A z ([z,TI,TO,i1,i2]++fp1++fp2) [z,TI,TO,i1,i2] (min n1 n2) (λi vals=>∃x y,P1 i x∧P2 i y∧vals=[x,y]) (λi h=>ZipSt z TI TO i1 i2 h∧S1 i h∧S2 i h) where
 frame:=λi h h' ⟨⟨⟨f0,b,hz,hf⟩,hTI,a,b',hTO⟩,h1,h2⟩ hk=>⟨⟨⟨f0,b,hk z (by exact List.mem_of_mem_head? rfl) _ hz,hf⟩,hk TI (by simp) _ hTI,a,b',hk TO (by simp) _ hTO⟩,(D1 A hA).frame _ _ _ h1 λb hb o q=>hk b (by simp[hb]) o q,(D2 A hA).frame _ _ _ h2 λb hb o q=>hk b (by exact List.mem_append_right ([z,TI,TO,i1,i2]++fp1) hb) o q⟩
 alive:=λi h b ⟨⟨⟨f0,b0,hz,hf⟩,hTI,a,b',hTO⟩,h1,h2⟩ hb=>by
  simp only[List.mem_cons,List.not_mem_nil,or_false]at hb;rcases hb with rfl|rfl|rfl|rfl|rfl
  ·exact⟨_,hz⟩
  ·exact⟨_,hTI⟩
  ·exact⟨_,hTO⟩
  ·exact (D1 A hA).live _ _ h1
  ·exact (D2 A hA).live _ _ h2
 item:=λi s Q E hi ⟨hz,h1,h2⟩ hQ=>by
  refine cJ hz.zo λf0 b hz0 hf=>?_
  have hT:s.TypeIs (.ref z) "zip":=⟨_,hz0,rfl⟩;unfold pyNext
  exact wpAny_bind (wpAny_attempt (wpAny_callSpecial?_slot (name:=Str.ofString "__next__") hT PySem.F.slot_zip_next
   (wpAny_call_entry PySem.F.slot_zip_next hT PySem.F.entry_zip_next
    (aAQ Z (D1 A.in1 hA) (D2 A.in1 hA) hz h1 h2 (by omega) (by omega) λx y T h' tk a1 a2 a3 a4 a5 a6 a7 a8=>wpAny_pure (hQ T [x,y] h' tk ⟨x,y,a1,a2,rfl⟩ a6 a7 ⟨a3,a4,a5⟩ λb o hb e=>a8 b o (λq=>hb (by simp[q])) (λq=>hb (by simp[q])) (λq=>hb (by simp[q])) (λq=>hb (by simp[q])) e)) (PySem.F.args_zip_next_1 _))))
 done:=λs Q E ⟨hz,h1,h2⟩ hQ=>by
  refine cJ hz.zo λf0 b hz0 hf=>?_
  have hT:s.TypeIs (.ref z) "zip":=⟨_,hz0,rfl⟩;unfold pyNext
  refine wpAny_bind (wpAny_attempt (wpAny_callSpecial?_slot (name:=Str.ofString "__next__") hT PySem.F.slot_zip_next
   (wpAny_call_entry PySem.F.slot_zip_next hT PySem.F.entry_zip_next (aBH Z (D1 A.in1 hA) (D2 A.in1 hA) hz h1 h2 rfl λh' e tk hk he=>?_) (PySem.F.args_zip_next_1 _))))
  (refine aL he λo ho hc=>?_;clear he)
  refine wpAny_bind (wpAny_isInstance (T:="StopIteration") (b:=true) ⟨o,ho,hc⟩ isSubtype_stop ?_);exact wpAny_pure (hQ _ tk λb o hb e=>hk b o (λq=>hb (by simp[q])) (λq=>hb (by simp[q])) (λq=>hb (by simp[q])) (λq=>hb (by simp[q])) e)
 self:=λi s Q E ⟨hz,h1,h2⟩ hQ=>by
  refine cJ hz.zo λf0 b hz0 hf=>?_
  have hT:s.TypeIs (.ref z) "zip":=⟨_,hz0,rfl⟩;refine wpAny_pyIter_slot hT PySem.F.slot_zip_iter (wpAny_call_entry PySem.F.slot_zip_iter hT PySem.F.entry_zip_iter ?_ (PySem.F.args_zip_iter_1 _));show wpAny _ _ (ret (.ref z)) _ _ s
  exact wpAny_pure ⟨_,rfl,"zip",_,hT,PySem.F.slot_zip_next.lookup,hQ⟩
end
end Sc

set_option maxRecDepth 100000
namespace Sc
theorem vF{C:Cx}{fz:Fz}{I:Addr}{fp wr:List Addr}{items:List D}{P:Nat→List Value→Prop}{St₀:Nat→Heap→Prop}{target:Expr}(W:∀A:Around,A.handled=none→WalksF C.prog C.w A I fp wr items.length P St₀)
  (hfp:∀b,b∈fp→b∉wr→∃o,fz b=some o) (hP:∀i vals d,P i vals→items[i]?=some d→∃ds,d=.tup ds∧Dens fz vals ds) (ht:∀it v,letOwnedTupleGo target it v=pure ()):ItrT C fz I wr items St₀ target where
 next:=λ{A' fz' led' Y' R G' s' i} hA' lz hR' hdR S' hst hi' {Q E} h1 h2=>by
  have W:=W A' hA';by_cases hlt:i<items.length
  ·refine W.item i s' _ E hlt hst λT vals hh tk hPv hTs hTh hst2 hkk=>?_
   refine wpAny_of_eq (ht _ _) ?_;have hTwr:T∉wr:=λhb=>by refine aN (W.alive _ _ _ hst hb) λo q=>?_;rw[hTs]at q;exact bN q
   refine aL (nJ hh wr λb hb=>W.alive _ _ _ hst2 hb) λR' hR'2 hr=>?_
   have dom:Dj R' Y':=λa=>by
    by_cases ha:a∈wr
    ·refine aN (hR'.here a ha) λo q=>?_;exact .inr (hdR.of_some q)
    ·exact .inl (hR'2.not a ha)
   have Rm:Rel C fz' (Un led' (Un R' Y')) G' { s' with heap:=hh,toks:=tk }:=by
    refine S'.rel.many tk (·∈wr) (λb hb=>?_) hkk (λb hb=>?_) λb m hb q=>?_
    ·refine aN (hR'.here b hb) λo z=>?_
     have hl:led' b=none:=(S'.dj b).resolve_right (by rw[aC z];exact Option.some_ne_none _);exact⟨_,by rw[aE hl,aC z]⟩
    ·cases hl:led' b with
     | some m=>rw[aC hl,aC hl]
     | none=>rw[aE hl,aE hl,aE (hR'2.not b hb),aE (hR'.not b hb)]
    ·refine aN (hR'.here b hb) λo z=>?_
     have hl:led' b=none:=(S'.dj b).resolve_right (by rw[aC z];exact Option.some_ne_none _);refine aN (hR'2.here b hb) λo' z'=>?_
     rw[aE hl,aC z']at q
     (have e1:=Option.some.inj q;clear q;subst e1)
     refine aL (hr b _ z') λo'' q1 q2=>?_
     (injection q1 with e1;subst e1);exact q2
   have hTn:=S'.rel.freshT hTs
   have hTn2:Un led' (Un R' Y') T=none:=by
    refine cL (Un_none.mp hTn) λa1 a2=>?_
    exact Un_none.mpr ⟨a1,Un_none.mpr ⟨hR'2.not T hTwr,(Un_none.mp a2).2⟩⟩
   have hzT:=S'.rel.freshF hTs;obtain ⟨d,hd⟩:∃d,items[i]?=some d:=⟨_,List.getElem?_eq_getElem hlt⟩;obtain ⟨ds,rfl,hds⟩:=hP i vals d hPv hd;refine h1 (.ref T) (.tup ds) R' _ (eZ fz' T _) hd (bI hzT) ?_ hR'2 dom ⟨λa=>?_,Rm.addF hTn2 hzT (S'.rel.freshB hTs) hTh⟩ hst2
   ·exact .tup (cA ..) rfl rfl ((hds.mono lz).mono (bI hzT))
   ·rcases S'.dj a with q|q
    ·exact .inl q
    ·by_cases ha:a∈wr
     ·obtain ⟨o,z⟩:=hR'.here a ha;rw[aC z]at q;cases q
     ·exact .inr (Un_none.mpr ⟨hR'2.not a ha,(Un_none.mp q).2⟩)
  ·have hie:i=items.length:=by omega
   subst hie;refine W.done s' _ E hst λh' tk hk=>h2 _ rfl ⟨S'.dj.right,?_⟩
   refine S'.rel.many (T':=Un led' Y') (h':=h') tk (·∈wr) (λb hb=>?_) hk (λb hb=>?_) λb m hb q=>?_
   ·obtain ⟨o,z⟩:=hR'.here b hb;have hl:led' b=none:=(S'.dj b).resolve_right (by rw[aC z];exact Option.some_ne_none _);exact⟨_,by rw[aE hl,aC z]⟩
   ·cases hl:led' b with
    | some m=>rw[aC hl,aC hl]
    | none=>rw[aE hl,aE hl,aE (hR'.not b hb)]
   ·obtain ⟨o,z⟩:=hR'.here b hb;have hl:led' b=none:=(S'.dj b).resolve_right (by rw[aC z];exact Option.some_ne_none _);rw[aE hl,hdR.of_some z]at q;cases q
 keep:=λ{fz1 fz2 led' led'' Y1 Y2 R G1 G2 s1 s2 i} l1 l2 hR' hY hY' S' S'' hst=>by
  refine (W {} rfl).frame i _ _ hst λb hb o q=>?_
  by_cases hw:b∈wr
  ·obtain ⟨o',z⟩:=hR'.here b hw;have a1:s1.heap.get? b=some o':=S'.at (hY _ _ z);have a2:s2.heap.get? b=some o':=S''.at (hY' _ _ z);rw[a1]at q;cases q;exact a2
  ·obtain ⟨o',hz⟩:=hfp b hb hw;have a1:=S'.rel.fzIn _ _ (l1 _ _ hz);have a2:=S''.rel.fzIn _ _ (l2 _ _ (l1 _ _ hz));rw[a1]at q;cases q;exact a2
 self:=λ{A' s' i Q E} hA' hst hq=>(W A' hA').self i s' Q E hst hq
theorem St.moves(S:St C fz led Y G s)(wr:List Addr)(hw:∀b∈wr,∃m,led b=some m):∃R,Raws wr R∧Dj R Y∧St C fz (oN led wr) (Un R Y) G s:=by
 have hdel:∀(wr:List Addr) (led:aF) (a:Addr),oN led wr a=if a∈wr then none else led a:=by
  intro wr;induction wr with
  | nil=>intro led a;simp[oN]
  | cons b r ih =>
   intro led a;show oN (del led b) r a=_
   erw[ih];by_cases h1:a∈r
   ·simp[h1]
   ·by_cases h2:a=b
    ·subst h2;simp[h1,del]
    ·simp[h1,h2,del]
 have hal:∀b∈wr,∃o,s.heap.get? b=some o:=λb hb=>by
  refine aN (hw b hb) λm e=>?_
  exact (S.rel.ledIn b m (aC e)).there
 refine aL (nJ s.heap wr hal) λR hR hr=>?_
 have hd:Dj R Y:=λa=>by
  by_cases ha:a∈wr
  ·refine aN (hw a ha) λm e=>?_;exact .inr (S.dj.of_some e)
  ·exact .inl (hR.not a ha)
 refine⟨R,hR,hd,λa=>?_,?_⟩
 ·erw[hdel];by_cases ha:a∈wr
  ·left;erw[if_pos ha]
  ·erw[if_neg ha];rcases S.dj a with q|q
   ·exact .inl q
   ·exact .inr (Un_none.mpr ⟨hR.not a ha,q⟩)
 ·refine S.rel.many (T':=Un (oN led wr) (Un R Y)) (h':=s.heap) s.toks (·∈wr) (λb hb=>?_) (λb o _ e=>e) (λb hb=>?_) λb m hb q=>?_
  ·refine aN (hw b hb) λm e=>?_;exact⟨m,aC e⟩
  ·unfold Un;erw[hdel,if_neg hb,hR.not b hb];rfl
  ·refine aN (hR.here b hb) λo z=>?_
   rw[aE (by erw[hdel,if_pos hb]),aC z]at q
   (have e1:=Option.some.inj q;clear q;subst e1)
   refine aL (hr b _ z) λo'' q1 q2=>?_
   (injection q1 with e1;subst e1);exact q2
noncomputable def dP(xs ys:List D):List D:=(List.range (min xs.length ys.length)).map λ(i:Nat)=>.tup [xs.getD i .none,ys.getD i .none]
theorem iP(xs ys:List D):(dP xs ys).length=min xs.length ys.length:=by simp[dP]
theorem kW{i:Nat}(h1:xs[i]?=some x)(h2:ys[i]?=some y):(dP xs ys)[i]?=some (.tup [x,y]):=by
 have a1:=(List.getElem?_eq_some_iff.mp h1).1;have a2:=(List.getElem?_eq_some_iff.mp h2).1;unfold dP;erw[List.getElem?_map,List.getElem?_range (by omega)];simp only[Option.map_some];erw[List.getD_eq_getElem?_getD,List.getD_eq_getElem?_getD,h1,h2];rfl
noncomputable abbrev nQ(a b:Value):Obj:={ cls:=.type "tuple",data:=.seq #[a,b] }
structure ZipL (led:aF) (z TI TO i1 i2:Addr) (xs ys:List D):Prop where
 hz:led z=some (.raw (dU .none false TI TO))
 hTI:led TI=some (.raw (nQ (.ref i1) (.ref i2)))
 hTO:led TO=some (.raw (nQ .none .none))
 h1:led i1=some (.lit 0 xs)
 h2:led i2=some (.lit 0 ys)
 nd:[z,TI,TO,i1,i2].Nodup
section
variable {C:Cx} {Y led:aF} {k:Nat}
theorem CallW.zipL(h:∀z TI TO i1 i2 led',ZipL led' z TI TO i1 i2 xs ys→(∀b∈[z,TI,TO,i1,i2],led b=none)→(∀b,b∉[z,TI,TO,i1,i2]→led' b=led b)→Q (.itr z [TI,TO,i1,i2] (dP xs ys)) led'):CallW C Y led k (.typ "zip") [.lst xs,.lst ys] Q:=by
 intro A fz G s fv vs hA S e1 e2;cases e1;cases e2 with|cons x y=>cases y with|cons x2 y=>cases y with|nil =>
 cases x with
 | lst ez ed =>
 rename_i a us n;cases x2 with
 | lst ez2 ed2 =>
 rename_i a2 us2 n2;have hl1:s.heap.IsList a us.toArray:=⟨_,S.rel.fzIn _ _ ez,rfl,n,rfl⟩;have hl2:s.heap.IsList a2 us2.toArray:=⟨_,S.rel.fzIn _ _ ez2,rfl,n2,rfl⟩;refine call_zip_2 hl1 hl2 λh' g5 g3 g4 g1 g2 hsz hk=>?_
 have fr:∀j,s.heap.get? (s.heap.objs.size+j)=none:=λj=>aO _ (Nat.le_add_right _ _)
 have ne:∀i j:Nat,i≠j→s.heap.objs.size+i≠s.heap.objs.size+j:=λi j h=>by omega
 have nz:∀j:Nat,0<j→s.heap.objs.size≠s.heap.objs.size+j:=λj h=>by omega
 have f0:=aO s.heap (Nat.le_refl _);have T1:=S.newL f0 (m:=.lit 0 xs) (h':=h') s.toks hk ⟨a,us,n,ez,ed,g1⟩;have T2:=T1.addL (a:=s.heap.objs.size+1) (m:=.lit 0 ys) (S.fresh (fr 1)).2 (S.rel.freshF (fr 1)) (S.rel.freshB (fr 1)) ⟨a2,us2,n2,ez2,ed2,g2⟩;have T3:=T2.addL (a:=s.heap.objs.size+2) (m:=.raw _) (S.fresh (fr 2)).2 (S.rel.freshF (fr 2)) (S.rel.freshB (fr 2)) g3;have T4:=T3.addL (a:=s.heap.objs.size+3) (m:=.raw _) (S.fresh (fr 3)).2 (S.rel.freshF (fr 3)) (S.rel.freshB (fr 3)) g4;have T5:=T4.addL (a:=s.heap.objs.size+4) (m:=.raw _) (S.fresh (fr 4)).2 (S.rel.freshF (fr 4)) (S.rel.freshB (fr 4)) g5;refine⟨fz,G,_,_,.refl _,.refl _,.itr _ _ _,T5,h _ (s.heap.objs.size+2) (s.heap.objs.size+3) s.heap.objs.size (s.heap.objs.size+1) _ ⟨?_,?_,?_,?_,?_,?_⟩ ?_ ?_⟩
 ·exact aA ..
 ·erw[aG _ _ (ne 2 4 (by decide)),aG _ _ (ne 2 3 (by decide)),aA]
 ·erw[aG _ _ (ne 3 4 (by decide)),aA]
 ·erw[aG _ _ (nz 4 (by decide)),aG _ _ (nz 3 (by decide)),aG _ _ (nz 2 (by decide)),aG _ _ (nz 1 (by decide)),aA]
 ·erw[aG _ _ (ne 1 4 (by decide)),aG _ _ (ne 1 3 (by decide)),aG _ _ (ne 1 2 (by decide)),aA]
 ·simp
 ·intro b hb;simp only[List.mem_cons,List.not_mem_nil,or_false]at hb;rcases hb with rfl|rfl|rfl|rfl|rfl
  ·exact (S.fresh (fr 4)).1
  ·exact (S.fresh (fr 2)).1
  ·exact (S.fresh (fr 3)).1
  ·exact (S.fresh f0).1
  ·exact (S.fresh (fr 1)).1
 ·intro b hb;simp only[List.mem_cons,List.not_mem_nil,or_false,not_or]at hb;erw[aG _ _ hb.1,aG _ _ hb.2.2.1,aG _ _ hb.2.1,aG _ _ hb.2.2.2.2,aG _ _ hb.2.2.2.1]
theorem KcY.zipL(h:∀z TI TO i1 i2 led',ZipL led' z TI TO i1 i2 xs ys→(∀b∈[z,TI,TO,i1,i2],led b=none)→(∀b,b∉[z,TI,TO,i1,i2]→led' b=led b)→Q (.itr z [TI,TO,i1,i2] (dP xs ys)) led'):∀Y,KCal C Y led k (.typ "zip") [.lst xs,.lst ys] Q:=λ_=>⟨KeepOk.typ _,CallW.zipL h⟩
theorem IterOfT.zip(ht:∀it v,letOwnedTupleGo target it v=pure ())(hz:ZipL led z TI TO i1 i2 xs ys):IterOfT C Y led target (.itr z [TI,TO,i1,i2] (dP xs ys)) (dP xs ys):=by
 intro A fz G s v hA S ev;cases ev;obtain ⟨l1,us,n,hz1,hd1,oit,hit,hitc,hitd⟩:=S.atL hz.h1;obtain ⟨l2,us2,n2,hz2,hd2,oit2,hit2,hitc2,hitd2⟩:=S.atL hz.h2;have gz:s.heap.get? z=some (dU .none false TI TO):=S.atL hz.hz;have gTI:IsPair s.heap TI (.ref i1) (.ref i2):=S.atL hz.hTI;have gTO:IsPair s.heap TO .none .none:=S.atL hz.hTO;have hL:s.heap.IsList l1 us.toArray:=⟨_,S.rel.fzIn _ _ hz1,rfl,n,rfl⟩;have hL2:s.heap.IsList l2 us2.toArray:=⟨_,S.rel.fzIn _ _ hz2,rfl,n2,rfl⟩;have apart:∀{l b:Addr} {o:Obj} {m:M},fz l=some o→led b=some m→l≠b:=λh1 h2 q=>by subst q;have:=S.rel.apart _ _ h1;rw[aC h2]at this;exact dN this
 have nd:=hz.nd;simp only[List.nodup_cons,List.mem_cons,List.not_mem_nil,or_false,not_or,not_false_eq_true,and_true]at nd
 (refine an5 nd λo1 o2 o3 d1 _=>?_;clear nd;refine lQ o1 λa1 a2 a3 a4=>?_;clear o1;refine jW o2 λb1 b2 b3=>?_;clear o2;refine cL o3 λc1 c2=>?_;clear o3)
 have Z:ZA z TI TO i1 i2 [i1,l1] [i2,l2]:={
  TIz:=Ne.symm a1,TOz:=Ne.symm a2,i1z:=Ne.symm a3,i2z:=Ne.symm a4,TITO:=b1,TIi1:=b2,TIi2:=b3,TOi1:=c1,TOi2:=c2,i12:=d1
  zf1:=by simp[a3,(apart hz1 hz.hz).symm]
  TOf1:=by simp[c1,(apart hz1 hz.hTO).symm]
  i2f1:=by simp[Ne.symm d1,(apart hz1 hz.h2).symm]
  zf2:=by simp[a4,(apart hz2 hz.hz).symm]
  TOf2:=by simp[c2,(apart hz2 hz.hTO).symm]
  i1f2:=by simp[d1,(apart hz2 hz.h1).symm] }
 have e1:xs.length=us.length:=hd1.length.symm;have e2:ys.length=us2.length:=hd2.length.symm;have W:=WalksF.zip (prog:=C.prog) (w:=C.w) Z (λA hA=>Draws.list hA i1 l1 (apart hz1 hz.h1) us.toArray) (λA hA=>Draws.list hA i2 l2 (apart hz2 hz.h2) us2.toArray);have hlen:min us.toArray.size us2.toArray.size=(dP xs ys).length:=by erw[iP,e1,e2,List.size_toArray,List.size_toArray]
 rw[hlen]at W
 obtain ⟨R,hR,hdR,S2⟩:=S.moves [z,TI,TO,i1,i2] (λb hb=>by
  simp only[List.mem_cons,List.not_mem_nil,or_false]at hb;rcases hb with rfl|rfl|rfl|rfl|rfl
  ·exact⟨_,hz.hz⟩
  ·exact⟨_,hz.hTI⟩
  ·exact⟨_,hz.hTO⟩
  ·exact⟨_,hz.h1⟩
  ·exact⟨_,hz.h2⟩)
 have st0:ZipSt z TI TO i1 i2 s.heap∧(s.heap.IsListIter i1 l1 0∧s.heap.IsList l1 us.toArray)∧(s.heap.IsListIter i2 l2 0∧s.heap.IsList l2 us2.toArray) :=
  ⟨⟨⟨_,_,gz,.inl rfl⟩,gTI,_,_,gTO⟩,⟨⟨_,hit,hitc,hitd⟩,hL⟩,⟨_,hit2,hitc2,hitd2⟩,hL2⟩
 refine (W A hA.1).self 0 s _ _ st0 ?_;refine⟨fz,z,[z,TI,TO,i1,i2],R,_,rfl,.refl _,vF W (λb hb hn=>?_) (λi vals d hP hd=>?_) ht,hR,hdR,st0,S2⟩
 ·simp only[List.mem_append,List.mem_cons,List.not_mem_nil,or_false]at hb hn;rcases hb with (hb|rfl|rfl)| rfl|rfl
  ·exact absurd hb hn
  ·exact (hn (by simp)).elim
  ·exact⟨_,hz1⟩
  ·exact (hn (by simp)).elim
  ·exact⟨_,hz2⟩
 ·(refine cU hP λx y hx hy o1=>?_;clear hP;subst o1)
  refine aL (hd1.get' (i:=i) (v:=x) (by simpa using hx)) λdx q1 q2=>?_
  refine aL (hd2.get' (i:=i) (v:=y) (by simpa using hy)) λdy q3 q4=>?_
  rw[kW q1 q3]at hd;cases hd;exact⟨_,rfl,.cons q2 (.cons q4 .nil)⟩
end
end Sc

set_option maxRecDepth 100000
namespace Sc
set_option tactic.hygienic false
open Builtin
theorem iE:entryFor table "zip.__getattribute__"=some Builtin.«object.__getattribute__» :=
 entryFor_alias (id':="object.__getattribute__") (by kernel_rfl) (by decide +kernel) (by decide +kernel) (by kernel_rfl)
theorem lV:typeLookup (.type "zip") "__getattr__"=pure none:=by erw[typeLookup_type,builtinLookup_eq_fast];kernel_rfl
theorem qS:typeLookup (.type "zip") "keys"=pure none:=by erw[typeLookup_type,builtinLookup_eq_fast];kernel_rfl
theorem sW(a:Addr)(vs:Array Value)(name:Str)(u:Tok)(hmiss:typeLookup (.type "zip") name=pure none)(hname:(["__module__","__name__","__qualname__","__doc__","__annotations__"]:List Str).contains name=false)(hsz:name.length+100≤sizeLine:=by size_fits) :
  Meets (Builtin.«object.__getattribute__» ⟨[.ref a,.str name u],[]⟩) (λA R s=>s.heap.get? a=some { cls:=.type "zip",dict:=none,data:=.fields vs,slots:=#[] }∧raisesAttr (.ref a) name A R s) :=
 Meets.of_wp λprog w A R s hs=>by
  obtain ⟨hp,g,d,tk,os⟩:=s
  (refine cL hs ?_;clear hs;intro hx hs)
  have hT:(⟨hp,g,d,tk,os⟩:Shared).TypeIs (.ref a) "zip":=⟨_,hx,rfl⟩;unfold Builtin.«object.__getattribute__»
  repeat (any_goals (first|assumption|wp_step))
  rw[hname,if_neg Bool.false_ne_true]
  repeat (any_goals (first|assumption|wp_step))
  exact wpAny_raiseAttrError hs.1 hs.2 (attrMsg_fits (by decide +kernel) hsz)
theorem vG
  (hx:s.heap.get? a=some { cls:=.type "zip",dict:=none,data:=.fields vs,slots:=#[] }) (hA:A.handled=none)
  (h:∀h' tk,(∀b o,s.heap.get? b=some o→h'.get? b=some o)→Q none { s with heap:=h',toks:=tk }) :
  wpAny (model prog w) A (getAttr? (.ref a) "keys") Q E s:=by
 obtain ⟨hp,g,d,tk,os⟩:=s;have hT:∀tk',(⟨hp,g,d,tk',os⟩:Shared).TypeIs (.ref a) "zip":=λ_=>⟨_,hx,rfl⟩
 have f1:=sub_AttributeError;have f3:=PySem.F.slot_zip_getattribute.lookup;have f4:=PySem.F.slot_zip_getattribute.bind (.ref a);have f5:=lV;unfold getAttr? getAttrBy? getAttrBy
 repeat (any_goals (first|assumption|exact hT _|((with_reducible show wpAny _ _ (call (Value.builtin "zip.__getattribute__") _ _) _ _ _);refine call_meets PySem.F.slot_zip_getattribute (hT _) iE (PySem.F.args_zip_getattribute_2 _ _) (sW a vs "keys" _ qS (by decide +kernel) (by decide +kernel)) ⟨hx,hA,λh' tk' e hx'=>?_⟩)| wp_step))
 refine aDF hx'.there λt' u' he=>?_
 show wpAny _ _ (getattributeRaised _ _ _ _ _ _ _) _ _ _
 unfold getattributeRaised
 repeat (any_goals (first|assumption|wp_step))
 exact h _ _ hx'.keeps
end Sc

set_option maxRecDepth 100000
namespace Sc
set_option tactic.hygienic false
open Builtin
theorem eB:plainId "dict.update.loop"=true:=by decide +kernel
theorem iQ:entryFor table "dict.update.loop"=some Builtin.«dict.update.loop»:=entryFor_of_fast (by kernel_rfl)
section
variable {prog:Program} {w:World} {A:Around} {R:Result→Shared→Prop} {z d:Addr} {fp wr:List Addr} {n:Nat} {St:Nat→Heap→Prop} {key:Nat→Str} {val:Nat→Value}
theorem aAR(W:WalksF prog w A.in1 z fp wr n (λi vals=>∃t,vals=[.str (key i) t,val i]) St)(hn:n≤sizeLine)(hd:d∉fp)(hdw:d∉wr)(hnd:((List.range n).map key).Nodup) :
  ∀(m i:Nat) (s:Shared),i+m=n→St i s.heap→s.heap.DictOf (PySem.strKind prog w) d ((List.range i).map λj=>(key j,val j)) →
  (∀h' tk,h'.DictOf (PySem.strKind prog w) d ((List.range n).map λj=>(key j,val j))→(∀b o,b∉wr→b≠d→s.heap.get? b=some o→h'.get? b=some o)→R (.ok (.ret .none)) { s with heap:=h',toks:=tk }) →
  codeAny (model prog w) A (.builtin "dict.update.loop" ⟨[.ref d,.ref z,rawInt i,.none],[]⟩) R s:=by
 intro m;induction m with
 | zero =>
  intro i s hi hst hD hR;have:i=n:=Nat.add_right_cancel hi;subst this;refine codeAny_builtin iQ ?_;erw[Around.under_plainId eB _];show wpAny _ A.in1 (pyNext (.ref z) >>= _) _ _ s
  refine wpAny_bind (W.done s _ _ hst λh' tk hk=>?_);show wpAny _ _ (Builtin.Dict.addKeywords d [] >>= _) _ _ _
  refine wpAny_bind (wpAny_pure (wpAny_pure ?_))
  (refine aAq hD λo es ep ho hr=>?_;clear hD)
  exact hR h' tk ⟨o,es,ep,hk d o hdw ho,hr⟩ λb o hb _ q=>hk b o hb q
 | succ m ih =>
  intro i s hi hst hD hR;refine codeAny_builtin iQ ?_;erw[Around.under_plainId eB _];show wpAny _ A.in1 (pyNext (.ref z) >>= _) _ _ s
  refine wpAny_bind (W.item i s _ _ (by omega) hst λT vals h' tk hP hT hTh hst' hk=>?_)
  (refine aN hP λt o1=>?_;clear hP;subst o1)
  dsimp only
  refine wpAny_bind (wpAny_holding (wpAny_bind (wpAny_tryCatch ?_)));unfold Builtin.Dict.pairItems;have hTT:Shared.TypeIs { s with heap:=h',toks:=tk } (.ref T) "tuple":=⟨_,hTh,rfl⟩;refine wpAny_bind (wpAny_typeOf hTT ?_);rw[if_pos (by decide)];refine wpAny_bind (wpAny_seqItems hTh rfl (wpAny_pure ?_));show wpAny _ _ (holding _ (dictSet d (.str (key i) t) (val i))) _ _ _
  have hD':h'.DictOf (PySem.strKind prog w) d ((List.range i).map λj=>(key j,val j)):=by
   (refine aAq hD λo es ep ho hr=>?_;clear hD)
   exact⟨o,es,ep,hk d o hdw ho,hr⟩
  have hkey:(PySem.strKind prog w).is (key i) (.str (key i) t)=true:=strKind_is ..;refine wpAny_holding (wpAny_dictSet_pairs (knd:=PySem.strKind prog w) hkey hD' (λh2 hD2 hs2=>?_) (by simp;omega))
  have hnew:stored ((List.range i).map λj=>(key j,val j)) (key i) (val i)=(List.range (i+1)).map λj=>(key j,val j):=by
   erw[List.range_succ,List.map_append];unfold stored;erw[if_neg]
   ·rfl
   ·intro hany;simp only[List.any_eq_true,List.mem_map,List.mem_range,decide_eq_true_eq]at hany
    (refine aL hany λkv o1 hjk=>?_;clear hany;refine aL o1 λj hj o2=>?_;clear o1;subst o2)
    have h1:((List.range n).map key)[j]?=some (key j):=by erw[List.getElem?_map,List.getElem?_range (by omega)];rfl
    have h2:((List.range n).map key)[i]?=some (key i):=by erw[List.getElem?_map,List.getElem?_range (by omega)];rfl
    refine aN (List.getElem?_eq_some_iff.mp h1) λp1 q1=>?_
    refine aN (List.getElem?_eq_some_iff.mp h2) λp2 q2=>?_
    exact absurd (q1.trans (hjk.trans q2.symm)) (List.pairwise_iff_getElem.mp hnd j i p1 p2 hj)
  rw[hnew]at hD2;refine wpAny_pure ⟨plainId_quiet eB _,?_⟩;have hst2:St (i+1) h2:=W.frame _ _ _ hst' λb hb o q=>hs2.extBut b o (λe=>hd (e▸hb)) q
  have:=ih (i+1) { s with heap:=h2,toks:=tk+1 } (by omega) hst2 hD2 λh3 tk3 hD3 hk3=>hR h3 tk3 hD3 λb o hb hbd q=>hk3 b o hb hbd (hs2.extBut b o hbd (hk b o hb q))
  exact this
end
section
variable {prog:Program} {w:World} {A:Around} {E:Value→Shared→Prop} {s:Shared} {z:Addr} {fp wr:List Addr} {n:Nat} {St:Nat→Heap→Prop} {key:Nat→Str} {val:Nat→Value}
theorem qT(hA:A.handled=none)(W:∀A:Around,A.handled=none→WalksF prog w A z fp wr n (λi vals=>∃t,vals=[.str (key i) t,val i]) St)(hn:n≤sizeLine)(hnd:((List.range n).map key).Nodup)
  (hz:s.heap.get? z=some { cls:=.type "zip",dict:=none,data:=.fields vs,slots:=#[] }) (hst:St 0 s.heap) (hfp:∀b∈fp,b<s.heap.objs.size) (hwr:∀b∈wr,b<s.heap.objs.size)
  (h:∀h' tk,h'.DictOf (PySem.strKind prog w) s.heap.objs.size ((List.range n).map λj=>(key j,val j))→(∀b o,b∉wr→s.heap.get? b=some o→h'.get? b=some o)→Q (.ref s.heap.objs.size) { s with heap:=h',toks:=tk }) :
  wpAny (model prog w) A (call (.type "dict") [.ref z]) Q E s:=by
 refine callType_codes (Q₁:=λobj s₁=>obj=.ref s.heap.objs.size∧s₁={ s with heap:=s.heap.push { cls:=.type "dict",data:=.dict #[] } }) PySem.F.kt_called_dict (PySem.F.kt_typeCall_dict_1 _) PySem.F.entry_dict_init (kt_code_dict_new _ ⟨rfl,rfl⟩) ?_;intro obj s₁ o21;(refine cL o21 λo1 o2=>?_;clear o21;subst o1;subst o2);have hnew:(s.heap.push { cls:=.type "dict",data:=.dict #[] }).DictOf (PySem.strKind prog w) s.heap.objs.size []:=Heap.DictOf.new s.heap;have up:∀b o,s.heap.get? b=some o→(s.heap.push { cls:=.type "dict",data:=.dict #[] }).get? b=some o:=λb o e=>Heap.get?_push_of_some _ e
 refine⟨hnew.typeIs,PySem.F.args_dict_init_2 _ _,?_⟩;unfold Builtin.«dict.__init__»;refine wpAny_bind ?_;unfold Builtin.Dict.selfAndRest;refine wpAny_bind (wpAny_notOrdered_dict hnew.typeIs ?_);show wpAny _ _ (pure (s.heap.objs.size,[Value.ref z])) _ _ _
 refine wpAny_pure ?_;show wpAny _ _ (Builtin.Dict.updateFrom "dict.__init__" s.heap.objs.size (.ref z) [] .none) _ _ _
 unfold Builtin.Dict.updateFrom;have hT:Shared.TypeIs { s with heap:=s.heap.push { cls:=.type "dict",data:=.dict #[] } } (.ref z) "zip":=⟨_,up _ _ hz,rfl⟩;refine wpAny_bind (wpAny_typeOf hT ?_);erw[if_pos (by decide)];refine wpAny_bind (vG (up _ _ hz) (show A.in1.in1.handled=none from hA) λh' tk hk=>?_);simp only[Option.isNone_none,if_true];refine wpAny_bind (wpAny_rule (wpAny_bind ?_));have hst0:St 0 h':=(W A hA).frame _ _ _ hst λb hb o q=>hk b o (up b o q)
 refine (W A.in1.in1 hA).self 0 _ _ _ hst0 ?_
 have hD:h'.DictOf (PySem.strKind prog w) s.heap.objs.size ((List.range 0).map λj=>(key j,val j)):=by
  (refine aAq hnew λo es ep ho hr=>?_;clear hnew)
  exact⟨o,es,ep,hk _ o ho,hr⟩
 refine wpAny_pure ⟨plainId_quiet eB _,?_⟩;refine aAR (R:=wants (λr s₂=>r=.none∧Q (.ref s.heap.objs.size) s₂) E) (W A.in1.in1 hA) hn (λhb=>Nat.lt_irrefl _ (hfp _ hb)) (λhb=>Nat.lt_irrefl _ (hwr _ hb)) hnd n 0 _ (Nat.zero_add n) hst0 hD λh3 tk3 hD3 hk3=>?_
 exact⟨rfl,h h3 tk3 hD3 λb o hb q=>hk3 b o hb (Nat.ne_of_lt (Heap.lt_size q)) (hk b o (up b o q))⟩
end
noncomputable def DictI(prog:Program)(w:World)(o:Obj)(n:Nat)(key:Nat→Str)(num:Nat→Int):Prop:=∃val:Nat→Value,o.IsDictOf (PySem.strKind prog w) ((List.range n).map λj=>(key j,val j))∧∀j,j<n→∃t,val j=.int (num j) t
structure ZipS (led:aF) (z TI TO i1 i2:Addr) (x:Str) (ys:List D):Prop where
 hz:led z=some (.raw (dU .none false TI TO))
 hTI:led TI=some (.raw (nQ (.ref i1) (.ref i2)))
 hTO:led TO=some (.raw (nQ .none .none))
 h1:∃t,led i1=some (.raw { cls:=.type "str_ascii_iterator",data:=.fields #[.str x t,.int 0 0] })
 h2:led i2=some (.lit 0 ys)
 nd:[z,TI,TO,i1,i2].Nodup
noncomputable abbrev aCN(h:Heap)(x:Str)(t:Tok):Heap:=h.push { cls:=.type "str_ascii_iterator",data:=.fields #[.str x t,.int 0 0] }
noncomputable abbrev aCO(h:Heap)(x:Str)(t:Tok)(l2:Addr):Heap:=(aCN h x t).push { cls:=.type "list_iterator",data:=.fields #[.ref l2,.int 0 0] }
noncomputable abbrev aCP(h:Heap)(x:Str)(t:Tok)(l2:Addr):Heap:=(aCO h x t l2).push { cls:=.type "tuple",data:=.seq #[.ref h.objs.size,.ref (aCN h x t).objs.size] }
noncomputable abbrev aCQ(h:Heap)(x:Str)(t:Tok)(l2:Addr):Heap:=(aCP h x t l2).push { cls:=.type "tuple",data:=.seq #[.none,.none] }
noncomputable abbrev vH(h:Heap)(x:Str)(t:Tok)(l2:Addr):Heap:=(aCQ h x t l2).push { cls:=.type "zip",data:=.fields #[.none,.bool false,.bool false,.ref (aCO h x t l2).objs.size,.ref (aCP h x t l2).objs.size] }
set_option maxHeartbeats 4000000 in
theorem sX(x:Str)(t:Tok)(l2:Addr)(ys:Array Value)(ha:x.cps.all (·<128)=true) :
  Meets (Builtin.«zip.__new__» ⟨[.type "zip",.str x t,.ref l2],[]⟩) (λ_ R s=>s.heap.IsList l2 ys ∧
   R (.ok (.ret (.ref (aCQ s.heap x t l2).objs.size))) { s with heap:=vH s.heap x t l2 }) :=
 .of_wp λprog w A R s h=>by
  obtain ⟨hp,g,d,tk,os⟩:=s;(refine cL h ?_;clear h;intro hl2 h);have hsub:=sub_zip;have hL2:Heap.IsList (Shared.heap ⟨hp.push { cls:=.type "str_ascii_iterator",data:=.fields #[.str x t,.int 0 0] },g,d,tk,os⟩) l2 ys:=Heap.IsList.push hl2 _
  wp_walk using wpAny_pyIter_ascii ha,wpAny_pyIter_list hL2
  exact⟨_,rfl,h⟩
end Sc

set_option maxRecDepth 100000
namespace Sc
set_option tactic.hygienic false
open Builtin
section
variable {C:Cx} {Y led:aF} {k:Nat}
theorem CallW.zipSL(hx:x.cps.all (·<128)=true)(h:∀z TI TO i1 i2 led',ZipS led' z TI TO i1 i2 x ys→(∀b∈[z,TI,TO,i1,i2],led b=none)→(∀b,b∉[z,TI,TO,i1,i2]→led' b=led b)→Q (.itr z [TI,TO,i1,i2] []) led'):CallW C Y led k (.typ "zip") [.str x,.lst ys] Q:=by
 intro A fz G s fv vs hA S e1 e2;induction e1 using fU;induction e2 using rZ with|k v u e3 e4 =>
 induction e3 using bH with|k t =>
 obtain ⟨a2,us2,n2,rfl,ez2,ed2⟩:∃a vs n,u=.ref a∧fz a=some (fT (List.toArray vs) n)∧Dens fz vs ys:=by
  induction e4 using uA with|k a vs n h d=>exact⟨a,vs,n,rfl,h,d⟩
 have hl2:s.heap.IsList a2 us2.toArray:=⟨_,S.rel.fzIn _ _ ez2,rfl,n2,rfl⟩;refine callType_new F.called_zip (by decide) (F.typeCall_zip_2 _ _) (F.newCall_zip_2 _ _) (λobj=>F.args_object_init_3 obj _ _) F.entry_zip_new (sX x t a2 us2.toArray hx) ⟨hl2,?_⟩;have z1:(aCN s.heap x t).objs.size=s.heap.objs.size+1:=Heap.size_push ..;have z2:(aCO s.heap x t a2).objs.size=s.heap.objs.size+2:=by erw[Heap.size_push,z1]
 have z3:(aCP s.heap x t a2).objs.size=s.heap.objs.size+3:=by erw[Heap.size_push,z2]
 have z4:(aCQ s.heap x t a2).objs.size=s.heap.objs.size+4:=by erw[Heap.size_push,z3]
 have g5:(vH s.heap x t a2).get? (aCQ s.heap x t a2).objs.size=some _:=Heap.get?_push_size _ rfl;have g4:(vH s.heap x t a2).get? (aCP s.heap x t a2).objs.size=some _:=Heap.get?_push_of_some _ (Heap.get?_push_size _ rfl);have g3:(vH s.heap x t a2).get? (aCO s.heap x t a2).objs.size=some _:=Heap.get?_push_of_some _ (Heap.get?_push_of_some _ (Heap.get?_push_size _ rfl));have g2:(vH s.heap x t a2).get? (aCN s.heap x t).objs.size=some _:=Heap.get?_push_of_some _ (Heap.get?_push_of_some _ (Heap.get?_push_of_some _ (Heap.get?_push_size _ rfl)));have g1:(vH s.heap x t a2).get? s.heap.objs.size=some _:=Heap.get?_push_of_some _ (Heap.get?_push_of_some _ (Heap.get?_push_of_some _ (Heap.get?_push_of_some _ (Heap.get?_push_size _ rfl))));show _∧_
 rw[z2,z3,z4]at g5;rw[z1,z2]at g3;rw[z3]at g4;rw[z1]at g2;refine⟨by erw[z4];exact⟨_,g5,rfl⟩,?_⟩;have hk:∀b o,s.heap.get? b=some o→(vH s.heap x t a2).get? b=some o:=λb o e=>Heap.get?_push_of_some _ (Heap.get?_push_of_some _ (Heap.get?_push_of_some _ (Heap.get?_push_of_some _ (Heap.get?_push_of_some _ e))))
 have fr:∀j,s.heap.get? (s.heap.objs.size+j)=none:=λj=>aO _ (Nat.le_add_right _ _)
 have ne:∀i j:Nat,i≠j→s.heap.objs.size+i≠s.heap.objs.size+j:=λi j h q=>h (Nat.add_left_cancel q)
 have nz:∀j:Nat,0<j→s.heap.objs.size≠s.heap.objs.size+j:=λj h=>Nat.ne_of_lt (Nat.lt_add_of_pos_right h)
 have f0:=aO s.heap (Nat.le_refl _);have T1:=S.newL f0 (m:=.raw _) (h':=vH s.heap x t a2) s.toks hk g1;have T2:=T1.addL (a:=s.heap.objs.size+1) (m:=.lit 0 ys) (S.fresh (fr 1)).2 (S.rel.freshF (fr 1)) (S.rel.freshB (fr 1)) ⟨a2,us2,n2,ez2,ed2,⟨_,g2,rfl,rfl⟩⟩;have T3:=T2.addL (a:=s.heap.objs.size+2) (m:=.raw _) (S.fresh (fr 2)).2 (S.rel.freshF (fr 2)) (S.rel.freshB (fr 2)) g3;have T4:=T3.addL (a:=s.heap.objs.size+3) (m:=.raw _) (S.fresh (fr 3)).2 (S.rel.freshF (fr 3)) (S.rel.freshB (fr 3)) g4;have T5:=T4.addL (a:=s.heap.objs.size+4) (m:=.raw _) (S.fresh (fr 4)).2 (S.rel.freshF (fr 4)) (S.rel.freshB (fr 4)) g5;erw[z4];refine⟨fz,G,_,_,.refl _,.refl _,.itr _ _ _,T5,h _ (s.heap.objs.size+2) (s.heap.objs.size+3) s.heap.objs.size (s.heap.objs.size+1) _ ⟨?_,?_,?_,⟨t,?_⟩,?_,?_⟩ ?_ ?_⟩
 ·exact aA ..
 ·erw[aG _ _ (ne 2 4 (by decide)),aG _ _ (ne 2 3 (by decide)),aA]
 ·erw[aG _ _ (ne 3 4 (by decide)),aA]
 ·erw[aG _ _ (nz 4 (by decide)),aG _ _ (nz 3 (by decide)),aG _ _ (nz 2 (by decide)),aG _ _ (nz 1 (by decide)),aA]
 ·erw[aG _ _ (ne 1 4 (by decide)),aG _ _ (ne 1 3 (by decide)),aG _ _ (ne 1 2 (by decide)),aA]
 ·simp
 ·intro b hb;simp only[List.mem_cons,List.not_mem_nil,or_false]at hb;rcases hb with rfl|rfl|rfl|rfl|rfl
  ·exact (S.fresh (fr 4)).1
  ·exact (S.fresh (fr 2)).1
  ·exact (S.fresh (fr 3)).1
  ·exact (S.fresh f0).1
  ·exact (S.fresh (fr 1)).1
 ·intro b hb;simp only[List.mem_cons,List.not_mem_nil,or_false,not_or]at hb;erw[aG _ _ hb.1,aG _ _ hb.2.2.1,aG _ _ hb.2.1,aG _ _ hb.2.2.2.2,aG _ _ hb.2.2.2.1]
theorem KcY.zipSL(hx:x.cps.all (·<128)=true)(h:∀z TI TO i1 i2 led',ZipS led' z TI TO i1 i2 x ys→(∀b∈[z,TI,TO,i1,i2],led b=none)→(∀b,b∉[z,TI,TO,i1,i2]→led' b=led b)→Q (.itr z [TI,TO,i1,i2] []) led'):∀Y,KCal C Y led k (.typ "zip") [.str x,.lst ys] Q:=λ_=>⟨KeepOk.typ _,CallW.zipSL hx h⟩
theorem WalksF.mono{prog:Program}{w:World}{I:Addr}{fp wr:List Addr}{n:Nat}{P P':Nat→List Value→Prop}{St:Nat→Heap→Prop}(W:WalksF prog w A I fp wr n P St)(h:∀i vals,i<n→P i vals→P' i vals):WalksF prog w A I fp wr n P' St :=
 ⟨W.frame,W.alive,λi s Q E hi hs k=>W.item i s Q E hi hs λT vals h' tk hp=>k T vals h' tk (h i vals hi hp),W.done,W.self⟩
noncomputable abbrev gD(x:Str)(j:Nat):Str:=⟨#[x.cps.getD j 0]⟩
theorem CallW.dictZ{led':aF}{z TI TO i1 i2:Addr}{x:Str}{ys:List Int}{items:List D}{Q:D→aF→Prop}(hz:ZipS led' z TI TO i1 i2 x (ys.map .int))(hd:∀b∈[z,TI,TO,i1,i2],led b=none)(he:∀b,b∉[z,TI,TO,i1,i2]→led' b=led b)
  (hl:x.cps.size=ys.length) (hl2:ys.length≤1000) (hnd:((List.range ys.length).map (gD x)).Nodup)
  (h:∀o,DictI C.prog C.w o ys.length (gD x) (λj=>ys.getD j 0)→Q (.dct o) led):CallW C Y led' k (.typ "dict") [.itr z [TI,TO,i1,i2] items] Q:=by
 intro A fz G s fv vs hA S e1 e2;induction e1 using fU;induction e2 using dZ with|k v e3 =>
 induction e3 using oE;refine aN hz.h1 λt ht=>?_
 have gi1:s.heap.get? i1=some _:=S.atL ht;obtain ⟨l2,us2,n2,hz2,hd2,oit2,hit2,hitc2,hitd2⟩:=S.atL hz.h2;have gz:s.heap.get? z=some (dU .none false TI TO):=S.atL hz.hz;have gTI:IsPair s.heap TI (.ref i1) (.ref i2):=S.atL hz.hTI;have gTO:IsPair s.heap TO .none .none:=S.atL hz.hTO;have hL2:s.heap.IsList l2 us2.toArray:=⟨_,S.rel.fzIn _ _ hz2,rfl,n2,rfl⟩;have apart:∀{l b:Addr} {o:Obj} {m:M},fz l=some o→led' b=some m→l≠b:=λh1 h2 q=>by subst q;exact aH (S.rel.apart _ _ h1) (aC h2)
 have nd:=hz.nd;simp only[List.nodup_cons,List.mem_cons,List.not_mem_nil,or_false,not_or,not_false_eq_true,and_true]at nd
 (refine an5 nd λo1 o2 o3 d1 _=>?_;clear nd;refine lQ o1 λa1 a2 a3 a4=>?_;clear o1;refine jW o2 λb1 b2 b3=>?_;clear o2;refine cL o3 λc1 c2=>?_;clear o3)
 have Z:ZA z TI TO i1 i2 [i1] [i2,l2]:={
  TIz:=Ne.symm a1,TOz:=Ne.symm a2,i1z:=Ne.symm a3,i2z:=Ne.symm a4,TITO:=b1,TIi1:=b2,TIi2:=b3,TOi1:=c1,TOi2:=c2,i12:=d1
  zf1:=notIn_one a3
  TOf1:=notIn_one c1
  i2f1:=notIn_one λa ↦ d1 (_root_.id (Eq.symm a))
  zf2:=by simp[a4,(apart hz2 hz.hz).symm]
  TOf2:=by simp[c2,(apart hz2 hz.hTO).symm]
  i1f2:=by simp[d1,(apart hz2 ht).symm] }
 have e2:us2.length=ys.length:=by erw[hd2.length,List.length_map]
 have W:=λA hA=>(WalksF.zip (prog:=C.prog) (w:=C.w) Z (λA hA=>Draws.strAscii hA i1 x t) (λA hA=>Draws.list hA i2 l2 (apart hz2 hz.h2) us2.toArray) A hA).mono (P':=λi vals=>∃t,vals=[.str (gD x i) t,us2.getD i .none]) λi vals hi ⟨u,v,⟨c,tu,q1,q2⟩,q3,q4⟩=>by
  subst q2 q4;refine⟨tu,?_⟩;rw[List.getElem?_toArray]at q3;erw[show gD x i=⟨#[c]⟩ from by unfold gD;erw[Array.getD_eq_getD_getElem?,q1];rfl,List.getD_eq_getElem?_getD,q3];rfl
 have hlen:min x.cps.size us2.toArray.size=ys.length:=by
  have e3:us2.toArray.size=ys.length:=by assumption
  erw[e3,hl,Nat.min_self]
 rw[hlen]at W
 have hst:ZipSt z TI TO i1 i2 s.heap∧s.heap.IsStrIter i1 "str_ascii_iterator" x t 0∧(s.heap.IsListIter i2 l2 0∧s.heap.IsList l2 us2.toArray) :=
  ⟨⟨⟨_,_,gz,.inl rfl⟩,gTI,_,_,gTO⟩,⟨_,gi1,rfl,rfl⟩,⟨_,hit2,hitc2,hitd2⟩,hL2⟩
 have hlt:∀{b m},led' b=some m→b<s.heap.objs.size:=λe=>by refine aN ((S.rel.ledIn _ _ (aC e)).there) λo q=>?_;exact Heap.lt_size q
 refine qT (key:=gD x) (val:=λi=>us2.getD i .none) hA.r.1 W (Nat.le_trans hl2 (by decide)) hnd gz hst (λb hb=>?_) (λb hb=>?_) λh' tk hD hk=>?_
 ·simp only[List.mem_append,List.mem_cons,List.not_mem_nil,or_false]at hb;rcases hb with ((rfl|rfl|rfl|rfl|rfl)| rfl)| rfl|rfl
  ·exact hlt hz.hz
  ·exact hlt hz.hTI
  ·exact hlt hz.hTO
  ·exact hlt ht
  ·exact hlt hz.h2
  ·exact hlt ht
  ·exact hlt hz.h2
  ·exact Heap.lt_size (S.rel.fzIn _ _ hz2)
 ·simp only[List.mem_cons,List.not_mem_nil,or_false]at hb;rcases hb with rfl|rfl|rfl|rfl|rfl
  ·exact hlt hz.hz
  ·exact hlt hz.hTI
  ·exact hlt hz.hTO
  ·exact hlt ht
  ·exact hlt hz.h2
 ·have ha:=aO s.heap (Nat.le_refl _);refine aL (Heap.dictOf_iff.mp hD) λo ho hD2=>?_
  have hw:∀b,b∈[z,TI,TO,i1,i2]→∃m,Un led' Y b=some m:=λb hb=>by
   simp only[List.mem_cons,List.not_mem_nil,or_false]at hb;rcases hb with rfl|rfl|rfl|rfl|rfl
   ·exact⟨_,aC hz.hz⟩
   ·exact⟨_,aC hz.hTI⟩
   ·exact⟨_,aC hz.hTO⟩
   ·exact⟨_,aC ht⟩
   ·exact⟨_,aC hz.h2⟩
  have hdY:Dj led Y:=λb=>by
   by_cases hb:b∈[z,TI,TO,i1,i2]
   ·exact .inl (hd b hb)
   ·erw[← he b hb];exact S.dj b
  have hYn:∀b∈[z,TI,TO,i1,i2],Y b=none:=λb hb=>by
   have:∃m,led' b=some m:=by
    simp only[List.mem_cons,List.not_mem_nil,or_false]at hb;rcases hb with rfl|rfl|rfl|rfl|rfl
    ·exact⟨_,hz.hz⟩
    ·exact⟨_,hz.hTI⟩
    ·exact⟨_,hz.hTO⟩
    ·exact⟨_,ht⟩
    ·exact⟨_,hz.h2⟩
   (refine aN this λm q=>?_;clear this)
   exact S.dj.of_some q
  have hLa:led s.heap.objs.size=none:=by
   by_cases hb:s.heap.objs.size∈[z,TI,TO,i1,i2]
   ·exact hd _ hb
   ·erw[← he _ hb];exact (S.fresh ha).1
  have R1:=S.rel.many (T':=Un led Y) (h':=h') tk (·∈[z,TI,TO,i1,i2]) hw hk (λb hb=>by unfold Un;erw[he b hb]) (λb m hb q=>by
   rw[aE (hd b hb),hYn b hb]at q;exact bN q)
  have R2:=R1.addF (Un_none.mpr ⟨hLa,(S.fresh ha).2⟩) (S.rel.freshF ha) (S.rel.freshB ha) ho;refine⟨_,G,.dct o,led,bI (S.rel.freshF ha),.refl _,.dct (cA ..),⟨hdY,R2⟩,h o ⟨_,hD2,λj hj=>?_⟩⟩
  (refine aL (hd2.get (i:=j) (d:=.int (ys.getD j 0)) (by erw[List.getElem?_map,List.getD_eq_getElem?_getD,List.getElem?_eq_getElem hj];rfl)) λv hv hv2=>?_)
  (refine aN hv2.inv λtv o1=>?_;subst o1)
  exact⟨tv,by erw[List.getD_eq_getElem?_getD,hv];rfl⟩
theorem KcY.dictZ{led':aF}{z TI TO i1 i2:Addr}{x:Str}{ys:List Int}{items:List D}{Q:D→aF→Prop}(hz:ZipS led' z TI TO i1 i2 x (ys.map .int))(hd:∀b∈[z,TI,TO,i1,i2],led b=none)(he:∀b,b∉[z,TI,TO,i1,i2]→led' b=led b)(hl:x.cps.size=ys.length)(hl2:ys.length≤1000)(hnd:((List.range ys.length).map (gD x)).Nodup)(h:∀o,DictI C.prog C.w o ys.length (gD x) (λj=>ys.getD j 0)→Q (.dct o) led):∀Y,KCal C Y led' k (.typ "dict") [.itr z [TI,TO,i1,i2] items] Q:=λ_=>⟨KeepOk.typ _,CallW.dictZ hz hd he hl hl2 hnd h⟩
end
end Sc

set_option maxRecDepth 100000
namespace Sc
set_option tactic.hygienic false
open Builtin
section
variable {C:Cx} {Y led:aF} {k:Nat}
theorem DictI.at{prog:Program}{w:World}{o:Obj}{n:Nat}{key:Nat→Str}{num:Nat→Int}{h:Heap}{a:Addr}(D:DictI prog w o n key num)(ha:h.get? a=some o){j:Nat}(hj:j<n) :
  ∃f t,h.MapOf (PySem.strKind prog w) a f∧f (key j)=some (.int (num j) t):=by
 (refine aL D λval hd hv=>?_;clear D)
 refine aN (hv j hj) λt ht=>?_
 refine aEx (id hd) λ_ _ _ _ _ _ hn=>?_
 exact⟨_,t,(Heap.dictOf_iff.mpr ⟨o,ha,hd⟩).mapOf,valueAt_of_get hn (i:=j) (by erw[List.getElem?_map,List.getElem?_range hj,← ht];rfl)⟩
theorem SubW.dct(D:DictI C.prog C.w o n key num)(j:Nat)(hj:j<n)(hx:x=key j)(h:Q (.int (num j)) led):SubW C Y led value slice (.dct o) (.str x) Q:=by
 intro A fz G s v u hA S e1 e2;subst hx;induction e1 using oF with|k a ha =>
 induction e2 using bH with|k t =>
 refine cJ (D.at (S.rel.fzIn _ _ ha) hj) λf tv hm hf=>?_
 exact fW hm.typeIs F.slot_dict_getitem.lookup (wpAny_getItem_of (strKind_is ..) hm hf (Pst.leaf (S.tok _) (.int ..) h))
theorem SuY.dct(D:DictI C.prog C.w o n key num)(j:Nat)(hj:j<n)(hx:x=key j)(h:Q (.int (num j)) led):∀Y,SubW C Y led value slice (.dct o) (.str x) Q:=λ_=>SubW.dct D j hj hx h
theorem GetM.dget(D:DictI C.prog C.w o n key num)(hn:0<n):GetM C Y led (.dct o) "get" (.blt "dict.get") [.dct o] :=
 GetM.builtin (T:="dict") (λfz G s v S e=>by
  induction e using oF with|k a ha =>
  refine cJ (D.at (S.rel.fzIn _ _ ha) hn) λf tv hm hf=>?_
  exact⟨hm.typeIs,hm.noDict⟩) F.plainAttrs_dict F.slot_dict_get F.type_dict_get
theorem CallW.dget(D:DictI C.prog C.w o n key num)(j:Nat)(hj:j<n)(hx:x=key j)(h:Q (.int (num j)) led):CallW C Y led k (.blt "dict.get") [.dct o,.str x,d] Q:=by
 intro A fz G s fv vs hA S e1 e2;subst hx;induction e1 using bX;induction e2 using sA with|k v u w e3 e4 e5 =>
 induction e3 using oF with|k a ha =>
 induction e4 using bH with|k t =>
 refine cJ (D.at (S.rel.fzIn _ _ ha) hj) λf tv hm hf=>?_
 refine wpAny_call_entry F.slot_dict_get hm.typeIs F.entry_dict_get ?_ (F.args_dict_get_3 _ _ _);show wpAny _ _ (dictGet a (.str (key j) t) >>= _) _ _ s
 refine wpAny_bind (wpAny_dictGet_of (strKind_is ..) hm ?_);erw[hf];exact wpAny_pure ⟨_,rfl,Pst.leaf (S.tok _) (.int ..) h⟩
theorem KcY.dget(D:DictI C.prog C.w o n key num)(j:Nat)(hj:j<n)(hx:x=key j)(h:Q (.int (num j)) led):∀Y,KCal C Y led k (.blt "dict.get") [.dct o,.str x,d] Q:=λ_=>⟨KeepOk.blt _,CallW.dget D j hj hx h⟩
end
theorem vI{prog:Program}{w:World}{A:Around}{I:Addr}{fp wr:List Addr}{G:Array GenState→Array GenState→Prop}{n:Nat}{P:Nat→Value→Prop}{St:Nat→Shared→Prop}(W:WalksS prog w A I fp wr G n P St)(m:Nat)(P0:Nat→Value→Prop) :
  WalksS prog w A I fp wr G (m+n) (λj v=>if j<m then P0 j v else P (j - m) v) (λi s=>m≤i∧St (i - m) s) where
 sub:=W.sub
 grefl:=W.grefl
 gtrans:=W.gtrans
 frame:=λi s h' tk ⟨a,b⟩ c d=>⟨a,W.frame _ _ _ _ b c d⟩
 item:=λi s Q E hi ⟨a,b⟩ k=>W.item _ s Q E (by exact Nat.sub_lt_left_of_lt_add a hi) b λv s' hp hs hm=>k v s' (by rw[if_neg (by exact Nat.not_lt.mpr a)];exact hp) ⟨by exact Nat.le_add_right_of_le a,by rw[show i+1 - m=i - m+1 by exact Nat.sub_add_comm a];exact hs⟩ hm
 done:=λs Q E ⟨a,b⟩ k=>W.done s Q E (by rw[show m+n - m=n by exact Nat.add_sub_self_left m n]at b;exact b) k
 self:=λi s Q E ⟨a,b⟩ k=>W.self _ s Q E b k
section
variable {C:Cx} {Y led:aF} {k:Nat} {a:Addr} {xs:List D}
theorem F.len_str:typeLookup (.type "str") "__len__"=pure (some (.builtin "str.__len__")):=PySem.F.str_len
theorem qU(ha:led a=some (.list xs))(hl:xs.length+x.cps.size≤1000000)(h:Q .none (upd led a (.list (xs++bL x)))):CallW C Y led k (.blt "list.extend") [.ref a,.str x] Q:=by
 intro A fz G s fv vs hA S e1 e2;induction e1 using bX;induction e2 using rZ with|k v u e3 e4 =>
 induction e3 using aT;induction e4 using bH with|k t =>
 refine cJ (S.listAt ha) λus n hL hd=>?_
 have hlen:=hd.length;refine wpAny_call (codeAny_call_builtin F.slot_list_extend.plain F.entry_list_extend (F.slot_list_extend.check _ _ _ _ _ _ _ _ ⟨_,hL,rfl⟩ (F.args_list_extend_2 _ _) ?_));show wpAny _ A.in1 (Builtin.List.listExtendWith (.ref a) (.str x t) .none) _ _ _
 unfold Builtin.List.listExtendWith;refine wpAny_bind (wpAny_typeOf (T:="str") (v:=.str x t) rfl ?_);have h1:Builtin.List.listSameRef (.ref a) (.str x t)=false:=rfl;have h2:(Value.type "str" == Value.type "list")=false:=by decide
 have h3:(Value.type "str" == Value.type "tuple")=false:=by decide
 simp only[h1,h2,h3,Bool.or_false,Bool.false_eq_true,if_false];refine wpAny_bind (wpAny_pyIter_str λo St W hst=>?_);refine wpAny_bind (wpAny_holding ?_);unfold Builtin.List.listLengthHint;refine wpAny_bind (wpAny_specialOf (T:="str") (v:=.str x t) rfl F.len_str ?_)
 wp_delta
 refine wpAny_bind (wpAny_isInstance (T:="str") (v:=.str x t) (b:=true) rfl (by erw[isSubtype_type];kernel_rfl) ?_);show wpAny _ A.in1 (typeOf (Value.str x t) >>= _) _ _ _
 refine wpAny_bind (wpAny_typeOf (T:="str") (v:=.str x t) rfl ?_);refine wpAny_pure ?_;erw[if_neg (by decide)];have hup:∀b ob,s.heap.get? b=some ob→(s.heap.push o).get? b=some ob:=λb ob e=>Heap.get?_push_of_some _ e
 have hsf:a∉[s.heap.objs.size]:=λhm=>Nat.lt_irrefl _ (by have:=Heap.lt_size hL;rw[List.mem_singleton.mp hm]at this;exact this)
 have W2:=vI ((W A.in1 hA.r.1).toS) us.length (λj v=>us[j]?=some v);refine wpAny_pure ⟨plainId_quiet PySem.F.plain_extend_loop _,codeAny_extend_loopS W2 (by erw[hlen];exact Nat.le_trans hl (by decide)) a hsf _ x.cps.size us.length _ us.toArray n (Nat.add_sub_self_left us.length x.cps.size) (Nat.le_add_right us.length x.cps.size) ⟨Nat.le_refl _,by erw[Nat.sub_self];exact hst⟩ (hup _ _ hL) ⟨by exact rfl,λj v hv=>?_⟩ λs' acc' c' hm hS' hacc=>?_⟩
 ·rw[List.getElem?_toArray]at hv;have:j<us.length:=(List.getElem?_eq_some_iff.mp hv).1;erw[if_pos this];exact hv
 have hsz:acc'.toList.length=us.length+x.cps.size:=by erw[Array.length_toList];exact hacc.1
 have e1:acc'.toList.take us.length=us:=by
  refine List.ext_getElem? λj=>?_
  erw[List.getElem?_take];by_cases hj:j<us.length
  ·erw[if_pos hj];have:=hacc.2 j _ (Array.getElem?_eq_getElem (by erw[hacc.1];exact Nat.lt_add_right x.cps.size hj))
   dsimp only at this
   rw[if_pos hj]at this;erw[this,Array.getElem?_toList,Array.getElem?_eq_getElem]
  ·erw[if_neg hj,List.getElem?_eq_none (Nat.le_of_not_lt hj)]
 have e2:Dens fz (acc'.toList.drop us.length) (bL x):=by
  have:=uO (fz:=fz) (x:=x) (acc:=(acc'.toList.drop us.length).toArray) ⟨by simp at hsz ⊢;exact Eq.symm (Nat.eq_sub_of_add_eq' (_root_.id (Eq.symm hsz))),λj v hv=>by
   rw[List.getElem?_toArray,List.getElem?_drop,Array.getElem?_toList]at hv;have:=hacc.2 _ _ hv
   dsimp only at this
   rw[if_neg (by exact Nat.not_lt.mpr (bC [] (.le .p0 (.a .p0 .p1)) aB)),show us.length+j - us.length=j by exact Nat.add_sub_self_left us.length j]at this
   exact this⟩
  exact this
 have hden:Dens fz acc'.toList (xs++bL x):=by
  erw[← List.take_append_drop us.length acc'.toList,e1];exact e2.append hd
 have hk:Heap.ExtBut a s.heap s'.heap:=λb ob hb e=>hm.heap b ob (λhmm=>by
  rcases List.mem_cons.mp hmm with q|q
  ·exact hb q
  ·have:=Heap.lt_size e;rw[List.mem_singleton.mp q]at this;exact Nat.lt_irrefl _ this) (hup b ob e)
 have S2:=S.wr ha (m:=.list (xs++bL x)) s'.toks hk ⟨acc'.toList,c',by erw[Array.toArray_toList];exact hS',hden⟩
 have es:s'={ s with heap:=s'.heap,toks:=s'.toks }:=by
  obtain ⟨h',g',d',t',o'⟩:=s';have:=hm.gens;have:=hm.drawn;have:=hm.os;simp only at *
  subst_vars;rfl
 erw[es];exact⟨fz,G,.none,_,.refl _,.refl _,.none,S2,h⟩
end
end Sc

namespace Sc
theorem aDZ(h:WU C led fe vs k (PySem.assign e fe.env) d (KUL C fe k ((assignEach r fe.env).map (·.2)) ds Q))
  (he:autoParam (assignEach (e::r) fe.env=(false,PySem.assign e fe.env)::assignEach r fe.env) cD):WUL C led fe vs k ((assignEach (e::r) fe.env).map (·.2)) (d::ds) Q:=by
 erw[he];exact WUL.cons h
theorem aD0(h:Q vs led):WUL C led fe vs k ((assignEach [] fe.env).map (·.2)) [] Q:=WUL.nil h
local macro_rules
  | `(tactic| walk_at "e") => do
  let xs:=("rF uB aBh aAs rA aBi aCs WE.cmp1 aBj WE.tuple WE.slice aCw aCz WL.nil WL.cons WP.none WP.some WB.cmp1 rB uC kE xC aAt sF WB.tests_one WB.val TrY.int TrY.bool WS.cons WS.nil WS.ret mL zF WS.assign aDS WS.brk WS.cont WS.expr qM oS qN uT WU.st WU.name WU.tuple WU.bind aDZ aD0 WUL.cons WUL.nil aEJ CallW.bitlen KcY.range1 OpY.add OpY.sub OpY.or OpY.xor OpY.lt OpY.le OpY.gt OpY.ge OpY.eqi OpY.nei OpY.neg OpY.inv OpY.iadd OpY.eqs OpY.nes aCx aBs sH".splitOn " ").toArray
    let ts ← xs.mapM fun x => `(tacticSeq| refine $(Lean.mkIdent ("Sc." ++ x).toName) ?_)
    `(tactic| with_reducible first
   | first $[| $ts]*
   | refine⟨_,rfl,?_⟩)
local macro_rules | `(tactic| walk_at "v") => `(tactic| repeat walk_at "e")
set_option maxRecDepth 100000
set_option tactic.hygienic true
noncomputable def aQ(n:Nat):Stmt:=(PySem.Challenge.pw_sc0050_01.main.body.getD n (.Pass ⟨0,0,0,0⟩))

theorem nR(h:a.natAbs<2 ^ n):Builtin.Int.intBits a≤n:=by
 unfold Builtin.Int.intBits;by_cases ha:a=0
 ·subst ha;simp
 ·have:(a == 0)=false:=by simpa using ha
  erw[this];simp only[Bool.false_eq_true,if_false];have:a.natAbs≠0:=Int.natAbs_ne_zero.mpr ha;have:=(Nat.log2_lt this).mpr h;exact Nat.succ_le_of_lt this
theorem kX(hF:FOk fe vs F X)(hcs:∀x,x∉aS sc→fe.env.cells.lookup x=(bS sc cells).lookup x)
  (hb:(cI sc).all (λx=>!(aS sc).contains x && (fv.map (·.1)).contains x)=true) (hb2:fv.all (λp=>(cI sc).contains p.1 && !(fe.env.kindOf p.1 == some .local))=true) (hn:decide (fv.map (·.1)).Nodup=true) (hs:Sub fv vs):CloOk (bS sc cells) (Un F X) fv:=by
 refine aBx hF (λx c e=>?_) (λp hp=>?_) (of_decide_eq_true hn) hs
 ·have hx_0:=cH e;have hx:=hx_0.1;have:=List.all_eq_true.mp hb x hx;simp only[Bool.and_eq_true,Bool.not_eq_true',List.contains_eq_mem,decide_eq_false_iff_not,decide_eq_true_eq]at this;exact⟨by erw[hcs x this.1];exact e,this.2⟩
 ·have:=List.all_eq_true.mp hb2 p hp;simp only[Bool.and_eq_true,Bool.not_eq_true',List.contains_eq_mem,decide_eq_true_eq,beq_eq_false_iff_ne]at this;exact⟨this.2,_,iA this.1⟩
theorem sY(N:iO C)(h:GFn C f (aQ 5))(hlim:C.mg "_DIV_LIMIT"=some (.int 4000 t))
  (hb:b≠0) (hb2:b.natAbs<2 ^ 64) (ha:(Builtin.Int.intBits a:Int) - n≤4000) (hq:Q (.tup [.int (a.fdiv b),.int (a.fmod b)]) led):CallW C Y led (k+1) (.ref f) [.int a,.int b,.int n] Q:=by
 refine CallW.gfn h rfl [("a",.int a),("b",.int b),("n",.int n)] rfl rfl λL cs q code=>?_
 repeat (first|walk_at "e" | (with_reducible first|intro (_:aF)| refine KpK.blt ?_|refine aI ?_))
 refine cQ (pl:=_) ?_
 repeat (first|walk_at "e" | (with_reducible first|intro (_:aF)| refine KpK.blt ?_|refine aI ?_))
 refine⟨_,_,λY=>GetM.bitlen,?_⟩
 repeat (first|walk_at "e" | (with_reducible first|intro (_:aF)| refine KpK.blt ?_|refine aI ?_))
 refine⟨λ_=>?_,λhc=>absurd hc (by simpa using ha)⟩
 repeat (first|walk_at "e" | (with_reducible first|intro (_:aF)| refine KpK.blt ?_|refine aI ?_))
 exact sG hb hb2 hq

theorem jO(h:1<k):k / 2<k:=Nat.div_lt_self (Nat.lt_trans Nat.zero_lt_one h) (by decide)
theorem gS(h:1<k):0<k / 2:=Nat.div_pos h (by decide)
theorem rest_lt(h:1<k):k - k / 2<k:=Nat.sub_lt (Nat.lt_trans Nat.zero_lt_one h) (gS h)
theorem kY(h:1<k):0<k - k / 2:=Nat.sub_pos_of_lt (jO h)
theorem pB(k:Nat):k / 2+(k - k / 2)=k:=Nat.add_sub_cancel' (Nat.div_le_self k 2)
noncomputable def aDn(n k:Nat)(g:(y:Nat)→y<k→Nat→List Int)(x:Nat):List Int:=if h:k≤1 then [(x:Int)] else g (k / 2) (jO (Nat.lt_of_not_le h)) (x % 2 ^ (n*(k / 2)))++g (k - k / 2) (rest_lt (Nat.lt_of_not_le h)) (x / 2 ^ (n*(k / 2)))
noncomputable def jT(n x k:Nat):List Int:=WellFounded.fix (C:=λ_=>Nat→List Int) Nat.lt_wfRel.wf (aDn n) k x
theorem zQ(n x k:Nat):jT n x k=if h:k≤1 then [(x:Int)] else jT n (x % 2 ^ (n*(k / 2))) (k / 2)++jT n (x / 2 ^ (n*(k / 2))) (k - k / 2):=congrFun (WellFounded.fix_eq (C:=λ_=>Nat→List Int) Nat.lt_wfRel.wf (aDn n) k) x
theorem kZ(n x:Nat):jT n x 1=[(x:Int)]:=(zQ n x 1).trans (dif_pos (Nat.le_refl 1))
theorem iF(n x k:Nat)(h:1<k):jT n x k=jT n (x % 2 ^ (n*(k / 2))) (k / 2)++jT n (x / 2 ^ (n*(k / 2))) (k - k / 2):=(zQ n x k).trans (dif_neg (Nat.not_le_of_lt h))
theorem gE(n:Nat):∀k x:Nat,0<k→(jT n x k).length=k:=by
 intro k;induction k using Nat.strongRecOn with
 | _ k ih =>
  intro x hk;by_cases h:k=1
  ·subst h;erw[kZ];rfl
  ·have h1:1<k:=Nat.lt_of_le_of_ne hk (Ne.symm h);erw[iF n x k h1,List.length_append,ih (k / 2) (jO h1) _ (gS h1),ih (k - k / 2) (rest_lt h1) _ (kY h1)];exact pB k
noncomputable def valOf(n:Nat):List Int→Int
 | []=>0
 | d::r=>d+2 ^ n*valOf n r
theorem lA(n:Nat)(a b:List Int):valOf n (a++b)=valOf n a+2 ^ (n*a.length)*valOf n b:=by
 induction a with
 | nil=>simp[valOf]
 | cons d r ih =>
  erw[List.cons_append,valOf,valOf,ih,List.length_cons,Nat.mul_succ,Int.pow_add,Int.mul_add,← Int.add_assoc,Int.mul_comm ((2:Int) ^ (n*r.length)) (2 ^ n),Int.mul_assoc]

noncomputable section
set_option backward.match.sparseCases false in
noncomputable def lW:Stmt→List Stmt×Expr×Expr×Pos×Scope×Arguments
 | .FunctionDef _ a b _ _ _ s _ _ p=>(b,.Constant .none 0 p,.Constant .none 0 p,p,s,a)
 | .ClassDef _ _ _ b _ _ s _ _ _ p=>(b,.Constant .none 0 p,.Constant .none 0 p,p,default,default)
 | .If t b _ p=>(b,t,t,p,default,default)
 | .For t i b _ p=>(b,i,t,p,default,default)
 | .While t b _ p=>(b,t,t,p,default,default)
 | .Try b _ _ _ p=>(b,.Constant .none 0 p,.Constant .none 0 p,p,default,default)
 | .Assign _ e p=>([],e,e,p,default,default)
 | .Expr e p=>([],e,e,p,default,default)
 | _=>([],.Constant .none 0 ⟨0,0,0,0⟩,.Constant .none 0 ⟨0,0,0,0⟩,⟨0,0,0,0⟩,default,default)
set_option backward.match.sparseCases false in
noncomputable def xQ:Expr→Expr×Pos
 | .Yield (some e) p=>(e,p)
 | .Lambda _ e _ p=>(e,p)
 | e=>(e,⟨0,0,0,0⟩)
noncomputable def fC(s:Stmt):List Stmt:=(lW s).1
noncomputable def rP(s:Stmt):Expr:=(lW s).2.1
noncomputable def aD1(s:Stmt):Expr:=(lW s).2.2.1
noncomputable def pC(s:Stmt):Pos:=(lW s).2.2.2.1
noncomputable def sZ(s:Stmt):Scope:=(lW s).2.2.2.2.1
noncomputable def aES(s:Stmt):Arguments:=(lW s).2.2.2.2.2
noncomputable def yeS(s:Stmt):Expr:=(xQ (aD1 s)).1
noncomputable def aDo(s:Stmt):Pos:=(xQ (aD1 s)).2
noncomputable def jA(n:Nat)(l:List Stmt):Stmt:=l.getD n (.Pass ⟨0,0,0,0⟩)
end
noncomputable def body6:List Stmt:=fC (aQ 7)
noncomputable def lX:Stmt:=body6.getD 1 (.Pass ⟨0,0,0,0⟩)
theorem xR(a b:Nat):Builtin.bitAnd (a:Int) (b:Int)=((a &&& b:Nat):Int):=by
 unfold Builtin.bitAnd;erw[decide_eq_true (Int.natCast_nonneg a),decide_eq_true (Int.natCast_nonneg b)];rfl
theorem aAS(x:Int):Builtin.bitNot x = -x - 1:=by
 unfold Builtin.bitNot;exact (Int.sub_left_inj 1).mpr rfl
theorem aAT(a b:Nat):Builtin.bitOr (a:Int) (b:Int)=((a ||| b:Nat):Int):=by
 unfold Builtin.bitOr Builtin.bitAnd;simp only[aAS];erw[decide_eq_false (by exact Int.not_le.mpr (bF [] (.ilt (.s (.g (.c .p0)) (.k 1)) (.k 0)) aB):¬(0:Int)≤-(a:Int) - 1),decide_eq_false (by exact Int.not_le.mpr (bF [] (.ilt (.s (.g (.c .p0)) (.k 1)) (.k 0)) aB):¬(0:Int)≤-(b:Int) - 1)];simp only;erw[show (-(-(a:Int) - 1) - 1).toNat=a by lia,show (-(-(b:Int) - 1) - 1).toNat=b by lia];exact Int.le_antisymm (bF [] (.ile (.s (.g (.s (.g (.c .p0)) (.k 1))) (.k 1)) (.c .p0)) aB) (bF [] (.ile (.c .p0) (.s (.g (.s (.g (.c .p0)) (.k 1))) (.k 1))) aB)
theorem aCR(x s:Nat):Builtin.bitXor (x:Int) (((x / 2 ^ s:Nat):Int)*2 ^ s)=((x % 2 ^ s:Nat):Int):=by
 have e:(((x / 2 ^ s:Nat):Int)*2 ^ s)=((2 ^ s*(x / 2 ^ s):Nat):Int):=by erw[Nat.mul_comm,Int.natCast_mul,Int.natCast_pow];rfl
 erw[e];unfold Builtin.bitXor;erw[aAT,xR]
 have h1:x ||| (2 ^ s*(x / 2 ^ s))=x:=by
  apply Nat.eq_of_testBit_eq;intro i;erw[Nat.testBit_or,Nat.testBit_two_pow_mul,Nat.testBit_div_two_pow];by_cases h:s≤i
  ·simp[h]
  ·simp[h]
 have h2:x &&& (2 ^ s*(x / 2 ^ s))=2 ^ s*(x / 2 ^ s):=by
  apply Nat.eq_of_testBit_eq;intro i;erw[Nat.testBit_and,Nat.testBit_two_pow_mul,Nat.testBit_div_two_pow];by_cases h:s≤i
  ·simp[h]
  ·simp[h]
 erw[h1,h2];have:=Nat.div_add_mod x (2 ^ s);exact Int.sub_eq_iff_eq_add'.mpr (congrArg Nat.cast (id (Eq.symm this)))
theorem pD(x s:Nat):((x:Int)).fdiv (2 ^ s)=((x / 2 ^ s:Nat):Int):=by
 erw[Int.fdiv_eq_ediv_of_nonneg _ (Int.le_of_lt (Int.pow_pos (by decide)))];erw[Int.natCast_ediv,Int.natCast_pow];rfl
theorem vJ{fi ad:Addr}{fd:FuncData}{dict:Option Addr}{name name':Str}{args:Arguments}{body:List Stmt}{scope:Scope}{pos:Pos}{cells:List (Str×Addr)}{n:Nat}(hin:lX=.FunctionDef name args body [] none [] scope none name' pos)
  (hi:FnIs fd args (.stmts body) scope (bS scope cells)) (hn:0<n) (hn2:n≤64) (hne:ad≠fi):∀(m x L:Nat) (xs:List D) (Y led:aF),0<m→m≤64→led fi=some (.fn dict fd)→CloOk (bS scope cells) Y [("inner",.ref fi),("a_digits",.ref ad),("n",.int n)] →
   led ad=some (.list xs)→L+m≤xs.length→xs.length≤64→x<2 ^ 62 →
   CodeW C Y led (m+3) (.ref fi) [.int x,.int L,.int ((L+m:Nat):Int)] (λd led'=>d=.none∧led'=upd led ad (.list (xs.take L++(jT n x m).map .int++xs.drop (L+m)))):=by
 have e:lX=lX:=rfl;unfold lX at hin;have hin':(body6.getD 1 (.Pass ⟨0,0,0,0⟩))=.FunctionDef name args body [] none [] scope none name' pos:=hin;cases hin';intro m;induction m using Nat.strongRecOn with
 | _ m ih =>
  intro x L xs Y led hm hm2 hl hc ha hL hxs hx;refine CodeW.nest hl hi [("x",.int x),("L",.int L),("R",.int ((L+m:Nat):Int))] rfl rfl [("inner",.ref fi),("a_digits",.ref ad),("n",.int n)] hc rfl λL' cs q code hcs=>?_
  repeat (first|walk_at "e" | (with_reducible first|intro (_:aF)| refine KpK.blt ?_|refine aI ?_))
  refine⟨λh1=>?_,λh1=>?_⟩
  ·have hm1:m=1:=by simp only[beq_iff_eq]at h1;exact Nat.le_antisymm (bC [.ieq (.c (.a .p0 .p1)) (.a (.c .p0) (.k 1))] (.le .p1 .k1) aB h1.symm) (bC [.ieq (.a (.c .p0) (.k 1)) (.c (.a .p0 .p1))] (.le .k1 .p1) aB h1)
   subst hm1
   repeat (first|walk_at "e" | (with_reducible first|intro (_:aF)| refine KpK.blt ?_|refine aI ?_))
   refine SetIW.ref ha (Int.natCast_nonneg L) (Nat.lt_of_succ_le hL) (eJ hxs aB) ?_
   repeat (first|walk_at "e" | (with_reducible first|intro (_:aF)| refine KpK.blt ?_|refine aI ?_))
   refine⟨rfl,?_⟩;erw[kZ,Int.toNat_natCast,List.map_singleton,List.set_eq_take_append_cons_drop,if_pos (Nat.lt_of_succ_le hL)];simp
  ·have hm1:1<m:=by simp only[beq_eq_false_iff_ne]at h1;lia
   have hmid:((L:Int)+((L+m:Nat):Int)).fdiv (2 ^ Int.toNat 1)=((L+m / 2:Nat):Int):=by
    erw[← Int.natCast_add,show (2:Int) ^ Int.toNat 1=2 ^ 1 from rfl,pD,← Nat.add_assoc,← Nat.two_mul,Nat.pow_one,Nat.mul_add_div (by decide)]
   have hsh:(((L+m / 2:Nat):Int) - (L:Int))*(n:Int)=((n*(m / 2):Nat):Int):=by
    erw[Int.natCast_mul,Int.natCast_add,Int.mul_comm];congr 1;exact Int.sub_eq_iff_eq_add'.mpr rfl
   have hs2:n*(m / 2)≤1000000:=Nat.le_trans (Nat.mul_le_mul hn2 (Nat.le_trans (Nat.div_le_self m 2) hm2)) (by decide);have hsplit:=iF n x m hm1;obtain ⟨u,v,hu,hv,huv,hu0,hv0⟩:∃u v,m / 2=u∧m - m / 2=v∧u+v=m∧0<u∧0<v:=⟨_,_,rfl,rfl,Nat.add_sub_cancel' (Nat.div_le_self ..),Nat.div_pos hm1 (by decide),Nat.sub_pos_of_lt (Nat.div_lt_self hm (by decide))⟩;rw[hv]at hsplit;rw[hu]at hmid hsh hs2 hsplit;clear hu hv;walk_at "v";refine OpY.shr Int.one_nonneg ?_;erw[hmid];clear hmid h1;walk_at "v";refine OpY.mul ?_ (.inr (cF (bF [.le .p0 (.k 64)] (.ilt (.c .p0) (.c (.k 18446744073709551616))) aB hn2) (bF [.lt (.k 0) .p0] (.ilt (.g (.c .p0)) (.c (.k 18446744073709551616))) aB hn)));erw[hsh];walk_at "v";refine OpY.shr (Int.natCast_nonneg (n*u)) ?_;erw[Int.toNat_natCast,pD];walk_at "v"; intro _;have hup:x / 2 ^ (n*u)≤x:=Nat.div_le_self ..;refine Op2.shl (Int.natCast_nonneg (n*u)) (Nat.ToInt.of_le rfl rfl hs2) (by erw[Int.natAbs_natCast];exact bC [.lt .p0 (.k 4611686018427387904),.le .p1 .p0] (.lt .p1 (.k 18446744073709551616)) aB hx hup) ?_;erw[Int.toNat_natCast];intro _;refine Op2.xor ?_;erw[aCR];walk_at "v";refine WE.call ?_;walk_at "v"; intro _;intro _;rename_i F X;intro hF hd;have clo:=kX (fv:=[("inner",.ref fi),("a_digits",.ref ad),("n",.int n)]) hF hcs rfl rfl rfl rfl;refine⟨KeepOk.fn (cC hl),?_⟩;have q1:u<m:=huv▸Nat.lt_add_of_pos_right hv0;have q2:v<m:=huv▸Nat.lt_add_of_pos_left hu0;have q3:L+u≤xs.length:=Nat.le_trans (Nat.add_le_add_left (Nat.le_of_lt q1) L) hL;have q4:L≤xs.length:=Nat.le_trans (Nat.le_add_right L u) q3;have lower:=ih u q1 (x % 2 ^ (n*u)) L xs (Un F X) led hu0 (Nat.le_trans (Nat.le_of_lt q1) hm2) hl clo ha q3 hxs (Nat.lt_of_le_of_lt (Nat.mod_le ..) hx);refine (lower.call.up (Nat.le_add_of_sub_le q1)).mono ?_;intro d led' o21;obtain ⟨rfl,rfl⟩:=o21;refine⟨rfl,?_⟩;walk_at "v";refine WE.call ?_;walk_at "v"; intro _;intro _;rename_i F X;intro hF hd;have clo:=kX (fv:=[("inner",.ref fi),("a_digits",.ref ad),("n",.int n)]) hF hcs rfl rfl rfl rfl;have hl':upd led ad (M.list (xs.take L++(jT n (x % 2 ^ (n*u)) u).map D.int++xs.drop (L+u))) fi=some (.fn dict fd):=by erw[aG _ _ hne.symm];exact hl
   refine⟨KeepOk.fn (cC hl'),?_⟩
   have hlen:(xs.take L++(jT n (x % 2 ^ (n*u)) u).map D.int++xs.drop (L+u)).length=xs.length:=by
    erw[List.length_append,List.length_append,List.length_take,List.length_map,gE _ _ _ hu0,List.length_drop,Nat.min_eq_left q4];exact Nat.add_sub_cancel' q3
   have upper:=ih v q2 (x / 2 ^ (n*u)) (L+u) _ (Un F X) _ hv0 (Nat.le_trans (Nat.le_of_lt q2) hm2) hl' clo (aA ..) (by erw[hlen,Nat.add_assoc,huv];exact hL) (by erw[hlen];exact hxs) (Nat.lt_of_le_of_lt hup hx);rw[show L+u+v=L+m by erw[Nat.add_assoc,huv]]at upper;refine (upper.call.up (Nat.le_add_of_sub_le q2)).mono ?_;intro d led' o21;obtain ⟨rfl,rfl⟩:=o21;refine⟨rfl,?_⟩;walk_at "v";refine⟨rfl,?_⟩;erw[dR,hsplit,List.map_append]
   congr 2
   have hl1:(xs.take L++(jT n (x % 2 ^ (n*u)) u).map D.int).length=L+u:=by
    erw[List.length_append,List.length_take,List.length_map,gE _ _ _ hu0,Nat.min_eq_left q4]
   rw[List.take_append_of_le_length (Nat.le_of_eq hl1.symm),List.take_of_length_le (Nat.le_of_eq hl1),List.drop_append,hl1,List.drop_eq_nil_of_le (by rw[hl1];exact lN [.eq (.a .p0 .p1) .p2,.lt (.k 0) .p1] (.le (.a .p3 .p0) (.a .p3 .p2)) aB huv hv0),List.nil_append,List.drop_drop];simp only[List.append_assoc]
   congr 4
   exact Nat.le_antisymm (lN [.eq (.a .p0 (.a .p1 .p2)) (.a .p1 .p3)] (.le (.a (.a .p1 .p2) .p0) (.a .p1 .p3)) aB (Nat.sub_add_cancel (lN [.eq (.a .p0 .p1) .p2,.lt (.k 0) .p1] (.le (.a .p3 .p0) (.a .p3 .p2)) aB huv hv0))) (lN [.le (.a .p0 .p1) (.a .p2 (.a .p0 .p3))] (.le (.a .p0 .p1) (.a (.a .p0 .p3) .p2)) aB (Nat.le_add_of_sub_le (Nat.le_refl _)))
set_option tactic.hygienic true
noncomputable def Less(a b:aF):Prop:=∀x m,a x=some m→b x=some m
theorem Less.refl(a:aF):Less a a:=λ_ _ e=>e
theorem Less.upd(h:Less a b)(hx:a x=none)(m:M):Less a (upd b x m):=λy m' e=>by
 erw[aG _ _ (λz=>by subst z;(first|exact (aH (hx ..) e).elim|cases aJ (hx ..) e|(rw[hx]at e;cases e)))];exact h y m' e
theorem jB(h:Less a b)(hx:a x=none):Less a (Sc.del b x):=λy m' e=>by
 unfold Sc.del;erw[if_neg (λz=>by subst z;(first|exact (aH (hx ..) e).elim|cases aJ (hx ..) e|(rw[hx]at e;cases e)))];exact h y m' e
theorem St.less(S:St C fz led Y G s)(h:Less led' led):St C fz led' Y G s:=by
 refine⟨λa=>?_,S.rel.forget λa m e=>?_⟩
 ·rcases S.dj a with q|q
  ·left;cases hl:led' a with
   | none=>rfl
   | some m=>(first|exact (aH (h a m hl ..) q).elim|cases aJ (h a m hl ..) q|(rw[h a m hl]at q;exact dN q))
  ·exact .inr q
 ·cases hl:led' a with
  | some m'=>(first|exact (aH (aC hl ..) e).elim|cases aJ (aC hl ..) e|(rw[aC hl]at e;cases e));exact aC (h a _ hl)
  | none =>
   rw[aE hl]at e;erw[aE ((S.dj a).resolve_right (by erw[e];exact Option.some_ne_none _))];exact e
theorem CallW.less(h:CallW C Y led k f ds λd led1=>∃led2,Less led2 led1∧Q d led2):CallW C Y led k f ds Q:=by
 intro A fz G s fv us hA S e1 e2;refine aW (h A fz G s fv us hA S e1 e2) λv1 s1 fz1 G1 d1 led1 l1 g1 e3 S1 h1=>?_
 (refine aL h1 λled2 hl q=>?_;clear h1)
 exact⟨fz1,G1,_,_,l1,g1,e3,S1.less hl,q⟩

noncomputable def xS(n a:Nat):List Int:=if a=0 then [] else jT n a ((Builtin.Int.intBits (a:Int)+n - 1) / n)
noncomputable def aET:Pos:=pC lX
theorem aD2{a n:Nat}(hn:0<n)(ha:a<2 ^ 60)(h0:a≠0):0<(Builtin.Int.intBits (a:Int)+n - 1) / n∧(Builtin.Int.intBits (a:Int)+n - 1) / n≤60:=by
 have h1:Builtin.Int.intBits (a:Int)≤60:=nR (by erw[Int.natAbs_natCast];exact ha)
 have h2:0<Builtin.Int.intBits (a:Int):=by
  unfold Builtin.Int.intBits;have:((a:Int) == 0)=false:=by simpa using h0
  erw[this];simp
 refine⟨Nat.div_pos (eF [.lt (.k 0) .p0,.le (.a .p0 .p1) (.a .p2 .k1)] (.le .p1 .p2) aB h2 (Nat.le_add_of_sub_le (Nat.le_refl _))) hn,?_⟩;erw[Nat.div_le_iff_le_mul_add_pred hn];have:n≤n*1:=bF [] (.le .p0 (.r .p0 (nat_lit 1))) aB;have h3:60*1≤60*n:=Nat.mul_le_mul_left 60 hn;erw[Nat.mul_comm n 60];exact lN [.t 59 (.lt (.k 0) .p0),.le .p1 (.k 60),.eq (.a .p2 .k1) (.a .p1 .p0)] (.le .p2 (.a (.l 60 .p0) .p3)) aB hn h1 (Nat.sub_add_cancel (bC [.lt (.k 0) .p0] (.le .k1 (.a .p1 .p0)) aB hn))
theorem nE{k:Nat}{a n:Nat}(N:iO C)(h:GFnC C f (aQ 7) c "_int2digits")(hct:C.ct c P)(hdq:C.dq c aET="_int2digits.<locals>.inner")
  (hn:0<n) (hn2:n≤64) (ha:a<2 ^ 60) (hq:Q (.lst ((xS n a).map .int)) led):CallW C Y led (k+70) (.ref f) [.int a,.int n] Q:=by
 refine CallW.less (CallW.frz ?_);refine (oZ h rfl [("a",.int a),("n",.int n)] rfl rfl λL cs=>?_).call;walk_at "v";refine WE.list ?_;walk_at "v";refine⟨by decide,?_⟩;walk_at "v";refine cQ (pl:=_) ?_;walk_at "v";refine⟨_,_,λY=>GetM.bitlen,?_⟩;walk_at "v"; intro _;refine KpK.blt ?_;walk_at "v";refine OpY.fdiv (Int.natCast_ne_zero_iff_pos.mpr hn) ?_ (cF (bF [.le .p0 (.k 64)] (.ilt (.c .p0) (.c (.k 18446744073709551616))) aB hn2) (bF [.lt (.k 0) .p0] (.ilt (.g (.c .p0)) (.c (.k 18446744073709551616))) aB hn))
 have hd:((Builtin.Int.intBits (a:Int):Int)+(n:Int) - 1).fdiv (n:Int)=(((Builtin.Int.intBits (a:Int)+n - 1) / n:Nat):Int):=by
  erw[Int.fdiv_eq_ediv_of_nonneg _ (Int.natCast_nonneg n)];erw[Int.natCast_ediv];congr 1;exact Int.le_antisymm (eF [.le (.a .p0 .p1) (.a .p2 .k1)] (.ile (.s (.a (.c .p0) (.c .p1)) (.k 1)) (.c .p2)) aB (Nat.le_add_of_sub_le (Nat.le_refl _))) (eF [.eq (.a .p0 .k1) (.a .p1 .p2)] (.ile (.c .p0) (.s (.a (.c .p1) (.c .p2)) (.k 1))) aB (Nat.sub_add_cancel (bC [.lt (.k 0) .p0] (.le .k1 (.a .p1 .p0)) aB hn)))
 erw[hd]
 have hcnt:(Builtin.Int.intBits (a:Int)+n - 1) / n≤60:=by
  by_cases h0:a=0
  ·subst h0;have:Builtin.Int.intBits ((0:Nat):Int)=0:=rfl;erw[this,Nat.zero_add,Nat.div_eq_of_lt (Nat.sub_one_lt_of_lt hn)];exact Nat.zero_le 60
  ·exact (aD2 hn ha h0).2
 generalize hcount:(Builtin.Int.intBits (a:Int)+n - 1) / n=cnt at *;refine OpY.mull (Int.natCast_nonneg cnt) (by simp;exact eJ hcnt aB) (bF [.le .p0 (.k 60)] (.ile (.c .p0) (.k 1000000)) aB hcnt) (by simp) λad had=>?_
 erw[Int.toNat_natCast];walk_at "v";refine nO rfl hct (hdq.trans ?_) λfi fd hi hfi=>?_
 ·with_unfolding_all rfl
 walk_at "v";refine⟨λh0=>?_,λh0=>?_⟩
 ·have ha0:a≠0:=by simp only[bne_iff_ne,ne_eq]at h0;exact Int.ofNat_ne_zero.mp h0
  have hl:=aD2 hn ha ha0;rw[hcount]at hl;have hne:ad≠fi:=λz=>by subst z;(first|exact (aH (aA ..) hfi).elim|cases aJ (aA ..) hfi|(rw[aA]at hfi;exact dN hfi))
  have had':upd (upd led ad (M.list (List.replicate cnt [D.int 0]).flatten)) fi (M.fn none fd) ad=some (.list (List.replicate cnt [D.int 0]).flatten):=by erw[aG _ _ hne,aA]
  have hrl:(List.replicate cnt [D.int 0]).flatten.length=cnt:=by simp
  walk_at "v";refine WE.call ?_;walk_at "v";refine aI ?_;walk_at "v";refine KcY.len_ref had' (by erw[hrl];exact gN hcnt aB) ?_;erw[hrl];walk_at "v"; intro _;intro _;rename_i F X;intro hF hd;have clo:=hF.clo (sc:=sZ lX) (fv:=[("inner",.ref fi),("a_digits",.ref ad),("n",.int n)]) rfl rfl rfl;refine⟨KeepOk.fn (cC (aA ..)),?_⟩;have w:=vJ (C:=C) rfl hi hn hn2 hne cnt a 0 _ (Un F X) _ hl.1 (eJ hcnt aB) (aA ..) clo had' (by erw[hrl];exact bF [] (.le (.a (.k 0) .p0) .p0) aB) (by erw[hrl];exact eJ hcnt aB) (lkc ha aB);rw[Nat.zero_add]at w;refine (w.call.up (bC [.le .p0 (.k 60)] (.le (.a .p0 .k3) (.a .p1 (.k 69))) aB hcnt)).mono ?_;intro d led' o21;(refine cL o21 λo1 o2=>?_;clear o21;subst o1;subst o2);refine⟨rfl,?_⟩;walk_at "v";refine⟨ad,_,rfl,aA ..,_,jB ?_ had,?_⟩
  ·exact ((Less.refl led).upd had _ |>.upd (by rw[aG _ _ hne.symm]at hfi;exact hfi) _).upd had _
  ·have e:xS n a=jT n a cnt:=by unfold xS;erw[if_neg ha0,hcount]
   rw[e]at hq;rw[List.take_zero,List.nil_append,List.drop_eq_nil_of_le (by rw[hrl];exact Nat.le_refl cnt),List.append_nil];exact hq
 ·have ha0:a=0:=by simp only[bne_eq_false_iff_eq]at h0;exact Int.ofNat_eq_zero.mp h0
  have hne:ad≠fi:=λz=>by subst z;(first|exact (aH (aA ..) hfi).elim|cases aJ (aA ..) hfi|(rw[aA]at hfi;exact dN hfi))
  have had':upd (upd led ad (M.list (List.replicate cnt [D.int 0]).flatten)) fi (M.fn none fd) ad=some (.list (List.replicate cnt [D.int 0]).flatten):=by erw[aG _ _ hne,aA]
  walk_at "v";refine⟨ad,_,rfl,had',_,jB ?_ had,?_⟩
  ·exact ((Less.refl led).upd had _ |>.upd (by rw[aG _ _ hne.symm]at hfi;exact hfi) _)
  ·subst ha0
   have hc0:cnt=0:=by
    have e0:Builtin.Int.intBits ((0:Nat):Int)=0:=rfl;rw[e0,Nat.zero_add,Nat.div_eq_of_lt (Nat.sub_one_lt_of_lt hn)]at hcount;exact hcount.symm
   subst hc0;have e:xS n 0=[]:=by unfold xS;erw[if_pos rfl]
   rw[e]at hq;exact hq
set_option tactic.hygienic true
noncomputable def body7:List Stmt:=fC (aQ 8)
noncomputable def tA:Stmt:=body7.getD 0 (.Pass ⟨0,0,0,0⟩)
noncomputable def aEU:Pos:=pC tA
theorem mS(n:Nat):∀ds:List Int,(∀d∈ds,0≤d∧d<2 ^ n)→0≤valOf n ds∧valOf n ds<2 ^ (n*ds.length)
 | [],_=>by simp[valOf]
 | d::r,h=>by
  have h1:=h d List.mem_cons_self;have h2:=mS n r λx hx=>h x (List.mem_cons_of_mem _ hx)
  rw[valOf,List.length_cons,Nat.mul_succ,Int.pow_add];have hp:(0:Int)<2 ^ n:=Int.pow_pos (by decide);have hp2:(0:Int)≤2 ^ n*valOf n r:=Int.mul_nonneg (Int.le_of_lt hp) h2.1;refine⟨by exact kC [.ile (.k 0) .p0,.ile (.k 0) .p1] (.ile (.k 0) (.a .p0 .p1)) aB h1.1 hp2,?_⟩;have h3:2 ^ n*(valOf n r+1)≤2 ^ n*2 ^ (n*r.length):=Int.mul_le_mul_of_nonneg_left (by exact kC [.ilt .p0 .p1] (.ile (.a .p0 (.k 1)) .p1) aB h2.2) (Int.le_of_lt hp);rw[Int.mul_add,Int.mul_one]at h3;rw[Int.mul_comm ((2:Int) ^ (n*r.length))];exact bQ 0 [] [_,_,_,_] [.ilt .p0 .p1,.ile (.a .p2 .p1) (.v (nat_lit 3))] (.ilt (.a .p0 .p2) (.v (nat_lit 3))) aB h1.2 h3
theorem aAU(ds:List Int)(L m:Nat)(hm:m / 2≤m):(ds.drop L).take m=(ds.drop L).take (m / 2)++(ds.drop (L+m / 2)).take (m - m / 2):=by
 have h:=List.take_append_drop (m / 2) ((ds.drop L).take m);erw[← h,List.take_take,List.drop_take,List.drop_drop]
 congr 2
 exact Nat.min_eq_left hm
theorem vK{fi:Addr}{fd:FuncData}{dict:Option Addr}{name name':Str}{args:Arguments}{body:List Stmt}{scope:Scope}{pos:Pos}{cells:List (Str×Addr)}{n:Nat}{ds:List Int}(hin:tA=.FunctionDef name args body [] none [] scope none name' pos)
  (hi:FnIs fd args (.stmts body) scope (bS scope cells)) (hn:0<n) (hn2:n≤64) (hds:∀d∈ds,0≤d∧d<2 ^ n) (hsz:n*ds.length≤62):∀(m L:Nat) (Y led:aF),0<m→m≤64→led fi=some (.fn dict fd) →
   CloOk (bS scope cells) Y [("inner",.ref fi),("digits",.lst (ds.map .int)),("n",.int n)]→L+m≤ds.length →
   CodeW C Y led (m+3) (.ref fi) [.int L,.int ((L+m:Nat):Int)] (λd led'=>d=.int (valOf n ((ds.drop L).take m))∧led'=led):=by
 unfold tA at hin;have hin':(body7.getD 0 (.Pass ⟨0,0,0,0⟩))=.FunctionDef name args body [] none [] scope none name' pos:=hin;cases hin';intro m;have hlen:ds.length≤62:=Nat.le_trans (by have:=Nat.mul_le_mul_right ds.length hn;exact Nat.le_mul_of_pos_left ds.length hn) hsz;induction m using Nat.strongRecOn with
 | _ m ih =>
  intro L Y led hm hm2 hl hc hL;refine CodeW.nest hl hi [("L",.int L),("R",.int ((L+m:Nat):Int))] rfl rfl [("inner",.ref fi),("digits",.lst (ds.map .int)),("n",.int n)] hc rfl λL' cs q code hcs=>?_
  walk_at "v";refine⟨λh1=>?_,λh1=>?_⟩
  ·have hm1:m=1:=by simp only[beq_iff_eq]at h1;exact Nat.le_antisymm (bC [.ieq (.c (.a .p0 .p1)) (.a (.c .p0) (.k 1))] (.le .p1 .k1) aB h1.symm) (bC [.ieq (.a (.c .p0) (.k 1)) (.c (.a .p0 .p1))] (.le .k1 .p1) aB h1)
   subst hm1;have hx:L<ds.length:=Nat.lt_of_succ_le hL;walk_at "v";refine SuY.lst (d:=.int ds[L]) (Int.natCast_nonneg L) (bC [.le .p0 (.k 62),.le (.a .p1 .k1) .p0] (.ilt (.c .p1) (.k 9223372036854775808)) aB hlen hL) (by erw[Int.toNat_natCast,List.getElem?_map,List.getElem?_eq_getElem hx];rfl) ?_;refine⟨?_,rfl⟩
   congr 1
   erw[List.drop_eq_getElem_cons hx,List.take_succ_cons,List.take_zero,valOf,valOf];lia
  ·have hm1:1<m:=by simp only[beq_eq_false_iff_ne]at h1;lia
   have hmid:((L:Int)+((L+m:Nat):Int)).fdiv (2 ^ Int.toNat 1)=((L+m / 2:Nat):Int):=by
    erw[← Int.natCast_add,show (2:Int) ^ Int.toNat 1=2 ^ 1 from rfl,pD,← Nat.add_assoc,← Nat.two_mul,Nat.pow_one,Nat.mul_add_div (by decide)]
   have hsh:(((L+m / 2:Nat):Int) - (L:Int))*(n:Int)=((n*(m / 2):Nat):Int):=by
    erw[Int.natCast_mul,Int.natCast_add,Int.mul_comm];congr 1;exact Int.sub_eq_iff_eq_add'.mpr rfl
   have hs2:n*(m / 2)≤1000000:=Nat.le_trans (Nat.mul_le_mul hn2 (Nat.le_trans (Nat.div_le_self m 2) hm2)) (by decide);walk_at "v";refine OpY.shr Int.one_nonneg ?_;erw[hmid];clear hmid h1;walk_at "v";refine OpY.mul ?_ (.inr (cF (bF [.le .p0 (.k 64)] (.ilt (.c .p0) (.c (.k 18446744073709551616))) aB hn2) (bF [.lt (.k 0) .p0] (.ilt (.g (.c .p0)) (.c (.k 18446744073709551616))) aB hn)));erw[hsh];walk_at "v";refine WE.call ?_;walk_at "v"; intro _;intro _;rename_i F X;intro hF hd;have clo:=kX (fv:=[("inner",.ref fi),("digits",.lst (ds.map .int)),("n",.int n)]) hF hcs rfl rfl rfl rfl;refine⟨KeepOk.fn (cC hl),?_⟩;have q1:L+m / 2+(m - m / 2)=L+m:=by erw[Nat.add_assoc,pB]
   have q2:L+m / 2≤ds.length:=Nat.le_trans (Nat.add_le_add_left (Nat.div_le_self m 2) L) hL;have upper:=ih (m - m / 2) (rest_lt hm1) (L+m / 2) (Un F X) led (kY hm1) (Nat.le_trans (Nat.sub_le ..) hm2) hl clo (q1▸hL);rw[q1]at upper;refine (upper.call.up (bQ 1 [_,_,_,_] [] [.lt .k1 .p0,.t 2 (.eq (.a (.a .p1 .p2) .p3) (.a .p1 .p0)),.lt .p0 (.a (.r .p2 (nat_lit 2)) .k2)] (.le (.a .p3 .k3) (.a .p0 .k2)) aB hm1 q1 (Nat.lt_div_mul_add (by decide)))).mono ?_;intro d led2 o21;obtain ⟨rfl,hle⟩:=o21;obtain rfl:led=led2:=hle.symm;walk_at "v"; intro _;have hmem:∀(j i:Nat),∀d∈(ds.drop j).take i,0≤d∧d<2 ^ n:=λj i d hd=>hds d (List.mem_of_mem_drop (List.mem_of_mem_take hd))
   have hb:=mS n _ (hmem (L+m / 2) (m - m / 2))
   have hb2:(2:Int) ^ (n*((ds.drop (L+m / 2)).take (m - m / 2)).length)≤2 ^ 62:=by
    have h4:n*((ds.drop (L+m / 2)).take (m - m / 2)).length≤62:=Nat.le_trans (Nat.mul_le_mul_left n (by erw[List.length_take,List.length_drop];exact Nat.le_trans (Nat.min_le_right ..) (Nat.sub_le ..))) hsz;have:=Nat.pow_le_pow_right (n:=2) (by decide) h4
    exact_mod_cast this
   refine Op2.shl (Int.natCast_nonneg (n*(m / 2))) (bF [.le .p0 (.k 1000000)] (.ile (.c .p0) (.k 1000000)) aB hs2) (cF (kC [.ilt .p0 .p1,.ile .p1 (.k 4611686018427387904)] (.ilt .p0 (.c (.k 18446744073709551616))) aB hb.2 hb2) (qE [.ile (.k 0) .p0] (.ilt (.g .p0) (.c (.k 18446744073709551616))) aB hb.1)) ?_;erw[Int.toNat_natCast];refine WE.call ?_;walk_at "v"; intro _;intro _;rename_i F X;intro hF hd;have clo:=kX (fv:=[("inner",.ref fi),("digits",.lst (ds.map .int)),("n",.int n)]) hF hcs rfl rfl rfl rfl;refine⟨KeepOk.fn (cC hl),?_⟩;have lower:=ih (m / 2) (jO hm1) L (Un F X) led (gS hm1) (Nat.le_trans (Nat.div_le_self m 2) hm2) hl clo q2;refine (lower.call.up (bQ 1 [_,_] [] [.lt (.k 0) .p0,.le (.r .p1 (nat_lit 2)) .p0] (.le (.a .p1 .k3) (.a .p0 .k2)) aB hm (Nat.div_mul_le_self _ _))).mono ?_;intro d led2 o21;obtain ⟨rfl,hle⟩:=o21;obtain rfl:led=led2:=hle.symm;walk_at "v";refine⟨?_,rfl⟩
   congr 1
   erw[aAU ds L m (Nat.div_le_self m 2),lA];have:((ds.drop L).take (m / 2)).length=m / 2:=by erw[List.length_take,List.length_drop,Nat.min_eq_left (Nat.le_sub_of_add_le (Nat.add_comm L _▸q2))]
   erw[this,Int.mul_comm];exact Int.le_antisymm (kC [] (.ile (.a .p0 .p1) (.a .p1 .p0)) aB) (kC [] (.ile (.a .p0 .p1) (.a .p1 .p0)) aB)
theorem nF{k:Nat}{n:Nat}(N:iO C)(h:GFnC C f (aQ 8) c "_digits2int")(hct:C.ct c P)(hdq:C.dq c aEU="_digits2int.<locals>.inner")
  (hn:0<n) (hn2:n≤64) (hds:∀d∈ds,0≤d∧d<2 ^ n) (hsz:n*ds.length≤62) (hq:Q (.int (valOf n ds)) led):CallW C Y led (k+70) (.ref f) [.lst (ds.map .int),.int n] Q:=by
 have hlen:ds.length≤62:=Nat.le_trans (by have:=Nat.mul_le_mul_right ds.length hn;exact Nat.le_mul_of_pos_left ds.length hn) hsz;refine CallW.less ?_;refine (oZ h rfl [("digits",.lst (ds.map .int)),("n",.int n)] rfl rfl λL cs=>?_).call;walk_at "v";refine nO rfl hct (hdq.trans ?_) λfi fd hi hfi=>?_
 ·with_unfolding_all rfl
 walk_at "v";refine TrY.lst (by simp;exact eJ hlen aB) ?_;refine⟨λh0=>?_,λh0=>?_⟩
 ·have hne:0<ds.length:=by cases ds with|nil=>simp at h0|cons=>simp
  refine WE.call ?_;walk_at "v";refine aI ?_;walk_at "v";refine KcY.len_lst (by simp;exact gN hlen aB) ?_;erw[List.length_map];walk_at "v"; intro _;intro _;rename_i F X;intro hF hd;have clo:=hF.clo (sc:=sZ tA) (fv:=[("inner",.ref fi),("digits",.lst (ds.map .int)),("n",.int n)]) rfl rfl rfl;refine⟨KeepOk.fn (cC (aA ..)),?_⟩;have w:=vK (C:=C) (dict:=none) rfl hi hn hn2 hds hsz ds.length 0 (Un F X) (upd led fi (.fn none fd)) hne (eJ hlen aB) (aA ..) clo (bF [] (.le (.a (.k 0) .p0) .p0) aB);rw[Nat.zero_add]at w;refine (w.call.up (bC [.le .p0 (.k 62)] (.le (.a .p0 .k3) (.a .p1 (.k 69))) aB hlen)).mono ?_;intro d led' o21;obtain ⟨rfl,rfl⟩:=o21;refine⟨led,(Less.refl led).upd hfi _,?_⟩;erw[List.drop_zero,List.take_length];exact hq
 ·have hne:ds=[]:=by cases ds with|nil=>rfl|cons=>simp at h0
  subst hne;walk_at "v";exact⟨led,(Less.refl led).upd hfi _,hq⟩
set_option tactic.hygienic false
theorem aBI(n:Nat):∀k x:Nat,0<k→valOf n (jT n x k)=x:=by
 intro k;induction k using Nat.strongRecOn with
 | _ k ih =>
  intro x hk;by_cases h:k=1
  ·subst h;erw[kZ];simp[valOf]
  ·have h1:1<k:=Nat.lt_of_le_of_ne hk (Ne.symm h);erw[iF n x k h1,lA,gE _ _ _ (gS h1),ih _ (jO h1) _ (gS h1),ih _ (rest_lt h1) _ (kY h1)];have:=Nat.mod_add_div x (2 ^ (n*(k / 2)))
   exact_mod_cast this
theorem xT(n:Nat):∀k x:Nat,0<k→x<2 ^ (n*k)→∀d∈jT n x k,0≤d∧d<2 ^ n:=by
 intro k;induction k using Nat.strongRecOn with
 | _ k ih =>
  intro x hk hx d hd;by_cases h:k=1
  ·subst h;rw[kZ,List.mem_singleton]at hd;subst hd;rw[Nat.mul_one]at hx;refine⟨by exact Int.natCast_nonneg x,?_⟩
   exact_mod_cast hx
  ·have h1:1<k:=Nat.lt_of_le_of_ne hk (Ne.symm h);rw[iF n x k h1,List.mem_append]at hd;rcases hd with hd|hd
   ·exact ih _ (jO h1) _ (gS h1) (Nat.mod_lt _ (Nat.pow_pos (by decide))) d hd
   ·refine ih _ (rest_lt h1) _ (kY h1) ?_ d hd;erw[Nat.div_lt_iff_lt_mul (Nat.pow_pos (by decide)),← Nat.pow_add,← Nat.mul_add]
    rwa [Nat.add_comm,pB]
noncomputable def vL(b:Int)(n:Nat)(st:Int×List Int)(d:Int):Int×List Int:=((st.1*2 ^ n+d).fmod b,st.2++[(st.1*2 ^ n+d).fdiv b])
noncomputable def pE(b:Int)(n:Nat)(l:List Int):Int×List Int:=l.foldl (vL b n) (0,[])
theorem vM(b:Int)(n:Nat)(l:List Int)(d:Int):pE b n (l++[d])=vL b n (pE b n l) d:=by unfold pE;erw[List.foldl_append];rfl
theorem zR(b:Int)(n:Nat)(hb:0<b)(l:List Int):(∀d∈l,0≤d∧d<2 ^ n) →
  0≤(pE b n l).1∧(pE b n l).1<b∧(pE b n l).2.length=l.length∧(∀q∈(pE b n l).2,0≤q∧q<2 ^ n)∧valOf n l.reverse=valOf n (pE b n l).2.reverse*b+(pE b n l).1:=by
 suffices h:∀k,∀l:List Int,l.length=k→(∀d∈l,0≤d∧d<2 ^ n) →
  0≤(pE b n l).1∧(pE b n l).1<b∧(pE b n l).2.length=l.length∧(∀q∈(pE b n l).2,0≤q∧q<2 ^ n)∧valOf n l.reverse=valOf n (pE b n l).2.reverse*b+(pE b n l).1 from h _ l rfl
 intro k;induction k with
 | zero =>
  intro l hl _;have:=List.length_eq_zero_iff.mp hl;subst this;simp[pE,valOf,hb]
 | succ k ih =>
  intro l hl hd;have hne:l≠[]:=by intro z;(first|exact (aH (z ..) hl).elim|cases aJ (z ..) hl|(rw[z]at hl;(exfalso;injection hl)))
  obtain ⟨p,d,rfl⟩:∃p d,l=p++[d]:=⟨l.dropLast,l.getLast hne,(List.dropLast_concat_getLast hne).symm⟩;obtain ⟨i1,i2,i3,i4,i5⟩:=ih p (by simpa using hl) λx hx=>hd x (List.mem_append_left _ hx)
  have hdd:=hd d List.mem_concat_self;erw[vM];unfold vL;generalize pE b n p=st at *;obtain ⟨r,qs⟩:=st;simp only at *;have hp:(0:Int)<2 ^ n:=Int.pow_pos (by decide);have ht:0≤r*2 ^ n+d:=Int.add_nonneg (Int.mul_nonneg i1 (Int.le_of_lt hp)) hdd.1
  have ht2:r*2 ^ n+d<b*2 ^ n:=by
   have:(r+1)*2 ^ n≤b*2 ^ n:=Int.mul_le_mul_of_nonneg_right (Int.add_one_le_of_lt i2) (Int.le_of_lt hp);rw[Int.add_mul,Int.one_mul]at this;exact bQ 0 [] [_,_,_,_] [.ilt .p0 .p1,.ile (.a .p2 .p1) (.v (nat_lit 3))] (.ilt (.a .p2 .p0) (.v (nat_lit 3))) aB hdd.2 this
  erw[Int.fdiv_eq_ediv_of_nonneg _ (Int.le_of_lt hb),Int.fmod_eq_emod_of_nonneg _ (Int.le_of_lt hb)];refine⟨Int.emod_nonneg _ (Ne.symm (Int.ne_of_lt hb)),Int.emod_lt_of_pos _ hb,by simp[i3],?_,?_⟩
  ·intro q hq;rcases List.mem_append.mp hq with hq|hq
   ·exact i4 q hq
   ·rw[List.mem_singleton]at hq;subst hq;exact⟨Int.ediv_nonneg ht (Int.le_of_lt hb),Int.ediv_lt_of_lt_mul hb (by erw[Int.mul_comm ((2:Int) ^ n) b];exact ht2)⟩
  ·erw[List.reverse_append,List.reverse_append];simp only[List.reverse_cons,List.reverse_nil,List.nil_append,List.singleton_append,List.cons_append,valOf];erw[i5];have e:=Int.mul_ediv_add_emod (r*2 ^ n+d) b;erw[Int.add_mul,Int.mul_add];have e2:2 ^ n*(valOf n qs.reverse*b)=2 ^ n*valOf n qs.reverse*b:=(Int.mul_assoc ..).symm;have e3:b*((r*2 ^ n+d) / b)=(r*2 ^ n+d) / b*b:=Int.mul_comm ..;have e4:2 ^ n*r=r*2 ^ n:=Int.mul_comm ..;lia
structure DivEnv (C:Cx):Prop where
 N:iO C
 lim:∃t,C.mg "_DIV_LIMIT"=some (.int 4000 t)
 div:∃f,C.mg "_div2n1n"=some (.ref f)∧GFn C f (aQ 5)
 i2d:∃f c P,C.mg "_int2digits"=some (.ref f)∧GFnC C f (aQ 7) c "_int2digits"∧C.ct c P∧C.dq c aET="_int2digits.<locals>.inner"
 d2i:∃f c P,C.mg "_digits2int"=some (.ref f)∧GFnC C f (aQ 8) c "_digits2int"∧C.ct c P∧C.dq c aEU="_digits2int.<locals>.inner"
 dmp:∃f,C.mg "_divmod_pos"=some (.ref f)∧GFn C f (aQ 9)
 idm:∃f,C.mg "int_divmod"=some (.ref f)∧GFn C f (aQ 10)

theorem nG{k:Nat}{a b:Nat}(V:DivEnv C)(h:GFn C f (aQ 9))(hb:0<b)(hb2:b<2 ^ 30)(ha:a<2 ^ 30)
  (hq:Q (.tup [.int ((a / b:Nat):Int),.int ((a % b:Nat):Int)]) led):CallW C Y led (k+80) (.ref f) [.int a,.int b] Q:=by
 have N:=V.N;obtain ⟨t,hlim⟩:=V.lim;obtain ⟨f4,hm4,h4⟩:=V.div;obtain ⟨f6,c6,P6,hm6,h6,ct6,dq6⟩:=V.i2d;obtain ⟨f7,c7,P7,hm7,h7,ct7,dq7⟩:=V.d2i;refine CallW.less ?_;refine CallW.gfn h rfl [("a",.int a),("b",.int b)] rfl rfl λL cs q code=>?_
 walk_at "v";refine cQ (pl:=_) ?_;walk_at "v";refine⟨_,_,λY=>GetM.bitlen,?_⟩;walk_at "v"; intro _;refine KpK.blt ?_;walk_at "v"
 have hn:0<Builtin.Int.intBits (b:Int)∧Builtin.Int.intBits (b:Int)≤30:=by
  refine⟨?_,nR (by rw[Int.natAbs_natCast];exact hb2)⟩;unfold Builtin.Int.intBits;have:((b:Int) == 0)=false:=by simp;exact Nat.ne_zero_of_lt hb
  rw[this];simp
 generalize hnn:Builtin.Int.intBits (b:Int)=n at *;refine aI ?_;walk_at "v";refine Y1 (λ_ z9=>⟨h6.fn.keep,(nE (k:=k) N h6 ct6 dq6 hn.1 (by exact eJ hn.2 aB) (by exact lkc ha aB) z9).up (by exact bF [] (.le (.a .p0 (.k 70)) (.a .p0 (.k 79))) aB)⟩) ?_;walk_at "v";refine WE.listM ?_;walk_at "v";refine⟨by decide,λqd hqd=>?_⟩;walk_at "v";generalize hds:xS n a=ds
 have hdl:ds.length≤60∧n*ds.length≤60∧valOf n ds=a∧∀d∈ds,0≤d∧d<2 ^ n:=by
  subst hds;unfold xS;by_cases h0:a=0
  ·subst h0;simp[valOf]
  ·rw[if_neg h0];have hl:=aD2 hn.1 (by exact bF [.lt .p0 (.k 1073741824)] (.lt .p0 (.k 1152921504606846976)) aB ha:a<2 ^ 60) h0;have hia:Builtin.Int.intBits (a:Int)≤30:=nR (by rw[Int.natAbs_natCast];exact ha);generalize hcnt:(Builtin.Int.intBits (a:Int)+n - 1) / n=cnt at *;have h1:n*cnt≤Builtin.Int.intBits (a:Int)+n - 1:=by rw[← hcnt];exact Nat.mul_div_le ..
   have h2:Builtin.Int.intBits (a:Int)≤n*cnt:=by
    have:=Nat.lt_mul_div_succ (Builtin.Int.intBits (a:Int)+n - 1) hn.1;rw[hcnt,Nat.mul_add,Nat.mul_one]at this;exact Nat.le_of_add_le_add_right (Nat.le_of_pred_lt this)
   have hlt:a<2 ^ (n*cnt):=by
    have:a<2 ^ Builtin.Int.intBits (a:Int):=by
     unfold Builtin.Int.intBits;have hz:((a:Int) == 0)=false:=by simpa using h0
     rw[hz];simp only[Bool.false_eq_true,if_false,Int.natAbs_natCast];exact Nat.lt_log2_self
    exact Nat.lt_of_lt_of_le this (Nat.pow_le_pow_right (by decide) h2)
   rw[gE _ _ _ hl.1];exact⟨hl.2,Nat.le_trans h1 (Nat.le_trans (Nat.sub_le _ 1) (Nat.add_le_add hia (Nat.le_trans hn.2 (by decide:30≤30)))),aBI _ _ _ hl.1,xT _ _ _ hl.1 hlt⟩
 refine sE (λi=>[("a",.int a),("b",.int b),("n",.int n),("r",.int (pE b n (ds.reverse.take i)).1),("q_digits",.ref qd)]) (λi=>upd led qd (.list ((pE b n (ds.reverse.take i)).2.map .int))) ?_;refine aI ?_;walk_at "v";refine KcY.reversed λI hI=>?_
 refine⟨_,λY=>xK (aA ..),rfl,?_,λi x hx=>?_,?_⟩
 ·show del _ I=_
  rw[kS _ _ _ hI];rfl
 ·obtain ⟨d,hd,rfl⟩:∃d,ds.reverse[i]?=some d∧x=.int d:=by
   rw[← List.map_reverse,List.getElem?_map]at hx;cases hg:ds.reverse[i]? with
   | none=>(first|exact (aH (hg ..) hx).elim|cases aJ (hg ..) hx|(rw[hg]at hx;cases hx))
   | some d=>(first|exact (aH (hg ..) hx).elim|cases aJ (hg ..) hx|(rw[hg]at hx;cases hx));exact⟨d,rfl,rfl⟩
  have hil:i<ds.length:=by have:=(List.getElem?_eq_some_iff.mp hd).1;rwa [List.length_reverse]at this
  have hsub:∀d∈ds.reverse.take i,0≤d∧d<2 ^ n:=λd hd=>hdl.2.2.2 d (List.mem_reverse.mp (List.mem_of_mem_take hd))
  have hd2:=hdl.2.2.2 d (List.mem_reverse.mp (List.mem_of_getElem? hd));have V:=zR b n (Int.natCast_pos.mpr hb) (ds.reverse.take i) hsub
  have hst:pE b n (ds.reverse.take (i+1))=vL b n (pE b n (ds.reverse.take i)) d:=by
   rw[List.take_add_one,hd];exact vM ..
  rw[hst];unfold vL;generalize pE b n (ds.reverse.take i)=st at *;obtain ⟨r,qs⟩:=st;simp only at *;have v1:=V.1;have v2:=V.2.1;have v3:=V.2.2.1;have hp:(0:Int)<2 ^ n:=Int.pow_pos (by decide);have hp2:(2:Int) ^ n≤2 ^ 30:=by have:=Nat.pow_le_pow_right (n:=2) (by decide) hn.2;exact_mod_cast this
  have ht:0≤r*2 ^ n+d:=Int.add_nonneg (Int.mul_nonneg v1 (Int.le_of_lt hp)) hd2.1
  have ht2:r*2 ^ n+d<2 ^ 60:=by
   have h1:(r+1)*2 ^ n≤(b:Int)*2 ^ n:=Int.mul_le_mul_of_nonneg_right (by exact Int.add_one_le_of_lt v2) (Int.le_of_lt hp);have h2:(b:Int)*2 ^ n≤2 ^ 30*2 ^ n:=Int.mul_le_mul_of_nonneg_right (by exact bF [.lt .p0 (.k 1073741824)] (.ile (.c .p0) (.k 1073741824)) aB hb2) (Int.le_of_lt hp);have h3:(2:Int) ^ 30*2 ^ n≤2 ^ 30*2 ^ 30:=Int.mul_le_mul_of_nonneg_left hp2 (by decide);rw[Int.add_mul,Int.one_mul]at h1;exact Int.lt_of_lt_of_le (Int.add_lt_add_left hd2.2 _) (Int.le_trans h1 (Int.le_trans h2 (Int.le_trans h3 (by decide))))
  walk_at "v";refine aI ?_;walk_at "v";refine OpY.shl (by exact Int.natCast_nonneg n) (by exact bF [.le .p0 (.k 30)] (.ile (.c .p0) (.k 1000000)) aB hn.2) (by exact cF (nB [.lt .p0 (.k 1073741824),.ilt .p0 (.c .p0)] (.ilt .p0 (.c (.k 18446744073709551616))) aB hb2 V.2.1) (qE [.ile (.k 0) .p0] (.ilt (.g .p0) (.c (.k 18446744073709551616))) aB V.1)) ?_;rw[Int.toNat_natCast];walk_at "v"; intro _;refine⟨h4.keep,(sY (k:=k) N h4 hlim (by exact Int.natCast_ne_zero_iff_pos.mpr hb) (by exact cF (bF [.lt .p0 (.k 1073741824)] (.ilt (.c .p0) (.c (.k 18446744073709551616))) aB hb2) (bF [.lt (.k 0) .p0] (.ilt (.g (.c .p0)) (.c (.k 18446744073709551616))) aB hb)) ?_ ?_).up (by exact bF [] (.le (.a .p0 .k1) (.a .p0 (.k 79))) aB)⟩
  ·have:Builtin.Int.intBits (r*2 ^ n+d)≤60:=nR (by exact cF (kC [.ilt (.a .p0 .p1) (.k 1152921504606846976)] (.ilt (.a .p0 .p1) (.c (.k 1152921504606846976))) aB ht2) (kC [.ile (.k 0) (.a .p0 .p1)] (.ilt (.g (.a .p0 .p1)) (.c (.k 1152921504606846976))) aB ht));exact bC [.lt (.k 0) .p0,.le .p1 (.k 60)] (.ile (.s (.c .p1) (.c .p0)) (.k 4000)) aB hn.1 this
  walk_at "v";refine cQ (pl:=_) ?_;walk_at "v";refine⟨_,_,λY=>GetM.append (aA ..),?_⟩;walk_at "v";refine KcY.append (aA ..) (by rw[List.length_map,v3,List.length_take,List.length_reverse];exact Nat.le_trans (Nat.min_le_right ..) (Nat.le_trans hdl.1 (by decide))) ?_;refine⟨rfl,?_⟩;walk_at "v";refine⟨rfl,?_⟩;rw[dR,List.map_append];rfl
 ·have hlr:(ds.map D.int).reverse.length=ds.length:=by simp
  rw[hlr];have hsub:∀d∈ds.reverse,0≤d∧d<2 ^ n:=λd hd=>hdl.2.2.2 d (List.mem_reverse.mp hd)
  have V:=zR b n (Int.natCast_pos.mpr hb) ds.reverse hsub;have htk:ds.reverse.take ds.length=ds.reverse:=List.take_of_length_le (by simp);rw[htk];generalize pE b n ds.reverse=st at *;obtain ⟨r,qs⟩:=st;simp only at *;have v1:=V.1;have v2:=V.2.1;have v3:=V.2.2.1;have v4:=V.2.2.2.1;have v5:=V.2.2.2.2;rw[List.reverse_reverse,hdl.2.2.1]at v5;rw[List.length_reverse]at v3;walk_at "v";refine cQ (pl:=_) ?_;walk_at "v";refine⟨_,_,λY=>GetM.reverse (aA ..),?_⟩;walk_at "v";refine KcY.reverse (aA ..) (by rw[List.length_map,v3];exact eJ hdl.1 aB) ?_;refine⟨rfl,?_⟩;walk_at "v";refine aI ?_;refine sH (hx:=hm7) ?_;refine WL.cons ?_;refine WE.frz (rF ?_);refine⟨qd,_,rfl,aA ..,?_⟩;walk_at "v"; intro _;have hrev:(qs.map D.int).reverse=qs.reverse.map .int:=by rw[List.map_reverse]
  rw[hrev];refine⟨h7.fn.keep,(nF (k:=k) N h7 ct7 dq7 hn.1 (by exact eJ hn.2 aB) (λd hd=>v4 d (List.mem_reverse.mp hd)) (by rw[List.length_reverse,v3];exact eJ hdl.2.1 aB) ?_).up (by exact bF [] (.le (.a .p0 (.k 70)) (.a .p0 (.k 79))) aB)⟩;walk_at "v";refine⟨by exact Nat.le_of_ble_eq_true rfl,led,jB (((Less.refl led).upd hqd _).upd hqd _) hqd,?_⟩
  have e1:valOf n qs.reverse=((a / b:Nat):Int)∧r=((a % b:Nat):Int):=by
   have hbi:(0:Int)<(b:Int):=by exact bF [.lt (.k 0) .p0] (.ilt (.k 0) (.c .p0)) aB hb
   have hdm:=Int.ediv_emod_unique (a:=(a:Int)) (b:=(b:Int)) (r:=r) (q:=valOf n qs.reverse) hbi;have:=hdm.mpr ⟨by rw[v5,Int.mul_comm];exact Int.le_antisymm (kC [] (.ile (.a .p0 .p1) (.a .p1 .p0)) aB) (kC [] (.ile (.a .p0 .p1) (.a .p1 .p0)) aB),v1,v2⟩;rw[Int.natCast_ediv,Int.natCast_emod];exact⟨this.1.symm,this.2.symm⟩
  rw[e1.1,e1.2];exact hq
theorem tB(h:a<0):(-a - 1).natAbs≤a.natAbs:=by
 cases a with
 | ofNat n=>exact absurd h (Int.not_lt.mpr (Int.natCast_nonneg n))
 | negSucc n=>show ((n:Int)+1 - 1).natAbs≤n+1;erw[Int.add_sub_cancel,Int.natAbs_natCast];exact Nat.le_succ n
theorem eC(V:DivEnv C)(hm:C.mg "int_divmod"=some (.ref f))(h:GFn C f (aQ 10)):∀(m:Nat) {Y led:aF} {k:Nat} {a b:Int} {Q:D→aF→Prop},(if b<0 then 2 else 0)+(if a<0 then 1 else 0)<m →
  b≠0→b.natAbs<2 ^ 29→a.natAbs<2 ^ 29→Q (.tup [.int (a.fdiv b),.int (a.fmod b)]) led→CallW C Y led (k+81+m) (.ref f) [.int a,.int b] Q:=by
 intro m;obtain ⟨f8,hm8,h8⟩:=V.dmp;have N:=V.N;induction m with
 | zero=>intro Y led k a b Q hlt;lia
 | succ m ih =>
  intro Y led k a b Q hlt hb hb2 ha hq;refine CallW.gfn h rfl [("a",.int a),("b",.int b)] rfl rfl λL cs q code=>?_
  walk_at "v";refine⟨λh0=>absurd (by simpa using h0) hb,λ_=>?_⟩;walk_at "v";refine⟨λh1=>?_,λh1=>?_⟩
  ·have hbn:b<0:=by simpa using h1
   rw[if_pos hbn]at hlt;walk_at "v";refine aI ?_;walk_at "v"; intro _;refine⟨h.keep,(ih (k:=k) ?_ (Int.neg_ne_zero.mpr hb) (by rwa [Int.natAbs_neg]) (by rwa [Int.natAbs_neg]) ?_).up (Nat.le_refl (k+81+m))⟩
   ·erw[if_neg (by lia)];split<;>lia
   walk_at "v";refine⟨by exact Nat.le_of_ble_eq_true rfl,?_⟩;have e1:(-a).fdiv (-b)=a.fdiv b:=Int.neg_fdiv_neg ..;have e2:-((-a).fmod (-b))=a.fmod b:=by erw[Int.neg_fmod_neg,Int.neg_neg]
   erw[e1,e2];exact hq
  ·have hbn:¬b<0:=by simpa using h1
   walk_at "v";refine⟨λh2=>?_,λh2=>?_⟩
   ·have han:a<0:=by simpa using h2
    walk_at "v";refine aI ?_;walk_at "v"; intro _;refine⟨h.keep,(ih (k:=k) ?_ hb hb2 (Nat.lt_of_le_of_lt (tB han) ha) ?_).up (Nat.le_refl (k+81+m))⟩
    ·rw[if_pos han]at hlt;erw[if_neg (by lia:¬(-a - 1<0))];split<;>lia
    walk_at "v";refine⟨by exact Nat.le_of_ble_eq_true rfl,?_⟩;have hbp:0<b:=by lia
    have key:(-a - 1).fdiv b = -(a.fdiv b) - 1∧(-a - 1).fmod b=b - 1 - a.fmod b:=by
     erw[Int.fdiv_eq_ediv_of_nonneg _ (Int.le_of_lt hbp),Int.fmod_eq_emod_of_nonneg _ (Int.le_of_lt hbp),Int.fdiv_eq_ediv_of_nonneg _ (Int.le_of_lt hbp),Int.fmod_eq_emod_of_nonneg _ (Int.le_of_lt hbp)];have x1:=Int.mul_ediv_add_emod a b;have x2:=Int.emod_nonneg a (by exact Ne.symm (Int.ne_of_lt hbp):b≠0);have x3:=Int.emod_lt_of_pos a hbp;refine (Int.ediv_emod_unique hbp).mpr ⟨?_,by exact kC [.ilt .p0 .p1] (.ile (.k 0) (.s (.s .p1 (.k 1)) .p0)) aB x3,by exact kC [.ile (.k 0) .p0] (.ilt (.s (.s .p1 (.k 1)) .p0) .p1) aB x2⟩;erw[Int.mul_sub,Int.mul_neg];lia
    erw[key.1,key.2,show -(-(a.fdiv b) - 1) - 1=a.fdiv b by exact Int.le_antisymm (qE [] (.ile (.s (.g (.s (.g .p0) (.k 1))) (.k 1)) .p0) aB) (qE [] (.ile .p0 (.s (.g (.s (.g .p0) (.k 1))) (.k 1))) aB),show b+(-(b - 1 - a.fmod b) - 1)=a.fmod b by exact Int.le_antisymm (kC [] (.ile (.a .p0 (.s (.g (.s (.s .p0 (.k 1)) .p1)) (.k 1))) .p1) aB) (kC [] (.ile .p0 (.a .p1 (.s (.g (.s (.s .p1 (.k 1)) .p0)) (.k 1)))) aB)];exact hq
   ·have han:¬a<0:=by simpa using h2
    walk_at "v";refine aI ?_;walk_at "v"; intro _;obtain ⟨a',rfl⟩:=Int.eq_ofNat_of_zero_le (by exact Int.not_lt.mp han:0≤a);obtain ⟨b',rfl⟩:=Int.eq_ofNat_of_zero_le (by exact Int.not_lt.mp hbn:0≤b);refine⟨h8.keep,(nG (k:=k) V h8 (Nat.zero_lt_of_ne_zero λa=>hb (congrArg Nat.cast a)) (bC [.lt .p0 (.k 536870912),.ile (.c .p1) (.c .p0)] (.lt .p1 (.k 1073741824)) aB hb2 (Int.le_natAbs)) (bC [.lt .p0 (.k 536870912),.ile (.c .p1) (.c .p0)] (.lt .p1 (.k 1073741824)) aB ha (Int.le_natAbs)) ?_).up (show k+80≤k+81+m by exact bC [] (.le (.a .p0 (.k 80)) (.a (.a .p0 (.k 81)) .p1)) aB)⟩;have e1:(a':Int).fdiv (b':Int)=((a' / b':Nat):Int):=by erw[Int.fdiv_eq_ediv_of_nonneg _ (Int.natCast_nonneg b'),Int.natCast_ediv]
    have e2:(a':Int).fmod (b':Int)=((a' % b':Nat):Int):=by erw[Int.fmod_eq_emod_of_nonneg _ (Int.natCast_nonneg b'),Int.natCast_emod]
    rw[e1,e2]at hq;exact hq
set_option tactic.hygienic false
theorem aCS(led:aF)(h:led c=some m):upd (del led c) c m=led:=by
 funext a
 by_cases ha:a=c
 ·subst ha;erw[aA,h]
 ·erw[aG _ _ ha];unfold del;erw[if_neg ha]
noncomputable def body14:List Stmt:=fC (aQ 14)
noncomputable def xU:Stmt:=body14.getD 0 (.Pass ⟨0,0,0,0⟩)
noncomputable abbrev iS(c:Nat):D:=.str ⟨#[c]⟩
theorem aBJ(hc:cells.lookup ("page":Str)=some cp)(hf:cI sc=[("page":Str)]):CloOk (bS sc cells) (upd Y cp (.cell (some (.ref pg)))) [("page",.ref pg)]:=by
 refine⟨λx c e=>?_,λx y c ex ey=>?_,λx d e=>?_⟩
 ·(refine cL (cH e) λhx o1=>?_;subst o1)
  rw[hf,List.mem_singleton]at hx;subst hx;erw[hc];exact⟨_,aA ..⟩
 ·have hx_0:=cH ex;have hx:=hx_0.1;have hx_1:=cH ey;have hy:=hx_1.1;rw[hf,List.mem_singleton]at hx hy;erw[hx,hy]
 ·rw[List.lookup_cons]at e;by_cases hx:x="page"
  ·subst hx;simp at e;subst e;exact⟨cp,by erw[iA (by erw[hf];exact List.mem_singleton.mpr rfl),hc];rfl,aA ..⟩
  ·rw[beq_eq_false_iff_ne.mpr hx]at e;exact bN e

theorem aAV(hin:xU=.FunctionDef name args body [] none [] scope none name' pos)
  (hl:led rf=some (.fn dict fd)) (hi:FnIs fd args (.stmts body) scope (bS scope cells)) (hc:cells.lookup ("page":Str)=some cp) (hcp:led cp=some (.cell (some (.ref pg)))) (hpg:led pg=some (.list (text.map iS)))
  (hok:∀c∈text,c<0x110000) (hlen:text.length≤100000)
  (h1:∀c r,text=c::r→Q (iS c) (upd led pg (.list (r.map iS)))) (h2:text=[]→Q (.str "") led):CodeW C Y led (k+5) (.ref rf) [.int 1] Q:=by
 have hin':(body14.getD 0 (.Pass ⟨0,0,0,0⟩))=.FunctionDef name args body [] none [] scope none name' pos:=hin;cases hin';have hne:cp≠pg:=λz=>by subst z;(first|exact (aH (hcp ..) hpg).elim|cases aJ (hcp ..) hpg|(rw[hcp]at hpg;cases hpg))
 have hne2:rf≠cp:=λz=>by subst z;(first|exact (aH (hcp ..) hl).elim|cases aJ (hcp ..) hl|(rw[hcp]at hl;cases hl))
 have e:=aCS led hcp;erw[← e];have hd:∀{a m},a≠cp→led a=m→del led cp a=m:=λha hm=>by unfold del;erw[if_neg ha];exact hm
 refine xJ (by unfold del;erw[if_pos rfl]) (Q0:=λd led'=>led' cp=none→Q d (upd led' cp (.cell (some (.ref pg))))) ?_ λd led' q hn=>q hn
 have hpg':=hd hne.symm hpg;refine CodeW.nest (hd hne2 hl) hi [("size",.int 1)] rfl rfl [("page",.ref pg)] (aBJ hc (by with_unfolding_all rfl)) rfl λL' cs q code hcs=>?_
 walk_at "v";refine⟨λ_=>?_,λhx=>by cases hx⟩;walk_at "v";refine WE.list ?_;walk_at "v";refine⟨by exact Nat.zero_le _,?_⟩;walk_at "v"; intro _
 have hpure:∀t:List Nat,(∀c∈t,c<0x110000)→cE (t.map iS)=true:=by
  intro t;induction t with
  | nil=>intro _;rfl
  | cons c r ih =>
   intro h;show ((iS c).pure && cE (r.map iS))=true
   erw[ih λx hx=>h x (List.mem_cons_of_mem _ hx)];have:=h c List.mem_cons_self;show (PyData.strOk ⟨#[c]⟩ && true)=true
   simp[PyData.strOk,this]
 refine Op2.ne_ref (k:=k+3) hpg' (hpure _ hok) rfl (by decide) ?_;have hq:(!(D.lst (text.map iS)).eqv (.lst [])) = !text.isEmpty:=by cases text<;>rfl
 erw[hq];cases ht:text with
 | nil =>
  walk_at "v";refine⟨λhx=>by simp at hx,λ_=>?_⟩;refine⟨λhx=>(by cases hx),λ_=>?_⟩;walk_at "v";intro hn;erw[e];exact h2 ht
 | cons c r =>
  walk_at "v";refine⟨λ_=>?_,λhx=>by simp at hx⟩;walk_at "v";refine⟨λ_=>?_,λhx=>by cases hx⟩;refine cQ (pl:=_) ?_;walk_at "v";refine⟨_,_,λY=>GetM.pop hpg',?_⟩;walk_at "v";refine KcY.pop_at hpg' (by simp;exact eJ hlen aB) (Int.zero_le_ofNat 0) (d:=iS c) (by erw[ht];rfl) ?_;intro hn;erw[ht];have:=h1 c r ht;rw[← e]at this;rw[eY _ _ _ hne]at this;exact this
set_option tactic.hygienic false
structure LxA where
 x:Addr
 dx:Addr
 st:Addr
 sd:Addr
 rf:Addr
 cp:Addr
 pg:Addr
 pb:Addr
noncomputable def wsp:Str:="\n\t\r "
noncomputable def gF(A:LxA)(line:Int):List (Str×D):=[("lineno",.int line),("instream",.ref A.st),("whitespace",.str wsp),("pushback",.ref A.pb)]
noncomputable def lexL(B:aF)(A:LxA)(line:Int)(text:List Nat)(pbk:List D):aF:=upd (upd (upd B A.dx (.ns1 (gF A line))) A.pg (.list (text.map iS))) A.pb (.list pbk)
structure LexOk (B:aF) (A:LxA) (cl:Addr):Prop where
 nd:[A.x,A.dx,A.st,A.sd,A.rf,A.cp,A.pg,A.pb].Nodup
 x:B A.x=some (.obj cl A.dx)
 st:∃fd,B A.st=some (.fn (some A.sd) fd)
 sd:B A.sd=some (.ns1 [("read",.ref A.rf)])
 rf:∃fd cells args body scope name name' pos,B A.rf=some (.fn none fd)∧xU=.FunctionDef name args body [] none [] scope none name' pos∧FnIs fd args (.stmts body) scope (bS scope cells)∧cells.lookup ("page":Str)=some A.cp
 cp:B A.cp=some (.cell (some (.ref A.pg)))
section
variable {B:aF} {A:LxA} {cl:Addr} {line line':Int} {text text':List Nat} {pbk pbk':List D}
theorem LexOk.far(h:LexOk B A cl)(i j:Nat)(hi:[A.x,A.dx,A.st,A.sd,A.rf,A.cp,A.pg,A.pb][i]?=some a)(hj:[A.x,A.dx,A.st,A.sd,A.rf,A.cp,A.pg,A.pb][j]?=some b)(hij:i≠j):a≠b:=λe =>
 hij ((List.getElem?_inj (List.getElem?_eq_some_iff.mp hi).1 h.nd).mp (by erw[hi,hj,e]))
theorem eD(h:LexOk B A cl)(h1:a≠A.dx)(h2:a≠A.pg)(h3:a≠A.pb):lexL B A line text pbk a=B a:=by
 unfold lexL;erw[aG _ _ h3,aG _ _ h2,aG _ _ h1]
theorem eT(h:LexOk B A cl)(i:Nat)(hi:[A.x,A.dx,A.st,A.sd,A.rf,A.cp,A.pg,A.pb][i]?=some a)(n1:i≠1)(n2:i≠6)(n3:i≠7):lexL B A line text pbk a=B a :=
 eD h (h.far i 1 hi rfl n1) (h.far i 6 hi rfl n2) (h.far i 7 hi rfl n3)
theorem eL:lexL B A line text pbk A.pb=some (.list pbk):=aA ..
theorem iG(h:LexOk B A cl):lexL B A line text pbk A.pg=some (.list (text.map iS)):=by
 unfold lexL;erw[aG _ _ (h.far 6 7 rfl rfl (by decide)),aA]
theorem cG(h:LexOk B A cl):lexL B A line text pbk A.dx=some (.ns1 (gF A line)):=by
 unfold lexL;erw[aG _ _ (h.far 1 7 rfl rfl (by decide)),aG _ _ (h.far 1 6 rfl rfl (by decide)),aA]
theorem eU(h:LexOk B A cl):lexL B A line text pbk A.x=some (.obj cl A.dx):=by
 erw[eT h 0 rfl (by decide) (by decide) (by decide)];exact h.x
theorem mT:upd (lexL B A line text pbk) A.pb (.list pbk')=lexL B A line text pbk':=dR ..
theorem vN(h:LexOk B A cl):upd (lexL B A line text pbk) A.pg (.list (text'.map iS))=lexL B A line text' pbk:=by
 unfold lexL;erw[eY _ _ _ (h.far 7 6 rfl rfl (by decide)),dR]
theorem vO(h:LexOk B A cl):upd (lexL B A line text pbk) A.dx (.ns1 (gF A line'))=lexL B A line' text pbk:=by
 unfold lexL;erw[eY _ _ _ (h.far 7 1 rfl rfl (by decide)),eY _ _ _ (h.far 6 1 rfl rfl (by decide)),dR]
end
noncomputable def eS(n:Nat):Stmt:=jA n (fC (aQ 12))
structure Meth (C:Cx) (mN:Str→Option Value) (name:Str) (st:Stmt) (f:Addr):Prop where
 at_:mN name=some (.ref f)
 fn:GFn C f st
 obj:∃o,C.h₀.get? f=some o∧o.cls=.type "function"∧¬C.tab f
structure NetEnv (C:Cx) (cl:Addr) (mN:Str→Option Value):Prop where
 cls:GCls C cl mN
 init:∃f,Meth C mN "__init__" (eS 0) f
 rc:∃f,Meth C mN "_read_char" (eS 1) f
 gt:∃f,Meth C mN "get_token" (eS 2) f
 pt:∃f,Meth C mN "push_token" (eS 3) f
 n1:mN "lineno"=none
 n2:mN "instream"=none
 n3:mN "whitespace"=none
 n4:mN "pushback"=none
theorem ol1:typeLookup (.type "object") ("lineno":Str)=pure none:=by erw[typeLookup_type,builtinLookup_eq_fast];kernel_rfl
theorem ol2:typeLookup (.type "object") ("instream":Str)=pure none:=by erw[typeLookup_type,builtinLookup_eq_fast];kernel_rfl
theorem ol3:typeLookup (.type "object") ("whitespace":Str)=pure none:=by erw[typeLookup_type,builtinLookup_eq_fast];kernel_rfl
theorem ol4:typeLookup (.type "object") ("pushback":Str)=pure none:=by erw[typeLookup_type,builtinLookup_eq_fast];kernel_rfl
theorem ol5:typeLookup (.type "object") ("_read_char":Str)=pure none:=by erw[typeLookup_type,builtinLookup_eq_fast];kernel_rfl
theorem ol6:typeLookup (.type "object") ("get_token":Str)=pure none:=by erw[typeLookup_type,builtinLookup_eq_fast];kernel_rfl
theorem ol7:typeLookup (.type "object") ("push_token":Str)=pure none:=by erw[typeLookup_type,builtinLookup_eq_fast];kernel_rfl
theorem fl1:typeLookup (.type "function") ("read":Str)=pure none:=by erw[typeLookup_type,builtinLookup_eq_fast];kernel_rfl
theorem aD3(c:Nat):((⟨#[c]⟩:Str) == ("\n":Str))=(c == 10):=by
 have e:("\n":Str)=⟨#[10]⟩:=by decide +kernel
 erw[e];by_cases h:c=10
 ·subst h;rfl
 ·have h1:(c == 10)=false:=beq_eq_false_iff_ne.mpr h;erw[h1];exact beq_eq_false_iff_ne.mpr λz=>h (by injection z with z;simpa using z)
noncomputable def aM(line:Int)(c:Nat):Int:=if c == 10 then line+1 else line
theorem aD4(h:(c == 10)=true):aM line c=line+1:=if_pos h
theorem aD5(h:(c == 10)=false):aM line c=line:=if_neg (by erw[h];decide)
theorem eM(E:NetEnv C cl mN)(hf:GFn C f (eS 1))(L:LexOk B A cl)
  (hok:∀c∈text,c<0x110000) (hlen:text.length≤100000)
  (h1:∀c r,text=c::r→Q (iS c) (lexL B A (aM line c) r pbk)) (h2:text=[]→Q (.str "") (lexL B A line text pbk)):CodeW C Y (lexL B A line text pbk) (k+6) (.ref f) [.ref A.x] Q:=by
 refine aN L.st λfds hst=>?_
 obtain ⟨fdr,cells,args,body,scope,nm,nm',pos,hrf,hin,hi,hce⟩:=L.rf;refine CodeW.gfn hf rfl [("self",.ref A.x)] rfl rfl λL' cs q code=>?_
 refine WS.cons (WS.assign (aEQ (pl:=_) ?_));walk_at "v";refine GaY.inst E.cls (eU L) (cG L) E.n2 ol2 rfl (λ_ z=>by (exfalso;injection z)) ?_;refine⟨.ref A.rf,λY=>uS (by erw[eT L 2 rfl (by decide) (by decide) (by decide)];exact hst) (by erw[eT L 3 rfl (by decide) (by decide) (by decide)];exact L.sd) fl1 rfl (λ_ z=>by (exfalso;injection z)),?_⟩;walk_at "v"; intro _;refine⟨KeepOk.fn (cC (by erw[eT L 4 rfl (by decide) (by decide) (by decide)];exact hrf)),(aAV (k:=k) hin (by erw[eT L 4 rfl (by decide) (by decide) (by decide)];exact hrf) hi hce (by erw[eT L 5 rfl (by decide) (by decide) (by decide)];exact L.cp) (iG L) hok hlen ?_ ?_).call⟩
 ·intro c r ht;erw[vN L];walk_at "v";erw[aD3];refine⟨λhc=>?_,λhc=>?_⟩
  ·walk_at "v";refine GaY.inst E.cls (eU L) (cG L) E.n1 ol1 rfl (λ_ z=>by (exfalso;injection z)) ?_;walk_at "v";refine SaY.inst E.cls (eU L) (cG L) E.n1 ol1 (Nat.le_of_ble_eq_true rfl) ?_;erw[show uQ (gF A line) "lineno" (.int (line+1))=gF A (line+1) from rfl,vO L];walk_at "v";exact (congrArg (λl=>Q (iS c) (lexL B A l r pbk)) (aD4 hc)).mp (h1 c r ht)
  ·walk_at "v";exact (congrArg (λl=>Q (iS c) (lexL B A l r pbk)) (aD5 hc)).mp (h1 c r ht)
 ·intro ht;subst ht;walk_at "v";refine⟨λhc=>absurd hc (by decide +kernel),λhc=>?_⟩;walk_at "v";exact h2 rfl
set_option tactic.hygienic false
theorem GFn.callable{a:Addr}{st:Stmt}(h:GFn C a st):∃fd,∀Y led,Callable C Y led a fd:=by
 (refine aL h ?_;clear h;intro fd h _)
 exact⟨fd,h⟩

noncomputable def alph:List Nat:=[97,34,92,32,10,35,9,13,46]
noncomputable def lY(c:Nat):Bool:=[10,9,13,32].contains c
theorem aDp:∀c∈alph,Txt.contains wsp ⟨#[c]⟩=lY c:=by decide +kernel
theorem aEW:∀c∈alph,((⟨#[c]⟩:Str) == ("\"":Str))=(c == 34):=by decide +kernel
theorem aD6:∀c∈alph,((⟨#[c]⟩:Str) == ("\\":Str))=(c == 92):=by decide +kernel
noncomputable abbrev mk(l:List Nat):Str:=⟨l.toArray⟩
noncomputable def quoted:List Nat→Int→List Nat→List Nat×List Nat×Int
 | [],line,tok=>(tok,[],line)
 | c::r,line,tok =>
  if c == 34 then (tok,r,aM line c)
  else if c == 92 then
   match r with
   | []=>(tok,[],aM line c)
   | c2::r2=>quoted r2 (aM (aM line c) c2) (tok++[c2])
  else quoted r (aM line c) (tok++[c])
noncomputable def bare:List Nat→Int→List Nat→List Nat×List Nat×Int
 | [],line,tok=>(tok,[],line)
 | c::r,line,tok =>
  if lY c then (tok,r,aM line c)
  else if c == 92 then
   match r with
   | []=>(tok,[],aM line c)
   | c2::r2=>bare r2 (aM (aM line c) c2) (tok++[c2])
  else bare r (aM line c) (tok++[c])
noncomputable def getTok:List Nat→Int→List Nat×List Nat×Int
 | [],line=>([],[],line)
 | c::r,line =>
  if lY c then getTok r (aM line c)
  else if c == 34 then quoted r (aM line c) []
  else if c == 92 then
   match r with
   | []=>([],[],aM line c)
   | c2::r2=>bare r2 (aM (aM line c) c2) [c2]
  else bare r (aM line c) [c]
theorem gG(c:Nat)(r:List Nat)(line:Int)(tok:List Nat):quoted (c::r) line tok=if c == 34 then (tok,r,aM line c) else if c == 92 then
   match r with
   | []=>(tok,[],aM line c)
   | c2::r2=>quoted r2 (aM (aM line c) c2) (tok++[c2])
  else quoted r (aM line c) (tok++[c]):=by rw[quoted.eq_def]
theorem jP(c:Nat)(r:List Nat)(line:Int)(tok:List Nat):bare (c::r) line tok=if lY c then (tok,r,aM line c) else if c == 92 then
   match r with
   | []=>(tok,[],aM line c)
   | c2::r2=>bare r2 (aM (aM line c) c2) (tok++[c2])
  else bare r (aM line c) (tok++[c]):=by rw[bare.eq_def]
theorem dC(c:Nat)(r:List Nat)(line:Int):getTok (c::r) line=if lY c then getTok r (aM line c)
  else if c == 34 then quoted r (aM line c) []
  else if c == 92 then
   match r with
   | []=>([],[],aM line c)
   | c2::r2=>bare r2 (aM (aM line c) c2) [c2]
  else bare r (aM line c) [c]:=by rw[getTok.eq_def]
noncomputable abbrev xV(A:LxA)(I:Addr)(tok:List Nat):aD:=[("self",D.ref A.x),("token",D.str (mk tok)),("fiter",D.ref I)]
noncomputable abbrev cIt(f x:Addr):M:=.flds "callable_iterator" [.meth f x,.str "",.bool false]
theorem LexOk.put(L:LexOk B A cl)(hI:B I=none)(m:M):LexOk (upd B I m) A cl:=by
 have k:∀{a m'},B a=some m'→upd B I m a=some m':=λ{a m'} e=>by erw[aG _ _ (λz=>by subst z;(first|exact (aH (hI ..) e).elim|cases aJ (hI ..) e|(rw[hI]at e;cases e)))];exact e
 refine aN L.st λfd h2=>?_
 obtain ⟨fdr,cells,args,body,scope,nm,nm',pos,hrf,hr⟩:=L.rf;exact⟨L.nd,k L.x,⟨fd,k h2⟩,k L.sd,⟨fdr,cells,args,body,scope,nm,nm',pos,k hrf,hr⟩,k L.cp⟩
theorem gT(h1:I≠A.dx)(h2:I≠A.pg)(h3:I≠A.pb)(m:M):upd (lexL B A line text pbk) I m=lexL (upd B I m) A line text pbk:=by
 unfold lexL;erw[eY _ _ _ h3.symm,eY _ _ _ h2.symm,eY _ _ _ h1.symm]
theorem jQ(c:Nat)(h:tok.length≤200000):(mk tok).length+(⟨#[c]⟩:Str).length≤10000000:=by
 show tok.toArray.size+1≤_
 erw[List.size_toArray];exact bF [.le .p0 (.k 200000)] (.le (.a .p0 .k1) (.k 10000000)) aB h
theorem pF(h:tok.length≤200000):(mk tok).length+("":Str).length≤10000000:=by
 show tok.toArray.size+0≤_
 erw[List.size_toArray];exact bF [.le .p0 (.k 200000)] (.le (.a .p0 (.k 0)) (.k 10000000)) aB h
theorem iH(tok:List Nat)(c:Nat):mk tok++(⟨#[c]⟩:Str)=mk (tok++[c]):=by
 show (⟨tok.toArray++#[c]⟩:Str)=⟨(tok++[c]).toArray⟩
 simp
theorem xW(tok:List Nat):mk tok++("":Str)=mk tok:=by
 show (⟨tok.toArray++(Str.ofString "").cps⟩:Str)=⟨tok.toArray⟩
 have e:(Str.ofString "").cps=#[]:=by decide +kernel
 erw[e,Array.append_empty]
theorem pG{k:Nat}{st:Stmt}{rest:List Stmt}{Q:Fl→aD→aF→Prop}(Mid:aD→aF→Prop)(h1:WS C led fe vs k (exec st fe.env) λfl vs led=>fl=.next∧Mid vs led)
  (h2:∀vs led,Mid vs led→WS C led fe vs k (execs rest fe.env) Q):WS C led fe vs k (execs (st::rest) fe.env) Q :=
 WS.cons (h1.mono λfl vs led ⟨e,m⟩=>by subst e;exact h2 vs led m)
theorem lZ(E:NetEnv C cl mN)(hf:GFn C frc (eS 1))(L:LexOk B A cl)
  (hBI:B I=none) (i1:I≠A.dx) (i2:I≠A.pg) (i3:I≠A.pb) (hok:∀c∈t,c<0x110000) (hlen:t.length≤100000)
  (h0:t=[]→P none (lexL (upd B I iD) A l [] [])) (hc:∀c r,t=c::r→P (some (iS c)) (lexL (upd B I (cIt frc A.x)) A (aM l c) r [])) :
  NextW C Y (lexL (upd B I (cIt frc A.x)) A l t []) (k+7) I P:=by
 have L1:=L.put hBI (cIt frc A.x);refine aN hf.callable λfd hcal=>?_
 have hI:∀l t,lexL (upd B I (cIt frc A.x)) A l t [] I=some (cIt frc A.x):=λl t=>by erw[eD L1 i1 i2 i3,aA]
 refine uW (hI _ _) (hcal _ _) (eM E hf L1 hok hlen (λc r ht=>?_) λht=>?_)
 ·exact⟨⟨#[c]⟩,rfl,by erw[hI,hI],hcal _ _,λz=>absurd z (by intro z;(injection z with e1;injection e1 with e2;exact aDi e2)),λ_=>hc c r ht⟩
 ·subst ht;refine⟨"",rfl,rfl,hcal _ _,λ_=>?_,λz=>absurd rfl z⟩;erw[gT i1 i2 i3,dR];exact h0 rfl
inductive GtI (text:List Nat) (line:Int) (A:LxA) (I:Addr) (B:aF) (frc:Addr):Nat→aD→aF→Prop
 | run (t:List Nat) (l:Int):getTok t l=getTok text line→(∀c∈t,c∈alph)→t.length≤text.length→GtI text line A I B frc (t.length+1) (xV A I []) (lexL (upd B I (cIt frc A.x)) A l t [])
 | fin (tok:List Nat) (l:Int):getTok text line=(tok,[],l)→GtI text line A I B frc 0 (xV A I tok) (lexL (upd B I iD) A l [] [])
inductive GtL (F:List Nat→Int→List Nat→List Nat×List Nat×Int) (text:List Nat) (line:Int) (A:LxA) (I:Addr) (B:aF) (frc:Addr):Nat→aD→aF→Prop
 | mk (tok t:List Nat) (l:Int):F t l tok=getTok text line→(∀c∈t,c∈alph)→t.length≤text.length→tok.length+t.length≤text.length→GtL F text line A I B frc (t.length+1) (xV A I tok) (lexL (upd B I (cIt frc A.x)) A l t [])
inductive GtM (text:List Nat) (line:Int) (A:LxA) (I:Addr) (B:aF) (frc:Addr) (vs:aD):aF→Prop
 | mk (s:Str) (tok t:List Nat) (l:Int):Sub [("self",.ref A.x),("token",.str (mk [])),("fiter",.ref I),("ch",.str s)] vs→mk []++s=mk tok→(mk []).length+s.length≤10000000→bare t l tok=getTok text line→(∀c∈t,c∈alph)→t.length≤text.length →
   tok.length+t.length≤text.length→GtM text line A I B frc vs (lexL (upd B I (cIt frc A.x)) A l t [])
set_option maxHeartbeats 4000000 in
theorem pH(N:iO C)(E:NetEnv C cl mN)(hf:GFn C f (eS 2))(L:LexOk B A cl)
  (hok:∀c∈text,c∈alph) (hlen:text.length≤100000) (hpl:pbk.length≤100000)
  (h1:∀d r,pbk=d::r→Q d (lexL B A line text r)) (h2:pbk=[]→Q (.str (mk (getTok text line).1)) (lexL B A (getTok text line).2.2 (getTok text line).2.1 [])):CallW C Y (lexL B A line text pbk) (k+10) (.ref f) [.ref A.x] Q:=by
 refine aN E.rc λfrc mrc=>?_
 refine cZ mrc.obj λorc ho1 ho2 ho3=>?_
 refine CallW.less ?_;refine (CodeW.gfn hf rfl [("self",.ref A.x)] rfl rfl λL' cs q code=>?_).call;walk_at "v";refine GaY.inst E.cls (eU L) (cG L) E.n4 ol4 rfl (λ_ z=>by (exfalso;injection z)) ?_;intro Y;refine Tru.ref eL (eJ hpl aB) ?_;refine⟨λhp=>?_,λhp=>?_⟩
 ·cases hpb:pbk with
  | nil=>subst hpb;simp at hp
  | cons d r =>
   subst hpb;walk_at "v";refine cQ (pl:=_) ?_;walk_at "v";refine GaY.inst E.cls (eU L) (cG L) E.n4 ol4 rfl (λ_ z=>by (exfalso;injection z)) ?_;refine⟨_,_,λY=>GetM.pop eL,?_⟩;walk_at "v";refine KcY.pop_at eL (eJ hpl aB) (Int.zero_le_ofNat 0) rfl ?_;erw[mT];exact⟨_,Less.refl _,h1 d r rfl⟩
 ·have hpb:pbk=[]:=by cases pbk with|nil=>rfl|cons=>simp at hp
  subst hpb;walk_at "v";refine aI ?_;walk_at "v";refine GaY.bound E.cls (eU L) (cG L) mrc.at_ ho1 ho3 ho2 ol5 rfl (by decide +kernel) ?_;walk_at "v";refine KcY.iter2 λI hI=>?_
  have i1:I≠A.dx:=λz=>by subst z;(first|exact (aH (cG L ..) hI).elim|cases aJ (cG L ..) hI|(rw[cG L]at hI;exact dN hI))
  have i2:I≠A.pg:=λz=>by subst z;(first|exact (aH (iG L ..) hI).elim|cases aJ (iG L ..) hI|(rw[iG L]at hI;exact dN hI))
  have i3:I≠A.pb:=λz=>by subst z;(first|exact (aH (eL ..) hI).elim|cases aJ (eL ..) hI|(rw[eL]at hI;exact dN hI))
  have hBI:B I=none:=by rw[eD L i1 i2 i3]at hI;exact hI
  erw[gT i1 i2 i3];walk_at "v";have alph_lt:∀c∈alph,c<0x110000:=by decide
  refine sN (GtI text line A I B frc) (text.length+1) ?_;walk_at "v";refine⟨⟨_,_,(),_,by erw[eD (L.put hBI _) i1 i2 i3,aA],rfl⟩,⟨xV A I [],rfl,.run text line rfl hok (Nat.le_refl _)⟩,?_⟩;intro n vs2 led2 hI Y;cases hI with
  | run t l hg hal htl =>
   refine (lZ (k:=k+2) E mrc.fn L hBI i1 i2 i3 (λc hc=>alph_lt c (hal c hc)) (Nat.le_trans htl hlen) ?_ ?_)
   ·intro ht;subst ht;walk_at "v";have hg':getTok text line=([],[],l):=hg.symm;rw[hg']at h2;exact⟨_,(gT i1 i2 i3 _▸(Less.refl _).upd (by erw[eD L i1 i2 i3];exact hBI) _),h2 rfl⟩
   ·intro c r ht;subst ht;have hca:=hal c List.mem_cons_self;have har:∀c∈r,c∈alph:=λx hx=>hal x (List.mem_cons_of_mem _ hx)
    walk_at "v";refine GaY.inst E.cls (eU (L.put hBI _)) (cG (L.put hBI _)) E.n3 ol3 rfl (λ_ z=>by (exfalso;injection z)) ?_;refine OpY.ins ?_;erw[aDp c hca];walk_at "v";refine⟨λhw=>?_,λhw=>?_⟩
    ·walk_at "v";refine⟨r.length+1,xV A I [],by exact Nat.le_refl _,rfl,.run r (aM l c) ?_ har (by simp at htl;exact Nat.le_of_succ_le htl)⟩;erw[← hg,dC,if_pos hw]
    ·walk_at "v";erw[aEW c hca];refine⟨λhq=>?_,λhq=>?_⟩
     ·walk_at "v";rw[dC,if_neg (by erw[hw];decide),if_pos hq]at hg;refine sN (GtL quoted text line A I B frc) (r.length+1) ?_;walk_at "v";refine⟨⟨_,_,(),_,by erw[eD (L.put hBI _) i1 i2 i3,aA],rfl⟩,⟨xV A I [],rfl,.mk [] r (aM l c) hg har (by simp at htl;exact Nat.le_of_succ_le htl) (by simp at htl ⊢;exact Nat.le_of_succ_le htl)⟩,?_⟩;clear hg hal htl hca har hq hw;intro n vs2 led2 hI Y;cases hI with|mk tok t l hg hal htl htk =>
      refine (lZ (k:=k+2) E mrc.fn L hBI i1 i2 i3 (λc hc=>alph_lt c (hal c hc)) (Nat.le_trans htl hlen) ?_ ?_)
      ·intro ht;subst ht;walk_at "v";exact⟨0,xV A I tok,by exact Nat.zero_lt_succ (c::r).length,rfl,.fin tok l hg.symm⟩
      ·intro c r ht;subst ht;have hca:=hal c List.mem_cons_self;have har:∀c∈r,c∈alph:=λx hx=>hal x (List.mem_cons_of_mem _ hx)
       rw[gG]at hg;walk_at "v";erw[aEW c hca];refine⟨λhq=>?_,λhq=>?_⟩
       ·rw[if_pos hq]at hg;walk_at "v";rw[← hg]at h2;exact⟨_,(gT i1 i2 i3 _▸(Less.refl _).upd (by erw[eD L i1 i2 i3];exact hBI) _),h2 rfl⟩
       ·rw[if_neg (by erw[hq];decide)]at hg;walk_at "v";erw[aD6 c hca];refine⟨λhb=>?_,λhb=>?_⟩
        ·rw[if_pos hb]at hg;walk_at "v";refine cQ (pl:=_) ?_;walk_at "v";refine⟨_,_,λY=>GetM.inst E.cls (eU (L.put hBI _)) (cG (L.put hBI _)) mrc.at_ ho1 ho3 ho2 ol5 rfl,?_⟩;walk_at "v"; intro _;refine⟨mrc.fn.keep,(eM (k:=k+3) E mrc.fn (L.put hBI _) (λc hc=>alph_lt c (har c hc)) (by simp at htl;exact bC [.le .p0 (.k 100000),.le (.a .p1 .k1) .p0] (.le .p1 (.k 100000)) aB hlen htl) ?_ ?_).call⟩
         ·intro c2 r2 ht;subst ht;walk_at "v";refine OpY.iadds ?_ (jQ c2 (by simp at htk;exact eF [.le .p0 (.k 100000),.le (.a .p1 (.a (.a .p2 .k1) .k1)) .p0] (.le .p1 (.k 200000)) aB hlen htk));erw[iH];walk_at "v";exact⟨r2.length+1,xV A I (tok++[c2]),by simp,rfl,.mk (tok++[c2]) r2 (aM (aM l c) c2) hg (λx hx=>har x (List.mem_cons_of_mem _ hx)) (by simp at htl;exact bC [.le (.a (.a .p0 .k1) .k1) .p1] (.le .p0 .p1) aB htl) (by simp at htk ⊢;exact eF [.le (.a .p0 (.a (.a .p1 .k1) .k1)) .p2] (.le (.a (.a .p0 .k1) .p1) .p2) aB htk)⟩
         ·intro ht;subst ht;walk_at "v";refine OpY.iadds ?_ (pF (by simp at htk;exact bC [.le .p0 (.k 100000),.le (.a .p1 .k1) .p0] (.le .p1 (.k 200000)) aB hlen htk));erw[xW];walk_at "v";exact⟨1,xV A I tok,by exact Nat.le_refl _,rfl,.mk tok [] (aM l c) hg (λx hx=>(by cases hx)) (Nat.zero_le _) (by simp at htk ⊢;exact Nat.le_of_succ_le htk)⟩
        ·rw[if_neg (by erw[hb];decide)]at hg;walk_at "v";refine OpY.iadds ?_ (jQ c (by simp at htk;exact eF [.le .p0 (.k 100000),.le (.a .p1 (.a .p2 .k1)) .p0] (.le .p1 (.k 200000)) aB hlen htk));erw[iH];walk_at "v";exact⟨r.length+1,xV A I (tok++[c]),by exact Nat.le_refl _,rfl,.mk (tok++[c]) r (aM l c) hg har (by simp at htl;exact Nat.le_of_succ_le htl) (by simp at htk ⊢;exact eF [.le (.a .p0 (.a .p1 .k1)) .p2] (.le (.a (.a .p0 .k1) .p1) .p2) aB htk)⟩
     ·rw[dC,if_neg (by erw[hw];decide),if_neg (by erw[hq];decide)]at hg;refine pG (GtM text line A I B frc) ?_ ?_
      ·walk_at "v";erw[aD6 c hca];refine⟨λhb=>?_,λhb=>?_⟩
       ·rw[if_pos hb]at hg;walk_at "v";refine cQ (pl:=_) ?_;walk_at "v";refine⟨_,_,λY=>GetM.inst E.cls (eU (L.put hBI _)) (cG (L.put hBI _)) mrc.at_ ho1 ho3 ho2 ol5 rfl,?_⟩;walk_at "v"; intro _;refine⟨mrc.fn.keep,(eM (k:=k+3) E mrc.fn (L.put hBI _) (λc hc=>alph_lt c (har c hc)) (by simp at htl;exact bC [.le .p0 (.k 100000),.le (.a .p1 .k1) .p0] (.le .p1 (.k 100000)) aB hlen htl) ?_ ?_).call⟩
        ·intro c2 r2 ht;subst ht;walk_at "v";exact⟨rfl,.mk ⟨#[c2]⟩ [c2] r2 (aM (aM l c) c2) rfl (iH [] c2) (jQ c2 (Nat.zero_le _)) hg (λx hx=>har x (List.mem_cons_of_mem _ hx)) (by simp at htl;exact bC [.le (.a (.a .p0 .k1) .k1) .p1] (.le .p0 .p1) aB htl) (by simp at htl ⊢;exact bC [.le (.a (.a .p0 .k1) .k1) .p1] (.le (.a .k1 .p0) .p1) aB htl)⟩
        ·intro ht;subst ht;walk_at "v";exact⟨rfl,.mk "" [] [] (aM l c) rfl (xW []) (pF (Nat.zero_le _)) hg (λx hx=>(by cases hx)) (Nat.zero_le _) (Nat.zero_le _)⟩
       ·rw[if_neg (by erw[hb];decide)]at hg;walk_at "v";exact⟨rfl,.mk ⟨#[c]⟩ [c] r (aM l c) rfl (iH [] c) (jQ c (Nat.zero_le _)) hg har (by simp at htl;exact Nat.le_of_succ_le htl) (by simp at htl ⊢;exact Nat.one_add_le_iff.mpr htl)⟩
      ·clear hg hal htl hca har hq hw;intro vs2 led2 hM;cases hM with|mk s tok t l hsub hs hsl hg hal htl htk =>
       refine WS.sub ?_ hsub;walk_at "v";refine OpY.iadds ?_ hsl;erw[hs];walk_at "v";refine sN (GtL bare text line A I B frc) (t.length+1) ?_;walk_at "v";refine⟨⟨_,_,(),_,by erw[eD (L.put hBI _) i1 i2 i3,aA],rfl⟩,⟨xV A I tok,rfl,.mk tok t l hg hal htl htk⟩,?_⟩;clear hg hal htl htk hs hsub hsl;intro n vs2 led2 hI Y;cases hI with|mk tok t l hg hal htl htk =>
       refine (lZ (k:=k+2) E mrc.fn L hBI i1 i2 i3 (λc hc=>alph_lt c (hal c hc)) (Nat.le_trans htl hlen) ?_ ?_)
       ·intro ht;subst ht;walk_at "v";exact⟨0,xV A I tok,by exact Nat.zero_lt_succ (c::r).length,rfl,.fin tok l hg.symm⟩
       ·intro c r ht;subst ht;have hca:=hal c List.mem_cons_self;have har:∀c∈r,c∈alph:=λx hx=>hal x (List.mem_cons_of_mem _ hx)
        rw[jP]at hg;walk_at "v";refine GaY.inst E.cls (eU (L.put hBI _)) (cG (L.put hBI _)) E.n3 ol3 rfl (λ_ z=>by (exfalso;injection z)) ?_;refine OpY.ins ?_;erw[aDp c hca];walk_at "v";refine⟨λhq=>?_,λhq=>?_⟩
        ·rw[if_pos hq]at hg;walk_at "v";rw[← hg]at h2;exact⟨_,(gT i1 i2 i3 _▸(Less.refl _).upd (by erw[eD L i1 i2 i3];exact hBI) _),h2 rfl⟩
        ·rw[if_neg (by erw[hq];decide)]at hg;walk_at "v";erw[aD6 c hca];refine⟨λhb=>?_,λhb=>?_⟩
         ·rw[if_pos hb]at hg;walk_at "v";refine cQ (pl:=_) ?_;walk_at "v";refine⟨_,_,λY=>GetM.inst E.cls (eU (L.put hBI _)) (cG (L.put hBI _)) mrc.at_ ho1 ho3 ho2 ol5 rfl,?_⟩;walk_at "v"; intro _;refine⟨mrc.fn.keep,(eM (k:=k+3) E mrc.fn (L.put hBI _) (λc hc=>alph_lt c (har c hc)) (by simp at htl;exact bC [.le .p0 (.k 100000),.le (.a .p1 .k1) .p0] (.le .p1 (.k 100000)) aB hlen htl) ?_ ?_).call⟩
          ·intro c2 r2 ht;subst ht;walk_at "v";refine OpY.iadds ?_ (jQ c2 (by simp at htk;exact eF [.le .p0 (.k 100000),.le (.a .p1 (.a (.a .p2 .k1) .k1)) .p0] (.le .p1 (.k 200000)) aB hlen htk));erw[iH];walk_at "v";exact⟨r2.length+1,xV A I (tok++[c2]),by simp,rfl,.mk (tok++[c2]) r2 (aM (aM l c) c2) hg (λx hx=>har x (List.mem_cons_of_mem _ hx)) (by simp at htl;exact bC [.le (.a (.a .p0 .k1) .k1) .p1] (.le .p0 .p1) aB htl) (by simp at htk ⊢;exact eF [.le (.a .p0 (.a (.a .p1 .k1) .k1)) .p2] (.le (.a (.a .p0 .k1) .p1) .p2) aB htk)⟩
          ·intro ht;subst ht;walk_at "v";refine OpY.iadds ?_ (pF (by simp at htk;exact bC [.le .p0 (.k 100000),.le (.a .p1 .k1) .p0] (.le .p1 (.k 200000)) aB hlen htk));erw[xW];walk_at "v";exact⟨1,xV A I tok,by exact Nat.le_refl _,rfl,.mk tok [] (aM l c) hg (λx hx=>(by cases hx)) (Nat.zero_le _) (by simp at htk ⊢;exact Nat.le_of_succ_le htk)⟩
         ·rw[if_neg (by erw[hb];decide)]at hg;walk_at "v";refine OpY.iadds ?_ (jQ c (by simp at htk;exact eF [.le .p0 (.k 100000),.le (.a .p1 (.a .p2 .k1)) .p0] (.le .p1 (.k 200000)) aB hlen htk));erw[iH];walk_at "v";exact⟨r.length+1,xV A I (tok++[c]),by exact Nat.le_refl _,rfl,.mk (tok++[c]) r (aM l c) hg har (by simp at htl;exact Nat.le_of_succ_le htl) (by simp at htk ⊢;exact eF [.le (.a .p0 (.a .p1 .k1)) .p2] (.le (.a (.a .p0 .k1) .p1) .p2) aB htk)⟩
  | fin tok l hg =>
   refine sM (by erw[eD (L.put hBI _) i1 i2 i3,aA]) ?_;walk_at "v";rw[hg]at h2;exact⟨_,(gT i1 i2 i3 _▸(Less.refl _).upd (by erw[eD L i1 i2 i3];exact hBI) _),h2 rfl⟩
set_option tactic.hygienic false
theorem iR(E:NetEnv C cl mN)(hf:GFn C f (eS 3))(L:LexOk B A cl)(hpl:pbk.length≤100000)
  (h:Q .none (lexL B A line text (pbk++[d]))):CallW C Y (lexL B A line text pbk) (k+10) (.ref f) [.ref A.x,d] Q:=by
 refine (CodeW.gfn hf rfl [("self",.ref A.x),("token",d)] rfl rfl λL' cs q code=>?_).call;refine WS.cons (WS.expr (cQ (pl:=_) ?_));walk_at "v";refine GaY.inst E.cls (eU L) (cG L) E.n4 ol4 rfl (λ_ z=>by (exfalso;injection z)) ?_;refine⟨_,_,λY=>GetM.append eL,?_⟩;walk_at "v";refine KcY.append eL (eJ hpl aB) ?_;erw[mT];refine⟨rfl,?_⟩;walk_at "v";exact h
theorem aAW(E:NetEnv C cl mN)(hf:GFn C f (eS 0))(hx:led x=some (.obj cl dx))(hd:led dx=some (.ns1 []))(hne:dx≠x)
  (h:∀pb,led pb=none→Q .none (upd (upd led pb (.list [])) dx (.ns1 [("lineno",.int 1),("instream",fp),("whitespace",.str wsp),("pushback",.ref pb)]))):CallW C Y led (k+10) (.ref f) [.ref x,fp] Q:=by
 refine (CodeW.gfn hf rfl [("self",.ref x),("fp",fp)] rfl rfl λL' cs q code=>?_).call;have kx:∀{m:List (Str×D)} {l:aF},l x=some (.obj cl dx)→upd l dx (.ns1 m) x=some (.obj cl dx):=λe=>by erw[aG _ _ hne.symm];exact e
 walk_at "v";refine SaY.inst E.cls hx hd E.n1 ol1 (Nat.zero_le _) ?_;walk_at "v";refine SaY.inst E.cls (kx hx) (aA ..) E.n2 ol2 (Nat.le_of_ble_eq_true rfl) ?_;erw[dR];walk_at "v";refine SaY.inst E.cls (kx hx) (aA ..) E.n3 ol3 (Nat.le_of_ble_eq_true rfl) ?_;erw[dR];walk_at "v";refine WE.listM ?_;walk_at "v";refine⟨by exact Nat.zero_le _,λpb hpb=>?_⟩;have h1:pb≠dx:=λz=>by subst z;(first|exact (aH (aA ..) hpb).elim|cases aJ (aA ..) hpb|(rw[aA]at hpb;exact dN hpb))
 have h2:pb≠x:=λz=>by subst z;(first|exact (aH (kx hx ..) hpb).elim|cases aJ (kx hx ..) hpb|(rw[kx hx]at hpb;exact dN hpb))
 rw[aG _ _ h1]at hpb;erw[eY _ _ _ h1.symm];walk_at "v";refine SaY.inst E.cls (kx (by erw[aG _ _ h2.symm];exact hx)) (aA ..) E.n4 ol4 (Nat.le_of_ble_eq_true rfl) ?_;erw[dR];walk_at "v";exact h pb hpb

theorem aK(h:upd l a m b=none):b≠a∧l b=none:=by
 by_cases e:b=a
 ·subst e;(first|exact (aH (aA ..) h).elim|cases aJ (aA ..) h|(rw[aA]at h;exact dN h))
 ·rw[aG _ _ e]at h;exact⟨e,h⟩
noncomputable def posR:Pos:=pC xU
noncomputable def aEX:Expr:=rP (jA 1 body14)
noncomputable def aD7:Pos:=(xQ aEX).2
structure LexEnv (C:Cx) (cl:Addr) (mN:Str→Option Value):Prop where
 N:iO C
 net:NetEnv C cl mN
 cls:C.mg "_netrclex"=some (.ref cl)
 mkl:∃f c P,C.mg "_law_lexer"=some (.ref f)∧GFnC C f (aQ 14) c "_law_lexer"∧C.ct c P∧C.dq c posR="_law_lexer.<locals>._law_read"∧C.dq c aD7="_law_lexer.<locals>.<lambda>"
set_option maxHeartbeats 4000000 in
theorem jC(E:NetEnv C cl mN)(hcl:C.mg "_netrclex"=some (.ref cl))(h:GFnC C f (aQ 14) c "_law_lexer")(hct:C.ct c P)
  (hd1:C.dq c posR="_law_lexer.<locals>._law_read") (hd2:C.dq c aD7="_law_lexer.<locals>.<lambda>") (hpg:led pg=some (.list (text.map iS)))
  (hq:∀A B,LexOk B A cl→A.pg=pg→Less led B→(∀a∈[A.x,A.dx,A.st,A.sd,A.rf,A.cp,A.pb],led a=none)→Q (.ref A.x) (lexL B A 1 text [])):CallW C Y led (k+20) (.ref f) [.ref pg] Q:=by
 refine aN E.init λfi mi=>?_
 refine cZ mi.obj λoi ho1 ho2 ho3=>?_
 refine (xI h rfl [("page",.ref pg)] rfl rfl "page" rfl λL cs=>?_).call;walk_at "v";refine nO rfl hct (hd1.trans ?_) λrf fdr hir hrf=>?_
 ·with_unfolding_all rfl
 walk_at "v";refine aAE rfl hct (hd2.trans ?_) λst fds his hst=>?_
 ·with_unfolding_all rfl
 walk_at "v";refine SaY.fn (aA ..) fl1 λsd hsd=>?_
 walk_at "v";refine aI ?_;refine sH (hx:=hcl) ?_;walk_at "v"; intro _;refine⟨KeepOk.cls E.cls,CallW.new (k:=k+18) E.cls mi.at_ ho1 ho3 ho2 λx dx hx hdx hne=>?_⟩;refine (aAW (k:=k+8) E mi.fn (by erw[aG _ _ hne.symm,aA]) (aA ..) hne λpb hpb=>?_);refine⟨rfl,?_⟩;refine⟨.ref pg,rfl,λcp hcp hn=>?_⟩;rw[dR]at hx hdx hpb hn ⊢;have st1:=(aK hst).1;have st2:=(aK hst).2;have sd1:=(aK hsd).1;have hsd:=(aK hsd).2;have sd2:=(aK hsd).1;have sd3:=(aK hsd).2;have x1:=(aK hx).1;have hx:=(aK hx).2;have x2:=(aK hx).1;have hx:=(aK hx).2;have x3:=(aK hx).1;have x4:=(aK hx).2;have dx1:=(aK hdx).1;have hdx:=(aK hdx).2;have dx2:=(aK hdx).1;have hdx:=(aK hdx).2;have dx3:=(aK hdx).1;have dx4:=(aK hdx).2;have pb1:=(aK hpb).1;have hpb:=(aK hpb).2;have pb2:=(aK hpb).1;have hpb:=(aK hpb).2;have pb3:=(aK hpb).1;have hpb:=(aK hpb).2;have pb4:=(aK hpb).1;have hpb:=(aK hpb).2;have pb5:=(aK hpb).1;have pb6:=(aK hpb).2;have cp1:=(aK hn).1;have hn:=(aK hn).2;have cp2:=(aK hn).1;have hn:=(aK hn).2;have cp2':=(aK hn).1;have hn:=(aK hn).2;have cp3:=(aK hn).1;have hn:=(aK hn).2;have cp4:=(aK hn).1;have hn:=(aK hn).2;have cp5:=(aK hn).1;have hn:=(aK hn).2;have cp6:=(aK hn).1;have cp7:=(aK hn).2;have npg:∀{a},led a=none→a≠pg:=λh z=>by subst z;(first|exact (aH (hpg ..) h).elim|cases aJ (hpg ..) h|(rw[hpg]at h;exact dN h))
 have q1:=npg hrf;have q2:=npg st2;have q3:=npg sd3;have q4:=npg x4;have q5:=npg dx4;have q6:=npg pb6;have q7:=npg cp7;have s0:=Ne.symm st1;have s1:=Ne.symm sd1;have s2:=Ne.symm sd2;have s3:=Ne.symm x1;have s4:=Ne.symm x2;have s5:=Ne.symm x3;have s6:=Ne.symm dx1;have s7:=Ne.symm dx2;have s8:=Ne.symm dx3;have s9:=Ne.symm hne;have s10:=Ne.symm pb1;have s11:=Ne.symm pb2;have s12:=Ne.symm pb3;have s13:=Ne.symm pb4;have s14:=Ne.symm pb5;have s15:=Ne.symm cp1;have s16:=Ne.symm cp2;have s17:=Ne.symm cp2';have s18:=Ne.symm cp3;have s19:=Ne.symm cp4;have s20:=Ne.symm cp5;have s21:=Ne.symm cp6;have s22:=Ne.symm q1;have s23:=Ne.symm q2;have s24:=Ne.symm q3;have s25:=Ne.symm q4;have s26:=Ne.symm q5;have s27:=Ne.symm q6;have s28:=Ne.symm q7;generalize hF:upd (upd (upd (upd (upd (upd (upd (upd led rf (M.fn none fdr)) st (M.fn (some sd) fds)) sd (M.ns1 [("read",D.ref rf)])) x (M.obj cl dx)) dx (M.ns1 [])) pb (M.list [])) dx (M.ns1 [("lineno",D.int 1),("instream",D.ref st),("whitespace",D.str wsp),("pushback",D.ref pb)])) cp (M.cell (some (D.ref pg)))=F;have f1:F x=some (.obj cl dx):=by erw[← hF];simp[upd,st1,sd1,sd2,x1,x2,x3,dx1,dx2,dx3,hne,pb1,pb2,pb3,pb4,pb5,cp1,cp2,cp2',cp3,cp4,cp5,cp6,q1,q2,q3,q4,q5,q6,q7,s0,s1,s2,s3,s4,s5,s6,s7,s8,s9,s10,s11,s12,s13,s14,s15,s16,s17,s18,s19,s20,s21,s22,s23,s24,s25,s26,s27,s28]
 have f2:F st=some (.fn (some sd) fds):=by erw[← hF];simp[upd,st1,sd1,sd2,x1,x2,x3,dx1,dx2,dx3,hne,pb1,pb2,pb3,pb4,pb5,cp1,cp2,cp2',cp3,cp4,cp5,cp6,q1,q2,q3,q4,q5,q6,q7,s0,s1,s2,s3,s4,s5,s6,s7,s8,s9,s10,s11,s12,s13,s14,s15,s16,s17,s18,s19,s20,s21,s22,s23,s24,s25,s26,s27,s28]
 have f3:F sd=some (.ns1 [("read",.ref rf)]):=by erw[← hF];simp[upd,st1,sd1,sd2,x1,x2,x3,dx1,dx2,dx3,hne,pb1,pb2,pb3,pb4,pb5,cp1,cp2,cp2',cp3,cp4,cp5,cp6,q1,q2,q3,q4,q5,q6,q7,s0,s1,s2,s3,s4,s5,s6,s7,s8,s9,s10,s11,s12,s13,s14,s15,s16,s17,s18,s19,s20,s21,s22,s23,s24,s25,s26,s27,s28]
 have f4:F rf=some (.fn none fdr):=by erw[← hF];simp[upd,st1,sd1,sd2,x1,x2,x3,dx1,dx2,dx3,hne,pb1,pb2,pb3,pb4,pb5,cp1,cp2,cp2',cp3,cp4,cp5,cp6,q1,q2,q3,q4,q5,q6,q7,s0,s1,s2,s3,s4,s5,s6,s7,s8,s9,s10,s11,s12,s13,s14,s15,s16,s17,s18,s19,s20,s21,s22,s23,s24,s25,s26,s27,s28]
 have f5:F cp=some (.cell (some (.ref pg))):=by erw[← hF];simp[upd,st1,sd1,sd2,x1,x2,x3,dx1,dx2,dx3,hne,pb1,pb2,pb3,pb4,pb5,cp1,cp2,cp2',cp3,cp4,cp5,cp6,q1,q2,q3,q4,q5,q6,q7,s0,s1,s2,s3,s4,s5,s6,s7,s8,s9,s10,s11,s12,s13,s14,s15,s16,s17,s18,s19,s20,s21,s22,s23,s24,s25,s26,s27,s28]
 have f6:F dx=some (.ns1 [("lineno",.int 1),("instream",.ref st),("whitespace",.str wsp),("pushback",.ref pb)]):=by erw[← hF];simp[upd,st1,sd1,sd2,x1,x2,x3,dx1,dx2,dx3,hne,pb1,pb2,pb3,pb4,pb5,cp1,cp2,cp2',cp3,cp4,cp5,cp6,q1,q2,q3,q4,q5,q6,q7,s0,s1,s2,s3,s4,s5,s6,s7,s8,s9,s10,s11,s12,s13,s14,s15,s16,s17,s18,s19,s20,s21,s22,s23,s24,s25,s26,s27,s28]
 have f7:F pb=some (.list []):=by erw[← hF];simp[upd,st1,sd1,sd2,x1,x2,x3,dx1,dx2,dx3,hne,pb1,pb2,pb3,pb4,pb5,cp1,cp2,cp2',cp3,cp4,cp5,cp6,q1,q2,q3,q4,q5,q6,q7,s0,s1,s2,s3,s4,s5,s6,s7,s8,s9,s10,s11,s12,s13,s14,s15,s16,s17,s18,s19,s20,s21,s22,s23,s24,s25,s26,s27,s28]
 have f8:F pg=some (.list (text.map iS)):=by erw[← hF];simp[upd,hpg,st1,sd1,sd2,x1,x2,x3,dx1,dx2,dx3,hne,pb1,pb2,pb3,pb4,pb5,cp1,cp2,cp2',cp3,cp4,cp5,cp6,q1,q2,q3,q4,q5,q6,q7,s0,s1,s2,s3,s4,s5,s6,s7,s8,s9,s10,s11,s12,s13,s14,s15,s16,s17,s18,s19,s20,s21,s22,s23,s24,s25,s26,s27,s28]
 have ok:LexOk F ⟨x,dx,st,sd,rf,cp,pg,pb⟩ cl:={
  nd:=by simp[st1,sd1,sd2,x1,x2,x3,dx1,dx2,dx3,hne,pb1,pb2,pb3,pb4,pb5,cp1,cp2,cp2',cp3,cp4,cp5,cp6,q1,q2,q3,q4,q5,q6,q7,s0,s1,s2,s3,s4,s5,s6,s7,s8,s9,s10,s11,s12,s13,s14,s15,s16,s17,s18,s19,s20,s21,s22,s23,s24,s25,s26,s27,s28]
  x:=f1
  st:=⟨fds,f2⟩
  sd:=f3
  rf:=⟨fdr,_,_,_,_,_,_,_,f4,rfl,hir,hcp⟩
  cp:=f5 }
 have less:Less led F:=λa m e=>by
  have na:∀{b},led b=none→a≠b:=λhb z=>by subst z;(first|exact (aH (hb ..) e).elim|cases aJ (hb ..) e|(rw[hb]at e;cases e))
  erw[← hF];simp[upd,na hrf,na st2,na sd3,na x4,na dx4,na pb6,na cp7,e]
 have:=hq ⟨x,dx,st,sd,rf,cp,pg,pb⟩ F ok rfl less (by
  intro a ha;simp only[List.mem_cons,List.not_mem_nil,or_false]at ha;rcases ha with rfl|rfl|rfl|rfl|rfl|rfl|rfl
  ·exact x4
  ·exact dx4
  ·exact st2
  ·exact sd3
  ·exact hrf
  ·exact cp7
  ·exact pb6)
 unfold lexL gF at this;rw[lS F _ _ f6,lS F _ _ f8,lS F _ _ f7]at this;exact this
set_option tactic.hygienic false
theorem bT(xs:List D):(xs.map some).filterMap id=xs:=by induction xs with|nil=>rfl|cons x r ih=>simp[ih]
theorem aD8(l:List Nat)(c:Nat):Txt.contains (mk l) ⟨#[c]⟩=decide (c∈l):=by
 have:=PySem.StrLaws.found_one (mk l) c
 simpa [Txt.contains] using this
noncomputable abbrev bB(l:List Nat):D:=.str (mk l)
noncomputable def cV(word:List Nat)(turn:Nat):List Nat:=if turn % 3=0 then [34,92] else if turn % 3=1 then [34,92,10,9,13,32] else word
noncomputable def aU(risky:List Nat)(c:Nat):List Nat:=if c∈risky then [92,c] else [c]
noncomputable def cW(turn:Nat):Nat:=[10,9,13,32].getD (turn % 4) 0
noncomputable def aR(word:List Nat)(turn:Nat):List Nat :=
 let text:=(word.map (aU (cV word turn))).flatten
 if turn % 3=0 then [cW turn,34]++text++[34] else text++[cW turn]
theorem tC:∀ls:List (List Nat),Txt.join "" (ls.map mk)=mk ls.flatten:=by
 intro ls;have e0:("":Str).cps=#[]:=by decide +kernel
 unfold Txt.join Builtin.Str.glued;cases ls with
 | nil=>simp[e0];rfl
 | cons l r =>
  simp only[List.map_cons,List.drop_one,List.tail_cons,List.headD_cons,e0]
  have key:∀(r:List (List Nat)) (acc:Array Nat),(r.map mk).foldl (λacc p=>acc++#[]++p.cps) acc=acc++r.flatten.toArray:=by
   intro r;induction r with
   | nil=>intro acc;simp
   | cons x r ih=>intro acc;erw[List.map_cons,List.foldl_cons,ih];simp
  erw[key];simp
theorem mB(ls:List (List Nat))(h:ls.flatten.length≤100000):JoinOk "" (ls.map mk)=true:=by
 have e0:("":Str).length=0:=by decide +kernel
 have key:∀(ls:List (List Nat)) (a:Nat),(ls.map mk).foldl (λn (x:Str)=>n+x.length+("":Str).length) a=a+ls.flatten.length:=by
  intro ls;induction ls with
  | nil=>intro a;rfl
  | cons x r ih =>
   intro a;erw[List.map_cons,List.foldl_cons,ih,e0,List.flatten_cons,List.length_append];have:(mk x).length=x.length:=by show x.toArray.size=_;simp
   erw[this];exact Nat.le_antisymm (eF [] (.le (.a (.a (.a .p0 .p1) (.k 0)) .p2) (.a .p0 (.a .p1 .p2))) aB) (eF [] (.le (.a .p0 (.a .p1 .p2)) (.a (.a (.a .p0 .p1) (.k 0)) .p2)) aB)
 unfold JoinOk
 have:(ls.map mk).toArray.foldl (λ(n:Nat) (x:Str)=>n+x.length+("":Str).length) 0=ls.flatten.length:=by
  erw[List.foldl_toArray,key,Nat.zero_add]
 show (!Builtin.Str.tooLong ((ls.map mk).toArray.foldl (λ(n:Nat) (x:Str)=>n+x.length+("":Str).length) 0))=true
 erw[this];have h2:Builtin.Str.tooLong ls.flatten.length=false:=decide_eq_false (Nat.not_lt.mpr (Nat.le_trans h (by decide)));erw[h2];rfl
theorem iI(N:iO C){k:Nat}{turn:Nat}(h:GFn C f (aQ 15))(hw:word.length≤1000)(ht:turn<1000000)
  (hq:Q (bB (aR word turn)) led):CallW C Y led (k+10) (.ref f) [bB word,.int turn] Q:=by
 refine CallW.gfn h rfl [("word",bB word),("turn",.int turn)] rfl rfl λL cs q code=>?_
 have e3:((turn:Int)).fmod 3=((turn % 3:Nat):Int):=by erw[Int.fmod_eq_emod_of_nonneg _ (by decide)];rfl
 have e4:((turn:Int)).fmod 4=((turn % 4:Nat):Int):=by erw[Int.fmod_eq_emod_of_nonneg _ (by decide)];rfl
 have s1:("\"\\":Str)=mk [34,92]:=by decide +kernel
 have s2:("\"\\\n\t\r ":Str)=mk [34,92,10,9,13,32]:=by decide +kernel
 walk_at "v";refine WE.list ?_;walk_at "v";refine⟨by exact Nat.le_of_ble_eq_true rfl,?_⟩;walk_at "v";refine OpY.mod (by decide) ?_;erw[e3];intro Y;refine SubW.lst (d:=bB (cV word turn)) (Int.natCast_nonneg (turn % 3)) (lO (Nat.mod_lt _ (by decide)) aB) ?_ ?_
 ·erw[Int.toNat_natCast];unfold cV;have:turn % 3<3:=Nat.mod_lt _ (by decide);rcases (by lia:turn % 3=0∨turn % 3=1∨turn % 3=2)with e|e|e<;>erw[e]
  ·exact rfl
  ·exact rfl
  ·exact rfl
 walk_at "v";refine cQ (pl:=_) ?_;walk_at "v";refine⟨_,_,λY=>GetM.join,?_⟩;refine WL.cons (dS [("risky",bB (cV word turn))] ?_);have hwr:aR word turn=(let text:=(word.map (aU (cV word turn))).flatten;if turn % 3=0 then [cW turn,34]++text++[34] else text++[cW turn]):=rfl;have hesc:∀c,(aU (cV word turn) c).length≤2:=λc=>by unfold aU;split<;>simp
 generalize cV word turn=risky at *;walk_at "v";have hsl:(bL (mk word))=word.map iS:=rfl;refine⟨_,(word.map λc=>some (bB (aU risky c))),λY=>IterOf.str,?_,?_,λL cs i x hx=>?_,?_⟩
 ·erw[hsl,List.length_map];exact eJ hw aB
 ·erw[hsl,List.length_map,List.length_map]
 ·rw[hsl]at hx
  obtain ⟨c,hc,rfl⟩:∃c,word[i]?=some c∧x=iS c:=by
   rw[List.getElem?_map]at hx;cases hg:word[i]? with
   | none=>(first|exact (aH (hg ..) hx).elim|cases aJ (hg ..) hx|(rw[hg]at hx;cases hx))
   | some g=>(first|exact (aH (hg ..) hx).elim|cases aJ (hg ..) hx|(rw[hg]at hx;cases hx));exact⟨g,rfl,rfl⟩
  have hout:(word.map λc=>some (bB (aU risky c)))[i]?=some (some (bB (aU risky c))):=by erw[List.getElem?_map,hc];rfl
  walk_at "v";refine⟨rfl,?_⟩;walk_at "v";refine⟨λ_=>?_,λhx=>by cases hx⟩;walk_at "v";refine OpY.ins ?_;erw[aD8];walk_at "v";refine⟨λhb=>?_,λhb=>?_⟩
  ·walk_at "v"; intro _;have hbs:("\\":Str).length=1:=by decide +kernel
   refine Op2.adds ?_ (by erw[hbs];show 1+1≤_;decide);refine⟨?_,rfl⟩;have hb':c∈risky:=by simpa using hb
   erw[hout];unfold aU;erw[if_pos hb']
   congr 3
  ·walk_at "v";refine⟨?_,rfl⟩;have hb':c∉risky:=by simpa using hb
   erw[hout];unfold aU;erw[if_neg hb']
 ·show WL C led _ _ _ _ _
  have hlist:(word.map λc=>some (bB (aU risky c)))=((((word.map (aU risky)).map mk).map D.str).map some):=by simp[List.map_map,Function.comp_def]
  erw[hlist,bT];generalize htx:(word.map (aU risky))=ls at *
  have hlen:ls.flatten.length≤2000:=by
   subst htx
   have:∀w:List Nat,(w.map (aU risky)).flatten.length≤2*w.length:=by
    intro w;induction w with
    | nil=>simp
    | cons c r ih=>erw[List.map_cons,List.flatten_cons,List.length_append,List.length_cons];have:=hesc c;exact eF [.le .p0 (.l 2 .p1),.le .p2 .k2] (.le (.a .p2 .p0) (.l 2 (.a .p1 .k1))) aB ih this
   have:=this word;exact bC [.t 2 (.le .p0 (.k 1000)),.le .p1 (.l 2 .p0)] (.le .p1 (.k 2000)) aB hw this
  walk_at "v";refine KcY.join (mB ls (eJ hlen aB)) ?_;erw[tC];generalize ls.flatten=tx at *;have mkl:∀l:List Nat,(mk l).length=l.length:=λl=>by show l.toArray.size=_;simp
  have mka:∀a b:List Nat,mk a++mk b=mk (a++b):=λa b=>by show (⟨a.toArray++b.toArray⟩:Str)=⟨(a++b).toArray⟩;simp
  have hws:("\n\t\r ":Str)=mk [10,9,13,32]:=by decide +kernel
  have hqt:("\"":Str)=mk [34]:=by decide +kernel
  walk_at "v";refine OpY.mod (by decide) ?_;erw[e4];intro Y;erw[hws];refine SubW.str (c:=cW turn) (Int.natCast_nonneg (turn % 4)) (lO (Nat.mod_lt _ (by decide)) aB) ?_ ?_
  ·erw[Int.toNat_natCast];unfold cW;rcases (by lia:turn % 4=0∨turn % 4=1∨turn % 4=2∨turn % 4=3)with e|e|e|e<;>erw[e]<;>rfl
  show WU C _ _ _ _ _ (.str (mk [cW turn])) _
  walk_at "v";refine OpY.mod (by decide) ?_;erw[e3];walk_at "v";refine⟨λhb=>?_,λhb=>?_⟩
  ·have h0:turn % 3=0:=by simp only[beq_iff_eq]at hb;exact Int.ofNat_eq_zero.mp hb
   erw[hqt];walk_at "v";refine OpY.adds ?_ (by rw[mkl,mkl];simp);erw[mka];walk_at "v";refine OpY.adds ?_ (by erw[mkl,mkl];simp;exact bF [.le .p0 (.k 2000)] (.le (.a .k2 .p0) (.k 10000000)) aB hlen);erw[mka];walk_at "v";refine OpY.adds ?_ (by erw[mkl,mkl];simp;exact eJ hlen aB);erw[mka];rw[hwr]at hq;simp only[h0,if_true]at hq;exact hq
  ·have h0:¬turn % 3=0:=by simp only[beq_eq_false_iff_ne]at hb;exact Int.ofNat_ne_zero.mp hb
   walk_at "v";refine OpY.adds ?_ (by erw[mkl,mkl];simp;exact eJ hlen aB);erw[mka];rw[hwr]at hq;simp only[h0,if_false]at hq;exact hq
set_option tactic.hygienic false
noncomputable def spr(m:Nat)(W:Nat→List Nat):Nat→List Nat
 | 0=>[]
 | k+1=>spr m W k++(List.replicate m (W k)).flatten
noncomputable def bY(t:Nat→Nat):Nat→Nat
 | 0=>0
 | k+1=>bY t k+t k
noncomputable def aZ(own other:Nat→Nat)(n:Nat):Nat→Nat:=if n % 2=0 then own else other
noncomputable def cB(K:Nat)(own other:Nat→Nat):Nat→Nat
 | 0=>K
 | n+1=>cB K own other n*bY (aZ own other (n+1)) K
noncomputable def dX(K:Nat)(own other:Nat→Nat):Nat→Nat→List Nat
 | 0,a=>[a]
 | n+1,a=>spr (aZ own other (n+2) a) (dX K own other n) K
noncomputable def wt(K:Nat)(t:Nat→Nat)(l:List Nat):Nat:=(l.map λx=>K*t x).sum
theorem dQ(K:Nat)(t:Nat→Nat)(a b:List Nat):wt K t (a++b)=wt K t a+wt K t b:=by
 unfold wt;erw[List.map_append,List.sum_append]
theorem fZ(K:Nat)(t:Nat→Nat)(c:Nat)(b:List Nat):wt K t (c::b)=K*t c+wt K t b:=rfl
theorem xX(K:Nat)(t:Nat→Nat)(w:List Nat):∀m,wt K t (List.replicate m w).flatten=m*wt K t w
 | 0=>by rw[Nat.zero_mul];rfl
 | m+1=>by rw[List.replicate_succ,List.flatten_cons,dQ,xX K t w m,Nat.succ_mul,Nat.add_comm]
theorem iJ(w:List Nat):∀m,(List.replicate m w).flatten.length=m*w.length
 | 0=>by rw[Nat.zero_mul];rfl
 | m+1=>by rw[List.replicate_succ,List.flatten_cons,List.length_append,iJ w m,Nat.succ_mul,Nat.add_comm]
theorem tD{K:Nat}{t tb:Nat→Nat}{m u:Nat}{W:Nat→List Nat}:∀k,(∀c,c<k→wt K t (W c)=tb c*u)→wt K t (spr m W k)=m*(bY tb k*u)
 | 0,_=>by rw[show bY tb 0=0 from rfl,Nat.zero_mul,Nat.mul_zero];rfl
 | k+1,h=>by
  show wt K t (spr m W k++_)=_
  rw[dQ,xX,tD k (λc hc=>h c (by exact Nat.lt_add_right 1 hc)),h k (by exact Nat.lt_add_one k)];show _=m*((bY tb k+tb k)*u)
  rw[Nat.add_mul,Nat.mul_add]
theorem zS{m u:Nat}{tb:Nat→Nat}{W:Nat→List Nat}:∀k,(∀c,c<k→(W c).length=tb c*u)→(spr m W k).length=m*(bY tb k*u)
 | 0,_=>by rw[show bY tb 0=0 from rfl,Nat.zero_mul,Nat.mul_zero];rfl
 | k+1,h=>by
  show (spr m W k++_).length=_
  rw[List.length_append,iJ,zS k (λc hc=>h c (by exact Nat.lt_add_right 1 hc)),h k (by exact Nat.lt_add_one k)];show _=m*((bY tb k+tb k)*u)
  rw[Nat.add_mul,Nat.mul_add]
theorem vP:∀k,bY (λ_=>1) k=k
 | 0=>rfl
 | k+1=>by show bY (λ_=>1) k+1=_;rw[vP k]
theorem lB(m k:Nat):(spr m (λc=>[c]) k).length=m*k:=by
 erw[zS (u:=1) (tb:=λ_=>1) k (λ_ _=>rfl),vP,Nat.mul_one]
theorem xY(m:Nat)(W:Nat→List Nat)(k:Nat):∀d,∃B,spr m W (k+d)=spr m W k++B
 | 0=>⟨[],by rw[List.append_nil];rfl⟩
 | d+1=>by
  refine aN (xY m W k d) λB h=>?_
  refine⟨B++(List.replicate m (W (k+d))).flatten,?_⟩;show spr m W (k+d)++(List.replicate m (W (k+d))).flatten=_
  rw[h,List.append_assoc]
theorem pI(m:Nat)(W:Nat→List Nat){K c i:Nat}(hc:c<K)(hi:i<m):∃B,spr m W K=(spr m W c++(List.replicate i (W c)).flatten)++(W c++((List.replicate (m - i - 1) (W c)).flatten++B)):=by
 refine aN (xY m W (c+1) (K - (c+1))) λB h=>?_
 rw[show c+1+(K - (c+1))=K by exact Nat.add_sub_of_le hc]at h;refine⟨B,?_⟩;erw[h];show (spr m W c++(List.replicate m (W c)).flatten)++B=_
 have e:(List.replicate m (W c)).flatten=(List.replicate i (W c)).flatten++(W c++(List.replicate (m - i - 1) (W c)).flatten):=by
  have e2:List.replicate m (W c)=List.replicate i (W c)++(W c::List.replicate (m - i - 1) (W c)):=by
   erw[← List.replicate_succ,List.replicate_append_replicate]
   congr 1;lia
  erw[e2,List.flatten_append,List.flatten_cons]
 erw[e];simp only[List.append_assoc]
structure PartR (K copies:Nat) (tb:Nat→Nat) (u at_ kind ahead left:Nat):Prop where
 lt:kind<K
 le:left<tb kind*u
 ex:∃copy,copy<copies∧ahead=copies*kind+copy∧at_=copies*(bY tb kind*u)+copy*(tb kind*u)+left
theorem PartR.word{K copies u at_ kind ahead left:Nat}(h:PartR K copies tb u at_ kind ahead left)(hw:∀c,c<K→wt K t (W c)=tb c*u) :
  ∃copy B,spr copies W K=(spr copies W kind++(List.replicate copy (W kind)).flatten)++(W kind++B)∧ahead=copies*kind+copy∧at_=wt K t (spr copies W kind++(List.replicate copy (W kind)).flatten)+left:=by
 refine cZ h.ex λcopy h1 h2 h3=>?_
 refine aN (pI copies W h.lt h1) λB hb=>?_
 refine⟨copy,_,hb,h2,?_⟩;have hl:=h.lt;erw[dQ,xX,tD kind (λc hc=>hw c (Nat.lt_trans hc hl)),hw kind hl];exact h3
section
variable {K:Nat} {own other:Nat→Nat}
theorem aBK:∀n a,wt K other (dX K own other n a)=aZ own other (n+1) a*cB K own other n
 | 0,a=>by
  show wt K other [a]=other a*K
  rw[fZ,Nat.mul_comm];rfl
 | n+1,a=>by
  show wt K other (spr _ _ K)=_
  rw[tD (tb:=aZ own other (n+1)) (u:=cB K own other n) K (λc _=>aBK n c),Nat.mul_comm (bY _ _)];rfl
noncomputable def Bal(K:Nat)(t:Nat→Nat)(l:List Nat):Prop:=wt K t l=bY t K*l.length
theorem Bal.nil:Bal K other []:=by unfold Bal;erw[List.length_nil,Nat.mul_zero];rfl
theorem Bal.app(h:Bal K other a)(h2:Bal K other b):Bal K other (a++b):=by
 unfold Bal at *;erw[dQ,List.length_append,Nat.mul_add,h,h2]
theorem Bal.rep{w:List Nat}(h:Bal K other w):∀m,Bal K other (List.replicate m w).flatten
 | 0=>Bal.nil
 | m+1=>by rw[List.replicate_succ,List.flatten_cons];exact h.app (Bal.rep h m)
theorem Bal.spr{m:Nat}{W:Nat→List Nat}:∀k,(∀c,c<k→Bal K other (W c))→Bal K other (spr m W k)
 | 0,_=>Bal.nil
 | k+1,h=>(Bal.spr k λc hc=>h c (by exact Nat.lt_add_right 1 hc)).app ((h k (by exact Nat.lt_add_one k)).rep m)
theorem zT:∀n a,Bal K other (dX K own other (n+1) a)
 | 0,a=>by
  show Bal K other (Sc.spr _ (λc=>[c]) K)
  unfold Bal;rw[tD (tb:=other) (u:=K) K (λc _=>by rw[fZ,Nat.mul_comm];rfl),lB];rw[Nat.mul_left_comm]
 | n+1,a=>Bal.spr K λc _=>zT n c
noncomputable def jU(K:Nat)(t:Nat→Nat)(w:List Nat):List Nat:=w.flatMap λa=>spr (t a) (λc=>[c]) K
theorem mC(t:Nat→Nat)(a b:List Nat):jU K t (a++b)=jU K t a++jU K t b:=List.flatMap_append
theorem aBL(t:Nat→Nat)(w:List Nat):∀m,jU K t (List.replicate m w).flatten=(List.replicate m (jU K t w)).flatten
 | 0=>rfl
 | m+1=>by rw[List.replicate_succ,List.flatten_cons,mC,aBL t w m,List.replicate_succ,List.flatten_cons]
theorem aBM(t:Nat→Nat)(m:Nat)(W:Nat→List Nat):∀k,jU K t (spr m W k)=spr m (λc=>jU K t (W c)) k
 | 0=>rfl
 | k+1=>by
  show jU K t (spr m W k++_)=spr m _ k++_
  rw[mC,aBL,aBM t m W k]
theorem xZ(n:Nat):aZ own other (n+1)=aZ other own n:=by
 unfold aZ;rcases Nat.mod_two_eq_zero_or_one n with h|h
 ·erw[if_neg (by lia),if_pos h]
 ·erw[if_pos (Nat.succ_mod_succ_eq_zero_iff.mpr h),if_neg (Nat.mod_two_ne_zero.mpr h)]
theorem pJ:∀{own other:Nat→Nat} n a,dX K own other (n+1) a=jU K own (dX K other own n a)
 | own,other,0,a=>by
  show spr (own a) (λc=>[c]) K=jU K own [a]
  unfold jU;rw[List.flatMap_cons,List.flatMap_nil,List.append_nil]
 | own,other,n+1,a=>by
  show spr (aZ own other (n+1+2) a) (dX K own other (n+1)) K=jU K own (spr (aZ other own (n+2) a) (dX K other own n) K)
  rw[aBM,show dX K own other (n+1)=λc=>jU K own (dX K other own n c) from funext λc=>pJ n c,show n+1+2=(n+2)+1 from rfl,xZ]
theorem tE(t:Nat→Nat):∀w,(jU K t w).length=wt K t w
 | []=>rfl
 | a::w=>by
  show (spr (t a) (λc=>[c]) K++jU K t w).length=_
  rw[List.length_append,lB,tE t w,fZ,Nat.mul_comm]
end
structure Dec (K:Nat) (own other:Nat→Nat) (n:Nat) (spot m:Int) (c run rest:Nat):Prop where
 run_lt:run<K
 rest_lt:rest<other c
 ex:∃A B,dX K own other n (K - 1)++dX K own other n 0=A++c::B∧(A.length:Int)=m+(dX K own other n (K - 1)).length ∧
  spot+wt K other (dX K own other n (K - 1))=wt K other A+run*other c+rest
noncomputable def dG(K:Nat)(t:Nat→Nat):Prop:=∀c,c<K→0<t c
section
variable {K:Nat} {own other:Nat→Nat}
theorem fO(ho:dG K own)(ht:dG K other)(n:Nat):dG K (aZ own other n):=by
 unfold aZ;split<;>assumption
theorem yA(hK:2≤K)(ho:dG K own)(ht:dG K other):∀n a,a<K→dX K own other n a≠[]
 | 0,a,_=>List.cons_ne_nil _ _
 | n+1,a,ha=>by
  intro h;refine aN (pI (aZ own other (n+2) a) (dX K own other n) (c:=0) (i:=0) (K:=K) (by exact Nat.zero_lt_of_lt hK) (fO ho ht _ a ha)) λB hb=>?_
  have h':spr (aZ own other (n+2) a) (dX K own other n) K=[]:=h;rw[h']at hb;have:=List.append_eq_nil_iff.mp (List.append_eq_nil_iff.mp hb.symm).2;exact yA hK ho ht n 0 (by exact Nat.zero_lt_of_lt hK) this.1
theorem pK(hK:2≤K)(ho:dG K own)(ht:dG K other)(n:Nat):∃A B,B≠[]∧dX K own other (n+1) (K - 1)=A++dX K own other n (K - 1)∧dX K own other (n+1) 0=dX K own other n 0++B:=by
 have h1:=fO ho ht (n+2) (K - 1) (Nat.sub_one_lt_of_lt hK);have h0:=fO ho ht (n+2) 0 (Nat.zero_lt_of_lt hK);obtain ⟨B,hb⟩:=pI (aZ own other (n+2) 0) (dX K own other n) (c:=0) (i:=0) (K:=K) (Nat.zero_lt_of_lt hK) h0;obtain ⟨B2,hb2⟩:=pI (aZ own other (n+2) 0) (dX K own other n) (c:=1) (i:=0) (K:=K) (Nat.lt_of_succ_le hK) h0;obtain ⟨j,hj⟩:∃j,aZ own other (n+2) (K - 1)=j+1:=⟨_,(Nat.sub_add_cancel h1).symm⟩;refine⟨spr (j+1) (dX K own other n) (K - 1)++(List.replicate j (dX K own other n (K - 1))).flatten,(List.replicate (aZ own other (n+2) 0 - 0 - 1) (dX K own other n 0)).flatten++B,?_,?_,?_⟩
 ·intro h;rw[h]at hb;have e1:=congrArg List.length hb;have e2:=congrArg List.length hb2;rw[hb2]at e1;have l0:=List.length_pos_iff.mpr (yA hK ho ht n 0 (Nat.zero_lt_of_lt hK));have l1:=List.length_pos_iff.mpr (yA hK ho ht n 1 (Nat.lt_of_succ_le hK));have e3:spr (aZ own other (n+2) 0) (dX K own other n) 1=(List.replicate (aZ own other (n+2) 0) (dX K own other n 0)).flatten:=rfl;have e4:=iJ (dX K own other n 0) (aZ own other (n+2) 0);have e5:spr (aZ own other (n+2) 0) (dX K own other n) 0=[]:=rfl;rw[e3,e5]at e1;simp only[List.length_append,List.length_nil,List.replicate_zero,List.flatten_nil,e4]at e1;have:=Nat.le_mul_of_pos_left (dX K own other n 0).length h0;lia
 ·show spr (aZ own other (n+2) (K - 1)) _ K=_
  erw[hj];obtain ⟨i,rfl⟩:∃i,K=i+1:=⟨K - 1,by exact Nat.le_antisymm (bC [.le .p0 (.a .p1 .k1)] (.le .p0 (.a .p1 .k1)) aB (Nat.le_add_of_sub_le (Nat.le_refl _))) (bC [.eq (.a .p0 .k1) .p1] (.le (.a .p0 .k1) .p1) aB (Nat.sub_add_cancel (lke hK aB)))⟩;show spr _ _ i++_=_
  erw[Nat.add_sub_cancel,List.append_assoc]
  congr 1
  erw[List.replicate_succ',List.flatten_append];simp
 ·show spr _ _ K=_
  erw[hb];rfl
theorem Dec.up(hK:2≤K)(ho:dG K own)(ht:dG K other){n:Nat}{spot m:Int}{c run rest:Nat}(h:Dec K own other n spot m c run rest):Dec K own other (n+1) spot m c run rest:=by
 refine cU (pK hK ho ht n) λA0 B0 _ e1 e2=>?_
 refine cU h.ex λA B h1 h2 h3=>?_
 refine⟨h.run_lt,h.rest_lt,A0++A,B++B0,?_,?_,?_⟩
 ·erw[e1,e2,List.append_assoc,← List.append_assoc (dX K own other n (K - 1)),h1];simp
 ·erw[e1,List.length_append,List.length_append];exact Int.le_antisymm (bQ 0 [_,_,_] [_] [.ieq (.c .p0) (.a .p0 (.c .p1))] (.ile (.c (.a .p2 .p0)) (.a .p0 (.c (.a .p2 .p1)))) aB h2) (bQ 0 [_,_,_] [_] [.ieq (.a .p0 (.c .p0)) (.c .p1)] (.ile (.a .p0 (.c (.a .p2 .p0))) (.c (.a .p2 .p1))) aB h2.symm)
 ·erw[e1,dQ,dQ];exact Int.le_antisymm (bQ 0 [_,_,_,_] [_,_] [.ieq (.a .p0 (.c .p0)) (.a (.a (.c .p1) .p1) (.c .p2))] (.ile (.a .p0 (.c (.a .p3 .p0))) (.a (.a (.c (.a .p3 .p1)) .p1) (.c .p2))) aB h3) (bQ 0 [_,_,_,_] [_,_] [.ieq (.a (.a (.c .p0) .p0) (.c .p1)) (.a .p1 (.c .p2))] (.ile (.a (.a (.c (.a .p3 .p0)) .p0) (.c .p1)) (.a .p1 (.c (.a .p3 .p2)))) aB h3.symm)
theorem Dec.to(hK:2≤K)(ho:dG K own)(ht:dG K other){n:Nat}{spot m:Int}{c run rest:Nat}(h:Dec K own other n spot m c run rest):∀d,Dec K own other (n+d) spot m c run rest
 | 0=>h
 | d+1=>(Dec.to hK ho ht h d).up hK ho ht
theorem Dec.lvl(hK:2≤K)(ho:dG K own)(ht:dG K other){n n':Nat}{spot m:Int}{c run rest:Nat}(h:Dec K own other n spot m c run rest)(hn:n≤n'):Dec K own other n' spot m c run rest:=by
 have:=h.to hK ho ht (n' - n);rw[show n+(n' - n)=n' by exact Nat.add_sub_of_le hn]at this;exact this
theorem zU{α:Type}{a b:α}{A B A' B':List α}(h:A++a::B=A'++b::B')(hl:A.length<A'.length):∃D,A'=A++a::D:=by
 rcases List.append_eq_append_iff.mp h with ⟨D,h1,h2⟩| ⟨D,h1,h2⟩
 ·cases D with
  | nil=>rw[List.append_nil]at h1;subst h1;exact absurd hl (Nat.lt_irrefl _)
  | cons x D=>(injection h2 with e1 e2;subst e1;subst e2);exact⟨D,h1⟩
 ·have:=congrArg List.length h1;rw[List.length_append]at this;lia
theorem fit{K o run rest:Nat}(h1:run<K)(h2:rest<o):run*o+rest<K*o:=by
 have:(run+1)*o≤K*o:=Nat.mul_le_mul_right _ h1;rw[Nat.succ_mul]at this;exact lN [.lt .p0 .p1,.le (.a .p2 .p1) .p3] (.lt (.a .p2 .p0) .p3) aB h2 this
theorem aEY{o r s r' s':Nat}(h:r*o+s=r'*o+s')(h1:s<o)(h2:s'<o):r=r'∧s=s':=by
 have e1:(r*o+s) / o=r:=by erw[Nat.mul_comm,Nat.mul_add_div (Nat.zero_lt_of_lt h1),Nat.div_eq_of_lt h1];rfl
 have e2:(r'*o+s') / o=r':=by erw[Nat.mul_comm,Nat.mul_add_div (Nat.zero_lt_of_lt h1),Nat.div_eq_of_lt h2];rfl
 have:r=r':=by erw[← e1,← e2,h]
 subst this;exact⟨rfl,by exact Nat.add_left_cancel h⟩
theorem Dec.same{n n':Nat}(hK:2≤K)(ho:dG K own)(ht:dG K other){spot m m':Int}{c c' run run' rest rest':Nat}(h:Dec K own other n spot m c run rest)(h':Dec K own other n' spot m' c' run' rest'):m=m'∧c=c'∧run=run'∧rest=rest':=by
 have g:=h.lvl hK ho ht (Nat.le_max_left n n');have g':=h'.lvl hK ho ht (Nat.le_max_right n n');refine cU g.ex λA B e1 e2 e3=>?_
 refine cU g'.ex λA' B' f1 f2 f3=>?_
 have f0:=fit h.run_lt h.rest_lt;have f0':=fit h'.run_lt h'.rest_lt;have hw:wt K other A+(run*other c+rest)=wt K other A'+(run'*other c'+rest'):=by lia
 have hlen:A.length=A'.length:=by
  rcases Nat.lt_trichotomy A.length A'.length with hl|hl|hl
  ·(refine aN (zU (e1.symm.trans f1) hl) λD o1=>?_;subst o1)
   rw[dQ,fZ]at hw;lia
  ·exact hl
  ·(refine aN (zU (f1.symm.trans e1) hl) λD o1=>?_;subst o1)
   rw[dQ,fZ]at hw;lia
 (refine cL (List.append_inj (e1.symm.trans f1) hlen) λo1 hc=>?_;subst o1)
 (injection hc with e4 e5;subst e4;subst e5)
 have:=aEY (Nat.add_left_cancel hw) h.rest_lt h'.rest_lt;exact⟨by exact Int.le_antisymm (aEA [.ieq (.a .p0 (.c .p0)) (.c .p1),.ieq (.c .p1) (.a .p1 (.c .p0))] (.ile .p0 .p1) aB e2.symm f2) (aEA [.ieq (.c .p0) (.a .p0 (.c .p1)),.ieq (.a .p1 (.c .p1)) (.c .p0)] (.ile .p1 .p0) aB e2 f2.symm),rfl,this.1,this.2⟩
theorem Dec.next{n:Nat}(hK:2≤K)(ho:dG K own)(ht:dG K other){spot m:Int}{c run rest:Nat}(h:Dec K own other n spot m c run rest)(hb:∀n a,a<K→∀x∈dX K own other n a,x<K) :
  ∃n' m' c' run',Dec K own other n' (spot - rest+other c) m' c' run' 0∧K*m'+run'=K*m+run+1:=by
 have ho':0<other c:=by have:=h.rest_lt;exact Nat.zero_lt_of_lt this
 by_cases hr:run+1<K
 ·refine cU h.ex λA B e1 e2 e3=>?_
  refine⟨n,m,c,run+1,⟨hr,ho',A,B,e1,e2,?_⟩,by exact Int.le_antisymm (nB [] (.ile (.a .p0 (.c (.a .p0 .k1))) (.a (.a .p0 (.c .p0)) (.k 1))) aB) (nB [] (.ile (.a (.a .p0 (.c .p0)) (.k 1)) (.a .p0 (.c (.a .p0 .k1)))) aB)⟩;have:((run:Int)+1)*other c=run*other c+other c:=by erw[Int.add_mul,Int.one_mul]
  push_cast;lia
 ·refine cU (pK hK ho ht n) λA0 B0 hne g1 g2=>?_
  refine cU h.ex λA B e1 e2 e3=>?_
  have e4:dX K own other (n+1) (K - 1)++dX K own other (n+1) 0=(A0++A)++c::(B++B0):=by
   erw[g1,g2,List.append_assoc,← List.append_assoc (dX K own other n (K - 1)),e1];simp
  cases hB:B++B0 with
  | nil=>exact absurd (List.append_eq_nil_iff.mp hB).2 hne
  | cons c' B' =>
   rw[hB]at e4
   have hc':c'<K:=by
    have hm:c'∈dX K own other (n+1) (K - 1)++dX K own other (n+1) 0:=by erw[e4];simp
    rcases List.mem_append.mp hm with q|q
    ·exact hb _ _ (Nat.sub_one_lt_of_lt hK) _ q
    ·exact hb _ _ (Nat.zero_lt_of_lt hK) _ q
   refine⟨n+1,m+1,c',0,⟨by exact Nat.zero_lt_of_lt hK,ht c' hc',A0++(A++[c]),B',by erw[e4];simp,?_,?_⟩,?_⟩
   ·erw[g1];simp only[List.length_append,List.length_singleton];exact Int.le_antisymm (bQ 0 [_,_,_] [_] [.ieq (.c .p0) (.a .p0 (.c .p1))] (.ile (.c (.a .p2 (.a .p0 .k1))) (.a (.a .p0 (.k 1)) (.c (.a .p2 .p1)))) aB e2) (bQ 0 [_,_,_] [_] [.ieq (.a .p0 (.c .p0)) (.c .p1)] (.ile (.a (.a .p0 (.k 1)) (.c (.a .p2 .p0))) (.c (.a .p2 (.a .p1 .k1)))) aB e2.symm)
   ·erw[g1,dQ,dQ,dQ,fZ,show wt K other []=0 from rfl];have hrun:run+1=K:=by have:=h.run_lt;exact Nat.le_antisymm (bC [.lt .p0 .p1] (.le (.a .p0 .k1) .p1) aB this) (bC [.le .p0 (.a .p1 .k1)] (.le .p0 (.a .p1 .k1)) aB (Nat.le_of_not_lt hr))
    have:K*other c=run*other c+other c:=by erw[← hrun,Nat.succ_mul]
    lia
   ·have hrun:(run:Int)+1=K:=by have:=h.run_lt;exact Int.le_antisymm (bC [.lt .p0 .p1] (.ile (.a (.c .p0) (.k 1)) (.c .p1)) aB this) (bC [.le .p0 (.a .p1 .k1)] (.ile (.c .p0) (.a (.c .p1) (.k 1))) aB (Nat.le_of_not_lt hr))
    erw[Int.mul_add];lia
theorem zV{m:Nat}{W:Nat→List Nat}{x:Nat}:∀k,x∈spr m W k→∃c,c<k∧x∈W c
 | 0,h=>absurd h List.not_mem_nil
 | k+1,h=>by
  rcases List.mem_append.mp h with q|q
  ·refine aL (zV k q) λc hc hx=>?_;exact⟨c,by exact Nat.lt_add_right 1 hc,hx⟩
  ·refine aL (List.mem_flatten.mp q) λl hl hx=>?_
   rw[(List.mem_replicate.mp hl).2]at hx;exact⟨k,by exact Nat.lt_add_one k,hx⟩
theorem pL:∀n a,a<K→∀x∈dX K own other n a,x<K
 | 0,a,ha,x,hx=>by rw[List.mem_singleton.mp hx];exact ha
 | n+1,a,ha,x,hx=>let ⟨c,hc,h⟩:=zV K hx;pL n c hc x h
theorem Dec.sign{n n':Nat}(hK:2≤K)(ho:dG K own)(ht:dG K other){spot m m':Int}{c c' run run' rest rest':Nat}(h:Dec K own other n spot m c run rest)(h':Dec K other own n' m m' c' run' rest'):c=run':=by
 have g:=h.lvl hK ho ht (n':=max n n'+1) (bC [.le .p0 .p1] (.le .p0 (.a .p1 .k1)) aB (Nat.le_max_left _ _));have g':=h'.lvl hK ht ho (n':=max n n') (Nat.le_max_right n n');refine cU g.ex λA B e1 e2 e3=>?_
 refine cU g'.ex λA' B' f1 f2 f3=>?_
 rw[pJ,pJ,← mC,f1,mC]at e1;rw[pJ,tE]at e2;refine aN (pI (own c') (λc=>[c]) h'.run_lt h'.rest_lt) λD hD=>?_
 have e5:jU K own (c'::B')=spr (own c') (λc=>[c]) K++jU K own B':=rfl;rw[e5,hD]at e1
 have hl:A.length=(jU K own A'++(spr (own c') (λc=>[c]) run'++(List.replicate rest' [run']).flatten)).length:=by
  erw[List.length_append,List.length_append,lB,iJ,tE,List.length_singleton,Nat.mul_comm (own c')]
  push_cast at *;lia
 have e6:(jU K own A'++(spr (own c') (λc=>[c]) run'++(List.replicate rest' [run']).flatten))++(run'::((List.replicate (own c' - rest' - 1) [run']).flatten++D++jU K own B'))=A++c::B:=by
  erw[← e1];simp
 exact (List.cons.inj (List.append_inj e6 hl.symm).2).1.symm
inductive PlaceR (K:Nat) (own other:Nat→Nat) (p:Int):Int→Int→Int→Prop
 | mk {n:Nat} {spot m:Int} {c run rest b:Nat}:Dec K own other n spot m c run rest→c<K→b<K→p=K*spot+b→PlaceR K own other p (K*m+run) (K*rest+b) 0
end
set_option tactic.hygienic false
section
variable {K:Nat} {own other:Nat→Nat}
structure PlI (K:Nat) (own other:Nat→Nat) (N:Nat) (spot:Int) (n kind a:Nat):Prop where
 n2:2≤n
 nN:n≤N
 kd:kind<K
 lt:a<aZ own other n kind*cB K own other (n - 1)
 ex:∃A B,dX K own other (N - 1) (K - 1)++dX K own other (N - 1) 0=A++(dX K own other (n - 1) kind++B)∧Bal K other A∧spot+wt K other (dX K own other (N - 1) (K - 1))=wt K other A+a
theorem lC(h:2≤n)(a:Nat):Bal K other (dX K own other (n - 1) a):=by
 obtain ⟨i,rfl⟩:∃i,n=i+2:=⟨n - 2,by exact (Nat.sub_eq_iff_eq_add h).mp rfl⟩;exact zT i a
theorem zW(h:1≤n)(a:Nat):wt K other (dX K own other (n - 1) a)=aZ own other n a*cB K own other (n - 1):=by
 erw[aBK,show n - 1+1=n by exact Nat.sub_add_cancel h]
theorem PlI.right(hK:0<K)(hN:2≤N)(h:a<aZ own other N 0*cB K own other (N - 1)):PlI K own other N (a:Int) N 0 a :=
 ⟨hN,Nat.le_refl _,hK,h,_,[],by erw[List.append_nil],lC hN _,by exact Int.add_comm ↑a ↑(wt K other (dX K own other (N - 1) (K - 1)))⟩
theorem PlI.left{N a:Nat}{spot:Int}(hK:0<K)(hN:2≤N)(h0:spot<0)(h:spot+(aZ own other N (K - 1)*cB K own other (N - 1):Nat)=a):PlI K own other N spot N (K - 1) a :=
 ⟨hN,Nat.le_refl _,by exact Nat.sub_one_lt_of_lt hK,by exact gZ [.ilt .p0 (.k 0),.ieq (.c .p0) (.a .p0 (.c .p1))] (.lt .p0 .p1) aB h0 h.symm,[],_,rfl,.nil,by rw[zW (by exact Nat.one_le_of_lt hN),h,show wt K other []=0 from rfl];exact Int.sub_eq_iff_eq_add'.mp rfl⟩
theorem aBN(h:3≤n)(kind:Nat):dX K own other (n - 1) kind=spr (aZ own other n kind) (dX K own other (n - 2)) K:=by
 obtain ⟨i,rfl⟩:∃i,n=i+3:=⟨n - 3,by exact (Nat.sub_eq_iff_eq_add h).mp rfl⟩;rfl
theorem aAX(h:2≤n):cB K own other (n - 1)=cB K own other (n - 2)*bY (aZ own other (n - 1)) K:=by
 obtain ⟨i,rfl⟩:∃i,n=i+2:=⟨n - 2,by exact (Nat.sub_eq_iff_eq_add h).mp rfl⟩;rfl
theorem PlI.step{N n kind a kind' ahead left:Nat}{spot:Int}(H:PlI K own other N spot n kind a)(hn:3≤n)(h:PartR K (aZ own other n kind) (aZ own other (n - 1)) (cB K own other (n - 2)) a kind' ahead left):PlI K own other N spot (n - 1) kind' left:=by
 refine cU H.ex λA B h1 h2 h3=>?_
 have hw:∀c,c<K→wt K other (dX K own other (n - 2) c)=aZ own other (n - 1) c*cB K own other (n - 2):=λc _=>zW (n:=n - 1) (bC [.le .k3 .p0,.le .p0 (.a .p1 .k1)] (.le .k1 .p1) aB hn (Nat.le_add_of_sub_le (Nat.le_refl _))) c
 refine cU (h.word hw) λcopy B2 g1 g2 g3=>?_
 rw[aBN hn,g1]at h1;refine⟨by exact Nat.le_sub_one_of_lt hn,by have:=H.nN;exact eF [.le .p0 .p1,.eq (.a .p2 .k1) .p0] (.le .p2 .p1) aB this (Nat.sub_add_cancel (lke hn aB)),h.lt,h.le,A++(spr (aZ own other n kind) (dX K own other (n - 2)) kind'++(List.replicate copy (dX K own other (n - 2) kind')).flatten),B2++B,?_,?_,?_⟩
 ·erw[h1,show n - 1 - 1=n - 2 by exact Eq.symm (Nat.sub_succ' n 1)];simp only[List.append_assoc]
 ·have hb:∀c,Bal K other (dX K own other (n - 2) c):=λc=>lC (n:=n - 1) (Nat.le_sub_one_of_lt hn) c
  exact h2.app ((Bal.spr _ λc _=>hb c).app ((hb _).rep _))
 ·erw[h3,g3,dQ K other A];exact Int.le_antisymm (eF [] (.ile (.a (.c .p0) (.c (.a .p1 .p2))) (.a (.c (.a .p0 .p1)) (.c .p2))) aB) (eF [] (.ile (.a (.c (.a .p0 .p1)) (.c .p2)) (.a (.c .p0) (.c (.a .p1 .p2)))) aB)
theorem PlI.fin{N kind a kind' ahead left:Nat}{spot:Int}(H:PlI K own other N spot 2 kind a)(h:PartR K (own kind) other K a kind' ahead left) :
  ∃head:Int,spot - a=(bY other K:Int)*head∧0<other kind'∧Dec K own other (N - 1) spot (head+ahead) kind' (left / other kind') (left % other kind'):=by
 refine cU H.ex λA B h1 h2 h3=>?_
 have hw:∀c,c<K→wt K other [c]=other c*K:=λc _=>by erw[fZ,Nat.mul_comm];rfl
 refine cU (h.word (W:=λc=>[c]) hw) λcopy B2 g1 g2 g3=>?_
 have e1:dX K own other (2 - 1) kind=spr (own kind) (λc=>[c]) K:=rfl;rw[e1,g1]at h1;have hle:=h.le;have hp:0<other kind':=Nat.pos_of_mul_pos_right (Nat.zero_lt_of_lt hle) ;have hL:Bal K other (dX K own other (N - 1) (K - 1)):=lC (Nat.le_trans H.n2 H.nN) _;unfold Bal at h2 hL;refine⟨(A.length:Int) - (dX K own other (N - 1) (K - 1)).length,?_,hp,?_,Nat.mod_lt _ hp,A++(spr (own kind) (λc=>[c]) kind'++(List.replicate copy [kind']).flatten),B2++B,?_,?_,?_⟩
 ·erw[Int.mul_sub,← Int.natCast_mul,← Int.natCast_mul,← h2,← hL];exact Int.le_antisymm (bQ 0 [_,_,_] [_] [.ieq (.a .p0 (.c .p0)) (.a (.c .p1) (.c .p2))] (.ile (.s .p0 (.c .p2)) (.s (.c .p1) (.c .p0))) aB h3) (bQ 0 [_,_,_] [_] [.ieq (.a (.c .p0) (.c .p1)) (.a .p0 (.c .p2))] (.ile (.s (.c .p0) (.c .p2)) (.s .p0 (.c .p1))) aB h3.symm)
 ·exact Nat.div_lt_of_lt_mul hle
 ·erw[h1];simp
 ·erw[List.length_append,List.length_append,lB,iJ,List.length_singleton,Nat.mul_one,g2];push_cast;exact Int.le_antisymm (bQ 0 [_,_,_] [_] [] (.ile (.a (.c .p0) (.a .p0 (.c .p1))) (.a (.a (.s (.c .p0) (.c .p2)) (.a .p0 (.c .p1))) (.c .p2))) aB) (bQ 0 [_,_,_] [_] [] (.ile (.a (.a (.s (.c .p0) (.c .p1)) (.a .p0 (.c .p2))) (.c .p1)) (.a (.c .p0) (.a .p0 (.c .p2)))) aB)
 ·have:=Nat.div_add_mod left (other kind');erw[h3,g3,dQ K other A];rw[Nat.mul_comm]at this;have h5:((left / other kind':Nat):Int)*(other kind':Int)=((left / other kind'*other kind':Nat):Int):=(Int.natCast_mul ..).symm;erw[h5];exact Int.le_antisymm (lz5 [.eq .p0 (.a .p1 .p2)] (.ile (.a (.c .p3) (.c (.a .p4 .p0))) (.a (.a (.c (.a .p3 .p4)) (.c .p1)) (.c .p2))) aB this.symm) (lz5 [.eq (.a .p0 .p1) .p2] (.ile (.a (.a (.c (.a .p3 .p4)) (.c .p0)) (.c .p1)) (.a (.c .p3) (.c (.a .p4 .p2)))) aB this)
theorem PlI.head(H:PlI K own other N spot 2 kind a):∃head:Int,spot - a=(bY other K:Int)*head:=by
 refine cU H.ex λA B h1 h2 h3=>?_
 have hL:Bal K other (dX K own other (N - 1) (K - 1)):=lC (Nat.le_trans H.n2 H.nN) _;unfold Bal at h2 hL;refine⟨(A.length:Int) - (dX K own other (N - 1) (K - 1)).length,?_⟩;erw[Int.mul_sub,← Int.natCast_mul,← Int.natCast_mul,← h2,← hL];exact Int.le_antisymm (bQ 0 [_,_,_] [_] [.ieq (.a .p0 (.c .p0)) (.a (.c .p1) (.c .p2))] (.ile (.s .p0 (.c .p2)) (.s (.c .p1) (.c .p0))) aB h3) (bQ 0 [_,_,_] [_] [.ieq (.a (.c .p0) (.c .p1)) (.a .p0 (.c .p2))] (.ile (.s (.c .p0) (.c .p2)) (.s .p0 (.c .p1))) aB h3.symm)
theorem vQ(hK:0<K)(h:dG K t):0<bY t K:=by
 obtain ⟨i,rfl⟩:∃i,K=i+1:=⟨K - 1,by exact (Nat.sub_eq_iff_eq_add hK).mp rfl⟩;have:=h i (Nat.lt_add_one i);show 0<bY t i+t i
 exact Nat.add_pos_right (bY t i) this
theorem zX{t:Nat→Nat}:∀k,k≤K→dG K t→k≤bY t k
 | 0,_,_=>Nat.zero_le _
 | k+1,hk,h=>by have:=zX k (by exact Nat.le_of_succ_le hk) h;have:=h k (by exact Nat.lt_of_succ_le hk);show k+1≤bY t k+t k;lia
theorem lD(hK:2≤K)(ho:dG K own)(ht:dG K other):∀n,2 ^ n≤cB K own other n
 | 0=>by show 1≤K;exact Nat.one_le_of_lt hK
 | n+1=>by
  show 2 ^ n*2≤cB K own other n*bY (aZ own other (n+1)) K
  exact Nat.mul_le_mul (lD hK ho ht n) (Nat.le_trans hK (zX K (Nat.le_refl _) (fO ho ht _)))
theorem mD(hK:2≤K)(ho:dG K own)(ht:dG K other)(n:Nat):∀d,cB K own other n≤cB K own other (n+d)
 | 0=>Nat.le_refl _
 | d+1=>Nat.le_trans (mD hK ho ht n d) (Nat.le_mul_of_pos_right _ (vQ (by exact Nat.zero_lt_of_lt hK) (fO ho ht _)))
end
set_option tactic.hygienic false
noncomputable abbrev aP(n:Nat):D:=.int (n:Int)
noncomputable abbrev lE(l:List Nat):D:=.lst (l.map aP)
theorem WS.stmt{k:Nat}{Q:Fl→aD→aF→Prop}{st st':Stmt}(e:st=st')(h:WS C led fe vs k (exec st' fe.env) Q):WS C led fe vs k (exec st fe.env) Q:=by
 erw[e];exact h
theorem aBO(h:WE C led fe vs k (eval e fe.env) (λd led1=>∃i,d=.int i∧Q .next vs led1))
  (hi:autoParam (interactive fe.env=false) cD) (hs:autoParam (swapsWith e none pos.line fe.env=pure false) cD):WS C led fe vs k (exec (.Expr e pos) fe.env) Q:=by
 intro F X hF hd A fz G s hA S;refine wpAny_Expr (aW (h F X hF hd A fz G s hA S) λv1 s1 fz1 G1 d1 led1 l1 g1 e1 S1 h1=>?_) hi hs
 (refine aL h1 λi o1 q=>?_;clear h1;subst o1)
 induction e1 using bG;exact⟨fz1,G1,F,vs,led1,.next,l1,g1,trivial,hF,hd,S1,q⟩
theorem mU(h:∀n∈ns,0≤n∧n≤1000000)(hl:ns.length≤100000):zK ns:=by
 have key:∀(l:List Int),(∀n∈l,0≤n∧n≤1000000)→0≤l.sum∧l.sum≤1000000*(l.length:Int):=by
  intro l;induction l with
  | nil=>intro _;simp
  | cons a l ih =>
   intro h;have h1:=ih λn hn=>h n (List.mem_cons_of_mem _ hn)
   have h2:=h a List.mem_cons_self;erw[List.sum_cons,List.length_cons];exact⟨(kC [.ile (.k 0) .p0,.ile (.k 0) .p1] (.ile (.k 0) (.a .p1 .p0)) aB h1.1 h2.1),(aFU [.ile .p0 (.l 1000000 (.c .p0)),.ile .p1 (.k 1000000)] (.ile (.a .p1 .p0) (.l 1000000 (.c (.a .p0 .k1)))) aB h1.2 h2.2)⟩
 refine⟨λn hn=>?_,λj hj=>?_⟩
 ·have:=h n hn;constructor<;>lia
 ·have h1:=key (ns.take j) λn hn=>h n (List.mem_of_mem_take hn)
  have h2:(ns.take j).length≤100000:=by erw[List.length_take];exact bC [.le .p0 (.k 100000),.le .p1 .p0] (.le .p1 (.k 100000)) aB hl (Nat.min_le_right _ _)
  constructor<;>lia
theorem vR(a b:Nat):((a:Int)).fmod b=((a % b:Nat):Int):=by erw[Int.fmod_eq_emod_of_nonneg _ (Int.natCast_nonneg b)];rfl
theorem vS(a b:Nat):((a:Int)).fdiv b=((a / b:Nat):Int):=by erw[Int.fdiv_eq_ediv_of_nonneg _ (Int.natCast_nonneg b)];rfl
section
variable {C:Cx} {Y led:aF} {k:Nat} {Q:D→aF→Prop}
theorem Op2.muln(h:Q (aP (a*b)) led)(hs:a<2 ^ 64):Op2 C Y led k (binaryOp .Mult) (aP a) (aP b) Q:=Op2.mul (by erw[← Int.natCast_mul];exact h) (Or.inl (by erw[Int.natAbs_natCast];exact hs))
theorem OpY.muln(h:Q (aP (a*b)) led)(hs:a<2 ^ 64):∀Y,Op2 C Y led k (binaryOp .Mult) (aP a) (aP b) Q:=λ_=>Op2.muln h hs
theorem Op2.modn(b:Nat)(h:Q (aP (a % b)) led)(hb:autoParam (b≠0) dD):Op2 C Y led k (binaryOp .Mod) (aP a) (aP b) Q:=Op2.mod (by lia) (by erw[vR];exact h)
theorem OpY.modn(b:Nat)(h:Q (aP (a % b)) led)(hb:autoParam (b≠0) dD):∀Y,Op2 C Y led k (binaryOp .Mod) (aP a) (aP b) Q:=λ_=>Op2.modn b h hb
theorem Op2.fdivn(b:Nat)(h:Q (aP (a / b)) led)(hb:autoParam (b≠0) dD)(hb2:autoParam (b<2 ^ 64) dD):Op2 C Y led k (binaryOp .FloorDiv) (aP a) (aP b) Q:=Op2.fdiv (by lia) (by erw[vS];exact h) (cF (bF [.lt .p0 (.k 18446744073709551616)] (.ilt (.c .p0) (.c (.k 18446744073709551616))) aB hb2) (bF [] (.ilt (.g (.c .p0)) (.c (.k 18446744073709551616))) aB))
theorem OpY.fdivn(b:Nat)(h:Q (aP (a / b)) led)(hb:autoParam (b≠0) dD)(hb2:autoParam (b<2 ^ 64) dD):∀Y,Op2 C Y led k (binaryOp .FloorDiv) (aP a) (aP b) Q:=λ_=>Op2.fdivn b h hb hb2
theorem CallW.sumn(hs:∀n∈ns,n≤1000000)(hl:ns.length≤100000)(h:Q (aP ns.sum) led):CallW C Y led k (.blt "sum") [lE ns] Q:=by
 have e:(ns.map λn:Nat=>(n:Int)).sum=(ns.sum:Int):=by
  clear hs hl h;induction ns with
  | nil=>rfl
  | cons a l ih=>erw[List.map_cons,List.sum_cons,List.sum_cons,ih];push_cast;rfl
 have:=CallW.sum (C:=C) (Y:=Y) (k:=k) (Q:=Q) (led:=led) (ns:=ns.map λn:Nat=>(n:Int)) (mU (λn hn=>by
  (refine aL (List.mem_map.mp hn) λm hm o1=>?_;subst o1)
  have:=hs m hm
  constructor<;>lia) (by erw[List.length_map];exact hl)) (by erw[e];exact h)
 rw[List.map_map]at this;exact this
theorem KcY.sumn(hs:∀n∈ns,n≤1000000)(hl:ns.length≤100000)(h:Q (aP ns.sum) led):∀Y,KCal C Y led k (.blt "sum") [lE ns] Q:=λ_=>⟨KeepOk.blt _,CallW.sumn hs hl h⟩
end
noncomputable abbrev qV(K:Nat)(t:Nat→Nat):List Nat:=(List.range K).map t
noncomputable abbrev fH(K:Nat)(t:Nat→Nat):D:=lE (qV K t)
theorem vT(t:Nat→Nat):∀K,(qV K t).sum=bY t K
 | 0=>rfl
 | k+1=>by
  have ih:=vT t k;unfold qV at *;rw[List.range_succ,List.map_append,List.sum_append,ih];exact rfl
theorem eX{K:Nat}{i:Nat}(h:i<K):((qV K t).map aP)[((i:Nat):Int).toNat]?=some (aP (t i)):=by
 erw[Int.toNat_natCast,List.getElem?_map,List.getElem?_map,List.getElem?_range h];rfl
set_option tactic.hygienic false
noncomputable abbrev ptV(K copies:Nat)(tb:Nat→Nat)(u a kd:Nat):aD:=[("copies",.int (copies:Int)),("table",fH K tb),("unit",.int (u:Int)),("at",.int (a:Int)),("kind",.int (kd:Int))]
structure PtI (K copies:Nat) (tb:Nat→Nat) (u at_:Nat) (led:aF) (n:Nat) (vs:aD) (led':aF):Prop where
 led:led'=led
 ex:∃a kd,vs=ptV K copies tb u a kd∧kd<K∧n=K - kd∧at_=copies*(bY tb kd*u)+a
theorem zY(t:Nat→Nat){k:Nat}:∀d,bY t k≤bY t (k+d)
 | 0=>Nat.le_refl _
 | d+1=>Nat.le_trans (zY t d) (Nat.le_add_right _ _)
theorem aCT(t:Nat→Nat){k K:Nat}(h:k<K):bY t k+t k≤bY t K:=by
 have:=zY t (k:=k+1) (K - (k+1));rw[show k+1+(K - (k+1))=K by exact Nat.add_sub_of_le h]at this;exact this
theorem jY(V:DivEnv C){k:Nat}{K copies u at_:Nat}(hm:C.mg "int_divmod"=some (.ref fi))(hf:GFn C fi (aQ 10))(h:GFn C f (aQ 19))
  (hlt:at_<copies*(bY tb K*u)) (hpos:∀c,c<K→0<tb c*u) (hK:K<100) (hsz:bY tb K*u<2 ^ 29) (hat:at_<2 ^ 29) (hc:copies<1000) (hu:u<2 ^ 29)
  (hq:∀kind ahead left,PartR K copies tb u at_ kind ahead left→Q (.tup [.int (kind:Int),.int (ahead:Int),.int (left:Int)]) led) :
  CallW C Y led (k+90) (.ref f) [.int (copies:Int),fH K tb,.int (u:Int),.int (at_:Int)] Q:=by
 have N:=V.N;refine (CodeW.gfn h rfl [("copies",.int (copies:Int)),("table",fH K tb),("unit",.int (u:Int)),("at",.int (at_:Int))] rfl rfl λL cs q code=>?_).call;walk_at "v"
 have hK0:0<K:=by
  cases K with
  | zero=>rw[show bY tb 0=0 from rfl,Nat.zero_mul,Nat.mul_zero]at hlt;exact absurd hlt (Nat.not_lt_zero _)
  | succ n=>exact Nat.succ_pos n
 refine WS.sub (vs:=ptV K copies tb u at_ 0) ?_ rfl;refine iU (PtI K copies tb u at_ led) K ⟨rfl,at_,0,rfl,hK0,rfl,by erw[show bY tb 0=0 from rfl,Nat.zero_mul,Nat.mul_zero,Nat.zero_add]⟩ ?_;intro n vs led2 o21;obtain ⟨rfl,a,kd,rfl,hkd,rfl,hat2⟩:=o21;have hle:bY tb kd+tb kd≤bY tb K:=aCT tb hkd;have hle2:bY tb kd*u+tb kd*u≤bY tb K*u:=by erw[← Nat.add_mul];exact Nat.mul_le_mul_right _ hle
 have htb:tb kd≤tb kd*u:=Nat.le_mul_of_pos_right _ (Nat.pos_of_mul_pos_left (hpos kd hkd));have hct:copies*tb kd≤1000*2 ^ 29:=Nat.mul_le_mul (Nat.le_of_succ_le hc) (lN [.lt .p0 (.k 536870912),.le (.a .p1 .p2) .p0,.le .p3 .p2] (.le .p3 (.k 536870912)) aB hsz hle2 htb);walk_at "v";refine SuY.lst (Int.natCast_nonneg kd) (bC [.lt .p0 (.k 100),.lt .p1 .p0] (.ilt (.c .p1) (.k 9223372036854775808)) aB hK hkd) (eX hkd) ?_;refine OpY.muln ?_ (lkc hc aB);walk_at "v";refine OpY.muln ?_ (bF [.le .p0 (.l 1000 (.k 536870912))] (.lt .p0 (.k 18446744073709551616)) aB hct);walk_at "v";have hcu:copies*tb kd*u=copies*(tb kd*u):=Nat.mul_assoc ..;have hcl:copies*(bY tb kd*u)+copies*(tb kd*u)≤copies*(bY tb K*u):=by erw[← Nat.mul_add];exact Nat.mul_le_mul_left _ hle2
 erw[hcu];refine⟨λhb=>?_,λhb=>?_⟩
 ·have hge:copies*(tb kd*u)≤a:=Int.ofNat_le.mp (of_decide_eq_true hb)
  have hk1:kd+1<K:=by
   rcases Nat.lt_or_ge (kd+1) K with q|q
   ·exact q
   ·rw[show K=kd+1 by exact Eq.symm (Nat.le_antisymm hkd q)]at hlt;rw[show bY tb (kd+1)=bY tb kd+tb kd from rfl,Nat.add_mul,Nat.mul_add]at hlt;lia
  refine WS.cons (fY (names:=["at","kind"]) ?_);walk_at "v";refine SuY.lst (Int.natCast_nonneg kd) (bC [.lt .p0 (.k 100),.lt (.a .p1 .k1) .p0] (.ilt (.c .p1) (.k 9223372036854775808)) aB hK hk1) (eX hkd) ?_;refine OpY.muln ?_ (lkc hc aB);walk_at "v";refine OpY.muln ?_ (bF [.le .p0 (.l 1000 (.k 536870912))] (.lt .p0 (.k 18446744073709551616)) aB hct);walk_at "v";refine⟨by exact Nat.le_of_ble_eq_true rfl,_,rfl,rfl,?_⟩;show WUL C _ _ _ _ [bindName _ "kind",bindName _ "at"] [_,_] _
  walk_at "v";erw[hcu];refine⟨K - (kd+1),ptV K copies tb u (a - copies*(tb kd*u)) (kd+1),by exact Nat.sub_succ_lt_self K kd hkd,Sub.of ⟨rfl,rfl,rfl,?_,rfl,trivial⟩,rfl,_,_,rfl,hk1,rfl,?_⟩
  ·show some (D.int _)=some (D.int _)
   erw[show (a:Int) - ((copies*(tb kd*u):Nat):Int)=((a - copies*(tb kd*u):Nat):Int) by exact Eq.symm (Int.ofNat_sub hge)]
  ·erw[show bY tb (kd+1)=bY tb kd+tb kd from rfl,Nat.add_mul,Nat.mul_add];lia
 ·have hlt2:a<copies*(tb kd*u):=by
   exact Nat.lt_of_not_le λz=>of_decide_eq_false hb (Int.ofNat_le.mpr z)
  have hp:=hpos kd hkd;walk_at "v";refine aI ?_;walk_at "v";refine SuY.lst (Int.natCast_nonneg kd) (bC [.lt .p0 (.k 100),.lt .p1 .p0] (.ilt (.c .p1) (.k 9223372036854775808)) aB hK hkd) (eX hkd) ?_;walk_at "v";refine OpY.muln ?_ (lN [.lt .p0 (.k 536870912),.le (.a .p1 .p2) .p0,.le .p3 .p2] (.lt .p3 (.k 18446744073709551616)) aB hsz hle2 htb);walk_at "v";refine Y1 (λ_ z9=>⟨hf.keep,(eC (k:=k) V hm hf 4 (by split<;>split<;>lia) (Int.natCast_ne_zero_iff_pos.mpr (hpos kd hkd)) (cF (eF [.lt .p0 (.k 536870912),.le (.a .p1 .p2) .p0] (.ilt (.c .p2) (.c (.k 536870912))) aB hsz hle2) (bF [] (.ilt (.g (.c .p0)) (.c (.k 536870912))) aB)) (cF (eF [.lt .p0 (.k 536870912),.eq (.a .p1 .p2) .p0] (.ilt (.c .p2) (.c (.k 536870912))) aB hat hat2.symm) (bF [] (.ilt (.g (.c .p0)) (.c (.k 536870912))) aB)) z9).up (bF [] (.le (.a (.a .p0 (.k 81)) (.k 4)) (.a .p0 (.k 89))) aB)⟩) ?_;walk_at "v"; intro _;erw[Int.fdiv_eq_ediv_of_nonneg _ (Int.natCast_nonneg (tb kd*u)),Int.fmod_eq_emod_of_nonneg _ (Int.natCast_nonneg (tb kd*u)),← Int.natCast_ediv,← Int.natCast_emod];refine Op2.muln ?_ (lkc hc aB);walk_at "v";erw[← Int.natCast_add];have hdm:=Nat.div_add_mod a (tb kd*u);refine⟨by exact Nat.le_of_ble_eq_true rfl,?_⟩;refine hq kd (copies*kd+a / (tb kd*u)) (a % (tb kd*u)) ⟨hkd,Nat.mod_lt _ hp,a / (tb kd*u),Nat.div_lt_of_lt_mul ?_,rfl,?_⟩
  ·erw[Nat.mul_comm];exact hlt2
  ·erw[hat2,Nat.mul_comm (a / _),Nat.add_assoc,hdm]
set_option tactic.hygienic false
noncomputable abbrev uL(K:Nat)(own other:Nat→Nat)(n:Nat):List D:=(List.range n).map λi=>aP (cB K own other i)
section
variable {K:Nat} {own other:Nat→Nat}
theorem bW(n:Nat):(uL K own other n).length=n:=by simp
theorem lF(h:0<n):(uL K own other n)[(-1+((uL K own other n).length:Int)).toNat]?=some (aP (cB K own other (n - 1))):=by
 erw[bW,aDj,List.getElem?_map,List.getElem?_range (Nat.sub_one_lt_of_lt h)];rfl
theorem zZ(n:Nat):uL K own other n++[aP (cB K own other n)]=uL K own other (n+1):=by
 unfold uL;erw[List.range_succ,List.map_append];rfl
theorem aD9(n:Nat):(uL K own other (n+1)).dropLast=uL K own other n:=by erw[← zZ,List.dropLast_concat]
theorem eV(n:Nat):[fH K own,fH K other][((n % 2:Nat):Int).toNat]?=some (fH K (aZ own other n)):=by
 erw[Int.toNat_natCast];unfold aZ;rcases Nat.mod_two_eq_zero_or_one n with h|h<;>erw[h]<;>rfl
theorem vU(hK:0<K)(t:Nat→Nat):((qV K t).map aP)[(-1+(((qV K t).map aP).length:Int)).toNat]?=some (aP (t (K - 1))):=by
 erw[List.length_map,List.length_map,List.length_range,aDj,List.getElem?_map,List.getElem?_map,List.getElem?_range (Nat.sub_one_lt_of_lt hK)];rfl
end
noncomputable abbrev plV(K:Nat)(own other:Nat→Nat)(place spot back:Int)(m:Addr):aD:=[("own",fH K own),("other",fH K other),("place",.int place),("kinds",aP K),("tables",.lst [fH K own,fH K other]),("units",.ref m),("spot",.int spot),("back",.int back)]
noncomputable abbrev plW(K:Nat)(own other:Nat→Nat)(place spot back:Int)(m:Addr)(kind a:Nat):aD:=[("own",fH K own),("other",fH K other),("place",.int place),("kinds",aP K),("tables",.lst [fH K own,fH K other]),("units",.ref m),("spot",.int spot),("back",.int back),("kind",aP kind),("at",aP a)]
structure TbOk (K:Nat) (t:Nat→Nat):Prop where
 pos:dG K t
 le:∀c,c<K→t c≤3
theorem TbOk.sum{K:Nat}{t:Nat→Nat}(h:TbOk K t):∀k,k≤K→bY t k≤3*k
 | 0,_=>Nat.le_refl _
 | k+1,hk=>by have:=h.sum k (by exact Nat.le_of_succ_le hk);have:=h.le k (by exact Nat.lt_of_succ_le hk);show bY t k+t k≤_;lia
theorem TbOk.at{K:Nat}(h:TbOk K own)(h2:TbOk K other)(n:Nat):TbOk K (aZ own other n):=by
 unfold aZ;split<;>assumption
theorem TbOk.sumn{K:Nat}(h:TbOk K t)(hK:K≤3){k:Nat}(hq:Q (aP (bY t K)) led):CallW C Y led k (.blt "sum") [fH K t] Q:=by
 refine CallW.sumn (λn hn=>?_) (by simp;exact eJ hK aB) (by erw[vT];exact hq)
 (refine aL (List.mem_map.mp hn) λi hi o1=>?_;subst o1)
 have:=h.le i (List.mem_range.mp hi);exact eJ this aB
theorem TbOk.sumY{K:Nat}(h:TbOk K t)(hK:K≤3){k:Nat}(hq:Q (aP (bY t K)) led):∀Y,KCal C Y led k (.blt "sum") [fH K t] Q:=λ_=>⟨KeepOk.blt _,TbOk.sumn h hK hq⟩
theorem yB{a:Int}{b n:Nat}(hb:0<b)(h:a.natAbs≤n):(a.fdiv b).natAbs≤n:=by
 erw[Int.fdiv_eq_ediv_of_nonneg _ (Int.natCast_nonneg b)];have h1:=Int.ediv_mul_le a (b:=(b:Int)) (Int.natCast_ne_zero_iff_pos.mpr hb);have h2:=Int.lt_ediv_add_one_mul_self a (b:=(b:Int)) (Int.natCast_pos.mpr hb);by_cases ha:a<0
 ·have:-(n:Int)≤a / b:=Int.le_ediv_of_mul_le (Int.natCast_pos.mpr hb) (by
   have:(n:Int)*1≤n*b:=Int.mul_le_mul_of_nonneg_left (Int.toNat_le.mp hb) (Int.natCast_nonneg n)
   erw[Int.neg_mul];lia)
  have h3:a / (b:Int)≤0:=by have:=Int.ediv_neg_of_neg_of_pos ha (show (0:Int)<b by exact Int.natCast_pos.mpr hb);exact Int.le_of_lt this
  exact nI (nB [.ile .p0 (.k 0)] (.ile .p0 (.c .p0)) aB h3) (nB [.ile (.g (.c .p0)) .p0] (.ile (.g .p0) (.c .p0)) aB this)
 ·have ha:0≤a:=Int.not_lt.mp ha;have:=Int.ediv_le_self (b:=(b:Int)) ha;have:=Int.ediv_nonneg ha (show (0:Int)≤b by exact Int.natCast_nonneg b);lia
structure PlU (K:Nat) (own other:Nat→Nat) (place spot back:Int) (m:Addr) (led:aF) (j:Nat) (vs:aD) (led':aF):Prop where
 vs:vs=plV K own other place spot back m
 ex:∃n,led'=upd led m (.list (uL K own other n))∧2≤n∧j=40 - n∧cB K own other (n - 1)≤9*2 ^ 20
structure PlD (K:Nat) (own other:Nat→Nat) (place spot back:Int) (m:Addr) (led:aF) (N n:Nat) (vs:aD) (led':aF):Prop where
 led:led'=upd led m (.list (uL K own other n))
 ex:∃kind a,vs=plW K own other place spot back m kind a∧PlI K own other N spot n kind a
set_option maxHeartbeats 4000000 in
theorem jD(V:DivEnv C){k:Nat}{K:Nat}{place:Int}(hm:C.mg "int_divmod"=some (.ref fi))(hf:GFn C fi (aQ 10))(hmp:C.mg "_law_part"=some (.ref fp))(hfp:GFn C fp (aQ 19))(h:GFn C f (aQ 20))
  (hK:2≤K) (hK3:K≤3) (ho:TbOk K own) (ht:TbOk K other) (hp:place.natAbs≤2 ^ 20)
  (hq:∀r1 r2 r3,PlaceR K own other place r1 r2 r3→Q (.tup [.int r1,.int r2,.int r3]) led) :
  CallW C Y led (k+100) (.ref f) [fH K own,fH K other,.int place] Q:=by
 have N:=V.N;refine CallW.less ?_;refine (CodeW.gfn h rfl [("own",fH K own),("other",fH K other),("place",.int place)] rfl rfl λL cs q code=>?_).call;have hlo:((qV K own).map aP).length=K:=by simp
 have hlt:((qV K other).map aP).length=K:=by simp
 refine WS.cons (fY (names:=["kinds","tables","units"]) ?_);walk_at "v";refine aI ?_;walk_at "v";refine KcY.len_lst (by rw[hlo];exact gN hK3 aB) ?_;rw[hlo];walk_at "v";refine WE.list ?_;walk_at "v";refine⟨by exact Nat.le_of_ble_eq_true rfl,?_⟩;walk_at "v";refine WE.listM ?_;walk_at "v";refine aI ?_;walk_at "v";refine KcY.len_lst (by rw[hlo];exact gN hK3 aB) ?_;rw[hlo];walk_at "v";refine aI ?_;walk_at "v";refine KcY.len_lst (by rw[hlo];exact gN hK3 aB) ?_;rw[hlo];refine aI ?_;walk_at "v";refine ht.sumY hK3 ?_;refine OpY.muln ?_ (by exact gN hK3 aB);walk_at "v";refine⟨by exact Nat.le_of_ble_eq_true rfl,λm hfm=>?_⟩;walk_at "v";refine⟨by exact Nat.le_of_ble_eq_true rfl,_,rfl,rfl,?_⟩;show WUL C _ _ _ _ [bindName _ "units",bindName _ "tables",bindName _ "kinds"] [_,_,_] _
 walk_at "v";refine aI ?_;walk_at "v";refine Y1 (λ_ z9=>⟨hf.keep,(eC (k:=k+10) V hm hf 4 (by split<;>split<;>lia) (by exact Int.ne_of_lt (bF [.le .k2 .p0] (.ilt (.g (.c .p0)) (.k 0)) aB hK)) (by exact cF (bF [.le .k2 .p0] (.ilt (.g (.c .p0)) (.c (.k 536870912))) aB hK) (bF [.le .p0 .k3] (.ilt (.g (.g (.c .p0))) (.c (.k 536870912))) aB hK3)) (by exact cF (nB [.le .p0 (.k 1048576),.ile (.g .p0) (.c .p0)] (.ilt (.g .p0) (.c (.k 536870912))) aB hp tZ) (nB [.le .p0 (.k 1048576),.ile .p0 (.c .p0)] (.ilt (.g (.g .p0)) (.c (.k 536870912))) aB hp (Int.le_natAbs))) z9).up (by exact bF [] (.le (.a (.a (.a .p0 (.k 10)) (.k 81)) (.k 4)) (.a .p0 (.k 99))) aB)⟩) ?_;walk_at "v";refine WS.sub (vs:=plV K own other place ((-place).fdiv (-(K:Int))) ((-place).fmod (-(K:Int))) m) ?_ rfl;rw[Int.neg_fdiv_neg,Int.neg_fmod_neg];have hdm:=Int.mul_fdiv_add_fmod place K;have hb0:=Int.fmod_nonneg_of_pos place (b:=(K:Int)) (by exact bF [.le .k2 .p0] (.ilt (.k 0) (.c .p0)) aB hK);have hb1:=Int.fmod_lt_of_pos place (b:=(K:Int)) (by exact bF [.le .k2 .p0] (.ilt (.k 0) (.c .p0)) aB hK);have hsp:=yB (b:=K) (by exact Nat.zero_lt_of_lt hK) hp;generalize hspot:place.fdiv K=spot at *;obtain ⟨b,hb⟩:=Int.eq_ofNat_of_zero_le hb0;rw[hb]at hdm hb1 ⊢;clear hb0 hb;have hU1:[D.int (K:Int),aP (K*bY other K)]=uL K own other 2:=rfl;rw[hU1];refine iU (PlU K own other place spot (-(b:Int)) m led) 38 ⟨rfl,2,rfl,Nat.le_refl _,rfl,?_⟩ ?_
 ·have h1:=ht.sum K (Nat.le_refl _);have:K*bY other K≤3*(3*3):=Nat.mul_le_mul hK3 (by exact bC [.t 3 (.le .p0 .k3),.le .p1 (.l 3 .p0)] (.le .p1 (.l 3 .k3)) aB hK3 h1);show K*bY other K≤_
  exact bF [.le .p0 (.l 3 (.l 3 .k3))] (.le .p0 (.l 9 (.k 1048576))) aB this
 ·intro j vs2 led2 o21;obtain ⟨rfl,n,rfl,hn2,rfl,hun⟩:=o21;have hu:upd led m (M.list (uL K own other n)) m=some (.list (uL K own other n)):=aA ..
  have hn40:n≤40:=by
   rcases Nat.lt_or_ge 40 n with q|q
   ·have h1:=lD hK ho.pos ht.pos (n - 1);have h2:2 ^ 40≤2 ^ (n - 1):=Nat.pow_le_pow_right (by decide) (by exact Nat.le_sub_one_of_lt q);exact absurd (Nat.le_trans h2 (Nat.le_trans h1 hun)) (by decide)
   ·exact q
  have hT:=ho.at ht n;have hT0:=hT.le 0 (by exact Nat.zero_lt_of_lt hK);have hTK:=hT.le (K - 1) (by exact Nat.sub_one_lt_of_lt hK);have hp0:=hT.pos 0 (by exact Nat.zero_lt_of_lt hK);have hpK:=hT.pos (K - 1) (by exact Nat.sub_one_lt_of_lt hK);have hm0:cB K own other (n - 1)≤aZ own other n 0*cB K own other (n - 1):=Nat.le_mul_of_pos_left _ hp0;have hmK:cB K own other (n - 1)≤aZ own other n (K - 1)*cB K own other (n - 1):=Nat.le_mul_of_pos_left _ hpK;have hm3:aZ own other n (K - 1)*cB K own other (n - 1)≤3*(9*2 ^ 20):=Nat.mul_le_mul hTK hun;refine WB.mono (Q:=λb' led'=>led'=upd led m (.list (uL K own other n))∧(b'=true→cB K own other (n - 1)≤2 ^ 20)∧(b'=false→spot<((aZ own other n 0*cB K own other (n - 1):Nat):Int)∧-((aZ own other n (K - 1)*cB K own other (n - 1):Nat):Int)≤spot)) ?_ ?_
  ·walk_at "v";refine aI ?_;walk_at "v";refine KcY.len_ref hu (by rw[bW];exact gN hn40 aB) ?_;rw[bW];walk_at "v";refine OpY.modn 2 ?_;refine SuY.lst (by exact Int.natCast_nonneg (n % 2)) (by exact lO (Nat.mod_lt _ (by decide)) aB) (eV n) ?_;walk_at "v";refine SuY.lst (by exact Int.zero_le_ofNat 0) (by exact z63) (eX (i:=0) (by exact Nat.zero_lt_of_lt hK)) ?_;walk_at "v";refine SuY.ref_neg hu (by exact Int.sign_eq_neg_one_iff_neg.mp rfl) (by rw[bW];exact bF [.le .k2 .p0] (.ile (.g (.c .p0)) (.g (.k 1))) aB hn2) (by rw[bW];exact gN hn40 aB) (lF (by exact Nat.zero_lt_of_lt hn2)) ?_;refine OpY.muln ?_ (by exact gN hT0 aB);walk_at "v";refine⟨λhb=>?_,λhb=>⟨rfl,λ_=>?_,λz=>by exact dO z⟩⟩
   ·have hb1:spot<((aZ own other n 0*cB K own other (n - 1):Nat):Int):=Int.not_le.mp (of_decide_eq_false hb);walk_at "v";refine aI ?_;walk_at "v";refine KcY.len_ref hu (by rw[bW];exact gN hn40 aB) ?_;rw[bW];walk_at "v";refine OpY.modn 2 ?_;refine SuY.lst (by exact Int.natCast_nonneg (n % 2)) (by exact lO (Nat.mod_lt _ (by decide)) aB) (eV n) ?_;walk_at "v";refine SuY.lst_neg (by exact Int.sign_eq_neg_one_iff_neg.mp rfl) (by rw[List.length_map,List.length_map,List.length_range];exact bF [.le .k2 .p0] (.ile (.g (.c .p0)) (.g (.k 1))) aB hK) (by rw[List.length_map,List.length_map,List.length_range];exact gN hK3 aB) (vU (by exact Nat.zero_lt_of_lt hK) _) ?_;walk_at "v";refine SuY.ref_neg hu (by exact Int.sign_eq_neg_one_iff_neg.mp rfl) (by rw[bW];exact bF [.le .k2 .p0] (.ile (.g (.c .p0)) (.g (.k 1))) aB hn2) (by rw[bW];exact gN hn40 aB) (lF (by exact Nat.zero_lt_of_lt hn2)) ?_;refine OpY.mul ?_ (Or.inl (by exact cF (bF [.lt (.k 0) .p0] (.ilt (.g (.c .p0)) (.c (.k 18446744073709551616))) aB hpK) (bF [.le .p0 .k3] (.ilt (.g (.g (.c .p0))) (.c (.k 18446744073709551616))) aB hTK)));rw[Int.neg_mul,← Int.natCast_mul];walk_at "v";refine⟨λhb2=>?_,λhb2=>⟨rfl,λ_=>?_,λz=>by exact dO z⟩⟩
    ·walk_at "v";exact⟨rfl,λz=>(by exact dK z),λ_=>⟨hb1,Int.not_lt.mp (of_decide_eq_false hb2)⟩⟩
    ·have:=of_decide_eq_true hb2;lia
   ·have:=of_decide_eq_true hb;lia
  ·intro b' led' o21;(refine jW o21 λo1 h1 h0=>?_;clear o21;subst o1);refine⟨λhb=>?_,λhb=>?_⟩
   ·have h1:=h1 hb;clear h0;walk_at "v";refine cQ (pl:=_) ?_;walk_at "v";refine⟨_,_,λY=>GetM.append hu,?_⟩;walk_at "v";refine SuY.ref_neg hu (by exact Int.sign_eq_neg_one_iff_neg.mp rfl) (by rw[bW];exact bF [.le .k2 .p0] (.ile (.g (.c .p0)) (.g (.k 1))) aB hn2) (by rw[bW];exact gN hn40 aB) (lF (by exact Nat.zero_lt_of_lt hn2)) ?_;refine aI ?_;walk_at "v";refine aI ?_;walk_at "v";refine KcY.len_ref hu (by rw[bW];exact gN hn40 aB) ?_;rw[bW];walk_at "v";refine OpY.modn 2 ?_;refine SuY.lst (by exact Int.natCast_nonneg (n % 2)) (by exact lO (Nat.mod_lt _ (by decide)) aB) (eV n) ?_;walk_at "v";refine hT.sumY hK3 ?_;refine OpY.muln ?_ (by lia);walk_at "v";refine KcY.append hu (by rw[bW];exact eJ hn40 aB) ?_;refine⟨rfl,?_⟩
    have e1:cB K own other (n - 1)*bY (aZ own other n) K=cB K own other n:=by
     obtain ⟨i,rfl⟩:∃i,n=i+1:=⟨n - 1,by exact Nat.le_antisymm (bC [.le .p0 (.a .p1 .k1)] (.le .p0 (.a .p1 .k1)) aB (Nat.le_add_of_sub_le (Nat.le_refl _))) (bC [.eq (.a .p0 .k1) .p1] (.le (.a .p0 .k1) .p1) aB (Nat.sub_add_cancel (lke hn2 aB)))⟩;rfl
    rw[e1,zZ,dR];have hs:=hT.sum K (Nat.le_refl _);have e2:cB K own other (n - 1)*bY (aZ own other n) K≤2 ^ 20*9:=Nat.mul_le_mul h1 (by exact bC [.t 3 (.le .p0 .k3),.le .p1 (.l 3 .p0)] (.le .p1 (.k 9)) aB hK3 hs);walk_at "v";refine⟨40 - (n+1),plV K own other place spot (-(b:Int)) m,?_,rfl,rfl,n+1,rfl,by exact Nat.le_add_right_of_le hn2,rfl,?_⟩
    ·have:=lD hK ho.pos ht.pos (n - 1)
     have h3:n - 1<21:=by
      rcases Nat.lt_or_ge (n - 1) 21 with q|q
      ·exact q
      ·exact absurd (Nat.le_trans (Nat.pow_le_pow_right (by decide) q) (Nat.le_trans this h1)) (by decide)
     exact Nat.sub_lt_sub_left (Nat.lt_of_le_of_lt (Nat.le_add_of_sub_le (Nat.le_of_lt h3)) (by decide)) (Nat.lt_succ_self n)
    ·rw[Nat.add_sub_cancel,← e1];exact bF [.le .p0 (.r (.k 1048576) (nat_lit 9))] (.le .p0 (.l 9 (.k 1048576))) aB e2
   ·have h0:=h0 hb;clear h1 hb;refine pG (λvs led'=>led'=upd led m (.list (uL K own other n))∧∃kind a,Sub (plW K own other place spot (-(b:Int)) m kind a) vs∧PlI K own other n spot n kind a) ?_ ?_
    ·walk_at "v";refine⟨λhb=>?_,λhb=>?_⟩
     ·obtain ⟨a,rfl⟩:=Int.eq_ofNat_of_zero_le (of_decide_eq_true hb);walk_at "v";refine⟨by exact Nat.le_of_ble_eq_true rfl,?_⟩;walk_at "v";exact⟨rfl,rfl,0,a,rfl,.right (by exact Nat.zero_lt_of_lt hK) hn2 (by exact bC [.ilt (.c .p0) (.c .p1)] (.lt .p0 .p1) aB h0.1)⟩
     ·have hneg:spot<0:=Int.not_le.mp (of_decide_eq_false hb);walk_at "v";refine aI ?_;walk_at "v";refine KcY.len_ref hu (by rw[bW];exact gN hn40 aB) ?_;rw[bW];walk_at "v";refine OpY.modn 2 ?_;refine SuY.lst (by exact Int.natCast_nonneg (n % 2)) (by exact lO (Nat.mod_lt _ (by decide)) aB) (eV n) ?_;walk_at "v";refine SuY.lst_neg (by exact Int.sign_eq_neg_one_iff_neg.mp rfl) (by rw[List.length_map,List.length_map,List.length_range];exact bF [.le .k2 .p0] (.ile (.g (.c .p0)) (.g (.k 1))) aB hK) (by rw[List.length_map,List.length_map,List.length_range];exact gN hK3 aB) (vU (by exact Nat.zero_lt_of_lt hK) _) ?_;walk_at "v";refine SuY.ref_neg hu (by exact Int.sign_eq_neg_one_iff_neg.mp rfl) (by rw[bW];exact bF [.le .k2 .p0] (.ile (.g (.c .p0)) (.g (.k 1))) aB hn2) (by rw[bW];exact gN hn40 aB) (lF (by exact Nat.zero_lt_of_lt hn2)) ?_;refine OpY.muln ?_ (by exact gN hTK aB);walk_at "v";refine⟨by exact Nat.le_of_ble_eq_true rfl,?_⟩;walk_at "v";obtain ⟨a,ha⟩:=Int.eq_ofNat_of_zero_le (show 0≤spot+((aZ own other n (K - 1)*cB K own other (n - 1):Nat):Int) by exact nB [.ile (.g (.c .p0)) .p0] (.ile (.k 0) (.a .p0 (.c .p0))) aB h0.2);refine⟨rfl,rfl,K - 1,a,Sub.of ⟨rfl,rfl,rfl,rfl,rfl,rfl,rfl,rfl,?_,?_,trivial⟩,.left (by exact Nat.zero_lt_of_lt hK) hn2 hneg ha⟩
      ·show some (D.int _)=some (D.int _)
       rw[show (K:Int) - 1=((K - 1:Nat):Int) by exact Int.le_antisymm (bC [.le .p0 (.a .p1 .k1)] (.ile (.s (.c .p0) (.k 1)) (.c .p1)) aB (Nat.le_add_of_sub_le (Nat.le_refl _))) (bC [.eq (.a .p0 .k1) .p1] (.ile (.c .p0) (.s (.c .p1) (.k 1))) aB (Nat.sub_add_cancel (lke hK aB)))]
      ·rw[ha];rfl
    ·intro vs2 led2 o21;obtain ⟨rfl,kind,a,hsub,hI⟩:=o21;refine WS.sub ?_ hsub;walk_at "v";clear hu;refine iU (PlD K own other place spot (-(b:Int)) m led n) n ⟨rfl,kind,a,rfl,hI⟩ ?_;intro nn vs3 led3 o21;obtain ⟨rfl,kind,a,rfl,hI⟩:=o21;have hu:upd led m (M.list (uL K own other nn)) m=some (.list (uL K own other nn)):=aA ..;have hnn:=hI.nN;have hn2':=hI.n2;have hkd:=hI.kd;have hTn:=ho.at ht nn;have hTk:=hTn.le kind hkd
     have hUn:cB K own other (nn - 1)≤9*2 ^ 20:=by
      have:=mD hK ho.pos ht.pos (nn - 1) (n - nn);rw[show nn - 1+(n - nn)=n - 1 by exact Nat.le_antisymm (lz5 [.eq (.a .p0 .k1) .p1,.eq (.a .p2 .p1) .p3,.le .p3 (.a .p4 .k1)] (.le (.a .p0 .p2) .p4) aB (Nat.sub_add_cancel (lke hn2' aB)) (Nat.sub_add_cancel (bC [.le .p0 .p1] (.le .p0 .p1) aB hnn)) (Nat.le_add_of_sub_le (Nat.le_refl _))) (lz5 [.le .p0 (.a .p1 .k1),.le .p2 (.a .p3 .p0),.eq (.a .p4 .k1) .p2] (.le .p4 (.a .p1 .p3)) aB (Nat.le_add_of_sub_le (Nat.le_refl _)) (Nat.le_add_of_sub_le (Nat.le_refl _)) (Nat.sub_add_cancel (lke hn2 aB)))]at this;exact Nat.le_trans this hun
     have hal:aZ own other nn kind*cB K own other (nn - 1)≤3*(9*2 ^ 20):=Nat.mul_le_mul hTk hUn;have halt:=hI.lt;walk_at "v";refine aI ?_;walk_at "v";refine KcY.len_ref hu (by rw[bW];exact bC [.le .p0 (.k 40),.le .p1 .p0] (.lt .p1 (.k 4611686018427387904)) aB hn40 hnn) ?_;rw[bW];walk_at "v";refine⟨λhb=>?_,λhb=>?_⟩
     ·have h3:3≤nn:=by have:=of_decide_eq_true hb;exact Int.ofNat_le.mp this
      walk_at "v";refine aI ?_;walk_at "v";refine KcY.len_ref hu (by rw[bW];exact bC [.le .p0 (.k 40),.le .p1 .p0] (.lt .p1 (.k 4611686018427387904)) aB hn40 hnn) ?_;rw[bW];walk_at "v";refine OpY.modn 2 ?_;refine SuY.lst (by exact Int.natCast_nonneg (nn % 2)) (by exact lO (Nat.mod_lt _ (by decide)) aB) (eV (nn)) ?_;walk_at "v";refine SuY.lst (by exact Int.natCast_nonneg kind) (by exact bC [.le .p0 .k3,.lt .p1 .p0] (.ilt (.c .p1) (.k 9223372036854775808)) aB hK3 hkd) (eX hkd) ?_;refine WU.st ?_;refine WS.cons (aBO (cQ (pl:=_) ?_));walk_at "v";refine⟨_,_,λY=>GetM.pop hu,?_⟩;walk_at "v";refine KcY.pop_last hu (by rw[bW];exact bC [.le .p0 (.k 40),.le .p1 .p0] (.le .p1 (.k 1000000)) aB hn40 hnn) (by rw[bW,List.getElem?_map,List.getElem?_range (by exact Nat.sub_one_lt_of_lt hn2')];rfl) ?_;refine⟨_,rfl,?_⟩;obtain ⟨i,rfl⟩:∃i,nn=i+1:=⟨nn - 1,by exact Nat.le_antisymm (bC [.le .p0 (.a .p1 .k1)] (.le .p0 (.a .p1 .k1)) aB (Nat.le_add_of_sub_le (Nat.le_refl _))) (bC [.eq (.a .p0 .k1) .p1] (.le (.a .p0 .k1) .p1) aB (Nat.sub_add_cancel (lke hn2' aB)))⟩;rw[aD9,dR];clear hu;have hu:upd led m (M.list (uL K own other i)) m=some (.list (uL K own other i)):=aA ..;walk_at "v";refine aI ?_;walk_at "v";refine aI ?_;walk_at "v";refine KcY.len_ref hu (by rw[bW];exact bC [.le .p0 (.k 40),.le (.a .p1 .k1) .p0] (.lt .p1 (.k 4611686018427387904)) aB hn40 hnn) ?_;rw[bW];walk_at "v";refine OpY.modn 2 ?_;refine SuY.lst (by exact Int.natCast_nonneg (i % 2)) (by exact lO (Nat.mod_lt _ (by decide)) aB) (eV (i)) ?_;walk_at "v";refine SuY.ref_neg hu (by exact Int.sign_eq_neg_one_iff_neg.mp rfl) (by rw[bW];exact bF [.le .k2 (.a .p0 .k1)] (.ile (.g (.c .p0)) (.g (.k 1))) aB hn2') (by rw[bW];exact bC [.le .p0 (.k 40),.le (.a .p1 .k1) .p0] (.lt .p1 (.k 4611686018427387904)) aB hn40 hnn) (lF (by exact Nat.lt_add_left_iff_pos.mp hn2')) ?_;walk_at "v"; intro _;have hud:=aAX (K:=K) (own:=own) (other:=other) (n:=i+1) (by exact hI.n2);rw[Nat.add_sub_cancel]at hud hUn hal halt;have hTi:=ho.at ht i;have e3:i+1 - 2=i - 1:=by lia
      rw[e3]at hud
      refine⟨hfp.keep,(jY (k:=k) V hm hf hfp (u:=cB K own other (i - 1)) (by rw[Nat.mul_comm (bY _ _),← hud];exact halt) (λc hc=>Nat.mul_pos (hTi.pos c hc) (Nat.lt_of_lt_of_le (Nat.pow_pos (by decide)) (lD hK ho.pos ht.pos (i - 1)))) (by exact gN hK3 aB) (by rw[Nat.mul_comm,← hud];exact bF [.le .p0 (.l 9 (.k 1048576))] (.lt .p0 (.k 536870912)) aB hUn) (by exact bC [.le .p0 (.l 3 (.l 9 (.k 1048576))),.lt .p1 .p0] (.lt .p1 (.k 536870912)) aB hal halt) (by exact gN hTk aB) (by
       have:=mD hK ho.pos ht.pos (i - 1) 1
       rw[show i - 1+1=i by exact Nat.le_antisymm (bC [.eq (.a .p0 .k1) .p1] (.le (.a .p0 .k1) .p1) aB (Nat.sub_add_cancel (bF [.le .k2 (.a .p0 .k1)] (.le .k1 .p0) aB hn2'))) (bC [.le .p0 (.a .p1 .k1)] (.le .p0 (.a .p1 .k1)) aB (Nat.le_add_of_sub_le (Nat.le_refl _)))]at this;exact bC [.le .p0 (.l 9 (.k 1048576)),.le .p1 .p0] (.lt .p1 (.k 536870912)) aB hUn this) λkind' ahead left hP=>?_).up (by exact bF [] (.le (.a .p0 (.k 90)) (.a .p0 (.k 99))) aB)⟩
      walk_at "v";exact⟨i,plW K own other place spot (-(b:Int)) m kind' left,by exact bF [] (.lt .p0 (.a .p0 .k1)) aB,rfl,rfl,kind',left,rfl,hI.step h3 (by rw[Nat.add_sub_cancel,e3];exact hP)⟩
     ·obtain rfl:nn=2:=by have:=of_decide_eq_false hb;lia
      obtain ⟨head,hhd⟩:=hI.head;have hS:=vQ (show 0<K by exact tU hK aB) ht.pos;have hS9:=ht.sum K (Nat.le_refl _);walk_at "v";refine aI ?_;walk_at "v";refine aI ?_;walk_at "v";refine ht.sumY hK3 ?_;walk_at "v";refine Y1 (λ_ z9=>⟨hf.keep,(eC (k:=k+10) V hm hf 4 (by split<;>split<;>lia) (by exact Int.ne_of_gt (bF [.lt (.k 0) .p0] (.ilt (.k 0) (.c .p0)) aB hS)) (by exact cF (bC [.t 3 (.le .p0 .k3),.le .p1 (.l 3 .p0)] (.ilt (.c .p1) (.c (.k 536870912))) aB hK3 hS9) (bF [.lt (.k 0) .p0] (.ilt (.g (.c .p0)) (.c (.k 536870912))) aB hS)) (by exact cF (gZ [.le .p0 (.k 1048576),.ile .p0 (.c .p0)] (.ilt (.s .p0 (.c .p1)) (.c (.k 536870912))) aB hsp (Int.le_natAbs)) (bQ 0 [_,_,_] [_] [.le .p0 (.l 3 (.l 9 (.k 1048576))),.ile (.g (.c .p0)) .p0,.le .p1 (.l 3 (.l 9 (.k 1048576))),.lt .p2 .p1] (.ilt (.g (.s .p0 (.c .p2))) (.c (.k 536870912))) aB hm3 h0.2 hal halt)) z9).up (by exact bF [] (.le (.a (.a (.a .p0 (.k 10)) (.k 81)) (.k 4)) (.a .p0 (.k 99))) aB)⟩) ?_;rw[hhd,Int.mul_fdiv_cancel_left _ (by exact Int.ne_of_gt (bF [.lt (.k 0) .p0] (.ilt (.k 0) (.c .p0)) aB hS)),Int.mul_fmod_right];walk_at "v";refine aI ?_;walk_at "v";refine SuY.lst (by exact bF [] (.ile (.k 0) (.c .p0)) aB) (by exact bC [.le .p0 .k3,.lt .p1 .p0] (.ilt (.c .p1) (.k 9223372036854775808)) aB hK3 hkd) (eX hkd) ?_;walk_at "v"; intro _;have hal2:own kind*(bY other K*K)=aZ own other 2 kind*cB K own other (2 - 1):=by rw[Nat.mul_comm (bY _ _)];rfl
      have hSK:bY other K*K≤9*3:=Nat.mul_le_mul (by exact bC [.t 3 (.le .p0 .k3),.le .p1 (.l 3 .p0)] (.le .p1 (.k 9)) aB hK3 hS9) hK3;refine⟨hfp.keep,(jY (k:=k) V hm hf hfp (u:=K) (by rw[hal2];exact halt) (λc hc=>Nat.mul_pos (ht.pos c hc) (by exact tU hK aB)) (by exact gN hK3 aB) (by exact bF [.le .p0 (.l 9 .k3)] (.lt .p0 (.k 536870912)) aB hSK) (by exact bC [.le .p0 (.l 3 (.l 9 (.k 1048576))),.lt .p1 .p0] (.lt .p1 (.k 536870912)) aB hal halt) (by have:own kind≤3:=hTk;exact gN this aB) (by exact gN hK3 aB) λkind' ahead left hP=>?_).up (by exact bF [] (.le (.a .p0 (.k 90)) (.a .p0 (.k 99))) aB)⟩;obtain ⟨head',hh',hpo,hD⟩:=hI.fin hP;have hkd':=hP.lt;have hot:=ht.le kind' hkd';obtain rfl:head'=head:=Int.eq_of_mul_eq_mul_left (show (bY other K:Int)≠0 by exact Int.ne_of_gt (bF [.lt (.k 0) .p0] (.ilt (.k 0) (.c .p0)) aB hS)) (hh'.symm.trans hhd);have hlk:left<3*3:=Nat.lt_of_lt_of_le hP.le (Nat.mul_le_mul hot hK3);walk_at "v";refine aI ?_;walk_at "v";refine SuY.lst (by exact bF [] (.ile (.k 0) (.c .p0)) aB) (by exact bC [.le .p0 .k3,.lt .p1 .p0] (.ilt (.c .p1) (.k 9223372036854775808)) aB hK3 hkd') (eX hkd') ?_;walk_at "v";refine Y1 (λ_ z9=>⟨hf.keep,(eC (k:=k+10) V hm hf 4 (by split<;>split<;>lia) (by exact Int.ne_of_gt (bF [.lt (.k 0) .p0] (.ilt (.k 0) (.c .p0)) aB hpo)) (by exact cF (bF [.le .p0 .k3] (.ilt (.c .p0) (.c (.k 536870912))) aB hot) (bF [.lt (.k 0) .p0] (.ilt (.g (.c .p0)) (.c (.k 536870912))) aB hpo)) (by exact cF (bF [.lt .p0 (.l 3 .k3)] (.ilt (.c .p0) (.c (.k 536870912))) aB hlk) (bF [] (.ilt (.g (.c .p0)) (.c (.k 536870912))) aB)) z9).up (by exact bF [] (.le (.a (.a (.a .p0 (.k 10)) (.k 81)) (.k 4)) (.a .p0 (.k 99))) aB)⟩) ?_;rw[vS,vR];walk_at "v";refine OpY.mul ?_ (Or.inl (by exact cF (bF [.le .p0 .k3] (.ilt (.c .p0) (.c (.k 18446744073709551616))) aB hK3) (bF [.le .k2 .p0] (.ilt (.g (.c .p0)) (.c (.k 18446744073709551616))) aB hK)));walk_at "v";refine OpY.mul ?_ (Or.inl (by exact cF (bF [.le .p0 .k3] (.ilt (.c .p0) (.c (.k 18446744073709551616))) aB hK3) (bF [.le .k2 .p0] (.ilt (.g (.c .p0)) (.c (.k 18446744073709551616))) aB hK)));walk_at "v";refine⟨by exact Nat.le_of_ble_eq_true rfl,?_⟩;rw[Int.sub_neg];exact⟨led,(Less.refl led).upd hfm _,hq _ _ _ (.mk hD hkd' (by exact bC [.ilt (.c .p0) (.c .p1)] (.lt .p0 .p1) aB hb1) hdm.symm)⟩
set_option tactic.hygienic false
theorem bK{g:Nat→D}{n i:Nat}(h:i<n):((List.range n).map g)[((i:Nat):Int).toNat]?=some (g i):=by
 erw[Int.toNat_natCast,List.getElem?_map,List.getElem?_range h];rfl
theorem lG(h:[D.int 0,D.int 1][i]?=some x):x=aP i∧i<2:=by
 match i with
 | 0=>(have e1:=Option.some.inj h;clear h;subst e1);exact⟨rfl,by decide⟩
 | 1=>(have e1:=Option.some.inj h;clear h;subst e1);exact⟨rfl,by decide⟩
 | n+2=>exact bN h
noncomputable def tm(t0 t1:Nat→Nat)(k:Nat):Nat→Nat:=if k=0 then t0 else t1
noncomputable def bZ(K:Nat)(t0 t1:Nat→Nat)(j k:Nat):List Nat:=dX K (tm t0 t1 (1 - k)) (tm t0 t1 k) j 0
theorem rQ(K:Nat)(t0 t1:Nat→Nat)(j:Nat)(hk:k<2):bZ K t0 t1 (j+1) k=jU K (tm t0 t1 (1 - k)) (bZ K t0 t1 j (1 - k)):=by
 unfold bZ;erw[pJ,show 1 - (1 - k)=k from Nat.sub_sub_self (Nat.le_of_lt_succ hk)]
noncomputable abbrev iK(K:Nat)(t0 t1:Nat→Nat):D:=.lst ((List.range 2).map λk=>fH K (tm t0 t1 k))
noncomputable abbrev aBP(K:Nat)(t0 t1:Nat→Nat)(j:Nat):D:=.lst ((List.range 2).map λk=>lE (bZ K t0 t1 j k))
noncomputable def eE(K:Nat)(t0 t1:Nat→Nat)(j count k:Nat):List Nat:=(List.range count).map λi=>K*tm t0 t1 (1 - k) ((bZ K t0 t1 j (1 - k)).getD (i / K) 0)
noncomputable abbrev gwV(K:Nat)(t0 t1:Nat→Nat)(count j:Nat):aD:=[("times",iK K t0 t1),("count",aP count),("kinds",aP K),("rows",aBP K t0 t1 j)]
structure GwI (K:Nat) (t0 t1:Nat→Nat) (count:Nat) (led:aF) (n:Nat) (vs:aD) (led':aF):Prop where
 led:led'=led
 ex:∃j,vs=gwV K t0 t1 count j∧n=20 - j∧j≤5
theorem aAa{K:Nat}{own other:Nat→Nat}(hK:K≤3)(ho:TbOk K own)(ht:TbOk K other):∀n a,a<K→(dX K own other n a).length≤9 ^ n
 | 0,a,_=>Nat.le_refl _
 | n+1,a,ha=>by
  have h3:=(ho.at ht (n+2)).le a ha
  have key:∀k,k≤K→(spr (aZ own other (n+2) a) (dX K own other n) k).length≤k*(3*9 ^ n):=by
   intro k;induction k with
   | zero=>intro _;exact Nat.zero_le _
   | succ k ih =>
    intro hk;show (spr _ _ k++_).length≤_
    rw[List.length_append,iJ,Nat.succ_mul];exact Nat.add_le_add (ih (by exact Nat.le_of_succ_le hk)) (Nat.mul_le_mul h3 (aAa hK ho ht n k (by exact Nat.lt_of_succ_le hk)))
  have:=key K (Nat.le_refl _);have h4:K*(3*9 ^ n)≤3*(3*9 ^ n):=Nat.mul_le_mul_right _ hK;show (spr _ _ K).length≤9 ^ n*9
  exact eF [.le .p0 .p1,.le .p1 (.l 3 (.l 3 .p2))] (.le .p0 (.r .p2 (nat_lit 9))) aB this h4
theorem tF{K:Nat}{own other:Nat→Nat}(hK:2≤K)(ho:dG K own)(ht:dG K other):∀n a,a<K→2 ^ n≤(dX K own other n a).length
 | 0,a,_=>Nat.le_refl _
 | n+1,a,ha=>by
  have h3:=fO ho ht (n+2) a ha
  have key:∀k,k≤K→k*2 ^ n≤(spr (aZ own other (n+2) a) (dX K own other n) k).length:=by
   intro k;induction k with
   | zero=>intro _;rw[Nat.zero_mul];exact Nat.zero_le _
   | succ k ih =>
    intro hk;show _≤(spr _ _ k++_).length
    rw[List.length_append,iJ,Nat.succ_mul];exact Nat.add_le_add (ih (by exact Nat.le_of_succ_le hk)) (Nat.le_trans (tF hK ho ht n k (by exact Nat.lt_of_succ_le hk)) (Nat.le_mul_of_pos_left _ h3))
  have:=key K (Nat.le_refl _);have h4:2*2 ^ n≤K*2 ^ n:=Nat.mul_le_mul_right _ hK;show 2 ^ n*2≤(spr _ _ K).length
  exact eF [.le .p0 .p1,.le (.l 2 .p2) .p0] (.le (.r .p2 (nat_lit 2)) .p1) aB this h4
theorem pM(K:Nat)(t:Nat→Nat)(w:List Nat)(p:Nat)(h:w[p]?=some a):jU K t (w.take (p+1))=jU K t (w.take p)++spr (t a) (λc=>[c]) K:=by
 erw[List.take_add_one,h,Option.toList_some,mC]
 congr 1
 unfold jU;erw[List.flatMap_cons,List.flatMap_nil,List.append_nil]
theorem vV(m c:Nat):spr m (λc=>[c]) (c+1)=spr m (λc=>[c]) c++List.replicate m c:=by
 show _++(List.replicate m [c]).flatten=_
 congr 1
 exact List.flatten_replicate_singleton
theorem vW{K:Nat}{t:Nat→Nat}(hK:K≤3)(ht:TbOk K t):∀(w:List Nat),(∀x∈w,x<K)→wt K t w≤9*w.length
 | [],_=>Nat.le_refl _
 | a::w,h=>by
  have h1:=vW hK ht w λx hx=>h x (List.mem_cons_of_mem _ hx)
  have h2:=ht.le a (h a List.mem_cons_self);have h3:K*t a≤3*3:=Nat.mul_le_mul hK h2;rw[fZ,List.length_cons];exact eF [.le .p0 (.l 9 .p1),.le .p2 (.l 3 .k3)] (.le (.a .p2 .p0) (.l 9 (.a .p1 .k1))) aB h1 h3
noncomputable abbrev gwK(K:Nat)(t0 t1:Nat→Nat)(i:Nat):aD:=[("k",aP i),("times",iK K t0 t1),("kinds",aP K)]
noncomputable abbrev gwO(K:Nat)(t0 t1:Nat→Nat)(i a:Nat):aD:=[("one",aP a),("k",aP i),("times",iK K t0 t1),("kinds",aP K)]
noncomputable abbrev gwC(K:Nat)(t0 t1:Nat→Nat)(i a c:Nat):aD:=[("kind",aP c),("one",aP a),("k",aP i),("times",iK K t0 t1),("kinds",aP K)]
theorem gU{K:Nat}(h0:TbOk K t0)(h1:TbOk K t1)(k:Nat):TbOk K (tm t0 t1 k):=by
 unfold tm;split<;>assumption
theorem nS{K:Nat}(hK:0<K)(j k:Nat):∀x∈bZ K t0 t1 j k,x<K:=λx hx=>pL j 0 hK x hx
set_option maxHeartbeats 4000000 in
theorem pN(N:iO C){k:Nat}{K count:Nat}(h:GFn C f (aQ 18))(hK:2≤K)(hK3:K≤3)(h0:TbOk K t0)(h1:TbOk K t1)(hc:count≤7)
  (hq:∀j,count≤(bZ K t0 t1 j 0).length*K→count≤(bZ K t0 t1 j 1).length*K→Q (.lst ((List.range 2).map λk=>lE (eE K t0 t1 j count k))) led) :
  CallW C Y led (k+40) (.ref f) [iK K t0 t1,aP count] Q:=by
 refine (CodeW.gfn h rfl [("times",iK K t0 t1),("count",aP count)] rfl rfl λL cs q code=>?_).call;have hln:∀j,j≤5→∀k,(bZ K t0 t1 j k).length≤59049:=λj hj k=>Nat.le_trans (aAa hK3 (gU h0 h1 _) (gU h0 h1 _) j 0 (Nat.zero_lt_of_lt hK)) (Nat.pow_le_pow_right (by decide) hj)
 walk_at "v";refine aI ?_;walk_at "v";refine SuY.lst (Int.zero_le_ofNat 0) (z63) (bK (i:=0) (by decide)) ?_;walk_at "v";refine KcY.len_lst (by simp;exact gN hK3 aB) ?_;erw[List.length_map,List.length_map,List.length_range];walk_at "v";refine WE.list ?_;walk_at "v";refine WE.list ?_;walk_at "v";refine⟨by exact Nat.le_of_ble_eq_true rfl,?_⟩;walk_at "v";refine WE.list ?_;walk_at "v";refine⟨by exact Nat.le_of_ble_eq_true rfl,?_⟩;walk_at "v";refine⟨by exact Nat.le_of_ble_eq_true rfl,?_⟩;walk_at "v";refine⟨by exact Nat.le_of_ble_eq_true rfl,?_⟩;walk_at "v";refine WS.sub (vs:=gwV K t0 t1 count 0) ?_ rfl;refine iU (GwI K t0 t1 count led) 20 ⟨rfl,0,rfl,rfl,by exact Nat.zero_le 5⟩ ?_;intro n vs2 led2 o21;obtain ⟨rfl,j,rfl,rfl,hj⟩:=o21;have hr0:=hln j hj 0;have hr1:=hln j hj 1;walk_at "v";refine aI ?_;walk_at "v";refine aI ?_;walk_at "v";refine SuY.lst (Int.zero_le_ofNat 0) (z63) (bK (i:=0) (by decide)) ?_;walk_at "v";refine KcY.len_lst (by erw[List.length_map];exact gN hr0 aB) ?_;erw[List.length_map];walk_at "v";refine aI ?_;walk_at "v";refine SuY.lst Int.one_nonneg (o63) (bK (i:=1) (by decide)) ?_;walk_at "v";refine KcY.len_lst (by erw[List.length_map];exact gN hr1 aB) ?_;erw[List.length_map];walk_at "v";refine KcY.min2 ?_
 have hmin:(if ((bZ K t0 t1 j 1).length:Int)<((bZ K t0 t1 j 0).length:Int) then ((bZ K t0 t1 j 1).length:Int) else ((bZ K t0 t1 j 0).length:Int))=((min (bZ K t0 t1 j 0).length (bZ K t0 t1 j 1).length:Nat):Int):=by
  split<;>lia
 erw[hmin];walk_at "v";refine OpY.muln ?_ (bC [.le .p0 (.k 59049),.le .p1 .p0] (.lt .p1 (.k 18446744073709551616)) aB hr0 (Nat.min_le_left _ _));walk_at "v";refine⟨λhb=>?_,λhb=>?_⟩
 ·have hj2:j≤3:=by
   rcases Nat.lt_or_ge 3 j with q|q
   ·have p0:=tF hK (gU h0 h1 1).pos (gU h0 h1 0).pos j 0 (Nat.zero_lt_of_lt hK);have p1:=tF hK (gU h0 h1 0).pos (gU h0 h1 1).pos j 0 (Nat.zero_lt_of_lt hK);have p2:2 ^ 4≤2 ^ j:=Nat.pow_le_pow_right (by decide) q;have p3:2 ^ 4*2≤min (bZ K t0 t1 j 0).length (bZ K t0 t1 j 1).length*K:=Nat.mul_le_mul (Nat.le_min.mpr ⟨Nat.le_trans p2 p0,Nat.le_trans p2 p1⟩) hK;have:=of_decide_eq_true hb;lia
   ·exact q
  refine WS.cons (WS.assign ?_);refine dS [("times",iK K t0 t1),("kinds",aP K),("rows",aBP K t0 t1 j)] ?_;refine WE.list ?_;walk_at "v";refine⟨by exact Nat.le_of_ble_eq_true rfl,?_⟩;refine⟨[.int 0,.int 1],(List.range 2).map λk=>some (lE (bZ K t0 t1 (j+1) k)),λY=>IterOf.lst,by decide,rfl,λL cs i x hx=>?_,?_⟩
  ·(refine cL (lG hx) λo1 hi=>?_;subst o1)
   walk_at "v";refine⟨rfl,?_⟩;walk_at "v";refine⟨λ_=>?_,λhc=>by exact dO hc⟩;refine mM ?_;walk_at "v"; intro _;erw[show (1:Int) - (i:Int)=((1 - i:Nat):Int) by exact Int.le_antisymm (bC [.le .k1 (.a .p0 .p1)] (.ile (.s (.k 1) (.c .p1)) (.c .p0)) aB (Nat.le_add_of_sub_le (Nat.le_refl _))) (bC [.eq (.a .p0 .p1) .k1] (.ile (.c .p0) (.s (.k 1) (.c .p1))) aB (Nat.sub_add_cancel (lkd hi aB)))];refine SubW.lst (Int.natCast_nonneg (1 - i)) (lkh (Nat.sub_le _ _) aB) (bK (Nat.sub_lt_succ 1 i)) ?_;have hw1:=hln j hj (1 - i);have hwk:=nS (K:=K) (t0:=t0) (t1:=t1) (Nat.zero_lt_of_lt hK) j (1 - i);have hsu:=rQ K t0 t1 j hi;generalize bZ K t0 t1 j (1 - i)=w at *;have hT:=gU h0 h1 (1 - i);refine⟨_,λp vs' led' acc=>p≤w.length∧vs'=gwK K t0 t1 i∧led'=led2∧acc=(jU K (tm t0 t1 (1 - i)) (w.take p)).map aP,λY=>IterOf.lst,⟨gwK K t0 t1 i,rfl,Nat.zero_le _,rfl,rfl,rfl⟩,?_,?_⟩
   ·intro L cs Da p x vs2 led3 acc2 hx o21;(refine lQ o21 λhp o1 o2 o3=>?_;clear o21;subst o1;subst o2;subst o3);rw[List.getElem?_map]at hx
    (refine aL (Option.map_eq_some_iff.mp hx) λa ha o1=>?_;subst o1)
    have hpl:=(List.getElem?_eq_some_iff.mp ha).1;have haK:=hwk a (List.mem_of_getElem? ha);have hsn:=pM K (tm t0 t1 (1 - i)) w p ha
    have hlen:(jU K (tm t0 t1 (1 - i)) (w.take p)).length≤9*59049:=by
     erw[tE];refine Nat.le_trans (vW hK3 hT _ λx hx=>hwk x (List.mem_of_mem_take hx)) ?_;erw[List.length_take];exact eF [.t 9 (.le .p0 (.k 59049)),.t 9 (.lt .p1 .p0),.t 9 (.le .p2 .p1)] (.le (.l 9 .p2) (.l 9 (.k 59049))) aB hw1 hpl (Nat.min_le_left _ _)
    generalize jU K (tm t0 t1 (1 - i)) (w.take p)=ac at *;walk_at "v";refine⟨λ_=>WC.nest rfl ?_ (λg hg=>by (have e1:=Option.some.inj hg;clear hg;subst e1);rfl),λhc=>by exact dO hc⟩;refine aI ?_;walk_at "v";refine⟨_,λc vs' led' acc=>c≤K∧vs'=gwO K t0 t1 i a∧led'=led3∧acc=(ac++spr (tm t0 t1 (1 - i) a) (λc=>[c]) c).map aP,λY=>IterOf.rng (Int.sign_eq_neg_one_iff_neg.mp rfl) (z60) (bF [.le .k2 .p0] (.ilt (.g (.k 1152921504606846976)) (.c .p0)) aB hK) (bF [.le .p0 .k3] (.ilt (.c .p0) (.k 1152921504606846976)) aB hK3),⟨gwO K t0 t1 i a,rfl,Nat.zero_le _,rfl,rfl,by erw[show spr (tm t0 t1 (1 - i) a) (λc=>[c]) 0=[] from rfl,List.append_nil]⟩,?_,?_⟩
    ·intro c x vs3 led4 acc3 hx o21;(refine lQ o21 λhcK o1 o2 o3=>?_;clear o21;subst o1;subst o2;subst o3)
     (refine cL (cP hx) λo1 hc2=>?_;subst o1)
     simp only[Int.sub_zero,Int.toNat_natCast]at hc2;simp only[Int.zero_add];walk_at "v";refine⟨λ_=>WC.nest rfl ?_ (λg hg=>by exact bN hg),λhc=>by exact dO hc⟩;refine aI ?_;walk_at "v"; intro _;erw[show (1:Int) - (i:Int)=((1 - i:Nat):Int) by exact Int.le_antisymm (bC [.le .k1 (.a .p0 .p1)] (.ile (.s (.k 1) (.c .p1)) (.c .p0)) aB (Nat.le_add_of_sub_le (Nat.le_refl _))) (bC [.eq (.a .p0 .p1) .k1] (.ile (.c .p0) (.s (.k 1) (.c .p1))) aB (Nat.sub_add_cancel (lkd hi aB)))];refine SubW.lst (Int.natCast_nonneg (1 - i)) (lkh (Nat.sub_le _ _) aB) (bK (Nat.sub_lt_succ 1 i)) ?_;walk_at "v";refine SuY.lst (Int.natCast_nonneg a) (bC [.le .p0 .k3,.lt .p1 .p0] (.ilt (.c .p1) (.k 9223372036854775808)) aB hK3 haK) (eX haK) ?_;walk_at "v";have hm3:=hT.le a haK;generalize tm t0 t1 (1 - i) a=m at *;have hls:=lB m c;have hmc:m*c≤3*3:=Nat.mul_le_mul hm3 (Nat.le_trans hcK hK3);refine⟨_,λe vs' led' acc=>e≤m∧vs'=gwC K t0 t1 i a c∧led'=led4∧acc=(ac++spr m (λc=>[c]) c++List.replicate e c).map aP,λY=>IterOf.rng (Int.sign_eq_neg_one_iff_neg.mp rfl) (z60) (bF [] (.ilt (.g (.k 1152921504606846976)) (.c .p0)) aB) (bF [.le .p0 .k3] (.ilt (.c .p0) (.k 1152921504606846976)) aB hm3),⟨gwC K t0 t1 i a c,rfl,Nat.zero_le _,rfl,rfl,by erw[List.replicate_zero,List.append_nil]⟩,?_,?_⟩
     ·intro e x vs4 led5 acc4 hx o21;(refine lQ o21 λhe o1 o2 o3=>?_;clear o21;subst o1;subst o2;subst o3)
      (refine cL (cP hx) λo1 he2=>?_;subst o1)
      simp only[Int.sub_zero,Int.toNat_natCast]at he2;walk_at "v";refine⟨λ_=>WC.last rfl ?_,λhc=>by exact dO hc⟩;walk_at "v";refine⟨?_,gwC K t0 t1 i a c,rfl,he2,rfl,rfl,?_⟩
      ·erw[List.length_map,List.length_append,List.length_append,hls,List.length_replicate];exact lN [.le .p0 (.l 9 (.k 59049)),.le .p1 .k3,.le .p2 (.l 3 .k3),.lt .p3 .p1] (.le (.a (.a .p0 .p2) .p3) (.k 1000000)) aB hlen hm3 hmc he2
      ·simp[List.replicate_succ']
     ·intro vs4 led5 acc4 o21;(refine lQ o21 λhe o1 o2 o3=>?_;clear o21;subst o1;subst o2;subst o3);refine⟨gwO K t0 t1 i a,rfl,hc2,rfl,rfl,?_⟩;erw[aV,Int.sub_zero,Int.toNat_natCast,List.append_assoc,← vV]
    ·intro vs3 led4 acc3 o21;(refine lQ o21 λhcK o1 o2 o3=>?_;clear o21;subst o1;subst o2;subst o3);refine⟨gwK K t0 t1 i,rfl,hpl,rfl,rfl,?_⟩;erw[hsn,aV,Int.sub_zero,Int.toNat_natCast]
   ·intro vs2 led3 acc2 o21;(refine lQ o21 λhp o1 o2 o3=>?_;clear o21;subst o1;subst o2;subst o3);erw[List.length_map,List.take_length,← hsu];exact⟨by erw[List.getElem?_map,List.getElem?_range hi];rfl,rfl⟩
  ·walk_at "v";exact⟨20 - (j+1),gwV K t0 t1 count (j+1),by exact eF [.eq (.a .p0 (.a .p1 .k1)) (.k 20),.le (.k 20) (.a .p2 .p1)] (.lt .p0 .p2) aB (Nat.sub_add_cancel (bF [.le .p0 .k3] (.le (.a .p0 .k1) (.k 20)) aB hj2)) (Nat.le_add_of_sub_le (Nat.le_refl _)),rfl,rfl,j+1,rfl,rfl,by exact bF [.le .p0 .k3] (.le (.a .p0 .k1) (.k 5)) aB hj2⟩
 ·have hcn:count≤min (bZ K t0 t1 j 0).length (bZ K t0 t1 j 1).length*K:=by have:=of_decide_eq_false hb;lia
  have hc0:count≤(bZ K t0 t1 j 0).length*K:=Nat.le_trans hcn (Nat.mul_le_mul_right _ (Nat.min_le_left _ _));have hc1:count≤(bZ K t0 t1 j 1).length*K:=Nat.le_trans hcn (Nat.mul_le_mul_right _ (Nat.min_le_right _ _))
  have hck:∀k,k<2→count≤(bZ K t0 t1 j (1 - k)).length*K:=λk hk=>by
   rcases (by lia:k=0∨k=1)with rfl|rfl
   ·exact hc1
   ·exact hc0
  walk_at "v";refine dS (gwV K t0 t1 count j) ?_;refine WE.list ?_;walk_at "v";refine⟨by exact Nat.le_of_ble_eq_true rfl,?_⟩;refine⟨[.int 0,.int 1],(List.range 2).map λk=>some (lE (eE K t0 t1 j count k)),λY=>IterOf.lst,by decide,rfl,λL cs i x hx=>?_,?_⟩
  ·(refine cL (lG hx) λo1 hi=>?_;subst o1)
   walk_at "v";refine⟨rfl,?_⟩;walk_at "v";refine⟨λ_=>?_,λhc=>by exact dO hc⟩;refine dS [("k",aP i),("times",iK K t0 t1),("kinds",aP K),("rows",aBP K t0 t1 j)] ?_;refine aI ?_;walk_at "v";refine⟨_,(eE K t0 t1 j count i).map λx=>some (aP x),λY=>IterOf.rng (Int.sign_eq_neg_one_iff_neg.mp rfl) (z60) (bF [] (.ilt (.g (.k 1152921504606846976)) (.c .p0)) aB) (bF [.le .p0 (.k 7)] (.ilt (.c .p0) (.k 1152921504606846976)) aB hc),by erw[aV];lia,by simp[aV,eE],λL cs p x hx=>?_,?_⟩
   ·(refine cL (cP hx) λo1 hp=>?_;subst o1)
    simp only[Int.sub_zero,Int.toNat_natCast]at hp;simp only[Int.zero_add];have hcki:=hck i hi;have hpl:p / K<(bZ K t0 t1 j (1 - i)).length:=Nat.div_lt_of_lt_mul (by erw[Nat.mul_comm];exact Nat.lt_of_lt_of_le hp (hck i hi));have hrk:=nS (K:=K) (t0:=t0) (t1:=t1) (Nat.zero_lt_of_lt hK) j (1 - i);have hrg:(bZ K t0 t1 j (1 - i))[p / K]?=some ((bZ K t0 t1 j (1 - i)).getD (p / K) 0):=by erw[List.getD_eq_getElem?_getD,List.getElem?_eq_getElem hpl];rfl
    have hpk:p / K≤p:=Nat.div_le_self _ _;have hgk:=hrk _ (List.mem_of_getElem? hrg);walk_at "v";refine⟨rfl,?_⟩;walk_at "v";refine⟨λ_=>?_,λhc=>by exact dO hc⟩;walk_at "v"; intro _;erw[show (1:Int) - (i:Int)=((1 - i:Nat):Int) by exact Int.le_antisymm (bC [.le .k1 (.a .p0 .p1)] (.ile (.s (.k 1) (.c .p1)) (.c .p0)) aB (Nat.le_add_of_sub_le (Nat.le_refl _))) (bC [.eq (.a .p0 .p1) .k1] (.ile (.c .p0) (.s (.k 1) (.c .p1))) aB (Nat.sub_add_cancel (lkd hi aB)))];refine SubW.lst (Int.natCast_nonneg (1 - i)) (lkh (Nat.sub_le _ _) aB) (bK (Nat.sub_lt_succ 1 i)) ?_;walk_at "v"; intro _;erw[show (1:Int) - (i:Int)=((1 - i:Nat):Int) by exact Int.le_antisymm (bC [.le .k1 (.a .p0 .p1)] (.ile (.s (.k 1) (.c .p1)) (.c .p0)) aB (Nat.le_add_of_sub_le (Nat.le_refl _))) (bC [.eq (.a .p0 .p1) .k1] (.ile (.c .p0) (.s (.k 1) (.c .p1))) aB (Nat.sub_add_cancel (lkd hi aB)))];refine SubW.lst (Int.natCast_nonneg (1 - i)) (lkh (Nat.sub_le _ _) aB) (bK (Nat.sub_lt_succ 1 i)) ?_;walk_at "v";refine OpY.fdivn K ?_ (Nat.ne_zero_of_lt hK) (gN hK3 aB);refine SuY.lst (d:=aP ((bZ K t0 t1 j (1 - i)).getD (p / K) 0)) (Int.natCast_nonneg _) (Int.ofNat_lt.mpr (Nat.lt_of_le_of_lt hpk (bC [.le .p0 (.k 7),.lt .p1 .p0] (.lt .p1 (.k 9223372036854775808)) aB hc hp))) (by erw[Int.toNat_natCast,List.getElem?_map,hrg];rfl) ?_;refine SuY.lst (Int.natCast_nonneg _) (Int.ofNat_lt.mpr (Nat.lt_trans hgk (gN hK3 aB))) (eX hgk) ?_;refine OpY.muln ?_ (gN hK3 aB);refine⟨?_,rfl⟩;unfold eE;erw[List.getElem?_map,List.getElem?_map,List.getElem?_range hp];rfl
   ·refine⟨?_,rfl⟩;erw[List.getElem?_map,List.getElem?_range hi,show ((eE K t0 t1 j count i).map λx=>some (aP x))=((eE K t0 t1 j count i).map aP).map some by simp,bT];rfl
  ·walk_at "v";exact hq j hc0 hc1
set_option tactic.hygienic false
theorem bP(line:Int)(c:Nat):aM line c=line+([c].count 10:Nat):=by
 unfold aM;by_cases h:c=10
 ·subst h;simp
 ·have h1:(c == 10)=false:=beq_eq_false_iff_ne.mpr h;have h2:(10 == c)=false:=beq_eq_false_iff_ne.mpr (Ne.symm h);simp[h1,h2,h]
theorem dY(c:Nat)(l:List Nat):((c::l).count 10:Nat)=[c].count 10+l.count 10:=by
 erw[← List.count_append];rfl
theorem yC(rest:List Nat):∀(w:List Nat) (line:Int) (tok:List Nat),quoted ((w.map (aU [34,92])).flatten++34::rest) line tok=(tok++w,rest,line+(((w.map (aU [34,92])).flatten).count 10:Nat)):=by
 intro w;induction w with
 | nil=>intro line tok;erw[List.map_nil,List.flatten_nil,List.nil_append,gG];simp[bP]
 | cons c r ih =>
  intro line tok;erw[List.map_cons,List.flatten_cons,List.append_assoc];by_cases hc:c∈([34,92]:List Nat)
  ·have e:aU [34,92] c=[92,c]:=by unfold aU;erw[if_pos hc]
   erw[e];show quoted (92::c::((r.map (aU [34,92])).flatten++34::rest)) line tok=_
   erw[gG];simp only[show ((92:Nat) == 34)=false from rfl,Bool.false_eq_true,if_false,beq_self_eq_true,if_true];erw[ih,bP,bP]
   have e2:(([92,c]++(r.map (aU [34,92])).flatten).count 10:Nat)=[92].count 10+([c].count 10+((r.map (aU [34,92])).flatten).count 10):=by
    erw[← dY c,← dY 92];rfl
   erw[e2,List.append_assoc];refine congr (congrArg _ rfl) (congr (congrArg _ rfl) ?_);exact Int.le_antisymm (bQ 0 [_,_,_] [_] [] (.ile (.a (.a (.a .p0 (.c .p0)) (.c .p1)) (.c .p2)) (.a .p0 (.c (.a .p0 (.a .p1 .p2))))) aB) (bQ 0 [_,_,_] [_] [] (.ile (.a .p0 (.c (.a .p0 (.a .p1 .p2)))) (.a (.a (.a .p0 (.c .p0)) (.c .p1)) (.c .p2))) aB)
  ·have e:aU [34,92] c=[c]:=by unfold aU;erw[if_neg hc]
   erw[e];show quoted (c::((r.map (aU [34,92])).flatten++34::rest)) line tok=_
   erw[gG];have h1:(c == 34)=false:=beq_eq_false_iff_ne.mpr λz=>hc (by subst z;simp)
   have h2:(c == 92)=false:=beq_eq_false_iff_ne.mpr λz=>hc (by subst z;simp)
   simp only[h1,h2,Bool.false_eq_true,if_false];erw[ih,bP]
   have e2:(([c]++(r.map (aU [34,92])).flatten).count 10:Nat)=[c].count 10+((r.map (aU [34,92])).flatten).count 10:=by
    erw[← dY c];rfl
   erw[e2,List.append_assoc];refine congr (congrArg _ rfl) (congr (congrArg _ rfl) ?_);exact Int.le_antisymm (gZ [] (.ile (.a (.a .p0 (.c .p0)) (.c .p1)) (.a .p0 (.c (.a .p0 .p1)))) aB) (gZ [] (.ile (.a .p0 (.c (.a .p0 .p1))) (.a (.a .p0 (.c .p0)) (.c .p1))) aB)
theorem aBQ(R:List Nat)(last:List Nat)(res:List Nat→Int→List Nat×List Nat×Int)(hlast:∀line tok,bare last line tok=res tok line):∀(w:List Nat),(∀c∈w,c∉R→lY c=false∧c≠92)→∀(line:Int) (tok:List Nat),
  bare ((w.map (aU R)).flatten++last) line tok=res (tok++w) (line+(((w.map (aU R)).flatten).count 10:Nat)):=by
 intro w;induction w with
 | nil=>intro _ line tok;erw[List.map_nil,List.flatten_nil,List.nil_append,hlast];simp
 | cons c r ih =>
  intro hw line tok;have ih:=ih λx hx=>hw x (List.mem_cons_of_mem _ hx)
  erw[List.map_cons,List.flatten_cons,List.append_assoc];by_cases hc:c∈R
  ·have e:aU R c=[92,c]:=by unfold aU;erw[if_pos hc]
   erw[e];show bare (92::c::((r.map (aU R)).flatten++last)) line tok=_
   erw[jP];simp only[show lY 92=false from rfl,Bool.false_eq_true,if_false,beq_self_eq_true,if_true];erw[ih,bP,bP]
   have e2:(([92,c]++(r.map (aU R)).flatten).count 10:Nat)=[92].count 10+([c].count 10+((r.map (aU R)).flatten).count 10):=by
    erw[← dY c,← dY 92];rfl
   erw[e2,List.append_assoc];refine congr (congrArg _ rfl) ?_;exact Int.le_antisymm (bQ 0 [_,_,_] [_] [] (.ile (.a (.a (.a .p0 (.c .p0)) (.c .p1)) (.c .p2)) (.a .p0 (.c (.a .p0 (.a .p1 .p2))))) aB) (bQ 0 [_,_,_] [_] [] (.ile (.a .p0 (.c (.a .p0 (.a .p1 .p2)))) (.a (.a (.a .p0 (.c .p0)) (.c .p1)) (.c .p2))) aB)
  ·have e:aU R c=[c]:=by unfold aU;erw[if_neg hc]
   erw[e];show bare (c::((r.map (aU R)).flatten++last)) line tok=_
   erw[jP];refine cL (hw c List.mem_cons_self hc) λh1 h2=>?_
   have h2:(c == 92)=false:=beq_eq_false_iff_ne.mpr h2;simp only[h1,h2,Bool.false_eq_true,if_false];erw[ih,bP]
   have e2:(([c]++(r.map (aU R)).flatten).count 10:Nat)=[c].count 10+((r.map (aU R)).flatten).count 10:=by
    erw[← dY c];rfl
   erw[e2,List.append_assoc];refine congr (congrArg _ rfl) ?_;exact Int.le_antisymm (gZ [] (.ile (.a (.a .p0 (.c .p0)) (.c .p1)) (.a .p0 (.c (.a .p0 .p1)))) aB) (gZ [] (.ile (.a .p0 (.c (.a .p0 .p1))) (.a (.a .p0 (.c .p0)) (.c .p1))) aB)
theorem vX(turn:Nat):lY (cW turn)=true:=by
 unfold cW;rcases (by lia:turn % 4=0∨turn % 4=1∨turn % 4=2∨turn % 4=3)with e|e|e|e<;>erw[e]<;>rfl
theorem vY(R last:List Nat)(res:List Nat→Int→List Nat×List Nat×Int)(hlast:∀line tok,bare last line tok=res tok line)(w:List Nat)(hne:w≠[])(hw:∀c∈w,c∉R→lY c=false∧c≠92∧c≠34)(line:Int) :
  getTok ((w.map (aU R)).flatten++last) line=res w (line+(((w.map (aU R)).flatten).count 10:Nat)):=by
 cases w with
 | nil=>exact absurd rfl hne
 | cons c r =>
  have hb:=aBQ R last res hlast r λx hx hxR=>let ⟨a,b,_⟩:=hw x (List.mem_cons_of_mem _ hx) hxR;⟨a,b⟩
  erw[List.map_cons,List.flatten_cons,List.append_assoc];by_cases hc:c∈R
  ·have e:aU R c=[92,c]:=by unfold aU;erw[if_pos hc]
   erw[e];show getTok (92::c::((r.map (aU R)).flatten++last)) line=_
   erw[dC];simp only[show lY 92=false from rfl,show ((92:Nat) == 34)=false from rfl,Bool.false_eq_true,if_false,beq_self_eq_true,if_true];erw[hb,bP,bP]
   have e2:(([92,c]++(r.map (aU R)).flatten).count 10:Nat)=[92].count 10+([c].count 10+((r.map (aU R)).flatten).count 10):=by
    erw[← dY c,← dY 92];rfl
   erw[e2];refine congr (congrArg _ rfl) ?_;exact Int.le_antisymm (bQ 0 [_,_,_] [_] [] (.ile (.a (.a (.a .p0 (.c .p0)) (.c .p1)) (.c .p2)) (.a .p0 (.c (.a .p0 (.a .p1 .p2))))) aB) (bQ 0 [_,_,_] [_] [] (.ile (.a .p0 (.c (.a .p0 (.a .p1 .p2)))) (.a (.a (.a .p0 (.c .p0)) (.c .p1)) (.c .p2))) aB)
  ·have e:aU R c=[c]:=by unfold aU;erw[if_neg hc]
   erw[e];show getTok (c::((r.map (aU R)).flatten++last)) line=_
   erw[dC];refine jW (hw c List.mem_cons_self hc) λh1 h2 h3=>?_
   have h2:(c == 92)=false:=beq_eq_false_iff_ne.mpr h2;have h3:(c == 34)=false:=beq_eq_false_iff_ne.mpr h3;simp only[h1,h2,h3,Bool.false_eq_true,if_false];erw[hb,bP]
   have e2:(([c]++(r.map (aU R)).flatten).count 10:Nat)=[c].count 10+((r.map (aU R)).flatten).count 10:=by
    erw[← dY c];rfl
   erw[e2];refine congr (congrArg _ rfl) ?_;exact Int.le_antisymm (gZ [] (.ile (.a (.a .p0 (.c .p0)) (.c .p1)) (.a .p0 (.c (.a .p0 .p1)))) aB) (gZ [] (.ile (.a .p0 (.c (.a .p0 .p1))) (.a (.a .p0 (.c .p0)) (.c .p1))) aB)
theorem aBR(word:List Nat)(turn:Nat)(h0:turn % 3≠0):∀c∈word,c∉cV word turn→lY c=false∧c≠92∧c≠34:=by
 intro c hc hn;unfold cV at hn;rw[if_neg h0]at hn;split at hn
 ·simp only[List.mem_cons,List.not_mem_nil,or_false,not_or]at hn
  (refine an6 hn λa b d e f g=>?_;clear hn)
  refine⟨?_,b,a⟩;unfold lY;simp[d,e,f,g]
 ·exact absurd hc hn
theorem tG(word:List Nat)(hne:word≠[])(turn:Nat)(rest:List Nat)(line:Int):getTok (aR word turn++rest) line=(word,rest,line+((aR word turn).count 10:Nat)):=by
 unfold aR;by_cases h0:turn % 3=0
 ·simp only[h0,if_true];have hr:cV word turn=[34,92]:=by unfold cV;erw[if_pos h0]
  erw[hr];show getTok (cW turn::34::(((word.map (aU [34,92])).flatten++[34])++rest)) line=_
  erw[dC,if_pos (vX turn),dC];simp only[show lY 34=false from rfl,Bool.false_eq_true,if_false,beq_self_eq_true,if_true];erw[List.append_assoc,List.singleton_append,yC,bP,bP];simp only[List.nil_append,Prod.mk.injEq,true_and];show _=line+((([cW turn,34]++(word.map (aU [34,92])).flatten++[34]).count 10:Nat):Int)
  erw[List.count_append,List.count_append,dY (cW turn) [34]];have:([34]:List Nat).count 10=0:=by decide
  exact Int.le_antisymm (bQ 0 [_,_,_] [_] [] (.ile (.a (.a (.a .p0 (.c .p0)) (.c .p1)) (.c .p2)) (.a .p0 (.c (.a (.a (.a .p0 .p1) .p2) .p1)))) aB) (bQ 0 [_,_,_] [_] [.eq .p0 (.k 0)] (.ile (.a .p0 (.c (.a (.a (.a .p1 .p0) .p2) .p0))) (.a (.a (.a .p0 (.c .p1)) (.c .p0)) (.c .p2))) aB this)
 ·simp only[h0,if_false];erw[List.append_assoc,List.singleton_append];erw[vY (cV word turn) (cW turn::rest) (λtok l=>(tok,rest,aM l (cW turn))) (λl tok=>by erw[jP,if_pos (vX turn)]) word hne (aBR word turn h0)];erw[bP,List.count_append];simp only[Prod.mk.injEq,true_and];exact Int.le_antisymm (gZ [] (.ile (.a (.a .p0 (.c .p0)) (.c .p1)) (.a .p0 (.c (.a .p0 .p1)))) aB) (gZ [] (.ile (.a .p0 (.c (.a .p0 .p1))) (.a (.a .p0 (.c .p0)) (.c .p1))) aB)
set_option tactic.hygienic false
noncomputable def LedAt(led:aF)(l:List (Addr×M)):Prop:=∀p∈l,led p.1=some p.2
theorem LedAt.get(h:LedAt led l){i:Nat}(hi:l[i]?=some (a,m)):led a=some m:=h _ (List.mem_of_getElem? hi)
theorem LedAt.set(h:LedAt led l)(hn:(l.map (·.1)).Nodup)(m':M)(hi:l[i]?=some (a,m)):LedAt (upd led a m') (l.set i (a,m')):=by
 intro p hp;refine aN (List.mem_iff_getElem?.mp hp) λj hj=>?_
 by_cases hij:j=i
 ·subst hij;rw[List.getElem?_set_self (List.getElem?_eq_some_iff.mp hi).1]at hj
  (have e1:=Option.some.inj hj;clear hj;subst e1);exact aA ..
 ·rw[List.getElem?_set_ne (Ne.symm hij)]at hj;erw[aG]
  ·exact h.get hj
  ·intro e;have h1:(l.map (·.1))[j]?=some p.1:=by erw[List.getElem?_map,hj];rfl
   have h2:(l.map (·.1))[i]?=some a:=by erw[List.getElem?_map,hi];rfl
   exact hij ((List.getElem?_inj (List.getElem?_eq_some_iff.mp h1).1 hn).mp (by erw[h1,h2,e]))
theorem LedAt.far(h:LedAt led l)(ha:a∉l.map (·.1))(m:M):LedAt (upd led a m) l:=by
 intro p hp;have hne:p.1≠a:=λe=>ha (List.mem_map.mpr ⟨p,hp,e⟩)
 erw[aG _ _ hne];exact h p hp
theorem LedAt.less(h:LedAt led l)(hl:Less led led'):LedAt led' l:=λp hp=>hl _ _ (h p hp)
theorem LexOk.far'(L:LexOk B A cl)(h:a∉[A.x,A.st,A.sd,A.rf,A.cp])(m:M):LexOk (upd B a m) A cl:=by
 simp only[List.mem_cons,List.not_mem_nil,or_false,not_or]at h
 (refine an5 h λh1 h2 h3 h4 h5=>?_;clear h)
 refine aN L.st λfd e2=>?_
 obtain ⟨fdr,cells,args,body,scope,nm,nm',pos,hrf,hr⟩:=L.rf;exact⟨L.nd,by erw[aG _ _ (Ne.symm h1)];exact L.x,⟨fd,by erw[aG _ _ (Ne.symm h2)];exact e2⟩,by erw[aG _ _ (Ne.symm h3)];exact L.sd,⟨fdr,cells,args,body,scope,nm,nm',pos,by erw[aG _ _ (Ne.symm h4)];exact hrf,hr⟩,by erw[aG _ _ (Ne.symm h5)];exact L.cp⟩
theorem LexOk.less(L:LexOk B A cl)(h:Less B B'):LexOk B' A cl:=by
 refine aN L.st λfd e2=>?_
 obtain ⟨fdr,cells,args,body,scope,nm,nm',pos,hrf,hr⟩:=L.rf;exact⟨L.nd,h _ _ L.x,⟨fd,h _ _ e2⟩,h _ _ L.sd,⟨fdr,cells,args,body,scope,nm,nm',pos,h _ _ hrf,hr⟩,h _ _ L.cp⟩
structure RowS where
 line:Int
 text:List Nat
 pb:List (List Nat)
 w:List Int
 r:List (List Nat)
structure RunA where
 A:Nat→LxA
 W:Nat→Addr
 R:Nat→Addr
 t:Addr
noncomputable def aBS(P:RunA)(i:Nat)(s:RowS):List (Addr×M):=[((P.A i).dx,.ns1 (gF (P.A i) s.line)),((P.A i).pg,.list (s.text.map iS)),((P.A i).pb,.list (s.pb.map bB)),(P.W i,.list (s.w.map .int)),(P.R i,.list (s.r.map bB))]
noncomputable def slots(P:RunA)(S:Nat→RowS)(told:List Int):List (Addr×M):=aBS P 0 (S 0)++aBS P 1 (S 1)++[(P.t,.list (told.map .int))]
noncomputable def stat(P:RunA):List Addr:=[(P.A 0).x,(P.A 0).st,(P.A 0).sd,(P.A 0).rf,(P.A 0).cp,(P.A 1).x,(P.A 1).st,(P.A 1).sd,(P.A 1).rf,(P.A 1).cp]
noncomputable def dM(P:RunA):List Addr:=[(P.A 0).dx,(P.A 0).pg,(P.A 0).pb,P.W 0,P.R 0,(P.A 1).dx,(P.A 1).pg,(P.A 1).pb,P.W 1,P.R 1,P.t]
theorem iL(P:RunA)(S:Nat→RowS)(told:List Int):(slots P S told).map (·.1)=dM P:=rfl
structure RunD (P:RunA):Prop where
 nd:(dM P).Nodup
 ns:∀a∈dM P,a∉stat P
structure RunAt (P:RunA) (cl:Addr) (led:aF) (S:Nat→RowS) (told:List Int):Prop where
 ok:∀i,i<2→LexOk led (P.A i) cl
 at_:LedAt led (slots P S told)
noncomputable def dA(S:Nat→RowS)(i:Nat)(s:RowS):Nat→RowS:=λj=>if j=i then s else S j
theorem bE(S:Nat→RowS)(i:Nat)(s:RowS):dA S i s i=s:=if_pos rfl
theorem fP(S:Nat→RowS)(i:Nat)(s s':RowS):dA (dA S i s) i s'=dA S i s':=by
 funext j;unfold dA;split<;>rfl
theorem aCU(S:Nat→RowS)(i:Nat):dA S i (S i)=S:=by
 funext j;unfold dA;split<;>simp_all
section
variable {P:RunA} {cl:Addr} {led:aF} {S:Nat→RowS} {told:List Int}
theorem aX(h:i<2):i=0∨i=1:=by lia
theorem RunAt.slot(H:RunAt P cl led S told)(hi:i<2)(j:Nat)(hj:(aBS P i (S i))[j]?=some p):led p.1=some p.2:=by
 refine H.at_ p ?_;have:=List.mem_of_getElem? hj;unfold slots;rcases aX hi with rfl|rfl<;>simp[this]
theorem RunAt.tl(H:RunAt P cl led S told):led P.t=some (.list (told.map .int)):=H.at_ (P.t,_) (by unfold slots;simp)
theorem RunAt.dx(H:RunAt P cl led S told)(hi:i<2):led (P.A i).dx=some (.ns1 (gF (P.A i) (S i).line)):=H.slot hi 0 rfl
theorem RunAt.pg(H:RunAt P cl led S told)(hi:i<2):led (P.A i).pg=some (.list ((S i).text.map iS)):=H.slot hi 1 rfl
theorem RunAt.pb(H:RunAt P cl led S told)(hi:i<2):led (P.A i).pb=some (.list ((S i).pb.map bB)):=H.slot hi 2 rfl
theorem RunAt.w(H:RunAt P cl led S told)(hi:i<2):led (P.W i)=some (.list ((S i).w.map .int)):=H.slot hi 3 rfl
theorem RunAt.r(H:RunAt P cl led S told)(hi:i<2):led (P.R i)=some (.list ((S i).r.map bB)):=H.slot hi 4 rfl
theorem RunAt.lex(H:RunAt P cl led S told)(hi:i<2):lexL led (P.A i) (S i).line (S i).text ((S i).pb.map bB)=led:=by
 unfold lexL;erw[lS _ _ _ (H.dx hi),lS _ _ _ (H.pg hi),lS _ _ _ (H.pb hi)]
theorem RunAt.far(H:RunAt P cl led S told)(D:RunD P)(h1:a∉stat P)(h2:a∉dM P)(m:M):RunAt P cl (upd led a m) S told:=by
 refine⟨λi hi=>?_,H.at_.far (by erw[iL];exact h2) m⟩;refine (H.ok i hi).far' (λh=>h1 ?_) m;unfold stat;rcases aX hi with rfl|rfl
 ·simp only[List.mem_cons,List.not_mem_nil,or_false]at h ⊢;rcases h with h|h|h|h|h<;>simp[h]
 ·simp only[List.mem_cons,List.not_mem_nil,or_false]at h ⊢;rcases h with h|h|h|h|h<;>simp[h]
theorem RunAt.set(H:RunAt P cl led S told)(D:RunD P)(j:Nat)(hj:(slots P S told)[j]?=some (a,m₀))(e:slots P S' told'=(slots P S told).set j (a,m)):RunAt P cl (upd led a m) S' told':=by
 have ha:a∈dM P:=by erw[← iL P S told];exact List.mem_map.mpr ⟨_,List.mem_of_getElem? hj,rfl⟩
 refine⟨λi hi=>?_,?_⟩
 ·refine (H.ok i hi).far' (λh=>D.ns a ha ?_) m;unfold stat;rcases aX hi with rfl|rfl
  ·simp only[List.mem_cons,List.not_mem_nil,or_false]at h ⊢;rcases h with h|h|h|h|h<;>simp[h]
  ·simp only[List.mem_cons,List.not_mem_nil,or_false]at h ⊢;rcases h with h|h|h|h|h<;>simp[h]
 ·erw[e];exact H.at_.set (by erw[iL];exact D.nd) m hj
theorem RunAt.setT(H:RunAt P cl led S told)(D:RunD P)(told':List Int):RunAt P cl (upd led P.t (.list (told'.map .int))) S told':=H.set D 10 rfl rfl
theorem RunAt.setW(H:RunAt P cl led S told)(D:RunD P)(hi:i<2)(w:List Int):RunAt P cl (upd led (P.W i) (.list (w.map .int))) (dA S i { S i with w:=w }) told:=by
 rcases aX hi with rfl|rfl
 ·exact H.set D 3 rfl rfl
 ·exact H.set D 8 rfl rfl
theorem RunAt.setR(H:RunAt P cl led S told)(D:RunD P)(hi:i<2)(r:List (List Nat)):RunAt P cl (upd led (P.R i) (.list (r.map bB))) (dA S i { S i with r:=r }) told:=by
 rcases aX hi with rfl|rfl
 ·exact H.set D 4 rfl rfl
 ·exact H.set D 9 rfl rfl
theorem RunAt.setPb(H:RunAt P cl led S told)(D:RunD P)(hi:i<2)(pb:List (List Nat)):RunAt P cl (upd led (P.A i).pb (.list (pb.map bB))) (dA S i { S i with pb:=pb }) told:=by
 rcases aX hi with rfl|rfl
 ·exact H.set D 2 rfl rfl
 ·exact H.set D 7 rfl rfl
theorem RunAt.setPg(H:RunAt P cl led S told)(D:RunD P)(hi:i<2)(text:List Nat):RunAt P cl (upd led (P.A i).pg (.list (text.map iS))) (dA S i { S i with text:=text }) told:=by
 rcases aX hi with rfl|rfl
 ·exact H.set D 1 rfl rfl
 ·exact H.set D 6 rfl rfl
theorem RunAt.setDx(H:RunAt P cl led S told)(D:RunD P)(hi:i<2)(line:Int):RunAt P cl (upd led (P.A i).dx (.ns1 (gF (P.A i) line))) (dA S i { S i with line:=line }) told:=by
 rcases aX hi with rfl|rfl
 ·exact H.set D 0 rfl rfl
 ·exact H.set D 5 rfl rfl
theorem RunAt.setLex(H:RunAt P cl led S told)(D:RunD P)(hi:i<2)(line:Int)(text:List Nat)(pb:List (List Nat)):RunAt P cl (lexL led (P.A i) line text (pb.map bB)) (dA S i { S i with line:=line,text:=text,pb:=pb }) told:=by
 have h1:=H.setDx D hi line;have h2:=h1.setPg D hi text;have h3:=h2.setPb D hi pb;rw[fP,fP,bE,bE]at h3;exact h3
theorem lH(hi:i<2):∀a∈[(P.A i).dx,(P.A i).pg,(P.A i).pb,P.W i,P.R i],a∈dM P:=by
 intro a ha;unfold dM;rcases aX hi with rfl|rfl
 ·simp only[List.mem_cons,List.not_mem_nil,or_false]at ha ⊢;rcases ha with h|h|h|h|h<;>simp[h]
 ·simp only[List.mem_cons,List.not_mem_nil,or_false]at ha ⊢;rcases ha with h|h|h|h|h<;>simp[h]
theorem pO(hi:i<2)(ha:a∉dM P):lexL led (P.A i) line text pbk a=led a:=by
 have h:=lH (P:=P) hi;unfold lexL;erw[aG _ _ λe=>ha (h a (by simp[e])),aG _ _ λe=>ha (h a (by simp[e])),aG _ _ λe=>ha (h a (by simp[e]))]
end
set_option tactic.hygienic false
theorem Op2.eq_ref(ha:led a=some (.list xs))(hd:cE xs=true)(he:e.pure=true)(hn:e.py.depth≤20)(h:Q (.bool ((D.lst xs).eqv e)) led):Op2 C Y led (k+1) (compareOp .Eq) (.ref a) e Q:=λA fz G s v u hA S e1 e2=>by
 induction e1 using aT;refine cJ (S.listAt ha) λvs n hl hv=>?_
 refine aN (iY S.hz xs vs hd hv) λas r=>?_
 refine aN (iC S.hz e u he e2) λbs r'=>?_
 refine SeqAt.compareEq_reads (da:=.list (fX xs)) (.list hl rfl rfl r) r' (gR xs hd) (fB e he) ?_ (Pst.leaf S (.bool _) h);exact sI hA.2.2 (zL (.inr hn))
theorem OpY.eq_ref(ha:led a=some (.list xs))(hd:cE xs=true)(he:e.pure=true)(hn:e.py.depth≤20)(h:Q (.bool ((D.lst xs).eqv e)) led):∀Y,Op2 C Y led (k+1) (compareOp .Eq) (.ref a) e Q:=λ_=>Op2.eq_ref ha hd he hn h
noncomputable def bR(s:RowS):List Nat:=match s.pb with
 | d::_=>d
 | []=>(getTok s.text s.line).1
noncomputable def jV(s:RowS):RowS:=match s.pb with
 | _::r=>{ s with pb:=r }
 | []=>{ s with line:=(getTok s.text s.line).2.2,text:=(getTok s.text s.line).2.1 }
noncomputable def gV(num:Nat→Int)(s:RowS):RowS:={ jV s with r:=s.r++[bR s],w:=(bR s).map num }
noncomputable def pP(s:RowS):Int×RowS:=match s.w with
 | x::w=>(x,{ s with w:=w })
 | []=>(-1,s)
noncomputable def dL(num:Nat→Int)(s:RowS):Int×RowS:=pP (if s.w=[] then gV num s else s)
theorem fQ:∀xs:List Int,cE (xs.map .int)=true
 | []=>rfl
 | x::r=>by show ((D.int x).pure && _)=true;rw[fQ r];rfl
theorem aAb(xs:List Int):(D.lst (xs.map .int)).eqv (.lst [])=xs.isEmpty:=by cases xs<;>rfl
theorem aEa(s:RowS):(jV s).w=s.w:=by unfold jV;split<;>rfl
theorem aBT(s:RowS):(jV s).r=s.r:=by unfold jV;split<;>rfl
theorem aAc(N:iO C)(E:NetEnv C cl mN)(hf:GFn C f (eS 2))(H:RunAt P cl led S told)(D:RunD P)(hi:i<2)
  (hok:∀c∈(S i).text,c∈alph) (hlen:(S i).text.length≤100000) (hpl:(S i).pb.length≤100000)
  (hq:∀led',RunAt P cl led' (dA S i (jV (S i))) told→(∀a,a∉dM P→led' a=led a)→Q (bB (bR (S i))) led'):CallW C Y led (k+10) (.ref f) [.ref (P.A i).x] Q:=by
 have e:=H.lex hi;erw[← e];refine pH (k:=k) N E hf (H.ok i hi) hok hlen (by erw[List.length_map];exact hpl) (λd r hd=>?_) λhd=>?_
 ·(refine cU (List.map_eq_cons_iff.mp hd) λb pb hb o1 o2=>?_;subst o1;subst o2)
  have h1:=H.setLex D hi (S i).line (S i).text pb;have e1:bR (S i)=b:=by unfold bR;erw[hb]
  have e2:jV (S i)={ S i with pb:=pb }:=by unfold jV;erw[hb]
  erw[← e1];exact hq _ (by erw[e2];exact h1) λa ha=>pO hi ha
 ·have hb:=List.map_eq_nil_iff.mp hd;have h1:=H.setLex D hi (getTok (S i).text (S i).line).2.2 (getTok (S i).text (S i).line).2.1 [];have e1:bR (S i)=(getTok (S i).text (S i).line).1:=by unfold bR;erw[hb]
  have e2:jV (S i)={ S i with line:=(getTok (S i).text (S i).line).2.2,text:=(getTok (S i).text (S i).line).2.1,pb:=[] }:=by unfold jV;erw[hb]
  erw[← e1];exact hq _ (by erw[e2];exact h1) λa ha=>pO hi ha
noncomputable def aAY:List Stmt:=fC (aQ 16)
noncomputable def vZ:Stmt:=jA 1 aAY
noncomputable abbrev aDr(P:RunA):D:=.lst ((List.range 2).map λi=>.ref (P.W i))
noncomputable abbrev aBU(P:RunA):D:=.lst ((List.range 2).map λi=>.ref (P.R i))
noncomputable abbrev aEZ(P:RunA):D:=.lst ((List.range 2).map λi=>.ref (P.A i).x)
noncomputable abbrev wA(o:Nat→Obj):D:=.lst ((List.range 2).map λi=>.dct (o i))
noncomputable abbrev szF(P:RunA)(o:Nat→Obj):aD:=[("told",.ref P.t),("waiting",aDr P),("read",aBU P),("lexers",aEZ P),("numbers",wA o)]
structure NumOk (C:Cx) (o:Nat→Obj) (sgs:List Nat) (num:Nat→Nat→Int):Prop where
 at_:∀i,i<2→∃n key nm,0<n∧DictI C.prog C.w (o i) n key nm∧∀c∈sgs,∃j,j<n∧(⟨#[c]⟩:Str)=key j∧nm j=num i c
noncomputable abbrev szV(P:RunA)(o:Nat→Obj)(i:Nat):aD:=("row",aP i)::szF P o
theorem aAZ
  (N:iO C) (E:NetEnv C cl mN) (hin:vZ=.FunctionDef name args body [] none [] scope none name' pos)
  (hfi:FnIs fd args (.stmts body) scope (bS scope cells)) (hl:led fs=some (.fn dict fd)) (hc:CloOk (bS scope cells) Y (szF P o)) (NU:NumOk C o sgs num) (H:RunAt P cl led S told) (D:RunD P) (htl:told.length≤100000)
  (hok:∀i,i<2→(∀c∈(S i).text,c∈alph)∧(S i).text.length≤100000∧(S i).pb.length≤100000∧(S i).r.length≤100000)
  (htok:(S (1 - told.length % 2)).w=[]→(bR (S (1 - told.length % 2))).length≤1000∧∀c∈bR (S (1 - told.length % 2)),c∈sgs)
  (hwl:(S (1 - told.length % 2)).w.length≤1000)
  (hq:∀led',RunAt P cl led' (dA S (1 - told.length % 2) (dL (num (1 - told.length % 2)) (S (1 - told.length % 2))).2) told→(∀a,a∉dM P→led' a=led a)→Q (.int (dL (num (1 - told.length % 2)) (S (1 - told.length % 2))).1) led') :
  CodeW C Y led (k+40) (.ref fs) [] Q:=by
 have hin':jA 1 aAY=.FunctionDef name args body [] none [] scope none name' pos:=hin;unfold aAY at hin';cases hin';obtain ⟨fgt,mg⟩:=E.gt;obtain ⟨og,go1,go2,go3⟩:=mg.obj;refine CodeW.nest hl hfi [] rfl rfl (szF P o) hc rfl λL' cs q code hcs=>?_
 walk_at "v";refine aI ?_;walk_at "v";refine KcY.len_ref H.tl (by erw[List.length_map];exact gN htl aB) ?_;erw[List.length_map];walk_at "v";refine OpY.modn 2 ?_;refine OpY.sub ?_;have hml:told.length % 2<2:=Nat.mod_lt _ (by decide);erw[show (1:Int) - ((told.length % 2:Nat):Int)=((1 - told.length % 2:Nat):Int) by exact Int.le_antisymm (bC [.le .k1 (.a .p0 .p1)] (.ile (.s (.k 1) (.c .p1)) (.c .p0)) aB (Nat.le_add_of_sub_le (Nat.le_refl _))) (bC [.eq (.a .p0 .p1) .k1] (.ile (.c .p0) (.s (.k 1) (.c .p1))) aB (Nat.sub_add_cancel (lkd (Nat.mod_lt _ (by decide)) aB)))];have hi:1 - told.length % 2<2:=Nat.sub_lt_succ 1 (told.length % 2);generalize 1 - told.length % 2=i at *;clear hfi hc hl hcs hin;obtain ⟨nk,key,nm,hnk,hDI,hkey⟩:=NU.at_ i hi;obtain ⟨hok1,hok2,hok3,hok4⟩:=hok i hi;refine WU.st ?_;refine pG (λvs led'=>Sub (szV P o i) vs∧RunAt P cl led' (dA S i (if (S i).w=[] then gV (num i) (S i) else S i)) told∧∀a,a∉dM P→led' a=led a) ?_ ?_
 ·walk_at "v";refine SuY.lst (Int.natCast_nonneg i) (lO hi aB) (bK hi) ?_;refine WE.list ?_;walk_at "v";refine⟨by exact Nat.zero_le _,?_⟩;refine OpY.eq_ref (k:=k+38) (H.w hi) (fQ _) rfl (by decide) ?_;erw[aAb];walk_at "v";refine⟨λhb=>?_,λhb=>?_⟩
  ·have hw0:(S i).w=[]:=List.isEmpty_iff.mp hb;obtain ⟨ht1,ht2⟩:=htok hw0;erw[if_pos hw0];walk_at "v";refine cQ (pl:=_) ?_;walk_at "v";refine SuY.lst (Int.natCast_nonneg i) (lO hi aB) (bK hi) ?_;refine⟨_,_,λY=>GetM.append (H.r hi),?_⟩;walk_at "v";refine cQ (pl:=_) ?_;walk_at "v";refine SuY.lst (Int.natCast_nonneg i) (lO hi aB) (bK hi) ?_;refine⟨_,_,λY=>GetM.inst E.cls (H.ok i hi).x (H.dx hi) mg.at_ go1 go3 go2 ol6 rfl,?_⟩;walk_at "v";refine Y1 (λ_ z9=>⟨mg.fn.keep,(aAc (k:=k) N E mg.fn H D hi hok1 hok2 hok3 z9).up (bF [] (.le (.a .p0 (.k 10)) (.a .p0 (.k 39))) aB)⟩) ?_;intro led1 H1 hf1;have hr1:=H1.r hi;rw[bE,aBT]at hr1;walk_at "v";refine KcY.append hr1 (by erw[List.length_map];exact eJ hok4 aB) ?_;refine⟨rfl,?_⟩;have H2:=H1.setR D hi ((S i).r++[bR (S i)]);rw[fP,bE,List.map_append]at H2
   have hf2:∀a,a∉dM P→upd led1 (P.R i) (.list ((S i).r.map bB++[bR (S i)].map bB)) a=led a:=λa ha=>by
    erw[aG _ _ λe=>ha (by erw[e];exact lH hi _ (List.mem_of_getLast? rfl))];exact hf1 a ha
   rw[show [bR (S i)].map bB=[bB (bR (S i))] from rfl]at H2 hf2;generalize upd led1 (P.R i) (.list ((S i).r.map bB++[bB (bR (S i))]))=led2 at *;have hw2:=H2.w hi;have hr2:=H2.r hi;rw[bE]at hw2 hr2;rw[aEa,hw0]at hw2;walk_at "v";refine cQ (pl:=_) ?_;walk_at "v";refine SuY.lst (Int.natCast_nonneg i) (lO hi aB) (bK hi) ?_;refine⟨_,_,λY=>GetM.extend hw2,?_⟩;refine WL.cons (dS [("row",aP i),("numbers",wA o)] ?_);walk_at "v";refine SuY.lst (Int.natCast_nonneg i) (lO hi aB) (bK hi) ?_;walk_at "v"
   refine SuY.ref_neg hr2 (Int.sign_eq_neg_one_iff_neg.mp rfl) (by erw[List.length_map,List.length_append,List.length_singleton];exact bF [] (.ile (.g (.c (.a .p0 .k1))) (.g (.k 1))) aB) (by erw[List.length_map,List.length_append,List.length_singleton];exact bF [.le .p0 (.k 100000)] (.lt (.a .p0 .k1) (.k 4611686018427387904)) aB hok4) (d:=bB (bR (S i))) (by
    erw[List.length_map,List.length_append,List.length_singleton,show (-1+(((S i).r.length+1:Nat):Int)).toNat=(S i).r.length by lia,List.getElem?_map,List.getElem?_append_right (Nat.le_refl _),Nat.sub_self];rfl) ?_
   have hitems:bL (mk (bR (S i)))=(bR (S i)).map iS:=rfl;refine⟨_,(bR (S i)).map λc=>some (.int (num i c)),λY=>IterOf.str,by erw[hitems,List.length_map];lia,by erw[hitems,List.length_map,List.length_map],λL cs p x hx=>?_,?_⟩
   ·rw[hitems,List.getElem?_map]at hx;obtain ⟨c,hc,rfl⟩:=Option.map_eq_some_iff.mp hx;obtain ⟨j,hj,hkj,hnj⟩:=hkey c (ht2 c (List.mem_of_getElem? hc));walk_at "v";refine⟨rfl,?_⟩;walk_at "v";refine⟨λ_=>?_,λhc=>by cases hc⟩;refine cQ (pl:=_) ?_;walk_at "v";refine SuY.lst (Int.natCast_nonneg i) (lO hi aB) (bK hi) ?_;refine⟨_,_,λY=>GetM.dget hDI hnk,?_⟩;walk_at "v";refine KcY.dget hDI j hj hkj ?_;erw[hnj];exact⟨by erw[List.getElem?_map,hc];rfl,rfl⟩
   ·rw[show (((bR (S i)).map λc=>some (Sc.D.int (num i c))).filterMap id)=((bR (S i)).map (num i)).map .int by
     erw[show ((bR (S i)).map λc=>some (Sc.D.int (num i c)))=(((bR (S i)).map (num i)).map .int).map some by simp,bT]]
    walk_at "v";refine KcY.extend hw2 (by erw[List.length_map,List.length_map,List.length_map];simp;lia) ?_;refine⟨rfl,?_⟩;have H3:=H2.setW D hi ((bR (S i)).map (num i));rw[fP,bE]at H3
    have hf3:∀a,a∉dM P→upd led2 (P.W i) (.list (((bR (S i)).map (num i)).map .int)) a=led a:=λa ha=>by
     erw[aG _ _ λe=>ha (by erw[e];exact lH hi _ (by simp))];exact hf2 a ha
    walk_at "v";exact⟨rfl,rfl,H3,hf3⟩
  ·have hw0:(S i).w≠[]:=λz=>by rw[z]at hb;cases hb
   erw[if_neg hw0,aCU];walk_at "v";exact⟨rfl,rfl,H,λ_ _=>rfl⟩
 ·intro vs2 led2 o21;obtain ⟨hsub,H2,hf2⟩:=o21;refine WS.sub ?_ hsub;unfold dL at hq
  have hwl2:(if (S i).w=[] then gV (num i) (S i) else S i).w.length≤1000:=by
   split
   ·rename_i h0;show ((bR (S i)).map _).length≤_;erw[List.length_map];exact (htok h0).1
   ·exact hwl
  generalize (if (S i).w=[] then gV (num i) (S i) else S i)=s at *;have hw2:=H2.w hi;rw[bE]at hw2;walk_at "v";refine SuY.lst (Int.natCast_nonneg i) (lO hi aB) (bK hi) ?_;refine WE.list ?_;walk_at "v";refine⟨by exact Nat.zero_le _,?_⟩;refine OpY.ne_ref (k:=k+38) hw2 (fQ _) rfl (by decide) ?_;erw[aAb];walk_at "v";refine⟨λhb=>?_,λhb=>?_⟩
  ·cases hs:s.w with
   | nil=>rw[hs]at hb;cases hb
   | cons x w =>
    rw[hs]at hw2;refine cQ (pl:=_) ?_;walk_at "v";refine SuY.lst (Int.natCast_nonneg i) (lO hi aB) (bK hi) ?_;refine⟨_,_,λY=>GetM.pop hw2,?_⟩;walk_at "v";refine KcY.pop_at hw2 (by simp;rw[hs]at hwl2;simp at hwl2;exact eJ hwl2 aB) (Int.zero_le_ofNat 0) rfl ?_;have e0:pP s=(x,{ s with w:=w }):=by unfold pP;erw[hs]
    rw[e0]at hq;have H3:=H2.setW D hi w;rw[fP,bE]at H3
    exact hq _ H3 λa ha=>by
     erw[aG _ _ λe=>ha (by erw[e];exact lH hi _ (by simp))];exact hf2 a ha
  ·cases hs:s.w with
   | cons x w=>rw[hs]at hb;cases hb
   | nil =>
    have e0:pP s=(-1,s):=by unfold pP;erw[hs]
    rw[e0]at hq;walk_at "v";exact hq _ H2 hf2
set_option tactic.hygienic false
theorem mE(l:List Nat):(mk l).length=l.length:=by show l.toArray.size=_;simp
theorem aCV(l:List Nat)(a b:Nat)(hb:b≤l.length):((sliceRange a b 1).filterMap (l.toArray[·]?))=(l.drop a).take (b - a):=by
 erw[sliceRange_one,List.filterMap_map]
 have key:∀n a,a+n≤l.length→(List.range n).filterMap ((λx=>l.toArray[x]?)∘(a+·))=(l.drop a).take n:=by
  intro n;induction n with
  | zero=>intro a _;simp
  | succ n ih =>
   intro a h;erw[List.range_succ,List.filterMap_append,ih a (Nat.le_of_succ_le h),List.take_add_one]
   congr 1
   simp only[List.filterMap_cons,Function.comp_apply,List.getElem?_toArray,List.filterMap_nil,List.getElem?_drop];cases l[a+n]?<;>rfl
 by_cases h:a≤b
 ·exact key _ _ (lN [.le .p0 .p1,.eq (.a .p2 .p3) .p0] (.le (.a .p3 .p2) .p1) aB hb (Nat.sub_add_cancel (bC [.le .p0 .p1] (.le .p0 .p1) aB h)))
 ·have:b - a=0:=Nat.le_antisymm (bF [.eq .p0 (.k 0)] (.le .p0 (.k 0)) aB (Nat.sub_eq_zero_of_le (bC [.lt .p0 .p1] (.le .p0 .p1) aB (Nat.lt_of_not_le h)))) (bF [] (.le (.k 0) .p0) aB);erw[this];simp
theorem wB{l:List Nat}{lo hi:Option Int}(a b:Nat)(hb:b≤l.length)(e:Builtin.Str.strSliceIndices lo hi 1 l.length=sliceRange a b 1):Txt.slice (mk l) lo hi=mk ((l.drop a).take (b - a)):=by
 unfold Txt.slice;erw[mE,e];have hp:=aCV l a b hb;have hl:(sliceRange a b 1).length=b - a:=by erw[sliceRange_one];simp
 split
 ·rename_i h;simp only[beq_self_eq_true,Bool.true_and,beq_iff_eq]at h;rw[hl]at h;have h1:b - a=l.length:=h;by_cases hn:l.length=0
  ·have:=List.length_eq_zero_iff.mp hn;subst this;simp
  ·have ha:a=0:=by lia
   subst ha;erw[h1,List.drop_zero,List.take_length]
 ·show (⟨_⟩:Str)=⟨_⟩
  erw[show (mk l).cps=l.toArray from rfl,hp]
theorem yD(l:List Nat)(a:Nat):Txt.slice (mk l) (some (a:Int)) none=mk (l.drop a):=by
 erw[wB (min a l.length) l.length (Nat.le_refl _)]
 ·by_cases h:a≤l.length
  ·erw[Nat.min_eq_left h,List.take_of_length_le (by erw[List.length_drop];exact Nat.le_refl (l.length - a))]
  ·erw[Nat.min_eq_right (Nat.le_of_not_ge h),List.drop_length,List.drop_of_length_le (Nat.le_of_not_ge h)];simp
 ·unfold Builtin.Str.strSliceIndices;simp only[show (1:Int) > 0 by decide,if_true]
  congr 1
  erw[if_neg (Int.not_ofNat_neg a)];lia
theorem yE(l:List Nat)(b:Nat):Txt.slice (mk l) none (some (b:Int))=mk (l.take b):=by
 erw[wB 0 (min b l.length) (Nat.min_le_right ..)]
 ·erw[List.drop_zero,Nat.sub_zero];by_cases h:b≤l.length
  ·erw[Nat.min_eq_left h]
  ·erw[Nat.min_eq_right (Nat.le_of_not_ge h),List.take_length,List.take_of_length_le (Nat.le_of_not_ge h)]
 ·unfold Builtin.Str.strSliceIndices;simp only[show (1:Int) > 0 by decide,if_true]
  congr 1
  erw[if_neg (Int.not_ofNat_neg b)];lia
noncomputable def wC(ns:List Int)(lo hi st:Option Int):List Int :=
 (sliceRange (sliceBounds lo hi st ns.length).1 (sliceBounds lo hi st ns.length).2.1 (sliceBounds lo hi st ns.length).2.2).filterMap (ns[·]?)
theorem aA0(ns:List Int)(lo hi st:Option Int):iW (ns.map .int) lo hi st=(wC ns lo hi st).map .int:=by
 unfold iW wC;erw[List.length_map,List.map_filterMap]
 congr 1
 funext i
 erw[List.getElem?_map]
theorem rR(ns:List Int)(k:Nat):(wC ns (some (k:Int)) none (some 4)).length≤ns.length:=by
 refine Nat.le_trans (List.length_filterMap_le ..) (sliceRange_length_le _ _ _ _ (λ_=>⟨?_,?_⟩) λh=>absurd (show (4:Int) > 0 by decide) h)
 ·show 0≤(sliceBounds _ _ _ _).1
  unfold sliceBounds;simp only[Option.getD_some,show (4:Int) > 0 by decide,if_true];erw[if_neg (Int.not_ofNat_neg k)];exact Int.le_max_left 0 (min ↑k ↑ns.length)
 ·show (sliceBounds _ _ _ _).2.1≤_
  unfold sliceBounds;simp only[Option.getD_some,show (4:Int) > 0 by decide,if_true];exact Int.le_refl ↑ns.length
set_option tactic.hygienic true
noncomputable section
noncomputable def giScope:Scope:=sZ (aQ 2)
noncomputable def aE0:Stmt:=jA 0 (fC (aQ 2))
noncomputable def kJ:Stmt:=jA 1 (fC (aQ 2))
noncomputable def aBV:Stmt:=jA 0 (fC kJ)
noncomputable def aAd:Stmt:=jA 1 (fC kJ)
noncomputable def aBW:Stmt:=jA 0 (fC aAd)
noncomputable def aEb:Stmt:=jA 1 (fC aAd)
noncomputable def aEc:Stmt:=jA 2 (fC kJ)
noncomputable def aBX:Stmt:=jA 3 (fC kJ)
noncomputable def aE1:Stmt:=jA 0 (fC aBV)
noncomputable def aEd:Stmt:=jA 0 (fC aBW)
noncomputable def aEe:Stmt:=jA 0 (fC aEb)
noncomputable def jZ:Expr:=aD1 kJ
noncomputable def aE2:Expr:=rP kJ
noncomputable def aE3:Expr:=rP aBV
noncomputable def aE4:Expr:=rP aAd
noncomputable def aE5:Expr:=rP aBW
noncomputable def mF:Expr:=rP aEb
noncomputable def aE6:Expr:=yeS aEc
noncomputable def aDt:Expr:=yeS aEe
end
noncomputable abbrev aCW:List Stmt:=[.Expr (.Yield (some aDt) (aDo aEe)) (pC aEe)]
noncomputable abbrev aE7:List Stmt:=[.If aE5 [aEd] [] (pC aBW),.While mF aCW [] (pC aEb)]
noncomputable abbrev wD:List Stmt:=[.Expr (.Yield (some aE6) (aDo aEc)) (pC aEc),aBX]
noncomputable abbrev qW:List Stmt:=.If aE3 [aE1] [] (pC aBV)::.If aE4 aE7 [] (pC aAd)::wD
noncomputable abbrev wE:List Stmt:=[aE0,.For jZ aE2 qW [] (pC kJ)]
theorem aEf:∃name name' pos0,aQ 2=.FunctionDef name (aES (aQ 2)) wE [] none [] giScope none name' pos0:=⟨_,_,_,rfl⟩
theorem tH:giScope.kind=.function:=rfl
structure GiZ where
 L:Addr
 cs:List (Str×Addr)
 q:Str
 code:Value
noncomputable abbrev bA(a:Addr)(z:GiZ):Fe:=dF giScope z.L z.cs z.q a z.code
noncomputable def aEg:Option Int→D
 | none=>.none
 | some i=>.int i
noncomputable abbrev yF(d:D)(last:Option Int):aD:=[("grouping",d),("last_interval",aEg last)]
noncomputable abbrev pQ(d:D)(last:Option Int)(i:Int):aD:=[("grouping",d),("last_interval",aEg last),("interval",.int i)]
structure GiEnv (C:Cx) (a:Addr):Prop where
 N:iO C
 cm:∃t,C.mg "CHAR_MAX"=some (.int 127 t)
 ve:C.mg "ValueError"=none
 fn:GFn C a (aQ 2)
theorem yG(o:Option Int):isNone (aEg o)=o.isNone:=by cases o<;>rfl
noncomputable def eO:Str:="invalid grouping"
noncomputable abbrev giW(d:D)(i:Int):aD:=[("grouping",d),("interval",.int i)]
section
variable {C:Cx} {k:Nat} {a I:Addr} {z:GiZ} {d:D} {A:Around} {P:End→Shared→Prop} {fz:Fz} {G:Array GenState} {F X led:aF} {s:Shared} {p:Pos} {vs:aD}
noncomputable def WBd(C:Cx)(led:aF)(fe:Fe)(vs:aD)(k:Nat)(t:Expr)(b:Bool):Prop:=WB C led fe vs k (isTrue t fe.env (eval t fe.env)) (λb' led'=>b'=b∧led'=led)
noncomputable def WEd(C:Cx)(led:aF)(fe:Fe)(vs:aD)(k:Nat)(t:Expr)(d:D):Prop:=WE C led fe vs k (eval t fe.env) (λd' led'=>d'=d∧led'=led)
section
variable {fe:Fe} {c:Code} {fs:List Frame} {K:Flow→Sem PySem.Fin} {H:Value→Sem PySem.Fin} {gd:Bool→Bool} {lv:List Value→List Value}
theorem tI(hA:RoomF k (A.over c fs) fe X)(hF:FOk fe vs F X)(hd:Dj F X)(S:St C fz led (Un F X) G s)(h:WBd C led fe vs k test b)
  (cont:∀s1 fz1 G1,FzLe fz fz1→GExt G G1→St C fz1 led (Un F X) G1 s1→cM (model C.prog C.w) A P c ((execs (if b then body else []) fe.env).wrap K H gd lv) fs s1) :
  cM (model C.prog C.w) A P c ((exec (.If test body [] pos) fe.env).wrap K H gd lv) fs s :=
 aDW hA hF hd S h λb' s1 fz1 G1 led1 l g S1 q=>by
  (refine cL q λo1 o2=>?_;clear q;subst o1;subst o2)
  exact⟨λe=>by subst e;exact cont _ _ _ l g S1,λe=>by subst e;exact cont _ _ _ l g S1⟩
theorem wF(hfs:splitAtGen fs=none)(hA:RoomF k (A.over c fs) fe X)(hF:FOk fe vs F X)(hd:Dj F X)(S:St C fz led (Un F X) G s)(h:WEd C led fe vs k e d)
  (cont:∀v s1 fz1 G1,FzLe fz fz1→GExt G G1→Den fz1 v d→St C fz1 led (Un F X) G1 s1 →
   ∀(k:Resume→Sem PySem.Fin) l p,(∀A' P' s'',cM (model C.prog C.w) A' P' c (K .next) fs s''→cM (model C.prog C.w) A' P' c (k (.send .none)) fs s'')→P (.susp v (gd false) l k c p fs) s1)
  (hco:autoParam (fe.env.scope.isCoroutine=false) cD) (hi:autoParam (interactive fe.env=false) cD) :
  cM (model C.prog C.w) A P c ((exec (.Expr (.Yield (some e) ypos) pos) fe.env).wrap K H gd lv) fs s :=
 aCH hfs hA hF hd S h (λv s1 fz1 G1 d1 led1 l g e1 S1 q=>by (refine cL q λo1 o2=>?_;clear q;subst o1;subst o2);exact cont v s1 fz1 G1 l g e1 S1) hco hi
end
noncomputable def tJ(C:Cx)(fe:Fe)(I:Addr)(gs:GenState):Prop :=
 ∃p,∀A' P' s'',cM (model C.prog C.w) A' P' (.forLoop jZ (.ref I) qW [] fe.env) ((execs [aBX] fe.env).wrap (aAJ jZ (.ref I) qW [] fe.env) (eG fe.env) id id) [kI fe wE p] s''→Gos (model C.prog C.w) A' P' gs (.send .none) s''
noncomputable def rS(C:Cx)(fe:Fe)(I:Addr)(gs:GenState):Prop :=
 ∃p p2,∀A' P' s'',cM (model C.prog C.w) A' P' (.whileLoop mF aCW [] fe.env) ((execs [] fe.env).wrap (xL mF aCW [] fe.env) (eG fe.env) id id) [aCI fe jZ (.ref I) qW [] wD p2,kI fe wE p] s''→Gos (model C.prog C.w) A' P' gs (.send .none) s''
noncomputable abbrev giC(a:Addr)(z:GiZ)(I:Addr):Code:=.forLoop jZ (.ref I) qW [] (bA a z).env
noncomputable abbrev aEh(a:Addr)(z:GiZ):Code:=.whileLoop mF aCW [] (bA a z).env
theorem aCX:WBd C led (bA a z) (yF d (some lst)) k mF true:=by
 refine WB.val (e:=mF) ?_
 with_unfolding_all refine rA ?_
 walk_at "v";exact⟨rfl,rfl⟩
theorem aEi:WEd C led (bA a z) (yF d (some lst)) k aDt (.int lst):=by
 with_unfolding_all refine rF ?_
 exact⟨rfl,rfl⟩
theorem aFa:WEd C led (bA a z) (pQ d last i) k aE6 (.int i):=by
 with_unfolding_all refine rF ?_
 exact⟨rfl,rfl⟩
theorem aFb:WEd C led (bA a z) (yF d none) k aE2 d:=by
 with_unfolding_all refine rF ?_
 exact⟨rfl,rfl⟩
theorem aFc(E:GiEnv C a):WBd C led (bA a z) (pQ d last i) k aE3 (i == 127):=by
 obtain ⟨N,⟨tcm,hcm⟩,hve,_⟩:=E
 with_unfolding_all refine WB.cmp1 ?_
 walk_at "v";exact⟨rfl,rfl⟩
theorem aFd:WBd C led (bA a z) (pQ d last i) k aE4 (i == 0):=by
 with_unfolding_all refine WB.cmp1 ?_
 walk_at "v";exact⟨rfl,rfl⟩
theorem aFe:WBd C led (bA a z) (pQ d last i) k aE5 last.isNone:=by
 with_unfolding_all refine WB.cmp1 ?_
 walk_at "v";refine OpY.is_none ?_;erw[yG];exact⟨_,rfl,rfl,rfl⟩
theorem aEj:WU C led (bA a z) (yF d last) k (PySem.assign jZ (bA a z).env) (.int i) (λvs' led'=>Sub (pQ d last i) vs'∧led'=led):=by
 with_unfolding_all refine WU.name ?_
 walk_at "v";exact⟨rfl,rfl⟩
theorem aFf:WS C led (bA a z) vs k (exec aE1 (bA a z).env) (λfl vs' led'=>fl=.ret .none∧led'=led):=by
 with_unfolding_all refine mL ?_
 exact⟨rfl,rfl⟩
theorem aEk:WS C led (bA a z) (giW d i) k (exec aBX (bA a z).env) (λfl vs' led'=>fl=.next∧Sub (yF d (some i)) vs'∧led'=led):=by
 with_unfolding_all refine WS.assign ?_
 walk_at "v";exact⟨rfl,rfl,rfl⟩
theorem aFg:WS C led (bA a z) [("grouping",d)] k (exec aE0 (bA a z).env) (λfl vs' led'=>fl=.next∧Sub (yF d none) vs'∧led'=led):=by
 with_unfolding_all refine WS.assign ?_
 walk_at "v";exact⟨rfl,rfl,rfl⟩
theorem aFh(E:GiEnv C a)(hA:RoomF k A (bA a z) X)(hF:FOk (bA a z) (pQ d last 0) F X)(hd:Dj F X)(S:St C fz led (Un F X) G s) :
  wpAny (model C.prog C.w) A (exec aEd (bA a z).env) (λ_ _=>False) (λx s'=>∃fz' G' e tk h₁ s₂,x=.ref e∧s'={ s₂ with heap:=h₁ }∧FzLe fz fz'∧GExt G G'∧St C fz' led (Un F X) G' s₂∧Heap.MadeExc s₂.heap h₁ e "ValueError" [.str eO tk]) s:=by
 obtain ⟨N,_,hve,_⟩:=E
 with_unfolding_all refine wpAny_Raise_call PySem.F.excCall_ValueError PySem.F.excRaise_ValueError hA.r.1 (by with_unfolding_all rfl) ?_
 refine aW (P:=λd' led'=>d'=.typ "ValueError"∧led'=led) ((?_:WE C led _ (pQ d last 0) k _ _) F X hF hd _ fz G s hA S) λv6 s6 fz6 G6 d6 led6 l6 g6 e6 S6 q6=>?_
 ·exact mK (v:=.type "ValueError") hve (by decide +kernel) (λ_=>.typ _) ⟨rfl,rfl⟩ (by with_unfolding_all rfl)
 (refine cL q6 λo1 o2=>?_;clear q6;subst o1;subst o2)
 cases e6;refine⟨rfl,?_⟩;refine fL (by with_unfolding_all rfl) (kD (P:=λds led'=>ds=[.str eO]∧led'=led6) ((?_:WL C led6 _ (pQ d last 0) k _ _) F X hF hd _ fz6 G6 s6 hA S6) λvs7 s7 fz7 G7 ds7 led7 l7 g7 e7 S7 q7=>?_)
 ·walk_at "v";exact⟨rfl,rfl⟩
 ·(refine cL q7 λo1 o2=>?_;clear q7;subst o1;subst o2)
  cases e7 with|cons x7 y7=>cases y7 with|nil =>
  cases x7;rename_i tk;exact⟨rfl,by show 1≤sizeLine;decide,λh' e hm=>⟨fz7,G7,e,tk,h',s7,rfl,rfl,l6.trans l7,g6.trans g7,S7,hm⟩⟩
theorem wG
  (hA:RoomY (k+1) A X) (hF:FOk (bA a z) (yF d (some lst)) F X) (hd:Dj F X) (S:St C fz led (Un F X) G s)
  (h3:∀v fz' G' s' kk ll c pp fs,FzLe fz fz'→GExt G G'→Den fz' v (.int lst)→St C fz' led (Un F X) G' s' →
   rS C (bA a z) I (.suspended kk ll c pp fs false)→fs.any Frame.guarded=false→P (.susp v false ll kk c pp fs) s') :
  cM (model C.prog C.w) A P (aEh a z) ((model C.prog C.w).den (aEh a z)) [aCI (bA a z) jZ (.ref I) qW [] wD pw,kI (bA a z) wE p] s:=by
 have hAW:=xO (k:=k) (fe:=bA a z) (body:=wE) (p:=p) (p2:=pw) (c:=aEh a z) (tgt:=jZ) (it:=.ref I) (fb:=qW) (r1:=[]) (r2:=wD) hA tH rfl rfl rfl;refine qP (hU (aCX F X hF hd _ fz G s hAW S) λb s1 fz1 G1 led1 l1 g1 S1 q1=>?_)
 (refine cL q1 λo1 o2=>?_;clear q1;subst o1;subst o2)
 refine⟨λ_=>?_,λhb=>by exact dO hb⟩
 exact bJ (wF rfl hAW hF hd S1 aEi λv5 s5 fz5 G5 l5 g5 e5 S5 kk ll pp hres =>
  h3 v5 _ _ _ kk ll _ pp _ (l1.trans l5) (g1.trans g5) e5 S5 ⟨p,pw,λA' P' s'' hx=>hres A' P' s'' hx⟩ rfl)
theorem aA1(E:GiEnv C a)(hA:RoomF k (A.over (giC a z I) [kI (bA a z) wE p]) (bA a z) X)(hfr:A.frames=some l)
  (hF:FOk (bA a z) (pQ d last 0) F X) (hd:Dj F X) (S:St C fz led (Un F X) G s)
  (hfr2:(A.over (giC a z I) [kI (bA a z) wE p]).frames=A.frames.map ((bA a z).env::·))
  (h1:∀fz' G' s' e l,FzLe fz fz'→GExt G G'→St C fz' led X G' s'→A.frames=some l→Flying C fz' (Un led X) l e eO s'.heap→P (.ret (.error (.ref e))) s') :
  cM (model C.prog C.w) A P (giC a z I) ((execs [aEd] (bA a z).env).wrap (aBE rest (bA a z).env (aBE wD (bA a z).env (aAJ jZ (.ref I) qW [] (bA a z).env) (eG (bA a z).env)) (eG (bA a z).env)) (eG (bA a z).env) id id) [kI (bA a z) wE p] s:=by
 rw[hfr]at hfr2;refine bJ (rN ?_);refine wpAny_mono (aFh E hA hF hd S) (λ_ _ x=>x.elim) λx s' hx=>?_
 obtain ⟨fz7,G7,e,tk,h₁,s7,rfl,rfl,l7,g7,S7,hm⟩:=hx;refine cY (wpAny_bind (xM S7 hfr2 (hA.y hF hd).fr rfl hm λh8 S8 hh8=>wpAny_theTreesLotGoes ?_));refine pA (.error (.ref e)) ?_;show cM _ _ _ _ (Sem.wrap _ _ _ _ ((Sem.raise (Value.ref e)).onRaise _)) _ _
 erw[Sem.onRaise_eq_wrap,Sem.wrap_wrap];show cM _ _ _ _ (Sem.wrap _ _ _ _ (Sem.bind _ λ_=>Sem.raise (Value.ref e))) _ _
 erw[Sem.bind_eq_wrap,Sem.wrap_wrap];refine cY (Held.own S8 rfl hh8 λh9 S9 hh9=>?_);show cM _ _ _ _ (Sem.wrap _ _ _ _ (leaving _ (.ref e))) _ _
 refine cY (vC S9 rfl hh9 λh10 S10 hf10=>?_);refine sS (.error (.ref e)) (h1 _ _ _ e l l7 g7 (S10.drop hd) hfr (hf10.less (s:={ s7 with heap:=h10 }) λb m hb=>?_));cases hlb:led b with
 | some m'=>rw[aC hlb]at hb ⊢;exact hb
 | none =>
  rw[aE hlb]at hb ⊢;erw[aE ((hd b).resolve_right (by erw[hb];exact Option.some_ne_none _))];exact hb
structure GiLoop (C:Cx) (a:Addr) (z:GiZ) (d:D) (I:Addr) (last:Option Int) (PN:Option D→aF→Prop) (A:Around) (P:End→Shared→Prop) (fz:Fz) (G:Array GenState) (X:aF):Prop where
 h0:∀fz' G' F' led' s',FzLe fz fz'→GExt G G'→Dj F' X→St C fz' led' (Un F' X) G' s'→(PN none led'∨PN (some (.int 127)) led')→P (.ret (.ok (.ret .none))) s'
 h1:last=none→∀fz' G' led' s' e l,FzLe fz fz'→GExt G G'→St C fz' led' X G' s'→A.frames=some l→PN (some (.int 0)) led'→Flying C fz' (Un led' X) l e eO s'.heap→P (.ret (.error (.ref e))) s'
 h2:∀v i fz' G' F' led' s' kk ll c pp fs,i≠127→i≠0→FzLe fz fz'→GExt G G'→Den fz' v (.int i)→FOk (bA a z) (pQ d last i) F' X→Dj F' X→St C fz' led' (Un F' X) G' s'→PN (some (.int i)) led' →
   tJ C (bA a z) I (.suspended kk ll c pp fs false)→fs.any Frame.guarded=false→P (.susp v false ll kk c pp fs) s'
 h3:∀v lst fz' G' F' led' s' kk ll c pp fs,last=some lst→FzLe fz fz'→GExt G G'→Den fz' v (.int lst)→FOk (bA a z) (yF d last) F' X→Dj F' X→St C fz' led' (Un F' X) G' s'→PN (some (.int 0)) led' →
   rS C (bA a z) I (.suspended kk ll c pp fs false)→fs.any Frame.guarded=false→P (.susp v false ll kk c pp fs) s'
theorem aCY(E:GiEnv C a)(hA:RoomY (k+1) A X)(hAF:RoomF k (A.over (giC a z I) [kI (bA a z) wE p]) (bA a z) X)
  (hfr2:(A.over (giC a z I) [kI (bA a z) wE p]).frames=A.frames.map ((bA a z).env::·))
  (hF:FOk (bA a z) (pQ d last i) F X) (hd:Dj F X) (S:St C fz led (Un F X) G s) (hp:PN (some (.int i)) led)  (H:GiLoop C a z d I last PN A P fz G X) :
  cM (model C.prog C.w) A P (giC a z I) ((execs qW (bA a z).env).wrap (aAJ jZ (.ref I) qW [] (bA a z).env) (eG (bA a z).env) id id) [kI (bA a z) wE p] s:=by
 refine bJ (tI hAF hF hd S (aFc E) λs3 fz3 G3 l3 g3 S3=>?_);by_cases hi:i=127
 ·subst hi;refine bJ (xN hAF hF hd S3 aFf λf s4 fz4 G4 F4 vs4 led4 fl l4 g4 e4 hF4 hd4 S4 q4=>?_)
  (refine cL q4 λo1 o2=>?_;clear q4;subst o1;subst o2)
  cases f with
  | ret v4 =>
   cases (show Den fz4 v4 .none from e4);refine pA (.ok (.ret .none)) ?_;exact sS (.ok (.ret .none)) (H.h0 _ _ _ _ _ (l3.trans l4) (g3.trans g4) hd4 S4 (.inr hp))
  | _=>exact e4.elim
 erw[show (i == 127)=false from beq_eq_false_iff_ne.mpr hi];refine dW (bJ (tI hAF hF hd S3 aFd λs4 fz4 G4 l4 g4 S4=>?_));have l14:=l3.trans l4;have g14:=g3.trans g4;by_cases hi0:i=0
 ·subst hi0;refine bJ (tI hAF hF hd S4 aFe λs5 fz5 G5 l5 g5 S5=>?_);have l15:=l14.trans l5;have g15:=g14.trans g5;cases last with
  | none=>exact aA1 E hAF (hA.fr.choose_spec.1) hF hd S5 hfr2 λfz' G' s' e l la ga Sa hl hf=>H.h1 rfl _ _ _ _ e l (l15.trans la) (g15.trans ga) Sa hl hp hf
  | some lst =>
   refine dW (bJ (aAH λpw=>?_));have hFw:FOk (bA a z) (yF d (some lst)) F X:=hF.sub rfl;exact wG hA hFw hd S5 λv fz' G' s' kk ll c pp fs la ga ea Sa hs hg=>H.h3 v lst _ _ _ _ _ kk ll c pp fs rfl (l15.trans la) (g15.trans ga) ea hFw hd Sa hp hs hg
 erw[show (i == 0)=false from beq_eq_false_iff_ne.mpr hi0];refine dW (bJ (wF rfl hAF hF hd S4 aFa λv5 s5 fz5 G5 l5 g5 e5 S5 kk ll pp hres=>?_));exact H.h2 v5 i _ _ _ _ _ kk ll _ pp _ hi hi0 (l14.trans l5) (g14.trans g5) e5 hF hd S5 hp ⟨p,λA' P' s'' hx=>hres A' P' s'' hx⟩ rfl
theorem GiLoop.step{last:Option Int}{PN:Option D→aF→Prop}{fz':Fz}{G':Array GenState}(l:FzLe fz fz')(g:GExt G G')(H:GiLoop C a z d I last PN A P fz G X):GiLoop C a z d I last PN A P fz' G' X where
 h0:=λfz1 G1 F1 led1 s1 l1 g1=>H.h0 fz1 G1 F1 led1 s1 (l.trans l1) (g.trans g1)
 h1:=λe fz1 G1 led1 s1 x y l1 g1=>H.h1 e fz1 G1 led1 s1 x y (l.trans l1) (g.trans g1)
 h2:=λv i fz1 G1 F1 led1 s1 kk ll c pp fs x y l1 g1=>H.h2 v i fz1 G1 F1 led1 s1 kk ll c pp fs x y (l.trans l1) (g.trans g1)
 h3:=λv i fz1 G1 F1 led1 s1 kk ll c pp fs x l1 g1=>H.h3 v i fz1 G1 F1 led1 s1 kk ll c pp fs x (l.trans l1) (g.trans g1)
theorem aAe(E:GiEnv C a)(hA:RoomY (k+1) A X)(hF:FOk (bA a z) (yF d last) F X)(hd:Dj F X)(S:St C fz led (Un F X) G s)
  (hn:NextW C (Un F X) led k I PN) (hint:∀d led',PN (some d) led'→∃i,d=.int i) (H:GiLoop C a z d I last PN A P fz G X) :
  cM (model C.prog C.w) A P (giC a z I) ((model C.prog C.w).den (giC a z I)) [kI (bA a z) wE p] s:=by
 refine cL (vD (k:=k) (fe:=bA a z) (body:=wE) (p:=p) (c:=giC a z I) hA tH rfl rfl rfl) λhAF hAfr=>?_
 refine vA ?_ (λv=>rfl);refine uX (hn _ fz G s (hAF.y hF hd) S) (λv s1 fz1 G1 d1 led1 l1 g1 e1 S1 hp1=>?_) λs1 fz1 G1 led1 l1 g1 S1 hp1=>?_
 ·(refine aN (hint _ _ hp1) λi o1=>?_;subst o1)
  refine eK (aEj F X hF hd _ fz1 G1 s1 v hAF S1 e1) λs2 fz2 G2 F2 vs2 led2 l2 g2 hF2 hd2 S2 q2=>?_
  (refine cL q2 λhsub o1=>?_;clear q2;subst o1)
  exact aCY E hA hAF hAfr (hF2.sub hsub) hd2 S2 hp1 (H.step (l1.trans l2) (g1.trans g2))
 ·refine lU rfl (qQ (pA (.ok .next) ?_));exact sS (.ok (.ret .none)) (H.h0 _ _ _ _ _ l1 g1 hd S1 (.inl hp1))
end
set_option tactic.hygienic false
structure GOwn (g:Nat) (G G':Array GenState):Prop where
 keep:∀i x,i≠g→G[i]?=some x→G'[i]?=some x
 bare:AllBare G→AllBare G'
theorem GOwn.of(hx:x.bare=true)(hy:y.bare=true)(h:GExt (G.setIfInBounds g x) G1):GOwn g G (G1.setIfInBounds g y) :=
 ⟨λi z hi e=>by
  erw[Array.getElem?_setIfInBounds_ne (Ne.symm hi)]
  exact h.keep i z (by erw[Array.getElem?_setIfInBounds_ne (Ne.symm hi)];exact e),λhb=>AllBare.set (h.bare (AllBare.set hb hx)) hy⟩
theorem GExt.own(h:GExt G0 G)(hg:G0.size≤g)(o:GOwn g G G'):GExt G0 G' :=
 ⟨λi x e=>o.keep i x (by have:=(Array.getElem?_eq_some_iff.mp e).1;exact Nat.ne_of_lt (eF [.le .p0 .p1,.lt .p2 .p0] (.lt .p2 .p1) aB hg this)) (h.keep i x e),λhb=>o.bare (h.bare hb)⟩
section
variable {C:Cx} {k:Nat} {a ga I:Addr} {g:Nat} {gs:GenState} {z:GiZ} {d:D}
  {A:Around} {fz:Fz} {G:Array GenState} {F X led:aF} {s:Shared} {Q:Option Value→Shared→Prop} {E:Value→Shared→Prop}
theorem tK(S:St C fz led (Un F X) G s)(hg:G[g]?=some gs):St C fz led (Un F X) (G.setIfInBounds g .running) (s.setGen g .running):=by
 have:=S.withGens (G.setIfInBounds g .running);erw[rO,S.rel.gens];exact this
theorem lI(S1:St C fz1 led1 Y G1 s1):St C fz1 led1 Y (G1.setIfInBounds g x) (s1.setGen g x):=by
 have:=S1.withGens (G1.setIfInBounds g x);erw[rO,S1.rel.gens];exact this
theorem yH(hg:G[g]?=some gs)(h:GExt (G.setIfInBounds g .running) G1):(G1.setIfInBounds g x)[g]?=some x :=
 vB (h.keep g _ (vB hg))
structure GiQ (C:Cx) (a:Addr) (z:GiZ) (d:D) (I:Addr) (last:Option Int) (PN:Option D→aF→Prop) (fz:Fz) (G:Array GenState) (g:Nat) (X:aF) (Q:Option Value→Shared→Prop):Prop where
 h0:∀fz' G' led' s',FzLe fz fz'→GOwn g G G'→St C fz' led' X G' s'→(PN none led'∨PN (some (.int 127)) led')→Q none s'
 h2:∀v j fz' G' F' led' s' gs',j≠127→j≠0→FzLe fz fz'→GOwn g G G'→Den fz' v (.int j)→FOk (bA a z) (giW d j) F' X→Dj F' X→St C fz' led' (Un F' X) G' s'→G'[g]?=some gs'→PN (some (.int j)) led' →
   tJ C (bA a z) I gs'→Q (some v) s'
 h3:∀v i fz' G' F' led' s' gs',last=some i→FzLe fz fz'→GOwn g G G'→Den fz' v (.int i)→FOk (bA a z) (yF d (some i)) F' X→Dj F' X→St C fz' led' (Un F' X) G' s'→G'[g]?=some gs'→PN (some (.int 0)) led' →
   rS C (bA a z) I gs'→Q (some v) s'
theorem GiQ.loop{last:Option Int}{PN:Option D→aF→Prop}{fz1:Fz}{G1:Array GenState}(H:GiQ C a z d I last PN fz G g X Q)(hg:G[g]?=some gs)(l1:FzLe fz fz1)(g1:GExt (G.setIfInBounds g .running) G1)
  (h1:last=none→∀fz' G' led' s' e l,FzLe fz1 fz'→GExt G1 G'→St C fz' led' X G' s'→A.frames=some l→PN (some (.int 0)) led'→Flying C fz' (Un led' X) l e eO s'.heap→GenOut ga g Q E (.ret (.error (.ref e))) s') :
  GiLoop C a z d I last PN A (GenOut ga g Q E) fz1 G1 X where
 h0:=λfz' G' F' led' s' la ga' hda Sa hq =>
  .done λh' hk=>H.h0 _ _ _ _ (l1.trans la) (GOwn.of rfl rfl (g1.trans ga')) (((lI (g:=g) (x:=.finished) Sa).ext s'.toks hk).drop hda) hq
 h1:=h1
 h2:=λv j fz' G' F' led' s' kk ll c pp fs hj1 hj0 la ga' ea hFa hda Sa hpa hs hgd =>
  .yld (by rw[hgd];rfl) (H.h2 v j _ _ _ _ _ _ hj1 hj0 (l1.trans la) (GOwn.of rfl rfl (g1.trans ga')) ea (hFa.sub rfl) hda (lI Sa) (yH hg (g1.trans ga')) hpa hs)
 h3:=λv lst fz' G' F' led' s' kk ll c pp fs hl la ga' ea hFa hda Sa hpa hs hgd =>
  .yld (by rw[hgd];rfl) (H.h3 v lst _ _ _ _ _ _ hl (l1.trans la) (GOwn.of rfl rfl (g1.trans ga')) ea (hl▸hFa) hda (lI Sa) (yH hg (g1.trans ga')) hpa hs)
theorem aCZ(B0:GiEnv C a)
  (hA:RoomY (k+2) A X) (ho:GenObj fz ga g) (hg:G[g]?=some gs) (hsus:tJ C (bA a z) I gs) (hF:FOk (bA a z) (giW d i) F X) (hd:Dj F X) (S:St C fz led (Un F X) G s)
  (hn:∀F',Dj F' X→NextW C (Un F' X) led k I PN) (hint:∀d led',PN (some d) led'→∃i,d=.int i)
  (H:GiQ C a z d I (some i) PN fz G g X Q) :
  wpAny (model C.prog C.w) A (pyNext (.ref ga)) Q E s:=by
 refine iZ (g:=g) (gs:=gs) hA.r.1 S.nolimit (by have:=hA.r.2.1;show A.depth<1000;exact Nat.lt_of_add_right_lt this) (ho.at_ S) (by erw[S.rel.gens];exact hg) ?_
 (refine aN hsus λp hp=>?_;clear hsus)
 refine hp _ _ _ ?_;refine cL (vD (k:=k) (fe:=bA a z) (body:=wE) (p:=p) (c:=giC a z I) (hA.in1:RoomY (k+1) A.in1 X) tH rfl rfl rfl) λhAF hAfr=>?_
 refine bJ (xN hAF hF hd (tK S hg) aEk λf s1 fz1 G1 F1 vs1 led1 fl l1 g1 e1 hF1 hd1 S1 q1=>?_)
 (refine jW q1 λo1 hsub o2=>?_;clear q1;subst o1;subst o2)
 cases f with
 | next=>exact dW (lU rfl (aAe B0 hA.in1 (hF1.sub hsub) hd1 S1 (hn F1 hd1) hint (H.loop hg l1 g1 λhl=>by exact dN hl)))
 | _=>exact e1.elim
theorem aEl
  (hA:RoomY (k+2) A X) (ho:GenObj fz ga g) (hg:G[g]?=some gs) (hsus:rS C (bA a z) I gs) (hF:FOk (bA a z) (yF d (some i)) F X) (hd:Dj F X) (S:St C fz led (Un F X) G s)
  (h3:∀v fz' G' F' s' gs',FzLe fz fz'→GOwn g G G'→Den fz' v (.int i)→FOk (bA a z) (yF d (some i)) F' X→Dj F' X→St C fz' led (Un F' X) G' s'→G'[g]?=some gs' →
   rS C (bA a z) I gs'→Q (some v) s') :
  wpAny (model C.prog C.w) A (pyNext (.ref ga)) Q E s:=by
 refine iZ (g:=g) (gs:=gs) hA.r.1 S.nolimit (by have:=hA.r.2.1;show A.depth<1000;exact Nat.lt_of_add_right_lt this) (ho.at_ S) (by erw[S.rel.gens];exact hg) ?_
 (refine aDF hsus λp p2 hp=>?_;clear hsus)
 refine hp _ _ _ (dW (lU rfl (wG (hA.in1:RoomY (k+1) A.in1 X) hF hd (tK S hg) λv fz' G' s' kk ll c pp fs la ga' ea Sa hs hgd =>
  .yld (by erw[hgd];rfl) (h3 v _ _ _ _ _ la (GOwn.of rfl rfl ga') ea hF hd (lI Sa) (yH hg ga') hs))))
theorem aBY{KI:Addr→aF→Prop}{PN:Addr→Option D→aF→Prop}(B0:GiEnv C a)
  (hA:RoomY (k+3) A X) (ho:GenObj fz ga g) (hg:G[g]?=some (.fresh (.func wE (bA a z).env))) (hF:FOk (bA a z) [("grouping",d)] F X) (hd:Dj F X) (S:St C fz led (Un F X) G s)
  (hit:∀Y,IterN C Y led d KI) (hn:∀I led',KI I led'→∀F',Dj F' X→NextW C (Un F' X) led' k I (PN I)) (hint:∀I d led',PN I (some d) led'→∃i,d=.int i)
  (h1:∀I fz' G' led' s' e l,FzLe fz fz'→GOwn g G G'→St C fz' led' X G' s'→A.frames=some l→PN I (some (.int 0)) led'→Flying C fz' (Un led' X) l e eO s'.heap→E (.ref e) s')
  (H:∀I,GiQ C a z d I none (PN I) fz G g X Q) :
  wpAny (model C.prog C.w) A (pyNext (.ref ga)) Q E s:=by
 refine iZ (g:=g) hA.r.1 S.nolimit (by have:=hA.r.2.1;show A.depth<1000;exact Nat.lt_of_add_right_lt this) (ho.at_ S) (by erw[S.rel.gens];exact hg) ?_;refine⟨rfl,?_⟩;have hAf:=aAL (k:=k+1) (fe:=bA a z) (body:=wE) (hA.in1:RoomY (k+2) A.in1 X) tH rfl;refine aBz (bJ (xN hAf hF hd (tK S hg) aFg λf s1 fz1 G1 F1 vs1 led1 fl l1 g1 e1 hF1 hd1 S1 q1=>?_))
 (refine jW q1 λo1 hsub o2=>?_;clear q1;subst o1;subst o2)
 cases f with
 | next =>
  have hF1':=hF1.sub hsub;refine bJ (aCE (aW (aFb F1 X hF1' hd1 _ fz1 G1 s1 hAf S1) λv2 s2 fz2 G2 d2 led2 l2 g2 e2 S2 q2=>?_) (by intro _;with_unfolding_all rfl))
  (refine cL q2 λo1 o2=>?_;clear q2;subst o1;subst o2)
  refine wpAny_mono (hit _ _ fz2 G2 s2 v2 (hAf.r.mono (Nat.zero_le _)) S2 e2) (λitv s3 p3=>?_) λ_ _ x=>x.elim
  (refine wY p3 λI fz3 led3 o1 l3 S3 hK=>?_;clear p3;subst o1)
  intro pf;have L3:=(l1.trans l2).trans l3;have GG:=g1.trans g2;refine aAe B0 (hA.in1.mono (Nat.le_succ (k+1)):RoomY (k+1) A.in1 X) hF1' hd1 S3 (hn I led3 hK F1 hd1) (hint I) ((H I).loop hg L3 GG λ_ fz' G' led' s' e l la ga' Sa hl hpa hfl=>?_);refine dT (id hfl) λbase t tk hc hw ht=>?_
  refine aL hw.there λob ho1 ho2=>?_
  exact .error ⟨ob,ho1,ho2⟩ ((ho.mono (L3.trans la)).at_ Sa) (h1 I _ _ _ _ e l (L3.trans la) (GOwn.of rfl rfl (GG.trans ga')) (lI Sa) hl hpa hfl)
 | _=>exact e1.elim
end
set_option tactic.hygienic false
theorem FOk.outer{fe:Fe}{vs:aD}{F X X':aF}(h:FOk fe vs F X)(hk:(vs.all λp=>fe.env.kindOf p.1 == some .local)=true):FOk fe vs F X' where
 fn:=h.fn
 glob:=h.glob
 blt:=h.blt
 loc:=h.loc
 cel:=λx d e q=>by
  have:=List.all_eq_true.mp hk _ (mem_of_lookup e);rw[beq_iff_eq]at this;exact absurd this q
 own:=h.own
 inj:=h.inj
noncomputable def gK(C:Cx)(fe:Fe)(k:Nat)(target:Expr)(body:List Stmt)(Q:Fl→aD→aF→Prop)(j:Int)(vs:aD)(led:aF)(J:aD→aF→Prop):Prop :=
 WU C led fe vs k (PySem.assign target fe.env) (.int j) λvs3 led3=>WS C led3 fe vs3 k (execs body fe.env) λfl vs4 led4=>match fl with
  | .next|.cont=>∃vs5,Sub vs5 vs4∧jN fe vs5=true∧J vs5 led4
  | .brk=>∃vs5,Sub vs5 vs4∧jN fe vs5=true∧Q .next vs5 led4
  | .ret d=>∃vs5,Sub vs5 vs4∧jN fe vs5=true∧Q (.ret d) vs5 led4
set_option genCtorIdx true in
inductive Gi where
 | run (i:Int)| rep (i:Int)
noncomputable abbrev aAf(C:Cx)(fz:Fz)(X:aF)(fe:Fe)(G:Array GenState)(Q:Fl→aD→aF→Prop)(RI:Shared→Prop)(f:Flow)(s₃:Shared):Prop:=match f with
 | .next|.cont=>RI s₃
 | .brk=>Psf C fz X fe G Q .next s₃
 | .ret v=>Psf C fz X fe G Q (.ret v) s₃
theorem nU
  (hA:RoomF k A fe X) (L3:FzLe fz fz3) (g3:GExt G G3) (e3:Den fz3 v (.int j)) (hF2:FOk fe vs2 F2 X) (hd2:Dj F2 X) (hdg3:Dj Fg3 (Un F2 X)) (S3:St C fz3 led2 (Un Fg3 (Un F2 X)) G3 s3) (hbody:gK C fe k target body Q j vs2 led2 JJ)
  (hRI:∀fz5 G5 F5 vs5 led5 s5,FzLe fz3 fz5→GExt G3 G5→FOk fe vs5 F5 X→Dj F5 X→Dj Fg3 (Un F5 X)→St C fz5 led5 (Un Fg3 (Un F5 X)) G5 s5→JJ vs5 led5→RI s5) :
  wpAny (model C.prog C.w) A (PySem.assign target fe.env v) (λ_ s₂=>wpAny (model C.prog C.w) A (execs body fe.env) (aAf C fz X fe G Q RI) EX s₂) EY s3:=by
 have hAk:RoomF k A fe (Un Fg3 X):=hA.front hdg3.right;have S3':St C fz3 led2 (Un F2 (Un Fg3 X)) G3 s3:=by erw[← hV hdg3.left];exact S3
 have hd2':Dj F2 (Un Fg3 X):=Dj.Un hdg3.left.symm hd2;refine eK (hbody F2 (Un Fg3 X) (hF2.front hdg3.right) hd2' A fz3 G3 s3 v hAk S3' e3) λs4 fz4 G4 F4 vs4 led4 l4 g4 hF4 hd4 S4 h4=>?_
 refine gI (h4 F4 (Un Fg3 X) hF4 hd4 A fz4 G4 s4 hAk S4) λf s5 fz5 G5 F5 vs5 led5 fl l5 g5 e5 hF5 hd5 S5 h5=>?_
 have L35:FzLe fz fz5:=L3.trans (l4.trans l5);have G35:GExt G G5:=g3.trans (g4.trans g5);have hdg5:Dj Fg3 (Un F5 X):=Dj.Un hd5.left.symm hdg3.right;have S5':St C fz5 led5 (Un Fg3 (Un F5 X)) G5 s5:=by erw[hV hdg5.left];exact S5
 have go:(∃vs6,Sub vs6 vs5∧jN fe vs6=true∧JJ vs6 led5)→RI s5:=λ⟨vs6,hs6,hk6,q6⟩=>hRI _ _ _ _ _ _ (l4.trans l5) (g4.trans g5) ((hF5.sub hs6).back hk6) hd5.right hdg5 S5' q6
 have en:∀fl' f',FlDen fz5 f' fl'→(∃vs6,Sub vs6 vs5∧jN fe vs6=true∧Q fl' vs6 led5)→Psf C fz X fe G Q f' s5:=λfl' f' e ⟨vs6,hs6,hk6,q6⟩=>⟨fz5,G5,F5,vs6,led5,fl',L35,G35,e,(hF5.sub hs6).back hk6,hd5.right,S5'.drop hdg5,q6⟩
 clear hRI hbody S3 S3' h4 S4;cases fl with
 | next=>cases f with
  | next=>exact go h5
  | _=>exact e5.elim
 | cont=>cases f with
  | cont=>exact go h5
  | _=>exact e5.elim
 | brk=>cases f with
  | brk=>exact en .next .next trivial h5
  | _=>exact e5.elim
 | ret dd=>cases f with
  | ret vv=>exact en (.ret dd) (.ret vv) e5 h5
  | _=>exact e5.elim
noncomputable abbrev aDu(C:Cx)(fe:Fe)(vs:aD)(k N:Nat)(target:Expr)(body:List Stmt)(Q:Fl→aD→aF→Prop)(EX:Value→Shared→Prop)(fz:Fz)(G:Array GenState)(Y:aF)(l:List Env)(J:Gi→Nat→aD→aF→Addr→Prop)(d:D)(led1:aF):Prop :=
 ∃KI,(∀Y,IterN C Y led1 d KI)∧∃PN:Addr→Option D→aF→Prop,(∀I led2,KI I led2→∀F',Dj F' Y→NextW C (Un F' Y) led2 k I (PN I))∧(∀I d led',PN I (some d) led'→∃i,d=.int i) ∧
    (∀I led',PN I none led'∨PN I (some (.int 127)) led'→Q .next vs led') ∧
    (∀I led' fz' G' s' e,PN I (some (.int 0)) led'→FzLe fz fz'→GExt G G'→St C fz' led' Y G' s'→Held C fz' (Un led' Y) (fe.env::l) e fe.env.locals eO s'.heap→EX (.ref e) s') ∧
    (∀I j led',j≠0→j≠127→PN I (some (.int j)) led'→∃n,n<N∧gK C fe k target body Q j vs led' (λvs5 led5=>J (.run j) n vs5 led5 I))
noncomputable abbrev yI(C:Cx)(fe:Fe)(k:Nat)(target:Expr)(body:List Stmt)(Q:Fl→aD→aF→Prop)(J:Gi→Nat→aD→aF→Addr→Prop)(X:aF):Prop :=
 ∀i n vs2 led2 I F2,FOk fe vs2 F2 X→Dj F2 X→J (.run i) n vs2 led2 I→∃PN:Option D→aF→Prop,(∀F',Dj F' (Un F2 X)→NextW C (Un F' (Un F2 X)) led2 k I PN)∧(∀d led',PN (some d) led'→∃i,d=.int i) ∧
    (∀led',PN none led'∨PN (some (.int 127)) led'→Q .next vs2 led') ∧
    (∀led',PN (some (.int 0)) led'→∃m,m<n∧gK C fe k target body Q i vs2 led' (λvs5 led5=>J (.rep i) m vs5 led5 I)) ∧
    (∀j led',j≠0→j≠127→PN (some (.int j)) led'→∃m,m<n∧gK C fe k target body Q j vs2 led' (λvs5 led5=>J (.run j) m vs5 led5 I))
inductive GiAt (C:Cx) (a:Addr) (z:GiZ) (d:D) (J:Gi→Nat→aD→aF→Addr→Prop) (Fg Y:aF) (n:Nat) (vs:aD) (led:aF) (gs:GenState) (I:Addr):Prop
 | run (i:Int):J (.run i) n vs led I→FOk (bA a z) (giW d i) Fg Y→tJ C (bA a z) I gs→GiAt C a z d J Fg Y n vs led gs I
 | rep (i:Int):J (.rep i) n vs led I→FOk (bA a z) (yF d (some i)) Fg Y→rS C (bA a z) I gs→GiAt C a z d J Fg Y n vs led gs I
inductive GiInv (C:Cx) (a:Addr) (z:GiZ) (d:D) (J:Gi→Nat→aD→aF→Addr→Prop) (fe:Fe) (X:aF) (g N:Nat) (fz2:Fz) (G:Array GenState) (n:Nat) (s':Shared):Prop
 | mk {fz' G' F' Fg' vs' led' gs I}:n<N→FzLe fz2 fz'→GExt G G'→FOk fe vs' F' X→Dj F' X→Dj Fg' (Un F' X)→St C fz' led' (Un Fg' (Un F' X)) G' s'→G'[g]?=some gs→GiAt C a z d J Fg' (Un F' X) n vs' led' gs I→GiInv C a z d J fe X g N fz2 G n s'
section
variable {C:Cx} {fe:Fe} {k N:Nat} {a:Addr} {z:GiZ} {d:D} {target:Expr} {body:List Stmt} {Q:Fl→aD→aF→Prop} {EX EY EZ:Value→Shared→Prop} {A:Around} {fz fz2:Fz} {X:aF} {G:Array GenState} {J:Gi→Nat→aD→aF→Addr→Prop} {ga:Addr} {g n:Nat}
theorem aDv(i:Int):((giW d i).all λp=>(bA a z).env.kindOf p.1 == some .local)=true:=rfl
theorem aDw(o:Option Int):((yF d o).all λp=>(bA a z).env.kindOf p.1 == some .local)=true:=rfl
noncomputable abbrev aEm(C:Cx)(A:Around)(fz:Fz)(X:aF)(fe:Fe)(G:Array GenState)(Q:Fl→aD→aF→Prop)(target:Expr)(body:List Stmt)(EX EY:Value→Shared→Prop)(RI:Shared→Prop):Option Value→Shared→Prop:=λo s₁=>match o with
 | none=>wpAny (model C.prog C.w) A (execs [] fe.env) (λf s₂=>Psf C fz X fe G Q f s₂) EY s₁
 | some v=>wpAny (model C.prog C.w) A (PySem.assign target fe.env v) (λ_ s₂=>wpAny (model C.prog C.w) A (execs body fe.env) (aAf C fz X fe G Q RI) EX s₂) EX s₁
theorem GiInv.of(L:FzLe fz2 fz3)(g3:GExt G G3)(hg:G3[g]?=some gs)(hn:n<N)(l5:FzLe fz3 fz5)(g5:GExt G3 G5)(hF:FOk fe vs5 F5 X)(hd:Dj F5 X)(hdg:Dj Fg (Un F5 X))(S:St C fz5 led5 (Un Fg (Un F5 X)) G5 s5)
  (h:GiAt C a z d J Fg (Un F5 X) n vs5 led5 gs I):GiInv C a z d J fe X g N fz2 G n s5 :=
 .mk hn (L.trans l5) (g3.trans g5) hF hd hdg S (g5.keep _ _ hg) h
theorem aEn(E0:GiEnv C a)(hstep:yI C fe k target body Q J X)
  (hrep:∀i n vs2 led2 I,J (.rep i) n vs2 led2 I→∃m,m<n∧gK C fe k target body Q i vs2 led2 (λvs5 led5=>J (.rep i) m vs5 led5 I))
  (hA:RoomF (k+4) A fe X) (L2:FzLe fz fz2) (hsize:G.size≤g) (hobj:GenObj fz2 ga g)
  (hnN:n<N) (l3:FzLe fz2 fz3) (g3:GExt G G3) (hF3:FOk fe vs3 F3 X) (hd3:Dj F3 X) (hdg3:Dj Fg3 (Un F3 X)) (S3:St C fz3 led3 (Un Fg3 (Un F3 X)) G3 s3) (hg3:G3[g]?=some gs) (hc:GiAt C a z d J Fg3 (Un F3 X) n vs3 led3 gs I)
  (hRI:∀m s,m<n→GiInv C a z d J fe X g N fz2 G m s→RI s) :
  wpAny (model C.prog C.w) A (pyNext (.ref ga)) (aEm C A fz X fe G Q target body EX EY RI) EZ s3:=by
 have hAY3:=(hA.y hF3 hd3);have hobj3:=hobj.mono l3;have hAk:RoomF k A fe X:=hA.mono (Nat.le_add_right k 4);cases hc with
 | run i hJ hFg3 hsus =>
  refine tX (hstep i n vs3 led3 I F3 hF3 hd3 hJ) λPN3 hn3 hint3 hend3 hrep3 hgo3=>?_
  refine aCZ (k:=k) (PN:=PN3) E0 (hAY3.mono (bF [] (.le (.a .p0 .k2) (.a .p0 (.k 4))) aB)) hobj3 hg3 hsus hFg3 hdg3 S3 hn3 hint3 ⟨?_,?_,?_⟩
  ·intro fz' G' led' s' la ga' Sa hq;exact wpAny_execs_nil ⟨fz',G',F3,vs3,led',.next,(L2.trans l3).trans la,g3.own hsize ga',trivial,hF3,hd3,Sa,hend3 led' hq⟩
  ·intro v j fz' G' F' led' s' gs' hj1 hj0 la ga' ea hFa hda Sa hgs' hpa hsus';refine aL (hgo3 j led' hj0 hj1 hpa) λm hm1 hb=>?_
   have GG:=g3.own hsize ga'
   exact nU hAk ((L2.trans l3).trans la) GG ea hF3 hd3 hda Sa hb λfz5 G5 F5 vs5 led5 s5 l5 g5 hF5 hd5 hdg5 S5 hJ5 =>
    hRI m _ hm1 (.of (l3.trans la) GG hgs' (Nat.lt_trans hm1 hnN) l5 g5 hF5 hd5 hdg5 S5 (.run j hJ5 (hFa.outer (aDv j)) hsus'))
  ·intro v i' fz' G' F' led' s' gs' hi la ga' ea hFa hda Sa hgs' hpa hsus'
   (have e1:=Option.some.inj hi;clear hi;subst e1)
   refine aL (hrep3 led' hpa) λm hm1 hb=>?_
   have GG:=g3.own hsize ga'
   exact nU hAk ((L2.trans l3).trans la) GG ea hF3 hd3 hda Sa hb λfz5 G5 F5 vs5 led5 s5 l5 g5 hF5 hd5 hdg5 S5 hJ5 =>
    hRI m _ hm1 (.of (l3.trans la) GG hgs' (Nat.lt_trans hm1 hnN) l5 g5 hF5 hd5 hdg5 S5 (.rep i hJ5 (hFa.outer (aDw (some i))) hsus'))
 | rep i hJ hFg3 hsus =>
  refine aL (hrep i n vs3 led3 I hJ) λm hm1 hb=>?_
  refine aEl (k:=k) (hAY3.mono (bF [] (.le (.a .p0 .k2) (.a .p0 (.k 4))) aB)) hobj3 hg3 hsus hFg3 hdg3 S3 ?_;intro v fz' G' F' s' gs' la ga' ea hFa hda Sa hgs' hsus';have GG:=g3.own hsize ga'
  exact nU hAk ((L2.trans l3).trans la) GG ea hF3 hd3 hda Sa hb λfz5 G5 F5 vs5 led5 s5 l5 g5 hF5 hd5 hdg5 S5 hJ5 =>
   hRI m _ hm1 (.of (l3.trans la) GG hgs' (Nat.lt_trans hm1 hnN) l5 g5 hF5 hd5 hdg5 S5 (.rep i hJ5 (hFa.outer (aDw (some i))) hsus'))
end
set_option maxHeartbeats 4000000 in
theorem aBZ
  (J:Gi→Nat→aD→aF→Addr→Prop) (E0:GiEnv C a) (hm:C.mg "_grouping_intervals"=some (.ref a)) (hkf:fe.env.frame=some fe.env.locals)
  (hF:FOk fe vs F X) (hd:Dj F X) (hA:RoomF (k+4) A fe X) (hfr:A.frames=some (fe.env::l)) (S:St C fz led (Un F X) G s)
  (harg:WE C led fe vs (k+4) (eval arg fe.env) (aDu C fe vs k N target body Q EX fz G (Un F X) l J))
  (hstep:yI C fe k target body Q J X)
  (hrep:∀i n vs2 led2 I,J (.rep i) n vs2 led2 I→∃m,m<n∧gK C fe k target body Q i vs2 led2 (λvs5 led5=>J (.rep i) m vs5 led5 I))
  (hkk:fe.env.kindOf "_grouping_intervals"=some .globalImplicit) (ht:∀it v,letOwnedTupleGo target it v=pure ())
  (hs:∀x,foldedSetIterable (.Call (.Name "_grouping_intervals" np) [arg] [] cpos) fe.env x=pure x)
  (hst1:starEach [arg] fe.env=(false,eval arg fe.env)::starEach [] fe.env) :
  wpAny (model C.prog C.w) A (exec (.For target (.Call (.Name "_grouping_intervals" np) [arg] [] cpos) body [] pos) fe.env) (Psf C fz X fe G Q) EX s:=by
 refine aFQ aEf λname name' pos0 hst=>?_
 have hAY:=hA.y hF hd;refine wpAny_For (wpAny_mono (aAM (R:=λv s2=>∃fz1 led1 G1 d,FzLe fz fz1∧GExt G G1∧zP C fz1 led1 (Un F X) G1 a giScope wE [("grouping",d)] v s2∧aDu C fe vs k N target body Q EX fz G (Un F X) l J d led1) hF hd hA S ?_ (by first|rfl|with_unfolding_all rfl) (by erw[hst1];with_unfolding_all rfl) (by erw[hst1];with_unfolding_all rfl)) (λgv s2 hp=>?_) λ_ _ x=>x.elim) hs
 ·refine hO hm (λ_=>.ref a) ?_ hkk (by with_unfolding_all rfl);refine WL.cons (harg.mono λd led1 hc=>WL.nil ⟨λY=>E0.fn.keep,λfz2 G2 s2 fv vals l2 g2 S2 e1 e2=>?_⟩) hst1;cases e1;exact wpAny_mono (aBC (k:=k) E0.fn hst [("grouping",d)] rfl rfl (hAY.mono (bF [] (.le (.a .p0 .k1) (.a .p0 (.k 4))) aB)) S2 e2) (λv s3 hg=>⟨fz2,led1,G2,d,l2,g2,hg,hc⟩) λ_ _ x=>x
 ·obtain ⟨fz1,led1,G1,d,l1,g1,⟨fz2,G2,Fg,L,cs,q,code,ga,g,rfl,l2,g2,hgs,hFg,hdg,S2,hgg,hobj⟩,KI,hit,PN,hn,hint,hend,hexc,hfirst⟩:=hp;refine wpAny_pyIter_gen (hobj.at_ S2) ?_;have hsize:G.size≤g:=Nat.le_trans g1.size hgs;have L2:=l1.trans l2;have G12:=g1.trans g2;refine codeAny_forLoop (λn s'=>(n=N∧s'=s2)∨GiInv C a ⟨L,cs,q,code⟩ d J fe X g N fz2 G n s') (λn s3 hI=>?_) N (.inl ⟨rfl,rfl⟩) (ht _);rcases hI with ⟨rfl,rfl⟩| ⟨hnN,l3,g3,hF3,hd3,hdg3,S3,hg3,hcase⟩
  ·refine aBY (z:=⟨L,cs,q,code⟩) (k:=k) (KI:=KI) (PN:=PN) E0 (hAY.mono (Nat.le_succ (k+3))) hobj hgg hFg hdg S2 hit hn hint ?_ λI=>⟨?_,?_,?_⟩
   ·intro I fz' G' led' s' e l' la ga' Sa hl' hpa hfl
    (first|exact (aH (hfr ..) hl').elim|cases aJ (hfr ..) hl'|(rw[hfr]at hl';cases hl'))
    refine sV Sa hfr hkf hfl λh4 S4 hh4=>?_
    exact Held.own S4 hkf hh4 λh5 S5 hh5=>hexc I led' fz' G' _ e hpa (L2.trans la) (G12.own hsize ga') S5 hh5
   ·intro fz' G' led' s' la ga' Sa hq;exact wpAny_execs_nil ⟨fz',G',F,vs,led',.next,L2.trans la,G12.own hsize ga',trivial,hF,hd,Sa,hend I led' hq⟩
   ·intro v j fz' G' F' led' s' gs' hj1 hj0 la ga' ea hFa hda Sa hgs' hpa hsus;refine aL (hfirst I j led' hj0 hj1 hpa) λm hm1 hb=>?_
    have GG:=G12.own hsize ga'
    exact nU (hA.mono (Nat.le_add_right k 4)) (L2.trans la) GG ea hF hd hda Sa hb λfz5 G5 F5 vs5 led5 s5 l5 g5 hF5 hd5 hdg5 S5 hJ =>
     ⟨m,hm1,.inr (.of la GG hgs' hm1 l5 g5 hF5 hd5 hdg5 S5 (.run j hJ (hFa.outer (aDv j)) hsus))⟩
   ·intro v i' fz' G' F' led' s' gs' hi;exact bN hi
  ·exact aEn (EX:=_) (EY:=_) E0 hstep hrep hA L2 hsize hobj hnN l3 g3 hF3 hd3 hdg3 S3 hg3 hcase λm s hm h=>⟨m,hm,.inr h⟩
set_option tactic.hygienic false
theorem wH(c:Nat):∀(m:Nat) (acc:Array Nat),(List.replicate m #[c]).foldl (·++·) acc=acc++(List.replicate m c).toArray
 | 0,acc=>by exact rfl
 | m+1,acc=>by rw[List.replicate_succ,List.foldl_cons,wH c m,List.replicate_succ];apply Array.toList_inj.mp;simp
theorem nV(c n:Nat):Txt.mul (mk [c]) (n:Int)=mk (List.replicate n c):=by
 unfold Txt.mul
 match n with
 | 0=>rfl
 | 1=>rfl
 | n+2 =>
  have h1:¬((n+2:Nat):Int)<1:=of_decide_eq_false rfl;have h2:(((n+2:Nat):Int) == 1)=false:=beq_eq_false_iff_ne.mpr (bi_ine.mp rfl);erw[if_neg h1,h2,if_neg (by intro z;exact dK z),Int.toNat_natCast];show (⟨(List.replicate (n+2) #[c]).foldl (·++·) #[]⟩:Str)=_
  erw[wH];simp
theorem jR(c:Nat){n:Nat}(h:n≤1000):MulOk (mk [c]) (n:Int):=by
 refine⟨by simp;exact lkh h aB,λh1 _=>?_,λ_ _=>?_⟩
 ·show ¬(((1:Nat):Int) > _)
  have h2:(1:Int)≤(2 ^ 63 - 1) / (n:Int):=Int.le_ediv_of_mul_le (bF [.ile (.k 1) (.c .p0)] (.ilt (.k 0) (.c .p0)) aB (Int.not_lt.mp h1)) (bF [.le .p0 (.k 1000)] (.ile (.l 1 (.c .p0)) (.s (.k 9223372036854775808) (.k 1))) aB h);exact Int.not_lt_of_ge h2
 ·show Builtin.Str.tooLong (1*n)=false
  exact decide_eq_false (Nat.not_lt.mpr (Nat.le_trans (by exact bF [.le .p0 (.k 1000)] (.le (.l 1 .p0) (.k 1000)) aB h:1*n≤1000) (by decide)))
noncomputable def eP(sg:List Nat)(k z:Nat):List Nat:=List.replicate z (sg.getD (k % sg.length) 0)
noncomputable def kK(sg:List Nat)(count turn:Nat)(S:Nat→RowS)(n z:Nat):Nat→RowS :=
 if 0<(n - 1) / 2∧(n - 1) / 2<count then
  if n % 2=1 then dA S 0 { S 0 with text:=(S 0).text++aR (eP sg ((n - 1) / 2) z) (turn+(n - 1) / 2) }
  else dA S 1 { S 1 with pb:=(S 1).pb++[eP sg ((n - 1) / 2) z] }
 else S
noncomputable def eW(count:Nat)(S:Nat→RowS)(n:Nat):Nat→RowS:=if n=2*count then dA S 0 { S 0 with text:=(S 0).text++[46] } else S
theorem fD(w:List Nat)(t:Nat):(aR w t).length≤2*w.length+3:=by
 have h:((w.map (aU (cV w t))).flatten).length≤2*w.length:=by
  generalize cV w t=R;induction w with
  | nil=>simp
  | cons a r ih =>
   erw[List.map_cons,List.flatten_cons,List.length_append,List.length_cons];have:(aU R a).length≤2:=by unfold aU;split<;>simp
   exact eF [.le .p0 (.l 2 .p1),.le .p2 .k2] (.le (.a .p2 .p0) (.l 2 (.a .p1 .k1))) aB ih this
 unfold aR
 dsimp only
 generalize ((w.map (aU (cV w t))).flatten)=X at *;split<;>simp only[List.length_append,List.length_cons,List.length_nil]<;>lia
section
variable {C:Cx} {Y led:aF} {k:Nat} {P:RunA} {cl f:Addr} {S:Nat→RowS} {told:List Int}
theorem aB0(E:NetEnv C cl mN)(hf:GFn C f (eS 3))(H:RunAt P cl led S told)(D:RunD P)(hi:i<2)(hpl:(S i).pb.length≤100000)
  (hq:∀led',RunAt P cl led' (dA S i { S i with pb:=(S i).pb++[word] }) told→(∀a,a∉dM P→led' a=led a)→Q .none led'):CallW C Y led (k+10) (.ref f) [.ref (P.A i).x,bB word] Q:=by
 have e:=H.lex hi;erw[← e];refine iR (k:=k) E hf (H.ok i hi) (by erw[List.length_map];exact hpl) ?_;have h1:=H.setLex D hi (S i).line (S i).text ((S i).pb++[word]);rw[List.map_append]at h1;exact hq _ h1 λa ha=>pO hi ha
end
noncomputable abbrev rnV(P:RunA)(o:Nat→Obj)(sg:List Nat)(count turn bound:Nat)(fs:Addr):aD:=[("page",.ref (P.A 0).pg),("lexers",aEZ P),("signs",bB sg),("numbers",wA o),("count",aP count),("turn",aP turn),("bound",aP bound),("waiting",aDr P),("read",aBU P),("told",.ref P.t),("_law_size",.ref fs)]
noncomputable def tL:Stmt:=jA 2 aAY
set_option maxHeartbeats 4000000 in
theorem wI{k:Nat}{P:RunA}{cl f fs fw L:Addr}{S:Nat→RowS}{told:List Int}{o:Nat→Obj}{sg:List Nat}{count turn bound z:Nat}{cs:List (Str×Addr)}{q:Str}{code:Value}{Qf:Fl→aD→aF→Prop}{JJ:aD→aF→Prop}{name name':Str}{args:Arguments}{scope:Scope}{fbody body:List Stmt}{pos0 pos:Pos}{target iter:Expr}{mN:Str→Option Value}
  (N:iO C) (E:NetEnv C cl mN) (hmw:C.mg "_law_written"=some (.ref fw)) (hfw:GFn C fw (aQ 15)) (hst:aQ 16=.FunctionDef name args fbody [] none [] scope none name' pos0) (hfor:tL=.For target iter body [] pos)
  (H:RunAt P cl led S told) (D:RunD P) (htl:told.length≤10000) (hz:z≤1000) (hsg:sg≠[]) (hsl:sg.length≤100) (hct:count≤1000) (hturn:turn≤1000) (hbd:bound≤100000)
  (htx:(S 0).text.length≤90000) (hpb:(S 1).pb.length≤90000)
  (hstop:told.length+1=bound→∀led',RunAt P cl led' (eW count (kK sg count turn S (told.length+1) z) (told.length+1)) (told++[(z:Int)])→(∀a,a∉dM P→led' a=led a)→Qf .next (rnV P o sg count turn bound fs) led')
  (hgo:told.length+1≠bound→∀led',RunAt P cl led' (eW count (kK sg count turn S (told.length+1) z) (told.length+1)) (told++[(z:Int)])→(∀a,a∉dM P→led' a=led a)→JJ (rnV P o sg count turn bound fs) led') :
  gK C (dF scope L cs q f code) (k+20) target body Qf (z:Int) (rnV P o sg count turn bound fs) led JJ:=by
 have hfor':jA 2 aAY=.For target iter body [] pos:=hfor;unfold aAY at hfor';cases hst;cases hfor';clear hfor;obtain ⟨fpt,mp⟩:=E.pt;obtain ⟨op,po1,po2,po3⟩:=mp.obj;unfold gK;walk_at "v";refine cQ (pl:=_) ?_;walk_at "v";refine⟨_,_,λY=>GetM.append H.tl,?_⟩;walk_at "v";refine KcY.append H.tl (by erw[List.length_map];exact eJ htl aB) ?_;refine⟨rfl,?_⟩;have H1:=H.setT D (told++[(z:Int)]);rw[List.map_append]at H1
 have hf1:∀a,a∉dM P→upd led P.t (.list (told.map .int++[(z:Int)].map .int)) a=led a:=λa ha=>by
  erw[aG _ _ λe=>ha (by erw[e];unfold dM;simp)]
 rw[show [(z:Int)].map Sc.D.int=[Sc.D.int (z:Int)] from rfl]at H1 hf1;generalize upd led P.t (.list (told.map .int++[Sc.D.int (z:Int)]))=led1 at *;have hl1:((told++[(z:Int)]).map Sc.D.int).length=told.length+1:=by simp
 walk_at "v";refine aI ?_;walk_at "v";refine KcY.len_ref H1.tl (by erw[hl1];exact bF [.le .p0 (.k 10000)] (.lt (.a .p0 .k1) (.k 4611686018427387904)) aB htl) ?_;erw[hl1];refine uB ?_;refine OpY.sub ?_;erw[show ((told.length+1:Nat):Int) - 1=((told.length+1 - 1:Nat):Int) by exact Int.sub_eq_iff_eq_add.mpr rfl];walk_at "v";refine OpY.fdivn 2 ?_;generalize hn:told.length+1=n at *;generalize hkk:(n - 1) / 2=kk;have hkb:kk≤n:=by erw[← hkk];exact Nat.le_trans (Nat.div_le_self _ _) (Nat.sub_le _ _)
 have hcell:(mk sg).cps[((kk % sg.length:Nat):Int).toNat]?=some (sg.getD (kk % sg.length) 0):=by
  have:kk % sg.length<sg.length:=Nat.mod_lt _ (List.length_pos_iff.mpr hsg);erw[Int.toNat_natCast,List.getElem?_toArray,List.getD_eq_getElem?_getD,List.getElem?_eq_getElem this];rfl
 have hsl0:0<sg.length:=List.length_pos_iff.mpr hsg;have hml:kk % sg.length<sg.length:=Nat.mod_lt _ hsl0;walk_at "v";refine aI ?_;walk_at "v";refine KcY.len_str (by erw[mE];exact gN hsl aB) ?_;erw[mE];intro _;refine Op2.modn sg.length ?_ (Nat.pos_iff_ne_zero.mp hsl0);refine SuY.str (Int.natCast_nonneg _) (Int.ofNat_lt.mpr (Nat.lt_trans hml (gN hsl aB))) hcell ?_;walk_at "v";refine OpY.muls (jR _ hz) ?_;erw[nV];have hwd:List.replicate z (sg.getD (kk % sg.length) 0)=eP sg kk z:=rfl;erw[hwd];have hwl:(eP sg kk z).length≤1000:=by unfold eP;erw[List.length_replicate];exact hz
 have hsum:kK sg count turn S n z=if 0<kk∧kk<count then (if n % 2=1 then dA S 0 { S 0 with text:=(S 0).text++aR (eP sg kk z) (turn+kk) } else dA S 1 { S 1 with pb:=(S 1).pb++[eP sg kk z] }) else S:=by
  unfold kK;erw[hkk]
 generalize eP sg kk z=word at *;clear hcell hwd;refine WU.st ?_;refine pG (λvs led'=>Sub (rnV P o sg count turn bound fs) vs∧RunAt P cl led' (kK sg count turn S n z) (told++[(z:Int)])∧∀a,a∉dM P→led' a=led a) ?_ ?_
 ·erw[hsum];have e2:∀b:Bool,b=decide (0<(kk:Int))→b=false→¬0<kk:=λb e1 e2=>by rw[e1]at e2;have:=of_decide_eq_false e2;lia
  refine zF (WB.mono (Q:=λb led'=>led'=led1∧b=decide ((0<kk∧kk<count)∧n % 2=1)) ?_ ?_)
  ·walk_at "v";refine zE ?_;walk_at "v";refine⟨λhb=>?_,λhb=>?_⟩
   ·refine⟨λz=>(by cases z),λ_=>⟨rfl,?_⟩⟩;have:=of_decide_eq_false hb;exact (decide_eq_false (by lia)).symm
   ·have hb1:=of_decide_eq_true hb;walk_at "v";refine⟨λhb2=>?_,λhb2=>⟨rfl,?_⟩⟩
    rotate_left
    ·have:=of_decide_eq_false hb2;exact (decide_eq_false (by lia)).symm
    ·have hb3:=of_decide_eq_true hb2;walk_at "v";refine aI ?_;walk_at "v";refine KcY.len_ref H1.tl (by erw[hl1];exact bC [.le .p0 (.k 10000),.eq .p1 (.a .p0 .k1)] (.lt .p1 (.k 4611686018427387904)) aB htl hn.symm) ?_;erw[hl1];walk_at "v";refine OpY.modn 2 ?_;walk_at "v"
     have e1:(((n % 2:Nat):Int) == 1)=decide ((0<kk∧kk<count)∧n % 2=1):=by
      erw[Bool.eq_iff_iff,beq_iff_eq,decide_eq_true_eq];lia
     erw[e1];refine⟨λhb4=>?_,λhb4=>⟨rfl,hb4.symm⟩⟩;walk_at "v";exact⟨rfl,hb4.symm⟩
  ·intro b led' o21;obtain ⟨rfl,rfl⟩:=o21;refine⟨λhb=>?_,λhb=>?_⟩
   ·obtain ⟨hb1,hb2⟩:=of_decide_eq_true hb;erw[if_pos hb1,if_pos hb2];walk_at "v";refine cQ (pl:=_) ?_;walk_at "v";refine⟨_,_,λY=>GetM.extend (H1.pg (i:=0) (by decide)),?_⟩;walk_at "v";refine aI ?_;walk_at "v"; intro _;erw[← Int.natCast_add];have hwr:=fD word (turn+kk);refine⟨hfw.keep,(iI (k:=k) N hfw hwl (by lia) ?_).up (bF [] (.le (.a .p0 (.k 10)) (.a .p0 (.k 20))) aB)⟩;walk_at "v"; intro _;refine KpK.blt ?_;have hsi:bL (mk (aR word (turn+kk)))=(aR word (turn+kk)).map iS:=rfl;refine qU (H1.pg (i:=0) (by decide)) (by erw[List.length_map,show (mk (aR word (turn+kk))).cps.size=(aR word (turn+kk)).length by simp];exact eF [.le .p0 (.k 90000),.t 2 (.le .p1 (.k 1000)),.le .p2 (.a (.l 2 .p1) .k3)] (.le (.a .p0 .p2) (.k 1000000)) aB htx hwl hwr) ?_;erw[hsi,← List.map_append];refine⟨rfl,?_⟩;have H2:=H1.setPg D (i:=0) (by decide) ((S 0).text++aR word (turn+kk));walk_at "v"
    exact⟨rfl,rfl,H2,λa ha=>by
     erw[aG _ _ λe=>ha (by erw[e];unfold dM;simp)];exact hf1 a ha⟩
   ·have hb1:=of_decide_eq_false hb;refine WS.cons (zF (WB.mono (Q:=λb led''=>led''=led'∧b=decide (0<kk∧kk<count)) ?_ ?_))
    ·refine zE ?_;walk_at "v";refine⟨λhb=>⟨rfl,?_⟩,λhb=>?_⟩
     ·have:=of_decide_eq_false hb;exact (decide_eq_false (not_and_of_not_left (kk<count) (e2 false (id (Eq.symm hb)) rfl))).symm
     ·have hb1:=of_decide_eq_true hb;walk_at "v";refine⟨rfl,?_⟩;erw[Bool.eq_iff_iff,decide_eq_true_eq,decide_eq_true_eq];lia
    ·intro b led' o21;obtain ⟨rfl,rfl⟩:=o21;refine⟨λhb=>?_,λhb=>?_⟩
     ·have hb2:=of_decide_eq_true hb;erw[if_pos hb2,if_neg (λz=>hb1 ⟨hb2,z⟩)];walk_at "v";refine cQ (pl:=_) ?_;walk_at "v";refine SuY.lst Int.one_nonneg (o63) (bK (i:=1) (by decide)) ?_;refine⟨_,_,λY=>GetM.inst E.cls (H1.ok 1 (by decide)).x (H1.dx (i:=1) (by decide)) mp.at_ po1 po3 po2 ol7 rfl,?_⟩;walk_at "v";refine Y1 (λ_ z9=>⟨mp.fn.keep,(aB0 (k:=k) E mp.fn H1 D (i:=1) (by decide) (eJ hpb aB) z9).up (bF [] (.le (.a .p0 (.k 10)) (.a .p0 (.k 20))) aB)⟩) ?_;intro led2 H2 hf2;refine⟨rfl,?_⟩;walk_at "v";exact⟨rfl,rfl,H2,λa ha=>(hf2 a ha).trans (hf1 a ha)⟩
     ·have hb2:=of_decide_eq_false hb;erw[if_neg hb2];walk_at "v";exact⟨rfl,rfl,H1,hf1⟩
 ·intro vs2 led2 o21;obtain ⟨hsub,H2,hf2⟩:=o21;refine WS.sub ?_ hsub
  have hS1:(kK sg count turn S n z 0).text.length≤95000:=by
   erw[hsum];have hwr:=fD word (turn+kk);split
   ·split
    ·erw[bE];simp only[List.length_append];exact eF [.le .p0 (.k 90000),.t 2 (.le .p1 (.k 1000)),.le .p2 (.a (.l 2 .p1) .k3)] (.le (.a .p0 .p2) (.k 95000)) aB htx hwl hwr
    ·show (S 0).text.length≤_;exact eJ htx aB
   ·exact eJ htx aB
  generalize kK sg count turn S n z=S1 at *;refine pG (λvs led'=>Sub (rnV P o sg count turn bound fs) vs∧RunAt P cl led' (eW count S1 n) (told++[(z:Int)])∧∀a,a∉dM P→led' a=led a) ?_ ?_
  ·walk_at "v";refine aI ?_;walk_at "v";refine KcY.len_ref H2.tl (by erw[hl1];exact bC [.le .p0 (.k 10000),.eq .p1 (.a .p0 .k1)] (.lt .p1 (.k 4611686018427387904)) aB htl hn.symm) ?_;erw[hl1];walk_at "v";refine OpY.mul ?_ (Or.inl (by decide));walk_at "v"
   have e1:((n:Int) == 2*(count:Int))=decide (n=2*count):=by
    erw[Bool.eq_iff_iff,beq_iff_eq,decide_eq_true_eq];lia
   erw[e1];refine⟨λhb=>?_,λhb=>?_⟩
   ·have hb1:=of_decide_eq_true hb;walk_at "v";refine cQ (pl:=_) ?_;walk_at "v";refine⟨_,_,λY=>GetM.append (H2.pg (i:=0) (by decide)),?_⟩;walk_at "v";refine KcY.append (H2.pg (i:=0) (by decide)) (by erw[List.length_map];exact eJ hS1 aB) ?_;refine⟨rfl,?_⟩;have H3:=H2.setPg D (i:=0) (by decide) ((S1 0).text++[46]);rw[List.map_append]at H3;walk_at "v";refine⟨rfl,rfl,?_,λa ha=>?_⟩
    ·unfold eW;erw[if_pos hb1];exact H3
    ·erw[aG _ _ λe=>ha (by erw[e];unfold dM;simp)];exact hf2 a ha
   ·have hb1:=of_decide_eq_false hb;walk_at "v";refine⟨rfl,rfl,?_,hf2⟩;unfold eW;erw[if_neg hb1];exact H2
  ·intro vs3 led3 o21;obtain ⟨hsub3,H3,hf3⟩:=o21;refine WS.sub ?_ hsub3;walk_at "v";refine aI ?_;walk_at "v";refine KcY.len_ref H3.tl (by erw[hl1];exact bC [.le .p0 (.k 10000),.eq .p1 (.a .p0 .k1)] (.lt .p1 (.k 4611686018427387904)) aB htl hn.symm) ?_;erw[hl1];walk_at "v"
   have e1:((n:Int) == (bound:Int))=decide (n=bound):=by
    erw[Bool.eq_iff_iff,beq_iff_eq,decide_eq_true_eq];exact Int.ofNat_inj
   erw[e1];refine⟨λhb=>?_,λhb=>?_⟩
   ·walk_at "v";exact⟨rnV P o sg count turn bound fs,rfl,rfl,hstop (of_decide_eq_true hb) _ H3 hf3⟩
   ·walk_at "v";exact⟨rnV P o sg count turn bound fs,rfl,rfl,hgo (of_decide_eq_false hb) _ H3 hf3⟩
set_option tactic.hygienic false
theorem aAg(h1:1≤x)(h2:x≤c):max 1 (min c x)=x:=(congrArg (max 1) (Nat.min_eq_right h2)).trans (Nat.max_eq_right h1)
theorem aAh(h1:1≤c)(h2:c≤x):max 1 (min c x)=c:=(congrArg (max 1) (Nat.min_eq_left h2)).trans (Nat.max_eq_right h1)
theorem aB1(h1:x≤1):max 1 (min c x)=1:=Nat.max_eq_left (Nat.le_trans (Nat.min_le_right ..) h1)
theorem aC0(h:x≤y):max 1 (min c x)≤max 1 (min c y):=Nat.max_le.mpr ⟨Nat.le_max_left ..,Nat.le_trans (Nat.le_min.mpr ⟨Nat.min_le_left ..,Nat.le_trans (Nat.min_le_right ..) h⟩) (Nat.le_max_right ..)⟩
theorem aDy(h:1≤c):max 1 (min c x)≤c:=Nat.max_le.mpr ⟨h,Nat.min_le_left ..⟩
theorem aEo(h:2*r≤r)(h2:1≤r):False:=by lia
theorem aC1(hc:1≤c)(h:r=max 1 (min c x))(hn:r≠c)(hx:2*r≤x):False:=by
 rcases Nat.le_total c x with q|q
 ·exact hn (h.trans (aAh hc q))
 ·have h1:x≤r:=h▸Nat.le_trans (Nat.le_of_eq (Nat.min_eq_right q).symm) (Nat.le_max_right ..);have h2:1≤r:=h▸Nat.le_max_left ..;exact aEo (Nat.le_trans hx h1) h2
theorem yJ(h:m % 2=0):(m+1) / 2=m / 2:=Nat.le_antisymm (bQ 1 [_,_,_,_] [] [.eq .p0 (.k 0),.le (.r .p1 (nat_lit 2)) (.a .p2 .k1),.eq .p2 (.a (.l 2 .p3) .p0)] (.le .p1 .p3) aB h (Nat.div_mul_le_self _ _) (Nat.div_add_mod _ _).symm) (bQ 1 [_,_,_] [] [.lt (.a .p0 .k1) (.a (.r .p1 (nat_lit 2)) .k2),.le (.r .p2 (nat_lit 2)) .p0] (.le .p2 .p1) aB (Nat.lt_div_mul_add (by decide)) (Nat.div_mul_le_self _ _))
theorem aB2(h:m % 2=1):(m+1) / 2=m / 2+1:=Nat.le_antisymm (bQ 1 [_,_,_] [] [.le (.r .p0 (nat_lit 2)) (.a .p1 .k1),.lt .p1 (.a (.r .p2 (nat_lit 2)) .k2)] (.le .p0 (.a .p2 .k1)) aB (Nat.div_mul_le_self _ _) (Nat.lt_div_mul_add (by decide))) (bQ 1 [_,_,_,_] [] [.eq .k1 .p0,.lt (.a .p1 .k1) (.a (.r .p2 (nat_lit 2)) .k2),.eq (.a (.l 2 .p3) .p0) .p1] (.le (.a .p3 .k1) .p2) aB h.symm (Nat.lt_div_mul_add (by decide)) (Nat.div_add_mod _ _))
theorem yK(m:Nat):(m+2) / 2=m / 2+1:=Nat.add_div_right m (by decide)
theorem aDz(h:r<n):n - r=n - (r+1)+1:=Nat.le_antisymm (lN [.eq (.a .p0 .p1) .p2,.le .p2 (.a .p3 (.a .p1 .k1))] (.le .p0 (.a .p3 .k1)) aB (Nat.sub_add_cancel (bC [.lt .p0 .p1] (.le .p0 .p1) aB h)) (Nat.le_add_of_sub_le (Nat.le_refl _))) (lN [.le .p0 (.a .p1 .p2),.eq (.a .p3 (.a .p2 .k1)) .p0] (.le (.a .p3 .k1) .p1) aB (Nat.le_add_of_sub_le (Nat.le_refl _)) (Nat.sub_add_cancel (bC [.lt .p0 .p1] (.le (.a .p0 .k1) .p1) aB h)))
theorem aDA(h:r≤n):n+1 - r=n - r+1:=Nat.succ_sub h
theorem wJ{r n:Nat}(h:r≤n):r+(n - r)=n:=Nat.add_sub_cancel' h
theorem fM(m:Nat):1 - m % 2<2:=Nat.lt_of_le_of_lt (Nat.sub_le ..) (by decide)
theorem aC2(h:2*c≤m):c≤m / 2:=(Nat.le_div_iff_mul_le (by decide)).mpr (Nat.mul_comm ..▸h)
set_option tactic.hygienic false
noncomputable def dE(num:Nat→Nat→Int)(wd:Nat→Nat→List Nat)(r ρ:Nat):List Int:=(List.range ρ).flatMap λk=>(wd r k).map (num r)
structure SimOk (sg:List Nat) (count turn:Nat) (wd:Nat→Nat→List Nat) (num:Nat→Nat→Int) (stop:Int):Prop where
 c2:2≤count
 c7:count≤7
 word:∀r k,r<2→k<count→wd r k=eP sg k (wd r k).length
 len:∀r k,r<2→k<count→2≤(wd r k).length∧(wd r k).length≤9
 sign:∀r k,r<2→k<count→∀c∈wd r k,c∈sg
 alph:∀c∈sg,c∈alph
 size:∀r k,r<2→k<count→(dE num wd (1 - r) count)[k]?=some ((wd r k).length:Int)
 dot:∀r,r<2→num r 46=stop
 val:∀r,r<2→∀c∈sg,2≤num r c∧num r c≤9
section
variable {sg:List Nat} {count turn:Nat} {wd:Nat→Nat→List Nat} {num:Nat→Nat→Int} {stop:Int}
theorem eH(r ρ:Nat):dE num wd r (ρ+1)=dE num wd r ρ++(wd r ρ).map (num r):=by
 unfold dE;erw[List.range_succ,List.flatMap_append];simp
theorem gW(r ρ:Nat):∀d,∃B,dE num wd r (ρ+d)=dE num wd r ρ++B
 | 0=>⟨[],by rw[List.append_nil];rfl⟩
 | d+1=>by
  refine aN (gW r ρ d) λB h=>?_
  exact⟨B++(wd r (ρ+d)).map (num r),by rw[← Nat.add_assoc,eH,h,List.append_assoc]⟩
theorem iM(H:SimOk sg count turn wd num stop){r:Nat}(hr:r<2):∀ρ,ρ≤count→2*ρ≤(dE num wd r ρ).length∧(dE num wd r ρ).length≤9*ρ
 | 0,_=>⟨Nat.le_refl _,Nat.le_refl _⟩
 | ρ+1,h=>by
  have h1:=iM H hr ρ (by exact Nat.le_of_succ_le h);have h2:=H.len r ρ hr (by exact Nat.lt_of_succ_le h);rw[eH,List.length_append,List.length_map];exact⟨(eF [.le (.l 2 .p0) .p1,.le .k2 .p2] (.le (.l 2 (.a .p0 .k1)) (.a .p1 .p2)) aB h1.1 h2.1),(eF [.le .p0 (.l 9 .p1),.le .p2 (.k 9)] (.le (.a .p0 .p2) (.l 9 (.a .p1 .k1))) aB h1.2 h2.2)⟩
noncomputable def nW(count:Nat)(wd:Nat→Nat→List Nat)(r ρ:Nat):List Nat:=if ρ<count then wd r ρ else if ρ=count then [46] else []
noncomputable def jS(turn:Nat)(wd:Nat→Nat→List Nat)(ρ:Nat):Nat:=((List.range ρ).flatMap λk=>aR (wd 0 k) (turn+k)).count 10
noncomputable def eQ(turn:Nat)(wd:Nat→Nat→List Nat)(ρ made:Nat):List Nat:=(List.range' ρ (made - ρ)).flatMap λk=>aR (wd 0 k) (turn+k)
noncomputable def nX(count turn:Nat)(wd:Nat→Nat→List Nat)(r made:Nat)(dot:Bool)(ρ:Nat)(s:RowS):Prop :=
 if r=0 then s.pb=[]∧s.text=(if ρ≤count then eQ turn wd ρ made++(if dot then [46] else []) else [])∧s.line=1+(jS turn wd (min ρ count):Nat)
 else s.pb=(List.range' ρ (made - ρ)).map (wd 1)∧s.text=(if ρ≤count then [46] else [])∧s.line=1
theorem lJ(h:ρ<made):eQ turn wd ρ made=aR (wd 0 ρ) (turn+ρ)++eQ turn wd (ρ+1) made:=by
 unfold eQ;erw[aDz h,List.range'_succ,List.flatMap_cons]
theorem tM(h:ρ≤made):eQ turn wd ρ (made+1)=eQ turn wd ρ made++aR (wd 0 made) (turn+made):=by
 unfold eQ;erw[aDA h,List.range'_concat,List.flatMap_append];simp[wJ h]
theorem mV(ρ:Nat):eQ turn wd ρ ρ=[]:=by unfold eQ;erw[Nat.sub_self];rfl
theorem tN(ρ:Nat):jS turn wd (ρ+1)=jS turn wd ρ+(aR (wd 0 ρ) (turn+ρ)).count 10:=by
 unfold jS;erw[List.range_succ,List.flatMap_append,List.count_append];simp
theorem pR(line:Int):getTok [46] line=([46],[],line):=by erw[dC];rfl
theorem aC3(h:s.pb=d::r):bR s=d∧jV s={ s with pb:=r }:=by
 unfold bR jV;erw[h];exact⟨rfl,rfl⟩
theorem wK(h:s.pb=[]):bR s=(getTok s.text s.line).1∧jV s={ s with line:=(getTok s.text s.line).2.2,text:=(getTok s.text s.line).2.1 }:=by
 unfold bR jV;erw[h];exact⟨rfl,rfl⟩
theorem pS(H:SimOk sg count turn wd num stop){r:Nat}(hr:r<2){made:Nat}{dot:Bool}{ρ:Nat}{s:RowS}(h:nX count turn wd r made dot ρ s)(hm:made≤count)(hav:ρ<made∨(made=count∧(r=0→dot=true)∧count≤ρ)) :
  bR s=nW count wd r ρ∧nX count turn wd r made dot (ρ+1) (jV s):=by
 unfold nX at h;rcases aX hr with rfl|rfl
 ·rw[if_pos rfl]at h
  (refine jW h λh1 h2 h3=>?_;clear h)
  refine cL (wK h1) λe1 e2=>?_
  erw[e1,e2];unfold nX nW;erw[if_pos rfl];rcases hav with hav|⟨rfl,hd,hρ⟩
  ·have hρ:ρ<count:=Nat.lt_of_lt_of_le hav hm;have hne:wd 0 ρ≠[]:=λz=>by have:=(H.len 0 ρ (by decide) hρ).1;rw[z]at this;exact absurd this (by decide)
   rw[if_pos (Nat.le_of_lt hρ),lJ hav,List.append_assoc]at h2;erw[h2,tG _ hne,if_pos hρ,if_pos (by exact Nat.le_trans hav hm:ρ+1≤count)];refine⟨rfl,h1,rfl,?_⟩;show s.line+_=_
   erw[h3,Nat.min_eq_left (Nat.le_of_lt hρ),Nat.min_eq_left hρ,tN];exact Int.le_antisymm (bC [] (.ile (.a (.a (.k 1) (.c .p0)) (.c .p1)) (.a (.k 1) (.c (.a .p0 .p1)))) aB) (bC [] (.ile (.a (.k 1) (.c (.a .p0 .p1))) (.a (.a (.k 1) (.c .p0)) (.c .p1))) aB)
  ·rcases Nat.lt_or_ge made ρ with hlt|hge
   ·rw[if_neg (Nat.not_le_of_lt hlt)]at h2;erw[h2,if_neg (Nat.not_lt.mpr hρ),if_neg (Nat.ne_of_lt' hlt),if_neg (Nat.not_le.mpr (bC [.lt .p0 .p1] (.lt .p0 (.a .p1 .k1)) aB hlt))];refine⟨rfl,h1,rfl,?_⟩;show s.line=_
    erw[h3,Nat.min_eq_right hρ,Nat.min_eq_right (Nat.le_add_right_of_le hρ)]
   ·obtain rfl:ρ=made:=Nat.le_antisymm hge hρ;rw[if_pos (Nat.le_refl _),mV,hd rfl]at h2;erw[h2,show ([]:List Nat)++(if true=true then [46] else [])=[46] from rfl,pR,if_neg (Nat.lt_irrefl _),if_pos rfl,if_neg (Nat.not_succ_le_self ρ)];refine⟨rfl,h1,rfl,?_⟩;show s.line=_
    erw[h3,Nat.min_eq_right (Nat.le_refl _),Nat.min_eq_right (Nat.le_add_right ρ 1)]
 ·rw[if_neg (show ¬(1:Nat)=0 by decide)]at h
  (refine jW h λh1 h2 h3=>?_;clear h)
  unfold nX nW;erw[if_neg (show ¬(1:Nat)=0 by decide)];rcases hav with hav|⟨rfl,hd,hρ⟩
  ·have hρ:ρ<count:=Nat.lt_of_lt_of_le hav hm;rw[aDz hav,List.range'_succ,List.map_cons]at h1;refine cL (aC3 h1) λe1 e2=>?_
   erw[e1,e2,if_pos hρ];refine⟨rfl,rfl,?_,h3⟩;show s.text=_
   erw[h2,if_pos (Nat.le_of_lt hρ),if_pos (by exact Nat.le_trans hav hm:ρ+1≤count)]
  ·rw[Nat.sub_eq_zero_of_le hρ,show (List.range' ρ 0).map (wd 1)=[] from rfl]at h1;refine cL (wK h1) λe1 e2=>?_
   erw[e1,e2];rcases Nat.lt_or_ge made ρ with hlt|hge
   ·rw[if_neg (Nat.not_le_of_lt hlt)]at h2;erw[h2,if_neg (Nat.not_lt.mpr hρ),if_neg (Nat.ne_of_lt' hlt),if_neg (Nat.not_le.mpr (bC [.lt .p0 .p1] (.lt .p0 (.a .p1 .k1)) aB hlt)),Nat.sub_eq_zero_of_le (Nat.le_add_right_of_le hρ)];exact⟨rfl,h1,rfl,h3⟩
   ·obtain rfl:ρ=made:=Nat.le_antisymm hge hρ;rw[if_pos (Nat.le_refl _)]at h2;erw[h2,pR,if_neg (Nat.lt_irrefl _),if_pos rfl,if_neg (Nat.not_succ_le_self ρ),Nat.sub_eq_zero_of_le (Nat.le_add_right ρ 1)];exact⟨rfl,h1,rfl,h3⟩
noncomputable def bD(count r m:Nat):Nat:=max 1 (min count ((m+1 - r) / 2))
noncomputable def gL(r m:Nat):Nat:=(m+r) / 2
noncomputable def fE(count:Nat)(num:Nat→Nat→Int)(wd:Nat→Nat→List Nat)(r:Nat):List Int:=dE num wd r count
noncomputable def bO(count:Nat)(num:Nat→Nat→Int)(wd:Nat→Nat→List Nat):Nat :=
 if (fE count num wd 1).length≤(fE count num wd 0).length then 2*(fE count num wd 1).length else 2*(fE count num wd 0).length+1
noncomputable def cR(count:Nat)(num:Nat→Nat→Int)(wd:Nat→Nat→List Nat)(m:Nat):Int:=(fE count num wd (1 - m % 2)).getD (m / 2) 0
structure RowAt (count turn:Nat) (wd:Nat→Nat→List Nat) (num:Nat→Nat→Int) (m r:Nat) (s:RowS):Prop where
 ex:∃ρ,ρ≤bD count r m∧s.r=(List.range ρ).map (wd r)∧dE num wd r ρ=(fE count num wd r).take (gL r m)++s.w∧nX count turn wd r (bD count r m) (decide (2*count≤m)) ρ s
noncomputable def qX(count turn:Nat)(wd:Nat→Nat→List Nat)(num:Nat→Nat→Int)(m:Nat)(S:Nat→RowS):Prop:=∀r,r<2→RowAt count turn wd num m r (S r)
theorem yL(m:Nat)(h:m<bO count num wd):m / 2<(fE count num wd (1 - m % 2)).length:=by
 unfold bO at h;have h2:=Nat.mod_two_eq_zero_or_one m;split at h<;>rcases h2 with e|e<;>rw[e]<;>simp only[Nat.sub_zero,Nat.sub_self]<;>lia
theorem aC4(h:m=bO count num wd):m / 2=(fE count num wd (1 - m % 2)).length:=by
 unfold bO at h;have h2:=Nat.mod_two_eq_zero_or_one m;split at h<;>rcases h2 with e|e<;>rw[e]<;>simp only[Nat.sub_zero,Nat.sub_self]<;>lia
theorem wL(H:SimOk sg count turn wd num stop)(hr:r<2):2*count≤(fE count num wd r).length∧(fE count num wd r).length≤63:=by
 have:=iM H hr count (Nat.le_refl _);have:=H.c7;unfold fE;lia
theorem cT(H:SimOk sg count turn wd num stop):4*count≤bO count num wd∧bO count num wd≤127:=by
 have h0:=wL H (r:=0) (by decide);have h1:=wL H (r:=1) (by decide);unfold bO;split<;>lia
theorem pT(H:SimOk sg count turn wd num stop)(hm:m<bO count num wd)(h:RowAt count turn wd num m (1 - m % 2) s) :
  ∃ρ x w,ρ≤bD count (1 - m % 2) m∧((if s.w=[] then gV (num (1 - m % 2)) s else s).r=(List.range ρ).map (wd (1 - m % 2)))∧(if s.w=[] then gV (num (1 - m % 2)) s else s).w=x::w ∧
   dE num wd (1 - m % 2) ρ=(fE count num wd (1 - m % 2)).take (m / 2)++x::w∧nX count turn wd (1 - m % 2) (bD count (1 - m % 2) m) (decide (2*count≤m)) ρ (if s.w=[] then gV (num (1 - m % 2)) s else s) ∧
   (s.w=[]→∃k,k<count∧bR s=wd (1 - m % 2) k):=by
 refine tW h.ex λρ h1 h2 h3 h4=>?_
 have hd:=yL m hm;have hi:=fM m;have hmod:=Nat.mod_two_eq_zero_or_one m;have hc:gL (1 - m % 2) m=m / 2:=by unfold gL;rcases hmod with e|e<;>erw[e]<;>lia
 have hc2:=H.c2;have hmd:bD count (1 - m % 2) m≤count:=aDy (Nat.le_of_succ_le hc2);have hmd2:bD count (1 - m % 2) m=max 1 (min count ((m+1 - (1 - m % 2)) / 2)):=rfl;rw[hc]at h3;generalize hI:1 - m % 2=i at *;by_cases hw:s.w=[]
 ·erw[if_pos hw];rw[hw,List.append_nil]at h3;have hl3:=congrArg List.length h3;rw[List.length_take,Nat.min_eq_left (Nat.le_of_lt hd)]at hl3;have hb:=iM H hi ρ (Nat.le_trans h1 hmd)
  have hρ:ρ<bD count i m:=by
   rcases Nat.lt_or_ge ρ (bD count i m)with q|q
   ·exact q
   ·have hρm:ρ=bD count i m:=Nat.le_antisymm h1 q;by_cases hcnt:ρ=count
    ·rw[hcnt]at hl3;unfold fE at hd;lia
    ·exfalso;rw[← hρm]at hmd2;exact aC1 (Nat.le_of_succ_le hc2) hmd2 hcnt (Nat.le_trans (Nat.le_trans hb.1 (Nat.le_of_eq hl3)) (Nat.div_le_div_right (Nat.le_sub_of_add_le (Nat.add_le_add_left (Nat.le_of_lt_succ hi) m))))
  refine cL (pS H hi h4 hmd (.inl hρ)) λe1 e2=>?_
  have hρc:ρ<count:=Nat.lt_of_lt_of_le hρ hmd;have htok:nW count wd i ρ=wd i ρ:=by unfold nW;erw[if_pos hρc]
  rw[htok]at e1;have hne:=(H.len i ρ hi hρc).1;cases hwd:wd i ρ with
  | nil=>rw[hwd]at hne;exact absurd hne (by decide)
  | cons c r =>
   refine⟨ρ+1,num i c,r.map (num i),hρ,?_,?_,?_,?_,λ_=>⟨ρ,hρc,e1⟩⟩
   ·show s.r++[bR s]=_
    erw[h2,e1,List.range_succ,List.map_append];rfl
   ·show (bR s).map (num i)=_
    erw[e1,hwd];rfl
   ·erw[eH,h3,hwd];rfl
   ·unfold nX at e2 ⊢;exact e2
 ·erw[if_neg hw];cases hwc:s.w with
  | nil=>exact absurd hwc hw
  | cons x w=>exact⟨ρ,x,w,h1,h2,rfl,by erw[h3,hwc],h4,λz=>(aDi z)⟩
theorem nY(H:SimOk sg count turn wd num stop)(r m:Nat):bD count r m≤count:=aDy (Nat.le_of_succ_le H.c2)
theorem aAi(r m:Nat):bD count r m≤bD count r (m+1):=aC0 (Nat.div_le_div_right (Nat.sub_le_sub_right (Nat.le_succ _) _))
theorem wM(hc:2≤count)(hr:r<2)(h:2*count≤m):bD count r m=count:=aAh (Nat.le_of_succ_le hc) (aC2 (Nat.le_trans h (Nat.le_sub_of_add_le (Nat.add_le_add_left (Nat.le_of_lt_succ hr) m))))
theorem pU(hc:2≤count)(hr:r<2)(h:¬(0<m / 2∧m / 2<count)):bD count r (m+1)=bD count r m:=by
 rcases Nat.eq_zero_or_pos (m / 2)with q|q
 ·have a:(m+1+1 - r) / 2≤1:=Nat.le_trans (Nat.div_le_div_right (Nat.sub_le ..)) (by erw[yK,q];exact Nat.le_refl _);exact (aB1 a).trans (aB1 (Nat.le_trans (Nat.div_le_div_right (Nat.sub_le_sub_right (Nat.le_succ _) _)) a)).symm
 ·have b:count≤m / 2:=Nat.le_of_not_lt λz=>h ⟨q,z⟩
  have a:count≤(m+1 - r) / 2:=Nat.le_trans b (Nat.div_le_div_right (Nat.le_sub_of_add_le (Nat.add_le_add_left (Nat.le_of_lt_succ hr) m)));exact (aAh (Nat.le_of_succ_le hc) (Nat.le_trans a (Nat.div_le_div_right (Nat.sub_le_sub_right (Nat.le_succ _) _)))).trans (aAh (Nat.le_of_succ_le hc) a).symm
theorem aDB(h:¬m+1=2*count):decide (2*count≤m+1)=decide (2*count≤m):=decide_eq_decide.mpr ⟨λq=>Nat.le_of_lt_succ (Nat.lt_of_le_of_ne q λz=>h z.symm),λq=>Nat.le_succ_of_le q⟩
theorem wN(H:SimOk sg count turn wd num stop)(hr:r<2)(h:nX count turn wd r (bD count r m) (decide (2*count≤m)) ρ (S r))(hρ:ρ≤bD count r m)
  (hz:m / 2<count→eP sg (m / 2) z=wd (m % 2) (m / 2)):nX count turn wd r (bD count r (m+1)) (decide (2*count≤m+1)) ρ (eW count (kK sg count turn S (m+1) z) (m+1) r) ∧
   (eW count (kK sg count turn S (m+1) z) (m+1) r).r=(S r).r∧(eW count (kK sg count turn S (m+1) z) (m+1) r).w=(S r).w:=by
 have hc2:=H.c2;have hmod:=Nat.mod_two_eq_zero_or_one m;have hρc:ρ≤count:=Nat.le_trans hρ (nY H r m);unfold eW kK;erw[Nat.add_sub_cancel];rcases aX hr with rfl|rfl
 ·unfold nX at h ⊢;rw[if_pos rfl]at h ⊢
  (refine jW h λh1 h2 h3=>?_;clear h)
  rw[if_pos hρc]at h2 ⊢;by_cases hk:0<m / 2∧m / 2<count
  ·erw[if_pos hk];rcases hmod with e|e
   ·have hn:(m+1) % 2=1:=by lia
    erw[if_pos hn,if_neg (by lia),bE,hz hk.2,e];have d1:decide (2*count≤m)=false:=decide_eq_false (Nat.not_le.mpr (lN [.t 2 (.lt .p0 .p1),.eq .p2 (.k 0),.eq .p3 (.a (.l 2 .p0) .p2)] (.lt .p3 (.l 2 .p1)) aB hk.2 e (Nat.div_add_mod _ _).symm));have d2:decide (2*count≤m+1)=false:=decide_eq_false (by lia);have m1:bD count 0 m=m / 2:=(congrArg (λx=>max 1 (min count x)) (yJ e)).trans (aAg hk.1 (Nat.le_of_lt hk.2));have m2:bD count 0 (m+1)=m / 2+1:=(congrArg (λx=>max 1 (min count x)) (yK m)).trans (aAg (Nat.le_add_left ..) hk.2);rw[d1,m1]at h2;erw[d2,m2];refine⟨⟨h1,?_,h3⟩,rfl,rfl⟩;show (S 0).text++_=_
    erw[h2,tM (m1▸hρ)];simp
   ·have hn:¬(m+1) % 2=1:=by lia
    erw[if_neg hn];have m2:bD count 0 (m+1)=bD count 0 m:=congrArg (λx=>max 1 (min count x)) ((yK m).trans (aB2 e).symm);erw[m2];by_cases hd:m+1=2*count
    ·erw[if_pos hd,bE];have d1:decide (2*count≤m)=false:=decide_eq_false (Nat.not_le.mpr (bC [.eq (.a .p0 .k1) (.l 2 .p1)] (.lt .p0 (.l 2 .p1)) aB hd));have d2:decide (2*count≤m+1)=true:=decide_eq_true (Nat.le_of_eq (id (Eq.symm hd)));rw[d1]at h2;erw[d2];refine⟨⟨h1,?_,h3⟩,rfl,rfl⟩;show (S 0).text++_=_
     erw[h2];simp
    ·erw[if_neg hd];have d1:=aDB hd;erw[d1];exact⟨⟨h1,h2,h3⟩,rfl,rfl⟩
  ·erw[if_neg hk];have hd:m+1≠2*count:=by lia
   erw[if_neg hd];have d1:=aDB hd;have m2:bD count 0 (m+1)=bD count 0 m:=pU hc2 (by decide) hk;erw[d1,m2];exact⟨⟨h1,h2,h3⟩,rfl,rfl⟩
 ·have hdot:∀(S':Nat→RowS),(if m+1=2*count then dA S' 0 { S' 0 with text:=(S' 0).text++[46] } else S') 1=S' 1:=λS'=>by split<;>rfl
  erw[hdot];unfold nX at h ⊢;rw[if_neg (show ¬(1:Nat)=0 by decide)]at h ⊢
  (refine jW h λh1 h2 h3=>?_;clear h)
  by_cases hk:0<m / 2∧m / 2<count
  ·erw[if_pos hk];rcases hmod with e|e
   ·have hn:(m+1) % 2=1:=by lia
    erw[if_pos hn];have m2:bD count 1 (m+1)=bD count 1 m:=congrArg (λx=>max 1 (min count x)) (yJ e);erw[m2];exact⟨⟨h1,h2,h3⟩,rfl,rfl⟩
   ·have hn:¬(m+1) % 2=1:=by lia
    erw[if_neg hn,bE,hz hk.2,e];have m1:bD count 1 m=m / 2:=aAg hk.1 (Nat.le_of_lt hk.2);have m2:bD count 1 (m+1)=m / 2+1:=(congrArg (λx=>max 1 (min count x)) (aB2 e)).trans (aAg (Nat.le_add_left ..) hk.2);rw[m1]at h1 hρ;erw[m2];refine⟨⟨?_,h2,h3⟩,rfl,rfl⟩;show (S 1).pb++_=_
    erw[h1,aDA hρ,List.range'_concat,List.map_append];simp[wJ hρ]
  ·erw[if_neg hk];have m2:bD count 1 (m+1)=bD count 1 m:=pU hc2 (by decide) hk;erw[m2];exact⟨⟨h1,h2,h3⟩,rfl,rfl⟩
theorem aA2{n:Nat}{x:Int}(h:a=l.take n++x::w)(hl:l=a++B)(hn:n<l.length):l.getD n 0=x∧a=l.take (n+1)++w:=by
 have hlen:(l.take n).length=n:=by erw[List.length_take];exact Nat.le_antisymm (bC [.le .p0 .p1] (.le .p0 .p1) aB (Nat.min_le_left _ _)) (bC [.eq .p0 .p1] (.le .p0 .p1) aB (Nat.min_eq_left (bC [.lt .p0 .p1] (.le .p0 .p1) aB hn)).symm)
 have e1:l[n]?=some x:=by
  erw[hl,h,List.append_assoc,List.getElem?_append_right (by erw[hlen];exact Nat.le_refl _),hlen,Nat.sub_self];rfl
 refine⟨by erw[List.getD_eq_getElem?_getD,e1];rfl,?_⟩;erw[List.take_add_one,e1,h];simp
theorem wO(H:SimOk sg count turn wd num stop)(hm:m / 2<count):eP sg (m / 2) (cR count num wd m).toNat=wd (m % 2) (m / 2):=by
 have h1:=H.size (m % 2) (m / 2) (lkc (Nat.mod_lt _ (by decide)) aB) hm;have h2:=H.word (m % 2) (m / 2) (lkc (Nat.mod_lt _ (by decide)) aB) hm
 have e:cR count num wd m=((wd (m % 2) (m / 2)).length:Int):=by
  unfold cR fE;erw[List.getD_eq_getElem?_getD,h1];rfl
 erw[e,Int.toNat_natCast];exact h2.symm
theorem lK(H:SimOk sg count turn wd num stop)(hm:m<bO count num wd):2≤cR count num wd m∧cR count num wd m≤9:=by
 have hd:=yL m hm
 have hmem:cR count num wd m∈fE count num wd (1 - m % 2):=by
  unfold cR;erw[List.getD_eq_getElem?_getD,List.getElem?_eq_getElem hd];exact List.getElem_mem _
 unfold fE dE at hmem;refine aL (List.mem_flatMap.mp hmem) λk hk hx=>?_
 refine aL (List.mem_map.mp hx) λc hc e=>?_
 erw[← e];exact H.val _ (fM m) c (H.sign _ k (fM m) (List.mem_range.mp hk) c hc)
theorem jE(H:SimOk sg count turn wd num stop)(hm:m<bO count num wd)(hR:qX count turn wd num m S) :
  (dL (num (1 - m % 2)) (S (1 - m % 2))).1=cR count num wd m ∧
   qX count turn wd num (m+1) (eW count (kK sg count turn (dA S (1 - m % 2) (dL (num (1 - m % 2)) (S (1 - m % 2))).2) (m+1) (cR count num wd m).toNat) (m+1)):=by
 have hi:=fM m;have hmod:=Nat.mod_two_eq_zero_or_one m;refine aDH (pT H hm (hR _ hi)) λρ x w h1 h2 h3 h4 h5 _=>?_
 have hd:=yL m hm;refine aN (gW (num:=num) (wd:=wd) (1 - m % 2) ρ (count - ρ)) λB hB=>?_
 have hρc:ρ≤count:=Nat.le_trans h1 (nY H _ m);rw[wJ hρc]at hB;refine cL (aA2 h4 hB hd) λe1 e2=>?_
 unfold dL;generalize (if (S (1 - m % 2)).w=[] then gV (num (1 - m % 2)) (S (1 - m % 2)) else S (1 - m % 2))=s at *;have e3:pP s=(x,{ s with w:=w }):=by unfold pP;erw[h3]
 erw[e3];have hx:x=cR count num wd m:=e1.symm;refine⟨hx,λr hr=>?_⟩;by_cases hri:r=1 - m % 2
 ·subst hri;have hs:=wN H (m:=m) (z:=(cR count num wd m).toNat) (S:=dA S (1 - m % 2) { s with w:=w }) hr (ρ:=ρ) (by erw[bE];exact h5) h1 (λq=>wO H q);rw[bE]at hs
  (refine jW hs λg1 g2 g3=>?_;clear hs)
  refine⟨ρ,?_,by erw[g2];exact h2,?_,g1⟩
  ·exact Nat.le_trans h1 (aAi ..)
  ·erw[g3];have hc:gL (1 - m % 2) (m+1)=m / 2+1:=by unfold gL;rcases hmod with e|e<;>erw[e]<;>lia
   erw[hc];exact e2
 ·refine tW ((hR r hr).ex) λρ' q1 q2 q3 q4=>?_
  have hsr:dA S (1 - m % 2) { s with w:=w } r=S r:=if_neg hri;have hs:=wN H (m:=m) (z:=(cR count num wd m).toNat) (S:=dA S (1 - m % 2) { s with w:=w }) hr (ρ:=ρ') (by erw[hsr];exact q4) q1 (λq=>wO H q);rw[hsr]at hs
  (refine jW hs λg1 g2 g3=>?_;clear hs)
  refine⟨ρ',?_,by erw[g2];exact q2,?_,g1⟩
  ·exact Nat.le_trans q1 (aAi ..)
  ·erw[g3,q3]
   have hc:gL r (m+1)=gL r m:=by
    unfold gL;rcases hmod with e|e
    ·rw[e]at hri;have:r=0:=by lia
     subst this;exact yJ e
    ·rw[e]at hri;have:r=1:=by lia
     subst this;lia
   erw[hc]
structure RowE (count turn:Nat) (wd:Nat→Nat→List Nat) (r:Nat) (s:RowS):Prop where
 ex:∃ρ,ρ≤count+2∧s.r=(List.range ρ).map (nW count wd r)∧nX count turn wd r count true ρ s
theorem aC5(H:SimOk sg count turn wd num stop)(hr:r<2)(hm:2*count+1≤m)(h:RowAt count turn wd num m r s):RowE count turn wd r s:=by
 refine tW h.ex λρ h1 h2 h3 h4=>?_
 have hmd:bD count r m=count:=wM H.c2 hr (Nat.le_of_succ_le hm);have hd:decide (2*count≤m)=true:=decide_eq_true (Nat.le_of_succ_le hm);rw[hmd]at h1 h4;rw[hd]at h4;refine⟨ρ,Nat.le_add_right_of_le h1,?_,h4⟩;erw[h2];refine List.map_congr_left λk hk=>?_
 unfold nW;erw[if_pos (Nat.lt_of_lt_of_le (List.mem_range.mp hk) h1)]
theorem aAj(H:SimOk sg count turn wd num stop)(hm:m=bO count num wd)(hR:qX count turn wd num m S) :
  (S (1 - m % 2)).w=[]∧bR (S (1 - m % 2))=[46]∧(dL (num (1 - m % 2)) (S (1 - m % 2))).1=stop∧∀r,r<2→RowE count turn wd r (dA S (1 - m % 2) (dL (num (1 - m % 2)) (S (1 - m % 2))).2 r):=by
 have hi:=fM m;have hmod:=Nat.mod_two_eq_zero_or_one m;have hb:=cT H;have hc2:=H.c2;refine tW ((hR _ hi).ex) λρ h1 h2 h3 h4=>?_
 have hm2:2*count≤m:=eF [.eq .p0 .p1,.le (.l 4 .p2) .p0,.t 2 (.le .k2 .p2)] (.le (.l 2 .p2) .p1) aB hm.symm hb.1 hc2;have hmd:bD count (1 - m % 2) m=count:=wM hc2 hi hm2;have hd:decide (2*count≤m)=true:=decide_eq_true hm2;have hc:gL (1 - m % 2) m=m / 2:=by unfold gL;rcases hmod with e|e<;>erw[e]<;>lia
 have he:=aC4 hm;rw[hc,he,List.take_length]at h3;rw[hmd]at h1 h4;rw[hd]at h4;refine aN (gW (num:=num) (wd:=wd) (1 - m % 2) ρ (count - ρ)) λB hB=>?_
 rw[wJ h1]at hB;have hl1:=congrArg List.length h3;have hl2:=congrArg List.length hB;rw[List.length_append]at hl1 hl2;unfold fE at hl1;have hw:(S (1 - m % 2)).w=[]:=List.length_eq_zero_iff.mp (Nat.le_antisymm (lN [.eq (.a .p0 .p1) .p2,.eq (.a .p2 .p3) .p0] (.le .p1 (.k 0)) aB hl1.symm hl2.symm) (bF [] (.le (.k 0) .p0) aB))
 have hρ:ρ=count:=by
  rcases Nat.lt_or_ge ρ count with q|q
  ·refine aN (gW (num:=num) (wd:=wd) (1 - m % 2) (ρ+1) (count - (ρ+1))) λB2 hB2=>?_
   rw[wJ q]at hB2;have hl3:=congrArg List.length hB2;rw[eH,List.length_append,List.length_append,List.length_map]at hl3;have:=(H.len _ ρ hi q).1;lia
  ·exact Nat.le_antisymm h1 q
 subst hρ;refine cL (pS H hi h4 (Nat.le_refl _) (.inr ⟨rfl,λ_=>rfl,Nat.le_refl _⟩)) λe1 e2=>?_
 have htok:nW ρ wd (1 - m % 2) ρ=[46]:=by unfold nW;erw[if_neg (Nat.lt_irrefl _),if_pos rfl]
 rw[htok]at e1;unfold dL;erw[if_pos hw]
 have e3:pP (gV (num (1 - m % 2)) (S (1 - m % 2)))=(stop,{ gV (num (1 - m % 2)) (S (1 - m % 2))with w:=[] }):=by
  unfold pP gV;simp only[e1,List.map_cons,List.map_nil,H.dot _ hi]
 erw[e3];refine⟨hw,e1,rfl,λr hr=>?_⟩;by_cases hri:r=1 - m % 2
 ·subst hri;erw[bE];refine⟨ρ+1,by exact Nat.le_succ (ρ+1),?_,?_⟩
  ·show (S (1 - m % 2)).r++[bR (S (1 - m % 2))]=_
   erw[h2,e1,List.range_succ,List.map_append,List.map_cons,List.map_nil,htok]
   congr 1
   refine List.map_congr_left λk hk=>?_
   unfold nW;erw[if_pos (List.mem_range.mp hk)]
  ·unfold nX at e2 ⊢;exact e2
 ·erw[show dA S (1 - m % 2) { gV (num (1 - m % 2)) (S (1 - m % 2))with w:=[] } r=S r from if_neg hri];exact aC5 H hr (eF [.eq .p0 .p1,.le (.l 4 .p2) .p0,.t 2 (.le .k2 .p2)] (.le (.a (.l 2 .p2) .k1) .p1) aB hm.symm hb.1 hc2) (hR r hr)
theorem aA3(H:SimOk sg count turn wd num stop)(hr:r<2)(h2:s.r=(List.range ρ).map (nW count wd r))(h4:nX count turn wd r count true ρ s) :
  bR s=nW count wd r ρ∧nX count turn wd r count true (ρ+1) (jV s) :=
 pS H hr h4 (Nat.le_refl _) (by rcases Nat.lt_or_ge ρ count with q|q;exact .inl q;exact .inr ⟨rfl,λ_=>rfl,q⟩)
end
set_option tactic.hygienic false
section
variable {sg:List Nat} {count turn:Nat} {wd:Nat→Nat→List Nat} {num:Nat→Nat→Int} {stop:Int}
theorem wP(turn:Nat):cW turn∈alph:=by
 unfold cW;rcases (by lia:turn % 4=0∨turn % 4=1∨turn % 4=2∨turn % 4=3)with e|e|e|e<;>erw[e]<;>decide
theorem yM(h:∀c∈w,c∈alph)(t:Nat):∀c∈aR w t,c∈alph:=by
 have h0:∀c∈(w.map (aU (cV w t))).flatten,c∈alph:=λc hc=>by
  refine aL (List.mem_flatten.mp hc) λl hl hcl=>?_
  (refine aL (List.mem_map.mp hl) λd hd o1=>?_;subst o1)
  unfold aU at hcl;split at hcl
  ·simp only[List.mem_cons,List.not_mem_nil,or_false]at hcl;rcases hcl with rfl|rfl
   ·decide
   ·exact h _ hd
  ·rw[List.mem_singleton]at hcl;subst hcl;exact h _ hd
 intro c hc;unfold aR at hc
 dsimp only at hc
 split at hc
 ·simp only[List.mem_append,List.mem_cons,List.not_mem_nil,or_false]at hc;rcases hc with ((rfl|rfl)| hc)| rfl
  ·exact wP t
  ·decide
  ·exact h0 c hc
  ·decide
 ·simp only[List.mem_append,List.mem_cons,List.not_mem_nil,or_false]at hc;rcases hc with hc|rfl
  ·exact h0 c hc
  ·exact wP t
theorem kL(H:SimOk sg count turn wd num stop){r made ρ:Nat}{dot:Bool}{s:RowS}(hr:r<2)(hm:made≤count)(h:nX count turn wd r made dot ρ s):(∀c∈s.text,c∈alph)∧s.text.length≤200∧s.pb.length≤7:=by
 have hc7:=H.c7;unfold nX at h;rcases aX hr with rfl|rfl
 ·rw[if_pos rfl]at h
  (refine jW h λh1 h2 _=>?_;clear h)
  erw[h1,h2]
  have key:∀(l:List Nat),(∀k∈l,k<count)→(∀c∈l.flatMap λk=>aR (wd 0 k) (turn+k),c∈alph)∧(l.flatMap λk=>aR (wd 0 k) (turn+k)).length≤21*l.length:=by
   intro l;induction l with
   | nil=>intro _;exact⟨λc hc=>absurd hc List.not_mem_nil,Nat.le_refl _⟩
   | cons k l ih =>
    intro hk;refine cL (ih λx hx=>hk x (List.mem_cons_of_mem _ hx)) λi1 i2=>?_
    have hkc:=hk k List.mem_cons_self;erw[List.flatMap_cons];refine⟨λc hc=>?_,?_⟩
    ·rcases List.mem_append.mp hc with q|q
     ·exact yM (λc hc=>H.alph c (H.sign 0 k (by decide) hkc c hc)) _ c q
     ·exact i1 c q
    ·erw[List.length_append,List.length_cons];have:=fD (wd 0 k) (turn+k);have:=(H.len 0 k (by decide) hkc).2;lia
  have hk:∀k∈List.range' ρ (made - ρ),k<count:=λk hk=>by rw[List.mem_range'_1]at hk;lia
  refine cL (key _ hk) λk1 k2=>?_
  rw[List.length_range']at k2;unfold eQ;refine⟨λc hc=>?_,?_,Nat.zero_le _⟩
  ·split at hc
   ·rcases List.mem_append.mp hc with q|q
    ·exact k1 c q
    ·split at q
     ·erw[List.mem_singleton.mp q];decide
     ·exact absurd q List.not_mem_nil
   ·exact absurd hc List.not_mem_nil
  ·split
   ·erw[List.length_append];have:(if dot=true then [46] else []).length≤1:=by split<;>simp
    exact lz5 [.t 21 (.le .p0 .p1),.t 21 (.le .p1 (.k 7)),.le .p2 (.l 21 .p3),.le .p4 .k1,.t 21 (.le .p3 .p0)] (.le (.a .p2 .p4) (.k 200)) aB hm hc7 k2 this (Nat.sub_le _ _)
   ·exact Nat.zero_le _
 ·rw[if_neg (show ¬(1:Nat)=0 by decide)]at h
  (refine jW h λh1 h2 _=>?_;clear h)
  erw[h1,h2];refine⟨λc hc=>?_,?_,?_⟩
  ·split at hc
   ·erw[List.mem_singleton.mp hc];decide
   ·exact absurd hc List.not_mem_nil
  ·split<;>simp
  ·erw[List.length_map,List.length_range'];exact eF [.le .p0 .p1,.le .p1 (.k 7),.le .p2 .p0] (.le .p2 (.k 7)) aB hm hc7 (Nat.sub_le _ _)
end
theorem CloOk.front{cl:List (Str×Addr)}{F Y:aF}{fv:aD}(h:CloOk cl Y fv)(hd:Dj F Y):CloOk cl (Un F Y) fv where
 al:=λx c e=>let ⟨d,q⟩:=h.al x c e;⟨d,by rw[aE (hd.symm.of_some q)];exact q⟩
 inj:=h.inj
 fv:=λx d e=>let ⟨c,q1,q2⟩:=h.fv x d e;⟨c,q1,by rw[aE (hd.symm.of_some q2)];exact q2⟩
noncomputable def PNr(P:RunA)(cl I:Addr)(num:Nat→Nat→Int)(S:Nat→RowS)(told:List Int)(led:aF):Option D→aF→Prop:=λo led'=>match o with
 | some d=>d=.int (dL (num (1 - told.length % 2)) (S (1 - told.length % 2))).1∧(dL (num (1 - told.length % 2)) (S (1 - told.length % 2))).1≠-1∧RunAt P cl led' (dA S (1 - told.length % 2) (dL (num (1 - told.length % 2)) (S (1 - told.length % 2))).2) told∧∀a,a∉dM P→led' a=led a
 | none=>(dL (num (1 - told.length % 2)) (S (1 - told.length % 2))).1 = -1∧RunAt P cl led' (dA S (1 - told.length % 2) (dL (num (1 - told.length % 2)) (S (1 - told.length % 2))).2) told
noncomputable abbrev qY(fs:Addr):M:=.flds "callable_iterator" [.ref fs,.int (-1),.bool false]
theorem aA4
  (N:iO C) (E:NetEnv C cl mN) (hin:vZ=.FunctionDef name args body [] none [] scope none name' pos)
  (hfi:FnIs fd args (.stmts body) scope (bS scope cells)) (hl:led fs=some (.fn none fd)) (hI:led I=some (qY fs)) (hfm:fs∉dM P) (hIm:I∉dM P) (hIs:I∉stat P) (hc:CloOk (bS scope cells) Y (szF P o)) (NU:NumOk C o sgs num) (H:RunAt P cl led S told) (D:RunD P) (htl:told.length≤100000)
  (hok:∀i,i<2→(∀c∈(S i).text,c∈alph)∧(S i).text.length≤100000∧(S i).pb.length≤100000∧(S i).r.length≤100000)
  (htok:(S (1 - told.length % 2)).w=[]→(bR (S (1 - told.length % 2))).length≤1000∧∀c∈bR (S (1 - told.length % 2)),c∈sgs)
  (hwl:(S (1 - told.length % 2)).w.length≤1000):NextW C Y led (k+41) I (PNr P cl I num S told led):=by
 refine aAO hI (cC hl) (aAZ (k:=k) N E hin hfi hl hc NU H D htl hok htok hwl λled' H' hf=>?_);refine⟨_,rfl,hf I hIm,cC (by erw[hf fs hfm];exact hl),λe=>⟨e,H'.far D hIs hIm _⟩,λe=>⟨rfl,e,H',hf⟩⟩
set_option tactic.hygienic false
noncomputable abbrev eR(count:Nat)(num:Nat→Nat→Int)(wd:Nat→Nat→List Nat)(m:Nat):List Int:=(List.range m).map (cR count num wd)
structure RnP where
 P:RunA
 cl:Addr
 fs:Addr
 fd:FuncData
 o:Nat→Obj
 sg:List Nat
 count:Nat
 turn:Nat
 wd:Nat→Nat→List Nat
 num:Nat→Nat→Int
 stop:Int
noncomputable def RnP.len(p:RnP):Nat:=bO p.count p.num p.wd
noncomputable def RnP.last(p:RnP):Int:=cR p.count p.num p.wd (p.len - 1)
noncomputable def RnP.fin(p:RnP):List Int:=eR p.count p.num p.wd p.len++if p.stop=0 then [p.last,p.last] else []
noncomputable abbrev RnP.V(p:RnP):aD:=rnV p.P p.o p.sg p.count p.turn (p.len+2) p.fs
inductive RnJ (p:RnP) (n:Nat) (led:aF) (I:Addr):Gi→aD→Prop
 | run (m:Nat) (S:Nat→RowS):1≤m→m≤p.len→m+n=300→RunAt p.P p.cl led S (eR p.count p.num p.wd m)→qX p.count p.turn p.wd p.num m S→led p.fs=some (.fn none p.fd)→led I=some (qY p.fs)→I∉dM p.P→I∉stat p.P→RnJ p n led I (.run (cR p.count p.num p.wd (m - 1))) p.V
 | rep (S:Nat→RowS):2≤n→p.stop=0→RunAt p.P p.cl led S (eR p.count p.num p.wd p.len++[p.last])→(∀r,r<2→RowE p.count p.turn p.wd r (S r))→RnJ p n led I (.rep p.last) p.V
inductive RnQ (p:RnP) (vs:aD) (led:aF):Fl→Prop
 | mk (S:Nat→RowS):Sub p.V vs→RunAt p.P p.cl led S p.fin→(∀r,r<2→RowE p.count p.turn p.wd r (S r))→RnQ p vs led .next
structure RnOk (C:Cx) (p:RnP):Prop where
 H:SimOk p.sg p.count p.turn p.wd p.num p.stop
 D:RunD p.P
 NU:NumOk C p.o (46::p.sg) p.num
 sg:p.sg≠[]
 sl:p.sg.length≤8
 turn:p.turn≤1000
 fs:p.fs∉dM p.P
 stop:p.stop=0∨p.stop=127∨p.stop = -1
theorem aA5(h1:count≤(n - 1) / 2)(h2:n≠2*count)(S:Nat→RowS):eW count (kK sg count turn S n z) n=S:=by
 unfold eW kK;erw[if_neg h2,if_neg (λz=>Nat.lt_irrefl _ (Nat.lt_of_lt_of_le z.2 h1))]
theorem dH(count:Nat)(num:Nat→Nat→Int)(wd:Nat→Nat→List Nat)(m:Nat):(eR count num wd m).length=m:=by simp
theorem gX(count:Nat)(num:Nat→Nat→Int)(wd:Nat→Nat→List Nat)(m:Nat):eR count num wd m++[cR count num wd m]=eR count num wd (m+1):=by
 unfold eR;erw[List.range_succ,List.map_append];rfl
section
variable {C:Cx} {p:RnP} {led:aF} {I:Addr} {S:Nat→RowS} {m:Nat}
theorem aAk(R:RnOk C p)(hR:qX p.count p.turn p.wd p.num m S):∀i,i<2→(∀c∈(S i).text,c∈alph)∧(S i).text.length≤200∧(S i).pb.length≤7∧(S i).r.length≤7∧(S i).w.length≤70:=λi hi=>by
 refine tW ((hR i hi).ex) λρ h1 h2 h3 h4=>?_
 have hmd:=nY R.H i m;refine jW (kL R.H hi hmd h4) λb1 b2 b3=>?_
 have hc7:=R.H.c7;have hl:=congrArg List.length h3;have hn:=iM R.H hi ρ (Nat.le_trans h1 hmd);rw[List.length_append]at hl;exact⟨b1,b2,b3,by erw[h2,List.length_map,List.length_range];exact eF [.le .p0 .p1,.le .p1 .p2,.le .p2 (.k 7)] (.le .p0 (.k 7)) aB h1 hmd hc7,by exact lz6 [.t 9 (.le .p0 .p1),.t 9 (.le .p1 .p2),.t 9 (.le .p2 (.k 7)),.eq (.a .p3 .p4) .p5,.le .p5 (.l 9 .p0)] (.le .p4 (.k 70)) aB h1 hmd hc7 hl.symm hn.2⟩
theorem pV(R:RnOk C p)(hr:r<2)(h:RowE p.count p.turn p.wd r s):(∀c∈s.text,c∈alph)∧s.text.length≤200∧s.pb.length≤7∧s.r.length≤9:=by
 refine cZ h.ex λρ h1 h2 h3=>?_
 refine jW (kL R.H hr (Nat.le_refl _) h3) λb1 b2 b3=>?_
 have hc7:=R.H.c7;exact⟨b1,b2,b3,by erw[h2,List.length_map,List.length_range];exact bC [.le .p0 (.a .p1 .k2),.le .p1 (.k 7)] (.le .p0 (.k 9)) aB h1 hc7⟩
theorem wQ(N:iO C)(E:NetEnv C p.cl mN)(R:RnOk C p)(hin:vZ=.FunctionDef name args body [] none [] scope none name' pos)
  (hfi:FnIs p.fd args (.stmts body) scope (bS scope cells)) (hm:m≤p.len) (H:RunAt p.P p.cl led S (eR p.count p.num p.wd m)) (hR:qX p.count p.turn p.wd p.num m S) (hl:led p.fs=some (.fn none p.fd)) (hI:led I=some (qY p.fs)) (hIm:I∉dM p.P) (hIs:I∉stat p.P) (hc:CloOk (bS scope cells) Y (szF p.P p.o)) :
  NextW C Y led (k+41) I (PNr p.P p.cl I p.num S (eR p.count p.num p.wd m) led):=by
 have hb:=cT R.H;have hlen:=dH p.count p.num p.wd m;have hok:=aAk R hR;have hL:p.len=bO p.count p.num p.wd:=rfl;refine aA4 N E hin hfi hl hI R.fs hIm hIs hc R.NU H R.D (by erw[hlen];exact eF [.le .p0 .p1,.le .p2 (.k 127),.eq .p1 .p2] (.le .p0 (.k 100000)) aB hm hb.2 hL) (λi hi=>?_) ?_ ?_
 ·refine an5 (hok i hi) λa b c d e=>?_
  exact⟨a,by exact eJ b aB,by exact eJ c aB,by exact eJ d aB⟩
 ·erw[hlen];intro hw;rcases Nat.lt_or_ge m (bO p.count p.num p.wd)with q|q
  ·refine aDH (pT R.H q (hR _ (fM m))) λ_ _ _ _ _ _ _ _ ht=>?_
   refine aL (ht hw) λk' hk' e=>?_
   erw[e];exact⟨Nat.le_trans (R.H.len _ k' (fM m) hk').2 (by decide),λc hc=>List.mem_cons_of_mem _ (R.H.sign _ k' (fM m) hk' c hc)⟩
  ·refine jW (aAj R.H (Nat.le_antisymm hm q) hR) λ_ e _=>?_
   erw[e];exact⟨by decide,λc hc=>by erw[List.mem_singleton.mp hc];exact List.mem_cons_self⟩
 ·erw[hlen];exact Nat.le_trans (hok _ (fM m)).2.2.2.2 (by decide)
theorem wR{k:Nat}{f fw L:Addr}{n:Nat}{led':aF}{cs:List (Str×Addr)}{q:Str}{code:Value}{name name':Str}{args:Arguments}{scope:Scope}{fbody body:List Stmt}{pos0 pos:Pos}{target iter:Expr}{mN:Str→Option Value}{Qf:Fl→aD→aF→Prop}
  (N:iO C) (E:NetEnv C p.cl mN) (R:RnOk C p) (hmw:C.mg "_law_written"=some (.ref fw)) (hfw:GFn C fw (aQ 15)) (hst:aQ 16=.FunctionDef name args fbody [] none [] scope none name' pos0) (hfor:tL=.For target iter body [] pos)
  (hm:m<p.len) (hn:m+n=300) (hR:qX p.count p.turn p.wd p.num m S) (H':RunAt p.P p.cl led' (dA S (1 - m % 2) (dL (p.num (1 - m % 2)) (S (1 - m % 2))).2) (eR p.count p.num p.wd m)) (hl:led' p.fs=some (.fn none p.fd)) (hI:led' I=some (qY p.fs)) (hIm:I∉dM p.P) (hIs:I∉stat p.P) :
  gK C (dF scope L cs q f code) (k+41) target body Qf (cR p.count p.num p.wd m) p.V led' (λvs5 led5=>RnJ p (n - 1) led5 I (.run (cR p.count p.num p.wd m)) vs5):=by
 have hb:=cT R.H;have hlen:=dH p.count p.num p.wd m;have hL:p.len=bO p.count p.num p.wd:=rfl;have hv:=lK R.H (m:=m) (Nat.lt_of_succ_le hm);refine aN (Int.eq_ofNat_of_zero_le (show 0≤cR p.count p.num p.wd m by exact qE [.ile (.k 2) .p0] (.ile (.k 0) .p0) aB hv.1)) λz hz=>?_
 refine cL (jE R.H (m:=m) (Nat.lt_of_succ_le hm) hR) λ_ hstep=>?_
 have hok:=aAk R hR;have hc7:=R.H.c7
 have htx:(dA S (1 - m % 2) (dL (p.num (1 - m % 2)) (S (1 - m % 2))).2 0).text.length≤90000∧(dA S (1 - m % 2) (dL (p.num (1 - m % 2)) (S (1 - m % 2))).2 1).pb.length≤90000:=by
  have hs:∀r,r<2→(dA S (1 - m % 2) (dL (p.num (1 - m % 2)) (S (1 - m % 2))).2 r).text.length≤90000∧(dA S (1 - m % 2) (dL (p.num (1 - m % 2)) (S (1 - m % 2))).2 r).pb.length≤90000:=λr hr=>by
   by_cases hri:r=1 - m % 2
   ·subst hri;erw[bE];refine aDH (pT R.H (Nat.lt_of_succ_le hm) (hR _ hr)) λρ x w q1 q2 q3 q4 q5 _=>?_
    refine jW (kL R.H hr (nY R.H _ m) q5) λ_ b2 b3=>?_
    unfold dL;generalize (if (S (1 - m % 2)).w=[] then gV (p.num (1 - m % 2)) (S (1 - m % 2)) else S (1 - m % 2))=s at *;have e3:pP s=(x,{ s with w:=w }):=by unfold pP;erw[q3]
    erw[e3];exact⟨by show s.text.length≤_;exact eJ b2 aB,by show s.pb.length≤_;exact eJ b3 aB⟩
   ·erw[show dA S (1 - m % 2) (dL (p.num (1 - m % 2)) (S (1 - m % 2))).2 r=S r from if_neg hri];refine lQ (hok r hr) λ_ b2 b3 _=>?_
    exact⟨by exact eJ b2 aB,by exact eJ b3 aB⟩
  exact⟨(hs 0 (by decide)).1,(hs 1 (by decide)).2⟩
 have hzz:(cR p.count p.num p.wd m).toNat=z:=by erw[hz,Int.toNat_natCast]
 rw[hzz]at hstep
 have key:=wI (k:=k+21) (L:=L) (cs:=cs) (q:=q) (code:=code) (f:=f) (o:=p.o) (sg:=p.sg) (count:=p.count) (turn:=p.turn) (bound:=p.len+2) (z:=z) (fs:=p.fs) (Qf:=Qf) (JJ:=λvs5 led5=>RnJ p (n - 1) led5 I (.run (cR p.count p.num p.wd m)) vs5)
  N E hmw hfw hst hfor H' R.D (by erw[hlen];exact bC [.eq (.a .p0 .p1) (.k 300)] (.le .p0 (.k 10000)) aB hn) (nB [.ile .p0 (.k 9),.ieq (.c .p0) .p0] (.le .p0 (.k 1000)) aB hv.2 hz.symm) R.sg (by have:=R.sl;exact eJ this aB) (bQ 3 [_,_] [] [.le (.l 4 .p0) .p1,.le .p1 (.k 127)] (.le .p0 (.k 1000)) aB hb.1 hb.2) R.turn (bC [.le .p0 (.k 127),.eq .p1 .p0] (.le (.a .p1 .k2) (.k 100000)) aB hb.2 hL) htx.1 htx.2
  (λhs=>absurd hs (by erw[hlen];lia)) (λ_ led2 H2 hf2=>by
   rw[hlen,show [(z:Int)]=[cR p.count p.num p.wd m] by erw[hz],gX]at H2;have:=RnJ.run (p:=p) (n:=n - 1) (led:=led2) (I:=I) (m+1) _ (Nat.le_add_left 1 m) (Nat.succ_le_of_lt hm) (Nat.le_antisymm (eF [.eq (.a .p0 .p1) (.k 300),.eq (.a .p2 .k1) .p1] (.le (.a (.a .p0 .k1) .p2) (.k 300)) aB hn (Nat.sub_add_cancel (lN [.lt .p0 .p1,.eq (.k 300) (.a .p0 .p2),.le .p3 (.k 127),.eq .p1 .p3] (.le .k1 .p2) aB hm hn.symm hb.2 hL))) (eF [.eq (.k 300) (.a .p0 .p1),.le .p1 (.a .p2 .k1)] (.le (.k 300) (.a (.a .p0 .k1) .p2)) aB hn.symm (Nat.le_add_of_sub_le (Nat.le_refl _)))) H2 hstep (by erw[hf2 _ R.fs];exact hl) (by erw[hf2 _ hIm];exact hI) hIm hIs
   exact this)
 erw[hz];rw[hz]at key;exact key
theorem aAl{k:Nat}{f fw L:Addr}{n:Nat}{led':aF}{told:List Int}{cs:List (Str×Addr)}{q:Str}{code:Value}{name name':Str}{args:Arguments}{scope:Scope}{fbody body:List Stmt}{pos0 pos:Pos}{target iter:Expr}{mN:Str→Option Value}
  (N:iO C) (E:NetEnv C p.cl mN) (R:RnOk C p) (hmw:C.mg "_law_written"=some (.ref fw)) (hfw:GFn C fw (aQ 15)) (hst:aQ 16=.FunctionDef name args fbody [] none [] scope none name' pos0) (hfor:tL=.For target iter body [] pos)
  (h0:p.stop=0) (ht:told=eR p.count p.num p.wd p.len∨told=eR p.count p.num p.wd p.len++[p.last]) (H':RunAt p.P p.cl led' S told) (hE:∀r,r<2→RowE p.count p.turn p.wd r (S r)) (hn:told=eR p.count p.num p.wd p.len→2≤n) :
  gK C (dF scope L cs q f code) (k+41) target body (λfl vs led=>RnQ p vs led fl) p.last p.V led' (λvs5 led5=>RnJ p n led5 I (.rep p.last) vs5):=by
 have hb:=cT R.H;have hL:p.len=bO p.count p.num p.wd:=rfl;have hc2:=R.H.c2;have hc7:=R.H.c7;have hv:=lK R.H (m:=p.len - 1) (eF [.eq .p0 .p1,.eq (.a .p2 .k1) .p0] (.lt .p2 .p1) aB hL (Nat.sub_add_cancel (eF [.le (.l 4 .p0) .p1,.eq .p1 .p2,.t 4 (.le .k2 .p0)] (.le .k1 .p2) aB hb.1 hL.symm hc2)))
 (refine aN (Int.eq_ofNat_of_zero_le (show 0≤p.last by unfold RnP.last;exact qE [.ile (.k 2) .p0] (.ile (.k 0) .p0) aB hv.1)) λz hz=>?_)
 have hzl:z≤9:=by unfold RnP.last at hz;exact nB [.ile .p0 (.k 9),.ieq (.c .p0) .p0] (.le .p0 (.k 9)) aB hv.2 hz.symm
 have hlen:told.length=p.len∨told.length=p.len+1:=by
  rcases ht with rfl|rfl
  ·exact .inl (dH ..)
  ·refine .inr ?_;erw[List.length_append,dH];rfl
 refine lQ (pV R (by decide) (hE 0 (by decide))) λ_ b02 b03 _=>?_
 refine lQ (pV R (by decide) (hE 1 (by decide))) λ_ b12 b13 _=>?_
 have hsame:eW p.count (kK p.sg p.count p.turn S (told.length+1) z) (told.length+1)=S:=aA5 (by lia) (by lia) S
 have key:=wI (k:=k+21) (L:=L) (cs:=cs) (q:=q) (code:=code) (f:=f) (o:=p.o) (sg:=p.sg) (count:=p.count) (turn:=p.turn) (bound:=p.len+2) (z:=z) (fs:=p.fs) (Qf:=λfl vs led=>RnQ p vs led fl) (JJ:=λvs5 led5=>RnJ p n led5 I (.rep p.last) vs5)
  N E hmw hfw hst hfor H' R.D (by lia) (eJ hzl aB) R.sg (by have:=R.sl;exact eJ this aB) (bQ 3 [_,_] [] [.le (.l 4 .p0) .p1,.le .p1 (.k 127)] (.le .p0 (.k 1000)) aB hb.1 hb.2) R.turn (bC [.le .p0 (.k 127),.eq .p1 .p0] (.le (.a .p1 .k2) (.k 100000)) aB hb.2 hL) (eJ b02 aB) (eJ b13 aB)
  (λhs led2 H2 hf2=>by
   rw[hsame]at H2
   have:told=eR p.count p.num p.wd p.len++[p.last]:=by
    rcases ht with rfl|rfl
    ·rw[dH]at hs;lia
    ·rfl
   refine .mk S rfl ?_ hE;unfold RnP.fin;erw[if_pos h0];rw[this,← hz,List.append_assoc]at H2
   exact H2)
  (λhs led2 H2 hf2=>by
   rw[hsame]at H2
   have:told=eR p.count p.num p.wd p.len:=by
    rcases ht with rfl|rfl
    ·rfl
    ·rw[List.length_append,dH]at hs;exact absurd rfl hs
   have hn2:=hn this;rw[this,← hz]at H2
   exact .rep S hn2 h0 H2 hE)
 erw[hz];rw[hz]at key;exact key
theorem pW(R:RnOk C p){k:Nat}{f fw L:Addr}{n:Nat}{led':aF}{cs:List (Str×Addr)}{q:Str}{code:Value}(hm:m=p.len)(hR:qX p.count p.turn p.wd p.num m S) :
  (dL (p.num (1 - m % 2)) (S (1 - m % 2))).1=p.stop∧∀r,r<2→RowE p.count p.turn p.wd r (dA S (1 - m % 2) (dL (p.num (1 - m % 2)) (S (1 - m % 2))).2 r) :=
 (aAj R.H hm hR).2.2
theorem yN{k:Nat}{f fw L X0:Addr}{cs:List (Str×Addr)}{q:Str}{code:Value}{name name' name2 name2':Str}{args args2:Arguments}{scope scope2:Scope}{fbody body body2:List Stmt}{pos0 pos pos2:Pos}{target iter:Expr}{mN:Str→Option Value}
  (N:iO C) (E:NetEnv C p.cl mN) (R:RnOk C p) (hmw:C.mg "_law_written"=some (.ref fw)) (hfw:GFn C fw (aQ 15)) (hst:aQ 16=.FunctionDef name args fbody [] none [] scope none name' pos0) (hfor:tL=.For target iter body [] pos)
  (hin:vZ=.FunctionDef name2 args2 body2 [] none [] scope2 none name2' pos2) (hfi:FnIs p.fd args2 (.stmts body2) scope2 (bS scope2 (dF scope L cs q f code).env.cells))
  (hclo:∀F X,FOk (dF scope L cs q f code) p.V F X→CloOk (bS scope2 (dF scope L cs q f code).env.cells) (Un F X) (szF p.P p.o)) :
  yI C (dF scope L cs q f code) (k+41) target body (λfl vs led=>RnQ p vs led fl) (λst n vs led I=>RnJ p n led I st vs) X:=by
 have hb:=cT R.H;have hL:p.len=bO p.count p.num p.wd:=rfl;intro i n vs2 led2 I F2 hF2 hd2 hJ;cases hJ with|run m S h1 h2 h3 H hR hl hI hIm hIs =>
 have hlen:=dH p.count p.num p.wd m;refine⟨PNr p.P p.cl I p.num S (eR p.count p.num p.wd m) led2,λF' hF'=>wQ (k:=k) N E R hin hfi h2 H hR hl hI hIm hIs ((hclo _ _ hF2).front hF'),?_,?_,?_,?_⟩
 ·intro d led' o21;(refine cL o21 λo1 _=>?_;clear o21;subst o1);exact⟨_,rfl⟩
 ·intro led' hq;rcases Nat.lt_or_ge m p.len with hm|hm
  ·refine cL (jE R.H (m:=m) (Nat.lt_of_succ_le hm) hR) λe _=>?_
   have hv:=lK R.H (m:=m) (Nat.lt_of_succ_le hm);exfalso;rcases hq with ⟨e2,_⟩| ⟨e2,_⟩
   ·rw[hlen,e]at e2;lia
   ·rw[hlen,e]at e2;injection e2 with e2;lia
  ·obtain rfl:m=p.len:=Nat.le_antisymm h2 hm;refine cL (pW R (k:=k) (f:=f) (fw:=fw) (L:=L) (n:=n) (led':=led') (cs:=cs) (q:=q) (code:=code) rfl hR) λe hE=>?_
   have hs0:p.stop≠0:=λz=>by
    rcases hq with ⟨e2,_⟩| ⟨e2,_⟩
    ·rw[hlen,e,z]at e2;(exfalso;injection e2)
    ·rw[hlen,e,z]at e2;(injection e2 with e1;injection e1 with e2;exfalso;injection e2)
   have hf:p.fin=eR p.count p.num p.wd p.len:=by unfold RnP.fin;erw[if_neg hs0,List.append_nil]
   have H2:RunAt p.P p.cl led' (dA S (1 - p.len % 2) (dL (p.num (1 - p.len % 2)) (S (1 - p.len % 2))).2) p.fin:=by
    erw[hf];rcases hq with ⟨_,H2⟩| ⟨_,_,H2,_⟩
    ·rw[hlen]at H2;exact H2
    ·rw[hlen]at H2;exact H2
   exact .mk _ rfl H2 hE
 ·intro led' o21;(refine lQ o21 λe2 e3 H2 hf2=>?_;clear o21);rw[hlen]at e2 H2;rcases Nat.lt_or_ge m p.len with hm|hm
  ·refine cL (jE R.H (m:=m) (Nat.lt_of_succ_le hm) hR) λe _=>?_
   have hv:=lK R.H (m:=m) (Nat.lt_of_succ_le hm);exfalso;rw[e]at e2;injection e2 with e2;lia
  ·obtain rfl:m=p.len:=Nat.le_antisymm (bC [.le .p0 .p1] (.le .p0 .p1) aB h2) (bC [.le .p0 .p1] (.le .p0 .p1) aB hm);refine cL (pW R (k:=k) (f:=f) (fw:=fw) (L:=L) (n:=n) (led':=led') (cs:=cs) (q:=q) (code:=code) rfl hR) λe hE=>?_
   have h0:p.stop=0:=by rw[e]at e2;injection e2 with e2;exact e2.symm
   exact⟨n - 1,by exact bC [.eq (.a .p0 .k1) .p1] (.lt .p0 .p1) aB (Nat.sub_add_cancel (eF [.le .p0 (.k 127),.eq .p1 .p0,.eq (.k 300) (.a .p1 .p2)] (.le .k1 .p2) aB hb.2 hL h3.symm)),aAl (n:=n - 1) N E R hmw hfw hst hfor h0 (.inl rfl) H2 hE (λ_=>by exact lN [.le .p0 (.k 127),.eq .p1 .p0,.eq (.k 300) (.a .p1 .p2),.le .p2 (.a .p3 .k1)] (.le .k2 .p3) aB hb.2 hL h3.symm (Nat.le_add_of_sub_le (Nat.le_refl _)))⟩
 ·intro j led' hj0 hj1 o21;(refine lQ o21 λe2 e3 H2 hf2=>?_;clear o21);rw[hlen]at e2 H2 e3;rcases Nat.lt_or_ge m p.len with hm|hm
  ·refine cL (jE R.H (m:=m) (eF [.eq .p0 .p1,.lt .p2 .p0] (.lt .p2 .p1) aB hL hm) hR) λe _=>?_
   rw[e]at e2;injection e2 with e2
   subst e2;exact⟨n - 1,by exact bC [.eq (.a .p0 .k1) .p1] (.lt .p0 .p1) aB (Nat.sub_add_cancel (lN [.le .p0 (.k 127),.eq .p1 .p0,.eq (.k 300) (.a .p2 .p3),.lt .p2 .p1] (.le .k1 .p3) aB hb.2 hL h3.symm hm)),wR N E R hmw hfw hst hfor hm h3 hR H2 (by erw[hf2 _ R.fs];exact hl) (by erw[hf2 _ hIm];exact hI) hIm hIs⟩
  ·obtain rfl:m=p.len:=Nat.le_antisymm (bC [.le .p0 .p1] (.le .p0 .p1) aB h2) (bC [.le .p0 .p1] (.le .p0 .p1) aB hm);refine cL (pW R (k:=k) (f:=f) (fw:=fw) (L:=L) (n:=n) (led':=led') (cs:=cs) (q:=q) (code:=code) rfl hR) λe hE=>?_
   exfalso;rw[e]at e2 e3;injection e2 with e2
   rcases R.stop with q|q|q
   ·exact hj0 (e2.trans q)
   ·exact hj1 (e2.trans q)
   ·exact e3 q
end
set_option tactic.hygienic false
set_option linter.unusedSimpArgs false
theorem wS{k:Nat}{a:Addr}{st:Stmt}{name name':Str}{args:Arguments}{body:List Stmt}{scope:Scope}{pos:Pos}{ds:List D}{Q:D→aF→Prop}{c:Addr}{q:Str}(h:GFnC C a st c q)
  (hst:st=.FunctionDef name args body [] none [] scope none name' pos) (vs:aD) (hok:fK args (vs.map (·.1)) scope=true) (hds:ds=vs.map (·.2))
  (hb:∀L cs,WT C led (dF scope L cs (q++".<locals>.") a (.ref c)) vs k (execs body (dF scope L cs (q++".<locals>.") a (.ref c)).env) (Back Q)):CodeW C Y led (k+1) (.ref a) ds Q :=
 let ⟨fd,h,e1,e2⟩:=h;gP (h.1 Y led) (h.is hst) hok hds CloOk.nil rfl λL cs _ F X hF=>by rw[e1,e2]at hF ⊢;exact hb L cs F X hF.toNil
noncomputable def aB3:Pos:=pC vZ
noncomputable abbrev two(a b:Addr)(i:Nat):Addr:=if i=0 then a else b
noncomputable def mW(A:Nat→LxA)(text:List Nat)(w:List Nat):List (Addr×M):=[((A 0).dx,.ns1 (gF (A 0) 1)),((A 0).pg,.list (text.map iS)),((A 0).pb,.list []),((A 1).dx,.ns1 (gF (A 1) 1)),((A 1).pg,.list [iS 46]),((A 1).pb,.list [bB w])]
noncomputable def aB4(A:Nat→LxA):List Addr:=[(A 0).x,(A 0).st,(A 0).sd,(A 0).rf,(A 0).cp,(A 1).x,(A 1).st,(A 1).sd,(A 1).rf,(A 1).cp]
structure LexP (cl:Addr) (A:Nat→LxA) (led:aF) (text w:List Nat):Prop where
 ok:∀i,i<2→LexOk led (A i) cl
 at_:LedAt led (mW A text w)
 nd:((mW A text w).map (·.1)).Nodup
 ns:∀a∈(mW A text w).map (·.1),a∉aB4 A
theorem LexP.stat(h:LexP cl A led text w):∀a∈aB4 A,led a≠none:=by
 intro a ha hn;have h0:=h.ok 0 (by decide);have h1:=h.ok 1 (by decide);refine aN h0.st λ_ s0=>?_
 refine aN h1.st λ_ s1=>?_
 obtain ⟨_,_,_,_,_,_,_,_,r0,_⟩:=h0.rf;obtain ⟨_,_,_,_,_,_,_,_,r1,_⟩:=h1.rf;unfold aB4 at ha;simp only[List.mem_cons,List.not_mem_nil,or_false]at ha;rcases ha with rfl|rfl|rfl|rfl|rfl|rfl|rfl|rfl|rfl|rfl
 ·exact aH hn h0.x
 ·exact aH hn s0
 ·exact aH hn h0.sd
 ·exact aH hn r0
 ·exact aH hn h0.cp
 ·exact aH hn h1.x
 ·exact aH hn s1
 ·exact aH hn h1.sd
 ·exact aH hn r1
 ·exact aH hn h1.cp
theorem aC6(h:LexP cl A led text w)(hf:∀a∈[W0,W1,R0,R1,t],led a=none)(hn:[W0,W1,R0,R1,t].Nodup):RunD ⟨A,two W0 W1,two R0 R1,t⟩:=by
 have hfar:∀a∈[W0,W1,R0,R1,t],a∉(mW A text w).map (·.1):=λa ha hm=>by
  (refine aL (List.mem_map.mp hm) λp hp o1=>?_;subst o1)
  exact aH (hf _ ha) (h.at_ p hp)
 have h6:=h.nd;simp only[mW,List.map_cons,List.map_nil,List.nodup_cons,List.mem_cons,List.not_mem_nil,or_false,not_or,not_false_eq_true,and_true,List.nodup_nil]at h6;simp only[List.nodup_cons,List.mem_cons,List.not_mem_nil,or_false,not_or,not_false_eq_true,and_true,List.nodup_nil]at hn;simp only[mW,List.map_cons,List.map_nil,List.mem_cons,List.not_mem_nil,or_false,not_or,forall_eq_or_imp,forall_eq]at hfar
 (refine an5 h6 λo1 o2 o3 o4 e1=>?_;clear h6;refine an5 o1 λa1 a2 a3 a4 a5=>?_;clear o1;refine lQ o2 λb1 b2 b3 b4=>?_;clear o2;refine jW o3 λc1 c2 c3=>?_;clear o3;refine cL o4 λd1 d2=>?_;clear o4)
 (refine lQ hn λo1 o2 o3 j1=>?_;clear hn;refine lQ o1 λf1 f2 f3 f4=>?_;clear o1;refine jW o2 λg1 g2 g3=>?_;clear o2;refine cL o3 λi1 i2=>?_;clear o3)
 (refine an5 hfar λo1 o2 o3 o4 o5=>?_;clear hfar;refine an6 o1 λk1 k2 k3 k4 k5 k6=>?_;clear o1;refine an6 o2 λl1 l2 l3 l4 l5 l6=>?_;clear o2;refine an6 o3 λm1 m2 m3 m4 m5 m6=>?_;clear o3;refine an6 o4 λn1 n2 n3 n4 n5 n6=>?_;clear o4;refine an6 o5 ?_;clear o5;intro o1 o2 o3 o4 o5 o6)
 refine⟨?_,λa ha hs=>?_⟩
 ·show [(A 0).dx,(A 0).pg,(A 0).pb,W0,R0,(A 1).dx,(A 1).pg,(A 1).pb,W1,R1,t].Nodup
  simp only[List.nodup_cons,List.mem_cons,List.not_mem_nil,or_false,not_or,not_false_eq_true,and_true,List.nodup_nil];refine⟨⟨a1,a2,Ne.symm k1,Ne.symm m1,a3,a4,a5,Ne.symm l1,Ne.symm n1,Ne.symm o1⟩,⟨b1,Ne.symm k2,Ne.symm m2,b2,b3,b4,Ne.symm l2,Ne.symm n2,Ne.symm o2⟩,⟨Ne.symm k3,Ne.symm m3,c1,c2,c3,Ne.symm l3,Ne.symm n3,Ne.symm o3⟩,⟨f2,k4,k5,k6,f1,f3,f4⟩,⟨m4,m5,m6,Ne.symm g1,i1,i2⟩,⟨d1,d2,Ne.symm l4,Ne.symm n4,Ne.symm o4⟩,⟨e1,Ne.symm l5,Ne.symm n5,Ne.symm o5⟩,⟨Ne.symm l6,Ne.symm n6,Ne.symm o6⟩,⟨g2,g3⟩,j1⟩
 ·have ha2:a∈[W0,W1,R0,R1,t]∨a∈(mW A text w).map (·.1):=by
   have:a∈[(A 0).dx,(A 0).pg,(A 0).pb,W0,R0,(A 1).dx,(A 1).pg,(A 1).pb,W1,R1,t]:=ha;simp only[List.mem_cons,List.not_mem_nil,or_false]at this;simp only[mW,List.map_cons,List.map_nil,List.mem_cons,List.not_mem_nil,or_false];rcases this with q|q|q|q|q|q|q|q|q|q|q<;>simp[q]
  rcases ha2 with q|q
  ·exact h.stat a hs (hf a q)
  ·exact h.ns a q hs
theorem aA6(h:LexP cl A led text w)(hl:Less led led2)(h1:led2 W0=some (.list []))(h2:led2 W1=some (.list []))(h3:led2 R0=some (.list []))(h4:led2 R1=some (.list []))(h5:led2 t=some (.list [])) :
  RunAt ⟨A,two W0 W1,two R0 R1,t⟩ cl led2 (λr=>if r=0 then ⟨1,text,[],[],[]⟩ else ⟨1,[46],[w],[],[]⟩) []:=by
 refine⟨λi hi=>(h.ok i hi).less hl,λp hp=>?_⟩;have ha:=h.at_.less hl;have q1:=ha.get (i:=0) rfl;have q2:=ha.get (i:=1) rfl;have q3:=ha.get (i:=2) rfl;have q4:=ha.get (i:=3) rfl;have q5:=ha.get (i:=4) rfl;have q6:=ha.get (i:=5) rfl;have hp:p∈[((A 0).dx,M.ns1 (gF (A 0) 1)),((A 0).pg,M.list (text.map iS)),((A 0).pb,M.list []),(W0,M.list []),(R0,M.list []),((A 1).dx,M.ns1 (gF (A 1) 1)),((A 1).pg,M.list [iS 46]),((A 1).pb,M.list [bB w]),(W1,M.list []),(R1,M.list []),(t,M.list [])]:=hp;simp only[List.mem_cons,List.not_mem_nil,or_false]at hp;rcases hp with rfl|rfl|rfl|rfl|rfl|rfl|rfl|rfl|rfl|rfl|rfl<;>assumption
theorem yO(H:SimOk sg count turn wd num stop):qX count turn wd num 0 (λr=>if r=0 then ⟨1,aR (wd 0 0) turn,[],[],[]⟩ else ⟨1,[46],[wd 1 0],[],[]⟩):=by
 have hc2:=H.c2;intro r hr;rcases aX hr with rfl|rfl
 ·refine⟨0,Nat.zero_le _,rfl,rfl,?_⟩;unfold nX;erw[if_pos rfl];have m0:bD count 0 0=1:=by unfold bD;exact Nat.le_antisymm (Nat.max_le.mpr ⟨(bQ 0 [] [] [] (.le .k1 .k1) aB),(bQ 1 [_,_,_] [] [.t 2 (.le .p0 .p1),.le (.r .p1 (nat_lit 2)) .p2,.le .p2 (.a (.k 0) .k1)] (.le .p0 .k1) aB (Nat.min_le_right _ _) (Nat.div_mul_le_self _ _) (Nat.sub_le _ _))⟩) (lke (Nat.le_max_left _ _) aB)
  have d0:decide (2*count≤0)=false:=decide_eq_false (Nat.not_le.mpr (bF [.t 2 (.le .k2 .p0)] (.lt (.k 0) (.l 2 .p0)) aB hc2));erw[m0,d0,if_pos (Nat.zero_le _),Nat.min_eq_left (Nat.zero_le _)];refine⟨rfl,?_,rfl⟩;show aR (wd 0 0) turn=eQ turn wd 0 1++[]
  erw[List.append_nil,lJ (by decide),mV,List.append_nil];rfl
 ·refine⟨0,Nat.zero_le _,rfl,rfl,?_⟩;unfold nX;erw[if_neg (show ¬(1:Nat)=0 by decide)];have m0:bD count 1 0=1:=by unfold bD;exact Nat.le_antisymm (Nat.max_le.mpr ⟨(bQ 0 [] [] [] (.le .k1 .k1) aB),(bQ 1 [_,_,_] [] [.t 2 (.le .p0 .p1),.le (.r .p1 (nat_lit 2)) .p2,.eq (.a .p2 .k1) (.a (.k 0) .k1)] (.le .p0 .k1) aB (Nat.min_le_right _ _) (Nat.div_mul_le_self _ _) (Nat.sub_add_cancel (bQ 0 [] [] [] (.le .k1 (.a (.k 0) .k1)) aB)))⟩) (lke (Nat.le_max_left _ _) aB)
  erw[m0,if_pos (Nat.zero_le _)];exact⟨rfl,rfl,rfl⟩
theorem NextW.mono(h:NextW C Y led k a P)(i:∀o led',P o led'→P' o led'):NextW C Y led k a P':=by
 intro A fz G s hA S;refine wpAny_mono (h A fz G s hA S) (λo s1 p=>?_) λ_ _ x=>x
 cases o with
 | none=>cases p with|mk fz1 G1 led1 a b c q=>exact .mk fz1 G1 led1 a b c (i _ _ q)
 | some v=>cases p with|mk fz1 G1 d1 led1 a b c e q=>exact .mk fz1 G1 d1 led1 a b c e (i _ _ q)
theorem RunAt.fresh(H:RunAt P cl led S told)(ha:led a=none):a∉dM P∧a∉stat P:=by
 refine⟨λhm=>?_,λhs=>?_⟩
 ·rw[← iL P S told]at hm
  (refine aL (List.mem_map.mp hm) λp hp o1=>?_;subst o1)
  exact aH ha (H.at_ p hp)
 ·have h0:=H.ok 0 (by decide);have h1:=H.ok 1 (by decide);refine aN h0.st λ_ s0=>?_
  refine aN h1.st λ_ s1=>?_
  obtain ⟨_,_,_,_,_,_,_,_,r0,_⟩:=h0.rf;obtain ⟨_,_,_,_,_,_,_,_,r1,_⟩:=h1.rf;unfold stat at hs;simp only[List.mem_cons,List.not_mem_nil,or_false]at hs;rcases hs with rfl|rfl|rfl|rfl|rfl|rfl|rfl|rfl|rfl|rfl
  ·exact aH ha h0.x
  ·exact aH ha s0
  ·exact aH ha h0.sd
  ·exact aH ha r0
  ·exact aH ha h0.cp
  ·exact aH ha h1.x
  ·exact aH ha s1
  ·exact aH ha h1.sd
  ·exact aH ha r1
  ·exact aH ha h1.cp
noncomputable def aEp(p:RnP)(r ρ:Nat)(s:RowS):Prop:=s.r=(List.range ρ).map (nW p.count p.wd r)∧nX p.count p.turn p.wd r p.count true ρ s
structure RdI (p:RnP) (i:Nat) (vs:aD) (led':aF):Prop where
 vs:vs=p.V
 ex:∃S,RunAt p.P p.cl led' S p.fin∧∀r,r<2→∃ρ,ρ≤p.count+2∧(r<i→ρ=p.count+2)∧aEp p r ρ (S r)
structure RdW (p:RnP) (i n:Nat) (vs:aD) (led':aF):Prop where
 vs:vs=(("row":Str),aP i)::p.V
 ex:∃S,RunAt p.P p.cl led' S p.fin∧(∃ρ,ρ+n=p.count+2∧aEp p i ρ (S i))∧∀r,r<2→r≠i→∃ρ,ρ≤p.count+2∧(r<i→ρ=p.count+2)∧aEp p r ρ (S r)
set_option maxHeartbeats 4000000 in
theorem tO
  (E0:GiEnv C ag) (hmg:C.mg "_grouping_intervals"=some (.ref ag)) (E:NetEnv C cl mN) (hmw:C.mg "_law_written"=some (.ref fw)) (hfw:GFn C fw (aQ 15)) (h:GFnC C f (aQ 16) c "_law_run") (hct:C.ct c Pc) (hdq:C.dq c aB3="_law_run.<locals>._law_size")
  (H:SimOk sg count turn wd num stop) (NU:NumOk C o (46::sg) num) (hsg:sg≠[]) (hsl:sg.length≤8) (hturn:turn≤1000) (hstop:stop=0∨stop=127∨stop = -1) (HL:LexP cl A led (aR (wd 0 0) turn) (wd 1 0))
  (hq:∀p:RnP,p.sg=sg→p.count=count→p.turn=turn→p.wd=wd→p.num=num→p.stop=stop→p.P.A=A→RunD p.P→∀S led',RunAt p.P cl led' S p.fin→(∀r,r<2→(S r).r=(List.range (count+2)).map (nW count wd r)∧nX count turn wd r count true (count+2) (S r))→Q (.tup [.ref p.P.t,aBU p.P]) led') :
  CallW C Y led (k+100) (.ref f) [.ref (A 0).pg,.lst ((List.range 2).map λi=>.ref (A i).x),bB sg,wA o,aP count,aP turn,aP (bO count num wd+2)] Q:=by
 have N:=E0.N;refine (wS h rfl [("page",.ref (A 0).pg),("lexers",.lst ((List.range 2).map λi=>.ref (A i).x)),("signs",bB sg),("numbers",wA o),("count",aP count),("turn",aP turn),("bound",aP (bO count num wd+2))] rfl rfl λL cs=>?_).call;refine WT.cons (WS.t ?_);walk_at "v";refine WE.list ?_;walk_at "v";refine WE.listM ?_;walk_at "v";refine⟨by exact Nat.zero_le _,λW0 hW0=>?_⟩;walk_at "v";refine WE.listM ?_;walk_at "v";refine⟨by exact Nat.zero_le _,λW1 hW1=>?_⟩;walk_at "v";refine⟨by exact Nat.le_of_ble_eq_true rfl,?_⟩;walk_at "v";refine WE.list ?_;walk_at "v";refine WE.listM ?_;walk_at "v";refine⟨by exact Nat.zero_le _,λR0 hR0=>?_⟩;walk_at "v";refine WE.listM ?_;walk_at "v";refine⟨by exact Nat.zero_le _,λR1 hR1=>?_⟩;walk_at "v";refine⟨by exact Nat.le_of_ble_eq_true rfl,?_⟩;walk_at "v";refine WE.listM ?_;walk_at "v";refine⟨by exact Nat.zero_le _,λt ht=>?_⟩;walk_at "v";refine⟨by exact Nat.le_of_ble_eq_true rfl,?_⟩;walk_at "v";have w0:=(aK hW1).1;have hW1:=(aK hW1).2;have r0:=(aK hR0).1;have hR0:=(aK hR0).2;have r1:=(aK hR0).1;have hR0:=(aK hR0).2;have s0:=(aK hR1).1;have hR1:=(aK hR1).2;have s1:=(aK hR1).1;have hR1:=(aK hR1).2;have s2:=(aK hR1).1;have hR1:=(aK hR1).2;have t0:=(aK ht).1;have ht:=(aK ht).2;have t1:=(aK ht).1;have ht:=(aK ht).2;have t2:=(aK ht).1;have ht:=(aK ht).2;have t3:=(aK ht).1;have ht:=(aK ht).2;have D:RunD ⟨A,two W0 W1,two R0 R1,t⟩:=aC6 HL (by simp[*]) (by simp[Ne.symm w0,Ne.symm r0,Ne.symm r1,Ne.symm s0,Ne.symm s1,Ne.symm s2,Ne.symm t0,Ne.symm t1,Ne.symm t2,Ne.symm t3])
 have HS:=aA6 HL (led2:=upd (upd (upd (upd (upd led W0 (.list [])) W1 (.list [])) R0 (.list [])) R1 (.list [])) t (.list [])) (W0:=W0) (W1:=W1) (R0:=R0) (R1:=R1) (t:=t) ((((((Less.refl led).upd hW0 _).upd hW1 _).upd hR0 _).upd hR1 _).upd ht _)
  (by simp[upd, *,Ne.symm w0,Ne.symm r0,Ne.symm r1,Ne.symm s0,Ne.symm s1,Ne.symm s2,Ne.symm t0,Ne.symm t1,Ne.symm t2,Ne.symm t3]) (by simp[upd, *,Ne.symm w0,Ne.symm r0,Ne.symm r1,Ne.symm s0,Ne.symm s1,Ne.symm s2,Ne.symm t0,Ne.symm t1,Ne.symm t2,Ne.symm t3])
  (by simp[upd, *,Ne.symm w0,Ne.symm r0,Ne.symm r1,Ne.symm s0,Ne.symm s1,Ne.symm s2,Ne.symm t0,Ne.symm t1,Ne.symm t2,Ne.symm t3]) (by simp[upd, *,Ne.symm w0,Ne.symm r0,Ne.symm r1,Ne.symm s0,Ne.symm s1,Ne.symm s2,Ne.symm t0,Ne.symm t1,Ne.symm t2,Ne.symm t3]) (aA ..)
 clear hW0 hW1 hR0 hR1 ht;generalize upd (upd (upd (upd (upd led W0 (M.list [])) W1 (M.list [])) R0 (M.list [])) R1 (M.list [])) t (M.list [])=led2 at *;refine WT.cons (WS.t ?_);refine nO rfl hct (hdq.trans ?_) λfs fd hi hfs=>?_
 ·with_unfolding_all rfl
 walk_at "v";have hfsf:=HS.fresh hfs;have HS2:=HS.far D hfsf.2 hfsf.1 (.fn none fd);have hfs2:upd led2 fs (.fn none fd) fs=some (.fn none fd):=aA ..;generalize upd led2 fs (M.fn none fd)=led3 at *;clear hfs w0 r0 r1 s0 s1 s2 t0 t1 t2 t3 hW1 HS
 let p:RnP:=⟨⟨A,two W0 W1,two R0 R1,t⟩,cl,fs,fd,o,sg,count,turn,wd,num,stop⟩
 have R:RnOk C p:=⟨H,D,NU,hsg,hsl,hturn,hfsf.1,hstop⟩;have hR0:qX p.count p.turn p.wd p.num 0 _:=yO H;have hqp:=λS led'=>hq p rfl rfl rfl rfl rfl rfl rfl D S led'
 have hb:=cT H;refine WT.sub (vs:=p.V) ?_ rfl;generalize hS0:(λr=>if r=0 then (⟨1,aR (wd 0 0) turn,[],[],[]⟩:RowS) else ⟨1,[46],[wd 1 0],[],[]⟩)=S0 at *;refine WT.cons ?_;intro F X hF hd AA fz G s hA hfr S
 (refine aN hfr λl hfr2=>?_;clear hfr)
 refine gI (aBZ (k:=k+50+41) (N:=301) (EX:=No) (Q:=λfl vs led=>RnQ p vs led fl) (λst n vs led I=>RnJ p n led I st vs) E0 hmg rfl hF hd (hA.mono (bF [] (.le (.a (.a (.a .p0 (.k 50)) (.k 41)) (.k 4)) (.a .p0 (.k 99))) aB)) hfr2 S ?_ ?_ ?_ rfl (λ_ _=>by with_unfolding_all rfl) (λ_=>by with_unfolding_all rfl) (by with_unfolding_all rfl)) λfl s1 fz1 G1 F1 vs1 led1 fl' l1 g1 e1 hF1 hd1 S1 h1=>?_
 ·refine aI ?_;walk_at "v";refine KcY.iterF hfs2 λI hI=>?_
  have hIf:=HS2.fresh hI;have HS3:=HS2.far D hIf.2 hIf.1 (qY fs);have hne:fs≠I:=λe=>aH hI (e▸hfs2)
  have hfs3:upd led3 I (qY fs) fs=some (.fn none fd):=by erw[aG _ _ hne];exact hfs2
  have hI3:upd led3 I (qY fs) I=some (qY fs):=aA ..;have hpos:0<bO count num wd:=Nat.lt_of_lt_of_le (by have:=H.c2;exact bF [.t 4 (.le .k2 .p0)] (.lt (.k 0) (.l 4 .p0)) aB this) hb.1;have e0:=(jE R.H (m:=0) hpos hR0).1;have hv:=lK R.H (m:=0) hpos;refine⟨λI' led4=>I'=I∧led4=upd led3 I (qY fs),λY=>aBD hI3 ⟨rfl,rfl⟩,λI' o led'=>I'=I∧PNr p.P p.cl I' p.num S0 [] (upd led3 I (qY fs)) o led',?_,?_,?_,?_,?_⟩
  ·intro I' led4 o21;(refine cL o21 λo1 o2=>?_;clear o21;subst o1;subst o2);intro F' hF';exact (wQ (p:=p) (m:=0) (k:=k+50) E0.N E R rfl hi (Nat.zero_le _) HS3 hR0 hfs3 hI3 hIf.1 hIf.2 ((hF.clo (fv:=szF p.P p.o) rfl rfl rfl).front hF')).mono λ_ _ q=>⟨rfl,q⟩
  ·intro I' d led' o21;(refine jW o21 λ_ o1 _=>?_;clear o21;subst o1);exact⟨_,rfl⟩
  ·rintro I' led' hq0;exfalso;rcases hq0 with ⟨_,e2,_⟩| ⟨_,e2,_⟩
   ·exact absurd (show (2:Int)≤-1 from (e0.symm.trans e2)▸hv.1) (by decide)
   ·injection e2 with e2;exact absurd (show (127:Int)≤9 from (e0.symm.trans e2.symm)▸hv.2) (by decide)
  ·intro I' led' fz' G' s' e o21;(refine jW o21 λ_ e2 _=>?_;clear o21);exfalso;injection e2 with e2;exact absurd (show (2:Int)≤0 from (e0.symm.trans e2.symm)▸hv.1) (by decide)
  ·intro I' j led' hj0 hj1 o21;(refine an5 o21 λo1 e2 e3 H4 hf4=>?_;clear o21;subst o1);injection e2 with e2
   obtain rfl:j=cR count num wd 0:=e2.trans e0;exact⟨299,by decide,wR (p:=p) (m:=0) (n:=300) (k:=k+50) E0.N E R hmw hfw rfl rfl hpos rfl hR0 H4 (by erw[hf4 _ hfsf.1];exact hfs3) (by erw[hf4 _ hIf.1];exact hI3) hIf.1 hIf.2⟩
 ·exact yN (k:=k+50) (X0:=0) E0.N E R hmw hfw rfl rfl rfl hi λF' X' hF'=>hF'.clo (fv:=szF p.P p.o) rfl rfl rfl
 ·intro i n vs2 led4 I hJ;cases hJ with|rep S' hn h0 H4 hE =>
  exact⟨n - 1,by exact Nat.sub_one_lt_of_lt hn,aAl (p:=p) (k:=k+50) E0.N E R hmw hfw rfl rfl h0 (.inr rfl) H4 hE (λz=>by
   have:=congrArg List.length z
   rw[List.length_append]at this;simp at this)⟩
 ·cases h1 with|mk S' hsub H4 hE =>
  refine⟨fz1,G1,F1,vs1,led1,.next,l1,g1,e1,hF1,hd1,S1,?_⟩;refine WT.sub (vs:=p.V) ?_ hsub;clear hfs2 HS2 hR0 e1 S1 hF1 hd1 hd hF S hi;refine aN E.gt λfgt mg=>?_
  refine cZ mg.obj λog go1 go2 go3=>?_
  have hc7:count≤7:=H.c7;refine WT.cons (WS.t (aBo ?_));refine WE.list ?_;walk_at "v";refine⟨by exact Nat.le_of_ble_eq_true rfl,?_⟩;refine⟨[.int 0,.int 1],RdI p,λY=>IterOf.lst,⟨p.V,rfl,rfl,S',H4,λr hr=>?_⟩,?_,?_⟩
  ·refine cZ ((hE r hr).ex) λρ q1 q2 q3=>?_
   exact⟨ρ,q1,λz=>absurd z (Nat.not_lt_zero _),q2,q3⟩
  ·intro i x vs2 led4 hx o21;obtain ⟨rfl,S2,H5,hr5⟩:=o21
   (refine cL (lG hx) λo1 hi=>?_;subst o1)
   walk_at "v";refine WS.sub (vs:=(("row":Str),aP i)::p.V) ?_ rfl;refine cZ (hr5 i hi) λρ0 q1 q2 q3=>?_
   refine iU (RdW p i) (count+2 - ρ0) ⟨rfl,S2,H5,⟨ρ0,by show ρ0+(count+2 - ρ0)=count+2;have:ρ0≤count+2:=q1;exact Nat.add_sub_of_le q1,q3⟩,λr hr hri=>hr5 r hr⟩ ?_;intro n vs3 led5 o21;obtain ⟨rfl,S3,H6,⟨ρ,hρ,hr6⟩,ho6⟩:=o21;have hρ:ρ+n=count+2:=hρ;have hl6:(((S3 i).r).map bB).length=ρ:=by erw[List.length_map,hr6.1,List.length_map,List.length_range]
   walk_at "v";refine aI ?_;walk_at "v";refine SuY.lst (Int.natCast_nonneg i) (lO hi aB) (bK hi) ?_;walk_at "v";refine KcY.len_ref (H6.r hi) (by erw[hl6];lia) ?_;erw[hl6];walk_at "v";refine⟨λhb=>?_,λhb=>?_⟩
   ·have hlt:ρ<count+2:=by have:=of_decide_eq_true hb;lia
    have hok:=pV R hi ⟨ρ,by show ρ≤count+2;exact Nat.le_of_succ_le hlt,hr6.1,hr6.2⟩;refine cL (aA3 R.H hi hr6.1 hr6.2) λe1 e2=>?_
    walk_at "v";refine cQ (pl:=_) ?_;walk_at "v";refine SuY.lst (Int.natCast_nonneg i) (lO hi aB) (bK hi) ?_;refine⟨_,_,λY=>GetM.append (H6.r hi),?_⟩;walk_at "v";refine cQ (pl:=_) ?_;walk_at "v";refine SuY.lst (Int.natCast_nonneg i) (lO hi aB) (bK hi) ?_;refine⟨_,_,λY=>GetM.inst E.cls (H6.ok i hi).x (H6.dx hi) mg.at_ go1 go3 go2 ol6 rfl,?_⟩;walk_at "v";refine Y1 (λ_ z9=>⟨mg.fn.keep,(aAc (k:=k) N E mg.fn H6 D hi hok.1 (by have:=hok.2.1;exact eJ hok.2.1 aB) (by have:=hok.2.2.1;exact eJ hok.2.2.1 aB) z9).up (bF [] (.le (.a .p0 (.k 10)) (.a .p0 (.k 99))) aB)⟩) ?_;intro led6 H7 hf7;have hr7:=H7.r hi;rw[bE,aBT]at hr7;walk_at "v";refine KcY.append hr7 (by erw[hl6];lia) ?_;refine⟨rfl,?_⟩;have H8:=H7.setR D hi ((S3 i).r++[bR (S3 i)]);rw[fP,bE,List.map_append]at H8;walk_at "v";refine⟨n - 1,(("row":Str),aP i)::p.V,by lia,rfl,rfl,_,H8,⟨ρ+1,by show ρ+1+(n - 1)=count+2;lia,?_,?_⟩,λr hr hri=>?_⟩
    ·erw[bE];show (S3 i).r++[bR (S3 i)]=_
     erw[hr6.1,e1,List.range_succ,List.map_append];rfl
    ·erw[bE];unfold nX at e2 ⊢;exact e2
    ·erw[show dA S3 i _ r=S3 r from if_neg hri];exact ho6 r hr hri
   ·have hge:ρ=count+2:=by have:=of_decide_eq_false hb;lia
    walk_at "v";refine⟨p.V,rfl,rfl,S3,H6,λr hr=>?_⟩;by_cases hri:r=i
    ·subst hri;exact⟨ρ,by show ρ≤count+2;exact Nat.le_of_eq hge,λ_=>hge,hr6⟩
    ·refine cZ (ho6 r hr hri) λρ' w1 w2 w3=>?_
     exact⟨ρ',w1,λz=>w2 (by lia),w3⟩
  ·intro vs2 led4 o21;obtain ⟨rfl,S2,H5,hr5⟩:=o21;refine WS.t ?_;walk_at "v";refine⟨by exact Nat.le_of_ble_eq_true rfl,?_⟩;refine hqp S2 led4 H5 λr hr=>?_
   refine cZ (hr5 r hr) λρ w1 w2 w3=>?_
   obtain rfl:=w2 hr;exact w3
set_option tactic.hygienic false
noncomputable def lawB:List Stmt:=fC (aQ 21)
noncomputable def fJ(n:Nat):Stmt:=lawB.getD n (.Pass ⟨0,0,0,0⟩)
noncomputable def aB5:Scope:=sZ (aQ 21)
noncomputable abbrev aY(f:Addr)(z:GiZ):Fe:=dF aB5 z.L z.cs z.q f z.code
theorem gA(d:D)(h:d.pure=true):d.eqv d=true:=PySem.SeqAt.eqv_refl _ (fB d h)
theorem pX{α:Type}(l:List α)(a b:Nat)(hb:b≤l.length):((sliceRange a b 1).filterMap (l[·]?))=(l.drop a).take (b - a):=by
 erw[sliceRange_one,List.filterMap_map]
 have key:∀n a,a+n≤l.length→(List.range n).filterMap ((λx=>l[x]?)∘(a+·))=(l.drop a).take n:=by
  intro n;induction n with
  | zero=>intro a _;simp
  | succ n ih =>
   intro a h;erw[List.range_succ,List.filterMap_append,ih a (Nat.le_of_succ_le h),List.take_add_one]
   congr 1
   simp only[List.filterMap_cons,Function.comp_apply,List.filterMap_nil,List.getElem?_drop];cases l[a+n]?<;>rfl
 by_cases h:a≤b
 ·exact key _ _ (lN [.le .p0 .p1,.eq (.a .p2 .p3) .p0] (.le (.a .p3 .p2) .p1) aB hb (Nat.sub_add_cancel (bC [.le .p0 .p1] (.le .p0 .p1) aB h)))
 ·have:b - a=0:=Nat.le_antisymm (bF [.eq .p0 (.k 0)] (.le .p0 (.k 0)) aB (Nat.sub_eq_zero_of_le (bC [.lt .p0 .p1] (.le .p0 .p1) aB (Nat.lt_of_not_le h)))) (bF [] (.le (.k 0) .p0) aB);erw[this];simp
theorem kM(xs:List D)(b:Nat):iW xs none (some (b:Int)) none=xs.take b:=by
 have e:sliceBounds none (some (b:Int)) none xs.length=(((0:Nat):Int),((min b xs.length:Nat):Int),1):=by
  unfold sliceBounds;simp only[Option.getD_none,show (1:Int) > 0 by decide,if_true];erw[if_neg (Int.not_ofNat_neg b)]
  congr 1
  congr 1;lia
 unfold iW;erw[e,pX _ _ _ (Nat.min_le_right _ _),List.drop_zero,Nat.sub_zero];by_cases h:b≤xs.length
 ·erw[Nat.min_eq_left h]
 ·erw[Nat.min_eq_right (Nat.le_of_not_ge h),List.take_length,List.take_of_length_le (Nat.le_of_not_ge h)]
theorem pY(xs:List D)(a:Nat):iW xs (some (a:Int)) none none=xs.drop a:=by
 have e:sliceBounds (some (a:Int)) none none xs.length=(((min a xs.length:Nat):Int),((xs.length:Nat):Int),1):=by
  unfold sliceBounds;simp only[Option.getD_none,show (1:Int) > 0 by decide,if_true];erw[if_neg (Int.not_ofNat_neg a)]
  congr 1;lia
 unfold iW;erw[e,pX _ _ _ (Nat.le_refl _),List.take_of_length_le (by erw[List.length_drop];exact Nat.le_refl _)];by_cases h:a≤xs.length
 ·erw[Nat.min_eq_left h]
 ·erw[Nat.min_eq_right (Nat.le_of_not_ge h),List.drop_of_length_le (Nat.le_refl xs.length),List.drop_of_length_le (Nat.le_of_not_ge h)]
theorem yP(xs:List D)(h:xs≠[]):iW xs (some (-1)) none none=xs.drop (xs.length - 1):=by
 have hl:=List.length_pos_iff.mpr h
 have e:sliceBounds (some (-1)) none none xs.length=(((xs.length - 1:Nat):Int),((xs.length:Nat):Int),1):=by
  unfold sliceBounds;simp only[Option.getD_none,show (1:Int) > 0 by decide,if_true];erw[if_pos (by decide)]
  congr 1;lia
 unfold iW;erw[e,pX _ _ _ (Nat.le_refl _),List.take_of_length_le (by erw[List.length_drop];exact Nat.le_refl _)]
noncomputable def starts:List Int:=[30,1,0,29900]
noncomputable def gY(xs:List Int)(i:Nat):List Int:=(wC xs (some (i:Int)) none (some 4)).map (λx=>x.fmod (10 ^ 6))
theorem wT(xs:List Int)(hx:xs.length≤1000)(i:Nat):zK (gY xs i)∧0≤(gY xs i).sum:=by
 have h:∀n∈gY xs i,0≤n∧n≤1000000:=λn hn=>by
  (refine aL (List.mem_map.mp hn) λx _ o1=>?_;subst o1)
  have h1:=Int.fmod_nonneg_of_pos x (b:=10 ^ 6) (by decide);have h2:=Int.fmod_lt_of_pos x (b:=10 ^ 6) (by decide);constructor<;>lia
 refine⟨mU h ?_,?_⟩
 ·unfold gY;erw[List.length_map];have:=rR xs i;exact bC [.le .p0 (.k 1000),.le .p1 .p0] (.le .p1 (.k 100000)) aB hx this
 ·generalize gY xs i=l at *;induction l with
  | nil=>simp
  | cons a l ih=>erw[List.sum_cons];have:=h a List.mem_cons_self;have:=ih λn hn=>h n (List.mem_cons_of_mem _ hn);lia
theorem aGs{k:Nat}{xs:List Int}{f:Addr}{z:GiZ}{Q:Fl→aD→aF→Prop}
  (N:iO C) (hx:xs.length≤1000)
  (hq:∀h0 h1 h2 h3:Nat,Q .next [("heaps",lE [h0,h1,h2,h3]),("script",.lst (xs.map .int))] led) :
  WS C led (aY f z) [("script",.lst (xs.map .int))] (k+5) (exec (fJ 0) (aY f z).env) Q:=by
 refine WS.stmt (st':=.Assign _ _ _) rfl ?_;walk_at "v";refine uY [("script",.lst (xs.map .int))] ?_;refine aI ?_;walk_at "v";refine WE.list ?_;walk_at "v";refine⟨by exact Nat.le_of_ble_eq_true rfl,?_⟩;walk_at "v";refine KcY.enumerate λe it hne he hit=>?_
 have hitems:cN [D.int 30,D.int 1,D.int 0,D.int 29900]=(List.range 4).map λ(i:Nat)=>.tup [.int (i:Int),.int (starts.getD i 0)]:=by rfl
 refine⟨_,(List.range 4).map λ(i:Nat)=>some (.int (starts.getD i 0+(gY xs i).sum)),λY=>sQ (aA ..) (by erw[aG _ _ hne.symm,aA]) hne,by erw[hitems];simp,by erw[hitems];simp,λL cs i x hx2=>?_,?_⟩
 ·rw[hitems,List.getElem?_map]at hx2
  have hi:i<4:=by
   rcases Nat.lt_or_ge i 4 with z|z
   ·exact z
   ·rw[List.getElem?_eq_none (by simpa using z)]at hx2;exact bN hx2
  rw[List.getElem?_range hi]at hx2
  (have e1:=Option.some.inj hx2;clear hx2;subst e1)
  have hout:((List.range 4).map λ(i:Nat)=>some (D.int (starts.getD i 0+(gY xs i).sum)))[i]?=some (some (.int (starts.getD i 0+(gY xs i).sum))):=by erw[List.getElem?_map,List.getElem?_range hi];rfl
  generalize sC (upd (upd led it (.lit 0 [D.int 30,D.int 1,D.int 0,D.int 29900])) e (.raw (eA it))) (.itr e [it] (cN [D.int 30,D.int 1,D.int 0,D.int 29900]))=led2;walk_at "v";refine⟨rfl,?_⟩;walk_at "v";refine⟨λ_=>?_,λhc=>by exact dO hc⟩;walk_at "v";refine aI ?_;walk_at "v";refine dS [] ?_;walk_at "v";refine SlY.lst (lo:=some (i:Int)) (hi:=none) (st:=some 4) (by decide) (by erw[List.length_map];exact eJ hx aB) ?_;erw[aA0];have hl:=rR xs i;refine⟨_,((gY xs i).map .int).map some,λY=>IterOf.lst,?_,?_,λL cs j x hx3=>?_,?_⟩
  ·erw[List.length_map];exact bC [.le .p0 (.k 1000),.le .p1 .p0] (.le .p1 (.k 1000000)) aB hx hl
  ·rw[List.length_map,List.length_map,List.length_map];unfold gY;rw[List.length_map]
  ·rw[List.getElem?_map]at hx3;cases hg:(wC xs (some (i:Int)) none (some 4))[j]? with
   | none=>rw[hg]at hx3;exact bN hx3
   | some y =>
    rw[hg]at hx3;(have e1:=Option.some.inj hx3;clear hx3;subst e1);walk_at "v";refine⟨rfl,?_⟩;walk_at "v";refine⟨λ_=>?_,λhc=>by exact dO hc⟩;walk_at "v";refine OpY.pow (by decide) (by decide) (by decide) ?_;refine OpY.mod (by decide) ?_;refine⟨?_,rfl⟩;unfold gY;erw[List.getElem?_map,List.getElem?_map,List.getElem?_map,hg];rfl
  ·erw[bT];walk_at "v";refine KcY.sum (wT xs hx i).1 ?_;walk_at "v";exact⟨hout,rfl⟩
 ·have hn:∀i,∃n:Nat,starts.getD i 0+(gY xs i).sum=(n:Int):=λi=>by
   have h1:=(wT xs hx i).2
   have h2:0≤starts.getD i 0:=by
    unfold starts;rcases i with _|_|_|_|i<;>simp
   exact⟨_,(Int.toNat_of_nonneg (Int.add_nonneg h2 h1)).symm⟩
  refine aN (hn 0) λh0 e0=>?_
  refine aN (hn 1) λh1 e1=>?_
  refine aN (hn 2) λh2 e2=>?_
  refine aN (hn 3) λh3 e3=>?_
  have hl:((List.range 4).map λ(i:Nat)=>some (D.int (starts.getD i 0+(gY xs i).sum)))=[some (aP h0),some (aP h1),some (aP h2),some (aP h3)]:=by
   show [some (D.int _),some (D.int _),some (D.int _),some (D.int _)]=_
   erw[e0,e1,e2,e3]
  erw[hl]
  have hit2:sC (upd (upd led it (.lit 0 [D.int 30,D.int 1,D.int 0,D.int 29900])) e (.raw (eA it))) (.itr e [it] (cN [D.int 30,D.int 1,D.int 0,D.int 29900]))=led:=by
   show del (del (upd (upd led it _) e _) e) it=led
   erw[kS _ _ _ (by erw[aG _ _ hne];exact he),kS _ _ _ hit]
  erw[hit2];walk_at "v";exact hq h0 h1 h2 h3
section
variable {C:Cx} {led:aF} {k:Nat} {f:Addr} {z:GiZ} {Q:Fl→aD→aF→Prop}
structure LP where
 sc:List Int
 h0:Nat
 h1:Nat
 h2:Nat
 h3:Nat
noncomputable def LP.K(p:LP):Nat:=2+p.h0 % 2
noncomputable def LP.count(p:LP):Nat:=4+min p.sc.length 30 / 10
noncomputable def LP.dr(p:LP)(i:Nat):Nat:=1+p.h0 / 2 / 3 ^ i % 3
noncomputable def LP.t0(p:LP):Nat→Nat:=p.dr
noncomputable def LP.t1(p:LP)(i:Nat):Nat:=p.dr (p.K+i)
noncomputable def al8:List Nat:=[97,34,92,32,10,35,9,13]
noncomputable def LP.sg(p:LP):List Nat:=((al8++al8).drop (p.h1 % 8)).take p.K
noncomputable def LP.turn(p:LP):Nat:=p.h1 / 8 % 12
noncomputable def LP.stop(p:LP):Int:=[0,127,-1].getD (p.h2 % 3) 0
noncomputable abbrev V0(p:LP):aD:=[("heaps",lE [p.h0,p.h1,p.h2,p.h3]),("script",.lst (p.sc.map .int))]
noncomputable abbrev V1(p:LP):aD:=("count",aP p.count)::("kinds",aP p.K)::V0 p
theorem bU(p:LP):2≤p.K∧p.K≤3:=by unfold LP.K;exact⟨(bF [] (.le .k2 (.a .k2 .p0)) aB),(bF [.lt .p0 .k2] (.le (.a .k2 .p0) .k3) aB (Nat.mod_lt _ (by decide)))⟩
theorem bM(p:LP):4≤p.count∧p.count≤7:=by unfold LP.count;exact⟨(bF [] (.le (.k 4) (.a (.k 4) .p0)) aB),(bQ 9 [_,_] [] [.le (.r .p0 (nat_lit 10)) .p1,.le .p1 (.k 30)] (.le (.a (.k 4) .p0) (.k 7)) aB (Nat.div_mul_le_self _ _) (Nat.min_le_right _ _))⟩
theorem fR(p:LP)(i:Nat):1≤p.dr i∧p.dr i≤3:=by unfold LP.dr;exact⟨(bF [] (.le .k1 (.a .k1 .p0)) aB),(bF [.lt .p0 .k3] (.le (.a .k1 .p0) .k3) aB (Nat.mod_lt _ (by decide)))⟩
theorem mX(p:LP):TbOk p.K p.t0:=⟨λc _=>(fR p c).1,λc _=>(fR p c).2⟩
theorem mY(p:LP):TbOk p.K p.t1:=⟨λc _=>(fR p _).1,λc _=>(fR p _).2⟩
theorem aGt(N:iO C)(hx:p.sc.length≤1000)(hq:Q .next (V1 p) led) :
  WS C led (aY f z) (V0 p) (k+5) (exec (fJ 1) (aY f z).env) Q:=by
 refine WS.stmt (st':=.Assign _ _ _) rfl ?_;walk_at "v";refine SuY.lst (d:=aP p.h0) (by decide) (by decide) rfl ?_;walk_at "v";refine OpY.modn 2 ?_;walk_at "v";refine aI ?_;walk_at "v";refine aI ?_;walk_at "v";refine KcY.len_lst (by erw[List.length_map];exact gN hx aB) ?_;erw[List.length_map];walk_at "v";refine KcY.min2 ?_;erw[show (if (30:Int)<(p.sc.length:Int) then (30:Int) else (p.sc.length:Int))=((min p.sc.length 30:Nat):Int) by split<;>lia];walk_at "v";refine OpY.fdivn 10 ?_;walk_at "v";refine⟨by exact Nat.le_of_ble_eq_true rfl,?_⟩;walk_at "v";exact hq
noncomputable abbrev V2(p:LP):aD:=("drawn",lE ((List.range (2*p.K)).map p.dr))::V1 p
theorem aGu(N:iO C)(hq:Q .next (V2 p) led) :
  WS C led (aY f z) (V1 p) (k+5) (exec (fJ 2) (aY f z).env) Q:=by
 refine WS.stmt (st':=.Assign _ _ _) rfl ?_;have hK:=bU p;refine mR [("heaps",lE [p.h0,p.h1,p.h2,p.h3])] ?_;refine aI ?_;walk_at "v";refine OpY.mul ?_ (Or.inl (by decide));walk_at "v";refine⟨_,((List.range (2*p.K)).map λi=>some (aP (p.dr i))),λY=>IterOf.rng (Int.sign_eq_neg_one_iff_neg.mp rfl) (z60) (bF [.t 2 (.le .k2 .p0)] (.ilt (.g (.k 1152921504606846976)) (.l 2 (.c .p0))) aB hK.1) (bF [.t 2 (.le .p0 .k3)] (.ilt (.l 2 (.c .p0)) (.k 1152921504606846976)) aB hK.2),?_,?_,λL cs i x hx=>?_,?_⟩
 ·erw[aV];lia
 ·erw[aV];simp;exact Nat.add_zero (Nat.mul 2 p.K)
 ·(refine cL (cP hx) λo1 hi=>?_;subst o1)
  have hi:i<2*p.K:=Nat.lt_of_succ_le hi;simp only[Int.zero_add];walk_at "v";refine⟨rfl,?_⟩;walk_at "v";refine⟨λ_=>?_,λhc=>by exact dO hc⟩;walk_at "v";refine SuY.lst (d:=aP p.h0) (by decide) (by decide) rfl ?_;walk_at "v";refine OpY.fdivn 2 ?_;walk_at "v";refine OpY.pow (Int.natCast_nonneg i) (bC [.t 2 (.le .p0 .k3),.lt .p1 (.l 2 .p0)] (.ile (.c .p1) (.k 1000000)) aB hK.2 hi) (by decide) ?_;erw[Int.toNat_natCast,show (3:Int) ^ i=((3 ^ i:Nat):Int) by erw[Int.natCast_pow];rfl];walk_at "v"; intro _;have hp:3 ^ i≤3 ^ 6:=Nat.pow_le_pow_right (by decide) (bC [.t 2 (.le .p0 .k3),.lt .p1 (.l 2 .p0)] (.le .p1 (.k 6)) aB hK.2 hi);have hp0:0<3 ^ i:=Nat.pow_pos (by decide);refine Op2.fdivn _ ?_ (Nat.ne_zero_of_lt hp0) (gN hp aB);walk_at "v";refine OpY.modn 3 ?_;walk_at "v";refine⟨?_,rfl⟩;erw[List.getElem?_map,List.getElem?_range hi];rfl
 ·erw[show ((List.range (2*p.K)).map λi=>some (aP (p.dr i)))=((List.range (2*p.K)).map λi=>aP (p.dr i)).map some by simp,bT];erw[show ((List.range (2*p.K)).map λi=>aP (p.dr i))=((List.range (2*p.K)).map p.dr).map aP by simp];exact hq
noncomputable abbrev V3(p:LP):aD:=("times",iK p.K p.t0 p.t1)::V2 p
theorem aGv(N:iO C)(hq:Q .next (V3 p) led) :
  WS C led (aY f z) (V2 p) (k+5) (exec (fJ 3) (aY f z).env) Q:=by
 refine WS.stmt (st':=.Assign _ _ _) rfl ?_;have hK:=bU p;walk_at "v";refine WE.list ?_;walk_at "v";refine SlY.lst (lo:=none) (hi:=some (p.K:Int)) (st:=none) (by decide) (by simp;exact bF [.t 2 (.le .p0 .k3)] (.le (.l 2 .p0) (.k 1000000)) aB hK.2) ?_;erw[kM];walk_at "v";refine SlY.lst (lo:=some (p.K:Int)) (hi:=none) (st:=none) (by decide) (by simp;exact bF [.t 2 (.le .p0 .k3)] (.le (.l 2 .p0) (.k 1000000)) aB hK.2) ?_;erw[pY];walk_at "v";refine⟨by exact Nat.le_of_ble_eq_true rfl,?_⟩;walk_at "v"
 have e1:(((List.range (2*p.K)).map p.dr).map aP).take p.K=(qV p.K p.t0).map aP:=by
  erw[← List.map_take,← List.map_take,List.take_range,Nat.min_eq_left (bF [] (.le .p0 (.l 2 .p0)) aB)];rfl
 have e2:(((List.range (2*p.K)).map p.dr).map aP).drop p.K=(qV p.K p.t1).map aP:=by
  erw[← List.map_drop,← List.map_drop]
  congr 1
  refine List.ext_getElem? λi=>?_
  erw[List.getElem?_map,List.getElem?_map,List.getElem?_drop];rcases Nat.lt_or_ge i p.K with q|q
  ·erw[List.getElem?_range q,List.getElem?_range (bC [.lt .p0 .p1] (.lt (.a .p1 .p0) (.l 2 .p1)) aB q)];rfl
  ·erw[List.getElem?_eq_none (by simp;exact bC [.le .p0 .p1] (.le (.l 2 .p0) (.a .p0 .p1)) aB q),List.getElem?_eq_none (by simp;exact String.Pos.Raw.mk_le_mk.mp q)];rfl
 erw[e1,e2];exact hq
noncomputable abbrev V4(p:LP):aD:=("signs",bB p.sg)::V3 p
theorem aGw(N:iO C)(hq:Q .next (V4 p) led) :
  WS C led (aY f z) (V3 p) (k+5) (exec (fJ 4) (aY f z).env) Q:=by
 refine WS.stmt (st':=.Assign _ _ _) rfl ?_;have hm1:MulOk (mk al8) 2:=by unfold MulOk;decide +kernel
 have hm2:Txt.mul (mk al8) 2=mk (al8++al8):=by decide +kernel
 have hs:("a\"\\ \n#\t\r":Str)=mk al8:=by decide +kernel
 walk_at "v"; intro _;erw[hs];refine Op2.muls hm1 ?_;erw[hm2];walk_at "v";refine SuY.lst (d:=aP p.h1) (by decide) (by decide) rfl ?_;walk_at "v";refine OpY.modn 8 ?_;walk_at "v";refine SlY.str (lo:=some ((p.h1 % 8:Nat):Int)) (hi:=none) (by erw[mE];decide) ?_;erw[yD];walk_at "v";refine SlY.str (lo:=none) (hi:=some (p.K:Int)) ?_ ?_
 ·erw[mE,List.length_drop];exact Nat.le_trans (Nat.sub_le _ _) (by decide)
 erw[yE];walk_at "v";exact hq
noncomputable abbrev V5(p:LP):aD:=("stop",.int p.stop)::("turn",aP p.turn)::V4 p
theorem aGx(N:iO C)(hq:Q .next (V5 p) led) :
  WS C led (aY f z) (V4 p) (k+5) (exec (fJ 5) (aY f z).env) Q:=by
 refine WS.stmt (st':=.Assign _ _ _) rfl ?_;walk_at "v";refine SuY.lst (d:=aP p.h1) (by decide) (by decide) rfl ?_;walk_at "v";refine OpY.fdivn 8 ?_;walk_at "v";refine OpY.modn 12 ?_;walk_at "v";refine WE.list ?_;walk_at "v";refine⟨by exact Nat.le_of_ble_eq_true rfl,?_⟩;walk_at "v";refine SuY.lst (d:=aP p.h2) (by decide) (by decide) rfl ?_;walk_at "v";refine OpY.modn 3 ?_;walk_at "v"; intro _;have hm:p.h2 % 3<3:=Nat.mod_lt _ (by decide);refine SubW.lst (d:=.int p.stop) (Int.natCast_nonneg (p.h2 % 3)) (lO hm aB) ?_ ?_
 ·erw[Int.toNat_natCast];unfold LP.stop;rcases (by lia:p.h2 % 3=0∨p.h2 % 3=1∨p.h2 % 3=2)with e|e|e<;>erw[e]<;>rfl
 walk_at "v";refine⟨by exact Nat.le_of_ble_eq_true rfl,?_⟩;walk_at "v";exact hq
end
set_option tactic.hygienic false
noncomputable def aC7(a K:Nat):List Nat:=((al8++al8).drop a).take K
theorem aC8:∀a,a<8→∀K∈[2,3],(aC7 a K).length=K∧(aC7 a K).Nodup∧46∉aC7 a K∧(∀c∈aC7 a K,c∈al8):=by decide +kernel
theorem aB7:∀c∈al8,c∈alph∧c<128:=by decide
structure SgOk (sg:List Nat) (K:Nat):Prop where
 len:sg.length=K
 nd:sg.Nodup
 dot:46∉sg
 al:∀c∈sg,c∈alph
 lt:∀c∈sg,c<128
theorem LP.sgOk(p:LP):SgOk p.sg p.K:=by
 have hK:=bU p
 (refine lQ (aC8 (p.h1 % 8) (Nat.mod_lt _ (by decide)) p.K (by simp;exact Nat.le_and_le_add_one_iff.mp hK)) λa b c d=>?_)
 exact⟨a,b,c,λx hx=>(aB7 x (d x hx)).1,λx hx=>(aB7 x (d x hx)).2⟩
noncomputable def LP.num(p:LP)(i c:Nat):Int:=if c=46 then p.stop else ((p.K*tm p.t0 p.t1 i (p.sg.idxOf c):Nat):Int)
noncomputable def jF(p:LP)(i:Nat):List Int:=((List.range p.K).map λj=>((p.K*tm p.t0 p.t1 i j:Nat):Int))++[p.stop]
theorem iN(p:LP)(i:Nat):(jF p i).length=p.K+1:=by simp[jF]
noncomputable abbrev yQ(p:LP):Str:=mk (p.sg++[46])
theorem tP(p:LP)(h:(p.sg++[46])[j]?=some c):gD (yQ p) j=⟨#[c]⟩:=by
 unfold gD;erw[Array.getD_eq_getD_getElem?,show (yQ p).cps[j]?=(p.sg++[46])[j]? from List.getElem?_toArray ..,h];rfl
theorem aB8(h:∀i,i<2→DictI C.prog C.w (o i) (p.K+1) (gD (yQ p)) (λj=>(jF p i).getD j 0)):NumOk C o (46::p.sg) p.num:=by
 have S:=p.sgOk;refine⟨λi hi=>⟨_,_,_,Nat.succ_pos _,h i hi,λc hc=>?_⟩⟩;rcases List.mem_cons.mp hc with rfl|hc
 ·refine⟨p.K,Nat.lt_succ_self _,(tP p ?_).symm,?_⟩
  ·erw[List.getElem?_append_right (by erw[S.len];exact Nat.le_refl _),S.len,Nat.sub_self];rfl
  ·unfold jF LP.num;erw[List.getD_eq_getElem?_getD,List.getElem?_append_right (by simp),if_pos rfl];simp
 ·have hi2:p.sg.idxOf c<p.sg.length:=List.idxOf_lt_length_iff.mpr hc;refine⟨p.sg.idxOf c,by rw[S.len]at hi2;exact Nat.lt_succ_of_lt hi2,(tP p ?_).symm,?_⟩
  ·erw[List.getElem?_append_left hi2,List.getElem?_eq_getElem hi2,List.getElem_idxOf]
  ·have hne:c≠46:=λz=>S.dot (z▸hc)
   unfold jF LP.num;erw[if_neg hne,List.getD_eq_getElem?_getD,List.getElem?_append_left (by erw[List.length_map,List.length_range,← S.len];exact hi2),List.getElem?_map,List.getElem?_range (by erw[← S.len];exact hi2)];rfl
theorem aC9(p:LP):((List.range (p.K+1)).map (gD (yQ p))).Nodup:=by
 have S:=p.sgOk
 have hn:(p.sg++[46]).Nodup:=by
  erw[List.nodup_append];refine⟨S.nd,by decide,λa ha b hb=>?_⟩;rw[List.mem_singleton]at hb;erw[hb];exact λz=>S.dot (z▸ha)
 have hl:(p.sg++[46]).length=p.K+1:=by erw[List.length_append,S.len];rfl
 have e:(List.range (p.K+1)).map (gD (yQ p))=(p.sg++[46]).map λc=>(⟨#[c]⟩:Str):=by
  refine List.ext_getElem? λi=>?_
  erw[List.getElem?_map,List.getElem?_map];rcases Nat.lt_or_ge i (p.K+1)with q|q
  ·have hi:i<(p.sg++[46]).length:=Nat.lt_of_lt_of_eq q (id (Eq.symm hl));erw[List.getElem?_range q,List.getElem?_eq_getElem hi];exact congrArg some (tP p (List.getElem?_eq_getElem hi))
  ·erw[List.getElem?_eq_none (by simp;exact Nat.succ_le_of_lt q),List.getElem?_eq_none (le_of_eq_of_le hl q)];rfl
 erw[e];unfold List.Nodup at hn ⊢;erw[List.pairwise_map];exact hn.imp λh z=>h (by injection z with z;simpa using z)
section
variable {C:Cx} {led:aF} {k:Nat} {f:Addr} {z:GiZ} {Q:Fl→aD→aF→Prop}
noncomputable abbrev V6(p:LP)(o:Nat→Obj):aD:=("numbers",wA o)::V5 p
noncomputable abbrev n6(p:LP):aD:=[("stop",.int p.stop),("signs",bB p.sg),("kinds",aP p.K)]
theorem aGy(N:iO C)(hq:∀o,NumOk C o (46::p.sg) p.num→Q .next (V6 p o) led) :
  WS C led (aY f z) (V5 p) (k+5) (exec (fJ 6) (aY f z).env) Q:=by
 refine WS.stmt (st':=.Assign _ _ _) rfl ?_;have hK:=bU p;have S:=p.sgOk;refine WS.assign ?_;refine mM ?_;walk_at "v";refine⟨_,λi vs' led' acc=>i≤2∧vs'=n6 p∧led'=led∧∃o:Nat→Obj,acc=(List.range i).map (λj=>.dct (o j))∧∀j,j<i→DictI C.prog C.w (o j) (p.K+1) (gD (yQ p)) (λm=>(jF p j).getD m 0),λY=>IterOf.lst,⟨n6 p,rfl,Nat.zero_le _,rfl,rfl,λ_=>default,rfl,λj hj=>absurd hj (Nat.not_lt_zero _)⟩,?_,?_⟩
 ·intro L cs Da i x vs2 led2 acc2 hx o21;obtain ⟨hi,rfl,rfl,o,rfl,ho⟩:=o21;have hi2:i<2:=by have:=(List.getElem?_eq_some_iff.mp hx).1;simpa using this
  rw[List.getElem?_map,List.getElem?_range hi2]at hx
  (have e1:=Option.some.inj hx;clear hx;subst e1)
  walk_at "v";refine⟨λ_=>WC.last rfl ?_,λhc=>by exact dO hc⟩;refine aI ?_;walk_at "v";refine aI ?_;walk_at "v";refine OpY.adds ?_ ?_
  rotate_left
  ·erw[mE,S.len];show p.K+(".":Str).length≤_;have:(".":Str).length=1:=by decide +kernel
   exact bC [.le .p0 .k3,.eq .p1 .k1] (.le (.a .p0 .p1) (.k 10000000)) aB hK.2 this
  erw[show (".":Str)=⟨#[46]⟩ by decide +kernel,iH];walk_at "v";refine dS [("kinds",aP p.K)] ?_;walk_at "v";refine⟨_,((List.range p.K).map λj=>some (aP (p.K*tm p.t0 p.t1 i j))),λY=>IterOf.lst,by simp;exact eJ hK.2 aB,by simp,λL cs m x hx=>?_,?_⟩
  ·rw[List.getElem?_map,List.getElem?_map]at hx;rcases Nat.lt_or_ge m p.K with q|q
   ·rw[List.getElem?_range q]at hx
    (have e1:=Option.some.inj hx;clear hx;subst e1)
    walk_at "v";refine⟨rfl,?_⟩;walk_at "v";refine⟨λ_=>?_,λhc=>by exact dO hc⟩;walk_at "v";refine OpY.muln ?_ (gN hK.2 aB);refine⟨?_,rfl⟩;erw[List.getElem?_map,List.getElem?_range q];rfl
   ·rw[List.getElem?_eq_none (by simpa using q)]at hx;exact bN hx
  ·erw[show ((List.range p.K).map λj=>some (aP (p.K*tm p.t0 p.t1 i j)))=((List.range p.K).map λj=>aP (p.K*tm p.t0 p.t1 i j)).map some by simp,bT];refine WE.list ?_;walk_at "v";refine⟨by exact Nat.le_of_ble_eq_true rfl,?_⟩;refine OpY.addl (by simp;exact eJ hK.2 aB) ?_;have hys:((List.range p.K).map λj=>aP (p.K*tm p.t0 p.t1 i j))++[.int p.stop]=(jF p i).map .int:=by unfold jF;erw[List.map_append,List.map_map];rfl
   erw[hys]
   have hx128:(yQ p).cps.all (·<128)=true:=by
    erw[Array.all_eq_true'];intro c hc;have hc:c∈p.sg++[46]:=by simpa using hc
    rcases List.mem_append.mp hc with q|q
    ·exact decide_eq_true (S.lt c q)
    ·erw[List.mem_singleton.mp q];decide
   walk_at "v";refine KcY.zipSL hx128 λz' TI TO i1 i2 led' hZ hd he=>?_
   walk_at "v";refine KcY.dictZ hZ hd he (by erw[iN];show (p.sg++[46]).toArray.size=_;simp[S.len]) (by erw[iN];exact bF [.le .p0 .k3] (.le (.a .p0 .k1) (.k 1000)) aB hK.2) (by erw[iN];exact aC9 p) λo1 ho1=>?_
   rw[iN]at ho1;refine⟨by simp;exact lkd hi2 aB,n6 p,rfl,hi2,rfl,rfl,λj=>if j=i then o1 else o j,?_,λj hj=>?_⟩
   ·erw[List.range_succ,List.map_append]
    congr 1
    ·exact List.map_congr_left λj hj=>by show _=D.dct (if j=i then o1 else o j);erw[if_neg (by have:=List.mem_range.mp hj;exact Nat.ne_of_lt this)]
    ·simp
   ·by_cases hji:j=i
    ·subst hji;dsimp only;erw[if_pos rfl];exact ho1
    ·dsimp only;erw[if_neg hji];exact ho j (by lia)
 ·intro vs2 led2 acc2 o21;obtain ⟨hi,rfl,rfl,o,rfl,ho⟩:=o21;walk_at "v";exact hq o (aB8 λi hi=>ho i (by simpa using hi))
end
set_option tactic.hygienic false
noncomputable abbrev LP.row(p:LP)(j r:Nat):List Nat:=eE p.K p.t0 p.t1 j p.count r
noncomputable def LP.wd(p:LP)(j r k:Nat):List Nat:=eP p.sg k ((p.row j r).getD k 0)
structure JOk (p:LP) (j:Nat):Prop where
 r0:p.count≤(bZ p.K p.t0 p.t1 j 0).length*p.K
 r1:p.count≤(bZ p.K p.t0 p.t1 j 1).length*p.K
theorem aAm(p:LP)(j r:Nat):(p.row j r).length=p.count:=by simp[LP.row,eE]
theorem aDa(p:LP)(j:Nat)(hk:k<p.count):(p.row j r)[k]?=some ((p.row j r).getD k 0):=by
 erw[List.getD_eq_getElem?_getD,List.getElem?_eq_getElem (by erw[aAm];exact hk)];rfl
theorem rT(p:LP)(i c:Nat):1≤tm p.t0 p.t1 i c∧tm p.t0 p.t1 i c≤3:=by
 unfold tm;split
 ·exact fR p _
 ·exact fR p _
theorem tQ(p:LP)(j:Nat)(hk:k<p.count):2≤(p.row j r).getD k 0∧(p.row j r).getD k 0≤9:=by
 have e:(p.row j r).getD k 0=p.K*tm p.t0 p.t1 (1 - r) ((bZ p.K p.t0 p.t1 j (1 - r)).getD (k / p.K) 0):=by
  unfold LP.row eE;erw[List.getD_eq_getElem?_getD,List.getElem?_map,List.getElem?_range hk];rfl
 have hK:=bU p;have ht:=rT p (1 - r) ((bZ p.K p.t0 p.t1 j (1 - r)).getD (k / p.K) 0);erw[e];have h1:2*1≤p.K*tm p.t0 p.t1 (1 - r) ((bZ p.K p.t0 p.t1 j (1 - r)).getD (k / p.K) 0):=Nat.mul_le_mul hK.1 ht.1;have h2:p.K*tm p.t0 p.t1 (1 - r) ((bZ p.K p.t0 p.t1 j (1 - r)).getD (k / p.K) 0)≤3*3:=Nat.mul_le_mul hK.2 ht.2;exact⟨h1,h2⟩
section
variable {C:Cx} {led:aF} {k:Nat} {f:Addr} {z:GiZ} {Q:Fl→aD→aF→Prop}
noncomputable abbrev aEq(p:LP)(j:Nat):D:=.lst ((List.range 2).map λr=>lE (p.row j r))
noncomputable abbrev V7(p:LP)(o:Nat→Obj)(j:Nat):aD:=("sizes",aEq p j)::V6 p o
theorem aGz(N:iO C)(hm:C.mg "_law_grown"=some (.ref fg))(hf:GFn C fg (aQ 18))(hq:∀j,JOk p j→Q .next (V7 p o j) led) :
  WS C led (aY f z) (V6 p o) (k+60) (exec (fJ 7) (aY f z).env) Q:=by
 refine WS.stmt (st':=.Assign _ _ _) rfl ?_;have hK:=bU p;have hc:=bM p;walk_at "v";refine aI ?_;walk_at "v";refine Y1 (λ_ z9=>⟨hf.keep,(pN (k:=k) N hf hK.1 hK.2 (mX p) (mY p) hc.2 z9).up (bF [] (.le (.a .p0 (.k 40)) (.a .p0 (.k 60))) aB)⟩) ?_;intro j h0 h1;walk_at "v";exact hq j ⟨h0,h1⟩
noncomputable abbrev yR(p:LP)(j:Nat):D:=.lst ((List.range 2).map λr=>.lst ((List.range p.count).map λk=>bB (p.wd j r k)))
noncomputable abbrev V8(p:LP)(o:Nat→Obj)(j:Nat):aD:=("words",yR p j)::V7 p o j
theorem aGA(N:iO C)(hq:Q .next (V8 p o j) led) :
  WS C led (aY f z) (V7 p o j) (k+10) (exec (fJ 8) (aY f z).env) Q:=by
 refine WS.stmt (st':=.Assign _ _ _) rfl ?_;have hK:=bU p;have hc:=bM p;have S:=p.sgOk;refine WS.assign ?_;refine dS [("signs",bB p.sg),("count",aP p.count),("kinds",aP p.K)] ?_;walk_at "v";refine⟨_,((List.range 2).map λr=>some (.lst ((List.range p.count).map λk=>bB (p.wd j r k)))),λY=>IterOf.lst,by exact Nat.le_of_ble_eq_true rfl,by exact rfl,λL cs r x hx=>?_,?_⟩
 ·have hr:r<2:=by have:=(List.getElem?_eq_some_iff.mp hx).1;simpa using this
  rw[List.getElem?_map,List.getElem?_range hr]at hx
  (have e1:=Option.some.inj hx;clear hx;subst e1)
  walk_at "v";refine⟨rfl,?_⟩;walk_at "v";refine⟨λ_=>?_,λhc=>by exact dO hc⟩;refine dS [("row",lE (p.row j r)),("signs",bB p.sg),("kinds",aP p.K)] ?_;refine aI ?_;walk_at "v";refine⟨_,((List.range p.count).map λk=>some (bB (p.wd j r k))),λY=>IterOf.rng (Int.sign_eq_neg_one_iff_neg.mp rfl) (z60) (bF [.le (.k 4) .p0] (.ilt (.g (.k 1152921504606846976)) (.c .p0)) aB hc.1) (bF [.le .p0 (.k 7)] (.ilt (.c .p0) (.k 1152921504606846976)) aB hc.2),by erw[aV];lia,by simp[aV],λL cs m x hx=>?_,?_⟩
  ·(refine cL (cP hx) λo1 hm=>?_;subst o1)
   have hm:m<p.count:=Nat.lt_of_succ_le hm;simp only[Int.zero_add];have hml:m % p.K<p.sg.length:=by erw[S.len];exact Nat.mod_lt _ (tU hK.1 aB)
   have hcell:(mk p.sg).cps[((m % p.K:Nat):Int).toNat]?=some (p.sg.getD (m % p.sg.length) 0):=by
    erw[Int.toNat_natCast,S.len,List.getElem?_toArray,List.getD_eq_getElem?_getD,List.getElem?_eq_getElem hml];rfl
   have hv:=tQ p j (r:=r) hm;have hg:=aDa p j (r:=r) hm;walk_at "v";refine⟨rfl,?_⟩;walk_at "v";refine⟨λ_=>?_,λhc=>by exact dO hc⟩;walk_at "v";refine OpY.modn p.K ?_ (Nat.ne_of_gt (tU hK.1 aB));refine SuY.str (Int.natCast_nonneg _) (Int.ofNat_lt.mpr (Nat.lt_trans hml (by erw[S.len];exact gN hK.2 aB))) hcell ?_;walk_at "v";refine SuY.lst (d:=aP ((p.row j r).getD m 0)) (Int.natCast_nonneg m) (bC [.le .p0 (.k 7),.lt .p1 .p0] (.ilt (.c .p1) (.k 9223372036854775808)) aB hc.2 hm) (by erw[Int.toNat_natCast,List.getElem?_map,hg];rfl) ?_;refine OpY.muls (jR _ (eJ hv.2 aB)) ?_;erw[nV];refine⟨?_,rfl⟩;erw[List.getElem?_map,List.getElem?_range hm];rfl
  ·erw[show ((List.range p.count).map λk=>some (bB (p.wd j r k)))=((List.range p.count).map λk=>bB (p.wd j r k)).map some by simp,bT];refine⟨?_,rfl⟩;erw[List.getElem?_map,List.getElem?_range hr];rfl
 ·walk_at "v";exact hq
theorem kN(p:LP)(j:Nat)(hk:k<p.count):2≤(p.wd j r k).length∧(p.wd j r k).length≤9:=by
 unfold LP.wd eP;erw[List.length_replicate];exact tQ p j hk
theorem tR(p:LP)(j r k:Nat):∀c∈p.wd j r k,c∈p.sg:=λc hc=>by
 unfold LP.wd eP at hc;erw[(List.mem_replicate.mp hc).2];have S:=p.sgOk;have hK:=bU p;have h:k % p.sg.length<p.sg.length:=Nat.mod_lt _ (by erw[S.len];exact tU hK.1 aB);erw[List.getD_eq_getElem?_getD,List.getElem?_eq_getElem h];exact List.getElem_mem h
noncomputable def LP.laid(p:LP)(j r:Nat):List Int:=dE p.num (p.wd j) r p.count
noncomputable abbrev aFi(p:LP)(j:Nat):D:=.lst ((List.range 2).map λr=>.lst ((p.laid j r).map .int))
noncomputable abbrev V9(p:LP)(o:Nat→Obj)(j:Nat):aD:=("laid",aFi p j)::V8 p o j
theorem pZ(p:LP)(j r:Nat):∀n,n≤p.count→(((List.range n).map (p.wd j r)).flatten).length≤9*n
 | 0,_=>Nat.le_refl _
 | n+1,h=>by
  have:=pZ p j r n (by exact Nat.le_of_succ_le h);rw[List.range_succ,List.map_append,List.flatten_append,List.length_append];have h2:=(kN p j (r:=r) (show n<p.count by exact Nat.lt_of_succ_le h)).2;rw[List.map_cons,List.map_nil,List.flatten_cons,List.flatten_nil,List.append_nil];exact eF [.le .p0 (.l 9 .p1),.le .p2 (.k 9)] (.le (.a .p0 .p2) (.l 9 (.a .p1 .k1))) aB this h2
theorem aGB(N:iO C)(NU:NumOk C o (46::p.sg) p.num)(hq:Q .next (V9 p o j) led) :
  WS C led (aY f z) (V8 p o j) (k+10) (exec (fJ 9) (aY f z).env) Q:=by
 refine WS.stmt (st':=.Assign _ _ _) rfl ?_;have hc:=bM p;have he:("":Str)=("":Str):=rfl;refine mR [("words",yR p j),("numbers",wA o)] ?_;refine WE.list ?_;walk_at "v";refine⟨by exact Nat.le_of_ble_eq_true rfl,?_⟩;refine⟨[.int 0,.int 1],((List.range 2).map λr=>some (.lst ((p.laid j r).map .int))),λY=>IterOf.lst,by decide,rfl,λL cs r x hx=>?_,?_⟩
 ·(refine cL (lG hx) λo1 hr=>?_;subst o1)
  refine dT (NU.at_ r hr) λnk key nm hnk hDI hkey=>?_
  walk_at "v";refine⟨rfl,?_⟩;walk_at "v";refine⟨λ_=>?_,λhc=>by exact dO hc⟩;refine dS [("k",aP r),("numbers",wA o)] ?_;refine cQ (pl:=_) ?_;walk_at "v";refine⟨_,_,λY=>GetM.join,?_⟩;walk_at "v";refine SuY.lst (Int.natCast_nonneg r) (lO hr aB) (bK hr) ?_;walk_at "v"; intro _;refine KpK.blt ?_;have hfl:=pZ p j r p.count (Nat.le_refl _)
  have hls:((List.range p.count).map λk=>bB (p.wd j r k))=(((List.range p.count).map (p.wd j r)).map mk).map D.str:=by
   erw[List.map_map,List.map_map];rfl
  erw[hls];refine CallW.join (mB _ (bC [.t 9 (.le .p0 (.k 7)),.le .p1 (.l 9 .p0)] (.le .p1 (.k 100000)) aB hc.2 hfl)) ?_;erw[tC]
  have hflat:(((List.range p.count).map (p.wd j r)).flatten).map (p.num r)=p.laid j r:=by
   unfold LP.laid dE;erw[List.map_flatten,List.map_map];rfl
  have hsg:∀c∈((List.range p.count).map (p.wd j r)).flatten,c∈p.sg:=λc hc=>by
   refine aL (List.mem_flatten.mp hc) λl hl hcl=>?_
   (refine aL (List.mem_map.mp hl) λm _ o1=>?_;subst o1)
   exact tR p j r m c hcl
  generalize ((List.range p.count).map (p.wd j r)).flatten=tx at *;have hitems:bL (mk tx)=tx.map iS:=rfl;refine⟨_,tx.map λc=>some (.int (p.num r c)),λY=>IterOf.str,by erw[hitems,List.length_map];exact bC [.t 9 (.le .p0 (.k 7)),.le .p1 (.l 9 .p0)] (.le .p1 (.k 1000000)) aB hc.2 hfl,by erw[hitems,List.length_map,List.length_map],λL cs m x hx=>?_,?_⟩
  ·rw[hitems,List.getElem?_map]at hx
   (refine aL (Option.map_eq_some_iff.mp hx) λc hc o1=>?_;subst o1)
   refine cZ (hkey c (List.mem_cons_of_mem _ (hsg c (List.mem_of_getElem? hc)))) λj' hj' hkj hnj=>?_
   walk_at "v";refine⟨rfl,?_⟩;walk_at "v";refine⟨λ_=>?_,λhc=>by exact dO hc⟩;walk_at "v";refine SuY.lst (Int.natCast_nonneg r) (lO hr aB) (bK hr) ?_;walk_at "v";refine SuY.dct hDI j' hj' hkj ?_;erw[hnj];exact⟨by erw[List.getElem?_map,hc];rfl,rfl⟩
  ·rw[show (tx.map λc=>some (D.int (p.num r c))).filterMap id=(tx.map (p.num r)).map .int by
    erw[show (tx.map λc=>some (D.int (p.num r c)))=((tx.map (p.num r)).map .int).map some by simp,bT],hflat]
   refine⟨?_,rfl⟩;erw[List.getElem?_map,List.getElem?_range hr];rfl
 ·walk_at "v";exact hq
theorem aDb(p:LP)(j:Nat)(i:Nat):eR p.count p.num (p.wd j) (2*(i+1))=eR p.count p.num (p.wd j) (2*i)++[(p.laid j 1).getD i 0,(p.laid j 0).getD i 0]:=by
 have e0:cR p.count p.num (p.wd j) (2*i)=(p.laid j 1).getD i 0:=by
  unfold cR;erw[show 2*i % 2=0 by exact Nat.mul_mod_right 2 i,show 2*i / 2=i by exact Nat.le_antisymm (bQ 1 [_,_] [] [.le (.r .p0 (nat_lit 2)) (.l 2 .p1)] (.le .p0 .p1) aB (Nat.div_mul_le_self _ _)) (bQ 1 [_,_] [] [.lt (.l 2 .p0) (.a (.r .p1 (nat_lit 2)) .k2)] (.le .p0 .p1) aB (Nat.lt_div_mul_add (by decide)))];rfl
 have e1:cR p.count p.num (p.wd j) (2*i+1)=(p.laid j 0).getD i 0:=by
  unfold cR;erw[show (2*i+1) % 2=1 by lia,show (2*i+1) / 2=i by exact Nat.le_antisymm (bQ 1 [_,_] [] [.le (.r .p0 (nat_lit 2)) (.a (.l 2 .p1) .k1)] (.le .p0 .p1) aB (Nat.div_mul_le_self _ _)) (bQ 1 [_,_] [] [.lt (.a (.l 2 .p0) .k1) (.a (.r .p1 (nat_lit 2)) .k2)] (.le .p0 .p1) aB (Nat.lt_div_mul_add (by decide)))];rfl
 erw[← e0,← e1,show 2*(i+1)=2*i+1+1 by exact Eq.symm (Nat.succ_add (2*i) 1),← gX,← gX];simp
theorem aDc(p:LP)(j:Nat):eR p.count p.num (p.wd j) (2*min (p.laid j 1).length (p.laid j 0).length)++((p.laid j 1).drop (p.laid j 0).length).take 1=eR p.count p.num (p.wd j) (bO p.count p.num (p.wd j)):=by
 unfold bO;show _=eR _ _ _ (if (p.laid j 1).length≤(p.laid j 0).length then 2*(p.laid j 1).length else 2*(p.laid j 0).length+1)
 by_cases h:(p.laid j 1).length≤(p.laid j 0).length
 ·erw[if_pos h,Nat.min_eq_left h,List.drop_of_length_le h];simp
 ·erw[if_neg h,Nat.min_eq_right (Nat.le_of_not_ge h),← gX]
  congr 1
  have hl:(p.laid j 0).length<(p.laid j 1).length:=Nat.lt_of_not_le h;erw[List.drop_eq_getElem_cons hl];unfold cR;erw[show 2*(p.laid j 0).length % 2=0 by exact Nat.mul_mod_right 2 (p.laid j 0).length,show 2*(p.laid j 0).length / 2=(p.laid j 0).length by exact Nat.le_antisymm (bQ 1 [_,_] [] [.le (.r .p0 (nat_lit 2)) (.l 2 .p1)] (.le .p0 .p1) aB (Nat.div_mul_le_self _ _)) (bQ 1 [_,_] [] [.lt (.l 2 .p0) (.a (.r .p1 (nat_lit 2)) .k2)] (.le .p0 .p1) aB (Nat.lt_div_mul_add (by decide)))];show [_]=[(p.laid j 1).getD _ 0]
  erw[List.getD_eq_getElem?_getD,List.getElem?_eq_getElem hl];rfl
noncomputable abbrev LP.due(p:LP)(j:Nat):List Int:=eR p.count p.num (p.wd j) (bO p.count p.num (p.wd j))
noncomputable abbrev V10(p:LP)(o:Nat→Obj)(j:Nat):aD:=("due",.lst ((p.due j).map .int))::V9 p o j
theorem kO(p:LP)(j r:Nat):(p.laid j r).length≤63:=by
 have hc:=bM p;have h:=pZ p j r p.count (Nat.le_refl _)
 have e:(p.laid j r).length=(((List.range p.count).map (p.wd j r)).flatten).length:=by
  unfold LP.laid dE;erw[← List.length_map (p.num r),List.map_flatten,List.map_map];rfl
 exact eF [.t 9 (.le .p0 (.k 7)),.le .p1 (.l 9 .p0),.eq .p2 .p1] (.le .p2 (.k 63)) aB hc.2 h e
theorem aDd:∀(wr:List Addr) (led:aF) (a:Addr),oN led wr a=if a∈wr then none else led a:=by
 intro wr;induction wr with
 | nil=>intro led a;simp[oN]
 | cons b r ih =>
  intro led a;show oN (del led b) r a=_
  erw[ih];by_cases h1:a∈r
  ·simp[h1]
  ·by_cases h2:a=b
   ·subst h2;simp[h1,del]
   ·simp[h1,h2,del]
noncomputable abbrev aB9(a b:Int):aD:=[("pair",.tup [.int a,.int b])]
theorem aFj(N:iO C)(hq:Q .next (V10 p o j) led) :
  WS C led (aY f z) (V9 p o j) (k+10) (exec (fJ 10) (aY f z).env) Q:=by
 refine WS.stmt (st':=.Assign _ _ _) rfl ?_;have s0:=kO p j 0;have s1:=kO p j 1;walk_at "v";refine iB ?_ (by with_unfolding_all exact⟨rfl,rfl,rfl,rfl,λ_=>rfl⟩) (λg hg=>by (have e1:=Option.some.inj hg;clear hg;subst e1);rfl);refine aI ?_;walk_at "v";refine SuY.lst Int.one_nonneg (o63) (bK (i:=1) (by decide)) ?_;walk_at "v";refine SuY.lst (Int.zero_le_ofNat 0) (z63) (bK (i:=0) (by decide)) ?_;walk_at "v";refine KcY.zipL λz' TI TO i1 i2 led' hZ hd he=>?_
 have hitl:sC led' (.itr z' [TI,TO,i1,i2] (dP ((p.laid j 1).map D.int) ((p.laid j 0).map D.int)))=led:=by
  show oN led' [z',TI,TO,i1,i2]=led
  funext a
  erw[aDd];split
  ·rename_i h;exact (hd a h).symm
  ·rename_i h;exact he a h
 have hzl:(dP ((p.laid j 1).map D.int) ((p.laid j 0).map D.int)).length=min (p.laid j 1).length (p.laid j 0).length:=by erw[iP,List.length_map,List.length_map]
 refine⟨_,λi vs' led'' acc=>i≤min (p.laid j 1).length (p.laid j 0).length∧vs'=[]∧led''=led∧acc=(eR p.count p.num (p.wd j) (2*i)).map .int,λY=>IterOfT.zip (λ_ _=>rfl) hZ,⟨[],rfl,Nat.zero_le _,rfl,hitl,rfl⟩,?_,?_⟩
 ·intro L cs Da i x vs2 led2 acc2 hx o21;(refine lQ o21 λhi o1 o2 o3=>?_;clear o21;subst o1;subst o2;subst o3);have hi2:i<min (p.laid j 1).length (p.laid j 0).length:=by erw[← hzl];exact (List.getElem?_eq_some_iff.mp hx).1
  have g1:((p.laid j 1).map D.int)[i]?=some (.int ((p.laid j 1).getD i 0)):=by erw[List.getElem?_map,List.getD_eq_getElem?_getD,List.getElem?_eq_getElem (eF [.lt .p0 .p1,.le .p1 .p2] (.lt .p0 .p2) aB hi2 (Nat.min_le_left _ _))];rfl
  have g0:((p.laid j 0).map D.int)[i]?=some (.int ((p.laid j 0).getD i 0)):=by erw[List.getElem?_map,List.getD_eq_getElem?_getD,List.getElem?_eq_getElem (eF [.lt .p0 .p1,.le .p1 .p2] (.lt .p0 .p2) aB hi2 (Nat.min_le_right _ _))];rfl
  rw[kW g1 g0]at hx
  (have e1:=Option.some.inj hx;clear hx;subst e1)
  have h2:=aDb p j i;generalize (p.laid j 1).getD i 0=a at *;generalize (p.laid j 0).getD i 0=b at *;walk_at "v";refine⟨λ_=>WC.nest rfl ?_ (λg hg=>by exact bN hg),λhc=>by exact dO hc⟩;walk_at "v";refine⟨_,λm vs' led' acc=>m≤2∧vs'=aB9 a b∧led'=led2∧acc=(eR p.count p.num (p.wd j) (2*i)++[a,b].take m).map .int,λY=>IterOf.tup,⟨aB9 a b,rfl,Nat.zero_le _,rfl,rfl,by simp⟩,?_,?_⟩
  ·intro m x vs3 led3 acc3 hx o21;(refine lQ o21 λhm o1 o2 o3=>?_;clear o21;subst o1;subst o2;subst o3);have hm2:m<2:=by have:=(List.getElem?_eq_some_iff.mp hx).1;simpa using this
   have hx2:∃v,[a,b][m]?=some v∧x=.int v:=by
    rcases aX hm2 with rfl|rfl
    ·(have e1:=Option.some.inj hx;clear hx;subst e1);exact⟨a,rfl,rfl⟩
    ·(have e1:=Option.some.inj hx;clear hx;subst e1);exact⟨b,rfl,rfl⟩
   (refine aL hx2 λv hv o1=>?_;clear hx2;subst o1)
   walk_at "v";refine⟨λ_=>WC.last rfl ?_,λhc=>by exact dO hc⟩;walk_at "v";refine⟨?_,aB9 a b,rfl,hm2,rfl,rfl,?_⟩
   ·erw[List.length_map,List.length_append,dH,List.length_take];simp;exact lz5 [.t 2 (.le .p0 (.k 63)),.t 2 (.lt .p1 .p2),.lt .p3 .k2,.t 2 (.le .p2 .p0),.le .p4 .p3] (.le (.a (.l 2 .p1) .p4) (.k 1000000)) aB s0 hi2 hm2 (Nat.min_le_right _ _) (Nat.min_le_left _ _)
   ·erw[List.take_add_one,hv];simp
  ·intro vs3 led3 acc3 o21;(refine lQ o21 λhm o1 o2 o3=>?_;clear o21;subst o1;subst o2;subst o3);refine⟨[],rfl,hi2,rfl,rfl,?_⟩;erw[h2];simp
 ·intro vs2 led2 acc2 o21;(refine lQ o21 λhi o1 o2 o3=>?_;clear o21;subst o1;subst o2;subst o3);erw[hzl];walk_at "v";refine SuY.lst Int.one_nonneg (o63) (bK (i:=1) (by decide)) ?_;walk_at "v";refine aI ?_;walk_at "v";refine SuY.lst (Int.zero_le_ofNat 0) (z63) (bK (i:=0) (by decide)) ?_;walk_at "v";refine KcY.len_lst (by erw[List.length_map];exact gN s0 aB) ?_;erw[List.length_map];walk_at "v";refine SlY.lst (lo:=some ((p.laid j 0).length:Int)) (hi:=none) (st:=none) (by decide) (by erw[List.length_map];exact eJ s1 aB) ?_;erw[pY];walk_at "v";refine SlY.lst (lo:=none) (hi:=some ((1:Nat):Int)) (st:=none) (by decide) (by erw[List.length_drop,List.length_map];exact bC [.le .p0 (.k 63),.le .p1 .p0] (.le .p1 (.k 1000000)) aB s1 (Nat.sub_le _ _)) ?_;erw[kM];refine λ_=>Op2.addl ?_ ?_
  ·erw[List.length_map,dH,List.length_take];exact eF [.t 2 (.le .p0 (.k 63)),.t 2 (.le .p1 .p0),.le .p2 .k1] (.le (.a (.l 2 .p1) .p2) (.k 1000000)) aB s0 (Nat.min_le_right _ _) (Nat.min_le_left _ _)
  erw[← List.map_drop,← List.map_take,← List.map_append,aDc];walk_at "v";exact hq
end
set_option tactic.hygienic false
noncomputable def kA(K:Nat)(t:Nat→Nat)(g:List Nat)(n:Nat):List Nat:=(List.range n).flatMap λi=>List.replicate (K*t (g.getD (i / K) 0)) (i % K)
theorem yS(K:Nat)(t:Nat→Nat)(g:List Nat)(n:Nat):kA K t g (n+1)=kA K t g n++List.replicate (K*t (g.getD (n / K) 0)) (n % K):=by
 unfold kA;erw[List.range_succ,List.flatMap_append];simp
theorem aCa(K m c:Nat):(List.replicate m c).flatMap (List.replicate K)=List.replicate (K*m) c:=by
 induction m with
 | zero=>rfl
 | succ m ih=>erw[List.replicate_succ,List.flatMap_cons,ih,List.replicate_append_replicate];congr 1;erw[Nat.mul_succ,Nat.add_comm]
theorem qA{K:Nat}(hK:0<K)(t:Nat→Nat)(g:List Nat):∀n,n≤g.length*K→kA K t g n=(jU K t (g.take (n / K))++spr (t (g.getD (n / K) 0)) (λc=>[c]) (n % K)).flatMap (List.replicate K)
 | 0,_=>by rw[Nat.zero_div,Nat.zero_mod];rfl
 | n+1,h=>by
  have ih:=qA hK t g n (by exact Nat.le_of_succ_le h);have hq:n / K<g.length:=Nat.div_lt_of_lt_mul (by rw[Nat.mul_comm];exact Nat.lt_of_succ_le h);have hg:g[n / K]?=some (g.getD (n / K) 0):=by rw[List.getD_eq_getElem?_getD,List.getElem?_eq_getElem hq];rfl
  rw[yS,ih,← aCa,← List.flatMap_append,List.append_assoc,← vV];by_cases hc:n % K+1=K
  ·have h1:=Nat.div_add_mod n K;have hn:n+1=K*(n / K+1):=by rw[Nat.mul_add];exact Nat.le_antisymm (lN [.eq (.a .p0 .k1) .p1,.eq .p2 (.a .p3 .p0)] (.le (.a .p2 .k1) (.a .p3 (.r .p1 (nat_lit 1)))) aB hc h1.symm) (lN [.eq .p0 (.a .p1 .k1),.eq (.a .p2 .p1) .p3] (.le (.a .p2 (.r .p0 (nat_lit 1))) (.a .p3 .k1)) aB hc.symm h1)
   have e1:(n+1) / K=n / K+1:=by rw[hn,Nat.mul_div_cancel_left _ hK]
   have e2:(n+1) % K=0:=by rw[hn,Nat.mul_mod_right]
   rw[e1,e2,hc,pM K t g (n / K) hg]
   congr 1
   show _=_++[]
   rw[List.append_nil]
  ·have hlt:n % K+1<K:=by have:=Nat.mod_lt n hK;exact Nat.lt_of_le_of_ne this hc
   have e1:(n+1) / K=n / K:=by
    have h1:=Nat.div_add_mod n K;rw[show n+1=K*(n / K)+(n % K+1) by exact Nat.add_left_inj.mpr (id (Eq.symm h1)),Nat.mul_add_div hK,Nat.div_eq_of_lt hlt];rfl
   have e2:(n+1) % K=n % K+1:=by
    have h1:=Nat.div_add_mod n K;rw[show n+1=K*(n / K)+(n % K+1) by exact Nat.add_left_inj.mpr (id (Eq.symm h1)),Nat.mul_add_mod,Nat.mod_eq_of_lt hlt]
   rw[e1,e2]
theorem aCb{K:Nat}(hK:0<K)(t:Nat→Nat)(g:List Nat){n:Nat}(h:n<g.length*K):∃B,(jU K t g).flatMap (List.replicate K)=kA K t g n++B:=by
 have hq:n / K<g.length:=Nat.div_lt_of_lt_mul (by erw[Nat.mul_comm];exact h);have hg:g[n / K]?=some (g.getD (n / K) 0):=by erw[List.getD_eq_getElem?_getD,List.getElem?_eq_getElem hq];rfl
 erw[qA hK t g n (Nat.le_of_succ_le h)];refine aN (xY (t (g.getD (n / K) 0)) (λc=>[c]) (n % K) (K - n % K)) λB hB=>?_
 have hm:=Nat.mod_lt n hK;rw[show n % K+(K - n % K)=K by exact Nat.le_antisymm (eF [.eq (.a .p0 .p1) .p2] (.le (.a .p1 .p0) .p2) aB (Nat.sub_add_cancel (bC [.lt .p0 .p1] (.le .p0 .p1) aB hm))) (eF [.le .p0 (.a .p1 .p2)] (.le .p0 (.a .p2 .p1)) aB (Nat.le_add_of_sub_le (Nat.le_refl _)))]at hB
 have e:jU K t g=jU K t (g.take (n / K))++spr (t (g.getD (n / K) 0)) (λc=>[c]) (n % K)++(B++jU K t (g.drop (n / K+1))):=by
  have e1:=pM K t g (n / K) hg;rw[hB]at e1;erw[← List.take_append_drop (n / K+1) g,mC,e1,List.take_append_drop];simp
 exact⟨(B++jU K t (g.drop (n / K+1))).flatMap (List.replicate K),by erw[e];simp⟩
theorem wU{K:Nat}(hK:0<K):∀(l:List Nat) (k:Nat),(l.flatMap (List.replicate K))[k]?=l[k / K]?
 | [],k=>by exact rfl
 | a::l,k=>by
  rw[List.flatMap_cons];rcases Nat.lt_or_ge k K with h|h
  ·rw[List.getElem?_append_left (by rw[List.length_replicate];exact h),Nat.div_eq_of_lt h,List.getElem?_replicate,if_pos h];rfl
  ·rw[List.getElem?_append_right (by rw[List.length_replicate];exact h),List.length_replicate,wU hK l]
   have:k / K=(k - K) / K+1:=by
    rw[← Nat.add_div_right _ hK,Nat.sub_add_cancel h]
   rw[this];rfl
theorem lL{α β:Type}{f g:α→List β}:∀{l:List α},(∀a∈l,f a=g a)→l.flatMap f=l.flatMap g
 | [],_=>rfl
 | a::l,h=>by rw[List.flatMap_cons,List.flatMap_cons,h a List.mem_cons_self,lL λb hb=>h b (List.mem_cons_of_mem _ hb)]
theorem aCc{K:Nat}(hK:2≤K)(h0:dG K t0)(h1:dG K t1)(j r:Nat):∃B,bZ K t0 t1 (j+1) r=bZ K t0 t1 j r++B:=by
 have ht:∀i,dG K (tm t0 t1 i):=λi=>by unfold tm;split<;>assumption
 refine cU (pK hK (ht (1 - r)) (ht r) j) λ_ B _ _ h=>?_
 exact⟨B,h⟩
theorem jG(p:LP)(hj:JOk p j):SimOk p.sg p.count p.turn (p.wd j) p.num p.stop:=by
 have hK:=bU p;have hc:=bM p;have S:=p.sgOk
 have hrl:∀r,r<2→p.count≤(bZ p.K p.t0 p.t1 j r).length*p.K:=λr hr=>by
  rcases aX hr with rfl|rfl
  ·exact hj.r0
  ·exact hj.r1
 have hget:∀r i,i<p.count→(p.row j r).getD i 0=p.K*tm p.t0 p.t1 (1 - r) ((bZ p.K p.t0 p.t1 j (1 - r)).getD (i / p.K) 0):=λr i hi=>by
  unfold LP.row eE;rw[List.getD_eq_getElem?_getD,List.getElem?_map,List.getElem?_range hi];rfl
 refine⟨by exact lke hc.1 aB,hc.2,λr k _ hk=>?_,λr k _ hk=>kN p j hk,λr k _ _=>tR p j r k,S.al,λr k hr hk=>?_,λr _=>if_pos rfl,λr _ c hcs=>?_⟩
 ·unfold LP.wd eP;rw[List.length_replicate]
 ·have hs:1 - (1 - r)=r:=by lia
  have e1:dE p.num (p.wd j) (1 - r) p.count=(kA p.K (tm p.t0 p.t1 r) (bZ p.K p.t0 p.t1 j r) p.count).map λc=>p.num (1 - r) (p.sg.getD c 0):=by
   unfold dE kA;rw[List.map_flatMap];refine lL λi hi=>?_
   have hi:=List.mem_range.mp hi;unfold LP.wd eP;rw[List.map_replicate,List.map_replicate,hget _ _ hi,hs,S.len]
  have hpre:∃B,(bZ p.K p.t0 p.t1 (j+1) (1 - r)).flatMap (List.replicate p.K)=kA p.K (tm p.t0 p.t1 r) (bZ p.K p.t0 p.t1 j r) p.count++B:=by
   rw[rQ p.K p.t0 p.t1 j (show 1 - r<2 by exact Nat.sub_lt_succ 1 r),hs];rcases Nat.lt_or_ge p.count ((bZ p.K p.t0 p.t1 j r).length*p.K)with q|q
   ·exact aCb (by exact Nat.pos_of_lt_mul_left q) _ _ q
   ·have e:=hrl r hr;have e:p.count=(bZ p.K p.t0 p.t1 j r).length*p.K:=by exact Nat.le_antisymm (hrl r hr) q
    refine⟨[],?_⟩;rw[List.append_nil,qA (by exact tU hK.1 aB) _ _ _ (by exact Nat.le_of_eq e),e,Nat.mul_div_cancel _ (by exact tU hK.1 aB),Nat.mul_mod_left,List.take_length];show _=List.flatMap _ (_++[])
    rw[List.append_nil]
  (refine aN hpre λB hB=>?_;clear hpre)
  have hlen:k<(kA p.K (tm p.t0 p.t1 r) (bZ p.K p.t0 p.t1 j r) p.count).length:=by
   have h2:=kO p j (1 - r)
   have h3:2*p.count≤(dE p.num (p.wd j) (1 - r) p.count).length:=by
    have key:∀n,n≤p.count→2*n≤(dE p.num (p.wd j) (1 - r) n).length:=by
     intro n;induction n with
     | zero=>intro _;exact Nat.zero_le _
     | succ n ih =>
      intro hn;have:=ih (by exact Nat.le_of_succ_le hn);rw[eH,List.length_append,List.length_map];have:=(kN p j (r:=1 - r) (show n<p.count by exact Nat.lt_of_succ_le hn)).1;lia
    exact key _ (Nat.le_refl _)
   rw[e1,List.length_map]at h3;exact eF [.le (.k 4) .p0,.lt .p1 .p0,.le (.l 2 .p0) .p2] (.lt .p1 .p2) aB hc.1 hk h3
  refine aN (aCc (t0:=p.t0) (t1:=p.t1) hK.1 (mX p).pos (mY p).pos j (1 - r)) λB2 hB2=>?_
  have hkl:k / p.K<(bZ p.K p.t0 p.t1 j (1 - r)).length:=Nat.div_lt_of_lt_mul (by have:=hrl (1 - r) (by exact Nat.sub_lt_succ 1 r);rw[Nat.mul_comm];exact Nat.lt_of_lt_of_le hk this)
  have e3:(kA p.K (tm p.t0 p.t1 r) (bZ p.K p.t0 p.t1 j r) p.count)[k]?=some ((bZ p.K p.t0 p.t1 j (1 - r)).getD (k / p.K) 0):=by
   have h1:=wU (show 0<p.K by exact tU hK.1 aB) (bZ p.K p.t0 p.t1 (j+1) (1 - r)) k;rw[hB,List.getElem?_append_left hlen]at h1;rw[h1,hB2,List.getElem?_append_left hkl,List.getD_eq_getElem?_getD,List.getElem?_eq_getElem hkl];rfl
  have hgl:(bZ p.K p.t0 p.t1 j (1 - r)).getD (k / p.K) 0<p.K:=nS (by exact tU hK.1 aB) j (1 - r) _ (by rw[List.getD_eq_getElem?_getD,List.getElem?_eq_getElem hkl];exact List.getElem_mem hkl);rw[e1,List.getElem?_map,e3]
  have hwl:(p.wd j r k).length=p.K*tm p.t0 p.t1 (1 - r) ((bZ p.K p.t0 p.t1 j (1 - r)).getD (k / p.K) 0):=by
   unfold LP.wd eP;rw[List.length_replicate,hget _ _ hk]
  rw[hwl];generalize (bZ p.K p.t0 p.t1 j (1 - r)).getD (k / p.K) 0=a at *;have ha:a<p.sg.length:=by rw[S.len];exact hgl
  have hgd:p.sg.getD a 0=p.sg[a]:=by rw[List.getD_eq_getElem?_getD,List.getElem?_eq_getElem ha];rfl
  have hne:p.sg.getD a 0≠46:=λz=>S.dot (by rw[← z,hgd];exact List.getElem_mem ha)
  show some (p.num (1 - r) (p.sg.getD a 0))=_
  unfold LP.num;rw[if_neg hne,hgd,S.nd.idxOf_getElem a ha]
 ·have hne:c≠46:=λz=>S.dot (z▸hcs)
  unfold LP.num;rw[if_neg hne];have ht:=rT p r (p.sg.idxOf c);have h1:2*1≤p.K*tm p.t0 p.t1 r (p.sg.idxOf c):=Nat.mul_le_mul hK.1 ht.1;have h2:p.K*tm p.t0 p.t1 r (p.sg.idxOf c)≤3*3:=Nat.mul_le_mul hK.2 ht.2;exact⟨(bF [.le (.l 2 .k1) .p0] (.ile (.k 2) (.c .p0)) aB h1),(bF [.le .p0 (.l 3 .k3)] (.ile (.c .p0) (.k 9)) aB h2)⟩
set_option tactic.hygienic false
theorem aCd{G:Array GenState}{A':Around}{e:Addr}{n:Str}{np sp cp lp rp xp:Pos}{xi:Nat}{Qs:Fl→aD→aF→Prop}(hN:C.mg "str"=none)(hks:fe.env.kindOf "str"=some .globalImplicit)(hkn:fe.env.kindOf n=some .local)(hdb:(n == ("__debug__":Str))=false)
  (hu:A'.units+2<cLine) (hF:FOk fe (hG vs n (.ref e)) F X) (S:St C fz led (Un F X) G s) (hsay:aCJ C e eO s) (hq:Qs (.ret (.bool true)) [] led)
  (he2:starEach [.Name n np] fe.env=(false,eval (.Name n np) fe.env)::starEach [] fe.env) :
  wpAny (model C.prog C.w) A' (execs [.Return (some (.Compare (.Call (.Name "str" sp) [.Name n np] [] cp) [.Eq] [.Constant (.str eO) xi xp] lp)) rp] fe.env) (λf s4=>∃fz4 G4 d led4 v,f=.ret v∧FzLe fz fz4∧GExt G G4∧Den fz4 v d∧St C fz4 led4 (Un F X) G4 s4∧Qs (.ret d) [] led4) No s:=by
 have hbb:C.mb "str"=some (.type "str"):=(C.bb "str" (by decide)).trans (by decide +kernel);refine wpAny_execs_cons (wpAny_Return_some (wpAny_Compare1 ?_ rfl));refine wpAny_Call_ofName ?_;refine Calls.Name_function_global hF.fn hks (Calls.loadGlobal_builtin (by erw[hF.glob];exact S.glob) hN (by erw[hF.blt];exact S.blt) hbb ?_) (by with_unfolding_all rfl);refine callWith_excType (by erw[he2];with_unfolding_all rfl) (fL (by erw[he2];with_unfolding_all rfl) (wpAny_items_cons ?_ he2));refine aL hF.loc λm hm hm2=>?_
 refine aL (S.at (aC hm)) λmv hn ho=>?_
 refine aL (ho n _ (hm2 n (.ref e) (by erw[dB,if_pos rfl]) hkn)) λv hv hden=>?_
 cases hden;refine wpAny_Name (wpAny_loadName_local hF.fn hkn hn hv ?_) hdb;refine wpAny_items_nil ?_;refine hsay A' _ _ s (λ_ _ h=>h) hu λtk=>?_
 refine Calls.Constant_str (PyProof.Rows.eq_str ?_);erw[show (eO == eO)=true from by decide +kernel];exact⟨fz,G,.bool true,led,_,rfl,.refl _,.refl _,.bool true,S.tok _,hq⟩
noncomputable def PNf(H:Prop)(row:List Int)(led2:aF)(I:Addr)(p:Nat):Option D→aF→Prop:=λo led'=>H∧match o with
 | some d=>∃x,row[p]?=some x∧d=.int x∧led'=upd led2 I (.lit (p+1) (row.map .int))
 | none=>row[p]?=none∧led'=del led2 I
theorem PNf.next(hH:H)(h:led2 I=some (.lit p (row.map .int))):NextW C Y led2 k I (PNf H row led2 I p):=by
 refine NextW.lit h (λd hd=>⟨hH,?_⟩) λhn=>⟨hH,?_⟩
 ·rw[List.getElem?_map]at hd
  (refine aL (Option.map_eq_some_iff.mp hd) λx hx o1=>?_;subst o1)
  exact⟨x,hx,rfl,rfl⟩
 ·rw[List.getElem?_map]at hn;exact⟨Option.map_eq_none_iff.mp hn,rfl⟩
theorem mG(E0:GiEnv C a)(hm:C.mg "_grouping_intervals"=some (.ref a))(h:GFn C f (aQ 17))(hrow:row.length≤1000)
  (hq:Q (.bool true) led):CallW C Y led (k+30) (.ref f) [.lst ((0::row).map .int)] Q:=by
 have N:=E0.N;refine CallW.less ?_;refine xP h rfl [("row",.lst ((0::row).map .int))] rfl rfl λL cs q code=>?_
 refine WT.cons ?_;intro F X hF hd A fz G s hA ⟨l,hfr⟩ S;refine wpAny_Try_except ?_;refine wpAny_execs_cons (wpAny_mono (aBZ (k:=k+20) (N:=2001) (Q:=λfl vs led2=>fl=.ret (.bool true)∧Less led led2) (λst n vs led2 I=>False) E0 hm rfl hF hd (hA.mono (bF [] (.le (.a (.a .p0 (.k 20)) (.k 4)) (.a .p0 (.k 29))) aB)) hfr S ?_ ?_ ?_ rfl (λ_ _=>by with_unfolding_all rfl) (λ_=>by with_unfolding_all rfl) (by with_unfolding_all rfl)) (λf s1 h1=>?_) λ_ _ x=>x)
 ·walk_at "v";refine⟨λI led2=>led I=none∧led2=upd led I (.lit 0 ((0::row).map .int)),λY=>IterN.lst λI hI=>⟨hI,rfl⟩,λI=>PNf (led I=none) (0::row) (upd led I (.lit 0 ((0::row).map .int))) I 0,?_,?_,?_,?_,?_⟩
  ·intro I led2 o21;obtain ⟨hI,rfl⟩:=o21;intro F' _;exact PNf.next hI (aA ..)
  ·intro I d led' o21;obtain ⟨_,x,_,rfl,_⟩:=o21;exact⟨x,rfl⟩
  ·rintro I led' (⟨n1,hn,rfl⟩| ⟨n1,x,hx,hxe,rfl⟩)
   ·exact dN hn
   ·(have e1:=Option.some.inj hx;clear hx;subst e1);(injection hxe with e1;injection e1 with e2;exfalso;injection e2)
  ·intro I led' fz' G' s' e o21;obtain ⟨n1,x,hx,hxe,rfl⟩:=o21;intro l0 g0 S' hh;refine aBG (k:=0) l0 g0 hF hd S' rfl rfl hh E0.ve rfl λA' s2 F2 hu hF2 hd2 S2 hsay=>?_
   refine aCd (N "str" (by decide)) rfl rfl (by decide) ?_ hF2 S2 hsay ⟨led,((Less.refl led).upd n1 _).upd n1 _,hq⟩ (by with_unfolding_all rfl);erw[hu];have:=hA.r.2.2;unfold cLine;exact bC [.lt (.a .p0 (.l 20 (.a .p1 (.k 29)))) (.k 9900)] (.lt (.a .p0 .k2) (.k 9900)) aB this
  ·intro I j led' hj0 hj1 o21;obtain ⟨n1,x,hx,hxe,rfl⟩:=o21
   (have e1:=Option.some.inj hx;clear hx;subst e1);(injection hxe with e1;subst e1);exact absurd rfl hj0
 ·intro i n vs2 led2 I F2 hF2 hd2 hJ;exact hJ.elim
 ·intro i n vs2 led2 I hJ;exact hJ.elim
 ·obtain ⟨fz1,G1,F1,vs1,led1,fl,l1,g1,e1,hF1,hd1,S1,rfl,hless⟩:=h1;cases f with
  | ret v=>exact⟨fz1,G1,F1,vs1,led1,.ret (.bool true),l1,g1,e1,hF1,hd1,S1,led,hless,hq⟩
  | _=>exact e1.elim
set_option tactic.hygienic false
section
variable {C:Cx} {led:aF} {k:Nat} {f:Addr} {z:GiZ} {Q:Fl→aD→aF→Prop}
theorem rU(p:LP)(hj:JOk p j)(hr:r<2):p.num (1 - r) (p.sg.getD 0 0)=((p.wd j r 0).length:Int)∧p.wd j r 0=List.replicate (p.wd j r 0).length (p.sg.getD 0 0):=by
 have H:=jG p hj;have hc:=bM p;have S:=p.sgOk;have hK:=bU p;have h1:=H.size r 0 hr (by exact tU hc.1 aB);have hw:=H.word (1 - r) 0 (by exact gN (Nat.sub_le _ _) aB) (by exact tU hc.1 aB);have hl:=(H.len (1 - r) 0 (by exact gN (Nat.sub_le _ _) aB) (by exact tU hc.1 aB)).1;have hz:0 % p.sg.length=0:=Nat.zero_mod _;refine⟨?_,?_⟩
 ·refine aN (gW (num:=p.num) (wd:=p.wd j) (1 - r) 1 (p.count - 1)) λB hB=>?_
  rw[show 1+(p.count - 1)=p.count by exact Nat.le_antisymm (bC [.eq (.a .p0 .k1) .p1] (.le (.a .k1 .p0) .p1) aB (Nat.sub_add_cancel (lke hc.1 aB))) (bC [.le .p0 (.a .p1 .k1)] (.le .p0 (.a .k1 .p1)) aB (Nat.le_add_of_sub_le (Nat.le_refl _)))]at hB;rw[hB,eH,hw]at h1;unfold eP at h1;rw[hz]at h1;obtain ⟨n,hn⟩:∃n,(p.wd j (1 - r) 0).length=n+1:=⟨_,(Nat.sub_add_cancel (by exact bF [.le .k2 .p0] (.le .k1 .p0) aB hl:1≤(p.wd j (1 - r) 0).length)).symm⟩;rw[hn,List.replicate_succ]at h1;have h1:some (p.num (1 - r) (p.sg.getD 0 0))=some ((p.wd j r 0).length:Int):=h1;injection h1
 ·have:=H.word r 0 hr (by exact tU hc.1 aB);unfold eP at this;rw[hz]at this;exact this
theorem aAn(p:LP):p.sg.getD 0 0∈p.sg∧(mk p.sg).cps[((0:Int)).toNat]?=some (p.sg.getD 0 0):=by
 have S:=p.sgOk;have hK:=bU p;have h:0<p.sg.length:=by erw[S.len];exact tU hK.1 aB
 have e:p.sg[0]?=some (p.sg.getD 0 0):=by erw[List.getD_eq_getElem?_getD,List.getElem?_eq_getElem h];rfl
 exact⟨List.mem_of_getElem? e,by show p.sg.toArray[0]?=_;erw[List.getElem?_toArray];exact e⟩
noncomputable abbrev V11(p:LP)(o:Nat→Obj)(j:Nat)(pg:Addr):aD:=("page",.ref pg)::V10 p o j
theorem aFk(N:iO C)(hj:JOk p j)(NU:NumOk C o (46::p.sg) p.num)(hmw:C.mg "_law_written"=some (.ref fw))(hfw:GFn C fw (aQ 15))
  (hq:∀pg,led pg=none→Q .next (V11 p o j pg) (upd led pg (.list ((aR (p.wd j 0 0) p.turn).map iS)))) :
  WS C led (aY f z) (V10 p o j) (k+20) (exec (fJ 11) (aY f z).env) Q:=by
 refine WS.stmt (st':=.Assign _ _ _) rfl ?_;refine cL (aAn p) λhs hcell=>?_
 refine cL (rU p hj (r:=0) (by decide)) λe1 e2=>?_
 refine dT (NU.at_ 1 (by decide)) λnk key nm hnk hDI hkey=>?_
 refine cZ (hkey _ (List.mem_cons_of_mem _ hs)) λj' hj' hkj hnj=>?_
 have hl:=kN p j (r:=0) (show 0<p.count by have:=bM p;exact tU this.1 aB);walk_at "v";refine aI ?_;walk_at "v";refine aI ?_;walk_at "v";refine SuY.str (by decide) (by decide) hcell ?_;walk_at "v";refine SuY.lst (bQ 0 [] [] [] (.ile (.k 0) (.k 1)) aB) (o63) (bK (i:=1) (by decide)) ?_;walk_at "v";refine SuY.str (by decide) (by decide) hcell ?_;refine SuY.dct hDI j' hj' hkj ?_;erw[hnj,show p.num 1 (p.sg.getD 0 0)=_ from e1];refine OpY.muls (jR _ (eJ hl.2 aB)) ?_;erw[nV,← e2];walk_at "v"; intro _;have hwr:=fD (p.wd j 0 0) p.turn;have ht:p.turn<12:=Nat.mod_lt _ (by decide);refine⟨hfw.keep,(iI (k:=k) N hfw (eJ hl.2 aB) (lkc ht aB) ?_).up (bF [] (.le (.a .p0 (.k 10)) (.a .p0 (.k 20))) aB)⟩;walk_at "v";refine KcY.list_strM (by show (aR (p.wd j 0 0) p.turn).toArray.size≤_;simp;exact bC [.t 2 (.le .p0 (.k 9)),.le .p1 (.a (.l 2 .p0) .k3)] (.le .p1 (.k 1000000)) aB hl.2 hwr) λpg hpg=>?_
 have hsi:bL (mk (aR (p.wd j 0 0) p.turn))=(aR (p.wd j 0 0) p.turn).map iS:=rfl;erw[hsi];walk_at "v";exact hq pg hpg
noncomputable abbrev AA(A0 A1:LxA)(i:Nat):LxA:=if i=0 then A0 else A1
theorem LexOk.lexL(h:LexOk B A cl)(line:Int)(text:List Nat)(pbk:List D):LexOk (Sc.lexL B A line text pbk) A cl:=by
 unfold Sc.lexL;refine LexOk.far' (LexOk.far' (LexOk.far' h ?_ _) ?_ _) ?_ _
 ·simp only[List.mem_cons,List.not_mem_nil,or_false,not_or];exact⟨h.far 1 0 rfl rfl (by decide),h.far 1 2 rfl rfl (by decide),h.far 1 3 rfl rfl (by decide),h.far 1 4 rfl rfl (by decide),h.far 1 5 rfl rfl (by decide)⟩
 ·simp only[List.mem_cons,List.not_mem_nil,or_false,not_or];exact⟨h.far 6 0 rfl rfl (by decide),h.far 6 2 rfl rfl (by decide),h.far 6 3 rfl rfl (by decide),h.far 6 4 rfl rfl (by decide),h.far 6 5 rfl rfl (by decide)⟩
 ·simp only[List.mem_cons,List.not_mem_nil,or_false,not_or];exact⟨h.far 7 0 rfl rfl (by decide),h.far 7 2 rfl rfl (by decide),h.far 7 3 rfl rfl (by decide),h.far 7 4 rfl rfl (by decide),h.far 7 5 rfl rfl (by decide)⟩
noncomputable abbrev mZ(A:LxA):List Addr:=[A.x,A.dx,A.st,A.sd,A.rf,A.cp,A.pg,A.pb]
theorem LexOk.some(h:LexOk B A cl)(line:Int)(text:List Nat)(pbk:List D):∀a∈mZ A,Sc.lexL B A line text pbk a≠none:=by
 intro a ha hn;have h2:=h.lexL line text pbk;refine aN h2.st λ_ s=>?_
 obtain ⟨_,_,_,_,_,_,_,_,r,_⟩:=h2.rf;simp only[List.mem_cons,List.not_mem_nil,or_false]at ha;rcases ha with rfl|rfl|rfl|rfl|rfl|rfl|rfl|rfl
 ·exact aH hn h2.x
 ·exact aH hn (cG h)
 ·exact aH hn s
 ·exact aH hn h2.sd
 ·exact aH hn r
 ·exact aH hn h2.cp
 ·exact aH hn (iG h)
 ·exact aH hn eL
noncomputable def pick(l:List Addr)(is:List Nat):List Addr:=is.filterMap (l[·]?)
theorem rV(h:l.Nodup)(hd:∀i∈is,i∉js):∀a∈pick l is,a∉pick l js:=λa ha hb=>by
 refine aL (List.mem_filterMap.mp ha) λi hi e1=>?_
 refine aL (List.mem_filterMap.mp hb) λj hj e2=>?_
 exact hd i hi ((List.getElem?_inj (List.getElem?_eq_some_iff.mp e1).1 h).mp (e1.trans e2.symm)▸hj)
theorem aAo{l:List Addr}(h:l.Nodup):∀is:List Nat,is.Nodup→(pick l is).Nodup
 | [],_=>.nil
 | i::is,hn=>by
  have ih:=aAo h is (List.nodup_cons.mp hn).2;cases e:l[i]? with
  | none=>rw[show pick l (i::is)=pick l is from List.filterMap_cons_none e];exact ih
  | some a =>
   rw[show pick l (i::is)=a::pick l is from List.filterMap_cons_some e];exact List.nodup_cons.mpr ⟨rV h (is:=[i]) (λk hk=>List.mem_singleton.mp hk▸(List.nodup_cons.mp hn).1) a (List.mem_filterMap.mpr ⟨i,List.mem_cons_self,e⟩),ih⟩
theorem gB{l:List Addr}{a:Addr}(i:Nat)(h:l[i]?=some a):a∈l:=List.mem_of_getElem? h
theorem aA7(hb:b∈mZ A)(hn:b≠A.pg):b∈pick (mZ A) [0,1,2,3,4,5,7]:=by
 refine aN (List.mem_iff_getElem?.mp hb) λi hi=>?_
 have hlt:i<8:=(List.getElem?_eq_some_iff.mp hi).1;refine List.mem_filterMap.mpr ⟨i,(show ∀i,i<8→i≠6→i∈[0,1,2,3,4,5,7] by decide) i hlt λz=>?_,hi⟩;subst z;exact hn (Option.some.inj hi).symm
theorem aDe{cl pg0 pg1:Addr}{A0 A1:LxA}{text w:List Nat}(h0:LexOk B0 A0 cl)
  (hp1:lexL B0 A0 1 text [] pg1=none) (h1:LexOk B1 A1 cl) (e1:A1.pg=pg1) (l1:Less (upd (lexL B0 A0 1 text []) pg1 (.list [iS 46])) B1) (f1:∀a∈[A1.x,A1.dx,A1.st,A1.sd,A1.rf,A1.cp,A1.pb],upd (lexL B0 A0 1 text []) pg1 (.list [iS 46]) a=none) :
  LexP cl (AA A0 A1) (lexL B1 A1 1 [46] [bB w]) text w:=by
 have s0:=h0.some 1 text []
 have hx:∀a∈mZ A0,∀b∈mZ A1,a≠b:=λa ha b hb z=>by
  subst z;have hne:a≠pg1:=λz=>s0 a ha (z▸hp1)
  exact s0 a ha ((aG _ _ hne).symm.trans (f1 a (aA7 hb (e1▸hne))))
 have hB:∀a∈mZ A0,∀m,lexL B0 A0 1 text [] a=some m→lexL B1 A1 1 [46] [bB w] a=some m:=λa ha m e =>
  (eD h1 (hx a ha _ (gB 1 rfl)) (hx a ha _ (gB 6 rfl)) (hx a ha _ (gB 7 rfl))).trans (l1 a m ((aG _ _ λz:a=pg1=>s0 a ha (by erw[z];exact hp1)).trans e))
 have o0:=h0.lexL 1 text [];have hn:(mZ A0++mZ A1).Nodup:=List.nodup_append.mpr ⟨h0.nd,h1.nd,hx⟩;refine⟨λi hi=>?_,?_,aAo hn [1,6,7,9,14,15] (by decide),rV hn (is:=[1,6,7,9,14,15]) (js:=[0,2,3,4,5,8,10,11,12,13]) (by decide)⟩
 ·rcases aX hi with e|e
  ·erw[e];refine aN o0.st λfd st=>?_
   obtain ⟨fdr,cells,args,body,scope,nm,nm',pos,hrf,hr⟩:=o0.rf;exact⟨h0.nd,hB _ (gB 0 rfl) _ o0.x,⟨fd,hB _ (gB 2 rfl) _ st⟩,hB _ (gB 3 rfl) _ o0.sd,⟨fdr,cells,args,body,scope,nm,nm',pos,hB _ (gB 4 rfl) _ hrf,hr⟩,hB _ (gB 5 rfl) _ o0.cp⟩
  ·erw[e];exact h1.lexL 1 [46] [bB w]
 ·exact List.forall_mem_cons.mpr ⟨hB _ (gB 1 rfl) _ (cG h0),List.forall_mem_cons.mpr ⟨hB _ (gB 6 rfl) _ (iG h0),List.forall_mem_cons.mpr ⟨hB _ (gB 7 rfl) _ eL,List.forall_mem_cons.mpr ⟨cG h1,List.forall_mem_cons.mpr ⟨iG h1,List.forall_mem_cons.mpr ⟨eL,λ_ h=>by cases h⟩⟩⟩⟩⟩⟩
noncomputable abbrev V12(p:LP)(o:Nat→Obj)(j:Nat)(pg x0 x1:Addr):aD:=("lexers",.lst [.ref x0,.ref x1])::V11 p o j pg
theorem aFl(N:iO C)(E:NetEnv C cl mN)(hcl:C.mg "_netrclex"=some (.ref cl))(hml:C.mg "_law_lexer"=some (.ref fl))(h:GFnC C fl (aQ 14) c "_law_lexer")(hct:C.ct c Pl)
  (hd1:C.dq c posR="_law_lexer.<locals>._law_read") (hd2:C.dq c aD7="_law_lexer.<locals>.<lambda>") (hpg:led pg=some (.list (text.map iS)))
  (hq:∀B0 A0 pg1 B1 A1,LexOk B0 A0 cl→A0.pg=pg→Less led B0→(∀a∈[A0.x,A0.dx,A0.st,A0.sd,A0.rf,A0.cp,A0.pb],led a=none)→lexL B0 A0 1 text [] pg1=none→LexOk B1 A1 cl→A1.pg=pg1→Less (upd (lexL B0 A0 1 text []) pg1 (.list [iS 46])) B1 →
   (∀a∈[A1.x,A1.dx,A1.st,A1.sd,A1.rf,A1.cp,A1.pb],upd (lexL B0 A0 1 text []) pg1 (.list [iS 46]) a=none)→Q .next (V12 p o j pg A0.x A1.x) (lexL B1 A1 1 [46] [])) :
  WS C led (aY f z) (V11 p o j pg) (k+40) (exec (fJ 12) (aY f z).env) Q:=by
 refine WS.stmt (st':=.Assign _ _ _) rfl ?_;walk_at "v";refine WE.list ?_;refine WL.cons ?_;refine aI ?_;walk_at "v";refine Y1 (λ_ z9=>⟨h.fn.keep,(jC (k:=k) E hcl h hct hd1 hd2 hpg z9).up (bF [] (.le (.a .p0 (.k 20)) (.a .p0 (.k 40))) aB)⟩) ?_;intro A0 B0 L0 e0 l0 f0;walk_at "v";refine aI ?_;walk_at "v";refine WE.listM ?_;walk_at "v";refine⟨by exact Nat.le_of_ble_eq_true rfl,λpg1 hpg1=>?_⟩;erw[show (".":Str)=⟨#[46]⟩ by decide +kernel];walk_at "v";refine Y1 (λ_ z9=>⟨h.fn.keep,(jC (k:=k) (text:=[46]) E hcl h hct hd1 hd2 (aA ..) z9).up (bF [] (.le (.a .p0 (.k 20)) (.a .p0 (.k 40))) aB)⟩) ?_;intro A1 B1 L1 e1 l1 f1;walk_at "v";refine⟨by exact Nat.le_of_ble_eq_true rfl,?_⟩;walk_at "v";exact hq B0 A0 pg1 B1 A1 L0 e0 l0 f0 hpg1 L1 e1 l1 f1
noncomputable abbrev V13(p:LP)(o:Nat→Obj)(j:Nat)(A:Nat→LxA):aD:=("lexers",.lst ((List.range 2).map λi=>.ref (A i).x))::V11 p o j (A 0).pg
theorem aFm{p:LP}{o:Nat→Obj}{j:Nat}{pg cl:Addr}{A0 A1:LxA}{mN:Str→Option Value}(N:iO C)(E:NetEnv C cl mN)(hj:JOk p j)(NU:NumOk C o (46::p.sg) p.num)(L1:LexOk B1 A1 cl)
  (hq:Q .next (V12 p o j pg A0.x A1.x) (lexL B1 A1 1 [46] [bB (p.wd j 1 0)])) :
  WS C (lexL B1 A1 1 [46] []) (aY f z) (V12 p o j pg A0.x A1.x) (k+30) (exec (fJ 13) (aY f z).env) Q:=by
 refine WS.stmt (st':=.Expr _ _) rfl ?_;refine aN E.pt λfpt mp=>?_
 refine cZ mp.obj λop po1 po2 po3=>?_
 refine cL (aAn p) λhs hcell=>?_
 refine cL (rU p hj (r:=1) (by decide)) λe1 e2=>?_
 refine dT (NU.at_ 0 (by decide)) λnk key nm hnk hDI hkey=>?_
 refine cZ (hkey _ (List.mem_cons_of_mem _ hs)) λj' hj' hkj hnj=>?_
 have hl:=kN p j (r:=1) (show 0<p.count by have:=bM p;exact tU this.1 aB);walk_at "v";refine cQ (pl:=_) ?_;walk_at "v";refine SuY.lst (d:=.ref A1.x) (by decide) (by decide) rfl ?_;refine⟨_,_,λY=>GetM.inst E.cls (eU L1) (cG L1) mp.at_ po1 po3 po2 ol7 rfl,?_⟩;walk_at "v";refine SuY.str (by decide) (by decide) hcell ?_;walk_at "v";refine SuY.lst (bQ 0 [] [] [] (.ile (.k 0) (.k 0)) aB) (z63) (bK (i:=0) (by decide)) ?_;walk_at "v";refine SuY.str (by decide) (by decide) hcell ?_;refine SuY.dct hDI j' hj' hkj ?_;erw[hnj,show p.num 0 (p.sg.getD 0 0)=_ from e1];refine OpY.muls (jR _ (eJ hl.2 aB)) ?_;erw[nV,← e2];walk_at "v";refine Y1 (λ_ z9=>⟨mp.fn.keep,(iR (k:=k) E mp.fn L1 (Nat.zero_le _) z9).up (bF [] (.le (.a .p0 (.k 10)) (.a .p0 (.k 30))) aB)⟩) ?_;refine⟨rfl,?_⟩;exact hq
end
set_option tactic.hygienic false
theorem yT(h:CallW C Y led k f ds λd led1=>∃t r0 r1 ts x0 x1,d=.tup [.ref t,.lst [.ref r0,.ref r1]]∧r0≠t∧r1≠t∧r1≠r0∧led1 t=some (.list ts)∧led1 r0=some (.list x0)∧led1 r1=some (.list x1)∧Q (.tup [.lst ts,.lst [.lst x0,.lst x1]]) (del (del (del led1 t) r0) r1)):CallW C Y led k f ds Q:=by
 intro A fz G s fv us hA S e1 e2;refine aW (h A fz G s fv us hA S e1 e2) λv1 s1 fz1 G1 d1 led1 l1 g1 e3 S1 h1=>?_
 obtain ⟨t,r0,r1,ts,x0,x1,rfl,n1,n2,n3,ht,h0,h1,q⟩:=h1
 (refine aDJ e3.inv λa o vs n ha hc hd hden o1=>?_;subst o1)
 (refine cU hden.inv λu1 us2 y1 hden2 o1=>?_;subst o1)
 (refine cU hden2.inv λu2 us3 y2 hden3 o1=>?_;subst o1)
 obtain rfl:=hden3.inv;obtain rfl:=y1.inv
 (refine dT y2.inv λb ws m hb hdw o1=>?_;subst o1)
 (refine cU hdw.inv λw1 ws2 z1 hdw2 o1=>?_;subst o1)
 (refine cU hdw2.inv λw2 ws3 z2 hdw3 o1=>?_;subst o1)
 obtain rfl:=hdw3.inv;obtain rfl:=z1.inv;obtain rfl:=z2.inv;refine cZ (S1.freezeL ht) λfz2 l2 d2 S2=>?_
 have h0':del led1 t r0=some (.list x0):=by unfold del;erw[if_neg n1];exact h0
 refine cZ (S2.freezeL h0') λfz3 l3 d3 S3=>?_
 have h1':del (del led1 t) r0 r1=some (.list x1):=by unfold del;erw[if_neg n3,if_neg n2];exact h1
 refine cZ (S3.freezeL h1') λfz4 l4 d4 S4=>?_
 have l24:=l2.trans (l3.trans l4);exact⟨fz4,G1,_,_,l1.trans l24,g1,.tup (l24 _ _ ha) hc hd (.cons (d2.mono (l3.trans l4)) (.cons (.lst (l24 _ _ hb) (.cons (d3.mono l4) (.cons d4 .nil))) .nil)),S4,q⟩
theorem fN(D:RunD P)(i j:Nat)(hi:(dM P)[i]?=some a)(hj:(dM P)[j]?=some b)(hij:i≠j):a≠b:=λe =>
 hij ((List.getElem?_inj (List.getElem?_eq_some_iff.mp hi).1 D.nd).mp (by erw[hi,hj,e]))
theorem mH(T:aF)(h:b≠a):del T a b=T b:=by unfold del;erw[if_neg h]
section
variable {C:Cx} {led:aF} {k:Nat} {f:Addr} {z:GiZ} {Q:Fl→aD→aF→Prop}
noncomputable def LP.lines(p:LP)(j i:Nat):Int:=if i=0 then 1+(jS p.turn (p.wd j) p.count:Nat) else 1
noncomputable def LP.last(p:LP)(j:Nat):Int:=cR p.count p.num (p.wd j) (bO p.count p.num (p.wd j) - 1)
noncomputable def LP.fin(p:LP)(j:Nat):List Int:=p.due j++if p.stop=0 then [p.last j,p.last j] else []
noncomputable def LP.rd(p:LP)(j r:Nat):List (List Nat):=(List.range (p.count+2)).map (nW p.count (p.wd j) r)
noncomputable abbrev rdD(p:LP)(j:Nat):D:=.lst [.lst ((p.rd j 0).map bB),.lst ((p.rd j 1).map bB)]
noncomputable abbrev V14(p:LP)(o:Nat→Obj)(j:Nat)(A:Nat→LxA):aD:=("read",rdD p j)::("told",.lst ((p.fin j).map .int))::V13 p o j A
noncomputable def aFo(cl:Addr)(A:Nat→LxA)(p:LP)(j:Nat)(led:aF):Prop:=∀i,i<2→led (A i).x=some (.obj cl (A i).dx)∧led (A i).dx=some (.ns1 (gF (A i) (p.lines j i)))
theorem aFp
  (E0:GiEnv C ag) (hmg:C.mg "_grouping_intervals"=some (.ref ag)) (E:NetEnv C cl mN) (hmw:C.mg "_law_written"=some (.ref fw)) (hfw:GFn C fw (aQ 15)) (hmr:C.mg "_law_run"=some (.ref fr)) (h:GFnC C fr (aQ 16) c "_law_run") (hct:C.ct c Pc) (hdq:C.dq c aB3="_law_run.<locals>._law_size")
  (hj:JOk p j) (NU:NumOk C o (46::p.sg) p.num) (HL:LexP cl A led (aR (p.wd j 0 0) p.turn) (p.wd j 1 0)) (hq:∀led',aFo cl A p j led'→Q .next (V14 p o j A) led') :
  WS C led (aY f z) (V13 p o j A) (k+120) (exec (fJ 14) (aY f z).env) Q:=by
 refine WS.stmt (st':=.Assign _ _ _) rfl ?_;have H:=jG p hj;have S:=p.sgOk;have hK:=bU p;have hb:=cT H;have ht:p.turn<12:=Nat.mod_lt _ (by decide)
 have hstop:p.stop=0∨p.stop=127∨p.stop = -1:=by
  unfold LP.stop;rcases (by lia:p.h2 % 3=0∨p.h2 % 3=1∨p.h2 % 3=2)with e|e|e<;>rw[e]
  ·exact .inl rfl
  ·exact .inr (.inl rfl)
  ·exact .inr (.inr rfl)
 have hdl:((p.due j).map D.int).length=bO p.count p.num (p.wd j):=by rw[List.length_map,dH]
 have N:=E0.N;walk_at "v";refine aI ?_;walk_at "v";refine aI ?_;walk_at "v";refine KcY.len_lst (by rw[hdl];exact gN hb.2 aB) ?_;rw[hdl];walk_at "v"; intro _;refine⟨h.fn.keep,CallW.up (k:=k+100) (yT ?_) (by exact bF [] (.le (.a .p0 (.k 100)) (.a .p0 (.k 120))) aB)⟩;refine tO (k:=k) E0 hmg E hmw hfw h hct hdq H NU (λz=>by have:=S.len;rw[z]at this;simp at this;lia) (by rw[S.len];exact eJ hK.2 aB) (by exact lkd ht aB) hstop HL λq q1 q2 q3 q4 q5 q6 q7 D S' led' HR hr=>?_
 have hfin:q.fin=p.fin j:=by
  unfold RnP.fin RnP.last RnP.len LP.fin LP.last LP.due;rw[q2,q4,q5,q6]
 have hr0:(S' 0).r=p.rd j 0:=by rw[(hr 0 (by decide)).1];rfl
 have hr1:(S' 1).r=p.rd j 1:=by rw[(hr 1 (by decide)).1];rfl
 refine⟨q.P.t,q.P.R 0,q.P.R 1,_,_,_,rfl,fN D 4 10 rfl rfl (by decide),fN D 9 10 rfl rfl (by decide),fN D 9 4 rfl rfl (by decide),HR.tl,HR.r (by decide),HR.r (by decide),?_⟩;rw[hfin,hr0,hr1];walk_at "v";refine hq _ λi hi=>?_
 have hx:∀a,a∈dM q.P→(q.P.A i).x≠a:=λa ha e=>D.ns a ha (by
  rw[← e];unfold stat
  rcases aX hi with rfl|rfl<;>simp)
 have hd:(q.P.A i).dx≠q.P.t∧(q.P.A i).dx≠q.P.R 0∧(q.P.A i).dx≠q.P.R 1:=by
  rcases aX hi with rfl|rfl
  ·exact⟨fN D 0 10 rfl rfl (by decide),fN D 0 4 rfl rfl (by decide),fN D 0 9 rfl rfl (by decide)⟩
  ·exact⟨fN D 5 10 rfl rfl (by decide),fN D 5 4 rfl rfl (by decide),fN D 5 9 rfl rfl (by decide)⟩
 have hline:(S' i).line=p.lines j i:=by
  have hs:=(hr i hi).2;unfold nX at hs;unfold LP.lines;rcases aX hi with rfl|rfl
  ·rw[if_pos rfl]at hs ⊢;rw[hs.2.2,Nat.min_eq_right (by exact bF [] (.le .p0 (.a .p0 .k2)) aB)]
  ·rw[if_neg (show ¬(1:Nat)=0 by decide)]at hs ⊢;exact hs.2.2
 rw[← q7];constructor
 ·rw[mH _ (hx _ (by simp[dM])),mH _ (hx _ (by simp[dM])),mH _ (hx _ (by simp[dM]))];exact (HR.ok i hi).x
 ·rw[mH _ hd.2.2,mH _ hd.2.1,mH _ hd.1,HR.dx hi,hline]
end
set_option tactic.hygienic false
theorem aCe(h:∀c∈l,c<1000):(bB l).pure=true:=by
 show PyData.strOk (mk l)=true
 unfold PyData.strOk;erw[Array.all_eq_true];intro i hi;have hi':i<l.length:=by simpa using hi
 have:=h _ (List.getElem_mem hi');simp only[List.getElem_toArray,decide_eq_true_eq];lia
theorem kP:∀l:List (List Nat),(∀w∈l,∀c∈w,c<1000)→cE (l.map bB)=true
 | [],_=>rfl
 | a::r,h=>by
  have h1:=kP r λw hw=>h w (List.mem_cons_of_mem _ hw)
  have h2:=aCe (h a List.mem_cons_self);show ((bB a).pure && cE (r.map bB))=true
  rw[h1,h2];rfl
theorem kQ:∀l:List (List Nat),PyData.depthAll (fX (l.map bB))≤1
 | []=>by exact Nat.zero_le _
 | a::r=>by
  show max _ (PyData.depthAll (fX (r.map bB)))≤1
  exact Nat.max_le.mpr ⟨Nat.zero_le 1,kQ r⟩
theorem qB:∀l:List Int,PyData.depthAll (fX (l.map .int))≤1
 | []=>by exact Nat.zero_le _
 | a::r=>by
  show max _ (PyData.depthAll (fX (r.map D.int)))≤1
  exact Nat.max_le.mpr ⟨Nat.zero_le 1,qB r⟩
section
variable {C:Cx} {led:aF} {k:Nat} {f:Addr} {z:GiZ} {Q:Fl→aD→aF→Prop}
theorem aFq(p:LP)(j r:Nat):(p.rd j r).map bB=((List.range p.count).map λk=>bB (p.wd j r k))++[bB [46],bB []]:=by
 unfold LP.rd;erw[show p.count+2=p.count+1+1 from rfl,List.range_succ,List.range_succ,List.map_append,List.map_append,List.map_append,List.map_append,List.append_assoc]
 congr 1
 ·erw[List.map_map];refine List.map_congr_left λk hk=>?_
  show bB (nW _ _ _ _)=_
  unfold nW;erw[if_pos (List.mem_range.mp hk)]
 ·have a1:nW p.count (p.wd j) r p.count=[46]:=by unfold nW;erw[if_neg (Nat.lt_irrefl _),if_pos rfl]
  have a2:nW p.count (p.wd j) r (p.count+1)=[]:=by unfold nW;erw[if_neg Nat.not_succ_lt_self,if_neg (Nat.succ_ne_self p.count)]
  show [bB (nW p.count (p.wd j) r p.count)]++[bB (nW p.count (p.wd j) r (p.count+1))]=_
  erw[a1,a2];rfl
theorem aAp(p:LP)(j r:Nat):∀w∈p.rd j r,∀c∈w,c<1000:=by
 intro w hw c hc
 (refine aL (List.mem_map.mp hw) λk _ o1=>?_;subst o1)
 unfold nW at hc;split at hc
 ·have:=p.sgOk.lt c (tR p j r k c hc);exact lkc this aB
 ·split at hc
  ·rw[List.mem_singleton]at hc;subst hc;decide
  ·exact absurd hc List.not_mem_nil
theorem aEr(p:LP)(hj:JOk p j):(if p.stop=0 then (List.replicate 2 (((p.due j).map D.int).drop (((p.due j).map D.int).length - 1))).flatten else [])=(if p.stop=0 then [p.last j,p.last j] else []).map D.int:=by
 have hb:=cT (jG p hj);have hc:=bM p;by_cases h0:p.stop=0
 ·erw[if_pos h0,if_pos h0]
  have hl:p.due j=eR p.count p.num (p.wd j) (bO p.count p.num (p.wd j) - 1)++[p.last j]:=by
   unfold LP.due LP.last;erw[gX,show bO p.count p.num (p.wd j) - 1+1=bO p.count p.num (p.wd j) by exact Nat.le_antisymm (bC [.eq (.a .p0 .k1) .p1] (.le (.a .p0 .k1) .p1) aB (Nat.sub_add_cancel (bC [.le (.l 4 .p0) .p1,.t 4 (.le (.k 4) .p0)] (.le .k1 .p1) aB hb.1 hc.1))) (bC [.le .p0 (.a .p1 .k1)] (.le .p0 (.a .p1 .k1)) aB (Nat.le_add_of_sub_le (Nat.le_refl _)))]
  erw[hl,List.map_append];have:(List.map D.int (eR p.count p.num (p.wd j) (bO p.count p.num (p.wd j) - 1))++List.map D.int [p.last j]).length - 1=(List.map D.int (eR p.count p.num (p.wd j) (bO p.count p.num (p.wd j) - 1))).length:=by simp
  erw[this,List.drop_append,Nat.sub_self,List.drop_length];rfl
 ·erw[if_neg h0,if_neg h0];rfl
theorem aFr(N:iO C)(hj:JOk p j)(hq:Q .next (V14 p o j A) led) :
  WS C led (aY f z) (V14 p o j A) (k+30) (exec (fJ 15) (aY f z).env) Q:=by
 refine WS.stmt (st':=.If _ _ _ _) rfl ?_;have hb:=cT (jG p hj);have hc:=bM p;have hdl:((p.due j).map D.int).length=bO p.count p.num (p.wd j):=by erw[List.length_map,dH]
 have hfe:=aEr p hj;refine zF (WB.mono (Q:=λb led'=>b=false∧led'=led) ?_ ?_)
 ·refine rB (kE (WB.cmp1 (rF ?_)));refine WE.mono (Q:=λd led'=>d=.lst ((p.fin j).map .int)∧led'=led) ?_ ?_
  ·walk_at "v"
   have hfl:(p.fin j).map D.int=(p.due j).map D.int++(if p.stop=0 then (List.replicate 2 (((p.due j).map D.int).drop (((p.due j).map D.int).length - 1))).flatten else []):=by
    erw[hfe,← List.map_append];rfl
   refine⟨λh0=>?_,λh0=>?_⟩
   ·have h0:p.stop=0:=by simpa using h0
    rw[if_pos h0]at hfl;refine WE.frz ?_;walk_at "v";refine SlY.lst (lo:=some (-1)) (hi:=none) (st:=none) (by decide) (by erw[hdl];exact eJ hb.2 aB) ?_;erw[yP _ (λz=>by rw[z]at hdl;simp at hdl;lia)];have hlen:(((p.due j).map D.int).drop (((p.due j).map D.int).length - 1)).length=1:=by erw[List.length_drop];lia
    walk_at "v";refine OpY.mull (by decide) (by erw[hlen];decide) (by decide) (λz=>by rw[z]at hlen;(exfalso;injection hlen)) λa ha=>?_
    refine⟨a,_,rfl,aA ..,?_⟩;erw[kS _ _ _ ha];refine λ_=>Op2.addl ?_ ?_
    ·erw[hdl];simp;exact bC [.t 3 (.le .p0 (.k 127)),.t 2 (.le .p1 .p0)] (.le (.a .p0 (.a .p1 .p1)) (.k 1000000)) aB hb.2 (Nat.sub_le _ _)
    ·refine⟨?_,rfl⟩;erw[hfl];rfl
   ·have h0:p.stop≠0:=by simpa using h0
    rw[if_neg h0,List.append_nil]at hfl;refine WE.list ?_;walk_at "v";refine⟨by exact Nat.zero_le _,?_⟩;refine λ_=>Op2.addl ?_ ?_
    ·erw[hdl];simp;exact eJ hb.2 aB
    ·refine⟨?_,rfl⟩;erw[hfl,List.append_nil]
  ·intro d led' o21;(refine cL o21 λo1 o2=>?_;clear o21;subst o1;subst o2);refine λ_=>nM (k:=k+29) (fQ _) (fQ _) (.inl ?_) ?_
   ·have:=qB (p.fin j);show (PyData.list (fX ((p.fin j).map .int))).depth≤20
    erw[PyData.depth];exact bF [.le .p0 .k1] (.le (.a .p0 .k1) (.k 20)) aB this
   erw[gA (.lst ((p.fin j).map .int)) (fQ _)];walk_at "v";refine⟨λ_=>?_,λhc=>by exact dK hc⟩;walk_at "v";refine dS [] ?_;walk_at "v";refine⟨_,[some (.lst ((p.rd j 0).map bB)),some (.lst ((p.rd j 1).map bB))],λY=>IterOf.lst,by exact Nat.le_of_ble_eq_true rfl,by exact rfl,λL cs r x hx=>?_,?_⟩
   ·have hr:r<2:=by have:=(List.getElem?_eq_some_iff.mp hx).1;simpa using this
    rw[List.getElem?_map,List.getElem?_range hr]at hx
    (have e1:=Option.some.inj hx;clear hx;subst e1)
    walk_at "v";refine⟨rfl,?_⟩;walk_at "v";refine⟨λ_=>?_,λhc=>by exact dO hc⟩;walk_at "v";refine WE.list ?_;walk_at "v";refine⟨by exact Nat.le_of_ble_eq_true rfl,λ_=>Op2.addl (by simp;exact bQ 3 [_,_] [] [.le (.l 4 .p0) .p1,.le .p1 (.k 127)] (.le .p0 (.k 999998)) aB hb.1 hb.2) ?_⟩;erw[show (".":Str)=mk [46] by decide +kernel,show ("":Str)=mk [] by decide +kernel,show [D.str (mk [46]),D.str (mk [])]=[bB [46],bB []] from rfl,← aFq];refine⟨?_,rfl⟩;rcases aX hr with rfl|rfl<;>rfl
   ·have hp0:=kP _ (aAp p j 0);have hp1:=kP _ (aAp p j 1)
    have hpu:(rdD p j).pure=true:=by
     show ((cE ((p.rd j 0).map bB)) && (cE ((p.rd j 1).map bB) && true))=true
     erw[hp0,hp1];rfl
    refine λ_=>nM (k:=k+29) hpu hpu (.inl ?_) ?_
    ·have d0:=kQ (p.rd j 0);have d1:=kQ (p.rd j 1);show (PyData.list [PyData.list (fX ((p.rd j 0).map bB)),PyData.list (fX ((p.rd j 1).map bB))]).depth≤20
     simp only[PyData.depth,PyData.depthAll];lia
    erw[show D.lst ([some (D.lst ((p.rd j 0).map bB)),some (.lst ((p.rd j 1).map bB))].filterMap id)=rdD p j from rfl,gA _ hpu];walk_at "v";refine⟨λ_=>?_,λhc=>by exact dK hc⟩;walk_at "v";exact⟨rfl,rfl⟩
 ·intro b led' o21;(refine cL o21 λo1 o2=>?_;clear o21;subst o1;subst o2);refine⟨λhb=>(dK hb),λ_=>?_⟩;walk_at "v";exact hq
end
set_option tactic.hygienic false
open PySem.StrLaws PySem.Builtin PySem.Builtin.Str in
theorem kR(x:Str)(c:Nat):∀(n lo:Nat) (st:Array Nat×Nat),st.snd≤lo→st.fst.size≤lo→lo+n=x.length+1 →
  (forIn (List.range' lo n) st (occBody x ⟨#[c]⟩ x.length (x.length+1))).run.fst.size=st.fst.size+(x.cps.toList.drop lo).count c
 | 0,lo,st,_,_,h=>by
  have:x.cps.toList.drop lo=[]:=List.drop_of_length_le (by simp[Str.length]at h ⊢;exact Nat.le.intro (_root_.id (Eq.symm h)));rw[this];rfl
 | n+1,lo,st,h1,h2,h3=>by
  have hone:(⟨#[c]⟩:Str).length=1:=rfl;rw[List.range'_succ,List.forIn_cons];unfold occBody;by_cases hc:x.cps.toList[lo]?=some c
  ·have hs:=(subAt_one x c lo).mpr hc;rw[if_pos ⟨⟨⟨by exact lN [.le .p0 .p1,.eq .k1 .p2,.le (.a .p1 .p2) .p3] (.lt .p0 (.a .p3 .k1)) aB h2 hone.symm hs.1,h1⟩,hs.1⟩,hs.2⟩];refine aN (List.getElem?_eq_some_iff.mp hc) λhlt e=>?_
   have ih:=kR x c n (lo+1) (st.fst.push lo,lo+(⟨#[c]⟩:Str).length) (by rw[hone];exact Nat.le_refl _) (by simp;exact String.Pos.Raw.mk_le_mk.mp h2) (by exact Nat.le_antisymm (eF [.eq (.a .p0 (.a .p1 .k1)) (.a .p2 .k1)] (.le (.a (.a .p0 .k1) .p1) (.a .p2 .k1)) aB h3) (eF [.eq (.a .p0 .k1) (.a .p1 (.a .p2 .k1))] (.le (.a .p0 .k1) (.a (.a .p1 .k1) .p2)) aB h3.symm));show (forIn (List.range' (lo+1) n) (st.fst.push lo,lo+(⟨#[c]⟩:Str).length) (occBody x ⟨#[c]⟩ x.length (x.length+1))).run.fst.size=_
   rw[ih,List.drop_eq_getElem_cons hlt,e];simp;exact Nat.succ_add_eq_add_succ st.fst.size (List.count c (List.drop (lo+1) x.cps.toList))
  ·have hs:¬(((st.fst.size<x.length+1∧st.snd≤lo)∧lo+(⟨#[c]⟩:Str).length≤x.length)∧subAt x ⟨#[c]⟩ lo=true):=λh=>hc ((subAt_one x c lo).mp ⟨h.1.2,h.2⟩)
   rw[if_neg hs];have ih:=kR x c n (lo+1) (st.fst,st.snd) (by simp;exact Nat.le_add_right_of_le h1) (by simp;exact Nat.le_add_right_of_le h2) (by exact Nat.le_antisymm (eF [.eq (.a .p0 (.a .p1 .k1)) (.a .p2 .k1)] (.le (.a (.a .p0 .k1) .p1) (.a .p2 .k1)) aB h3) (eF [.eq (.a .p0 .k1) (.a .p1 (.a .p2 .k1))] (.le (.a .p0 .k1) (.a (.a .p1 .k1) .p2)) aB h3.symm));show (forIn (List.range' (lo+1) n) (st.fst,st.snd) (occBody x ⟨#[c]⟩ x.length (x.length+1))).run.fst.size=_
   rw[ih];by_cases hlt:lo<x.cps.toList.length
   ·rw[List.drop_eq_getElem_cons hlt,List.count_cons];have:x.cps.toList[lo]≠c:=λe=>hc (by rw[List.getElem?_eq_getElem hlt,e])
    rw[beq_eq_false_iff_ne.mpr this];simp
   ·rw[List.drop_of_length_le (by exact Nat.le_of_not_ge hlt),List.drop_of_length_le (by exact Nat.le_of_not_lt hlt)]
open PySem.StrLaws PySem.Builtin PySem.Builtin.Str in
theorem aA8(l:List Nat)(c:Nat):Txt.count (mk l) ⟨#[c]⟩=((l.count c:Nat):Int):=by
 unfold Txt.count;erw[occ_eq,Array.length_toList];have:=kR (mk l) c ((mk l).length+1 - 0) 0 (#[],0) (Nat.le_refl _) (Nat.le_refl _) (Nat.add_comm 0 ((mk l).length+1 - 0));erw[this];simp
theorem aCf(l:List Nat):Txt.count (mk l) "\n"=((l.count 10:Nat):Int):=by
 erw[show ("\n":Str)=⟨#[10]⟩ by decide +kernel];exact aA8 l 10
set_option tactic.hygienic true
noncomputable def qC(K:Nat)(t:Nat→Nat)(R:List Nat)(n:Nat):Nat:=wt K t (R.take (n / K))+n % K*t (R.getD (n / K) 0)
theorem rW{K:Nat}(hK:0<K)(t:Nat→Nat)(R:List Nat):∀n,n≤R.length*K→((List.range n).map λi=>K*t (R.getD (i / K) 0)).sum=K*qC K t R n
 | 0,_=>by unfold qC;rw[Nat.zero_div,Nat.zero_mod,List.take_zero,Nat.zero_mul];rfl
 | n+1,h=>by
  have ih:=rW hK t R n (by exact Nat.le_of_succ_le h);have hq:n / K<R.length:=Nat.div_lt_of_lt_mul (by rw[Nat.mul_comm];exact Nat.lt_of_succ_le h);have hg:R[n / K]?=some (R.getD (n / K) 0):=by rw[List.getD_eq_getElem?_getD,List.getElem?_eq_getElem hq];rfl
  rw[List.range_succ,List.map_append,List.sum_append,ih,List.map_cons,List.map_nil,List.sum_cons,List.sum_nil,Nat.add_zero,← Nat.mul_add]
  congr 1
  have h1:=Nat.div_add_mod n K;unfold qC;by_cases hc:n % K+1=K
  ·have hn:n+1=K*(n / K+1):=by rw[Nat.mul_add];exact Nat.le_antisymm (lN [.eq .p0 (.a .p1 .p2),.eq (.a .p2 .k1) .p3] (.le (.a .p0 .k1) (.a .p1 (.r .p3 (nat_lit 1)))) aB h1.symm hc) (lN [.eq (.a .p0 .p1) .p2,.eq .p3 (.a .p1 .k1)] (.le (.a .p0 (.r .p3 (nat_lit 1))) (.a .p2 .k1)) aB h1 hc.symm)
   have e1:(n+1) / K=n / K+1:=by rw[hn,Nat.mul_div_cancel_left _ hK]
   have e2:(n+1) % K=0:=by rw[hn,Nat.mul_mod_right]
   rw[e1,e2,List.take_add_one,hg,Option.toList_some,dQ,fZ,show wt K t []=0 from rfl,Nat.zero_mul]
   have:K*t (R.getD (n / K) 0)=n % K*t (R.getD (n / K) 0)+t (R.getD (n / K) 0):=by
    rw[← Nat.succ_mul];congr 1;exact hc.symm
   exact Nat.le_antisymm (lN [.eq (.a .p0 .p1) .p2] (.le (.a (.a .p3 .p0) .p1) (.a (.a .p3 (.a .p2 (.k 0))) (.k 0))) aB this.symm) (lN [.eq .p0 (.a .p1 .p2)] (.le (.a (.a .p3 (.a .p0 (.k 0))) (.k 0)) (.a (.a .p3 .p1) .p2)) aB this)
  ·have hlt:n % K+1<K:=by have:=Nat.mod_lt n hK;exact Nat.lt_of_le_of_ne this hc
   have e1:(n+1) / K=n / K:=by
    rw[show n+1=K*(n / K)+(n % K+1) by exact Nat.add_left_inj.mpr (id (Eq.symm h1)),Nat.mul_add_div hK,Nat.div_eq_of_lt hlt];rfl
   have e2:(n+1) % K=n % K+1:=by
    rw[show n+1=K*(n / K)+(n % K+1) by exact Nat.add_left_inj.mpr (id (Eq.symm h1)),Nat.mul_add_mod,Nat.mod_eq_of_lt hlt]
   rw[e1,e2,Nat.succ_mul];exact Nat.add_assoc (wt K t (List.take (n / K) R)) (n % K*t (R.getD (n / K) 0)) (t (R.getD (n / K) 0))
theorem yU{K:Nat}{a b:Int}{r s:Nat}(h:(K:Int)*a+r=K*b+s)(hr:r<K)(hs:s<K):a=b∧r=s:=by
 have hK:(0:Int)<K:=bC [.lt .p0 .p1] (.ilt (.k 0) (.c .p1)) aB hr;have e1:((K:Int)*a+r) / K=a:=by erw[Int.add_comm,Int.add_mul_ediv_left _ _ (Ne.symm (Int.ne_of_lt hK)),Int.ediv_eq_zero_of_lt (Int.natCast_nonneg r) (Int.ofNat_lt.mpr hr)];exact Int.zero_add a
 have e2:((K:Int)*b+s) / K=b:=by erw[Int.add_comm,Int.add_mul_ediv_left _ _ (Ne.symm (Int.ne_of_lt hK)),Int.ediv_eq_zero_of_lt (Int.natCast_nonneg s) (Int.ofNat_lt.mpr hs)];exact Int.zero_add b
 have:a=b:=by erw[← e1,← e2,h]
 subst this;exact⟨rfl,by exact Nat.le_antisymm (gZ [.ieq (.a .p0 (.c .p0)) (.a .p0 (.c .p1))] (.le .p0 .p1) aB h) (gZ [.ieq (.a .p0 (.c .p0)) (.a .p0 (.c .p1))] (.le .p0 .p1) aB h.symm)⟩
theorem yV(p:LP)(hj:JOk p j)(hw:w<2)(hn:n<p.count)(h:PlaceR p.K (tm p.t0 p.t1 w) (tm p.t0 p.t1 (1 - w)) (((p.row j w).take n).sum:Nat) r1 r2 r3):r1=n∧r2=0∧r3=0:=by
 have hK:=bU p;have ho:=gU (mX p) (mY p) w;have ht:=gU (mX p) (mY p) (1 - w)
 have hR:bZ p.K p.t0 p.t1 j (1 - w)=dX p.K (tm p.t0 p.t1 w) (tm p.t0 p.t1 (1 - w)) j 0:=by
  unfold bZ;rw[show 1 - (1 - w)=w from Nat.sub_sub_self (Nat.le_of_lt_succ hw)]
 have hl:p.count≤(bZ p.K p.t0 p.t1 j (1 - w)).length*p.K:=by
  rcases aX hw with rfl|rfl
  ·exact hj.r1
  ·exact hj.r0
 have hlt:=nS (K:=p.K) (t0:=p.t0) (t1:=p.t1) (by exact tU hK.1 aB) j (1 - w)
 have hsum:((p.row j w).take n).sum=p.K*qC p.K (tm p.t0 p.t1 (1 - w)) (bZ p.K p.t0 p.t1 j (1 - w)) n:=by
  rw[← rW (by exact tU hK.1 aB) _ _ _ (by exact eF [.lt .p0 .p1,.le .p1 .p2] (.le .p0 .p2) aB hn hl)];unfold LP.row eE;rw[← List.map_take,List.take_range,Nat.min_eq_left (by exact Nat.le_of_succ_le hn)]
 rw[hsum]at h;generalize bZ p.K p.t0 p.t1 j (1 - w)=R at *;have hq:n / p.K<R.length:=Nat.div_lt_of_lt_mul (by rw[Nat.mul_comm];exact Nat.lt_of_lt_of_le hn hl);have hg:R[n / p.K]?=some (R.getD (n / p.K) 0):=by rw[List.getD_eq_getElem?_getD,List.getElem?_eq_getElem hq];rfl
 have hc:=hlt _ (List.mem_of_getElem? hg)
 have hD:Dec p.K (tm p.t0 p.t1 w) (tm p.t0 p.t1 (1 - w)) j (qC p.K (tm p.t0 p.t1 (1 - w)) R n:Nat) ((n / p.K:Nat):Int) (R.getD (n / p.K) 0) (n % p.K) 0:=by
  refine⟨Nat.mod_lt _ (by exact Nat.zero_lt_of_lt hc),ht.pos _ hc,dX p.K (tm p.t0 p.t1 w) (tm p.t0 p.t1 (1 - w)) j (p.K - 1)++R.take (n / p.K),R.drop (n / p.K+1),?_,?_,?_⟩
  ·rw[← hR,List.append_assoc]
   congr 1
   have e:R.getD (n / p.K) 0::R.drop (n / p.K+1)=R.drop (n / p.K):=by
    rw[List.drop_eq_getElem_cons hq,List.getD_eq_getElem?_getD,List.getElem?_eq_getElem hq];rfl
   rw[e,List.take_append_drop]
  ·rw[List.length_append,List.length_take,Nat.min_eq_left (by exact Nat.le_of_succ_le hq)];exact Int.le_antisymm (bC [] (.ile (.c (.a .p0 .p1)) (.a (.c .p1) (.c .p0))) aB) (bC [] (.ile (.a (.c .p0) (.c .p1)) (.c (.a .p1 .p0))) aB)
  ·rw[dQ];unfold qC;push_cast;exact Int.le_antisymm (gZ [] (.ile (.a (.a (.c .p0) .p0) (.c .p1)) (.a (.a (.a (.c .p1) (.c .p0)) .p0) (.k 0))) aB) (gZ [] (.ile (.a (.a (.a (.c .p0) (.c .p1)) .p0) (.k 0)) (.a (.a (.c .p1) .p0) (.c .p0))) aB)
 cases h with|mk hD2 hc2 hb hp =>
 rename_i n' spot' m' c' run' rest' b';have hp2:(p.K:Int)*((qC p.K (tm p.t0 p.t1 (1 - w)) R n:Nat):Int)+((0:Nat):Int)=p.K*spot'+b':=by rw[← hp,Int.natCast_mul];simp
 refine cL (yU hp2 (by exact Nat.zero_lt_of_lt hc) hb) λes eb=>?_
 subst es eb
 (refine lQ (hD2.same hK.1 ho.pos ht.pos hD) λo1 _ o2 o3=>?_;subst o1;subst o2;subst o3)
 have h1:=Nat.div_add_mod n p.K;refine⟨?_,?_,rfl⟩
 ·rw[← Int.natCast_mul];exact Eq.symm ((λ{a b}=>Int.neg_inj.mp) (congrArg Neg.neg (congrArg Nat.cast (id (Eq.symm h1)))))
 ·exact rfl
section
variable {C:Cx} {led:aF} {k:Nat} {f:Addr} {z:GiZ} {Q:Fl→aD→aF→Prop}
noncomputable def LP.txt(p:LP)(j:Nat):List Nat:=(List.range p.count).flatMap λk=>aR (p.wd j 0 k) (p.turn+k)
noncomputable abbrev V16(p:LP)(o:Nat→Obj)(j:Nat)(A:Nat→LxA):aD:=("text",bB (p.txt j))::V14 p o j A
theorem aFs(N:iO C)(hmw:C.mg "_law_written"=some (.ref fw))(hfw:GFn C fw (aQ 15))(hq:Q .next (V16 p o j A) led) :
  WS C led (aY f z) (V14 p o j A) (k+30) (exec (fJ 16) (aY f z).env) Q:=by
 refine WS.stmt (st':=.Assign _ _ _) rfl ?_;have hc:=bM p;have ht:p.turn<12:=Nat.mod_lt _ (by decide);refine WS.assign (cQ (pl:=_) ?_);walk_at "v";refine⟨_,_,λY=>GetM.join,?_⟩;refine WL.cons (dS [("words",yR p j),("turn",aP p.turn)] ?_);refine aI ?_;walk_at "v";refine⟨_,((List.range p.count).map λk=>some (bB (aR (p.wd j 0 k) (p.turn+k)))),λY=>IterOf.rng (Int.sign_eq_neg_one_iff_neg.mp rfl) (z60) (bF [.le (.k 4) .p0] (.ilt (.g (.k 1152921504606846976)) (.c .p0)) aB hc.1) (bF [.le .p0 (.k 7)] (.ilt (.c .p0) (.k 1152921504606846976)) aB hc.2),by erw[aV];lia,by simp[aV],λL cs m x hx=>?_,?_⟩
 ·(refine cL (cP hx) λo1 hm=>?_;subst o1)
  have hm:m<p.count:=Nat.lt_of_succ_le hm;simp only[Int.zero_add];have hl:=kN p j (r:=0) hm;walk_at "v";refine⟨rfl,?_⟩;walk_at "v";refine⟨λ_=>?_,λhc=>by exact dO hc⟩;refine aI ?_;walk_at "v";refine SuY.lst (Int.zero_le_ofNat 0) (z63) (bK (i:=0) (by decide)) ?_;walk_at "v";refine SuY.lst (Int.natCast_nonneg m) (bC [.le .p0 (.k 7),.lt .p1 .p0] (.ilt (.c .p1) (.k 9223372036854775808)) aB hc.2 hm) (bK hm) ?_;walk_at "v"; intro _;erw[← Int.natCast_add];refine⟨hfw.keep,(iI (k:=k) N hfw (eJ hl.2 aB) (eF [.le .p0 (.k 7),.lt .p1 (.k 12),.lt .p2 .p0] (.lt (.a .p1 .p2) (.k 1000000)) aB hc.2 ht hm) ?_).up (bF [] (.le (.a .p0 (.k 10)) (.a .p0 (.k 30))) aB)⟩;refine⟨?_,rfl⟩;erw[List.getElem?_map,List.getElem?_range hm];rfl
 ·erw[show ((List.range p.count).map λk=>some (bB (aR (p.wd j 0 k) (p.turn+k))))=((((List.range p.count).map λk=>aR (p.wd j 0 k) (p.turn+k)).map mk).map D.str).map some by simp,bT]
  have hlen:(((List.range p.count).map λk=>aR (p.wd j 0 k) (p.turn+k)).flatten).length≤100000:=by
   have key:∀n,n≤p.count→(((List.range n).map λk=>aR (p.wd j 0 k) (p.turn+k)).flatten).length≤21*n:=by
    intro n;induction n with
    | zero=>intro _;exact Nat.le_refl _
    | succ n ih =>
     intro hn;have:=ih (Nat.le_of_succ_le hn);have h1:=fD (p.wd j 0 n) (p.turn+n);have h2:=(kN p j (r:=0) (show n<p.count by exact Nat.lt_of_succ_le hn)).2;erw[List.range_succ,List.map_append,List.flatten_append,List.length_append,List.map_cons,List.map_nil,List.flatten_cons,List.flatten_nil,List.append_nil];exact lN [.le .p0 (.l 21 .p1),.le .p2 (.a (.l 2 .p3) .k3),.t 2 (.le .p3 (.k 9))] (.le (.a .p0 .p2) (.l 21 (.a .p1 .k1))) aB this h1 h2
   have:=key _ (Nat.le_refl _);exact bC [.t 21 (.le .p0 (.k 7)),.le .p1 (.l 21 .p0)] (.le .p1 (.k 100000)) aB hc.2 this
  walk_at "v";refine KcY.join (mB _ hlen) ?_;erw[tC];walk_at "v";exact hq
theorem aFt(E0:GiEnv C ag)(hmg:C.mg "_grouping_intervals"=some (.ref ag))(E:NetEnv C cl mN)(hmr:C.mg "_law_refused"=some (.ref fr))(hfr:GFn C fr (aQ 17))(hL:aFo cl A p j led)(hj:JOk p j)(hq:Q .next (V16 p o j A) led) :
  WS C led (aY f z) (V16 p o j A) (k+60) (exec (fJ 17) (aY f z).env) Q:=by
 refine WS.stmt (st':=.If _ _ _ _) rfl ?_;have hb:=cT (jG p hj);have N:=E0.N
 have hfl:(p.fin j).length≤130:=by
  unfold LP.fin LP.due;erw[List.length_append,dH];split<;>simp<;>lia
 walk_at "v";refine dS [] ?_;walk_at "v";refine⟨_,[some (.int (p.lines j 0)),some (.int (p.lines j 1))],λY=>IterOf.lst,by exact Nat.le_of_ble_eq_true rfl,by exact rfl,λL cs r x hx=>?_,?_⟩
 ·have hr:r<2:=by have:=(List.getElem?_eq_some_iff.mp hx).1;simpa using this
  rw[List.getElem?_map,List.getElem?_range hr]at hx
  (have e1:=Option.some.inj hx;clear hx;subst e1)
  refine cL (hL r hr) λhx1 hx2=>?_
  walk_at "v";refine⟨rfl,?_⟩;walk_at "v";refine⟨λ_=>?_,λhc=>by exact dO hc⟩;walk_at "v";refine GaY.inst E.cls hx1 hx2 E.n1 ol1 rfl (λ_ z=>by (exfalso;injection z)) ?_;refine⟨?_,rfl⟩;rcases aX hr with rfl|rfl<;>rfl
 ·walk_at "v";refine WE.list ?_;walk_at "v";refine cQ (pl:=_) ?_;walk_at "v";refine⟨_,_,λY=>GetM.count,?_⟩;walk_at "v";refine KcY.count ?_;erw[aCf];walk_at "v";refine⟨by exact Nat.le_of_ble_eq_true rfl,?_⟩;have hlin:p.lines j 0=1+(((p.txt j).count 10:Nat):Int):=by unfold LP.lines jS LP.txt;erw[if_pos rfl]
  have hl1:p.lines j 1=1:=rfl;erw[hlin,hl1];have ev:=gA (.lst [.int (1+(((p.txt j).count 10:Nat):Int)),.int 1]) rfl;refine λ_=>nM (k:=k+59) (d:=.lst [.int (1+(((p.txt j).count 10:Nat):Int)),.int 1]) rfl rfl (.inl ?_) ?_
  ·show (PyData.list [PyData.int _,PyData.int _]).depth≤20
   exact Nat.le_of_ble_eq_true rfl
  erw[ev];walk_at "v";refine⟨λ_=>?_,λhc=>by exact dK hc⟩;refine kE (WB.not (WB.val (aI ?_)));walk_at "v";refine WE.list ?_;walk_at "v";refine⟨by exact Nat.le_of_ble_eq_true rfl,?_⟩;walk_at "v";refine OpY.addl (by simp;exact bF [.le .p0 (.k 130)] (.le (.a .k1 .p0) (.k 1000000)) aB hfl) ?_;walk_at "v";refine Y1 (λ_ z9=>⟨hfr.keep,(mG (k:=k+20) (row:=p.fin j) E0 hmg hfr (eJ hfl aB) z9).up (bF [] (.le (.a (.a .p0 (.k 20)) (.k 30)) (.a .p0 (.k 60))) aB)⟩) ?_;walk_at "v";refine⟨λ_=>?_,λhc=>by exact dK hc⟩;walk_at "v";refine⟨λhc=>(dK hc),λ_=>?_⟩;walk_at "v";exact hq
theorem aFu(V:DivEnv C)(hm:C.mg "int_divmod"=some (.ref fi))(hf:GFn C fi (aQ 10))(hmp:C.mg "_law_part"=some (.ref fp))(hfp:GFn C fp (aQ 19))(hml:C.mg "_law_place"=some (.ref fl))(h:GFn C fl (aQ 20))(hj:JOk p j)(hq:Q .next (V16 p o j A) led) :
  WS C led (aY f z) (V16 p o j A) (k+130) (exec (fJ 18) (aY f z).env) Q:=by
 refine WS.stmt (st':=.For _ _ _ _ _) rfl ?_;have hK:=bU p;have hc:=bM p;have N:=V.N;refine sE (λ_=>V16 p o j A) (λ_=>led) ?_;refine WE.list ?_;walk_at "v";refine⟨by exact Nat.le_of_ble_eq_true rfl,?_⟩;refine⟨[.int 0,.int 1],λY=>IterOf.lst,rfl,rfl,λw x hx=>?_,?_⟩
 ·(refine cL (lG hx) λo1 hw=>?_;subst o1)
  walk_at "v";refine sE (λ_=>(("which":Str),aP w)::V16 p o j A) (λ_=>led) ?_;refine aI ?_;walk_at "v";refine⟨_,λY=>IterOf.rng (Int.sign_eq_neg_one_iff_neg.mp rfl) (z60) (bF [.le (.k 4) .p0] (.ilt (.g (.k 1152921504606846976)) (.c .p0)) aB hc.1) (bF [.le .p0 (.k 7)] (.ilt (.c .p0) (.k 1152921504606846976)) aB hc.2),rfl,rfl,λn x hx=>?_,?_⟩
  ·(refine cL (cP hx) λo1 hn=>?_;subst o1)
   have hn:n<p.count:=Nat.lt_of_succ_le hn;simp only[Int.zero_add];have hrl:=aAm p j w;walk_at "v";refine aI ?_;walk_at "v";refine SuY.lst (Int.natCast_nonneg w) (lO hw aB) (bK hw) ?_;walk_at "v"; intro _;erw[show (1:Int) - (w:Int)=((1 - w:Nat):Int) by exact Int.le_antisymm (bC [.le .k1 (.a .p0 .p1)] (.ile (.s (.k 1) (.c .p1)) (.c .p0)) aB (Nat.le_add_of_sub_le (Nat.le_refl _))) (bC [.eq (.a .p0 .p1) .k1] (.ile (.c .p0) (.s (.k 1) (.c .p1))) aB (Nat.sub_add_cancel (lkd hw aB)))];refine SubW.lst (Int.natCast_nonneg (1 - w)) (lkh (Nat.sub_le _ _) aB) (bK (i:=1 - w) (Nat.sub_lt_succ 1 w)) ?_;walk_at "v";refine aI ?_;walk_at "v";refine SuY.lst (Int.natCast_nonneg w) (lO hw aB) (bK hw) ?_;walk_at "v";refine SlY.lst (lo:=none) (hi:=some (n:Int)) (st:=none) (by decide) (by erw[List.length_map,hrl];exact eJ hc.2 aB) ?_;erw[kM,← List.map_take]
   have hsm:∀x∈(p.row j w).take n,x≤9:=λx hx=>by
    refine aN (List.mem_iff_getElem?.mp (List.mem_of_mem_take hx)) λi hi=>?_
    have hil:i<p.count:=by erw[← hrl];exact (List.getElem?_eq_some_iff.mp hi).1
    have:=(tQ p j (r:=w) hil).2;rw[List.getD_eq_getElem?_getD,hi]at this;exact this
   have hss:∀l:List Nat,(∀x∈l,x≤9)→l.sum≤9*l.length:=by
    intro l;induction l with
    | nil=>intro _;exact Nat.le_refl _
    | cons a l ih =>
     intro h;have:=ih λx hx=>h x (List.mem_cons_of_mem _ hx)
     have:=h a List.mem_cons_self;erw[List.sum_cons,List.length_cons];lia
   have hs9:=hss _ hsm;rw[List.length_take,hrl]at hs9;walk_at "v";refine KcY.sumn (λx hx=>Nat.le_trans (hsm x hx) (by decide)) (by erw[List.length_take];exact eF [.le .p0 (.k 7),.lt .p1 .p0,.le .p2 .p1] (.le .p2 (.k 100000)) aB hc.2 hn (Nat.min_le_left _ _)) ?_;walk_at "v";refine Y1 (λ_ z9=>⟨h.keep,(jD (k:=k) V hm hf hmp hfp h hK.1 hK.2 (gU (mX p) (mY p) w) (gU (mX p) (mY p) (1 - w)) (by erw[Int.natAbs_natCast];exact lN [.t 9 (.le .p0 (.k 7)),.t 9 (.lt .p1 .p0),.le .p2 (.l 9 .p3),.t 9 (.le .p3 .p1)] (.le .p2 (.k 1048576)) aB hc.2 hn hs9 (Nat.min_le_left _ _)) z9).up (bF [] (.le (.a .p0 (.k 100)) (.a .p0 (.k 130))) aB)⟩) ?_;intro r1 r2 r3 hP
   (refine jW (yV p hj hw hn hP) λo1 o2 o3=>?_;subst o1;subst o2;subst o3)
   walk_at "v";refine⟨by exact Nat.le_of_ble_eq_true rfl,λ_=>nM (k:=k+129) rfl rfl (.inl ?_) ?_⟩
   ·show (PyData.tuple [PyData.int _,PyData.int _,PyData.int _]).depth≤20
    exact Nat.le_of_ble_eq_true rfl
   erw[gA (.tup [.int (n:Int),.int 0,.int 0]) rfl];walk_at "v";refine⟨λhc=>(dK hc),λ_=>?_⟩;walk_at "v";exact⟨rfl,rfl⟩
  ·walk_at "v";exact⟨rfl,rfl⟩
 ·exact hq
end
set_option tactic.hygienic true
section
variable {C:Cx} {led:aF} {fe:Fe} {vs:aD} {k:Nat}
theorem nA(h:WE C led fe vs k (eval e1 fe.env) (λd led1=>d=.bool true∧WE C led1 fe vs k (eval (.BoolOp .And (e2::rest) pos) fe.env) Q)):WE C led fe vs k (eval (.BoolOp .And (e1::e2::rest) pos) fe.env) Q:=by
 intro F X hF hd A fz G s hA S;refine BoolOp_and (aW (h F X hF hd A fz G s hA S) λv1 s1 fz1 G1 d1 led1 l1 g1 e3 S1 h1=>?_)
 (refine cL h1 ?_;clear h1;intro o1 h1;subst o1)
 induction e3 using dI;refine wpAny_truthy_bool ?_;erw[if_pos rfl];exact fin (h1 F X hF hd A fz1 G1 s1 hA S1) l1 g1
theorem yW(h:WE C led fe vs k (eval e fe.env) Q):WE C led fe vs k (eval (.BoolOp .And [e] pos) fe.env) Q:=h
theorem kB
  (h:WE C led fe vs k (eval l fe.env) λd1 led1=>WE C led1 fe vs k (eval r1 fe.env) λd2 led2=>∀Y,Op2 C Y led2 k (compareOp op1) d1 d2 λd3 led3=>d3=.bool true∧WE C led3 fe vs k (eval r2 fe.env) (aCq C k (compareOp op2) Q d2))
  (hm:autoParam (lastMarks [op1,op2] [r1,r2]=false) cD):WE C led fe vs k (eval (.Compare l [op1,op2] [r1,r2] pos) fe.env) Q:=by
 intro F X hF hd A fz G s hA S;refine Compare_chain (aW (h F X hF hd A fz G s hA S) λv1 s1 fz1 G1 d1 led1 l1 g1 e1 S1 h1=>?_) hm;refine chain_link (aW (h1 F X hF hd A fz1 G1 s1 hA S1) λv2 s2 fz2 G2 d2 led2 l2 g2 e2 S2 h2=>?_);refine aW (h2 _ A fz2 G2 s2 v1 v2 hA.r S2 (e1.mono l2) e2) λv3 s3 fz3 G3 d3 led3 l3 g3 e3 S3 h3=>?_
 (refine cL h3 ?_;clear h3;intro o1 h3;subst o1)
 induction e3 using dI;refine wpAny_truthy_bool ?_;erw[if_pos rfl];refine chain_last (aW (h3 F X hF hd A fz3 G3 s3 hA S3) λv4 s4 fz4 G4 d4 led4 l4 g4 e4 S4 h4=>?_);refine wpAny_mono (h4 _ A fz4 G4 s4 v2 v4 hA.r S4 (e2.mono (l3.trans l4)) e4) (λ_ _ p=>((p.trans l4 g4).trans l3 g3).trans (l1.trans l2) (g1.trans g2)) λ_ _ x=>x
end
theorem aCg{K:Nat}{t:Nat→Nat}(ht:dG K t):∀(l:List Nat),(∀x∈l,x<K)→K*l.length≤wt K t l
 | [],_=>Nat.le_refl _
 | a::l,h=>by
  have h1:=aCg ht l λx hx=>h x (List.mem_cons_of_mem _ hx)
  have h2:K*1≤K*t a:=Nat.mul_le_mul_left _ (ht a (h a List.mem_cons_self));rw[fZ,List.length_cons,Nat.mul_add];exact lN [.le .p0 .p1,.le (.r .p2 (nat_lit 1)) .p3] (.le (.a .p0 (.r .p2 (nat_lit 1))) (.a .p3 .p1)) aB h1 h2
theorem Dec.bound{K:Nat}(hK:2≤K)(ho:dG K own)(ht:dG K other){n:Nat}{spot m:Int}{c run rest:Nat}(h:Dec K own other n spot m c run rest):(K*m).natAbs≤spot.natAbs+K:=by
 obtain ⟨A,B,h1,h2,h3⟩:=h.ex;have hf:=fit h.run_lt h.rest_lt;have hL:=pL (K:=K) (own:=own) (other:=other) n (K - 1) (Nat.sub_one_lt_of_lt hK);have hR:=pL (K:=K) (own:=own) (other:=other) n 0 (Nat.zero_lt_of_lt hK);generalize dX K own other n (K - 1)=L at *;generalize dX K own other n 0=R at *;rcases Nat.lt_or_ge A.length L.length with q|q
 ·obtain ⟨Y,hY⟩:∃Y,L=A++c::Y:=by
   rcases List.append_eq_append_iff.mp h1 with ⟨D,e1,e2⟩| ⟨D,e1,e2⟩
   ·have:=congrArg List.length e1;rw[List.length_append]at this;lia
   ·cases D with
    | nil=>rw[List.append_nil]at e1;rw[e1]at q;exact absurd q (Nat.lt_irrefl _)
    | cons x D=>cases e2;exact⟨D,e1⟩
  subst hY;have hw:=aCg ht Y λx hx=>hL x (by simp[hx])
  rw[dQ,fZ]at h3;rw[List.length_append,List.length_cons]at h2;have hm:m = -((Y.length:Int)+1):=Int.le_antisymm (gZ [.ieq (.a .p0 (.c (.a .p0 (.a .p1 .k1)))) (.c .p0)] (.ile .p0 (.g (.a (.c .p1) (.k 1)))) aB h2.symm) (gZ [.ieq (.c .p0) (.a .p0 (.c (.a .p0 (.a .p1 .k1))))] (.ile (.g (.a (.c .p1) (.k 1))) .p0) aB h2);subst hm;have e:(K:Int) * -((Y.length:Int)+1) = -((K*Y.length+K:Nat):Int):=by push_cast;erw[Int.mul_neg,Int.mul_add,Int.mul_one]
  erw[e];have:((run:Int)*(other c:Int))=((run*other c:Nat):Int):=(Int.natCast_mul ..).symm;rw[this]at h3;exact nI (eF [.t 2 (.le .k2 .p0)] (.ile (.g (.c (.a .p1 .p0))) (.c (.a .p2 .p0))) aB hK) (bQ 0 [_,_,_,_,_,_,_,_] [_] [.lt (.a .p0 .p1) .p2,.ieq (.a .p0 (.c (.a .p3 (.a .p2 .p4)))) (.a (.a (.c .p3) (.c .p0)) (.c .p1)),.le .p5 .p4,.ile (.g .p0) (.c (.v (nat_lit 6)))] (.ile (.g (.g (.c (.a .p5 (.v (nat_lit 7)))))) (.c (.a (.v (nat_lit 6)) (.v (nat_lit 7))))) aB hf h3 hw tZ)
 ·obtain ⟨X,hX⟩:∃X,A=L++X:=by
   rcases List.append_eq_append_iff.mp h1 with ⟨D,e1,e2⟩| ⟨D,e1,e2⟩
   ·exact⟨D,e1⟩
   ·have:=congrArg List.length e1;rw[List.length_append]at this;have hD:D=[]:=List.length_eq_zero_iff.mp (Nat.le_antisymm (eF [.le .p0 .p1,.eq (.a .p1 .p2) .p0] (.le .p2 (.k 0)) aB q this.symm) (bF [] (.le (.k 0) .p0) aB));subst hD;exact⟨[],by erw[e1];simp⟩
  subst hX
  have hw:=aCg ht X λx hx=>by
   have hx2:x∈L++R:=by erw[h1];simp[hx]
   rcases List.mem_append.mp hx2 with z|z
   ·exact hL x z
   ·exact hR x z
  rw[dQ]at h3;rw[List.length_append]at h2;have hm:m=(X.length:Int):=Int.le_antisymm (gZ [.ieq (.a .p0 (.c .p0)) (.c (.a .p0 .p1))] (.ile .p0 (.c .p1)) aB h2.symm) (gZ [.ieq (.c (.a .p0 .p1)) (.a .p0 (.c .p0))] (.ile (.c .p1) .p0) aB h2);subst hm;erw[← Int.natCast_mul];have:((run:Int)*(other c:Int))=((run*other c:Nat):Int):=(Int.natCast_mul ..).symm;rw[this]at h3;exact nI (bQ 0 [_,_,_,_,_,_,_] [_] [.le .k2 .p0,.ieq (.a (.a (.c (.a .p1 .p2)) (.c .p3)) (.c .p4)) (.a .p0 (.c .p1)),.le .p5 .p2,.ile .p0 (.c (.v (nat_lit 6)))] (.ile (.c .p5) (.c (.a (.v (nat_lit 6)) .p0))) aB hK h3.symm hw (Int.le_natAbs)) (eF [.le .k2 .p0] (.ile (.g (.c .p1)) (.c (.a .p2 .p0))) aB hK)
theorem wV{K:Nat}(hK:2≤K)(ho:dG K own)(ht:dG K other){place r1 r2 r3 u1 u2 u3:Int}(h:PlaceR K own other place r1 r2 r3)(h':PlaceR K other own r1 u1 u2 u3) :
  ∃run',run'<K∧u1.fmod K=(run':Nat)∧r3=0∧u3=0∧0≤r2∧r2<((K*other run':Nat):Int)∧∀v1 v2 v3,PlaceR K own other (place - r2+((K*other run':Nat):Int)) v1 v2 v3→v1=r1+1∧v2=0∧v3=0:=by
 cases h with|mk hD hc hb hp =>
 rename_i n spot m c run rest b;generalize hr1:(K:Int)*m+run=r1 at *;cases h' with|mk hD' hc' hb' hp' =>
 rename_i n' spot' m' c' run' rest' b';refine cL (yU (hr1.trans hp') hD.run_lt hb') λe1 e2=>?_
 subst e1 e2;have hcs:=hD.sign hK ho ht hD';subst hcs;have hK0:(0:Int)<K:=bF [.le .k2 .p0] (.ilt (.k 0) (.c .p0)) aB hK;have hrl:=hD.rest_lt
 have hfit:rest*K+b<other c*K:=by
  have:(rest+1)*K≤other c*K:=Nat.mul_le_mul_right _ hrl;rw[Nat.succ_mul]at this;exact fit hrl hb
 refine⟨c,hc,?_,rfl,rfl,?_,?_,λv1 v2 v3 h2=>?_⟩
 ·erw[Int.add_comm,Int.add_mul_fmod_self_left,Int.fmod_eq_emod_of_nonneg _ (Int.natCast_nonneg K),Int.emod_eq_of_lt (Int.natCast_nonneg c) (Int.ofNat_lt.mpr hc)]
 ·erw[← Int.natCast_mul];exact Int.zero_le_ofNat (K*rest+b)
 ·erw[← Int.natCast_mul,Nat.mul_comm K rest,Nat.mul_comm K (other c)];exact Int.lt_of_toNat_lt hfit
 ·refine aEy (hD.next hK ho ht λn a ha=>pL n a ha) λn2 m2 c2 run2 hD2 he=>?_
  cases h2 with|mk hD3 hc3 hb3 hp3 =>
  rename_i n3 spot3 m3 c3 run3 rest3 b3
  have hp4:(K:Int)*(spot - rest+other c)+((0:Nat):Int)=K*spot3+b3:=by
   erw[← hp3,hp,Int.natCast_mul];have:(K:Int)*(spot - rest+other c)=K*spot - K*rest+K*other c:=by erw[Int.mul_add,Int.mul_sub]
   erw[this];simp;exact Eq.symm (Int.add_sub_add_right (↑K*spot) (↑b) (↑K*↑rest))
  refine cL (yU hp4 (Nat.zero_lt_of_lt hK) hb3) λe3 e4=>?_
  subst e3 e4
  (refine lQ (hD3.same hK ho ht hD2) λo1 _ o2 o3=>?_;subst o1;subst o2;subst o3)
  refine⟨?_,?_,rfl⟩
  ·erw[he,hr1]
  ·exact rfl
theorem wW{K:Nat}(hK:2≤K)(hK3:K≤3)(ho:dG K own)(ht:dG K other){place r1 r2 r3:Int}(h:PlaceR K own other place r1 r2 r3)(hp:place.natAbs≤40000):r1.natAbs≤41000:=by
 cases h with|mk hD hc hb hp' =>
 rename_i n spot m c run rest b;have h1:=hD.bound hK ho ht;have h2:=hD.run_lt
 have h3:spot.natAbs≤40002:=by
  have:(K:Int)*spot=place - b:=Eq.symm ((λ{b a c}=>Int.sub_eq_iff_eq_add.mpr) hp');have hs:((K:Int)*spot).natAbs=K*spot.natAbs:=by erw[Int.natAbs_mul,Int.natAbs_natCast]
  rw[this]at hs;have:1*spot.natAbs≤K*spot.natAbs:=Nat.mul_le_mul_right _ (Nat.one_le_of_lt hK);exact Nat.le_trans (Nat.le_trans (Nat.le_of_eq (Nat.one_mul _).symm) this) (Nat.le_trans (Nat.le_of_eq hs.symm) (Nat.le_trans (Int.natAbs_sub_le place b) (Nat.add_le_add hp (Nat.le_of_lt_succ (Nat.lt_of_lt_of_le hb hK3)))))
 exact Nat.le_trans (Int.natAbs_add_le ..) (Nat.le_trans (Nat.add_le_add (Nat.le_trans h1 (Nat.add_le_add h3 hK3)) (Nat.le_of_lt (Nat.lt_of_lt_of_le h2 hK3))) (by decide))
section
variable {C:Cx} {led:aF} {k:Nat} {f:Addr} {z:GiZ} {Q:Fl→aD→aF→Prop}
noncomputable def LP.w(p:LP):Nat:=p.h2 / 3 % 2
noncomputable abbrev LP.own(p:LP):Nat→Nat:=tm p.t0 p.t1 p.w
noncomputable abbrev LP.oth(p:LP):Nat→Nat:=tm p.t0 p.t1 (1 - p.w)
noncomputable def LP.place(p:LP):Int:=((p.h3 % 60001:Nat):Int) - 30001
noncomputable abbrev V19(p:LP)(o:Nat→Obj)(j:Nat)(A:Nat→LxA):aD:=("own",fH p.K p.own)::("other",fH p.K p.oth)::V16 p o j A
theorem aFv(N:iO C)(hq:Q .next (V19 p o j A) led) :
  WS C led (aY f z) (V16 p o j A) (k+10) (exec (fJ 19) (aY f z).env) Q:=by
 refine WS.stmt (st':=.Assign _ _ _) rfl ?_;have hw:p.w<2:=Nat.mod_lt _ (by decide);refine fY (names:=["own","other"]) ?_;walk_at "v";refine SuY.lst (d:=aP p.h2) (by decide) (by decide) rfl ?_;walk_at "v";refine OpY.fdivn 3 ?_;walk_at "v";refine OpY.modn 2 ?_;refine SuY.lst (Int.natCast_nonneg (p.h2 / 3 % 2)) (lO (Nat.mod_lt _ (by decide)) aB) (bK (i:=p.w) hw) ?_;walk_at "v";refine SuY.lst (d:=aP p.h2) (by decide) (by decide) rfl ?_;walk_at "v";refine OpY.fdivn 3 ?_;walk_at "v";refine OpY.modn 2 ?_;refine OpY.sub ?_;erw[show (1:Int) - ((p.h2 / 3 % 2:Nat):Int)=((1 - p.w:Nat):Int) by unfold LP.w at *;exact Int.le_antisymm (bC [.le .k1 (.a .p0 .p1)] (.ile (.s (.k 1) (.c .p1)) (.c .p0)) aB (Nat.le_add_of_sub_le (Nat.le_refl _))) (bC [.eq (.a .p0 .p1) .k1] (.ile (.c .p0) (.s (.k 1) (.c .p1))) aB (Nat.sub_add_cancel (lkd (Nat.mod_lt _ (by decide)) aB)))];refine SuY.lst (Int.natCast_nonneg (1 - p.w)) (lkh (Nat.sub_le _ _) aB) (bK (i:=1 - p.w) (Nat.sub_lt_succ 1 p.w)) ?_;walk_at "v";refine⟨by exact Nat.le_of_ble_eq_true rfl,_,rfl,rfl,?_⟩;show WUL C _ _ _ _ [bindName _ "other",bindName _ "own"] [_,_] _
 walk_at "v";exact hq
noncomputable abbrev V20(p:LP)(o:Nat→Obj)(j:Nat)(A:Nat→LxA):aD:=("place",.int p.place)::V19 p o j A
theorem aFw(N:iO C)(hq:Q .next (V20 p o j A) led) :
  WS C led (aY f z) (V19 p o j A) (k+10) (exec (fJ 20) (aY f z).env) Q:=by
 refine WS.stmt (st':=.Assign _ _ _) rfl ?_;walk_at "v";refine SuY.lst (d:=aP p.h3) (by decide) (by decide) rfl ?_;walk_at "v";refine OpY.modn 60001 ?_;walk_at "v";exact hq
structure PlEnv (C:Cx) (fl:Addr):Prop where
 V:DivEnv C
 dm:∃fi,C.mg "int_divmod"=some (.ref fi)∧GFn C fi (aQ 10)
 pt:∃fp,C.mg "_law_part"=some (.ref fp)∧GFn C fp (aQ 19)
 pl:C.mg "_law_place"=some (.ref fl)
 fn:GFn C fl (aQ 20)
theorem PlEnv.spec{fl:Addr}(E:PlEnv C fl){K:Nat}{own other:Nat→Nat}{place:Int}{Q:D→aF→Prop}(hK:2≤K)(hK3:K≤3)(ho:TbOk K own)(ht:TbOk K other)(hp:place.natAbs≤2 ^ 20)
  (hq:∀r1 r2 r3,PlaceR K own other place r1 r2 r3→Q (.tup [.int r1,.int r2,.int r3]) led):CallW C Y led (k+100) (.ref fl) [fH K own,fH K other,.int place] Q:=by
 refine aL E.dm λfi a b=>?_
 refine aL E.pt λfp c d=>?_
 exact jD E.V a b c d E.fn hK hK3 ho ht hp hq
noncomputable abbrev V21(p:LP)(o:Nat→Obj)(j:Nat)(A:Nat→LxA)(r1 r2 r3:Int):aD:=("over",.int r3)::("at",.int r2)::("run",.int r1)::V20 p o j A
theorem qD(p:LP):TbOk p.K p.own:=gU (mX p) (mY p) _
theorem mI(p:LP):TbOk p.K p.oth:=gU (mX p) (mY p) _
theorem aEs{r:Int}{s:Nat}(h0:0≤r)(h1:r<s):r.natAbs≤s:=Int.ofNat_le.mp (Int.le_trans (Int.le_of_eq (Int.natAbs_of_nonneg h0)) (Int.le_of_lt h1))
theorem jH(p:LP):p.place.natAbs≤30001:=by unfold LP.place;have:=Nat.mod_lt p.h3 (show 0<60001 by decide);exact nI (bF [.lt .p0 (.k 60001)] (.ile (.s (.c .p0) (.k 30001)) (.c (.k 30001))) aB this) (bF [] (.ile (.g (.s (.c .p0) (.k 30001))) (.c (.k 30001))) aB)
theorem aFx(E:PlEnv C fl)(hq:∀r1 r2 r3,PlaceR p.K p.own p.oth p.place r1 r2 r3→Q .next (V21 p o j A r1 r2 r3) led) :
  WS C led (aY f z) (V20 p o j A) (k+110) (exec (fJ 21) (aY f z).env) Q:=by
 refine WS.stmt (st':=.Assign _ _ _) rfl ?_;have hK:=bU p;have hp:=jH p;have hmp:=E.pl;walk_at "v";refine aI ?_;walk_at "v";refine Y1 (λ_ z9=>⟨E.fn.keep,(E.spec (k:=k) hK.1 hK.2 (qD p) (mI p) (eJ hp aB) z9).up (bF [] (.le (.a .p0 (.k 100)) (.a .p0 (.k 110))) aB)⟩) ?_;intro r1 r2 r3 hP;walk_at "v";exact hq r1 r2 r3 hP
noncomputable abbrev V22(p:LP)(o:Nat→Obj)(j:Nat)(A:Nat→LxA)(r1 r2 r3 u1 u2 u3:Int):aD:=("over_there",.int u3)::("at_there",.int u2)::("run_there",.int u1)::V21 p o j A r1 r2 r3
theorem aFy(E:PlEnv C fl)(hP:PlaceR p.K p.own p.oth p.place r1 r2 r3)(hq:∀u1 u2 u3,PlaceR p.K p.oth p.own r1 u1 u2 u3→Q .next (V22 p o j A r1 r2 r3 u1 u2 u3) led) :
  WS C led (aY f z) (V21 p o j A r1 r2 r3) (k+110) (exec (fJ 22) (aY f z).env) Q:=by
 refine WS.stmt (st':=.Assign _ _ _) rfl ?_;have hK:=bU p;have hp:=jH p;have hmp:=E.pl;have hb:=wW hK.1 hK.2 (qD p).pos (mI p).pos hP (eJ hp aB);walk_at "v";refine aI ?_;walk_at "v";refine Y1 (λ_ z9=>⟨E.fn.keep,(E.spec (k:=k) hK.1 hK.2 (mI p) (qD p) (eJ hb aB) z9).up (bF [] (.le (.a .p0 (.k 100)) (.a .p0 (.k 110))) aB)⟩) ?_;intro u1 u2 u3 hP2;walk_at "v";exact hq u1 u2 u3 hP2
noncomputable abbrev V23(p:LP)(o:Nat→Obj)(j:Nat)(A:Nat→LxA)(r1 r2 r3 u1 u2 u3:Int)(sz:Nat):aD:=("size",aP sz)::V22 p o j A r1 r2 r3 u1 u2 u3
theorem aFz{j:Nat}{r1 r2 r3 u1 u2 u3:Int}{rn:Nat}(N:iO C)(hr:rn<p.K)(hu:u1.fmod p.K=(rn:Nat))(hq:Q .next (V23 p o j A r1 r2 r3 u1 u2 u3 (p.K*p.oth rn)) led) :
  WS C led (aY f z) (V22 p o j A r1 r2 r3 u1 u2 u3) (k+10) (exec (fJ 23) (aY f z).env) Q:=by
 refine WS.stmt (st':=.Assign _ _ _) rfl ?_;have hK:=bU p;walk_at "v";refine OpY.mod (Int.ne_of_gt (bF [.le .k2 .p0] (.ilt (.k 0) (.c .p0)) aB hK.1)) ?_;erw[hu];refine SuY.lst (Int.natCast_nonneg rn) (bC [.lt .p0 .p1,.le .p1 .k3] (.ilt (.c .p0) (.k 9223372036854775808)) aB hr hK.2) (eX hr) ?_;refine OpY.muln ?_ (gN hK.2 aB);walk_at "v";exact hq
theorem aFA{j:Nat}{r1 r2 r3 u1 u2 u3:Int}{sz:Nat}(E:PlEnv C fl)(h3:r3=0)(hu3:u3=0)(h0:0≤r2)(h1:r2<(sz:Int))(hsz:sz≤9)
  (hn:∀v1 v2 v3,PlaceR p.K p.own p.oth (p.place - r2+(sz:Int)) v1 v2 v3→v1=r1+1∧v2=0∧v3=0) (hq:Q (.ret (.bool true)) (V23 p o j A r1 r2 r3 u1 u2 u3 sz) led) :
  WS C led (aY f z) (V23 p o j A r1 r2 r3 u1 u2 u3 sz) (k+130) (exec (fJ 24) (aY f z).env) Q:=by
 refine WS.stmt (st':=.Return _ _) rfl ?_;have hK:=bU p;have hp:=jH p;have hmp:=E.pl;subst h3 hu3;refine WS.ret (nA (kB ?_));walk_at "v";erw[show decide ((0:Int)≤r2)=true from decide_eq_true h0];refine⟨rfl,?_⟩;walk_at "v";erw[show decide (r2<(sz:Int))=true from decide_eq_true h1];refine⟨rfl,?_⟩;refine nA (kB ?_);walk_at "v";refine⟨rfl,?_⟩;walk_at "v";refine⟨rfl,?_⟩;refine yW ?_;walk_at "v";refine aI ?_;walk_at "v";refine Y1 (λ_ z9=>⟨E.fn.keep,(E.spec (k:=k) hK.1 hK.2 (qD p) (mI p) (Nat.le_trans (Int.natAbs_add_le ..) (Nat.le_trans (Nat.add_le_add (Nat.le_trans (Int.natAbs_sub_le ..) (Nat.add_le_add hp (aEs h0 h1))) hsz) (Nat.le_trans (Nat.add_le_add_right (Nat.add_le_add_left hsz _) _) (by decide)))) z9).up (bF [] (.le (.a .p0 (.k 100)) (.a .p0 (.k 130))) aB)⟩) ?_;intro v1 v2 v3 hP
 (refine jW (hn v1 v2 v3 hP) λo1 o2 o3=>?_;subst o1;subst o2;subst o3)
 walk_at "v";refine⟨by exact Nat.le_of_ble_eq_true rfl,λ_=>aCy (k:=k+129) rfl rfl (.inl ?_) ?_⟩
 ·show (PyData.tuple [PyData.int _,PyData.int _,PyData.int _]).depth≤20
  exact Nat.le_of_ble_eq_true rfl
 erw[gA (.tup [.int (r1+1),.int 0,.int 0]) rfl];exact hq
end
set_option tactic.hygienic false
structure LawEnv (C:Cx):Prop where
 V:DivEnv C
 lex:∃cl mN,LexEnv C cl mN
 gi:∃a,GiEnv C a∧C.mg "_grouping_intervals"=some (.ref a)
 wr:∃f,C.mg "_law_written"=some (.ref f)∧GFn C f (aQ 15)
 run:∃f c P,C.mg "_law_run"=some (.ref f)∧GFnC C f (aQ 16) c "_law_run"∧C.ct c P∧C.dq c aB3="_law_run.<locals>._law_size"
 rf:∃f,C.mg "_law_refused"=some (.ref f)∧GFn C f (aQ 17)
 gr:∃f,C.mg "_law_grown"=some (.ref f)∧GFn C f (aQ 18)
 pa:∃f,C.mg "_law_part"=some (.ref f)∧GFn C f (aQ 19)
 pl:∃f,C.mg "_law_place"=some (.ref f)∧GFn C f (aQ 20)
set_option maxHeartbeats 4000000 in
theorem aCh(E:LawEnv C){k:Nat}{fl:Addr}{xs:List Int}{Q:D→aF→Prop}(h:GFn C fl (aQ 21))(hx:xs.length≤1000)(hq:∀led',Q (.bool true) led'):CallW C Y led (k+200) (.ref fl) [.lst (xs.map .int)] Q:=by
 have V:=E.V;have N:=V.N;refine aDF E.lex λcl mN X=>?_
 have NE:=X.net;refine aFR X.mkl λfm c P hmk hmf hct hd1 hd2=>?_
 refine aL E.gi λa hgi hmgi=>?_
 refine aL E.wr λfwr hmwr hfwr=>?_
 refine wY E.run λfru cr Pr hmru hfru hctr hdr=>?_
 refine aL E.rf λfrf hmrf hfrf=>?_
 refine aL E.gr λfgr hmgr hfgr=>?_
 refine aL E.pa λfpa hmpa hfpa=>?_
 refine aL E.pl λfpl hmpl hfpl=>?_
 refine aL V.idm λfi hmi hfi=>?_
 have PE:PlEnv C fpl:=⟨V,⟨fi,hmi,hfi⟩,⟨fpa,hmpa,hfpa⟩,hmpl,hfpl⟩;refine CallW.gfn h rfl [("script",.lst (xs.map .int))] rfl rfl λL cs q code=>?_
 suffices ∀z:GiZ,WS C led (aY fl z) [("script",.lst (xs.map .int))] (k+199) (execs lawB (aY fl z).env) (Back Q) from this ⟨L,cs,q,code⟩
 intro z;refine WS.cons (aGs N hx λh0 h1 h2 h3=>?_);have hxp:∀p:LP,p.sc=xs→p.sc.length≤1000:=λp e=>by erw[e];exact hx
 have hp:=hxp ⟨xs,h0,h1,h2,h3⟩ rfl;generalize hpe:(⟨xs,h0,h1,h2,h3⟩:LP)=p at hp;have hv:([("heaps",lE [h0,h1,h2,h3]),("script",.lst (xs.map .int))]:aD)=V0 p:=by erw[← hpe]
 erw[hv];clear hv hpe hxp;have hK:=bU p;refine WS.cons (aGt (p:=p) N hp ?_);refine WS.cons (aGu (p:=p) N ?_);refine WS.cons (aGv (p:=p) N ?_);refine WS.cons (aGw (p:=p) N ?_);refine WS.cons (aGx (p:=p) N ?_);refine WS.cons (aGy (p:=p) N λo NU=>?_);refine WS.cons (aGz (p:=p) N hmgr hfgr λj hj=>?_);refine WS.cons (aGA (p:=p) N ?_);refine WS.cons (aGB (p:=p) N NU ?_);refine WS.cons (aFj (p:=p) N ?_);refine WS.cons (aFk (p:=p) N hj NU hmwr hfwr λpg hpg=>?_);refine WS.cons (aFl (p:=p) N NE X.cls hmk hmf hct hd1 hd2 (aA ..) λB0 A0 pg1 B1 A1 L0 e0 l0 f0 hp1 L1 e1 l1 f1=>?_);refine WS.cons (aFm (p:=p) N NE hj NU L1 ?_);have HL:=aDe (pg0:=pg) (w:=p.wd j 1 0) L0 hp1 L1 e1 l1 f1
 have hv:V12 p o j pg A0.x A1.x=V13 p o j (AA A0 A1):=by
  subst e0;rfl
 erw[hv];refine WS.cons (aFp (p:=p) hgi hmgi NE hmwr hfwr hmru hfru hctr hdr hj NU HL λled' hL=>?_);refine WS.cons (aFr (p:=p) N hj ?_);refine WS.cons (aFs (p:=p) N hmwr hfwr ?_);refine WS.cons (aFt (p:=p) hgi hmgi NE hmrf hfrf hL hj ?_);refine WS.cons (aFu (p:=p) V hmi hfi hmpa hfpa hmpl hfpl hj ?_);refine WS.cons (aFv (p:=p) N ?_);refine WS.cons (aFw (p:=p) N ?_);refine WS.cons (aFx (p:=p) PE λr1 r2 r3 hP=>?_);refine WS.cons (aFy (p:=p) PE hP λu1 u2 u3 hP2=>?_);refine aFN (wV hK.1 (qD p).pos (mI p).pos hP hP2) λrn q1 q2 q3 q4 q5 q6 q7=>?_
 refine WS.cons (aFz (p:=p) N q1 q2 ?_);have hsz:p.K*p.oth rn≤3*3:=Nat.mul_le_mul hK.2 ((mI p).le rn q1);refine WS.cons (aFA (p:=p) PE q3 q4 q5 q6 hsz q7 (hq _))
set_option tactic.hygienic false
structure TabNum (h:Heap) (mg:Str→Option Value) (x:Str) (a c P:Addr):Prop where
 mgx:mg x=some (.ref a)
 oa:∃o fd,h.get? a=some o∧o.data=.func fd∧fd.code=.ref c
 oc:∃o vs,h.get? c=some o∧o.data=.fields vs∧vs.getD 11 .none=.ref P
set_option backward.match.sparseCases false in
noncomputable def bV:Stmt→DefRec
 | .FunctionDef n a b _ _ _ s _ _ p=>⟨n,a,b,s,p⟩
 | _=>⟨"",default,[],default,⟨0,0,0,0⟩⟩
theorem tS(T:Top p loose mean mg mb h)(hd:d∈recsOf p)(N:TabNum h mg d.name a c P):h.IsCode c P #[]∧h.TableAt c P #[]:=by
 refine aCo (T.tab d hd) λa' o fd c' P' h1 h2 h3 h4 h5 h6=>?_
 rw[N.mgx]at h1;(have e1:=Option.some.inj h1;clear h1;injection e1 with e2;subst e2);refine cU N.oa λo2 fd2 k1 k2 k3=>?_
 rw[k1]at h2;(have e1:=Option.some.inj h2;clear h2;subst e1);rw[k2]at h3;(injection h3 with e1;subst e1);rw[k3]at h4;(injection h4 with e1;subst e1);refine cU N.oc λo3 vs m1 m2 m3=>?_
 have h5':=h5;obtain ⟨o4,vs4,_,_,_,_,_,_,_,_,n1,n2,n3,_⟩:=h5;rw[m1]at n1;(have e1:=Option.some.inj n1;clear n1;subst e1);rw[m2]at n2;(injection n2 with e1;subst e1);rw[m3]at n3;(injection n3 with e1;subst e1);exact⟨h5',h6⟩
noncomputable def ct3:List (Addr×Addr):=[(111,107),(41,37),(48,44),(123,119)]
theorem lM{s:Shared}{p:Program}{loose:List Str}{mean:ExcName→Option Value}{mg mb:Str→Option Value}(T:Top p loose mean mg mb s.heap)
  (n1:bV (aQ 14)∈recsOf p) (n2:bV (aQ 7)∈recsOf p) (n3:bV (aQ 8)∈recsOf p) (n4:bV (aQ 16)∈recsOf p)
  (t1:TabNum s.heap mg (bV (aQ 14)).name 112 111 107) (t2:TabNum s.heap mg (bV (aQ 7)).name 42 41 37) (t3:TabNum s.heap mg (bV (aQ 8)).name 49 48 44) (t4:TabNum s.heap mg (bV (aQ 16)).name 124 123 119):∀q∈ct3,s.heap.IsCode q.1 q.2 #[]∧s.heap.TableAt q.1 q.2 #[] :=
 List.forall_mem_cons.mpr ⟨tS T n1 t1,List.forall_mem_cons.mpr ⟨tS T n2 t2,List.forall_mem_cons.mpr ⟨tS T n3 t3,List.forall_mem_cons.mpr ⟨tS T n4 t4,λ_ h=>by cases h⟩⟩⟩⟩
theorem yX:∀q∈ct3,q.2≠mainGlobals∧q.2≠builtinsNs∧q.2≠cStatics:=by decide
theorem aCi:∀q∈ct3,∀r∈ct3,r.2≠q.1∧(q.2=r.2→q.1=r.1):=by decide
theorem aCj{s:Shared}{p:Program}{loose:List Str}{mean:ExcName→Option Value}{mg mb:Str→Option Value}(T:Top p loose mean mg mb s.heap) :
  ∃bm o,mg "__builtins__"=some (.ref bm)∧bm≠builtinsNs∧bm≠mainGlobals∧s.heap.get? bm=some o∧o.cls=.type "module"∧o.dict=some builtinsNs∧o.data=.plain:=by
 refine aFO T.bmain λbm ob b1 b2 b3 b4 b5 b6=>?_
 refine⟨bm,ob,b1,b2,λe=>?_,b3,b4,b5,b6⟩;subst e;refine dT T.g λo es ep g1 g2 _=>?_
 rw[b3]at g1;(have e1:=Option.some.inj g1;clear g1;subst e1);rw[b6]at g2;(exfalso;injection g2)
noncomputable def nH(prog:Program)(w:World)(s:Shared){p:Program}{loose:List Str}{mean:ExcName→Option Value}{mg mb:Str→Option Value}(T:Top p loose mean mg mb s.heap)
  (n1:bV (aQ 14)∈recsOf p) (n2:bV (aQ 7)∈recsOf p) (n3:bV (aQ 8)∈recsOf p) (n4:bV (aQ 16)∈recsOf p)
  (t1:TabNum s.heap mg (bV (aQ 14)).name 112 111 107) (t2:TabNum s.heap mg (bV (aQ 7)).name 42 41 37) (t3:TabNum s.heap mg (bV (aQ 8)).name 49 48 44) (t4:TabNum s.heap mg (bV (aQ 16)).name 124 123 119):Cx where
 prog:=prog
 w:=w
 h₀:=s.heap
 os:=s.os
 mg:=mg
 mb:=mb
 ct:=λc P=>(c,P)∈ct3
 dq:=λc pos=>if c=111 then (if pos.line=posR.line then "_law_lexer.<locals>._law_read" else "_law_lexer.<locals>.<lambda>") else if c=41 then "_int2digits.<locals>.inner" else if c=123 then "_law_run.<locals>._law_size" else "_digits2int.<locals>.inner"
 g:=T.g
 gt:=λc h=>(yX _ h).1 rfl
 b:=T.b
 bt:=λc h=>(yX _ h).2.1 rfl
 nolimit:=T.nolimit
 nodigits:=T.nodigits
 cs:=λc h=>(yX _ h).2.2 rfl
 bb:=T.builtins
 bat:=let ⟨bm,o,b1,b2,b3,b4,b5,b6,b7⟩:=aCj T
  ⟨bm,o,b1,b2,b3,b4,b5,b6,b7,λc h=>by
   have k:=(lM T n1 n2 n3 n4 t1 t2 t3 t4 _ h).2.2
   rw[show s.heap.get? bm=some o from b4]at k;(have e1:=Option.some.inj k;clear k;subst e1);(exfalso;injection b5)⟩
 tabIs:=λc P h=>⟨_,(lM T n1 n2 n3 n4 t1 t2 t3 t4 _ h).2⟩
 tabNo:=λc P c' h h'=>(aCi _ h _ h').1 rfl
 dqe:=λc p p' hl _=>by rw[hl]
 uniq:=λc c' P h h'=>(aCi _ h _ h').2 rfl
set_option tactic.hygienic false
section
variable {prog:Program} {w:World} {s:Shared} {p:Program} {loose:List Str} {mean:ExcName→Option Value} {mg mb:Str→Option Value} {T:Top p loose mean mg mb s.heap}
  {n1:bV (aQ 14)∈recsOf p} {n2:bV (aQ 7)∈recsOf p} {n3:bV (aQ 8)∈recsOf p} {n4:bV (aQ 16)∈recsOf p}
  {t1:TabNum s.heap mg (bV (aQ 14)).name 112 111 107} {t2:TabNum s.heap mg (bV (aQ 7)).name 42 41 37} {t3:TabNum s.heap mg (bV (aQ 8)).name 49 48 44} {t4:TabNum s.heap mg (bV (aQ 16)).name 124 123 119}
theorem aDh(h:(nH prog w s T n1 n2 n3 n4 t1 t2 t3 t4).tab P):s.heap.get? P=some { cls:=.none,data:=.fields #[] }:=by
 (refine aN h ?_;clear h;intro c h)
 exact (lM T n1 n2 n3 n4 t1 t2 t3 t4 _ h).2.2
theorem jI(h:s.heap.get? a=some o)(hd:o.data≠.fields #[]):¬(nH prog w s T n1 n2 n3 n4 t1 t2 t3 t4).tab a:=λht=>by
 rw[aDh ht]at h;(have e1:=Option.some.inj h;clear h;subst e1);exact hd rfl
theorem jJ(h:s.heap.CodeRec cd q):∀c,cd=.ref c→¬(nH prog w s T n1 n2 n3 n4 t1 t2 t3 t4).tab c:=by
 (refine aDI h λc o vs t o1 h1 h2 h3=>?_;clear h;subst o1)
 rintro c' e
 (injection e with e1;subst e1)
 refine jI h1 λz=>?_
 rw[h2]at z
 (injection z with e1;subst e1)
 exact bN h3
theorem aEt(d:DefRec)(hd:d∈recsOf p):∃a,mg d.name=some (.ref a)∧GFn (nH prog w s T n1 n2 n3 n4 t1 t2 t3 t4) a d.stmt:=by
 refine aEz (T.fn d hd) λa o pm cd doc h1 h2 h3 h4=>?_
 exact⟨a,h1,_,λY led=>Callable.glob h2 h3 h4 (jI h2 (by erw[h3];intro z;(exfalso;injection z))) (jJ h4),d.name,d.params,d.body,d.scope,d.pos,rfl,⟨rfl,rfl,rfl,rfl,rfl,rfl,rfl⟩⟩
theorem nZ(d:DefRec)(hd:d∈recsOf p)(N:TabNum s.heap mg d.name a c P):mg d.name=some (.ref a)∧GFnC (nH prog w s T n1 n2 n3 n4 t1 t2 t3 t4) a d.stmt c d.name:=by
 refine aEz (T.fn d hd) λa' o pm cd doc h1 h2 h3 h4=>?_
 rw[N.mgx]at h1;(have e1:=Option.some.inj h1;clear h1;injection e1 with e2;subst e2);refine cU N.oa λo2 fd2 k1 k2 k3=>?_
 rw[k1]at h2;(have e1:=Option.some.inj h2;clear h2;subst e1);have e:=k2;rw[h3]at e
 (injection e with e1;subst e1)
 have e2:cd=.ref c:=k3;exact⟨N.mgx,_,⟨λY led=>Callable.glob k1 h3 h4 (jI k1 (by erw[h3];intro z;(exfalso;injection z))) (jJ h4),d.name,d.params,d.body,d.scope,d.pos,rfl,⟨rfl,rfl,rfl,rfl,rfl,rfl,rfl⟩⟩,e2,rfl⟩
theorem gM(n:Nat)(hn:bV (aQ n)∈recsOf p)(hs:(bV (aQ n)).stmt=aQ n):∃a,mg (bV (aQ n)).name=some (.ref a)∧GFn (nH prog w s T n1 n2 n3 n4 t1 t2 t3 t4) a (aQ n):=by
 refine aL (aEt (prog:=prog) (w:=w) (T:=T) (n1:=n1) (n2:=n2) (n3:=n3) (n4:=n4) (t1:=t1) (t2:=t2) (t3:=t3) (t4:=t4) _ hn) λa h1 h2=>?_
 exact⟨a,h1,by rw[hs]at h2;exact h2⟩
structure Heads (p:Program) (loose:List Str):Prop where
 recs:∀n∈[2,5,7,8,9,10,14,15,16,17,18,19,20,21],bV (aQ n)∈recsOf p
 free:∀x∈(("ValueError":Str)::nL),x∉startupNames∧x∉loose∧x∉(recsOf p).map (·.name)∧x∉(litsOf p).map (·.1)∧x∉(clssOf p loose).map (·.name)
 lim:PyProof.Rows.valOf p "_DIV_LIMIT"=some (.int 4000)
 cm:PyProof.Rows.valOf p "CHAR_MAX"=some (.int 127)
theorem rX(T:Top p loose mean mg mb s.heap)(h:PyProof.Rows.valOf p x=some (.int i)):∃t,mg x=some (.int i t):=by
 refine aL (T.const x _ h) λv h1 h2=>?_
 have:=h2 s.heap;cases this;exact⟨_,h1⟩
theorem yY(H:Heads p loose):iO (nH prog w s T n1 n2 n3 n4 t1 t2 t3 t4):=λx hx=>by
 refine an5 (H.free x (List.mem_cons_of_mem _ hx)) λa b c d e=>?_
 exact T.free x a b c d e
theorem cS:∀n∈[2,5,7,8,9,10,14,15,16,17,18,19,20,21],(bV (aQ n)).stmt=aQ n:=by
 intro n hn;simp only[List.mem_cons,List.not_mem_nil,or_false]at hn;rcases hn with rfl|rfl|rfl|rfl|rfl|rfl|rfl|rfl|rfl|rfl|rfl|rfl|rfl|rfl<;>rfl
theorem aA9(H:Heads p loose):DivEnv (nH prog w s T n1 n2 n3 n4 t1 t2 t3 t4) where
 N:=yY H
 lim:=rX T H.lim
 div:=gM 5 (H.recs 5 (by decide)) (cS 5 (by decide))
 i2d:=⟨42,41,37,t2.mgx,by have:=(nZ (prog:=prog) (w:=w) (T:=T) (n1:=n1) (n2:=n2) (n3:=n3) (n4:=n4) (t1:=t1) (t2:=t2) (t3:=t3) (t4:=t4) _ n2 t2).2;rw[cS 7 (by decide)]at this;exact this,show ((41,37):Addr×Addr)∈ct3 by decide,rfl⟩
 d2i:=⟨49,48,44,t3.mgx,by have:=(nZ (prog:=prog) (w:=w) (T:=T) (n1:=n1) (n2:=n2) (n3:=n3) (n4:=n4) (t1:=t1) (t2:=t2) (t3:=t3) (t4:=t4) _ n3 t3).2;rw[cS 8 (by decide)]at this;exact this,show ((48,44):Addr×Addr)∈ct3 by decide,rfl⟩
 dmp:=gM 9 (H.recs 9 (by decide)) (cS 9 (by decide))
 idm:=gM 10 (H.recs 10 (by decide)) (cS 10 (by decide))
noncomputable def tT(s:Stmt):MethRec:=⟨(bV s).name,(bV s).params,(bV s).body,(bV s).scope⟩
structure HeadC (p:Program) (loose:List Str):Prop where
 cls:∃c,c∈plainsOf p loose∧c.name="_netrclex"∧(∀n∈[0,1,2,3],tT (eS n)∈c.withCmp.meths)∧∀x∈([("lineno":Str),"instream","whitespace","pushback","__getattribute__","__getattr__","__setattr__"]:List Str),x∈c.withCmp.quiet
theorem oA(P:PlainAt s.heap c Ca Na mN)(n:Nat)(hn:n∈[0,1,2,3])(hm:tT (eS n)∈c.meths):∃f,Meth (nH prog w s T n1 n2 n3 n4 t1 t2 t3 t4) mN (tT (eS n)).name (eS n) f:=by
 refine aFT (P.meths _ hm) λf o pm cd doc h1 h2 h3 h4 h5=>?_
 refine⟨f,h1,?_,o,h2,h3,jI h2 (by erw[h4];intro z;(exfalso;injection z))⟩
 have hs:(bV (eS n)).stmt=eS n:=by
  simp only[List.mem_cons,List.not_mem_nil,or_false]at hn;rcases hn with rfl|rfl|rfl|rfl<;>rfl
 exact⟨_,λY led=>Callable.glob h2 h4 h5 (jI h2 (by erw[h4];intro z;(exfalso;injection z))) (jJ h5),_,_,_,_,_,hs.symm,⟨rfl,rfl,rfl,rfl,rfl,rfl,rfl⟩⟩
theorem aBa(TE:TopE p loose mg s.heap)(H:Heads p loose)(K:HeadC p loose):∃cl mN,LexEnv (nH prog w s T n1 n2 n3 n4 t1 t2 t3 t4) cl mN:=by
 refine tW K.cls λc hc hname hm hqt=>?_
 refine aAq (TE c hc) λCa Na mN h1 P=>?_
 rw[hname]at h1;have q:∀x∈([("lineno":Str),"instream","whitespace","pushback","__getattribute__","__getattr__","__setattr__"]:List Str),mN x=none:=λx hx=>P.quiet x (hqt x hx)
 refine⟨Ca,mN,yY H,⟨⟨⟨Na,P.cls,?_,?_⟩,q _ (List.mem_of_elem_eq_true rfl),q _ (List.mem_of_elem_eq_true rfl),q _ (List.mem_of_elem_eq_true rfl)⟩,oA P 0 (by decide) (hm 0 (by decide)),oA P 1 (by decide) (hm 1 (by decide)),oA P 2 (by decide) (hm 2 (by decide)),oA P 3 (by decide) (hm 3 (by decide)),q _ List.mem_cons_self,q _ (List.mem_of_elem_eq_true rfl),q _ (List.mem_of_elem_eq_true rfl),q _ (List.mem_of_elem_eq_true rfl)⟩,h1,?_⟩
 ·obtain ⟨nm,qq,bs,sn,sub,col,dd,k0,k1,k2,k3,k5,e⟩:=P.cls.obj;exact jI e (λz=>by (exfalso;injection z))
 ·refine dT P.cls.ns λo es ep e e2 _=>?_
  exact jI e (λz=>by rw[e2]at z;(exfalso;injection z))
 ·refine⟨112,111,107,t1.mgx,?_,show ((111,107):Addr×Addr)∈ct3 by decide,rfl,rfl⟩;have:=(nZ (prog:=prog) (w:=w) (T:=T) (n1:=n1) (n2:=n2) (n3:=n3) (n4:=n4) (t1:=t1) (t2:=t2) (t3:=t3) (t4:=t4) _ n1 t1).2;rw[cS 14 (by decide)]at this;exact this
theorem aBb(TE:TopE p loose mg s.heap)(H:Heads p loose)(K:HeadC p loose):LawEnv (nH prog w s T n1 n2 n3 n4 t1 t2 t3 t4) where
 V:=aA9 H
 lex:=aBa TE H K
 gi:=by
  refine aL (gM (prog:=prog) (w:=w) (T:=T) (n1:=n1) (n2:=n2) (n3:=n3) (n4:=n4) (t1:=t1) (t2:=t2) (t3:=t3) (t4:=t4) 2 (H.recs 2 (by decide)) (cS 2 (by decide))) λa h1 h2=>?_
  refine⟨a,⟨yY H,rX T H.cm,?_,h2⟩,h1⟩;refine an5 (H.free "ValueError" List.mem_cons_self) λa b c d e=>?_
  exact T.free _ a b c d e
 wr:=gM 15 (H.recs 15 (by decide)) (cS 15 (by decide))
 run:=by
  refine⟨124,123,119,t4.mgx,?_,show ((123,119):Addr×Addr)∈ct3 by decide,rfl⟩;have:=(nZ (prog:=prog) (w:=w) (T:=T) (n1:=n1) (n2:=n2) (n3:=n3) (n4:=n4) (t1:=t1) (t2:=t2) (t3:=t3) (t4:=t4) _ n4 t4).2;rw[cS 16 (by decide)]at this;exact this
 rf:=gM 17 (H.recs 17 (by decide)) (cS 17 (by decide))
 gr:=gM 18 (H.recs 18 (by decide)) (cS 18 (by decide))
 pa:=gM 19 (H.recs 19 (by decide)) (cS 19 (by decide))
 pl:=gM 20 (H.recs 20 (by decide)) (cS 20 (by decide))
end
set_option tactic.hygienic false
theorem aBc(h:IntsAre vs ns):Dens fz vs (ns.map .int):=by
 induction h with
 | nil=>exact .nil
 | cons n t _ ih=>exact .cons (.int n t) ih
section
variable {w:World} {s:Shared} {p:Program} {loose:List Str} {mean:ExcName→Option Value} {mg mb:Str→Option Value}
theorem aCk{ns:List Int}{fa a:Addr}{cl:Str→Option Addr}{mean':ExcName→Option Value}(E:LawEnv C)(hfn:GFn C fa (aQ 21))(hlen:ns.length≤1000)(hh:C.h₀=s.heap)(ho:C.os=s.os)
  (S:St C fz emp emp #[] s) (hden:Den fz (.ref a) (.lst (ns.map .int))) :
  wpAny (model C.prog C.w) callerA (call (.ref fa) [.ref a])
   (λv s'=>W.GoodWG PySem.Challenge.rw_sc0050_01.row.claim cl mean' [W.ofPy (PyData.list (ns.map PyData.int))] s (.ok (.ret v)) s') (λe s'=>W.GoodWG PySem.Challenge.rw_sc0050_01.row.claim cl mean' [W.ofPy (PyData.list (ns.map PyData.int))] s (.error e) s') s:=by
 have key:=aCh (k:=100) (Y:=emp) (led:=emp) (Q:=λd _=>d=.bool true) E hfn hlen λ_=>rfl
 refine wpAny_mono (key callerA fz #[] s (.ref fa) [.ref a] ⟨⟨rfl,by decide,by decide⟩,[],rfl,λe he=>by cases he⟩ S (.ref _) (.cons hden .nil)) (λv s' q=>?_) λe s' q=>q.elim
 obtain ⟨fz',G',d,led',_,g,e,S',rfl⟩:=q;induction e using dI;refine⟨.inl ⟨_,.bool true,[],rfl,λ_=>rfl,.bool _,(by first|rfl|wrow_post|with_unfolding_all rfl),λ_=>⟨List.nodup_nil,λa h=>by cases h⟩⟩,by erw[← hh];exact S'.rel.old,S'.rel.os.trans ho,?_⟩;erw[S'.rel.gens];exact g.bare (.of_eq rfl)
theorem law_goes(T:Top p loose mean mg mb s.heap)(TE:TopE p loose mg s.heap)(H:Heads p loose)(K:HeadC p loose)
  (t1:TabNum s.heap mg (bV (aQ 14)).name 112 111 107) (t2:TabNum s.heap mg (bV (aQ 7)).name 42 41 37) (t3:TabNum s.heap mg (bV (aQ 8)).name 49 48 44) (t4:TabNum s.heap mg (bV (aQ 16)).name 124 123 119)
  (hg:s.gens=#[]) (hfa:mg "law"=some (.ref fa)) (hlen:ns.length≤1000)
  (hobj:∃n,s.heap.get? a=some { cls:=.type "list",data:=.seq vs.toArray n }) (hI:IntsAre vs ns) :
  wpAny (model PySem.Challenge.rw_sc0050_01.row.prog w) callerA (call (.ref fa) [.ref a])
   (λv s'=>W.GoodWG PySem.Challenge.rw_sc0050_01.row.claim cl mean' [W.ofPy (PyData.list (ns.map PyData.int))] s (.ok (.ret v)) s') (λe s'=>W.GoodWG PySem.Challenge.rw_sc0050_01.row.claim cl mean' [W.ofPy (PyData.list (ns.map PyData.int))] s (.error e) s') s:=by
 have n1:=H.recs 14 (by decide);have n2:=H.recs 7 (by decide);have n3:=H.recs 8 (by decide);have n4:=H.recs 16 (by decide)
 (refine aN hobj ?_;clear hobj;intro n hobj)
 refine aL (gM (prog:=PySem.Challenge.rw_sc0050_01.row.prog) (w:=w) (T:=T) (n1:=n1) (n2:=n2) (n3:=n3) (n4:=n4) (t1:=t1) (t2:=t2) (t3:=t3) (t4:=t4) 21 (H.recs 21 (by decide)) (cS 21 (by decide))) λfa' hfa' hfn=>?_
 have hfe:fa'=fa:=by
  have h2:mg "law"=some (.ref fa'):=hfa';rw[hfa]at h2;(have e1:=Option.some.inj h2;clear h2;injection e1 with e2;subst e2);rfl
 subst hfe;have E:=aBb (prog:=PySem.Challenge.rw_sc0050_01.row.prog) (w:=w) (T:=T) (n1:=n1) (n2:=n2) (n3:=n3) (n4:=n4) (t1:=t1) (t2:=t2) (t3:=t3) (t4:=t4) TE H K
 have S0:St (nH PySem.Challenge.rw_sc0050_01.row.prog w s T n1 n2 n3 n4 t1 t2 t3 t4) (λb=>if b=a then some { cls:=.type "list",data:=.seq vs.toArray n } else none) emp emp #[] s:=by
  refine⟨λ_=>.inl rfl,?_⟩;have hnt:=jI (prog:=PySem.Challenge.rw_sc0050_01.row.prog) (w:=w) (T:=T) (n1:=n1) (n2:=n2) (n3:=n3) (n4:=n4) (t1:=t1) (t2:=t2) (t3:=t3) (t4:=t4) hobj (λz=>by (exfalso;injection z))
  exact {
   fzIn:=λb o h=>by
    by_cases e:b=a
    ·subst e;rw[if_pos rfl]at h;(have e1:=Option.some.inj h;clear h;subst e1);exact hobj
    ·rw[if_neg e]at h;exact bN h
   ledIn:=λb m h=>by exact bN h
   apart:=λb o h=>rfl
   fzt:=λb o h=>by
    by_cases e:b=a
    ·subst e;exact hnt
    ·rw[if_neg e]at h;exact bN h
   new:=λb m h=>by exact bN h
   base:=λb o h _=>h
   tabs:=λc P h=>by
    exact⟨#[],(lM T n1 n2 n3 n4 t1 t2 t3 t4 _ h).1,(lM T n1 n2 n3 n4 t1 t2 t3 t4 _ h).2,λpos v e=>by exact bN e⟩
   old:=.refl _
   os:=rfl
   gens:=hg }
 exact aCk E hfn hlen rfl rfl S0 (.lst (if_pos rfl) (aBc hI))
end
/-! what the program's end is seen to hold -/
theorem tabNum_of(hc:lP h x a c P=true)(k:∀b o,h.get? b=some o→h'.get? b=some o)(g:h'.Ns mainGlobals mg):TabNum h' mg x a c P:=by
 simp only[lP,Bool.and_eq_true,beq_iff_eq]at hc
 (refine cL hc λo1 h3=>?_;clear hc;refine cL o1 λh1 h2=>?_;clear o1)
 refine aL (Option.bind_eq_some_iff.mp h1) λo1 e1 f1=>?_
 refine aL (Option.bind_eq_some_iff.mp h2) λo2 e2 f2=>?_
 refine aL (Option.bind_eq_some_iff.mp h3) λo3 e3 f3=>?_
 refine⟨?_,?_,?_⟩
 ·(refine wY g λo' es' ep' g1 g2 _ g3=>?_;clear g)
  rw[k _ _ e1]at g1
  (have e4:=Option.some.inj g1;clear g1;subst e4)
  rw[g2]at f1;refine aL (Option.bind_eq_some_iff.mp (show (nsFind es' x).bind tV=some a from f1)) λv i1 i2=>?_
  erw[← g3,i1,oB i2]
 ·cases hd:o2.data with
  | func fd=>rw[hd]at f2;exact⟨o2,fd,k _ _ e2,hd,oB f2⟩
  | _=>rw[hd]at f2;exact bN f2
 ·cases hd:o3.data with
  | fields vs=>rw[hd]at f3;exact⟨o3,vs,k _ _ e3,hd,oB f3⟩
  | _=>rw[hd]at f3;exact bN f3
noncomputable def nums:List Nat:=[2,5,6,7,8,9,10,14,15,16,17,18,19,20,21]
theorem heads_of(e:recsOf p=nums.map λn=>bV (aQ n))(hf:∀x∈(("ValueError":Str)::nL),x∉startupNames∧x∉loose∧x∉(recsOf p).map (·.name)∧x∉(litsOf p).map (·.1)∧x∉(clssOf p loose).map (·.name))
  (hl:PyProof.Rows.valOf p "_DIV_LIMIT"=some (.int 4000)) (hc:PyProof.Rows.valOf p "CHAR_MAX"=some (.int 127)):Heads p loose:=by
 refine⟨λn hn=>?_,hf,hl,hc⟩;erw[e];refine List.mem_map.mpr ⟨n,?_,rfl⟩;revert n;decide
theorem aCl:(clsOf? PySem.Challenge.pw_sc0050_01 "_netrclex").isSome=true:=by kernel_rfl
noncomputable def netRec:ClsRec:=(clsOf? PySem.Challenge.pw_sc0050_01 "_netrclex").get aCl
theorem headC_of(e:plainsOf p loose=[netRec]):HeadC p loose:=by
 refine⟨netRec,by erw[e];exact List.mem_cons_self,by kernel_rfl,?_,by decide +kernel⟩;have e2:netRec.withCmp.meths=[0,1,2,3].map λn=>tT (eS n):=by kernel_rfl
 intro n hn;erw[e2];exact List.mem_map.mpr ⟨n,hn,rfl⟩
end Sc
open PySem PySem.W PyProof.Rows
set_option maxRecDepth 100000 in
set_option maxHeartbeats 0 in
theorem PySem.Challenge.cw_sc0050_01_holds : PySem.Challenge.rw_sc0050_01.Holds := by
  w_on
  refine holds_law (by kernel_rfl) fun said => ?_
  refine holds_openX (q := Sc.viewP) (loose := []) (Xt := fun s => xlAt Sc.viewP [] s && recOk (RowW.records (OpenRow.toRowW _)) s) (XP := XL Sc.viewP []) (Yf := Sc.seen) (Ya := fun _ => true) (N := 2036) ?hl (fun s e => xl_of s (Bool.and_eq_true_iff.mp e).1) XL.keeps (by rfl) (by rfl) (by rfl) (fun s e => recFacts_of (Bool.and_eq_true_iff.mp e).2) (by rfl) (by first | assumption | decide +kernel) (by decide +kernel) ⟨rfl, rfl, rfl, rfl, rfl, by decide +kernel⟩ ?hw ?hc
  case hl => exact Sc.left_w
  case hw => w_witness2
  case hc =>
    intro w s₀ s₁ mg mb G y fa o pm cd doc dV kV ho hd hcd hD hmg hg args vals as L hpre hlay hrd hwl hlo
    refine Ground.open G ?_
    intro T B D TE TW
    wrow_args hpre hlay hrd hwl hlo
    have hobj := PySem.W.X.script_obj L (by assumption)
    simp only [Sc.seen, Bool.and_eq_true] at y
    refine Sc.law_goes T TE ?H ?K (Sc.tabNum_of y.1.1 L.keeps T.g) (Sc.tabNum_of y.1.2 L.keeps T.g) (Sc.tabNum_of y.2.1 L.keeps T.g) (Sc.tabNum_of y.2.2 L.keeps T.g) hg hmg ?hlen ⟨_, hobj⟩ (by assumption)
    · exact Sc.heads_of (by kernel_rfl) (by decide +kernel) (by kernel_rfl) (by kernel_rfl)
    · exact Sc.headC_of (by kernel_rfl)
    · omega
