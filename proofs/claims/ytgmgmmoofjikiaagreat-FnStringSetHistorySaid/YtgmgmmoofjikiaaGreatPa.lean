/- Proved: every run of the law FnStringSetHistory over string sets answers true, as the given statement FnStringSetHistorySaid says. There are no conditions. -/
import Derived.Orders
import Derived.Defers
import Derived.Laws.Sem
import Derived.Test.YtgmgmmoofjikiaaGreatProg
import Derived.KernelRfl
import Derived.Attr
import Derived.Laws.AppendOwn
import Derived.MapKept
import Derived.Laws.IdiomRangeMap
import Derived.Laws.CopyRow
import Derived.Lib.Overlaps
import Derived.Lib.AppendZerosOnto
set_option linter.all false
set_option maxHeartbeats 1000000
namespace Go
namespace Eng
section
variable{P:Program}
def WI(P:Program){a:Type}(A:Sem a):Prop:=∀E J q,A.run P E=.ok J q->q=E/\∀Z,A.run P Z=.ok J Z
theorem WI.pure{a:Type}(B:a):WI P (Pure.pure B:Sem a):=by intro E J q O;cases O;exact⟨rfl,λ _=>rfl⟩
theorem WI.halt{a:Type}(X:Halt):WI P (Sem.halt X:Sem a):=by intro E J q O;cases O
theorem WI.bind{a b:Type}{A:Sem a}{c:a->Sem b}(s:WI P A)(V:∀B,WI P (c B)):WI P (A>>=c):=by
 intro E J q O;simp only[Sem.run_bind]at O;cases w:A.run P E with
  |halt X K=>rw[w]at O;cases O
  |ok B K=>rw[w]at O;obtain⟨rfl,N⟩:=s _ _ _ w;obtain⟨rfl,K⟩:=V B _ _ _ O;refine⟨rfl,λ Z=>?_⟩;simp only[Sem.run_bind,N Z,Result.andThen_ok,K Z]
theorem WI.program:WI P program:=by intro E J q O;cases O;exact⟨rfl,λ _=>rfl⟩
theorem WI.stuck{a:Type}(X:String):WI P (stuck X:Sem a):=WI.halt _
theorem WI.unsupported{a:Type}(X:Unsupported):WI P (unsupported X:Sem a):=WI.halt _
theorem WI.typeInfo(G:TypeId):WI P (typeInfo G):=by
 unfold Go.typeInfo;refine WI.bind WI.program λ w=>?_;split
 ·exact WI.pure _
 ·exact WI.stuck _
theorem WI.underlying(G:TypeId):WI P (underlying G):=by
 unfold Go.underlying;refine WI.bind WI.program λ w=>?_;split
 ·exact WI.pure _
 ·exact WI.stuck _
theorem WI.isAgg(G:TypeId):WI P (isAgg G):=by unfold Go.isAgg;refine WI.bind (WI.underlying G) λ w=>?_;split<;>exact WI.pure _
theorem WI.sizeOf(G:TypeId):WI P (sizeOf G):=by unfold Go.sizeOf;exact WI.bind (WI.typeInfo G) λ w=>WI.pure _
theorem WI.ite{a:Type}(t:Prop)[Decidable t]{X q:Sem a}(i:WI P X)(p:WI P q):WI P (if t then X else q):=by split<;>assumption
theorem WI.part(G:TypeId)(H:Array Value)(b:Nat):WI P (part G H b):=by
 unfold Go.part;refine WI.bind (WI.isAgg G) λ u=>?_;refine WI.ite _ (WI.bind (WI.sizeOf G) λ _=>WI.pure _) ?_;split
 ·exact WI.pure _
 ·exact WI.stuck _
theorem WI.followBlind:∀(H:List FieldStep)(G:TypeId)(X:Option Value),WI P (followBlind H G X)
 |[],G,X=>by unfold Go.followBlind;exact WI.pure _
 |A::r,G,X=>by
  unfold Go.followBlind;refine WI.bind (WI.underlying _) λ f=>?_;split
  ·split
   ·split<;>first|exact WI.pure _|exact WI.followBlind _ _ _|exact WI.stuck _|exact WI.bind (WI.part _ _ _) λ _=>WI.followBlind _ _ _
   ·exact WI.stuck _
  ·exact WI.stuck _
theorem WI.nilAhead:∀(v:Nat)(G:TypeId)(J:Value)(x:String),WI P (nilAhead v G J x)
 |0,G,J,x=>by unfold Go.nilAhead;exact WI.pure _
 |v+1,G,J,x=>by
  unfold Go.nilAhead;refine WI.bind (WI.typeInfo _) λ f=>?_;split
  ·refine WI.bind (WI.followBlind _ _ _) λ W=>?_;split
   ·exact WI.pure _
   ·split<;>first|exact WI.pure _|exact WI.nilAhead _ _ _ _|exact WI.stuck _|(refine WI.bind (WI.underlying _) λ _=>?_;split<;>exact WI.pure _)
  ·exact WI.stuck _
theorem WI.nilDeref{a:Type}:WI P (runtimePanic .nilDeref:Sem a):=by unfold runtimePanic;exact WI.bind WI.program λ w=>WI.halt _
end
section
variable{P:Program}{ops:Array Oper}{Q:Exit->Act->World->Prop}
def YN(P:Program)(ops:Array Oper)(s:Oper)(J:Value)(B:Act)(E:World):Prop:=(Region.wanted s (yielded ops B.tmps)=true/\(execOp B.eval s).run P E=.ok (.value J) E)\/(Region.wanted s (yielded ops B.tmps)=false/\J=undef)
theorem YN.of_same{s:Oper}{J:Value}{B g:Act}{E:World}(p:YN P ops s J B E)(x:execOp g.eval s=execOp B.eval s)(M:Region.wanted s (yielded ops g.tmps)=Region.wanted s (yielded ops B.tmps)):YN P ops s J g E:=by unfold YN at*;rw[x,M];exact p
theorem YN.wpOp{M:Nat}{s:Oper}{J:Value}{B:Act}(d:ops[M]?=some s){E:World}(p:YN P ops s J B E){T:Act->World->Prop}(O:T (B.put s.dst J) E):wpOp P ops Q M T B E:=by
 unfold Go.wpOp;simp only[d];rcases p with⟨M,p⟩|⟨M,rfl⟩
 ·simp only[M,if_true,Oper.wp,p,Oper.upon];exact .inl O
 ·simp only[M,Bool.false_eq_true,if_false];exact O
def fX(s:Oper):Bool:=match s.op with|.move _|.assign _|.pick .. |.load .. |.nilCheck _|.binOp .. |.unOp .. |.convert .. |.makeInterface .. |.makeFunc .. |.slice .. |.fieldAddr .. |.field .. |.indexAddr .. |.index .. |.lookup .. |.typeAssert .. |.extract .. |.build .. =>true|.call {callee:=.builtin .len,.. }|.call {callee:=.builtin .cap,.. }|.call {callee:=.builtin .min,.. }=>true|_=>false
def dk(s:Oper):Bool:=fX s&&s.dst.isSome
def fW(s:Oper):Bool:=match s.op with|.move _|.assign _|.pick .. |.nilCheck _|.extract .. |.makeFunc .. =>false|_=>true
theorem WI.quiet{s:Oper}(v:fW s=false)(a:Operand->Value):WI P (execOp a s):=by
 obtain⟨r,K,e,b,m,o⟩:=s;cases K<;>simp only[fW]at v<;>first|(cases v;done)|skip
 case move=>exact WI.pure _
 case assign=>exact WI.pure _
 case pick t B u=>simp only[execOp];refine WI.bind ?_ λ G=>WI.pure _;unfold asBool;split<;>first|exact WI.pure _|exact WI.stuck _
 case nilCheck X=>
  simp only[execOp];split
  ·exact WI.nilDeref
  ·exact WI.nilDeref
  ·exact WI.nilDeref
  ·split
   ·exact WI.nilDeref
   ·refine WI.bind WI.program λ w=>WI.bind (WI.nilAhead _ _ _ _) λ W=>?_;refine WI.ite _ (WI.bind (WI.unsupported _) λ _=>WI.pure _) ?_;first|exact WI.pure _|exact WI.bind (WI.pure _) λ _=>WI.pure _
   ·exact WI.pure _
  ·exact WI.pure _
 case extract G M=>
  simp only[execOp];refine WI.bind ?_ λ G=>WI.pure _;unfold Instr.extract;split
  ·split
   ·exact WI.pure _
   ·exact WI.stuck _
  ·exact WI.stuck _
 case makeFunc p c t=>simp only[execOp];exact WI.bind (WI.pure _) λ _=>WI.pure _
def gN(ops:Array Oper)(M:Nat):Bool:=match ops[M]? with|some s=>dk s|none=>false
def fS(u:Array Nat)(D r:Nat):Bool:=!((u.getD D 0).testBit r)
def wK(P:Program)(ops:Array Oper)(u:Array Nat)(b:Array Bool)(D:Nat)(B:Act)(E:World):Prop:=∀r s f,ops[r]?=some s->b.getD r false=true->dk s=true->fW s=true->fS u D r=true->s.dst=some f->YN P ops s (B.tmps.getD f undef) B E
def jT(P:Program)(ops:Array Oper)(u:Array Nat)(Q:Exit->Act->World->Prop):Nat->Array Bool->Act->World->Prop|0,b,B,E=>Region.ready .any ops b=[]/\Q .normal B E|j+1,b,B,E=>(Region.ready .any ops b=[]->Q .normal B E)/\∀M s,M∈Region.ready .any ops b->ops[M]?=some s->if dk s then∃J,YN P ops s J B E/\jT P ops u Q j (b.setIfInBounds M true) (B.put s.dst J) E else wpOp P ops Q M (λ g Z=>wK P ops u b M g Z/\jT P ops u Q j (b.setIfInBounds M true) g Z) B E
theorem rU{M:Nat}{b:Array Bool}(O:M∈Region.ready .any ops b):∃s,ops[M]?=some s:=by obtain⟨_,s,v,_⟩:=mem_ready.1 O;exact⟨s,v⟩
theorem lj{u:Array Nat}:∀(j:Nat)(b:Array Bool)(B:Act)(E:World),jT P ops u Q j b B E->wpAny P .any ops Q j b B E
 |0,_,_,_,O=>O
 |j+1,b,B,E,O=>⟨O.1,λ M d=>by
  obtain⟨s,v⟩:=rU d;have N:=O.2 M s d v;by_cases w:dk s=true
  ·rw[if_pos w]at N;obtain⟨J,p,K⟩:=N;exact p.wpOp v (lj j _ _ _ K)
  ·rw[if_neg w]at N;exact wpOp_mono (λ g Z U=>lj j _ _ _ U.2) N⟩
def ir(ops:Array Oper):Bool:=(List.range ops.size).all λ M=>match ops[M]? with
 |none=>true
 |some c=>(match c.dst with|some f=>!(c.looksAt ops).contains f|none=>true)&&(List.range ops.size).all λ D=>D==M||match ops[D]? with|none=>true|some m=>m.after.any (λ C=>Region.binds .any C&&C.on==M)||c.after.any (λ C=>Region.binds .any C&&C.on==D)||c.apart ops m
theorem r6(O:ir ops=true){M D:Nat}{c m:Oper}(d:ops[M]?=some c)(L:ops[D]?=some m)(e:D≠M)(y:∀C∈m.after,Region.binds .any C=true->C.on≠M)(N:∀C∈c.after,Region.binds .any C=true->C.on≠D):c.apart ops m=true:=by
 unfold ir at O;simp only[List.all_eq_true,List.mem_range]at O;have h:M<ops.size:=(Array.getElem?_eq_some_iff.1 d).1;have a:D<ops.size:=(Array.getElem?_eq_some_iff.1 L).1;have F:=O M h;simp only[d,Bool.and_eq_true,List.all_eq_true,List.mem_range]at F;have K:=F.2 D a;simp only[L,Bool.or_eq_true,beq_iff_eq,e,false_or]at K;rcases K with(K|K)|K
 ·obtain⟨C,x,j⟩:=Array.any_eq_true'.1 K;simp only[Bool.and_eq_true,beq_iff_eq]at j;exact absurd j.2 (y C x j.1)
 ·obtain⟨C,x,j⟩:=Array.any_eq_true'.1 K;simp only[Bool.and_eq_true,beq_iff_eq]at j;exact absurd j.2 (N C x j.1)
 ·exact K
theorem rY(O:ir ops=true){M f:Nat}{c:Oper}(d:ops[M]?=some c)(G:c.dst=some f):f∉c.looksAt ops:=by unfold ir at O;simp only[List.all_eq_true,List.mem_range]at O;have h:M<ops.size:=(Array.getElem?_eq_some_iff.1 d).1;have F:=O M h;simp only[d,G,Bool.and_eq_true]at F;simpa using F.1
def EY(v:Nat)(ops:Array Oper):Bool:=ops.all λ s=>match s.dst with|some f=>f<v|none=>true
theorem Act.size_put(B:Act)(f:Option Tmp)(J:Value):(B.put f J).tmps.size=B.tmps.size:=by cases f<;>simp[Act.put]
theorem lU{s:Oper}(O:dk s=true)(H:Array SelectCase)(u:Bool):s.op≠.select H u:=by intro C;simp[dk,fX,C]at O
theorem yT{s:Oper}(O:dk s=true):∃f,s.dst=some f:=by cases G:s.dst with|some f=>exact⟨f,rfl⟩|none=>simp[dk,G]at O
theorem za{D:Nat}{c m:Oper}{J:Value}(K:ops[D]?=some m)(q:c.apart ops m=true)(h:∀H u,m.op≠.select H u)(A:∀t B E,¬Q (.panic t) B E){T:Act->World->Prop}{B:Act}{E:World}(O:wpOp P ops Q D T (B.put c.dst J) E):wpOp P ops Q D (λ g Z=>T (g.put c.dst J) Z) B E:=by
 obtain⟨y,N,o⟩:=Oper.apart_spec q;unfold wpOp at*;simp only[K]at*;rw[wanted_put m B c.dst J y]at O;split
 ·rename_i M;simp only[M,if_true]at O;rcases O with O|⟨d,e⟩;case inr=>exact .inr ⟨by unfold Oper.asks at*;rw[execOp_put m h B c.dst J y]at d;exact d,e⟩
  refine .inl ?_;unfold Oper.wp at*;rw[execOp_put m h B c.dst J y]at O;generalize(execOp B.eval m).run P E=W at*;cases W with
   |ok v Z=>
    cases v<;>simp only[Oper.upon]at O⊢;case value S=>rw[<-Act.put_comm B J S N];exact O
    case skip=>rw[<-Act.put_comm B J undef N];exact O
    case defer f=>rw[<-Act.put_comm _ J undef N,<-Act.put_defers];exact O
    case enter i a=>refine Calls.mono O λ C b x=>?_;cases C with|returned S=>show T ((B.put m.dst S).put c.dst J) b;rw[<-Act.put_comm B J S N];exact x|panicked t=>exact(A _ _ _ x).elim|outgrown=>exact x
    case row w a=>exact Rows.mono O λ S b x=>by rw[<-Act.put_comm B J S N];exact x
   |halt X Z=>cases X<;>simp only[Oper.upon]at O⊢;case panic S=>exact(A _ _ _ O).elim
 ·rename_i M;simp only[M]at O;rw[<-Act.put_comm B J undef N];exact O
def kE(B g:Act)(f:Option Tmp):Prop:=∃L J,g=({B with defers:=L}:Act).put f J
theorem kE.mk'(B:Act)(f:Option Tmp)(J:Value):kE B (B.put f J) f:=⟨B.defers,J,rfl⟩
theorem qL{D:Nat}{m:Oper}(K:ops[D]?=some m){T:Act->World->Prop}{B:Act}{E:World}(A:∀t B E,¬Q (.panic t) B E)(O:wpOp P ops Q D T B E):wpOp P ops Q D (λ g Z=>kE B g m.dst/\T g Z) B E:=by
 unfold wpOp at*;simp only[K]at*;split
 ·rename_i M;simp only[M,if_true]at O;rcases O with O|O;case inr=>exact .inr O
  refine .inl ?_;unfold Oper.wp at*;generalize(execOp B.eval m).run P E=W at*;cases W with
   |ok v Z=>
    cases v<;>simp only[Oper.upon]at O⊢;case value S=>exact⟨kE.mk' _ _ _,O⟩
    case skip=>exact⟨kE.mk' _ _ _,O⟩
    case defer f=>exact⟨⟨_,_,rfl⟩,O⟩
    case enter c a=>refine Calls.mono O λ C b x=>?_;cases C with|returned S=>exact⟨kE.mk' _ _ _,x⟩|panicked t=>exact(A _ _ _ x).elim|outgrown=>exact x
    case row w a=>exact Rows.mono O λ S b x=>⟨kE.mk' _ _ _,x⟩
   |halt X Z=>cases X<;>simp only[Oper.upon]at O⊢;case panic S=>exact(A _ _ _ O).elim
 ·rename_i M;simp only[M]at O;exact⟨kE.mk' _ _ _,O⟩
theorem YN.of_form{s m:Oper}{J:Value}{B g:Act}{E:World}(p:YN P ops s J B E)(w:dk s=true)(h:fW s=false)(V:kE B g m.dst)(q:∀f,m.dst=some f->f∉s.looksAt ops)(Z:World):YN P ops s J g Z:=by
 obtain⟨L,S,rfl⟩:=V;have x:execOp (({B with defers:=L}:Act).put m.dst S).eval s=execOp B.eval s:=execOp_put s (λ H u=>lU w H u) {B with defers:=L} m.dst S q;have M:Region.wanted s (yielded ops (({B with defers:=L}:Act).put m.dst S).tmps)=Region.wanted s (yielded ops B.tmps):=wanted_put s {B with defers:=L} m.dst S q;rcases p with⟨y,N⟩|⟨y,N⟩
 ·refine .inl ⟨M.trans y,?_⟩;rw[x];exact(WI.quiet h _ _ _ _ N).2 Z
 ·exact .inr ⟨M.trans y,N⟩
theorem AD{D:Nat}{T:Act->World->Prop}{B:Act}{E:World}(A:∀t B E,¬Q (.panic t) B E)(O:wpOp P ops Q D T B E):wpOp P ops Q D (λ g Z=>g.tmps.size=B.tmps.size/\T g Z) B E:=by
 unfold wpOp at*;split
 ·rename_i K;simp only[K]at O;exact⟨rfl,O⟩
 ·rename_i m K;simp only[K]at O;split
  ·rename_i M;simp only[M,if_true]at O;rcases O with O|O;case inr=>exact .inr O
   refine .inl ?_;unfold Oper.wp at*;generalize(execOp B.eval m).run P E=W at*;cases W with
    |ok v Z=>
     cases v<;>simp only[Oper.upon]at O⊢;case value S=>exact⟨Act.size_put _ _ _,O⟩
     case skip=>exact⟨Act.size_put _ _ _,O⟩
     case defer f=>exact⟨Act.size_put _ _ _,O⟩
     case enter c a=>refine Calls.mono O λ C b x=>?_;cases C with|returned S=>exact⟨Act.size_put _ _ _,x⟩|panicked t=>exact(A _ _ _ x).elim|outgrown=>exact x
     case row w a=>exact Rows.mono O λ S b x=>⟨Act.size_put _ _ _,x⟩
    |halt X Z=>cases X<;>simp only[Oper.upon]at O⊢;case panic S=>exact(A _ _ _ O).elim
  ·rename_i M;simp only[M]at O;exact⟨Act.size_put _ _ _,O⟩
theorem lR{B:Act}{f:Nat}{J:Value}(O:f<B.tmps.size):(B.put (some f) J).tmps.getD f undef=J:=by simp[Act.put,O]
theorem kF{B:Act}{f C:Nat}{J:Value}(O:f≠C):(B.put (some f) J).tmps.getD C undef=B.tmps.getD C undef:=by simp[Act.put,Array.getElem?_setIfInBounds_ne O]
theorem jD{M:Nat}{b:Array Bool}(w:M∈Region.ready .any ops b):b.getD M false=false:=by
 have q:=(mem_ready.1 w).1;rcases Nat.lt_or_ge M b.size with U|U
 ·simp[U]at q⊢;exact q
 ·simp[Array.getElem?_eq_none U]at q
def oO(u:Array Nat)(ops:Array Oper):Bool:=(List.range ops.size).all λ D=>match ops[D]? with|none=>true|some s=>(List.range ops.size).all λ M=>!(u.getD D 0).testBit M||s.after.any λ C=>Region.binds .any C&&decide (C.on<D)&&(C.on==M||(u.getD C.on 0).testBit M)
def jR(ops:Array Oper)(b:Array Bool):Prop:=∀r s,ops[r]?=some s->b.getD r false=true->∀C∈s.after,Region.binds .any C=true->b.getD C.on false=true
theorem ik{u:Array Nat}(j:oO u ops=true){b:Array Bool}(k:jR ops b){M:Nat}(L:M<ops.size)(d:b.getD M false=false):∀(x D:Nat),D<=x->(D∈Region.ready .any ops b\/b.getD D false=true)->D<ops.size->fS u D M=true:=by
 intro x;induction x with
  |zero=>
   intro D K w p;obtain rfl:D=0:=by omega
   unfold oO at j;simp only[List.all_eq_true,List.mem_range]at j;have y:=j 0 p;have h:ops[0]?=some ops[0]:=by simp[p]
   simp only[h,List.all_eq_true,List.mem_range]at y;have N:=y M L;unfold fS;by_cases l:(u.getD 0 0).testBit M=true
   ·rw[l]at N;simp only[Bool.not_true,Bool.false_or]at N;obtain⟨C,r,i⟩:=Array.any_eq_true'.1 N;simp at i
   ·simpa using l
  |succ x ih=>
   intro D K w p;have E:=j;unfold oO at j;simp only[List.all_eq_true,List.mem_range]at j;have y:=j D p;have h:ops[D]?=some ops[D]:=by simp[p]
   simp only[h,List.all_eq_true,List.mem_range]at y;have N:=y M L;unfold fS;by_cases l:(u.getD D 0).testBit M=true
   ·exfalso;rw[l]at N;simp only[Bool.not_true,Bool.false_or]at N;obtain⟨C,r,i⟩:=Array.any_eq_true'.1 N;simp only[Bool.and_eq_true,decide_eq_true_eq,Bool.or_eq_true,beq_iff_eq]at i;obtain⟨⟨T,o⟩,i⟩:=i;have a:b.getD C.on false=true:=by
     rcases w with w|w
     ·obtain⟨_,s,v,o⟩:=mem_ready.1 w;rw[h]at v;cases v;exact o C r T
     ·exact k D _ h w C r T
    rcases i with i|i
    ·rw[i,d]at a;cases a
    ·have:=ih C.on (by omega) (.inr a) (by omega);unfold fS at this;rw[i]at this;cases this
   ·simpa using l
def pO(u:Array Nat)(ops:Array Oper):Bool:=(List.range ops.size).all λ r=>match ops[r]? with
 |none=>true
 |some l=>!dk l||(List.range ops.size).all λ M=>match ops[M]? with
  |none=>true
  |some c=>M==r||!dk c||(match c.dst with|none=>true|some f=>!(l.looksAt ops).contains f&&l.dst !=some f)||(u.getD r 0).testBit M||(List.range ops.size).all λ D=>gN ops D||(u.getD D 0).testBit M||(u.getD M 0).testBit D||(u.getD D 0).testBit r
theorem u5{u:Array Nat}(O:pO u ops=true){r M D f b:Nat}{l c:Oper}(Y:ops[r]?=some l)(d:ops[M]?=some c)(E:D<ops.size)(n:dk l=true)(o:dk c=true)(V:gN ops D=false)(e:M≠r)(G:c.dst=some f)(P:l.dst=some b)(y:fS u r M=true)(N:fS u D M=true)(K:fS u M D=true)(t:fS u D r=true):f∉l.looksAt ops/\f≠b:=by
 unfold pO at O;simp only[List.all_eq_true,List.mem_range]at O;have a:=O r (Array.getElem?_eq_some_iff.1 Y).1;simp only[Y,n,Bool.not_true,Bool.false_or,List.all_eq_true,List.mem_range]at a;have g:=a M (Array.getElem?_eq_some_iff.1 d).1;simp only[fS,Bool.not_eq_true']at y N K t;simp only[d,o,G,P,y,Bool.not_true,Bool.or_false,beq_iff_eq,e,Bool.or_eq_true,List.all_eq_true,List.mem_range,Bool.and_eq_true,false_or]at g;rcases g with g|g
 ·refine⟨by simpa using g.1,?_⟩;have:=g.2;intro C;subst C;simp at this
 ·have:=g D E;simp only[V,N,K,t,Bool.false_eq_true,or_self]at this
structure ye(n:Nat)(b:Array Nat)(ops:Array Oper):Prop where
 sel:Region.noSelect ops=true
 apart:ir ops=true
 dst:EY n ops=true
 anc:oO b ops=true
 anti:pO b ops=true
theorem jR.set{b:Array Bool}(k:jR ops b){D:Nat}(K:D∈Region.ready .any ops b):jR ops (b.setIfInBounds D true):=by
 intro r s Y f C x j;obtain⟨_,m,e,o⟩:=mem_ready.1 K;by_cases h:r=D
 ·subst h;rw[e]at Y;cases Y;exact getD_set_true (o C x j)
 ·rw[getD_set_ne false (Ne.symm h)]at f;exact getD_set_true (k r s Y f C x j)
theorem Gp{X:Nat}{u:Array Nat}(h:ye X u ops){M:Nat}{c:Oper}{J:Value}(d:ops[M]?=some c)(o:dk c=true)(A:∀t B E,¬Q (.panic t) B E):∀(j:Nat)(b:Array Bool)(B:Act)(E:World),B.tmps.size=X->b.size=ops.size->jR ops b->M∈Region.ready .any ops b->YN P ops c J B E->jT P ops u Q j (b.setIfInBounds M true) (B.put c.dst J) E->jT P ops u Q (j+1) b B E:=by
 have a0:=Region.noSelect_spec h.sel;have q:=h.apart;have l:∀H u,c.op≠.select H u:=λ H u=>lU o H u;obtain⟨f,G⟩:=yT o;have z:M<ops.size:=(Array.getElem?_eq_some_iff.1 d).1;have t:f<X:=by have:=Array.all_eq_true_iff_forall_mem.1 h.dst c (Array.mem_of_getElem? d);simpa[G]using this
 have r:=rY q d G;intro j;induction j with
  |zero=>
   intro b B E U L I w p W;refine⟨λ O=>(by rw[O]at w;cases w),λ D m K e=>?_⟩;by_cases a:D=M
   ·subst a;obtain rfl:m=c:=by rw[d]at e;exact(Option.some.inj e).symm
    rw[if_pos o];exact⟨J,p,W⟩
   ·have:=ready_mono K a;rw[W.1]at this;cases this
  |succ j ih=>
   intro b B E U L I w p W;refine⟨λ O=>(by rw[O]at w;cases w),λ D m K e=>?_⟩;by_cases a:D=M
   ·subst a;obtain rfl:m=c:=by rw[d]at e;exact(Option.some.inj e).symm
    rw[if_pos o];exact⟨J,p,W⟩
   ·have S:=W.2 D m (ready_mono K a) e;have O:D<ops.size:=(Array.getElem?_eq_some_iff.1 e).1;obtain⟨g,R,g,k⟩:=mem_ready.1 K;obtain rfl:R=m:=by rw[e]at g;exact(Option.some.inj g).symm
    obtain⟨F,s,i,g⟩:=mem_ready.1 w;obtain rfl:s=c:=by rw[d]at i;exact(Option.some.inj i).symm
    have F:=jD w;have j:=jD K;have n:∀C∈R.after,Region.binds .any C=true->C.on≠M:=λ C x T N=>by have y:=k C x T;rw[N,F]at y;cases y
    have u:∀C∈s.after,Region.binds .any C=true->C.on≠D:=λ C x T N=>by have y:=g C x T;rw[N,j]at y;cases y
    have k:=r6 q d e a n u;obtain⟨y,N,u⟩:=Oper.apart_spec k;have m:=ik h.anc I z F D D (Nat.le_refl _) (.inl K) O;have T:=ik h.anc I O j M M (Nat.le_refl _) (.inl w) z;by_cases V:dk R=true
    ·rw[if_pos V]at S⊢;obtain⟨W,n,H⟩:=S;refine⟨W,n.of_same (execOp_put R (a0 D R · · e) B s.dst J y).symm (wanted_put R B s.dst J y).symm,?_⟩;refine ih (b.setIfInBounds D true) _ E (by rw[Act.size_put];exact U) (by simpa using L) (I.set K) (ready_mono w (Ne.symm a)) (p.of_same (execOp_put s l B R.dst W u) (wanted_put s B R.dst W u)) ?_;rw[Array.setIfInBounds_comm _ _ a,<-Act.put_comm B J W N];exact H
    ·rw[if_neg V]at S⊢;have H:=za (J:=J) e k (a0 D R · · e) A S;have W:=qL e A (AD A H);refine wpOp_mono (λ g Z c=>?_) W;obtain⟨B,N,H,S⟩:=c;have j:g.tmps.size=X:=N.trans U;have E:YN P ops s J g Z:=by
      by_cases N:fW s=true;case neg=>exact p.of_form o (by simpa using N) B u Z
      have i:=H M s f d (by simp[L,z]) o N m G;rw[G,lR (by rw[j];exact t)]at i;refine i.of_same ?_ ?_
      ·exact(execOp_put s l g (some f) J (λ t X=>by cases X;exact r)).symm
      ·exact(wanted_put s g (some f) J (λ t X=>by cases X;exact r)).symm
     refine⟨?_,?_⟩
     ·intro r l c Y y n x B W;have s:r≠M:=λ C=>by subst C;rw[F]at y;cases y
      have i:=H r l c Y (by rw[getD_set_ne false (Ne.symm s)];exact y) n x B W;have q:r<ops.size:=(Array.getElem?_eq_some_iff.1 Y).1;have R:=ik h.anc I z F r r (Nat.le_refl _) (.inr y) q;have k:=u5 h.anti Y d O n o (by simp only[gN,e];simpa using V) (Ne.symm s) G W R m T B;rw[G]at i;rw[kF k.2]at i;exact i.of_same (execOp_put l (a0 r l · · Y) g (some f) J (λ t X=>by cases X;exact k.1)).symm (wanted_put l g (some f) J (λ t X=>by cases X;exact k.1)).symm
     ·refine ih (b.setIfInBounds D true) g Z j (by simpa using L) (I.set K) (ready_mono w (Ne.symm a)) E ?_;rw[Array.setIfInBounds_comm _ _ a];exact S
def cM(Z:List Nat)(B g:Act):Prop:=∀G,G∉Z->g.tmps.getD G undef=B.tmps.getD G undef
theorem cM.refl(Z:List Nat)(B:Act):cM Z B B:=λ _ _=>rfl
theorem cM.trans{Z:List Nat}{B b t:Act}(y:cM Z B b)(N:cM Z b t):cM Z B t:=λ G l=>(N G l).trans (y G l)
theorem cM.mono{Z i:List Nat}{B u:Act}(s:∀G,G∈Z->G∈i)(O:cM Z B u):cM i B u:=λ G l=>O G λ U=>l (s G U)
def i4(ops:Array Oper):List Nat:=ops.toList.filterMap (·.dst)
theorem cM.of_form{B g:Act}{M:Nat}{s:Oper}(d:ops[M]?=some s)(O:kE B g s.dst):cM (i4 ops) B g:=by obtain⟨L,J,rfl⟩:=O;intro G l;cases c:s.dst with|none=>rfl|some f=>have:f≠G:=λ C=>l (List.mem_filterMap.2 ⟨s,by rw[<-Array.getElem?_toList]at d;exact List.mem_of_getElem? d,by rw[c,C]⟩);exact kF this
def m5(Z:List Nat)(V:Act)(Q:Exit->Act->World->Prop):Exit->Act->World->Prop:=λ X B E=>Q X B E/\(X=.normal->cM Z V B)
theorem rd{V:Act}{M:Nat}(A:∀t B E,¬Q (.panic t) B E){T l:Act->World->Prop}{B:Act}{E:World}(q:cM (i4 ops) V B)(Y:∀B E,cM (i4 ops) V B->T B E->l B E)(O:wpOp P ops Q M T B E):wpOp P ops (m5 (i4 ops) V Q) M l B E:=by
 cases d:ops[M]? with
  |none=>unfold wpOp at*;simp only[d]at*;exact Y _ _ q O
  |some s=>
   have y:=qL d A O;have N:wpOp P ops Q M l B E:=wpOp_mono (λ g Z F=>Y _ _ (q.trans (cM.of_form d F.1)) F.2) y;unfold wpOp at*;simp only[d]at*;split at N
   ·rename_i h;rw[if_pos h];rcases N with N|⟨K,f,R,G⟩
    ·left;unfold Oper.wp at*;generalize(execOp B.eval s).run P E=W at*;cases W with
      |ok v Z=>
       cases v<;>simp only[Oper.upon]at N⊢<;>first|exact N|skip
       case enter c a=>
        refine Calls.mono N λ C b x=>?_;cases C with
         |returned S=>exact x
         |panicked t=>exact(A _ _ _ x).elim
         |outgrown=>obtain⟨i,z,H⟩:=x;exact⟨i,z,H,λ O=>by cases O⟩
      |halt X Z=>cases X<;>simp only[Oper.upon]at N⊢<;>first|exact N|exact(A _ _ _ N).elim
    ·exact .inr ⟨K,f,R,G,λ O=>by cases O⟩
   ·rename_i h;rw[if_neg h];exact N
theorem pf{V:Act}(A:∀t B E,¬Q (.panic t) B E):∀(j:Nat)(b:Array Bool){B:Act}{E:World},cM (i4 ops) V B->wpAny P .any ops Q j b B E->wpAny P .any ops (m5 (i4 ops) V Q) j b B E|0,b,B,E,q,O=>⟨O.1,O.2,λ _=>q⟩|j+1,b,B,E,q,O=>⟨λ w=>⟨O.1 w,λ _=>q⟩,λ M d=>rd A q (λ g Z s F=>pf A j _ s F) (O.2 M d)⟩
theorem pz{V:Act}(A:∀t B E,¬Q (.panic t) B E):∀(H:List Nat){B:Act}{E:World},cM (i4 ops) V B->wpOps P ops Q H B E->wpOps P ops (m5 (i4 ops) V Q) H B E|[],B,E,q,O=>⟨O,λ _=>q⟩|M::H,B,E,q,O=>by rw[wpOps_cons]at O⊢;exact rd A q (λ g Z s F=>pz A H s F) O
theorem vI{u:Array Nat}{j:Nat}{B:Act}{E:World}(J:P.follows .mixedOrders=true)(A:∀t B E,¬Q (.panic t) B E)(O:jT P ops u Q ops.size (Array.replicate ops.size false) B {E with drawn:=E.drawn+1}):(Code.region j ops true).wp P (m5 (i4 ops) B Q) B E:=wp_region_any J (pf A _ _ (cM.refl _ _) (lj _ _ _ _ O))
end
end Eng
end Go
namespace Go
namespace Eng
abbrev Heap:=Array Obj
abbrev bd:=List (Nat×Value)
abbrev KV:=Value->Heap->Prop
def bd.get:bd->Nat->Option Value|[],_=>none|(G,J)::C,S=>if G=S then some J else bd.get C S
def bd.del:bd->Nat->bd|[],_=>[]|(G,J)::C,S=>if G=S then bd.del C S else(G,J)::bd.del C S
def bd.put(C:bd)(f:Option Nat)(v:Value):bd:=match f with|some f=>(f,v)::bd.del C f|none=>C
def ev(C:bd):Operand->Option Value|.tmp G=>bd.get C G|.const J=>some J|.global P=>some (.pointer (some ⟨P,0,none⟩))|.func c=>some (.func (.func c) #[] #[])
def evs(C:bd):List Operand->Option (List Value)
 |[]=>some []
 |X::c=>match ev C X,evs C c with|some J,some g=>some (J::g)|_,_=>none
def evp(C:bd):List (Nat×Operand)->Option (List (Nat×Value))
 |[]=>some []
 |(M,X)::c=>match ev C X,evp C c with|some J,some g=>some ((M,J)::g)|_,_=>none
def evo(C:bd):Option Operand->Option (Option Value)
 |none=>some none
 |some X=>match ev C X with|some J=>some (some J)|none=>none
structure dA(n:Nat)(e:bd)(ds:List Deferred)(a:Act):Prop where
 size:a.tmps.size=n
 defers:a.defers=ds
 val:∀t v,bd.get e t=some v->t<n/\a.tmps.getD t undef=v
structure Sm(w w':World):Prop where
 os:w'.os=w.os
 out:w'.output=w.output
theorem Sm.refl(E:World):Sm E E:=⟨rfl,rfl⟩
theorem Sm.trans{B b t:World}(O:Sm B b)(r:Sm b t):Sm B t:=⟨r.os.trans O.os,r.out.trans O.out⟩
section words
variable(P:Program)
def Rd(O:Heap)(A:Sem Value)(T:Value->Prop):Prop:=∃J,(∀E:World,E.heap=O->A.run P E=.ok J E)/\T J
def Rc(O:Heap)(A:Sem Value)(J:Value):Prop:=∀E:World,E.heap=O->A.run P E=.ok J E
def Ac(O:Heap)(A:Sem Value)(T:KV):Prop:=∀E:World,E.heap=O->∃J Z,A.run P E=.ok J Z/\T J Z.heap/\Sm E Z
def Un(O:Heap)(A:Sem Unit)(T:Heap->Prop):Prop:=∀E:World,E.heap=O->∃Z,A.run P E=.ok () Z/\T Z.heap/\Sm E Z
def Cl(O:Heap)(c:FuncId)(a:Array Value)(T:KV):Prop:=∀E:World,E.heap=O->Calls P c a E λ C Z=>∃J,C=.returned J/\T J Z.heap/\Sm E Z
def Ca(O:Heap)(A:Sem Next)(T:KV):Prop:=∃c a,(∀E:World,E.heap=O->A.run P E=.ok (.enter c a) E)/\Cl P O c a T
def Xt(O:Heap)(c:FuncId)(a:Array Value)(T:KV):Prop:=∀E:World,E.heap=O->∃J Z,(callFunc c a).run P E=.ok (.value J) Z/\T J Z.heap/\Sm E Z
def Df(O:Heap)(f:Deferred)(T:Heap->Prop):Prop:=∀E:World,E.heap=O->∃b V c a,f.target=.fn b V/\(invoke f.target f.args).run P E=.ok (.enter c a) E/\CallsD P c a .returning E λ C l Z=>l=.returning/\∃J,C=.returned J/\T Z.heap/\Sm E Z
end words
def ld(P:Program):Value->Prop|.pointer none|.nilIface|.nilFunc=>False|.func (.method v) c _=>∃G J,(c[0]?:Option Value)=some (.iface G J)/\∀E,(nilAhead (P.types.size+Made.depth) G J v).run P E=.ok (some false) E|_=>True
def Nc(P:Program)(J:Value)(T:Prop):Prop:=ld P J/\T
def Pk(t B u:Value)(T:Value->Prop):Prop:=∃G,t=.bool G/\T (if G=true then B else u)
def yv:Value->Nat->Option Value|.tuple g,M=>g[M]?|_,_=>none
def Ex(J:Value)(M:Nat)(T:Value->Prop):Prop:=∃X,yv J M=some X/\T X
def Cd(t:Value)(k B:Prop):Prop:=∃G,t=.bool G/\(G=true->k)/\(G=false->B)
def gB:Value->Bool->Bool|.bool u,I=>u==I|_,_=>false
def Gd(O:Heap)(P:Value)(I:Bool)(k:KV->Heap->Prop)(T:KV):Prop:=(gB P I=true->k T O)/\(gB P I=false->T undef O)
def GR(P:Value)(I:Bool)(J:Value)(k:Prop):Prop:=(gB P I=true->k)/\(gB P I=false->J=undef)
def nB(t:Bool):Operand:=if t=true then .const undef else .tmp 0
def EV:Operand->Bool|.const _=>true|_=>false
def Bo(K:BinOp)(G:TypeId)(X q:Bool)(B u:Value):Sem Value:=do
 eqGuard K G (nB X) (nB q) B u;
 binOp K G B u
theorem JV(K:BinOp)(G:TypeId)(X q:Operand)(B u:Value):(do
 eqGuard K G X q B u;
 binOp K G B u)=Bo K G (EV X) (EV q) B u:=by cases X<;>cases q<;>rfl
def rdSem(s:Oper)(C:bd):Option (Sem Value):=match s.op with
 |.load G B=>match ev C B with|some J=>some (Instr.loadAt G J)|none=>none
 |.binOp K G X q _=>match ev C X,ev C q with|some B,some u=>some (Bo K G (EV X) (EV q) B u)|_,_=>none
 |.unOp K _ X=>match ev C X with|some J=>some (Op.unary K J)|none=>none
 |.convert A f X=>match ev C X with|some J=>some (convert A f J)|none=>none
 |.makeInterface G X=>match ev C X with|some J=>some (Instr.makeInterface G J)|none=>none
 |.slice G X g d m=>match ev C X,evo C g,evo C d,evo C m with|some J,some H,some O,some x=>some (Instr.sliceAt G J H O x)|_,_,_,_=>none
 |.fieldAddr A X c=>match ev C X with|some J=>some (Instr.fieldAt A J c)|none=>none
 |.field G X c=>match ev C X with|some J=>some (Instr.field G J c)|none=>none
 |.indexAddr G X M=>match ev C X,ev C M with|some J,some D=>some (Instr.indexAt G J D)|_,_=>none
 |.index G X M=>match ev C X,ev C M with|some J,some D=>some (Instr.index G J D)|_,_=>none
 |.lookup G X M ok=>match ev C X,ev C M with|some J,some D=>some (Instr.lookup G J D ok)|_,_=>none
 |.typeAssert X G S ok=>match ev C X with|some J=>some (Instr.typeAssert J G S ok)|none=>none
 |.build G D=>match evp C D.toList with|some H=>some (Instr.build G H.toArray)|none=>none
 |.call {callee:=.builtin .len,args,argTypes}=>match evs C args.toList with|some H=>some (Builtin.len_ argTypes s.type H.toArray)|none=>none
 |.call {callee:=.builtin .cap,args,argTypes}=>match evs C args.toList with|some H=>some (Builtin.cap_ argTypes s.type H.toArray)|none=>none
 |.call {callee:=.builtin .min,args,argTypes}=>match evs C args.toList with|some H=>some (Builtin.min_ argTypes s.type H.toArray)|none=>none
 |_=>none
def acSem(s:Oper)(C:bd):Option (Sem Value):=match s.op with
 |.alloc G=>some (Instr.alloc G true (.tuple #[]))
 |.box G X=>match ev C X with|some J=>some (Instr.box G J)|none=>none
 |.buildSlice G v D=>match evp C D.toList with|some H=>some (Instr.buildSlice G v H.toArray)|none=>none
 |.makeMap G W=>match evo C W with|some J=>some (Instr.makeMap G J)|none=>none
 |.makeSlice G H t=>match ev C H,ev C t with|some B,some u=>some (Instr.makeSlice G B u)|_,_=>none
 |.mapEntry G x r=>match ev C x,ev C r with|some B,some u=>some (Instr.mapEntry G B u)|_,_=>none
 |.range G X=>match ev C X with|some J=>some (Instr.range G J)|none=>none
 |.next r A=>match ev C r with|some J=>some (Instr.next J A s.type)|none=>none
 |.entry r=>match ev C r with|some J=>some (Instr.entry J)|none=>none
 |.call {callee:=.builtin .append,args,argTypes}=>match evs C args.toList with|some H=>some (Builtin.append_ argTypes s.type H.toArray)|none=>none
 |.call {callee:=.builtin .copy,args,argTypes}=>match evs C args.toList with|some H=>some (Builtin.copy_ argTypes s.type H.toArray)|none=>none
 |.call {callee:=.builtin .delete,args,argTypes}=>match evs C args.toList with|some H=>some (Builtin.delete_ argTypes s.type H.toArray)|none=>none
 |_=>none
def unSem(s:Oper)(C:bd):Option (Sem Unit):=match s.op with
 |.store G B X=>match ev C B,ev C X with|some S,some J=>some (Instr.storeAt G S J)|_,_=>none
 |.mapUpdate G x r X=>match ev C x,ev C r,ev C X with|some B,some u,some t=>some (Instr.mapUpdate G B u t)|_,_,_=>none
 |.insert G x r X=>match ev C x,ev C r,ev C X with|some B,some u,some t=>some (Instr.mapUpdate G B u t)|_,_,_=>none
 |.entryStore G x A X=>match ev C x,ev C A,ev C X with|some B,some u,some t=>some (Instr.entryStore G B u t)|_,_,_=>none
 |_=>none
variable(P:Program)(ok:FuncId->Bool)
def kg(s:Oper)(C:bd)(T:KV)(O:Heap):Prop:=match s.op with
 |.move X=>match ev C X with|some J=>T J O|none=>False
 |.assign X=>match ev C X with|some J=>T J O|none=>False
 |.pick t B u=>match ev C t,ev C B,ev C u with|some X,some q,some L=>Pk X q L (λ J=>T J O)|_,_,_=>False
 |.nilCheck X=>match ev C X with|some J=>Nc P J (T J O)|none=>False
 |.extract G M=>match ev C G with|some J=>Ex J M (λ X=>T X O)|none=>False
 |.makeFunc p R V=>match evs C R.toList,evs C V.toList with|some B,some u=>T (.func p B.toArray u.toArray) O|_,_=>False
 |.load .. |.binOp .. |.unOp .. |.convert .. |.makeInterface .. |.slice .. |.fieldAddr .. |.field .. |.indexAddr .. |.index .. |.lookup .. |.typeAssert .. |.build .. =>match rdSem s C with|some A=>Rd P O A (λ J=>T J O)|none=>False
 |.alloc .. |.box .. |.buildSlice .. |.makeMap .. |.makeSlice .. |.mapEntry .. |.range .. |.next .. |.entry .. =>match acSem s C with|some A=>Ac P O A T|none=>False
 |.store .. |.mapUpdate .. |.insert .. |.entryStore .. =>match unSem s C with|some A=>Un P O A (T undef)|none=>False
 |.call t=>match t.callee with
  |.builtin .len|.builtin .cap|.builtin .min=>match rdSem s C with|some A=>Rd P O A (λ J=>T J O)|none=>False
  |.builtin _=>match acSem s C with|some A=>Ac P O A T|none=>False
  |.value (.func c)=>match evs C t.args.toList with
   |some H=>match ok c with|true=>Cl P O c H.toArray T|false=>Xt P O c H.toArray T
   |none=>False
  |.value X=>match ev C X,evs C t.args.toList with
   |some J,some H=>Ca P O (do
    let f<-Deferred.ofValue J H.toArray;
    invoke f.target f.args) T
   |_,_=>False
  |.invoke W x=>match ev C W,evs C t.args.toList with|some J,some H=>Ca P O (callMethod J x H.toArray) T|_,_=>False
 |_=>False
def lG(a:Array Oper)(C:bd)(D:Nat):Option Value:=match a[D]? with
 |some s=>match s.dst with|some f=>bd.get C f|none=>none
 |none=>none
def nc(v:Nat):Option Nat->Bool|some f=>Nat.blt f v|none=>true
def jc(v:Nat)(a:Array Oper)(s:Oper)(C:bd)(L:List Deferred)(T:bd->List Deferred->Heap->Prop)(O:Heap):Prop:=match nc v s.dst with
 |true=>match s.guard with
  |none=>match s.op with
   |.defer t=>match t.callee,evs C t.args.toList with
    |.value X,some H=>match ev C X with|some (.func p R V)=>T (bd.put C s.dst undef) ({target:=.fn p V,args:=R++H.toArray}::L) O|_=>False
    |.invoke W x,some H=>match ev C W with|some J=>T (bd.put C s.dst undef) ({target:=.fn (.method x) #[],args:=#[J]++H.toArray}::L) O|none=>False
    |_,_=>False
   |_=>kg P ok s C (λ J U=>T (bd.put C s.dst J) L U) O
  |some (D,I)=>match lG a C D with|some M=>Gd O M I (λ l U=>kg P ok s C l U) (λ J U=>T (bd.put C s.dst J) L U)|none=>False
 |false=>False
def y1(v:Nat)(a:Array Oper)(T:bd->List Deferred->Heap->Prop):List Oper->bd->List Deferred->Heap->Prop|[],C,L,O=>T C L O|s::r,C,L,O=>jc P ok v a s C L (λ R m U=>y1 v a T r R m U) O
def eq(a:Array Oper)(u:Array Nat)(b:Array Bool)(D:Nat)(C:bd)(O:Heap)(T:Prop):List Nat->Prop
 |[]=>T
 |r::q=>match a[r]? with
  |none=>eq a u b D C O T q
  |some s=>match b.getD r false&&dk s&&fW s&&fS u D r with
   |false=>eq a u b D C O T q
   |true=>match s.dst with
    |none=>eq a u b D C O T q
    |some f=>match rdSem s C,bd.get C f,s.guard with
     |some A,some J,none=>Rc P O A J/\eq a u b D C O T q
     |some A,some J,some (d,I)=>match lG a C d with|some g=>GR g I J (Rc P O A J)/\eq a u b D C O T q|none=>False
     |_,_,_=>False
def iC(a:Array Oper):List Nat->Option Nat|[]=>none|M::X=>if gN a M=true then some M else iC a X
def k4(k:Nat->Prop):List Nat->Prop|[]=>True|[D]=>k D|D::j=>k D/\k4 k j
def jS(v:Nat)(a:Array Oper)(u:Array Nat)(T:bd->List Deferred->Heap->Prop):Nat->Array Bool->bd->List Deferred->Heap->Prop
 |0,b,C,L,O=>match Region.ready .any a b with|[]=>T C L O|_=>False
 |j+1,b,C,L,O=>match Region.ready .any a b with
  |[]=>T C L O
  |M::X=>match iC a (M::X)with
   |some M=>match a[M]? with|some s=>jc P ok v a s C L (λ R m U=>jS v a u T j (b.setIfInBounds M true) R m U) O|none=>False
   |none=>k4 (λ D=>match a[D]? with|some s=>jc P ok v a s C L (λ R m U=>eq P a u b D R U (jS v a u T j (b.setIfInBounds D true) R m U) (List.range a.size)) O|none=>False) (M::X)
inductive eT where|leaf|draw(b:Array Nat)|seq(l r:eT)|join(live:List Nat)(l r:eT)|cond(l r:eT)|block(l:eT)|loop(live:List Nat)(l:eT)|loopD(live:List Nat)(l:eT)
def VN:List Nat->Type|[]=>Heap->Prop|_::H=>Value->VN H
def VM:List Nat->Type|[]=>Heap->Nat|_::H=>Value->VM H
def nO:(H:List Nat)->VN H->bd->Heap->Prop
 |[],T,_,O=>T O
 |G::H,T,C,O=>match bd.get C G with|some J=>nO H (T J) C O|none=>False
def tY:(H:List Nat)->VN H->bd->(bd->Heap->Prop)->Prop|[],T,C,r=>∀O,T O->r C O|G::H,T,C,r=>∀J,tY H (T J) ((G,J)::C) r
def qJ:(H:List Nat)->VN H->VM H->bd->Heap->Nat->Prop
 |[],T,x,_,O,u=>T O/\x O<u
 |G::H,T,x,C,O,u=>match bd.get C G with|some J=>qJ H (T J) (x J) C O u|none=>False
def oz:(H:List Nat)->VN H->VM H->bd->(bd->Heap->Nat->Prop)->Prop|[],T,x,C,r=>∀O,T O->r C O (x O)|G::H,T,x,C,r=>∀J,oz H (T J) (x J) ((G,J)::C) r
abbrev QA:=Exit->bd->List Deferred->Heap->Prop
def thenA(n:bd->List Deferred->Heap->Prop)(Q:QA):QA|.normal,C,L,O=>n C L O|X,C,L,O=>Q X C L O
def inBlockA(j:Nat)(Q:QA):QA|.exit Z,C,L,O=>if Z=j then Q .normal C L O else Q (.exit Z) C L O|X,C,L,O=>Q X C L O
def yM(v:Nat)(u:Array Nat)(a:Array Oper):Bool:=Region.noSelect a&&ir a&&EY v a&&oO u a&&pO u a
def eJ:Code->Bool
 |.skip|.exit _|.ret|.label _|.goto _|.refuse _=>true
 |.region _ a _=>a.toList.all λ s=>match s.op with|.defer _=>false|_=>true
 |.seq X q|.cond _ X q=>eJ X&&eJ q
 |.block _ X|.loop X|.scope X=>eJ X
 |.rangeFunc .. =>false
def jf:Code->List Nat|.region _ a _=>i4 a|.seq X q|.cond _ X q|.rangeFunc _ _ X q=>jf X++jf q|.block _ X|.loop X|.scope X=>jf X|_=>[]
def bd.drop(H:List Nat):bd->bd|[]=>[]|(G,J)::C=>if List.elem G H=true then bd.drop H C else(G,J)::bd.drop H C
def eI(v:Nat):Code->eT->QA->bd->List Deferred->Heap->Prop
 |.skip,_,Q,C,L,O=>Q .normal C L O
 |.region _ a false,_,Q,C,L,O=>y1 P ok v a (λ R m U=>Q .normal R m U) a.toList C L O
 |.region _ a true,.draw u,Q,C,L,O=>match yM v u a with|true=>jS P ok v a u (λ R m U=>Q .normal R m U) a.size (Array.replicate a.size false) C L O|false=>False
 |.seq X q,.seq H W,Q,C,L,O=>eI v X H (thenA (λ R m U=>eI v q W Q R m U) Q) C L O
 |.seq X q,.join D H W,Q,C,L,O=>match eJ X with|true=>∃T:VN D,tY D T (bd.drop (jf X) C) (λ R U=>eI v q W Q R L U)/\eI v X H (thenA (λ R _ U=>nO D T R U) Q) C L O|false=>False
 |.cond t X q,.cond H W,Q,C,L,O=>match ev C t with|some J=>Cd J (eI v X H Q C L O) (eI v q W Q C L O)|none=>False
 |.block j X,.block H,Q,C,L,O=>eI v X H (inBlockA j Q) C L O
 |.loop X,.loop D H,Q,C,L,O=>match eJ X with|true=>∃(T:VN D)(x:VM D),nO D T C O/\oz D T x (bd.drop (jf X) C) λ R U u=>eI v X H (thenA (λ z _ N=>qJ D T x z N u) Q) R L U|false=>False
 |.loop X,.loopD D H,Q,C,L,O=>match eJ X with|true=>False|false=>∃(T:List Deferred->VN D)(x:VM D),nO D (T L) C O/\∀m,oz D (T m) x (bd.drop (jf X) C) λ R U u=>eI v X H (thenA (λ z F N=>qJ D (T F) x z N u) Q) R m U
 |.exit j,_,Q,C,L,O=>Q (.exit j) C L O
 |.ret,_,Q,C,L,O=>Q .ret C L O
 |_,_,_,_,_,_=>False
def l9:List ResultVar->bd->(List Value->Heap->Prop)->Heap->Prop
 |[],_,r,O=>r [] O
 |.tmp G::u,C,r,O=>match bd.get C G with|some J=>l9 u C (λ g U=>r (J::g) U) O|none=>False
 |.cell B G::u,C,r,O=>match bd.get C B with
  |some J=>Rd P O (do
   loadVar G (<-asAddr J)) (λ X=>l9 u C (λ g N=>r (X::g) N) O)
  |none=>False
def ku:List Value->Value|[J]=>J|g=>.tuple g.toArray
def np:List Deferred->(Heap->Prop)->Heap->Prop|[],T,O=>T O|f::L,T,O=>Df P O f (λ U=>np L T U)
def pS(u:List ResultVar)(z:KV):QA|.normal,C,L,O=>np P L (λ U=>l9 P u C (λ g N=>z (ku g) N) U) O|.ret,C,L,O=>np P L (λ U=>l9 P u C (λ g N=>z (ku g) N) U) O|_,_,_,_=>False
def qp:Nat->List Value->bd|_,[]=>[]|M,J::g=>(M,J)::qp (M+1) g
def Jb(v:Nat)(t:Code)(u:List ResultVar)(d:eT)(z:KV)(a:List Value)(O:Heap):Prop:=eI P ok v t d (pS P u z) (qp 0 a) [] O
end Eng
end Go
namespace Go
namespace Eng
theorem bd.get_del(C:bd)(f G:Nat):bd.get (bd.del C f) G=if f=G then none else bd.get C G:=by
 induction C with
  |nil=>simp[bd.del,bd.get]
  |cons X C ih=>
   obtain⟨A,J⟩:=X;by_cases a:A=f
   ·simp only[bd.del,a,if_true,ih,bd.get];by_cases h:f=G<;>simp[h]
   ·simp only[bd.del,a,if_false,bd.get,ih];by_cases Q:A=G
    ·have:f≠G:=λ O=>a (by omega);simp[Q,this]
    ·simp[Q]
theorem bd.get_put(C:bd)(f:Nat)(J:Value)(G:Nat):bd.get (bd.put C (some f) J) G=if f=G then some J else bd.get C G:=by
 simp only[bd.put,bd.get];by_cases O:f=G
 ·simp[O]
 ·simp[O,bd.get_del]
section
variable{P:Program}{n:Nat}
theorem dA.put{C:bd}{L:List Deferred}{B:Act}(V:dA n C L B){f:Option Nat}(G:nc n f=true)(v:Value):dA n (bd.put C f v) L (B.put f v):=by
 cases f with
  |none=>exact V
  |some f=>
   have d:f<n:=by simpa[nc]using G
   refine⟨by rw[Act.size_put];exact V.size,V.defers,λ G X O=>?_⟩;rw[bd.get_put]at O;by_cases h:f=G
   ·subst h;rw[if_pos rfl]at O;cases O;exact⟨d,lR (by rw[V.size];exact d)⟩
   ·rw[if_neg h]at O;exact⟨(V.val G X O).1,by rw[kF h];exact(V.val G X O).2⟩
theorem dA.ev{C:bd}{L:List Deferred}{B:Act}(V:dA n C L B){X:Operand}{J:Value}(O:ev C X=some J):B.eval X=J:=by cases X with|tmp G=>exact(V.val G J O).2|const t=>cases O;rfl|global P=>cases O;rfl|func c=>cases O;rfl
theorem dA.evs{C:bd}{L:List Deferred}{B:Act}(V:dA n C L B):∀{H:List Operand}{g:List Value},evs C H=some g->H.map B.eval=g
 |[],_,O=>by cases O;rfl
 |X::c,g,O=>by
  unfold Eng.evs at O;cases y:Eng.ev C X with
   |none=>simp[y]at O
   |some J=>cases N:Eng.evs C c with|none=>simp[y,N]at O|some S=>simp only[y,N,Option.some.injEq]at O;subst O;simp[V.ev y,V.evs N]
theorem dA.evp{C:bd}{L:List Deferred}{B:Act}(V:dA n C L B):∀{H:List (Nat×Operand)}{g:List (Nat×Value)},evp C H=some g->(H.map λ w=>(w.1,B.eval w.2))=g
 |[],_,O=>by cases O;rfl
 |(M,X)::c,g,O=>by
  unfold Eng.evp at O;cases y:Eng.ev C X with
   |none=>simp[y]at O
   |some J=>cases N:Eng.evp C c with|none=>simp[y,N]at O|some S=>simp only[y,N,Option.some.injEq]at O;subst O;rw[List.map_cons,V.ev y,V.evp N]
theorem dA.evo{C:bd}{L:List Deferred}{B:Act}(V:dA n C L B){X:Option Operand}{J:Option Value}(O:evo C X=some J):X.map B.eval=J:=by
 cases X with
  |none=>cases O;rfl
  |some X=>unfold Eng.evo at O;cases y:Eng.ev C X with|none=>simp[y]at O|some S=>simp only[y,Option.some.injEq]at O;subst O;simp[V.ev y]
theorem dG{a b:Type}(c:a->b)(d:Array a){g:List b}(O:d.toList.map c=g):d.map c=g.toArray:=by rw[<-O];exact Array.ext' (by simp)
theorem fV(f:Deferred)(r:Deferred->Sem Next):((pure f:Sem Deferred)>>=r)=r f:=rfl
theorem dA.rdSem{C:bd}{L:List Deferred}{B:Act}(V:dA n C L B){s:Oper}{A:Sem Value}(O:rdSem s C=some A):execOp B.eval s=(do
 pure (.value (<-A))):=by
 obtain⟨r,K,e,b,m,o⟩:=s;cases K<;>(try(simp only[Eng.rdSem]at O;done))<;>(try(simp[Eng.rdSem]at O;done))<;>simp only[Eng.rdSem]at O;case load=>split at O<;>cases O;rename_i y;simp only[execOp,V.ev y]
 case binOp=>split at O<;>cases O;rename_i y N;simp only[execOp,V.ev y,V.ev N,JV]
 case unOp=>split at O<;>cases O;rename_i y;simp only[execOp,V.ev y]
 case convert=>split at O<;>cases O;rename_i y;simp only[execOp,V.ev y]
 case makeInterface=>split at O<;>cases O;rename_i y;simp only[execOp,V.ev y]
 case slice=>split at O<;>cases O;rename_i y N E t;simp only[execOp,V.ev y,V.evo N,V.evo E,V.evo t]
 case fieldAddr=>split at O<;>cases O;rename_i y;simp only[execOp,V.ev y]
 case field=>split at O<;>cases O;rename_i y;simp only[execOp,V.ev y]
 case indexAddr=>split at O<;>cases O;rename_i y N;simp only[execOp,V.ev y,V.ev N]
 case index=>split at O<;>cases O;rename_i y N;simp only[execOp,V.ev y,V.ev N]
 case lookup=>split at O<;>cases O;rename_i y N;simp only[execOp,V.ev y,V.ev N]
 case typeAssert=>split at O<;>cases O;rename_i y;simp only[execOp,V.ev y]
 case build G D=>split at O<;>cases O;rename_i y;simp only[execOp];rw[<-dG (λ w:Nat×Operand=>(w.1,B.eval w.2)) D (V.evp y)]
 case call X=>obtain⟨d,a,k⟩:=X;cases d with|builtin u=>cases u<;>(try(simp at O;done))<;>simp only at O;all_goals(split at O<;>cases O;rename_i y;simp only[execOp,resolve,fV,invoke,builtin,dG B.eval a (V.evs y)])|value c=>simp at O|invoke W x=>simp at O
theorem dA.acSem{C:bd}{L:List Deferred}{B:Act}(V:dA n C L B){s:Oper}{A:Sem Value}(O:acSem s C=some A):execOp B.eval s=(do
 pure (.value (<-A))):=by
 obtain⟨r,K,e,b,m,o⟩:=s;cases K<;>(try(simp[Eng.acSem]at O;done))<;>simp only[Eng.acSem]at O;case alloc=>cases O;rfl
 case box=>split at O<;>cases O;rename_i y;simp only[execOp,V.ev y]
 case buildSlice G x D=>split at O<;>cases O;rename_i y;simp only[execOp];rw[<-dG (λ w:Nat×Operand=>(w.1,B.eval w.2)) D (V.evp y)]
 case makeMap=>split at O<;>cases O;rename_i y;simp only[execOp,V.evo y]
 case makeSlice=>split at O<;>cases O;rename_i y N;simp only[execOp,V.ev y,V.ev N]
 case mapEntry=>split at O<;>cases O;rename_i y N;simp only[execOp,V.ev y,V.ev N]
 case range=>split at O<;>cases O;rename_i y;simp only[execOp,V.ev y]
 case next=>split at O<;>cases O;rename_i y;simp only[execOp,V.ev y]
 case entry=>split at O<;>cases O;rename_i y;simp only[execOp,V.ev y]
 case call t=>obtain⟨d,a,k⟩:=t;cases d with|builtin u=>cases u<;>(try(simp at O;done))<;>simp only at O;all_goals(split at O<;>cases O;rename_i y;simp only[execOp,resolve,fV,invoke,builtin,dG B.eval a (V.evs y)])|value c=>simp at O|invoke W x=>simp at O
theorem dA.unSem{C:bd}{L:List Deferred}{B:Act}(V:dA n C L B){s:Oper}{A:Sem Unit}(O:unSem s C=some A):execOp B.eval s=(do
 A;
 pure .skip):=by
 obtain⟨r,u,e,b,m,o⟩:=s;cases u<;>(try(simp[Eng.unSem]at O;done))<;>simp only[Eng.unSem]at O;case store=>split at O<;>cases O;rename_i y N;simp only[execOp,V.ev y,V.ev N]
 case insert=>split at O<;>cases O;rename_i y N K;simp only[execOp,V.ev y,V.ev N,V.ev K]
 case mapUpdate=>split at O<;>cases O;rename_i y N K;simp only[execOp,V.ev y,V.ev N,V.ev K]
 case entryStore=>split at O<;>cases O;rename_i y N K;simp only[execOp,V.ev y,V.ev N,V.ev K]
def f9(P:Program)(c:FuncId):Prop:=∀a E,(callFunc c a).run P E=.ok (.enter c a) E
variable{ok:FuncId->Bool}{Q:Exit->Act->World->Prop}
theorem gE{A:Sem Value}{J:Value}{E Z:World}(O:A.run P E=.ok J Z):(do
 pure (Next.value (<-A)):Sem Next).run P E=.ok (.value J) Z:=by simp[O]
theorem xU{X:Value}(O:ld P X)(s:Oper)(q:Operand)(v:s.op=.nilCheck q)(a:Operand->Value)(i:a q=X)(E:World):(execOp a s).run P E=.ok (.value X) E:=by
 obtain⟨r,d,e,b,m,o⟩:=s;cases v;simp only[execOp,i];unfold ld at O;split at O
 ·exact O.elim
 ·exact O.elim
 ·exact O.elim
 ·obtain⟨G,J,C,D⟩:=O;simp[C,D]
 ·rename_i y N K t;split
  ·exact(y rfl).elim
  ·exact(N rfl).elim
  ·exact(K rfl).elim
  ·exact(t _ _ _ rfl).elim
  ·rfl
theorem oi{s:Oper}{C:bd}{L:List Deferred}{T:KV}{O:Heap}{B:Act}{E:World}(V:dA n C L B)(M:E.heap=O)(w:fX s=true)(W:kg P ok s C T O):∃J,(execOp B.eval s).run P E=.ok (.value J) E/\T J O:=by
 obtain⟨r,K,e,b,m,o⟩:=s;have l:∀{A:Sem Value},Eng.rdSem ⟨r,K,e,b,m,o⟩ C=some A->Rd P O A (λ J=>T J O)->∃J,(execOp B.eval ⟨r,K,e,b,m,o⟩).run P E=.ok (.value J) E/\T J O:=by intro A F⟨J,p,Y⟩;exact⟨J,by rw[V.rdSem F];exact gE (p E M),Y⟩
 cases K<;>(try(simp[fX]at w;done))<;>simp only[kg]at W;case move=>split at W<;>first|exact W.elim|(rename_i y;exact⟨_,by simp only[execOp,V.ev y];rfl,W⟩)
 case assign=>split at W<;>first|exact W.elim|(rename_i y;exact⟨_,by simp only[execOp,V.ev y];rfl,W⟩)
 case pick=>
  split at W<;>first|exact W.elim|skip
  rename_i y N D;obtain⟨G,rfl,Y⟩:=W;exact⟨_,by simp only[execOp,V.ev y,V.ev N,V.ev D];rfl,Y⟩
 case nilCheck q=>
  split at W<;>first|exact W.elim|skip
  rename_i y;exact⟨_,xU W.1 _ q rfl _ (V.ev y) E,W.2⟩
 case extract=>
  split at W<;>first|exact W.elim|skip
  rename_i y;obtain⟨X,i,Y⟩:=W;refine⟨X,?_,Y⟩;simp only[execOp,V.ev y];unfold yv at i;split at i
  ·simp only[Instr.extract,i];rfl
  ·cases i
 case makeFunc Z R Q=>
  split at W<;>first|exact W.elim|skip
  rename_i y N;exact⟨_,by simp only[execOp,dG B.eval R (V.evs y),dG B.eval Q (V.evs N)];rfl,W⟩
 case call t=>
  obtain⟨d,a,k⟩:=t;cases d with
   |builtin u=>cases u<;>(try(simp[fX]at w;done))<;>simp only at W;all_goals(split at W<;>first|exact W.elim|(rename_i y;exact l y W))
   |value c=>simp[fX]at w
   |invoke S x=>simp[fX]at w
 all_goals(split at W<;>first|exact W.elim|(rename_i y;exact l y W))
theorem vE{c:FuncId}(k:f9 P c)(a:Array Value)(E:World):(do
 let f<-Deferred.ofValue (.func (.func c) #[] #[]) a;
 invoke f.target f.args:Sem Next).run P E=.ok (.enter c a) E:=by simp only[Deferred.ofValue,fV,invoke,Array.empty_append,Array.append_empty];exact k a E
theorem qV(h:∀c,ok c=true->f9 P c){S:Oper}{C:bd}{L:List Deferred}{T:KV}{O:Heap}{B:Act}{E:World}(V:dA n C L B)(M:E.heap=O)(W:kg P ok S C T O):S.wp P B E (λ g Z=>∃J,g=B.put S.dst J/\T J Z.heap/\Sm E Z) Q:=by
 by_cases w:fX S=true
 ·obtain⟨J,p,Y⟩:=oi V M w W;unfold Oper.wp;rw[p];exact⟨J,rfl,by rw[M];exact Y,Sm.refl _⟩
 ·obtain⟨r,K,e,b,m,o⟩:=S;have l:∀{A:Sem Value},Eng.rdSem ⟨r,K,e,b,m,o⟩ C=some A->Rd P O A (λ J=>T J O)->Oper.wp P ⟨r,K,e,b,m,o⟩ B E (λ g Z=>∃J,g=B.put r J/\T J Z.heap/\Sm E Z) Q:=by intro A s⟨J,p,Y⟩;unfold Oper.wp;rw[V.rdSem s,gE (p E M)];exact⟨J,rfl,by rw[M];exact Y,Sm.refl _⟩
  have D:∀{A:Sem Value},Eng.acSem ⟨r,K,e,b,m,o⟩ C=some A->Ac P O A T->Oper.wp P ⟨r,K,e,b,m,o⟩ B E (λ g Z=>∃J,g=B.put r J/\T J Z.heap/\Sm E Z) Q:=by intro A s F;obtain⟨J,Z,p,Y⟩:=F E M;unfold Oper.wp;rw[V.acSem s,gE p];exact⟨J,rfl,Y⟩
  have z:∀{A:Sem Unit},Eng.unSem ⟨r,K,e,b,m,o⟩ C=some A->Un P O A (T undef)->Oper.wp P ⟨r,K,e,b,m,o⟩ B E (λ g Z=>∃J,g=B.put r J/\T J Z.heap/\Sm E Z) Q:=by intro A s F;obtain⟨Z,p,Y⟩:=F E M;unfold Oper.wp;rw[V.unSem s];simp only[Sem.run_bind,p,Result.andThen_ok,Sem.run_pure];exact⟨undef,rfl,Y⟩
  have j:∀{c:FuncId}{a:Array Value}{A:Sem Next},execOp B.eval ⟨r,K,e,b,m,o⟩=A->A.run P E=.ok (.enter c a) E->Cl P O c a T->Oper.wp P ⟨r,K,e,b,m,o⟩ B E (λ g Z=>∃J,g=B.put r J/\T J Z.heap/\Sm E Z) Q:=by intro c a A s v I;unfold Oper.wp;rw[s,v];refine(I E M).mono ?_;rintro R Z⟨J,rfl,Y⟩;exact⟨J,rfl,Y⟩
  cases K<;>simp only[kg]at W;case call t=>
   obtain⟨d,a,k⟩:=t;cases d with
    |builtin u=>cases u<;>simp only at W;all_goals first|(split at W<;>first|exact W.elim|(rename_i y;exact l y W))|(split at W<;>first|exact W.elim|(rename_i y;exact D y W))
    |value c=>
     cases c with
      |func c=>
       simp only at W;split at W
       ·rename_i H y;have G:execOp B.eval ⟨r,.call ⟨.value (.func c),a,k⟩,e,b,m,o⟩=(do
         let f<-Deferred.ofValue (.func (.func c) #[] #[]) H.toArray;
         invoke f.target f.args):=by simp only[execOp,resolve,dG B.eval a (V.evs y)];rfl
        split at W
        ·rename_i N;exact j G (vE (h c N) _ E) W
        ·obtain⟨J,Z,p,Y⟩:=W E M;unfold Oper.wp;rw[G];simp only[Deferred.ofValue,fV,invoke,Array.empty_append,Array.append_empty];rw[p];exact⟨J,rfl,Y⟩
       ·exact W.elim
      |_=>
       simp only at W;split at W
       ·rename_i J H q y;obtain⟨c,i,v,I⟩:=W;refine j ?_ (v E M) I;simp only[execOp,resolve,dG B.eval a (V.evs y),V.ev q]
       ·exact W.elim
    |invoke U x=>
     simp only at W;split at W
     ·rename_i J H q y;obtain⟨c,i,v,I⟩:=W;refine j ?_ (v E M) I;simp only[execOp,resolve,dG B.eval a (V.evs y),V.ev q,fV,invoke];simp
     ·exact W.elim
  all_goals first|exact W.elim|(split at W<;>first|exact W.elim|(rename_i y;exact l y W))|(split at W<;>first|exact W.elim|(rename_i y;exact D y W))|(split at W<;>first|exact W.elim|(rename_i y;exact z y W))|(simp[fX]at w)
def up(n:Nat)(T:bd->List Deferred->Heap->Prop)(u:World)(B:Act)(E:World):Prop:=∃C L,dA n C L B/\T C L E.heap/\Sm u E
def zh(n:Nat)(Q:QA)(u:World)(X:Exit)(B:Act)(E:World):Prop:=∃C L,dA n C L B/\Q X C L E.heap/\Sm u E
theorem my{a:Array Oper}{s:Oper}{C:bd}{L:List Deferred}{B:Act}(V:dA n C L B){D:Nat}{I:Bool}(z:s.guard=some (D,I)){P:Value}(O:lG a C D=some P):Region.wanted s (yielded a B.tmps)=gB P I:=by
 unfold lG at O;split at O
 ·rename_i m e;split at O
  ·rename_i f G;have p:=V.val f P O;have X:B.tmps[f]?=some P:=by
    have o:f<B.tmps.size:=by rw[V.size];exact p.1
    have N:=p.2;simp only[Array.getD_eq_getD_getElem?,Array.getElem?_eq_getElem o,Option.getD_some]at N;rw[Array.getElem?_eq_getElem o,N]
   simp only[Region.wanted,z,yielded,e,G,Option.bind_some,X];unfold gB;cases P<;>first|rfl|(cases I<;>rfl)|(rename_i u;cases u<;>cases I<;>rfl)
  ·cases O
 ·cases O
theorem pj{C:bd}{L:List Deferred}{B:Act}(V:dA n C L B)(f:Deferred):dA n C (f::L) {B with defers:=f::B.defers}:=⟨V.size,by simp[V.defers],V.val⟩
theorem re(h:∀c,ok c=true->f9 P c){a:Array Oper}{u:Nat}{s:Oper}(d:a[u]?=some s){C:bd}{L:List Deferred}{T:bd->List Deferred->Heap->Prop}{O:Heap}{B:Act}{E:World}(V:dA n C L B)(M:E.heap=O)(W:jc P ok n a s C L T O):wpOp P a Q u (up n T E) B E:=by
 unfold wpOp;simp only[d];unfold jc at W;split at W;case h_2=>exact W.elim
 rename_i K;split at W
 ·rename_i z;have l:Region.wanted s (yielded a B.tmps)=true:=by simp[Region.wanted,z]
  rw[if_pos l];left;split at W
  ·rename_i t q;obtain⟨r,G,e,b,m,o⟩:=s;simp only at q;subst q;split at W
   ·rename_i X H k f;split at W
    ·rename_i p R A i;have v:(execOp B.eval ⟨r,.defer t,e,b,m,o⟩).run P E=.ok (.defer {target:=.fn p A,args:=R++H.toArray}) E:=by simp only[execOp,resolve,k,dG B.eval t.args (V.evs f),V.ev i,Deferred.ofValue];rfl
     unfold Oper.wp;rw[v];exact⟨_,_,(pj V _).put K undef,by rw[M];exact W,Sm.refl _⟩
    ·exact W.elim
   ·rename_i w x H k f;split at W
    ·rename_i J i;have v:(execOp B.eval ⟨r,.defer t,e,b,m,o⟩).run P E=.ok (.defer {target:=.fn (.method x) #[],args:=#[J]++H.toArray}) E:=by simp only[execOp,resolve,k,dG B.eval t.args (V.evs f),V.ev i];rfl
     unfold Oper.wp;rw[v];exact⟨_,_,(pj V _).put K undef,by rw[M];exact W,Sm.refl _⟩
    ·exact W.elim
   ·exact W.elim
  ·refine Oper.wp_mono (λ g Z F=>?_) (qV (Q:=Q) h V M W);obtain⟨J,rfl,Y⟩:=F;exact⟨_,_,V.put K J,Y⟩
 ·rename_i D I z;split at W
  ·rename_i y S;have l:=my V z S;rw[l];by_cases j:gB y I=true
   ·rw[if_pos j];left;refine Oper.wp_mono (λ g Z F=>?_) (qV (Q:=Q) h V M (W.1 j));obtain⟨J,rfl,Y⟩:=F;exact⟨_,_,V.put K J,Y⟩
   ·rw[if_neg j];exact⟨_,_,V.put K undef,by rw[M];exact W.2 (by simpa using j),Sm.refl _⟩
  ·exact W.elim
theorem Dp{a:Array Oper}{s:Oper}(w:dk s=true){C:bd}{L:List Deferred}{T:bd->List Deferred->Heap->Prop}{O:Heap}{B:Act}{E:World}(V:dA n C L B)(M:E.heap=O)(W:jc P ok n a s C L T O):∃J,YN P a s J B E/\dA n (bd.put C s.dst J) L (B.put s.dst J)/\T (bd.put C s.dst J) L O:=by
 have o:fX s=true:=by simp only[dk,Bool.and_eq_true]at w;exact w.1
 unfold jc at W;split at W;case h_2=>exact W.elim
 rename_i K;split at W
 ·rename_i z;have l:Region.wanted s (yielded a B.tmps)=true:=by simp[Region.wanted,z]
  split at W
  ·rename_i t q;simp[fX,q]at o
  ·obtain⟨J,p,Y⟩:=oi V M o W;exact⟨J,.inl ⟨l,p⟩,V.put K J,Y⟩
 ·rename_i D I z;split at W
  ·rename_i R S;have l:=my V z S;by_cases j:gB R I=true
   ·obtain⟨J,p,Y⟩:=oi V M o (W.1 j);exact⟨J,.inl ⟨l.trans j,p⟩,V.put K J,Y⟩
   ·exact⟨undef,.inr ⟨by rw[l];simpa using j,rfl⟩,V.put K undef,W.2 (by simpa using j)⟩
  ·exact W.elim
theorem zZ(h:∀c,ok c=true->f9 P c){a:Array Oper}{T:bd->List Deferred->Heap->Prop}:∀(H:List Nat)(F:List Oper),H.map (a[·]?)=F.map some->∀{C:bd}{L:List Deferred}{O:Heap}{B:Act}{u E:World},dA n C L B->E.heap=O->Sm u E->y1 P ok n a T F C L O->(∀B E,up n T u B E->Q .normal B E)->wpOps P a Q H B E:=by
 intro H;induction H with
  |nil=>intro F b C L O B u E V M s W l;cases F with|nil=>exact l _ _ ⟨C,L,V,by rw[M];exact W,s⟩|cons T F=>simp at b
  |cons m H ih=>
   intro F b C L O B u E V M s W l;cases F with
    |nil=>simp at b
    |cons T F=>simp only[List.map_cons,List.cons.injEq]at b;rw[wpOps_cons];refine wpOp_mono (λ g Z x=>?_) (re (Q:=Q) h b.1 V M W);obtain⟨R,m,S,Y,k⟩:=x;exact ih F b.2 S rfl (s.trans k) Y l
theorem rS(a:Array Oper):(List.range a.size).map (a[·]?)=a.toList.map some:=by
 apply List.ext_getElem?;intro M;by_cases O:M<a.size
 ·simp[O]
 ·simp only[List.getElem?_map];rw[List.getElem?_eq_none (by simpa using O),List.getElem?_eq_none (by simpa using O)];rfl
end
end Eng
end Go
namespace Go
namespace Eng
section
variable{P:Program}{n:Nat}{ok:FuncId->Bool}{Q:Exit->Act->World->Prop}
theorem uC{a:Array Oper}{u:Array Nat}{b:Array Bool}{D:Nat}{C:bd}{L:List Deferred}{O:Heap}{T:Prop}{o:Act}{E:World}(V:dA n C L o)(M:E.heap=O):∀(H:List Nat),eq P a u b D C O T H->(∀r s f,r∈H->a[r]?=some s->b.getD r false=true->dk s=true->fW s=true->fS u D r=true->s.dst=some f->YN P a s (o.tmps.getD f undef) o E)/\T:=by
 intro H;induction H with
  |nil=>exact λ W=>⟨λ r s f Y=>(by cases Y),W⟩
  |cons r q ih=>
   intro W;unfold eq at W;split at W
   ·rename_i Y;obtain⟨y,N⟩:=ih W;refine⟨λ e s f B Z=>?_,N⟩;rcases List.mem_cons.1 B with rfl|B
    ·rw[Y]at Z;cases Z
    ·exact y e s f B Z
   ·rename_i s Y;have i:(b.getD r false&&dk s&&fW s&&fS u D r)=false->eq P a u b D C O T q->(∀e s f,e∈r::q->a[e]?=some s->b.getD e false=true->dk s=true->fW s=true->fS u D e=true->s.dst=some f->YN P a s (o.tmps.getD f undef) o E)/\T:=by
     intro h W;obtain⟨y,N⟩:=ih W;refine⟨λ e R f B Z U w x z=>?_,N⟩;rcases List.mem_cons.1 B with rfl|B
     ·rw[Y]at Z;cases Z;rw[U,w,x,z]at h;cases h
     ·exact y e R f B Z U w x z
    have c:(∀f,s.dst=some f->YN P a s (o.tmps.getD f undef) o E)->eq P a u b D C O T q->(∀e s f,e∈r::q->a[e]?=some s->b.getD e false=true->dk s=true->fW s=true->fS u D e=true->s.dst=some f->YN P a s (o.tmps.getD f undef) o E)/\T:=by
     intro K W;obtain⟨y,N⟩:=ih W;refine⟨λ e R f B Z U w x z G=>?_,N⟩;rcases List.mem_cons.1 B with rfl|B
     ·rw[Y]at Z;cases Z;exact K f G
     ·exact y e R f B Z U w x z G
    split at W
    ·exact i (by assumption) W
    ·split at W
     ·rename_i d;exact c (λ f G=>by rw[d]at G;cases G) W
     ·rename_i f G;have k:∀t,s.dst=some t->t=f:=λ t X=>by rw[G]at X;cases X;rfl
      split at W
      ·rename_i A J v p m;refine c (λ t X=>?_) W.2;obtain rfl:=k t X;refine .inl ⟨by simp[Region.wanted,m],?_⟩;rw[V.rdSem v,gE (W.1 E M),(V.val _ _ p).2]
      ·rename_i A J F I v p m;split at W
       ·rename_i g S;refine c (λ t X=>?_) W.2;obtain rfl:=k t X;have l:=my V m S;by_cases j:gB g I=true
        ·refine .inl ⟨l.trans j,?_⟩;rw[V.rdSem v,gE (W.1.1 j E M),(V.val _ _ p).2]
        ·have Q:gB g I=false:=by simpa using j
         exact .inr ⟨l.trans Q,by rw[(V.val _ _ p).2];exact W.1.2 Q⟩
       ·exact W.elim
      ·exact W.elim
theorem iZ{a:Array Oper}:∀{H:List Nat}{M:Nat},iC a H=some M->M∈H/\gN a M=true
 |[],M,O=>by cases O
 |r::q,M,O=>by
  unfold iC at O;split at O
  ·cases O;exact⟨List.mem_cons_self,by assumption⟩
  ·obtain⟨y,N⟩:=iZ O;exact⟨List.mem_cons_of_mem _ y,N⟩
theorem i5{a:Array Oper}:∀{H:List Nat},iC a H=none->∀M∈H,gN a M=false
 |[],_,M,d=>by cases d
 |r::q,O,M,d=>by
  unfold iC at O;split at O
  ·cases O
  ·rename_i Y;rcases List.mem_cons.1 d with rfl|d
   ·simpa using Y
   ·exact i5 O M d
theorem nE{k:Nat->Prop}:∀{H:List Nat},k4 k H->∀M∈H,k M
 |[],_,M,d=>by cases d
 |[D],O,M,d=>by
  obtain rfl:M=D:=by simpa using d
  exact O
 |D::r::q,O,M,d=>by
  rcases List.mem_cons.1 d with rfl|d
  ·exact O.1
  ·exact nE O.2 M d
theorem x5{u:Array Nat}{a:Array Oper}(O:yM n u a=true):ye n u a:=by unfold yM at O;simp only[Bool.and_eq_true]at O;exact⟨O.1.1.1.1,O.1.1.1.2,O.1.1.2,O.1.2,O.2⟩
theorem z8(h:∀c,ok c=true->f9 P c){a:Array Oper}{u:Array Nat}(w:ye n u a){T:bd->List Deferred->Heap->Prop}(A:∀t B E,¬Q (.panic t) B E){w0:World}(hq:∀B E,up n T w0 B E->Q .normal B E):∀(j:Nat)(b:Array Bool){C:bd}{L:List Deferred}{O:Heap}{B:Act}{E:World},b.size=a.size->jR a b->dA n C L B->E.heap=O->Sm w0 E->jS P ok n a u T j b C L O->jT P a u Q j b B E:=by
 intro j;induction j with
  |zero=>
   intro b C L O B E U I V M s W;unfold jS at W;split at W
   ·rename_i H;exact⟨H,hq _ _ ⟨C,L,V,by rw[M];exact W,s⟩⟩
   ·exact W.elim
  |succ j ih=>
   intro b C L O B E U I V M s W;unfold jS at W;split at W
   ·rename_i H;refine⟨λ _=>hq _ _ ⟨C,L,V,by rw[M];exact W,s⟩,λ a0 a1 d=>?_⟩;rw[H]at d;cases d
   ·rename_i i0 X H;split at W
    ·rename_i a0 g;obtain⟨e,m⟩:=iZ g;rw[<-H]at e;split at W
     ·rename_i a1 v;have o:dk a1=true:=by simpa[gN,v]using m
      obtain⟨a2,p,S,Y⟩:=Dp o V M W;exact Gp w v o A j b B E V.size U I e p (ih (b.setIfInBounds a0 true) (by simpa using U) (I.set e) S M s Y)
     ·exact W.elim
    ·rename_i g;have J:=i5 g;refine⟨λ q=>(by rw[H]at q;cases q),λ D a1 K v=>?_⟩;have i:D∈i0::X:=by rw[<-H];exact K
     have l:=nE W D i;simp only[v]at l;have a3:¬dk a1=true:=by have:=J D i;simp only[gN,v]at this;simp[this]
     rw[if_neg a3];refine wpOp_mono (λ a' w' F=>?_) (re (Q:=Q) h v V M l);obtain⟨e',a4,S,Y,k⟩:=F;obtain⟨y,N⟩:=uC S rfl _ Y;refine⟨λ r R f Z hl a5 x z G=>?_,ih (b.setIfInBounds D true) (by simpa using U) (I.set K) S rfl (s.trans k) N⟩;exact y r R f (List.mem_range.2 (Array.getElem?_eq_some_iff.1 Z).1) Z hl a5 x z G
theorem uJ(a:Array Oper):jR a (Array.replicate a.size false):=by intro r s Y f;have o:=(Array.getElem?_eq_some_iff.1 Y).1;simp[o]at f
theorem sS:∀(H:List Nat){T:VN H}{j C:bd}{L:List Deferred}{O:Heap}{B:Act}{r:bd->Heap->Prop},dA n C L B->nO H T C O->tY H T j r->(∀G J,bd.get j G=some J->G<n/\B.tmps.getD G undef=J)->∃R,dA n R L B/\r R O
 |[],T,j,C,L,O,B,r,V,y,N,K=>⟨j,⟨V.size,V.defers,K⟩,N O y⟩
 |G::H,T,j,C,L,O,B,r,V,y,N,K=>by
  unfold nO at y;split at y
  ·rename_i J p;refine sS H (j:=(G,J)::j) V y (N J) λ Q e U=>?_;simp only[bd.get]at U;split at U
   ·rename_i l;cases U;subst l;exact V.val _ _ p
   ·exact K Q e U
  ·exact y.elim
theorem oB:∀(H:List Nat){T:VN H}{x:VM H}{j C:bd}{L:List Deferred}{O:Heap}{u:Nat}{B:Act}{r:bd->Heap->Nat->Prop},dA n C L B->qJ H T x C O u->oz H T x j r->(∀G J,bd.get j G=some J->G<n/\B.tmps.getD G undef=J)->∃R c,dA n R L B/\r R O c/\c<u
 |[],T,x,j,C,L,O,u,B,r,V,y,N,K=>⟨j,x O,⟨V.size,V.defers,K⟩,N O y.1,y.2⟩
 |G::H,T,x,j,C,L,O,u,B,r,V,y,N,K=>by
  unfold qJ at y;split at y
  ·rename_i J p;refine oB H (j:=(G,J)::j) V y (N J) λ Q e U=>?_;simp only[bd.get]at U;split at U
   ·rename_i l;cases U;subst l;exact V.val _ _ p
   ·exact K Q e U
  ·exact y.elim
theorem oI:∀(H:List Nat){T:VN H}{x:VM H}{j C:bd}{L:List Deferred}{O:Heap}{B:Act}{r:bd->Heap->Nat->Prop},dA n C L B->nO H T C O->oz H T x j r->(∀G J,bd.get j G=some J->G<n/\B.tmps.getD G undef=J)->∃R c,dA n R L B/\r R O c
 |[],T,x,j,C,L,O,B,r,V,y,N,K=>⟨j,x O,⟨V.size,V.defers,K⟩,N O y⟩
 |G::H,T,x,j,C,L,O,B,r,V,y,N,K=>by
  unfold nO at y;split at y
  ·rename_i J p;refine oI H (j:=(G,J)::j) V y (N J) λ Q e U=>?_;simp only[bd.get]at U;split at U
   ·rename_i l;cases U;subst l;exact V.val _ _ p
   ·exact K Q e U
  ·exact y.elim
end
end Eng
end Go
namespace Go
namespace Eng
section
variable{P:Program}{n:Nat}{ok:FuncId->Bool}
theorem Rd.mono{A:Sem Value}{T l:Value->Prop}{O:Heap}(Y:∀J,T J->l J):Rd P O A T->Rd P O A l:=λ⟨J,y,N⟩=>⟨J,y,Y J N⟩
theorem Ac.mono{A:Sem Value}{T l:KV}{O:Heap}(Y:∀J O,T J O->l J O)(W:Ac P O A T):Ac P O A l:=λ E M=>let⟨J,Z,y,N,K⟩:=W E M;⟨J,Z,y,Y _ _ N,K⟩
theorem Un.mono{A:Sem Unit}{T l:Heap->Prop}{O:Heap}(Y:∀O,T O->l O)(W:Un P O A T):Un P O A l:=λ E M=>let⟨Z,y,N,K⟩:=W E M;⟨Z,y,Y _ N,K⟩
theorem Cl.mono{c:FuncId}{a:Array Value}{T l:KV}{O:Heap}(Y:∀J O,T J O->l J O)(W:Cl P O c a T):Cl P O c a l:=λ E M=>(W E M).mono λ _ _⟨J,y,N,K⟩=>⟨J,y,Y _ _ N,K⟩
theorem Ca.mono{A:Sem Next}{T l:KV}{O:Heap}(Y:∀J O,T J O->l J O):Ca P O A T->Ca P O A l:=λ⟨c,i,y,N⟩=>⟨c,i,y,N.mono Y⟩
theorem Xt.mono{c:FuncId}{a:Array Value}{T l:KV}{O:Heap}(Y:∀J O,T J O->l J O)(W:Xt P O c a T):Xt P O c a l:=λ E M=>let⟨J,Z,y,N,K⟩:=W E M;⟨J,Z,y,Y _ _ N,K⟩
theorem tp{s:Oper}{C:bd}{T l:KV}{O:Heap}(Y:∀J O,T J O->l J O)(W:kg P ok s C T O):kg P ok s C l O:=by
 obtain⟨r,K,e,b,m,o⟩:=s;cases K<;>simp only[kg]at W⊢;case call t=>
  obtain⟨d,a,k⟩:=t;cases d with
   |builtin u=>cases u<;>simp only at W⊢<;>(split at W<;>first|exact W.elim|exact Rd.mono (λ J=>Y J _) W|exact W.mono Y)
   |value c=>
    cases c with
     |func c=>
      simp only at W⊢;split at W
      ·split at W<;>exact W.mono Y
      ·exact W.elim
     |_=>simp only at W⊢;split at W<;>first|exact W.elim|exact W.mono Y
   |invoke E x=>simp only at W⊢;split at W<;>first|exact W.elim|exact W.mono Y
 all_goals first|exact W.elim|(split at W<;>first|exact W.elim|exact Y _ _ W|exact Rd.mono (λ J=>Y J _) W|exact W.mono Y|exact W.mono (Y undef)|exact⟨W.1,Y _ _ W.2⟩|(obtain⟨G,y,N⟩:=W;exact⟨G,y,Y _ _ N⟩))
def fJ(s:Oper):Bool:=match s.op with|.defer _=>false|_=>true
theorem jP{a:Array Oper}{s:Oper}{C:bd}{L:List Deferred}{T l:bd->List Deferred->Heap->Prop}{O:Heap}(Y:∀R m U,(fJ s=true->m=L)->T R m U->l R m U)(W:jc P ok n a s C L T O):jc P ok n a s C L l O:=by
 unfold jc at*;split at W;case h_2=>exact W.elim
 split at W
 ·split at W
  ·rename_i t q;have b:fJ s=true->∀m,m=L:=by simp[fJ,q]
   split at W
   ·split at W
    ·exact Y _ _ _ (λ O=>b O _) W
    ·exact W.elim
   ·split at W
    ·exact Y _ _ _ (λ O=>b O _) W
    ·exact W.elim
   ·exact W.elim
  ·exact tp (λ J U=>Y _ _ _ (λ _=>rfl)) W
 ·split at W
  ·exact⟨λ j=>tp (λ J U=>Y _ _ _ (λ _=>rfl)) (W.1 j),λ j=>Y _ _ _ (λ _=>rfl) (W.2 j)⟩
  ·exact W.elim
theorem tQ{a:Array Oper}{T l:bd->List Deferred->Heap->Prop}:∀{H:List Oper}{C:bd}{L:List Deferred}{O:Heap},(∀R m U,(H.all fJ=true->m=L)->T R m U->l R m U)->y1 P ok n a T H C L O->y1 P ok n a l H C L O|[],C,L,O,Y,W=>Y _ _ _ (λ _=>rfl) W|s::H,C,L,O,Y,W=>by refine jP (λ A c y H e=>?_) W;refine tQ (λ z F N p S=>Y _ _ _ (λ o=>?_) S) e;simp only[List.all_cons,Bool.and_eq_true]at o;rw[p o.2,H o.1]
theorem fL{a:Array Oper}{u:Array Nat}{b:Array Bool}{D:Nat}{C:bd}{O:Heap}{T l:Prop}(Y:T->l):∀{H:List Nat},eq P a u b D C O T H->eq P a u b D C O l H
 |[],W=>Y W
 |r::H,W=>by
  unfold eq at*;split at W
  ·exact fL Y W
  ·split at W
   ·exact fL Y W
   ·split at W
    ·exact fL Y W
    ·split at W
     ·exact⟨W.1,fL Y W.2⟩
     ·split at W
      ·exact⟨W.1,fL Y W.2⟩
      ·exact W.elim
     ·exact W.elim
theorem nA{k A:Nat->Prop}(Y:∀M,k M->A M):∀{H:List Nat},k4 k H->k4 A H|[],W=>W|[_],W=>Y _ W|_::_::_,W=>⟨Y _ W.1,nA Y W.2⟩
theorem p8{a:Array Oper}(O:a.toList.all fJ=true){M:Nat}{s:Oper}(d:a[M]?=some s):fJ s=true:=by rw[List.all_eq_true]at O;exact O s (by rw[<-Array.getElem?_toList]at d;exact List.mem_of_getElem? d)
theorem oy{a:Array Oper}{u:Array Nat}{T l:bd->List Deferred->Heap->Prop}:∀{j:Nat}{b:Array Bool}{C:bd}{L:List Deferred}{O:Heap},(∀R m U,(a.toList.all fJ=true->m=L)->T R m U->l R m U)->jS P ok n a u T j b C L O->jS P ok n a u l j b C L O
 |0,b,C,L,O,Y,W=>by
  unfold jS at*;split at W
  ·exact Y _ _ _ (λ _=>rfl) W
  ·exact W.elim
 |j+1,b,C,L,O,Y,W=>by
  unfold jS at*;split at W
  ·exact Y _ _ _ (λ _=>rfl) W
  ·split at W
   ·split at W
    ·rename_i s v;refine jP (λ A c y H e=>?_) W;exact oy (λ z F N p S=>Y _ _ _ (λ o=>by rw[p o,H (p8 o v)]) S) e
    ·exact W.elim
   ·refine nA (λ D d=>?_) W;split at d
    ·rename_i s v;refine jP (λ A c y H e=>fL (λ S=>?_) e) d;exact oy (λ z F N p S=>Y _ _ _ (λ o=>by rw[p o,H (p8 o v)]) S) S
    ·exact d.elim
theorem rm:∀{H:List Nat}{T:VN H}{C:bd}{r e:bd->Heap->Prop},(∀C O,r C O->e C O)->tY H T C r->tY H T C e|[],_,_,_,_,Y,W=>λ O d=>Y _ _ (W O d)|_::_,_,_,_,_,Y,W=>λ J=>rm Y (W J)
theorem l5:∀{H:List Nat}{T:VN H}{x:VM H}{C:bd}{r e:bd->Heap->Nat->Prop},(∀C O u,r C O u->e C O u)->oz H T x C r->oz H T x C e|[],_,_,_,_,_,Y,W=>λ O d=>Y _ _ _ (W O d)|_::_,_,_,_,_,_,Y,W=>λ J=>l5 Y (W J)
theorem nT:∀{t:Code}{d:eT}{Q f:QA}{C:bd}{L:List Deferred}{O:Heap},(∀X R m U,(eJ t=true->m=L)->Q X R m U->f X R m U)->eI P ok n t d Q C L O->eI P ok n t d f C L O:=by
 intro t;induction t with
  |skip=>intro d Q f C L O Y W;exact Y _ _ _ _ (λ _=>rfl) W
  |region j a E=>
   intro d Q f C L O Y W;cases E
   ·exact tQ (λ R m U G i=>Y _ _ _ _ G i) W
   ·cases d<;>first|exact W.elim|skip
    rename_i u;simp only[eI]at W⊢;split at W
    ·exact oy (λ R m U G i=>Y _ _ _ _ G i) W
    ·exact W.elim
  |seq X q g r=>
   intro d Q f C L O Y W;cases d<;>simp only[eI]at W⊢<;>first|exact W.elim|skip
   ·refine g (λ v A c y H e=>?_) W;cases v<;>simp only[thenA]at e⊢;case normal=>exact r (λ I z F N p S=>Y _ _ _ _ (λ D=>by simp only[eJ,Bool.and_eq_true]at D;rw[p D.2,H D.1]) S) e
    all_goals exact Y _ _ _ _ (λ D=>by simp only[eJ,Bool.and_eq_true]at D;exact H D.1) e
   ·split at W
    ·obtain⟨T,y,N⟩:=W;refine⟨T,rm (λ R U i=>r (λ I z F K p S=>Y _ _ _ _ (λ D=>by simp only[eJ,Bool.and_eq_true]at D;exact p D.2) S) i) y,?_⟩;refine g (λ v A c y H e=>?_) N;cases v<;>simp only[thenA]at e⊢;case normal=>exact e
     all_goals exact Y _ _ _ _ (λ D=>by simp only[eJ,Bool.and_eq_true]at D;exact H D.1) e
    ·exact W.elim
  |cond t X q g r=>
   intro d Q f C L O Y W;cases d<;>simp only[eI]at W⊢<;>first|exact W.elim|skip
   split at W
   ·obtain⟨s,y,N,K⟩:=W;exact⟨s,y,λ l=>g (λ v A c y H e=>Y _ _ _ _ (λ D=>by simp only[eJ,Bool.and_eq_true]at D;exact H D.1) e) (N l),λ l=>r (λ v A c y H e=>Y _ _ _ _ (λ D=>by simp only[eJ,Bool.and_eq_true]at D;exact H D.2) e) (K l)⟩
   ·exact W.elim
  |block j X ih=>
   intro d Q f C L O Y W;cases d<;>simp only[eI]at W⊢<;>first|exact W.elim|skip
   refine ih (λ v A c y H e=>?_) W;cases v<;>simp only[inBlockA]at e⊢;case exit Z=>
    split at e
    ·rename_i M;rw[if_pos M];exact Y _ _ _ _ H e
    ·rename_i M;rw[if_neg M];exact Y _ _ _ _ H e
   all_goals exact Y _ _ _ _ H e
  |loop X ih=>
   intro d Q f C L O Y W;cases d<;>simp only[eI]at W⊢<;>first|exact W.elim|skip
   ·split at W
    ·rename_i b;obtain⟨T,x,y,N⟩:=W;refine⟨T,x,y,l5 (λ R U u i=>ih (λ v A c y H e=>?_) i) N⟩;cases v<;>simp only[thenA]at e⊢;case normal=>exact e
     all_goals exact Y _ _ _ _ (λ D=>H b) e
    ·exact W.elim
   ·split at W
    ·exact W.elim
    ·rename_i b;obtain⟨T,x,y,N⟩:=W;refine⟨T,x,y,λ m=>l5 (λ R U u i=>ih (λ v A c y H e=>?_) i) (N m)⟩;cases v<;>simp only[thenA]at e⊢;case normal=>exact e
     all_goals exact Y _ _ _ _ (λ D=>by simp only[eJ]at D;rw[D]at b;cases b) e
  |rangeFunc o J B u h V=>intro d Q f C L O Y W;simp only[eI]at W
  |exit j=>intro d Q f C L O Y W;simp only[eI]at W⊢;exact Y _ _ _ _ (λ _=>rfl) W
  |scope X ih=>intro d Q f C L O Y W;simp only[eI]at W
  |label k=>intro d Q f C L O Y W;simp only[eI]at W
  |goto k=>intro d Q f C L O Y W;simp only[eI]at W
  |ret=>intro d Q f C L O Y W;simp only[eI]at W⊢;exact Y _ _ _ _ (λ _=>rfl) W
  |refuse w=>intro d Q f C L O Y W;simp only[eI]at W
def kQ(Q:QA):Prop:=(∀t C L O,¬Q (.panic t) C L O)/\∀C L O,¬Q .outgrown C L O
theorem kQ.up{Q:QA}{u:World}(O:kQ Q):∀t B E,¬zh n Q u (.panic t) B E:=λ t B E⟨C,L,_,F,_⟩=>O.1 t C L E.heap F
theorem kQ.thenA{Q:QA}(O:kQ Q)(r:bd->List Deferred->Heap->Prop):kQ (thenA r Q):=⟨λ t C L e F=>O.1 t C L e F,λ C L e F=>O.2 C L e F⟩
theorem kQ.inBlockA{Q:QA}(O:kQ Q)(j:Nat):kQ (inBlockA j Q):=⟨λ t C L e F=>O.1 t C L e F,λ C L e F=>O.2 C L e F⟩
theorem bd.get_drop{H:List Nat}:∀{C:bd}{G:Nat}{J:Value},bd.get (bd.drop H C) G=some J->G∉H/\bd.get C G=some J
 |[],G,J,O=>by cases O
 |(A,S)::C,G,J,O=>by
  unfold bd.drop at O;split at O
  ·rename_i s;obtain⟨y,N⟩:=bd.get_drop O;refine⟨y,?_⟩;unfold bd.get;have:A≠G:=λ R=>y (by subst R;simpa using s);rw[if_neg this];exact N
  ·rename_i s;unfold bd.get at O⊢;split at O
   ·rename_i Q;cases O;subst Q;exact⟨by simpa using s,by simp⟩
   ·rename_i Q;obtain⟨y,N⟩:=bd.get_drop O;rw[if_neg Q];exact⟨y,N⟩
def sE(n:Nat)(Q:QA)(Z:List Nat)(V:Act)(u:World)(X:Exit)(B:Act)(E:World):Prop:=∃C L,dA n C L B/\Q X C L E.heap/\cM Z V B/\Sm u E
theorem sE.mono{Q:QA}{Z i:List Nat}{V f:Act}{X:Exit}{B:Act}{E u q:World}(s:∀G,G∈Z->G∈i)(m:cM i V f)(M:Sm u q)(O:sE n Q Z f q X B E):sE n Q i V u X B E:=let⟨C,L,y,N,K,t⟩:=O;⟨C,L,y,N,m.trans (K.mono s),M.trans t⟩
theorem iK{H:List Nat}{C:bd}{L:List Deferred}{B g:Act}(V:dA n C L B)(s:cM H B g):∀G J,bd.get (bd.drop H C) G=some J->G<n/\g.tmps.getD G undef=J:=by intro G J O;obtain⟨y,N⟩:=bd.get_drop O;obtain⟨K,t⟩:=V.val G J N;exact⟨K,(s G y).trans t⟩
theorem ru(a0:∀a4,ok a4=true->f9 P a4)(hm:P.follows .mixedOrders=true):∀{a5:Code}{d:eT}{Q:QA}{C:bd}{L:List Deferred}{O:Heap}{B:Act}{E:World},kQ Q->dA n C L B->E.heap=O->eI P ok n a5 d Q C L O->a5.wp P (sE n Q (jf a5) B E) B E:=by
 intro a5;induction a5 with
  |skip=>intro d Q C L O B E l V M W;exact wp_skip ⟨C,L,V,by rw[M];exact W,cM.refl _ _,Sm.refl _⟩
  |region j a a6=>
   intro d Q C L O B E l V M W;have a7:∀X g Z,m5 (i4 a) B (λ X g Z=>X=.normal/\zh n Q E X g Z) X g Z->sE n Q (jf (.region j a a6)) B E X g Z:=by rintro X g Z⟨⟨rfl,R,m,y,N,h4⟩,K⟩;exact⟨R,m,y,N,K rfl,h4⟩
   cases a6
   ·refine wp_mono (wp_region (Q:=m5 (i4 a) B (λ X g Z=>X=.normal/\zh n Q E X g Z)) ?_) a7;refine pz (λ a5 B E F=>by cases F.1) _ (cM.refl _ _) ?_;exact zZ (Q:=λ X g Z=>X=.normal/\zh n Q E X g Z) a0 (List.range a.size) a.toList (rS a) V M (Sm.refl _) W (λ B E O=>⟨rfl,O⟩)
   ·cases d<;>first|exact W.elim|skip
    rename_i u;simp only[eI]at W;split at W
    ·rename_i hr;refine wp_mono (vI (Q:=λ X g Z=>X=.normal/\zh n Q E X g Z) (u:=u) hm (λ a5 B E F=>by cases F.1) ?_) a7;exact z8 (w0:=E) a0 (x5 hr) (λ a5 B E F=>by cases F.1) (λ B E O=>⟨rfl,O⟩) a.size _ (by simp) (uJ a) V (E:={E with drawn:=E.drawn+1}) M ⟨rfl,rfl⟩ W
    ·exact W.elim
  |seq X a8 a9 aa=>
   intro d Q C L O B E l V M W;have sx:∀G,G∈jf X->G∈jf (.seq X a8):=λ G l=>List.mem_append_left _ l;have sy:∀G,G∈jf a8->G∈jf (.seq X a8):=λ G l=>List.mem_append_right _ l;cases d<;>simp only[eI]at W<;>first|exact W.elim|skip
   ·refine wp_seq (wp_mono (a9 (l.thenA _) V M W) λ v g Z F=>?_);obtain⟨R,m,S,Y,s,k⟩:=F;cases v<;>simp only[Exit.then,thenA]at Y⊢;case normal=>exact wp_mono (aa l S rfl Y) λ I i w2 ab=>ab.mono sy (s.mono sx) k
    all_goals exact⟨R,m,S,Y,s.mono sx,k⟩
   ·split at W
    ·rename_i ac;obtain⟨T,y,N⟩:=W;have K:=nT (f:=λ v R m U=>m=L/\thenA (λ R _ U=>nO _ T R U) Q v R m U) (λ v R m U hd H'=>⟨hd ac,H'⟩) N;refine wp_seq (wp_mono (a9 ⟨λ a5 C L e F=>l.1 a5 C L e F.2,λ C L e F=>l.2 C L e F.2⟩ V M K) λ v g Z F=>?_);obtain⟨R,m,S,⟨ad,Y⟩,s,k⟩:=F;subst ad;cases v<;>simp only[Exit.then,thenA]at Y⊢;case normal=>obtain⟨z,ae,h⟩:=sS _ S Y y (iK V s);exact wp_mono (aa l ae rfl h) λ I i w2 ab=>ab.mono sy (s.mono sx) k
     all_goals exact⟨R,m,S,Y,s.mono sx,k⟩
    ·exact W.elim
  |cond a5 X a8 a9 aa=>
   intro d Q C L O B E l V M W;cases d<;>simp only[eI]at W<;>first|exact W.elim|skip
   split at W
   ·rename_i af hv;obtain⟨G,rfl,N,K⟩:=W;exact wp_cond_split (t:=G) (V.ev hv) (λ ag=>wp_mono (a9 l V M (N ag)) λ v g Z F=>F.mono (λ G l=>List.mem_append_left _ l) (cM.refl _ _) (Sm.refl _)) (λ ag=>wp_mono (aa l V M (K ag)) λ v g Z F=>F.mono (λ G l=>List.mem_append_right _ l) (cM.refl _ _) (Sm.refl _))
   ·exact W.elim
  |block j X ih=>
   intro d Q C L O B E l V M W;cases d<;>simp only[eI]at W<;>first|exact W.elim|skip
   refine wp_block (wp_mono (ih (l.inBlockA j) V M W) λ v g Z F=>?_);obtain⟨R,m,S,Y,s,k⟩:=F;cases v<;>simp only[Exit.inBlock,inBlockA]at Y⊢;case exit ah=>
    split at Y
    ·rename_i ai;rw[if_pos ai];exact⟨R,m,S,Y,s,k⟩
    ·rename_i ai;rw[if_neg ai];exact⟨R,m,S,Y,s,k⟩
   all_goals exact⟨R,m,S,Y,s,k⟩
  |loop X ih=>
   intro d Q C L O B E l V M W;cases d<;>simp only[eI]at W<;>first|exact W.elim|skip
   ·rename_i D aj;split at W
    ·rename_i ac;obtain⟨T,ak,y,N⟩:=W;obtain⟨e0,b0,am,an⟩:=oI _ V y N (iK V (cM.refl _ _));have ao:∀(u:Nat)(f:Act)(q:World)(R:bd),cM (jf X) B f->Sm E q->dA n R L f->eI P ok n X aj (thenA (λ z _ N=>qJ D T ak z N u) Q) R L q.heap->∀(A:Frame)(r:List Item)(H:List Frame),∃v g Z,sE n Q (jf (.loop X)) B E v g Z/\Arrives P (lone (A.at f (.code X::.inLoop X::r)) H q) A r H v g Z:=by
      intro u;induction u using Nat.strongRecOn with
       |_ u ap=>
        intro f q R aq ar S Y A r H;have K:=nT (f:=λ v R m U=>m=L/\thenA (λ z _ N=>qJ D T ak z N u) Q v R m U) (λ v R m U hd H'=>⟨hd ac,H'⟩) Y;obtain⟨v,i,w2,hq,p⟩:=ih ⟨λ a5 C L e F=>l.1 a5 C L e F.2,λ C L e F=>l.2 C L e F.2⟩ S rfl K A (.inLoop X::r) H;obtain⟨e1,c,au,⟨ad,av⟩,aw,ax⟩:=hq;subst ad;have J:=aq.trans aw;have o:=ar.trans ax;cases v<;>simp only[thenA]at av;case normal=>obtain⟨z,b2,ae,h,ay⟩:=oB _ au av N (iK V J);obtain⟨I,a3,w3,az,b1⟩:=ap b2 ay i w2 z J o ae h A r H;exact⟨I,a3,w3,az,.of_steps (Steps.trans p (.one step_inLoop)) b1⟩
        all_goals exact⟨_,i,w2,⟨e1,c,au,av,J,o⟩,.pass (x:=.inLoop X) rfl (λ _ _=>.inl (by simp)) p⟩
     intro A r H;obtain⟨v,g,Z,hq,p⟩:=ao b0 B E e0 (cM.refl _ _) (Sm.refl _) am (by rw[M];exact an) A r H;exact⟨v,g,Z,hq,.of_steps (.one step_loop) p⟩
    ·exact W.elim
   ·rename_i D aj;split at W
    ·exact W.elim
    ·obtain⟨T,ak,y,N⟩:=W;obtain⟨e0,b0,am,an⟩:=oI _ V y (N L) (iK V (cM.refl _ _));have ao:∀(u:Nat)(f:Act)(q:World)(R:bd)(m:List Deferred),cM (jf X) B f->Sm E q->dA n R m f->eI P ok n X aj (thenA (λ z b3 N=>qJ D (T b3) ak z N u) Q) R m q.heap->∀(A:Frame)(r:List Item)(H:List Frame),∃v g Z,sE n Q (jf (.loop X)) B E v g Z/\Arrives P (lone (A.at f (.code X::.inLoop X::r)) H q) A r H v g Z:=by
      intro u;induction u using Nat.strongRecOn with
       |_ u ap=>
        intro f q R m aq ar S Y A r H;obtain⟨v,i,w2,hq,p⟩:=ih (l.thenA _) S rfl Y A (.inLoop X::r) H;obtain⟨e1,c,au,av,aw,ax⟩:=hq;have J:=aq.trans aw;have o:=ar.trans ax;cases v<;>simp only[thenA]at av;case normal=>obtain⟨z,b2,ae,h,ay⟩:=oB _ au av (N c) (iK V J);obtain⟨I,a3,w3,az,b1⟩:=ap b2 ay i w2 z c J o ae h A r H;exact⟨I,a3,w3,az,.of_steps (Steps.trans p (.one step_inLoop)) b1⟩
        all_goals exact⟨_,i,w2,⟨e1,c,au,av,J,o⟩,.pass (x:=.inLoop X) rfl (λ _ _=>.inl (by simp)) p⟩
     intro A r H;obtain⟨v,g,Z,hq,p⟩:=ao b0 B E e0 L (cM.refl _ _) (Sm.refl _) am (by rw[M];exact an) A r H;exact⟨v,g,Z,hq,.of_steps (.one step_loop) p⟩
  |rangeFunc a4 ps B u b4 ap=>intro d Q C L O B E l V M W;simp only[eI]at W
  |exit j=>intro d Q C L O B E l V M W;simp only[eI]at W;exact wp_exit ⟨C,L,V,by rw[M];exact W,cM.refl _ _,Sm.refl _⟩
  |scope X ih=>intro d Q C L O B E l V M W;simp only[eI]at W
  |label aj=>intro d Q C L O B E l V M W;simp only[eI]at W
  |goto aj=>intro d Q C L O B E l V M W;simp only[eI]at W
  |ret=>intro d Q C L O B E l V M W;simp only[eI]at W;exact wp_ret ⟨C,L,V,by rw[M];exact W,cM.refl _ _,Sm.refl _⟩
  |refuse E=>intro d Q C L O B E l V M W;simp only[eI]at W
end
end Eng
end Go
namespace Go
namespace Eng
section
variable{P:Program}{n:Nat}{ok:FuncId->Bool}
def jZ(t:Array Value):ResultVar->Sem Value
 |.tmp G=>pure (t.getD G undef)
 |.cell B G=>do
  loadVar G (<-asAddr (t.getD B undef))
theorem hL{C:bd}{L:List Deferred}{B:Act}(V:dA n C L B):∀(u:List ResultVar){r:List Value->Heap->Prop}{O:Heap}{E:World},E.heap=O->l9 P u C r O->∃g,(u.mapM (jZ B.tmps)).run P E=.ok g E/\r g O
 |[],r,O,E,M,W=>⟨[],rfl,W⟩
 |.tmp G::u,r,O,E,M,W=>by
  unfold l9 at W;split at W
  ·rename_i J p;obtain⟨g,y,N⟩:=hL V u M W;refine⟨J::g,?_,N⟩;simp only[List.mapM_cons,jZ,(V.val G J p).2,Sem.run_bind,Sem.run_pure,Result.andThen_ok,y]
  ·exact W.elim
 |.cell t G::u,r,O,E,M,W=>by
  unfold l9 at W;split at W
  ·rename_i J p;obtain⟨X,i,Y⟩:=W;obtain⟨g,y,N⟩:=hL V u M Y;refine⟨X::g,?_,N⟩;have f:=i E M;simp only[List.mapM_cons,jZ,(V.val t J p).2];rw[Sem.run_bind,f,Result.andThen_ok,Sem.run_bind,y];rfl
  ·exact W.elim
theorem kJ{p:Func}{t:Array Value}{g:List Value}{E:World}(O:(p.results.toList.mapM (jZ t)).run P E=.ok g E):(results p t).run P E=.ok (ku g) E:=by have x:p.results.mapM (jZ t)=List.toArray<$>p.results.toList.mapM (jZ t):=Array.mapM_eq_mapM_toList;change Sem.run P ((p.results.mapM (jZ t))>>=λ g=>pure (if O:g.size=1 then g[0]else .tuple g)) E=_;rw[x];simp only[Sem.run_bind,Sem.run_map,O,Result.andThen_ok];clear O;match g with|[]=>rfl|[J]=>rfl|J::S::c=>simp[ku]
theorem jG{p:Func}{C:bd}{d:List Deferred}{B:Act}(V:dA n C d B){z:KV}{u:World}:∀(L:List Deferred){O:Heap}{E:World},E.heap=O->Sm u E->np P L (λ U=>l9 P p.results.toList C (λ g N=>z (ku g) N) U) O->Leaves P p B.tmps (λ X Z=>∃J,X=.returned J/\z J Z.heap/\Sm u Z) L .returning E
 |[],O,E,M,s,W=>by obtain⟨g,y,N⟩:=hL V p.results.toList M W;exact⟨ku g,kJ y,_,rfl,by rw[M];exact N,s⟩
 |f::L,O,E,M,s,W=>by obtain⟨b,B,c,a,y,N,K⟩:=W E M;refine⟨by simp,b,B,c,a,y,N,?_⟩;refine CallsD.mono K ?_;rintro X l Z⟨rfl,J,rfl,Y,k⟩;exact jG V L rfl (s.trans k) Y
theorem tm:∀(g:List Value)(M G:Nat),bd.get (qp M g) G=if M<=G then g[G-M]? else none
 |[],M,G=>by simp[qp,bd.get]
 |J::g,M,G=>by
  simp only[qp,bd.get,tm g (M+1) G];by_cases O:M=G
  ·subst O;simp
  ·rw[if_neg O];by_cases N:M<=G
   ·rw[if_pos (by omega),if_pos N];obtain⟨r,Y⟩:∃r,G-M=r+1:=⟨G-M-1,by omega⟩;rw[Y,show G-(M+1)=r by omega];rfl
   ·rw[if_neg (by omega),if_neg N]
theorem qY{a:List Value}(D:a.length<=n):dA n (qp 0 a) [] {tmps:=a.toArray++Array.replicate (n-a.toArray.size) undef,defers:=[]}:=by refine⟨by simp;omega,rfl,λ G J O=>?_⟩;rw[tm]at O;simp only[Nat.zero_le,if_true,Nat.sub_zero]at O;have o:G<a.length:=(List.getElem?_eq_some_iff.1 O).1;refine⟨by omega,?_⟩;simp only[Array.getD_eq_getD_getElem?];rw[Array.getElem?_append_left (by simpa using o)];simp[O]
theorem yp(u:List ResultVar)(z:KV):kQ (pS P u z):=⟨λ _ _ _ _ O=>O,λ _ _ _ O=>O⟩
theorem Dw(h:∀c,ok c=true->f9 P c)(B:P.follows .mixedOrders=true){c:FuncId}{p:Func}{t:Code}{d:eT}{a:List Value}{z:KV}{O:Heap}(V:P.funcs[c]?=some p)(j:p.body=some t)(D:a.length<=p.ntmps)(W:Jb P ok p.ntmps t p.results.toList d z a O):Cl P O c a.toArray z:=by
 intro E M;refine calls_of_wp_defers V j ?_;refine wp_mono (ru h B (yp _ _) (qY D) M W) λ X B Z F=>?_;obtain⟨C,L,b,Y,_,k⟩:=F;cases X<;>simp only[pS]at Y;case normal=>rw[<-b.defers]at Y;exact jG b _ rfl k Y
 case ret=>rw[<-b.defers]at Y;exact jG b _ rfl k Y
theorem uY(h:∀c,ok c=true->f9 P c)(B:P.follows .mixedOrders=true){c:FuncId}{p:Func}{t:Code}{d:eT}{a:List Value}{z:KV}{O:Heap}(V:P.funcs[c]?=some p)(j:p.body=some t)(D:a.length<=p.ntmps)(G:eJ t=true)(W:Jb P ok p.ntmps t p.results.toList d z a O)(E:World)(M:E.heap=O):CallsD P c a.toArray .returning E λ C l Z=>l=.returning/\∃J,C=.returned J/\z J Z.heap/\Sm E Z:=by
 refine callsD_of_wp (R:=λ C Z=>∃J,C=.returned J/\z J Z.heap/\Sm E Z) V j ?_;have S:=nT (f:=λ v a m U=>m=[]/\pS P p.results.toList z v a m U) (λ v a m U k i=>⟨k G,i⟩) W;refine wp_mono (ru h B ⟨λ t C L e F=>F.2,λ C L e F=>F.2⟩ (qY D) M S) λ X B Z F=>?_;obtain⟨C,L,b,⟨k,Y⟩,_,D⟩:=F;subst k;cases X<;>simp only[pS,np]at Y;case normal=>obtain⟨g,y,N⟩:=hL b p.results.toList rfl Y;exact⟨b.defers,ku g,kJ y,_,rfl,N,D⟩
 case ret=>obtain⟨g,y,N⟩:=hL b p.results.toList rfl Y;exact⟨b.defers,ku g,kJ y,_,rfl,N,D⟩
end
end Eng
end Go
namespace Go.Proofs.YtgmgmmoofjikiaaGreat
open Go.Eng
noncomputable abbrev P:Program:=Tryz.prog
def fO(c:FuncId):Bool:=Nat.blt c 496&&!(List.elem c [0,1,253,255,278,291,292,293,294,295,296,297,298,299,300,301,302,303,304,305,306,312,313,314,319,320,321,322,323,340,346,359,402,422,450,458,459,460,463,466,469,471,480,490])
noncomputable def qQ(c:FuncId):Bool:=match P.funcs[c]? with|some p=>p.name != "runtime.NumGoroutine"&&p.body.isSome|none=>false
theorem FN:(List.range 496).all (λ c=>!fO c||qQ c)=true:=by kernel_rfl
theorem jX:∀c,fO c=true->f9 P c:=by
 intro c O a E;have o:c<496:=by unfold fO at O;simp only[Bool.and_eq_true]at O;simpa using O.1
 have y:=List.all_eq_true.1 FN c (List.mem_range.2 o);rw[O]at y;simp only[Bool.not_true,Bool.false_or]at y;unfold qQ at y;split at y
 ·rename_i p V;simp only[Bool.and_eq_true,bne_iff_ne,ne_eq]at y;have e:(program).run P E=.ok P E:=rfl;unfold callFunc;simp only[Sem.run_bind,e,Result.andThen_ok,V];have j:p.body.isNone=false:=by cases i:p.body<;>simp[i]at y⊢
  simp[y.1,j]
 ·cases y
theorem Eu:P.follows .mixedOrders=true:=by kernel_rfl
universe u
structure Dm{α:Sort u}(x:α):Type where
section
variable(h:Heap)
def Rg(A:Sem Value)(T:Value->Prop)(_:Dm T:=⟨⟩):Prop:=Rd P h A T
def Ag(A:Sem Value)(T:KV)(_:Dm T:=⟨⟩):Prop:=Ac P h A T
def Ug(A:Sem Unit)(T:Heap->Prop)(_:Dm T:=⟨⟩):Prop:=Un P h A T
def Xg(c:Nat)(a:Array Value)(T:KV)(_:Dm T:=⟨⟩):Prop:=Xt P h c a T
def Rs(L:List Deferred)(T:Heap->Prop)(_:Dm T:=⟨⟩):Prop:=np P L T h
def Dg(f:Deferred)(T:Heap->Prop)(_:Dm T:=⟨⟩):Prop:=Df P h f T
def Ld(i:Nat)(B:Value)(T:Value->Prop)(_:Dm T:=⟨⟩):Prop:=Rd P h (Instr.loadAt i B) T
def Rv(i:Nat)(B:Value)(T:Value->Prop)(_:Dm T:=⟨⟩):Prop:=Rd P h (do
 loadVar i (<-asAddr B)) T
def Fa(i:Nat)(J:Value)(r:Nat)(T:Value->Prop)(_:Dm T:=⟨⟩):Prop:=Rd P h (Instr.fieldAt i J r) T
def Ia(i:Nat)(J M:Value)(T:Value->Prop)(_:Dm T:=⟨⟩):Prop:=Rd P h (Instr.indexAt i J M) T
def Bi(K:BinOp)(i:Nat)(B u:Value)(T:Value->Prop)(_:Dm T:=⟨⟩):Prop:=Rd P h (binOp K i B u) T
def Eb(K:BinOp)(i:Nat)(X q:Bool)(B u:Value)(T:Value->Prop)(_:Dm T:=⟨⟩):Prop:=Rd P h (Bo K i X q B u) T
def Nt(B:Value)(T:Value->Prop)(_:Dm T:=⟨⟩):Prop:=Rd P h (Op.unary .not B) T
def Ln(i:Nat)(B:Value)(T:Value->Prop)(_:Dm T:=⟨⟩):Prop:=Rd P h (Builtin.len_ #[i] 3 #[B]) T
def Mi(i:Nat)(B:Value)(T:Value->Prop)(_:Dm T:=⟨⟩):Prop:=Rd P h (Instr.makeInterface i B) T
def Cn(Z i:Nat)(J:Value)(T:Value->Prop)(_:Dm T:=⟨⟩):Prop:=Rd P h (convert Z i J) T
def Kp(i:Nat)(J:Value)(T:Value->Prop)(_:Dm T:=⟨⟩):Prop:=Rd P h (Builtin.cap_ #[i] 3 #[J]) T
def Mn(B u:Value)(T:Value->Prop)(_:Dm T:=⟨⟩):Prop:=Rd P h (Builtin.min_ #[3,3] 3 #[B,u]) T
def Sl(i:Nat)(X:Value)(g d m:Option Value)(T:Value->Prop)(_:Dm T:=⟨⟩):Prop:=Rd P h (Instr.sliceAt i X g d m) T
def Lk(i:Nat)(x r:Value)(u:Bool)(T:Value->Prop)(_:Dm T:=⟨⟩):Prop:=Rd P h (Instr.lookup i x r u) T
def Ta(X:Value)(i U:Nat)(u:Bool)(T:Value->Prop)(_:Dm T:=⟨⟩):Prop:=Rd P h (Instr.typeAssert X i U u) T
def Bd(i:Nat)(D:Array (Nat×Value))(T:Value->Prop)(_:Dm T:=⟨⟩):Prop:=Rd P h (Instr.build i D) T
def Al(i:Nat)(T:KV)(_:Dm T:=⟨⟩):Prop:=Ac P h (Instr.alloc i true (.tuple #[])) T
def Bx(i:Nat)(J:Value)(T:KV)(_:Dm T:=⟨⟩):Prop:=Ac P h (Instr.box i J) T
def Bs(i v:Nat)(D:Array (Nat×Value))(T:KV)(_:Dm T:=⟨⟩):Prop:=Ac P h (Instr.buildSlice i v D) T
def Ap(i:Nat)(B u:Value)(T:KV)(_:Dm T:=⟨⟩):Prop:=Ac P h (Builtin.append_ #[i,i] i #[B,u]) T
def bh(i:Nat)(B J:Value):Prop:=Rc P h (Instr.loadAt i B) J
def eG(i:Nat)(B:Value)(r:Nat)(J:Value):Prop:=Rc P h (Instr.fieldAt i B r) J
def iR(i:Nat)(B M J:Value):Prop:=Rc P h (Instr.indexAt i B M) J
def dn(i:Nat)(x r:Value)(u:Bool)(J:Value):Prop:=Rc P h (Instr.lookup i x r u) J
def Ie(i:Nat)(X:Value)(g d m:Option Value)(J:Value):Prop:=Rc P h (Instr.sliceAt i X g d m) J
def vL(i:Nat)(X J:Value):Prop:=Rc P h (Builtin.len_ #[i] 3 #[X]) J
def Sr(i:Nat)(B J:Value)(T:Heap->Prop)(_:Dm T:=⟨⟩):Prop:=Un P h (Instr.storeAt i B J) T
def Mu(i:Nat)(x r J:Value)(T:Heap->Prop)(_:Dm T:=⟨⟩):Prop:=Un P h (Instr.mapUpdate i x r J) T
def Cf(c:Nat)(a:Array Value)(T:KV)(_:Dm T:=⟨⟩):Prop:=Cl P h c a T
def Iv(W:Value)(x:String)(a:Array Value)(T:KV)(_:Dm T:=⟨⟩):Prop:=Ca P h (callMethod W x a) T
def Cv(c:Value)(a:Array Value)(T:KV)(_:Dm T:=⟨⟩):Prop:=Ca P h (do
 let f<-Deferred.ofValue c a;
 invoke f.target f.args) T
def Gd(P:Value)(I:Bool)(k:KV->Heap->Prop)(T:KV)(_:Dm k:=⟨⟩)(_:Dm T:=⟨⟩):Prop:=Eng.Gd h P I k T
end
def Nc(J:Value)(T:Prop)(_:Dm T:=⟨⟩):Prop:=Eng.Nc P J T
def Pk(t B u:Value)(T:Value->Prop)(_:Dm T:=⟨⟩):Prop:=Eng.Pk t B u T
def Ex(J:Value)(M:Nat)(T:Value->Prop)(_:Dm T:=⟨⟩):Prop:=Eng.Ex J M T
def Cd(t:Value)(k B:Prop)(_:Dm k:=⟨⟩)(_:Dm B:=⟨⟩):Prop:=Eng.Cd t k B
def Lp(k:Prop)(_:Dm k:=⟨⟩):Prop:=k
def pJ(p:Func)(d:eT)(z:KV)(a:List Value)(h:Heap):Prop:=match p.body,Nat.ble a.length p.ntmps with|some t,true=>Jb P fO p.ntmps t p.results.toList d z a h|_,_=>False
theorem W6{c:Nat}{p:Func}{a:List Value}{z:KV}{O:Heap}{F:Prop}(V:P.funcs[c]?=some p)(d:eT)(C:pJ p d z a O=F)(W:F):Cf O c a.toArray z:=by
 rw[<-C]at W;unfold pJ at W;split at W
 ·rename_i j D;exact Dw jX Eu V j (Nat.le_of_ble_eq_true D) W
 ·exact W.elim
end Go.Proofs.YtgmgmmoofjikiaaGreat
namespace Go.Proofs.YtgmgmmoofjikiaaGreat
open Go.Eng
variable{a c d e f g i j k p q r s:Value}{m n l t u v:Nat}{H:Heap}{R:KV}{α:Type}
def eL(h:Heap):World:=⟨h,λ _ _=>0,0,default,#[]⟩
theorem cV{A:Sem Value}{T:Value->Prop}(w:∀E:World,E.heap=H->A.run P E=.ok a E):Rd P H A T=T a:=by
 apply propext;constructor
 ·rintro⟨e,y,N⟩;have B:=y (eL H) rfl;rw[w (eL H) rfl]at B;cases B;exact N
 ·exact λ Y=>⟨a,w,Y⟩
theorem kv{U:Heap}{A:Sem Value}(w:∀E:World,E.heap=H->∃Z,A.run P E=.ok a Z/\Z.heap=U/\Sm E Z):Ac P H A R=R a U:=by
 apply propext;constructor
 ·intro W;obtain⟨e,Z,y,N⟩:=W (eL H) rfl;obtain⟨b,K,t,-⟩:=w (eL H) rfl;rw[K]at y;cases y;rw[<-t];exact N.1
 ·intro Y E M;obtain⟨Z,y,N,K⟩:=w E M;exact⟨a,Z,y,by rw[N];exact Y,K⟩
theorem Ey{U:Heap}{A:Sem Unit}{T:Heap->Prop}(w:∀E:World,E.heap=H->∃Z,A.run P E=.ok () Z/\Z.heap=U/\Sm E Z):Un P H A T=T U:=by
 apply propext;constructor
 ·intro W;obtain⟨Z,y,N⟩:=W (eL H) rfl;obtain⟨b,K,t,-⟩:=w (eL H) rfl;rw[K]at y;cases y;rw[<-t];exact N.1
 ·intro Y E M;obtain⟨Z,y,N,K⟩:=w E M;exact⟨Z,y,by rw[N];exact Y,K⟩
noncomputable def eQ(i:Nat):Option (Option Nat):=match P.underlying i,P.info? i with|some (.struct _),some M=>some (some M.size)|some (.array _ _),some M=>some (some M.size)|some _,some M=>if M.size=1 then some none else none|_,_=>none
noncomputable def nX(i r:Nat):Option Nat:=match P.underlying i with
 |some (.struct u)=>match u[r]? with
  |some c=>match P.info? c.type with|some M=>if M.size=0 then none else some c.offset|none=>none
  |none=>none
 |_=>none
noncomputable def ez(i:Nat):Option Nat:=match P.underlying i with|some (.slice C)=>(P.info? C).map (·.size)|_=>none
noncomputable def eH(i:Nat):Option Value:=(P.info? i).bind (·.zero)
theorem iE(E:World):(program).run P E=.ok P E:=rfl
theorem gz{M:TypeInfo}(O:P.info? m=some M)(E:World):(typeInfo m).run P E=.ok M E:=by unfold typeInfo;simp only[Sem.run_bind,iE,Result.andThen_ok,O];rfl
theorem bD{f:TypeDesc}(O:P.underlying m=some f)(E:World):(underlying m).run P E=.ok f E:=by unfold underlying;simp only[Sem.run_bind,iE,Result.andThen_ok,O];rfl
theorem eE{M:TypeInfo}(O:P.info? m=some M)(E:World):(sizeOf m).run P E=.ok M.size E:=by unfold sizeOf;simp only[Sem.run_bind,gz O,Result.andThen_ok];rfl
theorem jJ(O:eQ m=some none)(E:World):(isAgg m).run P E=.ok false E:=by
 unfold eQ at O;cases G:P.underlying m with
  |none=>rw[G]at O;simp at O
  |some f=>unfold isAgg;simp only[Sem.run_bind,bD G,Result.andThen_ok];cases d:P.info? m with|none=>rw[G,d]at O;cases f<;>simp at O|some M=>rw[G,d]at O;cases f<;>simp at O<;>rfl
theorem fg(O:eQ m=some (some n))(E:World):(isAgg m).run P E=.ok true E/\(sizeOf m).run P E=.ok n E:=by
 unfold eQ at O;cases G:P.underlying m with
  |none=>rw[G]at O;simp at O
  |some f=>
   unfold isAgg;simp only[Sem.run_bind,bD G,Result.andThen_ok];cases d:P.info? m with
    |none=>rw[G,d]at O;cases f<;>simp at O
    |some M=>rw[G,d]at O;rw[eE d];cases f<;>simp at O;all_goals first|(subst O;exact⟨rfl,rfl⟩)
theorem rW(O:eQ m=some none)(E:World):(sizeOf m).run P E=.ok 1 E:=by
 unfold eQ at O;cases G:P.underlying m with
  |none=>rw[G]at O;simp at O
  |some f=>cases d:P.info? m with|none=>rw[G,d]at O;cases f<;>simp at O|some M=>rw[G,d]at O;rw[eE d];cases f<;>simp at O<;>rw[O]
def aI(h:Heap)(b o:Nat):Option Value:=match h[b]? with|some (.cells t _ _)=>t[o]?|_=>none
def c4(h:Heap)(b:Nat):Nat->Nat->Option (List Value)
 |_,0=>some []
 |o,v+1=>match aI h b o,c4 h b (o+1) v with|some J,some g=>some (J::g)|_,_=>none
theorem gp{E:World}(M:E.heap=H)(u s:Nat):E.cell? ⟨u,s,none⟩=aI H u s:=by unfold World.cell? aI;rw[M];split<;>simp_all
theorem mR{E:World}(M:E.heap=H)(k:aI H m n=some a):(load ⟨m,n,none⟩).run P E=.ok a E:=by rw[run_load];rw[gp M,k]
theorem fB(u s r:Nat):(Addr.mk u s none).add r=⟨u,s+r,none⟩:=by
 unfold Addr.add;split
 ·rename_i Y;subst Y;rfl
 ·rfl
theorem gM{E:World}(e:E.heap=H)(u s:Nat):∀(v M:Nat)(Q:Array Value){g:List Value},c4 H u (s+M) v=some g->(loadCellsFrom ⟨u,s,none⟩ M v Q).run P E=.ok (Q++g.toArray) E
 |0,M,Q,g,k=>by cases k;simp[loadCellsFrom]
 |v+1,M,Q,g,k=>by
  unfold c4 at k;cases y:aI H u (s+M)with
   |none=>rw[y]at k;cases k
   |some J=>cases N:c4 H u (s+M+1) v with|none=>rw[y,N]at k;cases k|some c=>rw[y,N]at k;cases k;unfold loadCellsFrom;simp only[fB,Sem.run_bind,mR e y,Result.andThen_ok];rw[gM e u s v (M+1) (Q.push J) N];congr 1;apply Array.ext';simp
def aG:Value->Bool|.agg _|.tuple _=>false|_=>true
def gH(h:Heap)(b o:Nat):Bool:=match h[b]? with|some (.cells _ _ (g,d))=>decide (g<=o)&&decide (o<d)|_=>false
def aO(h:Heap)(b o:Nat)(J:Value):Heap:=h.modify b λ|.cells t C c=>.cells (t.setIfInBounds o J) C c|X=>X
def jy(h:Heap)(b:Nat):Nat->List Value->Heap|_,[]=>h|o,J::g=>jy (aO h b o J) b (o+1) g
def hQ(h:Heap)(b:Nat):Nat->List Value->Bool|_,[]=>true|o,J::g=>(aI h b o).isSome&&!gH h b o&&aG J&&hQ h b (o+1) g
theorem lS{E:World}(M:E.heap=H)(u s:Nat):E.frozen? ⟨u,s,none⟩=gH H u s:=by unfold World.frozen? gH;rw[M];split<;>simp_all
theorem tH{E:World}(M:E.heap=H)(u s:Nat)(J:Value):(E.setCell ⟨u,s,none⟩ J).heap=aO H u s J:=by unfold World.setCell aO;rw[M];simp only[Option.isSome_none,Bool.false_eq_true,if_false];congr 1
theorem oM(O:Heap)(u s:Nat)(J:Value)(c R:Nat):aI (aO O u s J) c R=if u=c/\s=R/\(aI O u s).isSome=true then some J else aI O c R:=by
 unfold aI aO;rw[Array.getElem?_modify];by_cases j:u=c
 ·subst j;simp only[if_true,true_and];cases i:O[u]? with
   |none=>simp
   |some X=>
    cases X<;>simp;rename_i t C q;rw[Array.getElem?_setIfInBounds];by_cases v:s=R
    ·subst v;by_cases o:s<t.size
     ·simp[o]
     ·simp[o]
    ·simp[v]
 ·simp[j]
theorem oR(O:Heap)(u s:Nat)(J:Value)(c R:Nat):gH (aO O u s J) c R=gH O c R:=by
 unfold gH aO;rw[Array.getElem?_modify];by_cases j:u=c
 ·subst j;simp only[if_true];cases i:O[u]? with|none=>simp|some X=>cases X<;>simp
 ·simp[j]
theorem aJ(O:Heap)(u s:Nat)(J:Value):(aO O u s J).size=O.size:=by simp[aO]
theorem pI(u:Nat):∀(g:List Value)(h:Heap)(o:Nat),(jy h u o g).size=h.size|[],h,o=>rfl|J::g,h,o=>by rw[jy,pI u g,aJ]
theorem kU:∀(g:List Value)(M o:Nat){E:World}{h:Heap},E.heap=h->hQ h u (o+M) g=true->∃Z,(storeCells ⟨u,o,none⟩ g M).run P E=.ok () Z/\Z.heap=jy h u (o+M) g/\Sm E Z
 |[],M,o,E,h,d,B=>⟨E,rfl,d,Sm.refl _⟩
 |J::g,M,o,E,h,d,B=>by
  unfold hQ at B;simp only[Bool.and_eq_true,Bool.not_eq_true']at B;obtain⟨⟨⟨y,N⟩,K⟩,t⟩:=B;obtain⟨X,i⟩:=Option.isSome_iff_exists.1 y;have Q:(store ⟨u,o+M,none⟩ J).run P E=.ok () (E.setCell ⟨u,o+M,none⟩ J):=by
   unfold store;have k:E.cell? ⟨u,o+M,none⟩=some X:=by rw[gp d,i]
   have V:E.frozen? ⟨u,o+M,none⟩=false:=by rw[lS d,N]
   cases J<;>first|(simp only[aG,Bool.false_eq_true]at K;done)|(simp only[Sem.run,k,V];rfl)
  have l:hQ (aO h u (o+M) J) u (o+(M+1)) g=true:=by
   have V:∀(c:List Value)(w:Nat),hQ h u w c=true->hQ (aO h u (o+M) J) u w c=true:=by
    intro c;induction c with
     |nil=>exact λ _ _=>rfl
     |cons S c ih=>
      intro w e;unfold hQ at e⊢;simp only[Bool.and_eq_true,Bool.not_eq_true']at e⊢;refine⟨⟨⟨?_,by rw[oR];exact e.1.1.2⟩,e.1.2⟩,ih _ e.2⟩;rw[oM];split
      ·rfl
      ·exact e.1.1.1
   exact V g _ (by rw[<-Nat.add_assoc];exact t)
  obtain⟨Z,w,F,k⟩:=kU g (M+1) o (tH d u (o+M) J) l;refine⟨Z,?_,by rw[F];rfl,Sm.trans (b:=E.setCell ⟨u,o+M,none⟩ J) ⟨rfl,rfl⟩ k⟩;unfold storeCells;rw[fB,Sem.run_bind,Q,Result.andThen_ok];exact w
def pn(X:Option Value)(g:Prop)(K:Value->Prop)(_:Dm g:=⟨⟩)(_:Dm K:=⟨⟩):Prop:=match X with|some J=>K J|none=>g
def uh(X:Option (List Value))(g:Prop)(K:List Value->Prop)(_:Dm g:=⟨⟩)(_:Dm K:=⟨⟩):Prop:=match X with|some J=>K J|none=>g
def ET(X:Option Value)(q:Option (List Value)):Option (List Value):=match X,q with|some J,some g=>some (J::g)|_,_=>none
theorem sV{g:Prop}{T:Value->Prop}:pn (some a) g T=T a:=rfl
theorem DI{J:List Value}{g:Prop}{T:List Value->Prop}:uh (some J) g T=T J:=rfl
theorem yK{g:List Value}:ET (some a) (some g)=some (a::g):=rfl
theorem vJ:c4 H m n 0=some []:=rfl
theorem vD:c4 H m n (l+1)=ET (aI H m n) (c4 H m (n+1) l):=rfl
section
variable{h:Heap}{b o:Nat}{K:Value->Prop}
theorem Nw(W:eQ m=some none):Ld h m (.pointer (some ⟨b,o,none⟩)) K=pn (aI h b o) (Rg h (Instr.loadAt m (.pointer (some ⟨b,o,none⟩))) K) K:=by cases k:aI h b o with|none=>rfl|some J=>refine cV λ E M=>?_;unfold Instr.loadAt Instr.sureAddr loadVar;simp only[Sem.run_bind,Sem.run_pure,Result.andThen_ok,jJ W];exact mR M k
theorem Bw(W:eQ m=some (some n)):Ld h m (.pointer (some ⟨b,o,none⟩)) K=uh (c4 h b o n) (Rg h (Instr.loadAt m (.pointer (some ⟨b,o,none⟩))) K) λ g=>K (.agg g.toArray):=by cases k:c4 h b o n with|none=>rfl|some g=>refine cV λ E M=>?_;unfold Instr.loadAt Instr.sureAddr loadVar;simp only[Sem.run_bind,Sem.run_pure,Result.andThen_ok,(fg W E).1,if_true,(fg W E).2];unfold loadCells;rw[gM M b o n 0 #[] (by simpa using k)];simp
theorem sj(W:nX m n=some l):Fa h m (.pointer (some ⟨b,o,none⟩)) n K=K (.pointer (some ⟨b,o+l,none⟩)):=by
 refine cV λ E M=>?_;unfold nX at W;cases O:P.underlying m with
  |none=>rw[O]at W;simp at W
  |some f=>
   rw[O]at W;cases f<;>simp at W;rename_i r;cases V:r[n]? with
    |none=>rw[V]at W;simp at W
    |some c=>
     rw[V]at W;simp only at W;cases d:P.info? c.type with
      |none=>rw[d]at W;simp at W
      |some H=>
       rw[d]at W;simp only at W;split at W
       ·cases W
       ·rename_i s;cases W;unfold Instr.fieldAt Instr.sureAddr fieldPlace;simp only[Sem.run_bind,bD O,Result.andThen_ok,V,Sem.run_pure,eE d,s,if_false,fB]
theorem to{M:Int}{r:IntKind}(W:ez m=some n):Ia h m (.slice (some ⟨b,o,none⟩) l t) (.int r M) K=if 0<=M/\M<l then K (.pointer (some ⟨b,o+M.toNat*n,none⟩))else Rg h (Instr.indexAt m (.slice (some ⟨b,o,none⟩) l t) (.int r M)) K:=by
 by_cases d:0<=M/\M<l
 ·rw[if_pos d];refine cV λ E w=>?_;unfold ez at W;cases O:P.underlying m with
   |none=>rw[O]at W;simp at W
   |some f=>rw[O]at W;cases f<;>simp at W;rename_i C;obtain⟨q,a,rfl⟩:=W;unfold Instr.indexAt asIntOf;simp only[Sem.run_bind,bD O,Result.andThen_ok,Sem.run_pure,eE a,fB,d,and_self,if_true]
 ·rw[if_neg d];rfl
theorem oD{B:Option Addr}(W:P.underlying m=some (.slice t)):Ln h m (.slice B n l) K=K (.int .i64 n):=by refine cV λ E M=>?_;unfold Builtin.len_;simp[Sem.run_bind,bD W,goInt]
theorem kk{A:ByteArray}(W:P.underlying m=some .string):Ln h m (.string A) K=K (.int .i64 A.size):=by refine cV λ E M=>?_;unfold Builtin.len_;simp[Sem.run_bind,bD W,goInt]
theorem io{B:Int}(O:-9223372036854775808<=B/\B<9223372036854775808):IntKind.i64.wrap B=B:=by
 have C:IntKind.i64.wrap B=if decide (B%18446744073709551616>=9223372036854775808)=true then B%18446744073709551616-18446744073709551616 else B%18446744073709551616:=rfl;rw[C];by_cases F:B%18446744073709551616>=9223372036854775808
 ·rw[if_pos (by simpa using F)];omega
 ·rw[if_neg (by simpa using F)];omega
theorem Ht{B t:Int}:Bi h .add m (.int .i64 B) (.int .i64 t) K=if-9223372036854775808<=B+t/\B+t<9223372036854775808 then K (.int .i64 (B+t))else K (.int .i64 (IntKind.i64.wrap (B+t))):=by
 have C:Bi h .add m (.int .i64 B) (.int .i64 t) K=K (.int .i64 (IntKind.i64.wrap (B+t))):=cV λ E M=>by simp[binOp,Op.intArith]
 by_cases j:-9223372036854775808<=B+t/\B+t<9223372036854775808
 ·rw[if_pos j,C,io j]
 ·rw[if_neg j,C]
theorem HO{B t:Int}:Bi h .sub m (.int .i64 B) (.int .i64 t) K=if-9223372036854775808<=B-t/\B-t<9223372036854775808 then K (.int .i64 (B-t))else K (.int .i64 (IntKind.i64.wrap (B-t))):=by
 have C:Bi h .sub m (.int .i64 B) (.int .i64 t) K=K (.int .i64 (IntKind.i64.wrap (B-t))):=cV λ E M=>by simp[binOp,Op.intArith]
 by_cases j:-9223372036854775808<=B-t/\B-t<9223372036854775808
 ·rw[if_pos j,C,io j]
 ·rw[if_neg j,C]
theorem JA{B t:Int}{r:IntKind}:Bi h .lss m (.int r B) (.int r t) K=K (.bool (decide (B<t))):=by refine cV λ E M=>?_;simp[binOp,Op.intCmp]
theorem Hk{B t:Int}{r:IntKind}:Bi h .leq m (.int r B) (.int r t) K=K (.bool (decide (B<=t))):=by refine cV λ E M=>?_;simp[binOp,Op.intCmp]
theorem GU{B t:Int}{r:IntKind}:Bi h .gtr m (.int r B) (.int r t) K=K (.bool (decide (t<B))):=by refine cV λ E M=>?_;simp[binOp,Op.intCmp]
theorem Jn{B t:Int}{r:IntKind}:Bi h .geq m (.int r B) (.int r t) K=K (.bool (decide (t<=B))):=by refine cV λ E M=>?_;simp[binOp,Op.intCmp]
theorem Fm{B t:ByteArray}:Bi h .lss m (.string B) (.string t) K=K (.bool (Op.bytesLess B.toList t.toList)):=by refine cV λ E M=>?_;simp[binOp,Op.stringOp]
theorem ki{K:BinOp}{X q:Bool}{r e:IntKind}{B t:Int}(E:World):(eqGuard K m (nB X) (nB q) (.int r B) (.int e t)).run P E=.ok () E:=by unfold eqGuard;cases K<;>rfl
theorem Bm{X q:Bool}{r:IntKind}{B t:Int}:Eb h .eql m X q (.int r B) (.int r t) K=K (.bool (B==t)):=by refine cV λ E M=>?_;unfold Bo;rw[Sem.run_bind,ki];simp[binOp,Op.intCmp]
theorem zL{X q:Bool}{r:IntKind}{B t:Int}:Eb h .neq m X q (.int r B) (.int r t) K=K (.bool (B !=t)):=by refine cV λ E M=>?_;unfold Bo;rw[Sem.run_bind,ki];simp[binOp,Op.intCmp]
theorem kn{K:BinOp}{X q:Bool}{B t:ByteArray}(E:World):(eqGuard K m (nB X) (nB q) (.string B) (.string t)).run P E=.ok () E:=by unfold eqGuard;cases K<;>rfl
theorem Bc{X q:Bool}{B t:ByteArray}:Eb h .eql m X q (.string B) (.string t) K=K (.bool (B.toList==t.toList)):=by refine cV λ E M=>?_;unfold Bo;rw[Sem.run_bind,kn];simp[binOp,Op.stringOp]
theorem BC{X q:Bool}{B t:ByteArray}:Eb h .neq m X q (.string B) (.string t) K=K (.bool (!(B.toList==t.toList))):=by refine cV λ E M=>?_;unfold Bo;rw[Sem.run_bind,kn];simp[binOp,Op.stringOp]
theorem wF{G:Bool}:Nt h (.bool G) K=K (.bool (!G)):=cV λ _ _=>rfl
theorem Im{B:Addr}{Q:Prop}:Nc (.pointer (some B)) Q=Q:=by simp[Nc,Eng.Nc,ld]
theorem CN{Q:Prop}:Nc (.iface m a) Q=Q:=by simp[Nc,Eng.Nc,ld]
theorem FX{B t:Array Value}{Q:Prop}:Nc (.func (.func m) B t) Q=Q:=by simp[Nc,Eng.Nc,ld]
theorem DN{g:Array Value}:Ex (.tuple g) m K=pn g[m]? False K:=by unfold Ex Eng.Ex yv pn;cases i:g[m]? with|none=>simp[i]|some J=>simp[i]
theorem x1{G:Bool}:Pk (.bool G) a c K=K (if G=true then a else c):=by simp[Pk,Eng.Pk]
theorem FM{k B:Prop}:Cd (.bool true) k B=k:=by simp[Cd,Eng.Cd]
theorem n7{k B:Prop}:Cd (.bool false) k B=B:=by simp[Cd,Eng.Cd]
theorem Fr{G:Bool}{k B:Prop}:Cd (.bool G) k B=((G=true->k)/\(G=false->B)):=by simp[Cd,Eng.Cd]
theorem Iq{E:Bool}{k:KV->Heap->Prop}:Gd h (.bool E) E k R=k R h:=by simp[Gd,Eng.Gd,gB]
theorem wZ{G E:Bool}(e:(G==E)=false){k:KV->Heap->Prop}:Gd h (.bool G) E k R=R undef h:=by simp[Gd,Eng.Gd,gB,e]
theorem eh{f:TypeDesc}(W:P.underlying m=some f)(G:(f matches .interface _)=false):Mi h m a K=K (.iface m a):=by refine cV λ E M=>?_;unfold Instr.makeInterface;simp only[Sem.run_bind,bD W,Result.andThen_ok];cases f<;>first|rfl|cases G
end
section
variable{h:Heap}{K:KV}
theorem Nn:Bx h m a K=K (.pointer (some ⟨h.size,0,none⟩)) (h.push (.cells a.cells m (0,0))):=by refine kv λ E M=>?_;subst M;exact⟨_,rfl,rfl,⟨rfl,rfl⟩⟩
theorem yt(W:eH m=some a):Al h m K=K (.pointer (some ⟨h.size,0,none⟩)) (h.push (.cells a.cells m (0,0))):=by
 refine kv λ E M=>?_;subst M;unfold eH at W;cases d:P.info? m with
  |none=>rw[d]at W;cases W
  |some M=>
   rw[d]at W;simp only[Option.bind_some]at W;have k:(zeroValue m).run P E=.ok a E:=by unfold zeroValue;simp only[Sem.run_bind,gz d,Result.andThen_ok,W];rfl
   refine⟨{E with heap:=E.heap.push (.cells a.cells m (0,0))},?_,rfl,⟨rfl,rfl⟩⟩;unfold Instr.alloc;simp only[Sem.run_bind,k,Result.andThen_ok];rfl
theorem ER{T:Heap->Prop}(s:∀E,(sizeOf m).run P E=.ok n E):Sr h m (.pointer (some ⟨u,l,none⟩)) a T=if a.cells.size=n/\hQ h u l a.cells.toList=true then T (jy h u l a.cells.toList)else Ug h (Instr.storeAt m (.pointer (some ⟨u,l,none⟩)) a) T:=by
 by_cases k:a.cells.size=n/\hQ h u l a.cells.toList=true
 ·rw[if_pos k];refine Ey λ E M=>?_;obtain⟨Z,y,N,K⟩:=kU (u:=u) a.cells.toList 0 l M (by simpa using k.2);refine⟨Z,?_,by simpa using N,K⟩;unfold Instr.storeAt Instr.sureAddr storeVar;simp only[Sem.run_bind,Sem.run_pure,Result.andThen_ok,s,k.1,ne_eq,not_true_eq_false,if_false];exact y
 ·rw[if_neg k];rfl
theorem lJ(O:aG a=true):a.cells=#[a]:=by cases a<;>first|rfl|cases O
theorem KB{T:Heap->Prop}(W:eQ m=some none):Sr h m (.pointer (some ⟨l,t,none⟩)) a T=if aG a=true/\hQ h l t [a]=true then T (aO h l t a)else Ug h (Instr.storeAt m (.pointer (some ⟨l,t,none⟩)) a) T:=by
 by_cases y:aG a=true
 ·rw[ER (n:=1) (rW W),lJ y];simp[jy,y]
 ·rw[if_neg (λ F=>y F.1)];rfl
theorem Jo{g:Array Value}{T:Heap->Prop}(W:eQ m=some (some n)):Sr h m (.pointer (some ⟨l,t,none⟩)) (.agg g) T=if g.size=n/\hQ h l t g.toList=true then T (jy h l t g.toList)else Ug h (Instr.storeAt m (.pointer (some ⟨l,t,none⟩)) (.agg g)) T:=ER (a:=.agg g) (λ E=>(fg W E).2)
end
theorem yN(O:Heap)(t:Array Value)(C:Nat)(c:Nat×Nat)(u s:Nat):aI (O.push (.cells t C c)) u s=if u=O.size then t[s]? else aI O u s:=by
 unfold aI;rw[Array.getElem?_push];by_cases j:u=O.size
 ·simp[j]
 ·simp[j]
theorem yw(O:Heap)(t:Array Value)(C:Nat)(u s:Nat):gH (O.push (.cells t C (0,0))) u s=if u=O.size then false else gH O u s:=by
 unfold gH;rw[Array.getElem?_push];by_cases j:u=O.size
 ·simp[j]
 ·simp[j]
theorem iq(k:aI H m n=some a):m<H.size:=by unfold aI at k;cases i:H[m]? with|none=>rw[i]at k;cases k|some X=>exact(Array.getElem?_eq_some_iff.1 i).1
attribute[go_sem]sV DI yK vJ vD Ht HO JA GU Hk Jn Fm Bm zL Bc BC wF Im CN FX DN x1 FM n7 Fr Iq wZ Nn yN yw Array.size_push aJ pI Nat.add_zero Nat.zero_add
end Go.Proofs.YtgmgmmoofjikiaaGreat
namespace Go.Proofs.YtgmgmmoofjikiaaGreat
open Go.Eng
abbrev gJ:= "pub-coparcener/pub/structuredmerge/typed.doMap"
abbrev hC:= "pub-coparcener/pub/structuredmerge/typed.doScalar"
abbrev gI:= "pub-coparcener/pub/structuredmerge/typed.doList"
abbrev m4:= "pub-coparcener/pub/structuredmerge/value.allocValueUnstructured"
abbrev yj:= "pub-coparcener/pub/structuredmerge/value.allocListUnstructuredRange"
abbrev i0:Value:=.int .i64 0
abbrev i1:Value:=.int .i64 1
abbrev i2:Value:=.int .i64 2
abbrev s0:Value:=.string ⟨#[]⟩
abbrev n0:Value:=.slice none 0 0
abbrev bt:Value:=.bool true
abbrev bf:Value:=.bool false
abbrev nilp:Value:=.pointer none
abbrev cr:Value:=.map none
abbrev nf:Value:=.nilFunc
abbrev ni:Value:=.nilIface
abbrev f0:Value:=.float .f64 0
abbrev xL(G:Nat):Prop:=∀{O:Heap}{u s:Nat}{T:Value->Prop},Ld O G (.pointer (some ⟨u,s,none⟩)) T=pn (aI O u s) (Rg O (Instr.loadAt G (.pointer (some ⟨u,s,none⟩))) T) T
abbrev xS(G:Nat):Prop:=∀{O:Heap}{u s:Nat}{J:Value}{T:Heap->Prop},Sr O G (.pointer (some ⟨u,s,none⟩)) J T=if aG J=true/\hQ O u s [J]=true then T (aO O u s J)else Ug O (Instr.storeAt G (.pointer (some ⟨u,s,none⟩)) J) T
abbrev xM(G v:Nat):Prop:=∀{O:Heap}{u s:Nat}{T:Value->Prop},Ld O G (.pointer (some ⟨u,s,none⟩)) T=uh (c4 O u s v) (Rg O (Instr.loadAt G (.pointer (some ⟨u,s,none⟩))) T) λ g=>T (.agg g.toArray)
abbrev xR(G v:Nat):Prop:=∀{O:Heap}{u s:Nat}{g:Array Value}{T:Heap->Prop},Sr O G (.pointer (some ⟨u,s,none⟩)) (.agg g) T=if g.size=v/\hQ O u s g.toList=true then T (jy O u s g.toList)else Ug O (Instr.storeAt G (.pointer (some ⟨u,s,none⟩)) (.agg g)) T
abbrev yS(G:Nat):Prop:=eQ G=some none/\xL G/\xS G
abbrev yA(G v:Nat):Prop:=eQ G=some (some v)/\xM G v/\xR G v
theorem ys{G:Nat}(W:eQ G=some none:=by kernel_rfl):yS G:=⟨W,Nw W,KB W⟩
theorem ya{G v:Nat}(W:eQ G=some (some v):=by kernel_rfl):yA G v:=⟨W,Bw W,Jo W⟩
abbrev xF(G r c:Nat):Prop:=∀{O:Heap}{u s:Nat}{T:Value->Prop},Fa O G (.pointer (some ⟨u,s,none⟩)) r T=T (.pointer (some ⟨u,s+c,none⟩))
theorem fo{G r c:Nat}(W:nX G r=some c:=by kernel_rfl):xF G r c:=sj W
abbrev xI(G v:Nat):Prop:=∀{O:Heap}{u s t V:Nat}{M:Int}{r:IntKind}{T:Value->Prop},Ia O G (.slice (some ⟨u,s,none⟩) t V) (.int r M) T=if 0<=M/\M<t then T (.pointer (some ⟨u,s+M.toNat*v,none⟩))else Rg O (Instr.indexAt G (.slice (some ⟨u,s,none⟩) t V) (.int r M)) T
theorem ix{G v:Nat}(W:ez G=some v:=by kernel_rfl):xI G v:=to W
abbrev xN(G:Nat):Prop:=∀{O:Heap}{B:Option Addr}{v V:Nat}{T:Value->Prop},Ln O G (.slice B v V) T=T (.int .i64 v)
theorem ln{G C:Nat}(W:P.underlying G=some (.slice C)):xN G:=oD W
theorem Q5:xI 22 4:=ix
theorem UB:xN 22:=ln Tryz.underlying22
theorem RC:xI 25 8:=ix
theorem RD:xN 25:=ln Tryz.underlying25
theorem TH:xI 26 8:=ix
theorem SR:xN 26:=ln Tryz.underlying26
theorem Tl:xI 32 1:=ix
theorem Q1:xI 33 6:=ix
theorem SQ:xN 33:=ln Tryz.underlying33
theorem R8:xI 36 4:=ix
theorem Ti:xN 36:=ln Tryz.underlying36
theorem Rt:xN 37:=ln Tryz.underlying37
theorem Tt:xN 38:=ln Tryz.underlying38
theorem TF:xN 39:=ln Tryz.underlying39
theorem Qz:xI 50 1:=ix
theorem Rj:xN 50:=ln Tryz.underlying50
theorem Q6:xI 62 1:=ix
theorem Rp:xI 65 10:=ix
theorem Ro:xN 65:=ln Tryz.underlying65
theorem Mv:xN 119:=ln Tryz.underlying119
theorem Oz:xI 140 8:=ix
theorem OU:xN 140:=ln Tryz.underlying140
theorem Ns:xI 147 10:=ix
theorem OI:xN 147:=ln Tryz.underlying147
theorem No:xI 234 4:=ix
theorem Kl:xN 234:=ln Tryz.underlying234
theorem MN:xI 241 1:=ix
theorem NK:xN 241:=ln Tryz.underlying241
theorem M7:xN 246:=ln Tryz.underlying246
theorem NC:xI 251 4:=ix
theorem J4:xN 251:=ln Tryz.underlying251
theorem KL:xI 252 4:=ix
theorem Pm:xN 252:=ln Tryz.underlying252
theorem MU:xN 270:=ln Tryz.underlying270
theorem Oi:xI 271 4:=ix
theorem M5:xN 271:=ln Tryz.underlying271
theorem M8:xN 274:=ln Tryz.underlying274
theorem Ni:xI 275 5:=ix
theorem NS:xN 275:=ln Tryz.underlying275
theorem Kh:xN 323:=ln Tryz.underlying323
theorem KI:xI 356 8:=ix
theorem KN:xN 356:=ln Tryz.underlying356
theorem L5:xN 357:=ln Tryz.underlying357
theorem JY:xI 558 1:=ix
theorem OF:xN 558:=ln Tryz.underlying558
theorem Nd:xI 585 1:=ix
theorem J6:xN 585:=ln Tryz.underlying585
theorem Po:xI 596 1:=ix
theorem LX:xN 596:=ln Tryz.underlying596
theorem Kg:xN 604:=ln Tryz.underlying604
theorem Md:xI 605 5:=ix
theorem OZ:xN 605:=ln Tryz.underlying605
theorem Ou:xI 610 1:=ix
theorem KU:xN 610:=ln Tryz.underlying610
theorem Nl:xI 626 1:=ix
theorem LS:xN 626:=ln Tryz.underlying626
theorem O1:xI 637 1:=ix
theorem L9:xN 637:=ln Tryz.underlying637
theorem LI:xI 647 1:=ix
theorem NV:xN 647:=ln Tryz.underlying647
theorem NR:xI 650 1:=ix
theorem MD:xN 650:=ln Tryz.underlying650
theorem Wa:yS 2:=ys
theorem V6:yS 3:=ys
theorem WQ:yS 4:=ys
theorem WY:yS 9:=ys
theorem SL:yS 20:=ys
theorem Rr:yS 22:=ys
theorem RW:yA 24 1:=ya
theorem Q9:yS 25:=ys
theorem Tw:yS 26:=ys
theorem Uo:yA 28 3:=ya
theorem Vu:yA 30 6:=ya
theorem Va:yS 31:=ys
theorem R2:yS 32:=ys
theorem UU:yS 33:=ys
theorem Vn:yA 35 6:=ya
theorem Sj:yS 36:=ys
theorem UY:yS 37:=ys
theorem TG:yS 38:=ys
theorem Qw:yS 39:=ys
theorem Ut:yA 41 22:=ya
theorem RK:yA 46 10:=ya
theorem QM:yS 50:=ys
theorem TX:yA 52 4:=ya
theorem SZ:yA 68 10:=ya
theorem TT:yS 86:=ys
theorem TQ:yS 87:=ys
theorem Qr:yS 88:=ys
theorem RB:yS 89:=ys
theorem Rz:yS 90:=ys
theorem ST:yA 92 3:=ya
theorem Te:yS 93:=ys
theorem QR:yA 95 6:=ya
theorem Vk:yS 96:=ys
theorem Sy:yS 97:=ys
theorem Ry:yA 99 10:=ya
theorem J5:yS 101:=ys
theorem KM:yS 114:=ys
theorem NL:yS 119:=ys
theorem L0:yA 139 8:=ya
theorem MA:yS 140:=ys
theorem Le:yA 142 8:=ya
theorem KQ:yA 144 8:=ya
theorem OG:yA 146 4:=ya
theorem Py:yA 153 11:=ya
theorem Ng:yS 168:=ys
theorem Ml:yS 169:=ys
theorem Pb:yS 170:=ys
theorem Pr:yA 172 4:=ya
theorem LJ:yS 173:=ys
theorem M6:yS 179:=ys
theorem JM:yS 225:=ys
theorem JR:yS 228:=ys
theorem LO:yS 234:=ys
theorem LF:yA 239 4:=ya
theorem O9:yS 240:=ys
theorem KY:yS 242:=ys
theorem NG:yS 250:=ys
theorem OB:yS 252:=ys
theorem KZ:yS 271:=ys
theorem M2:yA 273 1:=ya
theorem Lo:yS 275:=ys
theorem Mm:yA 277 1:=ya
theorem K4:yA 317 8:=ya
theorem Lr:yS 320:=ys
theorem JS:yS 323:=ys
theorem OM:yS 325:=ys
theorem JL:yA 327 12:=ya
theorem Mj:yS 343:=ys
theorem Pa:yS 352:=ys
theorem OO:yA 354 8:=ya
theorem Ms:yS 356:=ys
theorem NY:yS 357:=ys
theorem K0:yA 359 9:=ya
theorem OA:yS 362:=ys
theorem LZ:yS 365:=ys
theorem NJ:yS 366:=ys
theorem NO:yS 367:=ys
theorem Nr:yA 369 4:=ya
theorem Od:yS 372:=ys
theorem Lt:yS 373:=ys
theorem JN:yA 375 14:=ya
theorem JZ:yS 379:=ys
theorem L4:yS 380:=ys
theorem Kr:yA 382 14:=ya
theorem KO:yA 388 5:=ya
theorem Mx:yS 406:=ys
theorem LP:yS 407:=ys
theorem KP:yS 408:=ys
theorem J0:yS 409:=ys
theorem N8:yA 411 16:=ya
theorem Lj:yA 417 8:=ya
theorem MV:yS 426:=ys
theorem O6:yS 428:=ys
theorem K9:yA 430 11:=ya
theorem yA432:yA 432 1:=ya
theorem J7:yS 457:=ys
theorem Ob:yS 510:=ys
theorem Ph:yA 533 0:=ya
theorem Ny:yS 558:=ys
theorem Nz:yS 585:=ys
theorem L1:yS 586:=ys
theorem OP:yS 593:=ys
theorem Lg:yS 596:=ys
theorem Oy:yS 605:=ys
theorem LL:yA 607 1:=ya
theorem Lb:yA 619 5:=ya
theorem O8:yS 626:=ys
theorem K8:yA 634 1:=ya
theorem Pg:yS 638:=ys
theorem OQ:yS 647:=ys
theorem K2:yS 650:=ys
theorem UC:xF 24 0 0:=fo
theorem T2:xF 28 0 0/\xF 28 1 1/\xF 28 2 2:=⟨fo,fo,fo⟩
theorem Qu:xF 30 0 0/\xF 30 1 1/\xF 30 2 2/\xF 30 3 5:=⟨fo,fo,fo,fo⟩
theorem Tu:xF 35 0 0/\xF 35 1 1/\xF 35 2 2/\xF 35 3 3/\xF 35 4 4/\xF 35 5 5:=⟨fo,fo,fo,fo,fo,fo⟩
theorem U3:xF 41 2 7/\xF 41 3 13/\xF 41 4 14/\xF 41 5 15/\xF 41 6 16/\xF 41 8 18/\xF 41 10 20/\xF 41 11 21:=⟨fo,fo,fo,fo,fo,fo,fo,fo⟩
theorem T3:xF 46 0 0/\xF 46 2 2/\xF 46 3 3/\xF 46 4 9:=⟨fo,fo,fo,fo⟩
theorem U7:xF 52 0 0/\xF 52 1 1/\xF 52 2 2/\xF 52 3 3:=⟨fo,fo,fo,fo⟩
theorem UG:xF 68 0 0/\xF 68 1 1/\xF 68 2 2/\xF 68 3 3/\xF 68 4 4:=⟨fo,fo,fo,fo,fo⟩
theorem T8:xF 92 0 0/\xF 92 1 1/\xF 92 2 2:=⟨fo,fo,fo⟩
theorem Vh:xF 95 0 0/\xF 95 1 1/\xF 95 2 4/\xF 95 3 5:=⟨fo,fo,fo,fo⟩
theorem Ue:xF 99 0 0/\xF 99 1 1/\xF 99 2 2/\xF 99 3 8/\xF 99 4 9:=⟨fo,fo,fo,fo,fo⟩
theorem Lu:xF 139 0 0/\xF 139 1 1/\xF 139 2 7:=⟨fo,fo,fo⟩
theorem Ov:xF 142 0 0/\xF 142 1 1/\xF 142 2 7:=⟨fo,fo,fo⟩
theorem L6:xF 144 0 0/\xF 144 1 6/\xF 144 2 7:=⟨fo,fo,fo⟩
theorem K5:xF 146 0 0/\xF 146 1 1:=⟨fo,fo⟩
theorem Ki:xF 153 0 0/\xF 153 1 1/\xF 153 2 2/\xF 153 3 3/\xF 153 4 4/\xF 153 5 10:=⟨fo,fo,fo,fo,fo,fo⟩
theorem NW:xF 172 0 0/\xF 172 1 1/\xF 172 2 2/\xF 172 3 3:=⟨fo,fo,fo,fo⟩
theorem Pc:xF 190 0 0/\xF 190 1 1/\xF 190 2 2:=⟨fo,fo,fo⟩
theorem K1:xF 192 0 0/\xF 192 1 1/\xF 192 2 2/\xF 192 3 3:=⟨fo,fo,fo,fo⟩
theorem Ll:xF 236 0 0:=fo
theorem JQ:xF 239 0 0/\xF 239 1 1:=⟨fo,fo⟩
theorem OC:xF 269 0 0/\xF 269 1 1/\xF 269 2 2:=⟨fo,fo,fo⟩
theorem Me:xF 273 0 0:=fo
theorem KT:xF 277 0 0:=fo
theorem Kf:xF 279 0 0/\xF 279 1 1:=⟨fo,fo⟩
theorem Kx:xF 317 0 0/\xF 317 1 1/\xF 317 2 7:=⟨fo,fo,fo⟩
theorem MC:xF 327 0 0/\xF 327 1 1/\xF 327 2 2/\xF 327 3 8/\xF 327 4 9/\xF 327 5 10/\xF 327 6 11:=⟨fo,fo,fo,fo,fo,fo,fo⟩
theorem M0:xF 354 0 0/\xF 354 1 6/\xF 354 2 7:=⟨fo,fo,fo⟩
theorem M4:xF 359 0 0/\xF 359 1 1/\xF 359 2 2/\xF 359 3 8:=⟨fo,fo,fo,fo⟩
theorem OW:xF 369 0 0/\xF 369 1 1/\xF 369 2 2/\xF 369 3 3:=⟨fo,fo,fo,fo⟩
theorem Ko:xF 375 0 0/\xF 375 1 1/\xF 375 2 2/\xF 375 3 3/\xF 375 4 9/\xF 375 5 10/\xF 375 6 11/\xF 375 7 12/\xF 375 8 13:=⟨fo,fo,fo,fo,fo,fo,fo,fo,fo⟩
theorem Pp:xF 382 0 0/\xF 382 1 1/\xF 382 2 2/\xF 382 3 3/\xF 382 4 9/\xF 382 5 10/\xF 382 6 11/\xF 382 7 12/\xF 382 8 13:=⟨fo,fo,fo,fo,fo,fo,fo,fo,fo⟩
theorem Nh:xF 388 0 0/\xF 388 1 4:=⟨fo,fo⟩
theorem Og:xF 411 0 0/\xF 411 1 1/\xF 411 2 2/\xF 411 3 3/\xF 411 4 9/\xF 411 5 10/\xF 411 6 11/\xF 411 7 12/\xF 411 8 13/\xF 411 9 14/\xF 411 10 15:=⟨fo,fo,fo,fo,fo,fo,fo,fo,fo,fo,fo⟩
theorem JX:xF 417 0 0/\xF 417 1 1/\xF 417 2 7:=⟨fo,fo,fo⟩
theorem OD:xF 430 0 0/\xF 430 1 1/\xF 430 2 2/\xF 430 3 8/\xF 430 4 9/\xF 430 5 10:=⟨fo,fo,fo,fo,fo,fo⟩
theorem Kj:xF 432 0 0:=fo
theorem Nj:xF 459 0 0/\xF 459 1 1/\xF 459 2 2/\xF 459 3 3/\xF 459 4 4/\xF 459 5 5:=⟨fo,fo,fo,fo,fo,fo⟩
theorem KR:xF 607 0 0:=fo
theorem Oj:xF 619 0 0/\xF 619 1 4:=⟨fo,fo⟩
theorem LE:xF 634 0 0:=fo
theorem LK:xF 661 0 0/\xF 661 1 1/\xF 661 2 2:=⟨fo,fo,fo⟩
theorem wT:eQ 87=some none:=by kernel_rfl
theorem xh:eQ 88=some none:=by kernel_rfl
theorem wE:eQ 89=some none:=by kernel_rfl
theorem wM:eQ 92=some (some 3):=by kernel_rfl
theorem Ff{O:Heap}{u s:Nat}{T:Value->Prop}:Ld O 153 (.pointer (some ⟨u,s,none⟩)) T=uh (c4 O u s 11) (Rg O (Instr.loadAt 153 (.pointer (some ⟨u,s,none⟩))) T) λ g=>T (.agg g.toArray):=Bw (by kernel_rfl)
theorem Br{O:Heap}{u s:Nat}{T:Value->Prop}:Fa O 41 (.pointer (some ⟨u,s,none⟩)) 0 T=T (.pointer (some ⟨u,s+0,none⟩)):=sj (by kernel_rfl)
theorem zN{O:Heap}{u s:Nat}{T:Value->Prop}:Fa O 41 (.pointer (some ⟨u,s,none⟩)) 1 T=T (.pointer (some ⟨u,s+1,none⟩)):=sj (by kernel_rfl)
theorem zn{O:Heap}{u s:Nat}{T:Value->Prop}:Fa O 41 (.pointer (some ⟨u,s,none⟩)) 9 T=T (.pointer (some ⟨u,s+19,none⟩)):=sj (by kernel_rfl)
theorem GJ:ez 32=some 1:=by kernel_rfl
theorem Jw{O:Heap}{B:Option Addr}{v V:Nat}{T:Value->Prop}:Ln O 32 (.slice B v V) T=T (.int .i64 v):=oD Tryz.underlying32
theorem Uc:ez 50=some 1:=by kernel_rfl
theorem IP{O:Heap}{B:Option Addr}{v V:Nat}{T:Value->Prop}:Ln O 62 (.slice B v V) T=T (.int .i64 v):=oD Tryz.underlying62
theorem yo{O:Heap}{u s t V:Nat}{M:Int}{r:IntKind}{T:Value->Prop}:Ia O 119 (.slice (some ⟨u,s,none⟩) t V) (.int r M) T=if 0<=M/\M<t then T (.pointer (some ⟨u,s+M.toNat*11,none⟩))else Rg O (Instr.indexAt 119 (.slice (some ⟨u,s,none⟩) t V) (.int r M)) T:=to (by kernel_rfl)
theorem yz:ez 252=some 4:=by kernel_rfl
theorem xm:ez 271=some 4:=by kernel_rfl
theorem EW:ez 275=some 5:=by kernel_rfl
theorem Pe:ez 558=some 1:=by kernel_rfl
theorem NE:ez 596=some 1:=by kernel_rfl
theorem xw:ez 605=some 5:=by kernel_rfl
theorem Pd:ez 626=some 1:=by kernel_rfl
theorem K3:ez 637=some 1:=by kernel_rfl
theorem KD:ez 647=some 1:=by kernel_rfl
theorem KE:ez 650=some 1:=by kernel_rfl
attribute[go_sem]Q5 UB RC RD TH SR Tl Q1 SQ R8 Ti Rt Tt TF Qz Rj Q6 Rp Ro Mv Oz OU Ns OI No Kl MN NK M7 NC J4 KL Pm MU Oi M5 M8 Ni NS Kh KI KN L5 JY OF Nd J6 Po LX Kg Md OZ Ou KU Nl LS O1 L9 LI NV NR MD Wa V6 WQ WY SL Rr RW Q9 Tw Uo Vu Va R2 UU Vn Sj UY TG Qw Ut RK QM TX SZ TT TQ Qr RB Rz ST Te QR Vk Sy Ry J5 KM NL L0 MA Le KQ OG Py Ng Ml Pb Pr LJ M6 JM JR LO LF O9 KY NG OB KZ M2 Lo Mm K4 Lr JS OM JL Mj Pa OO Ms NY K0 OA LZ NJ NO Nr Od Lt JN JZ L4 Kr KO Mx LP KP J0 N8 Lj MV O6 K9 yA432 J7 Ob Ph Ny Nz L1 OP Lg Oy LL Lb O8 K8 Pg OQ K2 UC T2 Qu Tu U3 T3 U7 UG T8 Vh Ue Lu Ov L6 K5 Ki NW Pc K1 Ll JQ OC Me KT Kf Kx MC M0 M4 OW Ko Pp Nh Og JX OD Kj Nj KR Oj LE LK wT xh wE wM Ff Br zN zn Jw IP yo
end Go.Proofs.YtgmgmmoofjikiaaGreat
namespace Go.Proofs.YtgmgmmoofjikiaaGreat
open Go.Eng
variable{a b c d e f g i j k p q r s:Value}{m n o l t u v:Nat}{h H:Heap}{R:KV}{α:Type}
theorem FS{c:FuncId}{B:Array Value}{Q:KV}(W:Cl P h c B Q)(Y:∀J U,Q J U->R J U):Cl P h c B R:=by intro E M;refine(W E M).mono ?_;rintro C Z⟨J,rfl,q,k⟩;exact⟨J,rfl,Y _ _ q,k⟩
theorem Cf.then{B:Array Value}{Q:KV}(W:Cf h m B Q)(Y:∀J U,Q J U->R J U):Cf h m B R:=FS W Y
noncomputable def dK(i:Nat)(v:String):Option Nat:=match P.info? i with
 |some M=>match M.methods.find? (·.name==v)with
  |some x=>match x.path.toList,x.func,P.underlying i with|[],some (c,true),some (.pointer _)=>if fO c=true then some c else none|[],some (_,false),some (.pointer _)=>none|[],some (c,false),some _=>if fO c=true then some c else none|_,_,_=>none
  |none=>none
 |none=>none
theorem e9(V:fO m=true)(B:Array Value)(E:World):(callFunc m B).run P E=.ok (.enter m B) E:=jX m V B E
theorem iw{v:String}{t:Array Value}(B:dK m v=some n)(E:World):(callMethod (.iface m a) v t).run P E=.ok (.enter n (#[a]++t)) E:=by
 unfold dK at B;split at B;case h_2=>cases B
 rename_i M d;split at B;case h_2=>cases B
 rename_i x K;have p:∀U y,x.path.toList=[]->x.func=some (U,y)->fO U=true->(∃f,P.underlying m=some f/\(match f,y with|.pointer _,true=>True|.pointer _,false=>False|_,true=>False|_,false=>True))->U=n->(callMethod (.iface m a) v t).run P E=.ok (.enter n (#[a]++t)) E:=by
  rintro U y e z h⟨f,G,i⟩rfl;have Y:∀j,(method (j+1) m a v).run P E=.ok (U,a) E:=by intro j;unfold method;simp only[Sem.run_bind,gz d,Result.andThen_ok,K,e,z];unfold follow;simp only[Sem.run_bind,Sem.run_pure,Result.andThen_ok,receiverAt,bD G];cases f<;>cases y<;>first|(exact i.elim)|rfl
  have D:∀x:Nat,(method (x+Made.depth) m a v).run P E=.ok (U,a) E:=λ x=>by
   have C:x+Made.depth=(x+(Made.depth-1))+1:=by unfold Made.depth;omega
   rw[C];exact Y _
  unfold callMethod;rw[Sem.run_bind,iE,Result.andThen_ok,Sem.run_bind,D P.types.size,Result.andThen_ok];exact e9 h _ E
 split at B
 ·rename_i b C e V O;split at B
  ·rename_i h;cases B;exact p _ _ e V h ⟨_,O,trivial⟩ rfl
  ·cases B
 ·cases B
 ·rename_i b f c e V O;split at B
  ·rename_i h;cases B;refine p _ _ e V h ⟨_,O,?_⟩ rfl;cases f<;>first|exact True.intro|exact(c _ rfl).elim
  ·cases B
 ·cases B
theorem qD{v:String}{t:Array Value}{Q:Prop}(B:dK m v=some n):Nc (.func (.method v) #[.iface m a] t) Q=Q:=by
 have r:ld P (.func (.method v) #[.iface m a] t):=by
  refine⟨m,a,rfl,λ E=>?_⟩;unfold dK at B;split at B;case h_2=>cases B
  rename_i M d;split at B;case h_2=>cases B
  rename_i x K;have p:∀S y,x.path.toList=[]->x.func=some (S,y)->(∃f,P.underlying m=some f/\(match f,y with|.pointer _,true=>True|.pointer _,false=>False|_,true=>False|_,false=>True))->(nilAhead (P.types.size+Made.depth) m a v).run P E=.ok (some false) E:=by
   rintro S y e z⟨f,G,i⟩;have Y:∀j,(nilAhead (j+1) m a v).run P E=.ok (some false) E:=by
    intro j;unfold nilAhead;simp only[Sem.run_bind,gz d,Result.andThen_ok,K,e];unfold followBlind;simp only[Sem.run_bind,Sem.run_pure,Result.andThen_ok,z];cases y
    ·simp only[Sem.run_bind,Result.andThen_ok,bD G];cases f<;>first|(exact i.elim)|rfl
    ·rfl
   have D:∀x:Nat,(nilAhead (x+Made.depth) m a v).run P E=.ok (some false) E:=λ x=>by
    have C:x+Made.depth=(x+(Made.depth-1))+1:=by unfold Made.depth;omega
    rw[C];exact Y _
   exact D P.types.size
  split at B
  ·rename_i b C e V O;exact p _ _ e V ⟨_,O,trivial⟩
  ·cases B
  ·rename_i b f c e V O;split at B
   ·refine p _ _ e V ⟨_,O,?_⟩;cases f<;>first|exact True.intro|exact(c _ rfl).elim
   ·cases B
  ·cases B
 exact propext ⟨λ W=>W.2,λ W=>⟨r,W⟩⟩
theorem dH{v:String}{B:Array Value}(p:dK m v=some n):Iv h (.iface m a) v B R=Cf h n (#[a]++B) R:=by
 apply propext;constructor
 ·rintro⟨b,g,y,N⟩;have C:=y (eL h) rfl;rw[iw p]at C;cases C;exact N
 ·exact λ W=>⟨n,_,λ E _=>iw p E,W⟩
set_option maxRecDepth 20000 in theorem ej{t u B:Array Value}(V:fO m=true):Cv h (.func (.func m) t u) B R=Cf h m (t++B++u) R:=by
 have w:∀E,(do
  let f<-Deferred.ofValue (.func (.func m) t u) B;
  invoke f.target f.args:Sem Next).run P E=.ok (.enter m (t++B++u)) E:=by intro E;unfold Deferred.ofValue;simp only[Sem.run_bind,Sem.run_pure,Result.andThen_ok];unfold invoke;exact e9 V _ E
 apply propext;constructor
 ·rintro⟨b,g,y,N⟩;have C:=y (eL h) rfl;rw[w]at C;cases C;exact N
 ·exact λ W=>⟨m,_,λ E _=>w E,W⟩
def iz(w:Program):List Field->Option (List (Nat×Nat))
 |[]=>some []
 |c::r=>match w.info? c.type,iz w r with|some M,some H=>some ((c.offset,M.size)::H)|_,_=>none
theorem yF(w:Program)(E:World)(r:List Field):∀{H:List (Nat×Nat)},iz w r=some H->(r.mapM (λ c=>do
 pure (c.offset,<-sizeOf c.type):Field->Sem (Nat×Nat))).run w E=.ok H E:=by
 induction r with
  |nil=>intro H O;rw[iz]at O;injection O with O;subst O;simp only[List.mapM_nil,Sem.run_pure]
  |cons c r ih=>
   intro H O;rw[iz]at O;cases d:w.info? c.type with
    |none=>rw[d]at O;cases O
    |some M=>
     cases f:iz w r with
      |none=>rw[d,f]at O;cases O
      |some y=>
       rw[d,f]at O;cases O;have s:(sizeOf c.type).run w E=.ok M.size E:=by have e:(program).run w E=.ok w E:=rfl;unfold sizeOf typeInfo;simp only[Sem.run_bind,e,Result.andThen_ok,d];rfl
       simp only[List.mapM_cons,Sem.run_bind,s,Result.andThen_ok,Sem.run_pure,ih f]
noncomputable def mY(i:Nat):Option (List (Nat×Nat)×List Value):=match P.underlying i,eH i with
 |some (.struct r),some L=>match iz P r.toList with|some H=>some (H,L.cells.toList)|none=>none
 |_,_=>none
theorem g3(k:eH m=some a)(E:World):(zeroValue m).run P E=.ok a E:=by unfold eH at k;cases d:P.info? m with|none=>rw[d]at k;cases k|some M=>rw[d]at k;simp only[Option.bind_some]at k;unfold zeroValue;simp only[Sem.run_bind,gz d,Result.andThen_ok,k];rfl
theorem EH{H:List (Nat×Nat)}{L:List Value}{D:List (Nat×Value)}{Q:Array Value}{T:Value->Prop}(W:mY m=some (H,L))(V:Instr.fill (H[·]?) L.toArray D=some Q):Bd h m D.toArray T=T (.agg Q):=by
 refine cV λ E M=>?_;unfold mY at W;split at W;case h_2=>cases W
 rename_i r g O k;split at W;case h_2=>cases W
 rename_i y f;cases W;unfold Instr.build;have e:=yF P E _ f;simp only[Sem.run_bind,g3 k,Result.andThen_ok,bD O];rw[<-Array.toArray_toList (xs:=r),List.mapM_toArray];simp only[map_eq_pure_bind,Sem.run_bind,e,Result.andThen_ok,Sem.run_pure];simp only[Array.toArray_toList]at V;have C:(λ X:Nat=>(H.toArray:Array (Nat×Nat))[X]?)=λ X:Nat=>(H:List (Nat×Nat))[X]?:=by funext X;simp
 simp only[C,V];rfl
abbrev aK:=Nat->Option Obj
def bP(T:aK)(u s:Nat):Option Value:=match T u with|some (.cells t _ _)=>t[s]?|_=>none
def HE(T:aK)(W:Nat):Option (Array MapEntry):=match T W with|some (.map g _)=>some g|_=>none
def aN(T:aK)(O:Heap):Prop:=∀u X,T u=some X->O[u]?=some X
def aK.le(T V:aK):Prop:=∀u X,T u=some X->V u=some X
theorem aK.le.refl(I:aK):aK.le I I:=λ _ _ O=>O
theorem aK.le.trans{T V L:aK}(y:T.le V)(N:V.le L):T.le L:=λ b X O=>N b X (y b X O)
theorem cE{T V:aK}(O:T.le V)(k:bP T m n=some a):bP V m n=some a:=by unfold bP at k⊢;cases i:T m with|none=>rw[i]at k;cases k|some X=>rw[i]at k;rw[O m X i];exact k
theorem aN.cell{T:aK}(Z:aN T h)(k:bP T m n=some a):aI h m n=some a:=by unfold bP at k;cases i:T m with|none=>rw[i]at k;cases k|some X=>rw[i]at k;unfold aI;rw[Z m X i];exact k
def cJ(O:Heap)(W:Nat):Option (Array MapEntry×Nat):=match O[W]? with|some (.map g t)=>some (g,t)|_=>none
theorem aN.map{T:aK}(Z:aN T h){g:Array MapEntry}(k:HE T m=some g):∃t,cJ h m=some (g,t):=by unfold HE at k;cases i:T m with|none=>rw[i]at k;cases k|some X=>rw[i]at k;unfold cJ;rw[Z m X i];cases X<;>cases k;exact⟨_,rfl⟩
theorem dg{X:Array MapEntry×Nat}(k:cJ h m=some X):m<h.size:=by unfold cJ at k;cases i:h[m]? with|none=>rw[i]at k;cases k|some X=>exact(Array.getElem?_eq_some_iff.1 i).1
theorem aN.lt{T:aK}(Z:aN T h)(k:bP T m n=some a):m<h.size:=iq (Z.cell k)
structure aC(D:Nat->Prop)(I:aK)(h:Heap)(I':aK)(h':Heap):Prop where
 size:h.size<=h'.size
 same:∀b,b<h.size->¬D b->h'[b]?=h[b]?
 dom:∀b,b<h.size->¬D b->I' b=I b
 le:I.le I'
 sat:aN I' h'
abbrev none_:Nat->Prop:=λ _=>False
abbrev aD:=aC none_
theorem aC.refl{D:Nat->Prop}{I:aK}(Z:aN I h):aC D I h I h:=⟨Nat.le_refl _,λ _ _ _=>rfl,λ _ _ _=>rfl,aK.le.refl I,Z⟩
theorem aC.trans{g:Nat->Prop}{T A z:aK}{N:Heap}(B:aC g T h A H)(b:aC g A H z N):aC g T h z N:=⟨Nat.le_trans B.size b.size,λ r Y G=>(b.same r (Nat.lt_of_lt_of_le Y B.size) G).trans (B.same r Y G),λ r Y G=>(b.dom r (Nat.lt_of_lt_of_le Y B.size) G).trans (B.dom r Y G),B.le.trans b.le,b.sat⟩
theorem aC.trans'{g a:Nat->Prop}{T A z:aK}{N:Heap}(B:aC g T h A H)(u:aC a A H z N)(G:∀r,r<h.size->a r->g r):aC g T h z N:=⟨Nat.le_trans B.size u.size,λ r Y D=>(u.same r (Nat.lt_of_lt_of_le Y B.size) (λ X=>D (G r Y X))).trans (B.same r Y D),λ r Y D=>(u.dom r (Nat.lt_of_lt_of_le Y B.size) (λ X=>D (G r Y X))).trans (B.dom r Y D),B.le.trans u.le,u.sat⟩
theorem aC.weak{g D':Nat->Prop}{T A:aK}(B:aC g T h A H)(G:∀r,r<h.size->g r->D' r):aC D' T h A H:=⟨B.size,λ r Y D=>B.same r Y (λ X=>D (G r Y X)),λ r Y D=>B.dom r Y (λ X=>D (G r Y X)),B.le,B.sat⟩
theorem aC.cell{g:Nat->Prop}{T A:aK}(B:aC g T h A H)(k:aI h m n=some a)(G:¬g m):aI H m n=some a:=by have j:=B.same m (iq k) G;unfold aI at k⊢;rw[j];exact k
theorem aC.map{g:Nat->Prop}{T A:aK}(B:aC g T h A H){X:Array MapEntry×Nat}(k:cJ h m=some X)(G:¬g m):cJ H m=some X:=by have j:=B.same m (dg k) G;unfold cJ at k⊢;rw[j];exact k
def aK.grow(T:aK)(O U:Heap):aK:=λ u=>if u<O.size then T u else U[u]?
theorem aN.dom{T:aK}(Z:aN T h){X:Obj}(i:T m=some X):m<h.size:=(Array.getElem?_eq_some_iff.1 (Z m X i)).1
theorem aK.grow_le{T:aK}(Z:aN T h)(U:Heap):T.le (T.grow h U):=by intro u X i;unfold aK.grow;rw[if_pos (Z.dom i)];exact i
theorem aC.keepAll{g:Nat->Prop}{T:aK}(B:aC g T h T H)(Z:aN T h):aC g T h (T.grow h H) H:=by
 refine⟨B.size,B.same,λ u j _=>by unfold aK.grow;rw[if_pos j],aK.grow_le Z H,?_⟩;intro u X i;unfold aK.grow at i;split at i
 ·exact B.sat u X i
 ·exact i
theorem aC.push{g:Nat->Prop}{T A:aK}(B:aC g T h A H)(X:Obj):aC g T h A (H.push X):=by
 refine⟨by rw[Array.size_push];exact Nat.le_succ_of_le B.size,?_,B.dom,B.le,?_⟩
 ·intro u j G;rw[Array.getElem?_push,if_neg (by have:=B.size;omega)];exact B.same u j G
 ·intro u q p;rw[Array.getElem?_push,if_neg (by have:=B.sat.dom p;omega)];exact B.sat u q p
theorem aC.put{g:Nat->Prop}{T A:aK}(B:aC g T h A H){b:Nat}{v:Value}(j:h.size<=b\/g b)(d:A b=none):aC g T h A (aO H b o v):=by
 refine⟨by rw[aJ];exact B.size,?_,B.dom,B.le,?_⟩
 ·intro t k G;unfold aO;rw[Array.getElem?_modify,if_neg (by rintro rfl;rcases j with j|j;omega;exact G j)];exact B.same t k G
 ·intro t q p;unfold aO;rw[Array.getElem?_modify,if_neg (by rintro rfl;rw[d]at p;cases p)];exact B.sat t q p
theorem aC.fresh{g:Nat->Prop}{T A:aK}(B:aC g T h A H)(j:H.size<=m):A m=none:=by cases i:A m with|none=>rfl|some X=>exact absurd (B.sat.dom i) (by omega)
theorem aN.fresh{T:aK}(Z:aN T h)(j:h.size<=m):T m=none:=(aC.refl (D:=none_) Z).fresh j
def aK.add(T:aK)(w:Nat->Bool)(O:Heap):aK:=λ u=>if w u=true then O[u]? else T u
theorem aC.freeze{g:Nat->Prop}{T A:aK}(B:aC g T h A H)(w:Nat->Bool)(e:∀u,w u=true->h.size<=u\/g u):aC g T h (A.add w H) H:=by
 refine⟨B.size,B.same,?_,?_,?_⟩
 ·intro u j G;unfold aK.add;rw[if_neg (λ F=>by rcases e u F with N|N;omega;exact G N)];exact B.dom u j G
 ·intro u X i;unfold aK.add;split
  ·exact B.sat u X (B.le u X i)
  ·exact B.le u X i
 ·intro u X i;unfold aK.add at i;split at i
  ·exact i
  ·exact B.sat u X i
def kX(L:Nat)(O:Heap)(C s:Nat)(J:Value)(v:Nat)(c:List Value):Prop:=c.length=v*s/\((J=.slice none 0 0/\v=0)\/∃P V X,J=.slice (some ⟨P,0,none⟩) v V/\L<=P/\O[P]?=some (.cells X C (0,0))/\v<=V/\V<=maxLen/\X.size=V*s/\X.toList.take (v*s)=c)
theorem kX.world{c:List Value}(B:kX m h n o a l c){E:World}(M:E.heap=h):E.ownsRow m n o a l c:=by subst M;exact B
structure ft(h h':Heap)(row:Option Nat):Prop where
 size:h.size<=h'.size
 same:∀k,k<h.size->some k≠row->h'[k]?=h[k]?
noncomputable def eW(i:Nat):Option (Nat×Nat×Nat×List Value):=match P.underlying i with
 |some (.slice C)=>match P.info? C with
  |some M=>match M.zero with|some L=>some (C,M.size,M.bytes,L.cells.toList)|none=>none
  |none=>none
 |_=>none
theorem eF{L:List Value}(O:eW m=some (n,o,l,L)):∃M A,P.underlying m=some (.slice n)/\P.info? n=some M/\M.zero=some A/\M.size=o/\M.bytes=l/\A.cells.toList=L:=by
 unfold eW at O;split at O;case h_2=>cases O
 rename_i R I;split at O;case h_2=>cases O
 rename_i M d;split at O;case h_2=>cases O
 rename_i A k;cases O;exact⟨M,A,I,d,k,rfl,rfl,rfl⟩
theorem pT:∀{v s:Nat}{g:List Value},c4 h m s v=some g->∀D S,g[D]?=some S->aI h m (s+D)=some S
 |0,s,g,k,D,S,K=>by cases k;simp at K
 |v+1,s,g,k,D,S,K=>by
  unfold c4 at k;cases y:aI h m s with
   |none=>rw[y]at k;cases k
   |some J=>
    cases N:c4 h m (s+1) v with
     |none=>rw[y,N]at k;cases k
     |some c=>rw[y,N]at k;cases k;cases D with|zero=>simp at K;subst K;exact y|succ D=>simp at K;have:=pT N D S K;rwa[Nat.add_assoc,Nat.add_comm 1 D]at this
theorem qw(S:Value):S.oneCell'=aG S:=by cases S<;>rfl
theorem s9{w:Program}(E:World)(I:Nat)(G e C:TypeId)(M:TypeInfo)(L:Value)(l:w.underlying G=some (.slice C))(d:w.info? C=some M)(k:M.zero=some L)(h:L.cells.size=M.size)(U:0<M.size)(J:Value)(v:Nat)(c:List Value)(q:E.ownsRow I C M.size J v c)(B:Addr)(x t:Nat)(p:List Value)(f:p.length=x*M.size)(K:∀D S,p[D]?=some S->E.cell? (B.add D)=some S)(y:∀S∈p,S.oneCell'=true)(m:v+x<=maxLen)(n:(v+x)*M.bytes<=140737488355328){Z:World}(r:(Builtin.append_ #[G,G] e #[J,.slice (some B) x t]).run w E=.ok a Z):a.ownBlock=J.ownBlock\/∃u,a.ownBlock=some u/\E.heap.size<=u:=by
 have o:v+x<=9223372036854775807:=by simp only[maxLen]at m;omega
 rcases q.2 with⟨rfl,rfl⟩|⟨u,V,X,rfl,F,F,R,Z,b,s⟩
 ·have i:c=[]:=List.eq_nil_of_length_eq_zero (by simpa using q.1);subst i;obtain⟨s,O,H,N,-,-⟩:=run_append_own (P:=w) E E.heap.size G e C M L M.size M.bytes l d k rfl rfl h U _ 0 [] (World.ownsRow_nil E E.heap.size C M.size) B x t p f K y m n (Nat.le_refl _);rw[r]at H;injection H with A z;subst A;cases j:a.ownBlock with|none=>exact .inl rfl|some u=>exact .inr ⟨u,rfl,(N.lt u j).1⟩
 ·by_cases T:v+x<=V
  ·have s:v*M.size+p.length<=X.size:=by rw[f,b,<-Nat.add_mul];exact Nat.mul_le_mul_right _ T
   have H:=run_append_room (P:=w) E G e C M l d u v V X F B x t p f K y T s;rw[r]at H;injection H with A z;subst A;exact .inl rfl
  ·have h:∀D S,c[D]?=some S->E.cell? ((⟨u,0,none⟩:Addr).add D)=some S:=q.cells (g:=u) rfl;have H:=run_append_grow (P:=w) E G e C M L l d k ⟨u,0,none⟩ v V c q.1 h B x t p f K (by omega) (by omega) (growslice_fits (by omega) n);rw[r]at H;injection H with A z;subst A;exact .inr ⟨_,rfl,Nat.le_refl _⟩
theorem mX{L:List Value}(W:eW m=some (n,o,l,L))(k:L.length=o)(Y:0<o){X i s:Nat}{c p:List Value}(q:kX t h n o a u c)(f:p.length=v*o)(C:c4 h i s (v*o)=some p)(y:∀S∈p,aG S=true)(D:u+v<=2147483648)(j:l<=65535)(r:t<=h.size)(Q:∀e U,kX t U n o e (u+v) (c++p)->ft h U a.ownBlock->(e.ownBlock=a.ownBlock\/∃B,e.ownBlock=some B/\h.size<=B)->R e U):Ap h m a (.slice (some ⟨i,s,none⟩) v X) R:=by
 obtain⟨L,A,O,d,G,B,J,b⟩:=eF W;intro E M;have g:(u+v)*l<=140737488355328:=Nat.le_trans (Nat.mul_le_mul D j) (by decide);have H:∀D S,p[D]?=some S->E.cell? ((⟨i,s,none⟩:Addr).add D)=some S:=by intro D S K;have:=pT C D S K;rw[fB,gp M];exact this
 have V:∀S∈p,S.oneCell'=true:=λ S T=>by rw[qw];exact y S T
 have x:A.cells.size=L.size:=by rw[B,<-k,<-b];simp
 subst B;subst J;obtain⟨e,Z,w,N,K,-⟩:=run_append_own (P:=P) E t m m n L A L.size L.bytes O d G rfl rfl x Y a u c (q.world M) ⟨i,s,none⟩ v X p f H V (by simp only[maxLen];omega) g (by rw[M];exact r);have C:=s9 E t m m n L A O d G x Y a u c (q.world M) ⟨i,s,none⟩ v X p f H V (by simp only[maxLen];omega) g w;rw[M]at C;refine⟨e,Z,w,Q e Z.heap N ⟨?_,?_⟩ C,⟨K.os,K.output⟩⟩
 ·rw[<-M];exact K.size
 ·intro r Y e;rw[<-M]at Y⊢;exact K.block r Y e
end Go.Proofs.YtgmgmmoofjikiaaGreat
namespace Go
namespace Eng
section
variable{p:Program}
theorem hJ(E:World):(program).run p E=.ok p E:=rfl
theorem dF{K:BinOp}{i:Nat}{X q:Operand}{B u:Value}(e:(match B,u with|.nilIface,.nilIface=>false|.agg _,.agg _=>false|_,_=>true)=true)(E:World):(eqGuard K i X q B u).run p E=.ok () E:=by unfold eqGuard;cases K<;>first|rfl|(cases B<;>cases u<;>first|rfl|(simp at e;done))
theorem j8{K:BinOp}{i:Nat}{X:Operand}{t:Value}(E:World):(eqGuard K i X (.const t) .nilIface .nilIface).run p E=.ok () E:=by unfold eqGuard;cases K<;>first|rfl|(cases X<;>rfl)
theorem run_eql_ptr{i:Nat}{C:Nat}{B:Option Addr}(W:p.underlying i=some (.pointer C))(E:World):(binOp .eql i (.pointer B) (.pointer none)).run p E=.ok (.bool (B.isNone)) E:=by simp only[binOp];unfold Op.equal Op.maxDepth Op.equalIn;simp only[Sem.run_bind,run_underlying W,Result.andThen_ok];cases B<;>rfl
theorem run_neq_ptr{i:Nat}{C:Nat}{B:Option Addr}(W:p.underlying i=some (.pointer C))(E:World):(binOp .neq i (.pointer B) (.pointer none)).run p E=.ok (.bool (!B.isNone)) E:=by simp only[binOp];unfold Op.equal Op.maxDepth Op.equalIn;simp only[Sem.run_bind,run_underlying W,Result.andThen_ok];cases B<;>rfl
theorem run_eql_nil{i:Nat}{S:Array (String×TypeId)}(W:p.underlying i=some (.interface S))(E:World):(binOp .eql i .nilIface .nilIface).run p E=.ok (.bool (true)) E:=by simp only[binOp];unfold Op.equal Op.maxDepth Op.equalIn;simp only[Sem.run_bind,run_underlying W,Result.andThen_ok];rfl
theorem run_neq_nil{i:Nat}{S:Array (String×TypeId)}(W:p.underlying i=some (.interface S))(E:World):(binOp .neq i .nilIface .nilIface).run p E=.ok (.bool (!true)) E:=by simp only[binOp];unfold Op.equal Op.maxDepth Op.equalIn;simp only[Sem.run_bind,run_underlying W,Result.andThen_ok];rfl
theorem run_eql_if{i:Nat}{S:Array (String×TypeId)}{G:Nat}{J:Value}(W:p.underlying i=some (.interface S))(E:World):(binOp .eql i (.iface G J) .nilIface).run p E=.ok (.bool (false)) E:=by simp only[binOp];unfold Op.equal Op.maxDepth Op.equalIn;simp only[Sem.run_bind,run_underlying W,Result.andThen_ok];rfl
theorem run_neq_if{i:Nat}{S:Array (String×TypeId)}{G:Nat}{J:Value}(W:p.underlying i=some (.interface S))(E:World):(binOp .neq i (.iface G J) .nilIface).run p E=.ok (.bool (!false)) E:=by simp only[binOp];unfold Op.equal Op.maxDepth Op.equalIn;simp only[Sem.run_bind,run_underlying W,Result.andThen_ok];rfl
theorem run_eql_bool{i:Nat}{B u:Bool}(W:p.underlying i=some (.bool))(E:World):(binOp .eql i (.bool B) (.bool u)).run p E=.ok (.bool (B==u)) E:=by simp only[binOp];unfold Op.equal Op.maxDepth Op.equalIn;simp only[Sem.run_bind,run_underlying W,Result.andThen_ok];rfl
theorem run_neq_bool{i:Nat}{B u:Bool}(W:p.underlying i=some (.bool))(E:World):(binOp .neq i (.bool B) (.bool u)).run p E=.ok (.bool (!B==u)) E:=by simp only[binOp];unfold Op.equal Op.maxDepth Op.equalIn;simp only[Sem.run_bind,run_underlying W,Result.andThen_ok];rfl
theorem run_neq_map{i:Nat}{r C:Nat}{B:Option Nat}(W:p.underlying i=some (.map r C))(E:World):(binOp .neq i (.map B) (.map none)).run p E=.ok (.bool (!B.isNone)) E:=by simp only[binOp];unfold Op.equal Op.maxDepth Op.equalIn;simp only[Sem.run_bind,run_underlying W,Result.andThen_ok];cases B<;>rfl
theorem run_neq_nilfunc{i:Nat}{D u:Array TypeId}{Q:Bool}(W:p.underlying i=some (.func D u Q))(E:World):(binOp .neq i .nilFunc .nilFunc).run p E=.ok (.bool (!true)) E:=by simp only[binOp];unfold Op.equal Op.maxDepth Op.equalIn;simp only[Sem.run_bind,run_underlying W,Result.andThen_ok];rfl
theorem vx{U X G:Nat}{f:TypeDesc}{L J:Value}(c:p.underlying U=some f)(Q:∀S,f≠.interface S)(k:∀E,(zeroValue U).run p E=.ok L E)(E:World):(Instr.typeAssert (.iface G J) X U true).run p E=.ok (if G=U then .tuple #[J,.bool true]else .tuple #[L,.bool false]) E:=by unfold Instr.typeAssert;cases f<;>first|exact absurd rfl (Q _)|(by_cases l:G=U<;>simp[run_underlying c,l,k])
theorem sG{U X:Nat}{f:TypeDesc}{J:Value}(c:p.underlying U=some f)(G:∀S,f≠.interface S)(E:World):(Instr.typeAssert (.iface U J) X U false).run p E=.ok J E:=by unfold Instr.typeAssert;cases f<;>first|exact absurd rfl (G _)|simp[run_underlying c]
theorem xy{U X:Nat}{f:TypeDesc}{L:Value}(c:p.underlying U=some f)(k:∀E,(zeroValue U).run p E=.ok L E)(E:World):(Instr.typeAssert .nilIface X U true).run p E=.ok (.tuple #[L,.bool false]) E:=by unfold Instr.typeAssert;cases f<;>simp[run_underlying c,k]
theorem tD{U X G:Nat}{I:Array (String×TypeId)}{M:TypeInfo}{J:Value}(c:p.underlying U=some (.interface I))(d:p.info? G=some M)(B:Instr.missingMethod I M.methods=none)(u:Bool)(E:World):(Instr.typeAssert (.iface G J) X U u).run p E=.ok (if u=true then .tuple #[.iface G J,.bool true]else .iface G J) E:=by unfold Instr.typeAssert;cases u<;>simp[run_underlying c,typeInfo,d,B]
theorem vo{o:Array TypeId}{G:TypeId}{B:Addr}{v:String}(E:World):(Builtin.ssaWrapNilChk_ o G #[.pointer (some B),strVal "",strVal v]).run p E=.ok (.pointer (some B)) E:=rfl
theorem n6{i c C:Nat}{M:TypeInfo}{x:Method}{v:String}{F:Addr}{X:Value}{E:World}(d:p.info? i=some M)(K:M.methods.find? (·.name==v)=some x)(e:x.path.toList=[])(Q:x.path.isEmpty=true)(V:x.func=some (c,false))(O:p.underlying i=some (.pointer C))(f:(loadVar C F).run p E=.ok X E)(r:Nat):(method (r+Made.depth) i (.pointer (some F)) v).run p E=.ok (c,X) E:=by
 have A:r+Made.depth=(r+(Made.depth-1))+1:=by unfold Made.depth;omega
 rw[A];unfold method;simp only[Sem.run_bind,typeInfo,hJ,d,Sem.run_pure,Result.andThen_ok,K,e,V,Q,if_true];unfold follow;simp only[Sem.run_pure,Result.andThen_ok];unfold receiverAt;simp only[Sem.run_bind,run_underlying O,Result.andThen_ok,Place.get,Sem.run_pure,vo,asAddr,f]
end
end Eng
end Go
namespace Go.Proofs.YtgmgmmoofjikiaaGreat
open Go.Eng Go.MapKept
variable{a b c d e f g j p q r s:Value}{m n o l t u v:Nat}{H:Heap}{R:KV}{α:Type}
section
variable{h:Heap}{K:Value->Prop}
theorem sw{X q:Bool}{W:Bool}(z:∀(f:BinOp)(E:World),(eqGuard f m (nB X) (nB q) a b).run P E=.ok () E)(y:∀E,(binOp .eql m a b).run P E=.ok (.bool W) E):Eb h .eql m X q a b K=K (.bool W):=by refine cV λ E _=>?_;unfold Bo;rw[Sem.run_bind,z,Result.andThen_ok,y]
theorem jM{X q:Bool}{W:Bool}(z:∀(f:BinOp)(E:World),(eqGuard f m (nB X) (nB q) a b).run P E=.ok () E)(y:∀E,(binOp .neq m a b).run P E=.ok (.bool W) E):Eb h .neq m X q a b K=K (.bool W):=by refine cV λ E _=>?_;unfold Bo;rw[Sem.run_bind,z,Result.andThen_ok,y]
theorem Bu{B:Option Addr}(W:P.underlying m=some (.pointer n)){X q:Bool}:Eb h .eql m X q (.pointer B) (.pointer none) K=K (.bool (B.isNone)):=sw (λ _ E=>dF rfl E) (Eng.run_eql_ptr W)
theorem Ar{B:Option Addr}(W:P.underlying m=some (.pointer n)){X q:Bool}:Eb h .neq m X q (.pointer B) (.pointer none) K=K (.bool (!B.isNone)):=jM (λ _ E=>dF rfl E) (Eng.run_neq_ptr W)
theorem Ao{S:Array (String×TypeId)}(W:P.underlying m=some (.interface S)){X:Bool}:Eb h .eql m X true .nilIface .nilIface K=K (.bool (true)):=sw (λ _ E=>j8 E) (Eng.run_eql_nil W)
theorem AY{S:Array (String×TypeId)}(W:P.underlying m=some (.interface S)){X:Bool}:Eb h .neq m X true .nilIface .nilIface K=K (.bool (false)):=jM (λ _ E=>j8 E) (Eng.run_neq_nil W)
theorem DB{S:Array (String×TypeId)}(W:P.underlying m=some (.interface S)){X q:Bool}:Eb h .eql m X q (.iface n a) .nilIface K=K (.bool (false)):=sw (λ _ E=>dF rfl E) (Eng.run_eql_if W)
theorem Dt{S:Array (String×TypeId)}(W:P.underlying m=some (.interface S)){X q:Bool}:Eb h .neq m X q (.iface n a) .nilIface K=K (.bool (true)):=jM (λ _ E=>dF rfl E) (Eng.run_neq_if W)
theorem yi{B u:Bool}(W:P.underlying m=some (.bool)){X q:Bool}:Eb h .eql m X q (.bool B) (.bool u) K=K (.bool (B==u)):=sw (λ _ E=>dF rfl E) (Eng.run_eql_bool W)
theorem w7{B u:Bool}(W:P.underlying m=some (.bool)){X q:Bool}:Eb h .neq m X q (.bool B) (.bool u) K=K (.bool (!(B==u))):=jM (λ _ E=>dF rfl E) (Eng.run_neq_bool W)
theorem zF{B:Option Nat}(W:P.underlying m=some (.map n o)){X q:Bool}:Eb h .neq m X q (.map B) (.map none) K=K (.bool (!B.isNone)):=jM (λ _ E=>dF rfl E) (Eng.run_neq_map W)
theorem rT{D u:Array TypeId}{Q:Bool}(W:P.underlying m=some (.func D u Q)){X q:Bool}:Eb h .neq m X q .nilFunc .nilFunc K=K (.bool (false)):=jM (λ _ E=>dF rfl E) (Eng.run_neq_nilfunc W)
theorem wA{U X:Nat}{f:TypeDesc}(c:P.underlying U=some f)(G:∀S,f≠.interface S)(k:eH U=some a):Ta h (.iface m b) X U true K=if m=U then K (.tuple #[b,.bool true])else K (.tuple #[a,.bool false]):=by have C:Ta h (.iface m b) X U true K=K (if m=U then .tuple #[b,.bool true]else .tuple #[a,.bool false]):=cV λ E _=>vx c G (g3 k) E;rw[C];split<;>rfl
theorem ot{U X:Nat}{f:TypeDesc}(c:P.underlying U=some f)(G:∀S,f≠.interface S):Ta h (.iface U a) X U false K=K a:=cV λ E _=>sG c G E
theorem pU{U X:Nat}{f:TypeDesc}(c:P.underlying U=some f)(k:eH U=some a):Ta h .nilIface X U true K=K (.tuple #[a,.bool false]):=cV λ E _=>xy c (g3 k) E
noncomputable def ph(G U:Nat):Option Bool:=match P.underlying U,P.info? G with|some (.interface I),some i=>some (Instr.missingMethod I i.methods).isNone|_,_=>none
theorem vh{U:Nat}{u:Bool}(d:ph m U=some u):∃I i,P.underlying U=some (.interface I)/\P.info? m=some i/\(Instr.missingMethod I i.methods).isNone=u:=by
 unfold ph at d;split at d;case h_2=>cases d
 rename_i I i O A;injection d with d;exact⟨I,i,O,A,d⟩
theorem zy{U X:Nat}(d:ph m U=some true):Ta h (.iface m a) X U false K=K (.iface m a):=by obtain⟨I,M,O,A,B⟩:=vh d;exact cV λ E _=>tD O A (by simpa using B) false E
end
def aZ(C:MapEntry):ByteArray:=match C.key with|.string A=>A|_=>default
structure cP(es:List MapEntry)(c:Nat):Prop where
 str:∀e∈es,e.key=.string (aZ e)
 keys:(es.map aZ).Nodup
 born:(es.map (·.born)).Nodup
 old:∀e∈es,e.born<c
def cC(g:List MapEntry)(k:ByteArray):Option Value:=(g.find? λ C=>aZ C==k).map (·.val)
def c8(g:List MapEntry)(t:Nat)(k:ByteArray)(J:Value):List MapEntry:=if(cC g k).isSome=true then g.map λ C=>if aZ C==k then{C with val:=J}else C else g++[{key:=.string k,val:=J,born:=t}]
def fz(g:List MapEntry)(t:Nat)(k:ByteArray):Nat:=if(cC g k).isSome=true then t else t+1
def hset(h:Heap)(W:Nat)(s:Obj):Heap:=h.setIfInBounds W s
theorem mW(r:ByteArray):IsKey .string (.string r):=by simp[IsKey]
theorem sW{g:List MapEntry}{r:ByteArray}(s:∀C∈g,C.key=.string (aZ C))(M:Nat):match g.findIdx? (λ C=>aZ C==r)with|none=>Instr.findNow .string (.string r) g M=some none/\cC g r=none|some D=>∃C,g[D]?=some C/\aZ C=r/\Instr.findNow .string (.string r) g M=some (some (M+D,C.val))/\cC g r=some C.val:=by
 induction g generalizing M with
  |nil=>simp[Instr.findNow,cC]
  |cons C g ih=>
   have x:=s C (.head _);have j:Instr.sameNow .string (.string r) C.key=some (r==aZ C):=by rw[x];rfl
   have h:(r==aZ C)=(aZ C==r):=by rw[Bool.eq_iff_iff,bytes_beq,bytes_beq];exact eq_comm
   rw[List.findIdx?_cons];cases k:(aZ C==r)with
    |true=>
     simp only[if_true];refine⟨C,rfl,(bytes_beq _ _).1 k,?_,?_⟩
     ·simp[Instr.findNow,j,h,k]
     ·simp[cC,List.find?_cons,k]
    |false=>
     have:=ih (λ X i=>s X (.tail _ i)) (M+1);simp only[Bool.false_eq_true,if_false];cases V:g.findIdx? (λ C=>aZ C==r)with
      |none=>
       rw[V]at this;simp only[Option.map_none];refine⟨?_,?_⟩
       ·simp[Instr.findNow,j,h,k,this.1]
       ·have N:=this.2;simp only[cC,List.find?_cons,k]at N⊢;exact N
      |some D=>
       rw[V]at this;obtain⟨R,y,N,K,t⟩:=this;simp only[Option.map_some];refine⟨R,by simpa using y,N,?_,?_⟩
       ·simp[Instr.findNow,j,h,k,K];omega
       ·simp only[cC,List.find?_cons,k]at t⊢;exact t
noncomputable def g0(i:Nat):Option (Nat×Nat×Value):=match P.underlying i with
 |some (.map k C)=>match P.underlying k,eH C with|some .string,some L=>some (k,C,L)|_,_=>none
 |_=>none
theorem iP(W:g0 m=some (n,o,a)):P.underlying m=some (.map n o)/\P.underlying n=some .string/\eH o=some a:=by
 unfold g0 at W;split at W;case h_2=>cases W
 rename_i e R O;split at W;case h_2=>cases W
 rename_i g Y k;cases W;exact⟨O,Y,k⟩
theorem fK{E:World}(M:E.heap=H){g:Array MapEntry}(B:cJ H m=some (g,n)):(getObj m).run P E=.ok (.map g n) E:=by
 unfold cJ at B;split at B
 ·rename_i i;cases B;have C:E.heap[m]?=some (.map g n):=by rw[M];exact i
  exact MapKept.run_getObj_map C
 ·cases B
theorem ip{g:Array MapEntry}(B:cJ H m=some (g,n)):H[m]?=some (.map g n):=by
 unfold cJ at B;split at B
 ·rename_i i;cases B;exact i
 ·cases B
theorem fw{r:Nat}(Y:P.underlying r=some .string){g:List MapEntry}(s:∀C∈g,C.key=.string (aZ C)){A:ByteArray}{E:World}:∃W,(Instr.findKey r (.string A) g).run P E=.ok W E/\W.map (·.2)=cC g A/\(∀i J,W=some (i,J)->∃C,g[i]?=some C/\aZ C=A/\g.findIdx? (λ C=>aZ C==A)=some i):=by
 have V:=sW (r:=A) s 0;cases d:g.findIdx? (λ C=>aZ C==A)with
  |none=>rw[d]at V;exact⟨none,run_findKey Y V.1,V.2.symm,by simp⟩
  |some D=>rw[d]at V;obtain⟨C,y,N,K,t⟩:=V;rw[Nat.zero_add]at K;exact⟨some (D,C.val),run_findKey Y K,t.symm,by rintro i J⟨⟩;exact⟨C,y,N,rfl⟩⟩
theorem hN{T:Value->Prop}(W:g0 m=some (o,l,a)){g:Array MapEntry}(B:cJ H t=some (g,u))(J:∀l∈g.toList,l.key=.string (aZ l)){A:ByteArray}:Lk H m (.map (some t)) (.string A) true T=T (.tuple #[(cC g.toList A).getD a,.bool (cC g.toList A).isSome]):=by obtain⟨O,Y,k⟩:=iP W;refine cV λ E M=>?_;obtain⟨p,y,N,-⟩:=fw (E:=E) Y J (A:=A);unfold Instr.lookup;simp only[Sem.run_bind,bD O,Result.andThen_ok,fK M B,Sem.run_pure,run_checkKey (n:=9999) Y (mW A),y];cases p with|none=>simp only[Sem.run_bind,g3 k,Result.andThen_ok,Sem.run_pure];rw[<-N];rfl|some r=>simp only[Sem.run_pure,Result.andThen_ok];rw[<-N];rfl
theorem f1{T:Value->Prop}(W:g0 m=some (o,l,a)){g:Array MapEntry}(B:cJ H t=some (g,u))(J:∀l∈g.toList,l.key=.string (aZ l)){A:ByteArray}:Lk H m (.map (some t)) (.string A) false T=T ((cC g.toList A).getD a):=by obtain⟨O,Y,k⟩:=iP W;refine cV λ E M=>?_;obtain⟨p,y,N,-⟩:=fw (E:=E) Y J (A:=A);unfold Instr.lookup;simp only[Sem.run_bind,bD O,Result.andThen_ok,fK M B,Sem.run_pure,run_checkKey (n:=9999) Y (mW A),y];cases p with|none=>simp only[Sem.run_bind,g3 k,Result.andThen_ok,Sem.run_pure];rw[<-N];rfl|some r=>simp only[Sem.run_pure,Result.andThen_ok];rw[<-N];rfl
theorem s7(A:ByteArray)(v:Nat):Instr.sameBits v (.string A) (.string A)=true:=by have:(A==A)=true:=(bytes_beq A A).2 rfl;cases v<;>simpa[Instr.sameBits]using this
theorem Ct{g:List MapEntry}{r:ByteArray}(R:(g.map aZ).Nodup){C:MapEntry}(x:g[m]?=some C)(Y:aZ C=r)(s:C.key=.string r):g.modify m (λ C=>{C with key:=.string r,val:=a})=g.map λ C=>if aZ C==r then{C with val:=a}else C:=by
 apply List.ext_getElem?;intro D;rw[List.getElem?_modify,List.getElem?_map];by_cases k:m=D
 ·subst k;rw[x];simp[Y,s,(bytes_beq r r).2 rfl]
 ·cases K:g[D]? with
   |none=>simp
   |some X=>
    have e:¬aZ X=r:=by
     intro i;have y:(g.map aZ)[m]?=some r:=by rw[List.getElem?_map,x];simp[Y]
     have N:(g.map aZ)[D]?=some r:=by rw[List.getElem?_map,K];simp[i]
     have B:=(List.getElem?_eq_some_iff.1 y).1;have J:=(List.getElem?_eq_some_iff.1 N).1;exact k ((List.getElem_inj R).1 (by rw[(List.getElem?_eq_some_iff.1 y).2,(List.getElem?_eq_some_iff.1 N).2]:(g.map aZ)[m]=(g.map aZ)[D]))
    have:(aZ X==r)=false:=by rw[Bool.eq_false_iff];intro F;exact e ((bytes_beq _ _).1 F)
    simp[this,k]
theorem lB{E:World}(M:E.heap=H){g:Array MapEntry}(B:cJ H m=some (g,n))(s:Obj):∃Z,(setObj m s).run P E=.ok () Z/\Z.heap=hset H m s/\Sm E Z:=by
 have C:E.heap[m]?=some (.map g n):=by rw[M];exact ip B
 have:=run_setObj_map (P:=P) s C;exact⟨_,this,by rw[<-M];rfl,⟨rfl,rfl⟩⟩
theorem gy{T:Heap->Prop}(W:g0 m=some (o,l,a)){g:Array MapEntry}(B:cJ H t=some (g,u))(J:cP g.toList u){A:ByteArray}:Mu H m (.map (some t)) (.string A) b T=T (hset H t (.map (c8 g.toList u A b).toArray (fz g.toList u A))):=by
 obtain⟨O,Y,k⟩:=iP W;refine Ey λ E m=>?_;obtain⟨p,y,N,K⟩:=fw (E:=E) Y J.str (A:=A);unfold Instr.mapUpdate;simp only[Sem.run_bind,bD O,Result.andThen_ok,fK m B,run_checkKey (n:=9999) Y (mW A),y];cases p with
  |none=>
   have f:cC g.toList A=none:=N.symm;obtain⟨Z,Q,T,k⟩:=lB m B (.map (g.push {key:=.string A,val:=b,born:=u}) (u+1));refine⟨Z,Q,?_,k⟩;rw[T];unfold c8 fz;rw[f];simp only[Option.isSome_none,Bool.false_eq_true,if_false];have r:∀X:MapEntry,g.push X=(g.toList++[X]).toArray:=λ X=>by apply Array.ext';simp
   rw[r]
  |some h=>
   obtain⟨M,F⟩:=h;obtain⟨j,c,G,-⟩:=K M F rfl;have f:cC g.toList A=some F:=N.symm;have d:j.key=.string A:=by rw[J.str j (List.mem_of_getElem? c),G]
   have C:((g[M]?).map (·.key)).getD (.string A)=.string A:=by
    have:g[M]?=some j:=by simpa using c
    rw[this];simp[d]
   have h:(Instr.keyThatStays (.string A) (.string A)).run P E=.ok (.string A) E:=by unfold Instr.keyThatStays;rw[if_pos (s7 A 10000)];rfl
   simp only[C,Sem.run_bind,h,Result.andThen_ok];obtain⟨Z,Q,T,k⟩:=lB m B (.map (g.modify M λ l=>{l with key:=.string A,val:=b}) u);refine⟨Z,Q,?_,k⟩;rw[T];unfold c8 fz;rw[f];simp only[Option.isSome_some,if_true];rw[<-Ct J.keys c G d];have l:g.modify M (λ l=>{l with key:=.string A,val:=b})=(g.toList.modify M (λ l=>{l with key:=.string A,val:=b})).toArray:=by apply Array.ext';simp
   rw[l]
theorem pg{g:List MapEntry}{r:ByteArray}(O:cC g r=none):r∉g.map aZ:=by
 intro B;obtain⟨C,x,Y⟩:=List.mem_map.1 B;unfold cC at O;have N:g.find? (λ C=>aZ C==r)=none:=by cases i:g.find? (λ C=>aZ C==r)with|none=>rfl|some X=>rw[i]at O;cases O
 have:=List.find?_eq_none.1 N C x;exact this (by rw[Y];exact(bytes_beq r r).2 rfl)
theorem cP.put{g:List MapEntry}(J:cP g m)(r:ByteArray)(v:Value):cP (c8 g m r v) (fz g m r):=by
 unfold c8 fz;by_cases f:(cC g r).isSome=true
 ·rw[if_pos f,if_pos f];have Y:∀C,aZ (if aZ C==r then{C with val:=v}else C)=aZ C:=by intro C;split<;>rfl
  have j:∀C:MapEntry,(if aZ C==r then{C with val:=v}else C).born=C.born:=by intro C;split<;>rfl
  refine⟨?_,?_,?_,?_⟩
  ·intro C x;obtain⟨X,i,rfl⟩:=List.mem_map.1 x;rw[Y X,<-J.str X i];split<;>rfl
  ·rw[List.map_map];have:(aZ∘λ C=>if aZ C==r then{C with val:=v}else C)=aZ:=funext Y;rw[this];exact J.keys
  ·rw[List.map_map];have:((λ C:MapEntry=>C.born)∘λ C=>if aZ C==r then{C with val:=v}else C)=λ C=>C.born:=funext j;rw[this];exact J.born
  ·intro C x;obtain⟨X,i,rfl⟩:=List.mem_map.1 x;rw[j X];exact J.old X i
 ·rw[if_neg f,if_neg f];have D:cC g r=none:=by cases i:cC g r with|none=>rfl|some X=>rw[i]at f;exact absurd rfl f
  refine⟨?_,?_,?_,?_⟩
  ·intro C x;rcases List.mem_append.1 x with x|x
   ·exact J.str C x
   ·rcases List.mem_singleton.1 x with rfl;rfl
  ·rw[List.map_append,List.nodup_append];refine⟨J.keys,by simp,?_⟩;intro B Y b j e;simp only[List.map_cons,List.map_nil,List.mem_singleton]at j;subst j;subst e;exact pg D Y
  ·rw[List.map_append,List.nodup_append];refine⟨J.born,by simp,?_⟩;intro B Y b j e;simp only[List.map_cons,List.map_nil,List.mem_singleton]at j;subst j;subst e;obtain⟨X,i,x⟩:=List.mem_map.1 Y;have:=J.old X i;omega
  ·intro C x;rcases List.mem_append.1 x with x|x
   ·have:=J.old C x;omega
   ·rcases List.mem_singleton.1 x with rfl;simp
theorem cP.nil(t:Nat):cP [] t:=⟨by simp,by simp,by simp,by simp⟩
theorem aL(O:Heap)(W:Nat)(s:Obj):(hset O W s).size=O.size:=by simp[hset]
theorem aC.setMap{g:Nat->Prop}{T A:aK}{y:Heap}(B:aC g T H A y){s:Obj}(j:H.size<=m\/g m)(d:A m=none):aC g T H A (hset y m s):=by
 refine⟨by rw[aL];exact B.size,?_,B.dom,B.le,?_⟩
 ·intro t k G;unfold hset;rw[Array.getElem?_setIfInBounds,if_neg (by rintro rfl;rcases j with j|j;omega;exact G j)];exact B.same t k G
 ·intro t q p;unfold hset;rw[Array.getElem?_setIfInBounds,if_neg (by rintro rfl;rw[d]at p;cases p)];exact B.sat t q p
theorem su:Ag H (Instr.makeMap m none) R=R (.map (some H.size)) (H.push (.map #[] 0)):=by refine kv λ E M=>?_;subst M;exact⟨_,rfl,rfl,⟨rfl,rfl⟩⟩
theorem yD{s:Nat}{L:List Value}{v I:Array Value}{D:List (Nat×Value)}(W:eW m=some (n,s,o,L))(G:l*s<=16777216)(k:l*s≠0->((List.range (l*s)).map λ X=>L.toArray[X%L.toArray.size]!)=v.toList)(f:l*s=0->v=#[])(V:Instr.fill (λ i=>some (i*s,s)) v D=some I):Bs H m l D.toArray R=R (.slice (some ⟨H.size,0,none⟩) l l) (H.push (.cells I n (0,0))):=by
 obtain⟨i,A,O,d,G,B,J,b⟩:=eF W;refine kv λ E M=>?_;subst M;have h:eH n=some A:=by unfold eH;rw[d];exact G
 refine⟨{E with heap:=E.heap.push (.cells I n (0,0))},?_,rfl,⟨rfl,rfl⟩⟩;subst B;unfold Instr.buildSlice;simp only[Sem.run_bind,bD O,Result.andThen_ok,eE d];rw[if_neg (by omega)];by_cases q:l*i.size=0
 ·simp only[q,if_true,Sem.run_bind,Sem.run_pure,Result.andThen_ok];have j:(Array.range 0).map (λ X=>(#[]:Array Value)[X%(#[]:Array Value).size]!)=v:=by rw[f q];apply Array.ext';simp
  rw[j,V];rfl
 ·simp only[q,if_false,Sem.run_bind,g3 h,Sem.run_pure,Result.andThen_ok];have j:(Array.range (l*i.size)).map (λ X=>A.cells[X%A.cells.size]!)=v:=by apply Array.ext';rw[<-k q,<-b];simp
  rw[j,V];rfl
section
variable{k:IntKind}{i:Int}
@[go_sem] theorem dy:aG (.int k i)=true:=rfl
@[go_sem] theorem cB{u:Bool}:aG (.bool u)=true:=rfl
@[go_sem] theorem di{A:ByteArray}:aG (.string A)=true:=rfl
@[go_sem] theorem cn{B:Option Addr}:aG (.pointer B)=true:=rfl
@[go_sem] theorem bZ{B:Option Addr}:aG (.slice B m n)=true:=rfl
@[go_sem] theorem dC{B:Option Nat}:aG (.map B)=true:=rfl
@[go_sem] theorem cT:aG (.iface m a)=true:=rfl
@[go_sem] theorem dB:aG .nilIface=true:=rfl
@[go_sem] theorem cZ{c:Fn}{B t:Array Value}:aG (.func c B t)=true:=rfl
@[go_sem] theorem dp:aG .nilFunc=true:=rfl
@[go_sem] theorem cS{c:FloatKind}:aG (.float c m)=true:=rfl
@[go_sem] theorem Qi:Value.cells (.int k i)=#[.int k i]:=rfl
@[go_sem] theorem JO{u:Bool}:Value.cells (.bool u)=#[.bool u]:=rfl
@[go_sem] theorem PR{A:ByteArray}:Value.cells (.string A)=#[.string A]:=rfl
@[go_sem] theorem PQ{B:Option Addr}:Value.cells (.pointer B)=#[.pointer B]:=rfl
@[go_sem] theorem JG{B:Option Addr}:Value.cells (.slice B m n)=#[.slice B m n]:=rfl
@[go_sem] theorem PB{B:Option Nat}:Value.cells (.map B)=#[.map B]:=rfl
@[go_sem] theorem JE:Value.cells (.iface m a)=#[.iface m a]:=rfl
@[go_sem] theorem P2:Value.cells .nilIface=#[.nilIface]:=rfl
@[go_sem] theorem Oc{c:Fn}{B t:Array Value}:Value.cells (.func c B t)=#[.func c B t]:=rfl
@[go_sem] theorem Lm:Value.cells .nilFunc=#[.nilFunc]:=rfl
@[go_sem] theorem JF{c:FloatKind}:Value.cells (.float c m)=#[.float c m]:=rfl
@[go_sem] theorem ko{H:Array Value}:Value.cells (.agg H)=H:=rfl
end
noncomputable def nj(n:Nat)(v:String):Option (Nat×Nat):=match P.info? n with
 |some i=>match i.methods.find? (·.name==v)with
  |some x=>match x.path.toList,x.path.isEmpty,x.func,P.underlying n with|[],true,some (c,false),some (.pointer C)=>if fO c=true then some (c,C)else none|_,_,_,_=>none
  |none=>none
 |none=>none
theorem xY{v:String}(B:nj m v=some (n,o)):∃i x,P.info? m=some i/\i.methods.find? (·.name==v)=some x/\x.path.toList=[]/\x.path.isEmpty=true/\x.func=some (n,false)/\P.underlying m=some (.pointer o)/\fO n=true:=by
 unfold nj at B;split at B;case h_2=>cases B
 rename_i i d;split at B;case h_2=>cases B
 rename_i x K;split at B;case h_2=>cases B
 rename_i b R e Q V O;split at B;case isFalse=>cases B
 rename_i h;injection B with B;injection B with y N;subst y;subst N;exact⟨i,x,d,K,e,Q,V,O,h⟩
theorem ie{v:String}{B:Array Value}{F:Addr}{E:World}(l:nj m v=some (n,o))(f:(loadVar o F).run P E=.ok a E):(callMethod (.iface m (.pointer (some F))) v B).run P E=.ok (.enter n (#[a]++B)) E:=by obtain⟨M,x,d,K,e,Q,V,O,h⟩:=xY l;have D:=n6 d K e Q V O f;unfold callMethod;rw[Sem.run_bind,iE,Result.andThen_ok,Sem.run_bind,D P.types.size,Result.andThen_ok];exact e9 h _ E
theorem tM{v:String}{B u:Array Value}(w:∀E:World,E.heap=H->(callMethod a v B).run P E=.ok (.enter m u) E):Iv H a v B R=Cf H m u R:=by
 apply propext;constructor
 ·rintro⟨b,g,y,N⟩;have C:=y (eL H) rfl;rw[w (eL H) rfl]at C;injection C with A z;injection A with c h;subst c;subst h;exact N
 ·exact λ W=>⟨m,_,w,W⟩
theorem qi(W:eQ m=some none)(k:aI H n o=some a)(E:World)(M:E.heap=H):(loadVar m ⟨n,o,none⟩).run P E=.ok a E:=by unfold loadVar;simp only[Sem.run_bind,jJ W,Result.andThen_ok,Bool.false_eq_true,if_false];exact mR M k
theorem pE{g:List Value}(W:eQ m=some (some l))(k:c4 H n o l=some g)(E:World)(M:E.heap=H):(loadVar m ⟨n,o,none⟩).run P E=.ok (.agg g.toArray) E:=by unfold loadVar;simp only[Sem.run_bind,(fg W E).1,(fg W E).2,Result.andThen_ok,if_true];unfold loadCells;rw[gM M n o l 0 #[] (by simpa using k)];simp only[Result.andThen_ok,Sem.run_pure,Array.empty_append]
theorem zJ{v:String}{B:Array Value}(q:nj m v=some (n,o))(W:eQ o=some none):Iv H (.iface m (.pointer (some ⟨l,t,none⟩))) v B R=pn (aI H l t) (Ca P H (callMethod (.iface m (.pointer (some ⟨l,t,none⟩))) v B) R) λ J=>Cf H n (#[J]++B) R:=by cases k:aI H l t with|none=>rfl|some J=>exact tM λ E M=>ie q (qi W k E M)
theorem Gv{v:String}{B:Array Value}(y:nj m v=some (n,o))(W:eQ o=some (some u)):Iv H (.iface m (.pointer (some ⟨l,t,none⟩))) v B R=uh (c4 H l t u) (Ca P H (callMethod (.iface m (.pointer (some ⟨l,t,none⟩))) v B) R) λ g=>Cf H n (#[.agg g.toArray]++B) R:=by cases k:c4 H l t u with|none=>rfl|some g=>exact tM λ E M=>ie y (pE W k E M)
end Go.Proofs.YtgmgmmoofjikiaaGreat
namespace Go.Proofs.YtgmgmmoofjikiaaGreat
open Go.Eng
variable{h:Heap}{K:KV}{M:Value->Prop}{a b c d e f g i j k l m n o p q r s t u v w x:Value}
abbrev xA(t:Nat)(c:Array Value):Prop:=∀{h K},Al h t K=K (.pointer (some ⟨h.size,0,none⟩)) (h.push (.cells c t (0,0)))
theorem al{G:Nat}{t:Array Value}(W:eH G=some (.agg t):=by kernel_rfl):xA G t:=yt W
theorem lP{G:Nat}{J:Value}(W:eH G=some J:=by kernel_rfl)(V:J.cells=#[J]:=by rfl):xA G #[J]:=by intro O T;rw[<-V];exact yt W
abbrev xP(t:Nat)(l:List (Nat×Nat))(L:List Value):Prop:=mY t=some (l,L)
theorem sh{G:Nat}{H:List (Nat×Nat)}{L:List Value}(W:mY G=some (H,L):=by kernel_rfl):xP G H L:=W
abbrev xB(t:Nat)(p:List (Nat×Value))(c:Bool)(r:Array Value):Prop:=∀{h}{K:Value->Prop},Bd h t p.toArray K=if c=true then K (.agg r)else Rg h (Instr.build t p.toArray) K
abbrev xC(t:Nat)(p:List (Nat×Value))(r:Array Value):Prop:=∀{h}{K:Value->Prop},Bd h t p.toArray K=K (.agg r)
theorem bc{G:Nat}{H:List (Nat×Nat)}{L:List Value}{w:List (Nat×Value)}{W:Array Value}(Z:xP G H L)(X:Instr.fill (H[·]?) L.toArray w=some W:=by simp[Instr.fill,ko]):xC G w W:=EH Z X
theorem bb{G:Nat}{H:List (Nat×Nat)}{L:List Value}{w:List (Nat×Value)}{t:Bool}{W:Array Value}(Z:xP G H L)(a:t=true->Instr.fill (H[·]?) L.toArray w=some W:=by intro k;(try simp only[Bool.and_eq_true]at k);simp[Instr.fill,ko,lJ,k]):xB G w t W:=by
 intro O T;by_cases k:t=true
 ·rw[if_pos k];exact EH Z (a k)
 ·rw[if_neg k];rfl
abbrev xE(t n:Nat)(p:List (Nat×Value))(e:Nat)(r:Array Value):Prop:=∀{h K},Bs h t n p.toArray K=K (.slice (some ⟨h.size,0,none⟩) n n) (h.push (.cells r e (0,0)))
theorem bs{G C q X v:Nat}{L:List Value}{w:List (Nat×Value)}{W:Array Value}(z:eW G=some (C,q,X,L))(y:v≠0:=by decide)(N:q≠0:=by decide)(D:v*q<=16777216:=by decide)(k:v*q≠0->((List.range (v*q)).map λ X=>L.toArray[X%L.toArray.size]!)=(List.replicate v L).flatten:=by intro _;rfl)(V:Instr.fill (λ i=>some (i*q,q)) (List.replicate v L).flatten.toArray w=some W:=by simp[Instr.fill,ko]):xE G v w C W:=yD z D k (λ O=>absurd O (Nat.mul_ne_zero y N)) V
abbrev xD(t e:Nat):Prop:=∀{h:Heap}{K:KV}{x:Value},Bs h t 1 #[(0,x)] K=if aG x=true then K (.slice (some ⟨h.size,0,none⟩) 1 1) (h.push (.cells #[x] e (0,0)))else Ag h (Instr.buildSlice t 1 #[(0,x)]) K
theorem j5{G C q:Nat}{L:Value}(z:eW G=some (C,1,q,[L])):xD G C:=by
 intro O T X;by_cases k:aG X=true
 ·rw[if_pos k];exact yD (v:=#[L]) z (by decide) (λ _=>by rfl) (λ O=>absurd O (by decide)) (by simp[Instr.fill,ko,lJ,k])
 ·rw[if_neg k];rfl
theorem b0{G C q u:Nat}{L:List Value}(z:eW G=some (C,q,u,L)):xE G 0 [] C #[]:=yD (v:=#[]) z (by rw[Nat.zero_mul];decide) (λ O=>absurd (Nat.zero_mul _) O) (λ _=>rfl) (by simp[Instr.fill])
abbrev xW(t e q b:Nat)(L:List Value):Prop:=eW t=some (e,q,b,L)
theorem R9{O:Heap}{G u s:Nat}{T:Value->Prop}:Rv O G (.pointer (some ⟨u,s,none⟩)) T=Ld O G (.pointer (some ⟨u,s,none⟩)) T:=rfl
abbrev yP(t:Nat):Prop:=∀{h:Heap}{K:Value->Prop}{x q:Bool}{a:Option Addr},Eb h .eql t x q (.pointer a) nilp K=K (.bool (a.isNone))/\Eb h .neq t x q (.pointer a) nilp K=K (.bool (!a.isNone))
theorem ep{G C:Nat}(U:P.underlying G=some (.pointer C)):yP G:=⟨Bu U,Ar U⟩
abbrev yI(t:Nat):Prop:=(∀{h:Heap}{K:Value->Prop}{x:Bool},Eb h .eql t x true ni ni K=K bt/\Eb h .neq t x true ni ni K=K bf)/\∀{h:Heap}{K:Value->Prop}{x q:Bool}{s:Nat}{v:Value},Eb h .eql t x q (.iface s v) ni K=K bf/\Eb h .neq t x q (.iface s v) ni K=K bt
theorem ei{G:Nat}{x:Array (String×TypeId)}(U:P.underlying G=some (.interface x)):yI G:=⟨⟨Ao U,AY U⟩,DB U,Dt U⟩
theorem ro{G C q u:Nat}{L:List Value}(W:eW G=some (C,q,u,L):=by kernel_rfl):xW G C q u L:=W
abbrev xV(f:Nat):Prop:=∀{h:Heap}{c b a:Array Value}{K:KV},Cv h (.func (.func f) c b) a K=Cf h f (c++a++b) K
theorem cv{c:Nat}(W:fO c=true:=by kernel_rfl):xV c:=ej W
abbrev xG(t:Nat)(n:String)(f:Nat):Prop:=∀{h:Heap}{v:Value}{a:Array Value}{K:KV},Iv h (.iface t v) n a K=Cf h f (#[v]++a) K
theorem iv{G c:Nat}{v:String}(W:dK G v=some c:=by kernel_rfl):xG G v c:=dH W
abbrev xH(t:Nat)(n:String)(f k:Nat):Prop:=∀{h:Heap}{b o:Nat}{a:Array Value}{K:KV},Iv h (.iface t (.pointer (some ⟨b,o,none⟩))) n a K=uh (c4 h b o k) (Ca P h (callMethod (.iface t (.pointer (some ⟨b,o,none⟩))) n a) K) λ g=>Cf h f (#[.agg g.toArray]++a) K
theorem ih{G c C r:Nat}{v:String}(W:eQ C=some (some r))(B:nj G v=some (c,C):=by kernel_rfl):xH G v c r:=Gv B W
abbrev xK(t:Nat):Prop:=∀{h:Heap}{v:Value}{K:Value->Prop},Mi h t v K=K (.iface t v)
abbrev xT(t:Nat)(L:Value):Prop:=∀{h:Heap}{X Q:Nat}{v:Value}{K:Value->Prop},Ta h (.iface Q v) X t true K=if Q=t then K (.tuple #[v,.bool true])else K (.tuple #[L,.bool false])
abbrev xZ(t:Nat)(L:Value):Prop:=∀{h:Heap}{X:Nat}{K:Value->Prop},Ta h .nilIface X t true K=K (.tuple #[L,.bool false])
theorem ta{G:Nat}{f:TypeDesc}{L:Value}(U:P.underlying G=some f)(g:∀m,f≠.interface m:=by intro _ h;cases h)(W:eH G=some L:=by kernel_rfl):xT G L/\xZ G L:=⟨wA U g W,pU U W⟩
theorem tn{G:Nat}{f:TypeDesc}{L:Value}(U:P.underlying G=some f)(W:eH G=some L:=by kernel_rfl):xZ G L:=pU U W
theorem HJ:eH 99=some (.agg #[(.slice none 0 0),(.pointer none),(.pointer none),(.pointer none),(.pointer none),(.pointer none),(.pointer none),(.bool false),(.map none),(.map none)]):=by kernel_rfl
theorem Gb:eH 369=some (.agg #[(.pointer none),(.pointer none),(.pointer none),(.pointer none)]):=by kernel_rfl
theorem Gz:eH 533=some (.agg #[]):=by kernel_rfl
theorem Gt:xP 24 [(0,1)] [n0]:=sh
theorem qe:xP 28 [(0,1),(1,1),(2,1)] [s0,n0,n0]:=sh
theorem vQ:xP 30 [(0,1),(1,1),(2,3),(5,1)] [bf,s0,s0,n0,n0,s0]:=sh
theorem jB:xP 35 [(0,1),(1,1),(2,1),(3,1),(4,1),(5,1)] [i0,i0,f0,s0,n0,n0]:=sh
theorem FG:xP 41 [(0,1),(1,6),(7,6),(13,1),(14,1),(15,1),(16,1),(17,1),(18,1),(19,1),(20,1),(21,1)] [n0,bf,s0,s0,n0,n0,s0,i0,i0,f0,s0,n0,n0,n0,n0,n0,n0,bf,bf,n0,s0,bf]:=sh
theorem ww:xP 46 [(0,1),(1,1),(2,1),(3,6),(9,1)] [bf,n0,bf,i0,i0,f0,s0,n0,n0,n0]:=sh
theorem wx:xP 52 [(0,1),(1,1),(2,1),(3,1)] [s0,s0,bf,n0]:=sh
theorem F2:xP 68 [(0,1),(1,1),(2,1),(3,1),(4,6)] [bf,bf,s0,s0,i0,i0,f0,s0,n0,n0]:=sh
theorem nl:xP 92 [(0,1),(1,1),(2,1)] [nilp,nilp,nilp]:=sh
theorem Gl:xP 95 [(0,1),(1,3),(4,1),(5,1)] [nilp,nilp,nilp,nilp,nilp,bf]:=sh
theorem Fs:xP 99 [(0,1),(1,1),(2,6),(8,1),(9,1)] [n0,nilp,nilp,nilp,nilp,nilp,nilp,bf,cr,cr]:=sh
theorem CB:xP 139 [(0,1),(1,6),(7,1)] [s0,bf,s0,s0,n0,n0,s0,n0]:=sh
theorem BR:xP 142 [(0,1),(1,6),(7,1)] [n0,bf,s0,s0,n0,n0,s0,s0]:=sh
theorem tL:xP 144 [(0,6),(6,1),(7,1)] [bf,s0,s0,n0,n0,s0,s0,n0]:=sh
theorem C4:xP 146 [(0,1),(1,3)] [s0,s0,n0,n0]:=sh
theorem iu:xP 153 [(0,1),(1,1),(2,1),(3,1),(4,6),(10,1)] [i0,s0,n0,n0,i0,i0,f0,s0,n0,n0,i0]:=sh
theorem CX:xP 172 [(0,1),(1,1),(2,1),(3,1)] [ni,cr,cr,bf]:=sh
theorem BW:xP 190 [(0,1),(1,1),(2,1)] [nilp,nilp,nilp]:=sh
theorem D3:xP 192 [(0,1),(1,1),(2,1),(3,1)] [ni,cr,cr,bf]:=sh
theorem Dv:xP 236 [(0,1)] [n0]:=sh
theorem ug:xP 239 [(0,1),(1,3)] [s0,nilp,nilp,nilp]:=sh
theorem D0:xP 269 [(0,1),(1,1),(2,1)] [nilp,s0,bf]:=sh
theorem tk:xP 273 [(0,1)] [n0]:=sh
theorem sD:xP 277 [(0,1)] [n0]:=sh
theorem uj:xP 279 [(0,1),(1,1)] [n0,n0]:=sh
theorem tu:xP 317 [(0,1),(1,6),(7,1)] [ni,nilp,nilp,nilp,nilp,nilp,bf,nilp]:=sh
theorem C8:xP 327 [(0,1),(1,1),(2,6),(8,1),(9,1),(10,1),(11,1)] [ni,nilp,nilp,nilp,nilp,nilp,nilp,bf,nilp,n0,nilp,ni]:=sh
theorem BJ:xP 347 [] []:=sh
theorem Ef:xP 348 [] []:=sh
theorem Cx:xP 354 [(0,6),(6,1),(7,1)] [nilp,nilp,nilp,nilp,nilp,bf,s0,n0]:=sh
theorem Em:xP 359 [(0,1),(1,1),(2,6),(8,1)] [n0,n0,nilp,nilp,nilp,nilp,nilp,bf,s0]:=sh
theorem lq:xP 369 [(0,1),(1,1),(2,1),(3,1)] [nilp,nilp,nilp,nilp]:=sh
theorem Ce:xP 375 [(0,1),(1,1),(2,1),(3,6),(9,1),(10,1),(11,1),(12,1),(13,1)] [nilp,nilp,nilp,nilp,nilp,nilp,nilp,nilp,bf,n0,bf,nilp,nilp,nilp]:=sh
theorem CG:xP 382 [(0,1),(1,1),(2,1),(3,6),(9,1),(10,1),(11,1),(12,1),(13,1)] [ni,ni,nilp,nilp,nilp,nilp,nilp,nilp,bf,n0,nilp,bf,nilp,ni]:=sh
theorem Cs:xP 388 [(0,4),(4,1)] [nilp,nilp,nilp,nilp,nilp]:=sh
theorem DW:xP 411 [(0,1),(1,1),(2,1),(3,6),(9,1),(10,1),(11,1),(12,1),(13,1),(14,1),(15,1)] [ni,ni,nilp,nilp,nilp,nilp,nilp,nilp,bf,n0,nf,nf,nilp,bf,nilp,ni]:=sh
theorem sX:xP 417 [(0,1),(1,6),(7,1)] [s0,nilp,nilp,nilp,nilp,nilp,bf,ni]:=sh
theorem D9:xP 430 [(0,1),(1,1),(2,6),(8,1),(9,1),(10,1)] [ni,nilp,nilp,nilp,nilp,nilp,nilp,bf,bf,nilp,ni]:=sh
theorem B1:xP 432 [(0,1)] [ni]:=sh
theorem BT:xP 459 [(0,1),(1,1),(2,1),(3,1),(4,1),(5,1)] [ni,ni,nilp,nilp,ni,bf]:=sh
theorem Ec:xP 533 [] []:=sh
theorem BO:xP 607 [(0,1)] [n0]:=sh
theorem DA:xP 619 [(0,4),(4,1)] [nilp,nilp,nilp,nilp,ni]:=sh
theorem Da:xP 634 [(0,1)] [n0]:=sh
theorem Do:xP 659 [] []:=sh
theorem BU:xP 661 [(0,1),(1,1),(2,1)] [n0,nilp,i0]:=sh
theorem Pw:xW 22 146 4 80 [s0,s0,n0,n0]:=ro
theorem KG:xW 25 144 8 144 [bf,s0,s0,n0,n0,s0,s0,n0]:=ro
theorem LC:xW 26 142 8 144 [n0,bf,s0,s0,n0,n0,s0,s0]:=ro
theorem fD:xW 32 9 1 16 [s0]:=ro
theorem gc:xW 33 35 6 88 [i0,i0,f0,s0,n0,n0]:=ro
theorem Fb:xW 36 52 4 64 [s0,s0,bf,n0]:=ro
theorem oP:xW 50 119 1 24 [n0]:=ro
theorem E8:xW 65 68 10 128 [bf,bf,s0,s0,i0,i0,f0,s0,n0,n0]:=ro
theorem jF:xW 119 153 11 168 [i0,s0,n0,n0,i0,i0,f0,s0,n0,n0,i0]:=ro
theorem G8:xW 140 139 8 144 [s0,bf,s0,s0,n0,n0,s0,n0]:=ro
theorem zW:xW 147 46 10 152 [bf,n0,bf,i0,i0,f0,s0,n0,n0,n0]:=ro
theorem zq:xW 234 239 4 40 [s0,nilp,nilp,nilp]:=ro
theorem kR:xW 241 20 1 16 [ni]:=ro
theorem H7:xW 246 247 1 8 [i0]:=ro
theorem k1:xW 251 369 4 32 [nilp,nilp,nilp,nilp]:=ro
theorem gO:xW 252 369 4 32 [nilp,nilp,nilp,nilp]:=ro
theorem I5:xW 270 252 1 24 [n0]:=ro
theorem fj:xW 271 369 4 32 [nilp,nilp,nilp,nilp]:=ro
theorem GN:xW 274 388 5 40 [nilp,nilp,nilp,nilp,nilp]:=ro
theorem kV:xW 275 388 5 40 [nilp,nilp,nilp,nilp,nilp]:=ro
theorem d5:xW 323 445 2 32 [s0,s0]:=ro
theorem z9:xW 356 417 8 80 [s0,nilp,nilp,nilp,nilp,nilp,bf,ni]:=ro
theorem o7:xW 558 320 1 8 [nilp]:=ro
theorem tA:xW 596 372 1 8 [nilp]:=ro
theorem y8:xW 604 619 5 48 [nilp,nilp,nilp,nilp,ni]:=ro
theorem Hq:xW 610 228 1 16 [ni]:=ro
theorem pQ:xW 626 379 1 8 [nilp]:=ro
theorem tG:xW 637 638 1 8 [nilp]:=ro
theorem p7:xW 647 407 1 8 [nilp]:=ro
theorem pF:xW 650 426 1 8 [nilp]:=ro
theorem Gw:eH 199=some (.slice none 0 0):=by kernel_rfl
theorem Wl:xA 3 #[i0]:=lP
theorem WN:xA 9 #[s0]:=lP
theorem UJ:xA 20 #[ni]:=lP
theorem R0:xA 24 #[n0]:=al
theorem Q4:xA 28 #[s0,n0,n0]:=al
theorem Tx:xA 30 #[bf,s0,s0,n0,n0,s0]:=al
theorem Ui:xA 35 #[i0,i0,f0,s0,n0,n0]:=al
theorem UD:xA 41 #[n0,bf,s0,s0,n0,n0,s0,i0,i0,f0,s0,n0,n0,n0,n0,n0,n0,bf,bf,n0,s0,bf]:=al
theorem Uj:xA 46 #[bf,n0,bf,i0,i0,f0,s0,n0,n0,n0]:=al
theorem QX:xA 50 #[n0]:=lP
theorem Ra:xA 52 #[s0,s0,bf,n0]:=al
theorem SB:xA 68 #[bf,bf,s0,s0,i0,i0,f0,s0,n0,n0]:=al
theorem QY:xA 92 #[nilp,nilp,nilp]:=al
theorem Sa:xA 95 #[nilp,nilp,nilp,nilp,nilp,bf]:=al
theorem QH:xA 96 #[cr]:=lP
theorem Li:xA 139 #[s0,bf,s0,s0,n0,n0,s0,n0]:=al
theorem MF:xA 146 #[s0,s0,n0,n0]:=al
theorem ON:xA 153 #[i0,s0,n0,n0,i0,i0,f0,s0,n0,n0,i0]:=al
theorem Pl:xA 172 #[ni,cr,cr,bf]:=al
theorem KW:xA 228 #[ni]:=lP
theorem Kk:xA 239 #[s0,nilp,nilp,nilp]:=al
theorem Mq:xA 240 #[s0]:=lP
theorem JH:xA 242 #[cr]:=lP
theorem Mw:xA 273 #[n0]:=al
theorem KF:xA 317 #[ni,nilp,nilp,nilp,nilp,nilp,bf,nilp]:=al
theorem Km:xA 323 #[n0]:=lP
theorem M3:xA 352 #[s0]:=lP
theorem JT:xA 354 #[nilp,nilp,nilp,nilp,nilp,bf,s0,n0]:=al
theorem KJ:xA 359 #[n0,n0,nilp,nilp,nilp,nilp,nilp,bf,s0]:=al
theorem OV:xA 362 #[nilp]:=lP
theorem NB:xA 369 #[nilp,nilp,nilp,nilp]:=al
theorem LY:xA 382 #[ni,ni,nilp,nilp,nilp,nilp,nilp,nilp,bf,n0,nilp,bf,nilp,ni]:=al
theorem Nq:xA 388 #[nilp,nilp,nilp,nilp,nilp]:=al
theorem L3:xA 411 #[ni,ni,nilp,nilp,nilp,nilp,nilp,nilp,bf,n0,nf,nf,nilp,bf,nilp,ni]:=al
theorem Pf:xA 417 #[s0,nilp,nilp,nilp,nilp,nilp,bf,ni]:=al
theorem ME:xA 533 #[]:=al
theorem Mf:xA 593 #[nf]:=lP
theorem OY:xA 607 #[n0]:=al
theorem Nk:xA 634 #[n0]:=al
theorem G9:xB 24 [(0,a)] (aG a) #[a]:=bb Gt
theorem GD:xB 28 [(0,a)] (aG a) #[a,n0,n0]:=bb qe
theorem Jv:xB 28 [(1,a)] (aG a) #[s0,a,n0]:=bb qe
theorem IL:xB 28 [(2,a)] (aG a) #[s0,n0,a]:=bb qe
theorem Co:xB 30 [(0,a),(1,b)] (aG a&&aG b) #[a,b,s0,n0,n0,s0]:=bb vQ
theorem Ip:xC 30 [(2,.agg #[a,b,c])] #[bf,s0,a,b,c,s0]:=bc vQ
theorem LA:xC 35 [] #[i0,i0,f0,s0,n0,n0]:=bc jB
theorem GP:xB 35 [(0,a)] (aG a) #[a,i0,f0,s0,n0,n0]:=bb jB
theorem CU:xB 35 [(0,a),(1,b)] (aG a&&aG b) #[a,b,f0,s0,n0,n0]:=bb jB
theorem CJ:xB 35 [(0,a),(2,b)] (aG a&&aG b) #[a,i0,b,s0,n0,n0]:=bb jB
theorem BK:xB 35 [(0,a),(3,b)] (aG a&&aG b) #[a,i0,f0,b,n0,n0]:=bb jB
theorem Ch:xB 35 [(0,a),(5,b)] (aG a&&aG b) #[a,i0,f0,s0,n0,b]:=bb jB
theorem yy:xC 41 [(0,.agg #[a]),(1,.agg #[b,c,d,e,f,g]),(2,.agg #[i,j,k,l,m,n])] #[a,b,c,d,e,f,g,i,j,k,l,m,n,n0,n0,n0,n0,bf,bf,n0,s0,bf]:=bc FG
theorem Nu:xC 46 [] #[bf,n0,bf,i0,i0,f0,s0,n0,n0,n0]:=bc ww
theorem uv:xB 46 [(0,a),(2,b),(3,.agg #[c,d,e,f,g,i]),(4,j)] (aG a&&aG b&&aG j) #[a,n0,b,c,d,e,f,g,i,j]:=bb ww
theorem Ky:xC 52 [] #[s0,s0,bf,n0]:=bc wx
theorem tX:xB 52 [(0,a),(1,b),(2,c),(3,d)] (aG a&&aG b&&aG c&&aG d) #[a,b,c,d]:=bb wx
theorem qH:xB 68 [(0,a),(1,b),(2,c),(3,d),(4,.agg #[e,f,g,i,j,k])] (aG a&&aG b&&aG c&&aG d) #[a,b,c,d,e,f,g,i,j,k]:=bb F2
theorem O4:xC 92 [] #[nilp,nilp,nilp]:=bc nl
theorem HG:xB 92 [(0,a)] (aG a) #[a,nilp,nilp]:=bb nl
theorem HW:xB 92 [(1,a)] (aG a) #[nilp,a,nilp]:=bb nl
theorem GF:xB 92 [(2,a)] (aG a) #[nilp,nilp,a]:=bb nl
theorem O7:xC 95 [] #[nilp,nilp,nilp,nilp,nilp,bf]:=bc Gl
theorem qB:xB 99 [(0,a),(1,b),(2,.agg #[c,d,e,f,g,i]),(3,j),(4,k)] (aG a&&aG b&&aG j&&aG k) #[a,b,c,d,e,f,g,i,j,k]:=bb Fs
theorem zc:xB 139 [(0,a),(1,.agg #[b,c,d,e,f,g])] (aG a) #[a,b,c,d,e,f,g,n0]:=bb CB
theorem FU:xB 142 [(0,a)] (aG a) #[a,bf,s0,s0,n0,n0,s0,s0]:=bb BR
theorem BH:xB 144 [(0,.agg #[a,b,c,d,e,f]),(1,g)] (aG g) #[a,b,c,d,e,f,g,n0]:=bb tL
theorem vn:xB 144 [(0,.agg #[a,b,c,d,e,f]),(1,g),(2,i)] (aG g&&aG i) #[a,b,c,d,e,f,g,i]:=bb tL
theorem Am:xB 146 [(0,a),(1,.agg #[b,c,d])] (aG a) #[a,b,c,d]:=bb C4
theorem HK:xC 153 [] #[i0,s0,n0,n0,i0,i0,f0,s0,n0,n0,i0]:=bc iu
theorem FA:xB 153 [(0,a)] (aG a) #[a,s0,n0,n0,i0,i0,f0,s0,n0,n0,i0]:=bb iu
theorem zk:xB 153 [(0,a),(1,b)] (aG a&&aG b) #[a,b,n0,n0,i0,i0,f0,s0,n0,n0,i0]:=bb iu
theorem BA:xB 153 [(0,a),(4,.agg #[b,c,d,e,f,g])] (aG a) #[a,s0,n0,n0,b,c,d,e,f,g,i0]:=bb iu
theorem Ai:xB 153 [(0,a),(5,b)] (aG a&&aG b) #[a,s0,n0,n0,i0,i0,f0,s0,n0,n0,b]:=bb iu
theorem F4:xB 153 [(1,a)] (aG a) #[i0,a,n0,n0,i0,i0,f0,s0,n0,n0,i0]:=bb iu
theorem zE:xB 172 [(0,a),(3,b)] (aG a&&aG b) #[a,cr,cr,b]:=bb CX
theorem vk:xB 190 [(0,a),(1,b),(2,c)] (aG a&&aG b&&aG c) #[a,b,c]:=bb BW
theorem rK:xB 192 [(0,a),(2,b),(1,c),(3,d)] (aG a&&aG b&&aG c&&aG d) #[a,c,b,d]:=bb D3
theorem Iw:xC 236 [] #[n0]:=bc Dv
theorem Hi:xC 239 [] #[s0,nilp,nilp,nilp]:=bc ug
theorem zj:xB 239 [(0,a),(1,.agg #[b,c,d])] (aG a) #[a,b,c,d]:=bb ug
theorem uX:xB 269 [(0,a),(1,b),(2,c)] (aG a&&aG b&&aG c) #[a,b,c]:=bb D0
theorem Jf:xC 273 [] #[n0]:=bc tk
theorem Ge:xB 273 [(0,a)] (aG a) #[a]:=bb tk
theorem zIO:xC 277 [] #[n0]:=bc sD
theorem Gf:xB 277 [(0,a)] (aG a) #[a]:=bb sD
theorem Jt:xC 279 [] #[n0,n0]:=bc uj
theorem AN:xC 279 [(0,.agg #[a]),(1,.agg #[b])] #[a,b]:=bc uj
theorem u7:xB 317 [(0,a),(1,.agg #[b,c,d,e,f,g]),(2,i)] (aG a&&aG i) #[a,b,c,d,e,f,g,i]:=bb tu
theorem zI:xB 317 [(2,a),(1,.agg #[b,c,d,e,f,g])] (aG a) #[ni,b,c,d,e,f,g,a]:=bb tu
theorem GH:xC 327 [] #[ni,nilp,nilp,nilp,nilp,nilp,nilp,bf,nilp,n0,nilp,ni]:=bc C8
theorem JC:xC 347 [] #[]:=bc BJ
theorem HH:xC 348 [] #[]:=bc Ef
theorem vz:xB 354 [(0,.agg #[a,b,c,d,e,f]),(1,g),(2,i)] (aG g&&aG i) #[a,b,c,d,e,f,g,i]:=bb Cx
theorem zt:xB 359 [(2,.agg #[a,b,c,d,e,f]),(3,g)] (aG g) #[n0,n0,a,b,c,d,e,f,g]:=bb Em
theorem GX:xC 369 [] #[nilp,nilp,nilp,nilp]:=bc lq
theorem FB:xB 369 [(0,a)] (aG a) #[a,nilp,nilp,nilp]:=bb lq
theorem FW:xB 369 [(2,a)] (aG a) #[nilp,nilp,a,nilp]:=bb lq
theorem Gu:xB 369 [(3,a)] (aG a) #[nilp,nilp,nilp,a]:=bb lq
theorem HV:xC 375 [] #[nilp,nilp,nilp,nilp,nilp,nilp,nilp,nilp,bf,n0,bf,nilp,nilp,nilp]:=bc Ce
theorem Jl:xC 382 [] #[ni,ni,nilp,nilp,nilp,nilp,nilp,nilp,bf,n0,nilp,bf,nilp,ni]:=bc CG
theorem AB:xB 388 [(0,.agg #[a,b,c,d]),(1,e)] (aG e) #[a,b,c,d,e]:=bb Cs
theorem Jy:xC 411 [] #[ni,ni,nilp,nilp,nilp,nilp,nilp,nilp,bf,n0,nf,nf,nilp,bf,nilp,ni]:=bc DW
theorem Jc:xC 417 [] #[s0,nilp,nilp,nilp,nilp,nilp,bf,ni]:=bc sX
theorem AH:xB 417 [(0,a),(1,.agg #[b,c,d,e,f,g])] (aG a) #[a,b,c,d,e,f,g,ni]:=bb sX
theorem IT:xC 430 [] #[ni,nilp,nilp,nilp,nilp,nilp,nilp,bf,bf,nilp,ni]:=bc D9
theorem Jz:xC 432 [] #[ni]:=bc B1
theorem pP:xB 459 [(0,a),(2,b),(3,c),(4,d),(5,e)] (aG a&&aG b&&aG c&&aG d&&aG e) #[a,ni,b,c,d,e]:=bb BT
theorem I6:xC 533 [] #[]:=bc Ec
theorem Gk:xB 607 [(0,a)] (aG a) #[a]:=bb BO
theorem Bj:xB 619 [(0,.agg #[a,b,c,d]),(1,e)] (aG e) #[a,b,c,d,e]:=bb DA
theorem FZ:xC 634 [(0,.agg #[a])] #[a]:=bc Da
theorem IR:xC 659 [] #[]:=bc Do
theorem F9:xB 661 [(1,a)] (aG a) #[n0,a,i0]:=bb BU
theorem CT:xE 22 1 [(0,.agg #[a,b,c,d])] 146 #[a,b,c,d]:=bs Pw
theorem D7:xE 25 1 [(0,.agg #[a,b,c,d,e,f,g,i])] 144 #[a,b,c,d,e,f,g,i]:=bs KG
theorem Ei:xE 26 1 [(0,.agg #[a,b,c,d,e,f,g,i])] 142 #[a,b,c,d,e,f,g,i]:=bs LC
theorem Gg:xE 32 0 [] 9 #[]:=b0 fD
theorem Cz:xD 32 9:=j5 fD
theorem Gi:xE 33 0 [] 35 #[]:=b0 gc
theorem CQ:xE 33 1 [(0,.agg #[a,b,c,d,e,f])] 35 #[a,b,c,d,e,f]:=bs gc
theorem BZ:xE 36 1 [(0,.agg #[a,b,c,d])] 52 #[a,b,c,d]:=bs Fb
theorem Du:xD 50 119:=j5 oP
theorem B0:xE 65 1 [(0,.agg #[a,b,c,d,e,f,g,i,j,k])] 68 #[a,b,c,d,e,f,g,i,j,k]:=bs E8
theorem B5:xE 119 0 [] 153 #[]:=b0 jF
theorem Ay:xE 119 1 [(0,.agg #[a,b,c,d,e,f,g,i,j,k,l])] 153 #[a,b,c,d,e,f,g,i,j,k,l]:=bs jF
theorem uK:xE 119 2 [(0,.agg #[a,b,c,d,e,f,g,i,j,k,l]),(1,.agg #[m,n,o,p,q,r,s,t,u,v,w])] 153 #[a,b,c,d,e,f,g,i,j,k,l,m,n,o,p,q,r,s,t,u,v,w]:=bs jF
theorem vd:xE 140 2 [(0,.agg #[a,b,c,d,e,f,g,i]),(1,.agg #[j,k,l,m,n,o,p,q])] 139 #[a,b,c,d,e,f,g,i,j,k,l,m,n,o,p,q]:=bs G8
theorem Bl:xE 147 1 [(0,.agg #[a,b,c,d,e,f,g,i,j,k])] 46 #[a,b,c,d,e,f,g,i,j,k]:=bs zW
theorem BG:xE 234 1 [(0,.agg #[a,b,c,d])] 239 #[a,b,c,d]:=bs zq
theorem zC:xD 241 20:=j5 kR
theorem zz:xD 246 247:=j5 H7
theorem AX:xE 251 1 [(0,.agg #[a,b,c,d])] 369 #[a,b,c,d]:=bs k1
theorem B6:xE 252 0 [] 369 #[]:=b0 gO
theorem z0:xE 252 1 [(0,.agg #[a,b,c,d])] 369 #[a,b,c,d]:=bs gO
theorem Ah:xD 270 252:=j5 I5
theorem zf:xE 271 1 [(0,.agg #[a,b,c,d])] 369 #[a,b,c,d]:=bs fj
theorem zT:xE 274 1 [(0,.agg #[a,b,c,d,e])] 388 #[a,b,c,d,e]:=bs GN
theorem A5:xE 275 1 [(0,.agg #[a,b,c,d,e])] 388 #[a,b,c,d,e]:=bs kV
theorem y6:xE 356 1 [(0,.agg #[a,b,c,d,e,f,g,i])] 417 #[a,b,c,d,e,f,g,i]:=bs z9
theorem C5:xE 558 0 [] 320 #[]:=b0 o7
theorem BB:xD 558 320:=j5 o7
theorem DL:xE 596 0 [] 372 #[]:=b0 tA
theorem A4:xD 596 372:=j5 tA
theorem Ab:xE 604 1 [(0,.agg #[a,b,c,d,e])] 619 #[a,b,c,d,e]:=bs y8
theorem AK:xD 610 228:=j5 Hq
theorem DK:xE 626 0 [] 379 #[]:=b0 pQ
theorem Bg:xD 626 379:=j5 pQ
theorem By:xD 637 638:=j5 tG
theorem Cw:xE 647 0 [] 407 #[]:=b0 p7
theorem zg:xD 647 407:=j5 p7
theorem CO:xE 650 0 [] 426 #[]:=b0 pF
theorem AQ:xD 650 426:=j5 pF
theorem Wq:xK 2:=eh Tryz.underlying2 rfl
theorem WX:xK 4:=eh Tryz.underlying4 rfl
theorem WH:xK 9:=eh Tryz.underlying9 rfl
theorem Sv:xK 31:=eh Tryz.underlying31 rfl
theorem RA:xK 99:=eh Tryz.underlying99 rfl
theorem LU:xK 241:=eh Tryz.underlying241 rfl
theorem LQ:xK 242:=eh Tryz.underlying242 rfl
theorem MY:xK 269:=eh Tryz.underlying269 rfl
theorem Oq:xK 320:=eh Tryz.underlying320 rfl
theorem J3:xK 323:=eh Tryz.underlying323 rfl
theorem Mb:xK 346:=eh Tryz.underlying346 rfl
theorem KK:xK 347:=eh Tryz.underlying347 rfl
theorem Pq:xK 362:=eh Tryz.underlying362 rfl
theorem Nm:xK 369:=eh Tryz.underlying369 rfl
theorem Kb:xK 372:=eh Tryz.underlying372 rfl
theorem Ma:xK 379:=eh Tryz.underlying379 rfl
theorem Pn:xK 407:=eh Tryz.underlying407 rfl
theorem Lx:xK 426:=eh Tryz.underlying426 rfl
theorem JJ:xK 457:=eh Tryz.underlying457 rfl
theorem Oe:xK 533:=eh Tryz.underlying533 rfl
theorem Na:xK 585:=eh Tryz.underlying585 rfl
theorem Lw:xK 586:=eh Tryz.underlying586 rfl
theorem NM:xK 610:=eh Tryz.underlying610 rfl
theorem Ka:xK 655:=eh Tryz.underlying655 rfl
theorem Oa:xK 657:=eh Tryz.underlying657 rfl
theorem NZ:xK 658:=eh Tryz.underlying658 rfl
theorem i6:xG 99 "IsMissingVersionError" 308:=iv
theorem oq:xG 269 "APIVersion" 316:=iv
theorem r8:xG 269 "Applied" 317:=iv
theorem Ak:xG 269 "Set" 318:=iv
theorem Cu:xG 585 "At" 461:=iv
theorem r9:xG 585 "AtUsing" 462:=iv
theorem nu:xG 585 "EqualsUsing" 464:=iv
theorem tC:xG 585 "Length" 465:=iv
theorem nZ:xG 585 "RangeUsing" 467:=iv
theorem vB:xG 586 "Empty" 470:=iv
theorem nt:xG 586 "EqualsUsing" 472:=iv
theorem qx:xG 586 "GetUsing" 474:=iv
theorem A7:xG 586 "Has" 475:=iv
theorem rR:xG 586 "Iterate" 476:=iv
theorem mG:xG 586 "IterateUsing" 477:=iv
theorem qf:xG 586 "ZipUsing" 481:=iv
theorem ny:xH 362 "AsListUsing" 347 1:=ih yA432.1
theorem oJ:xH 362 "AsMapUsing" 349 1:=ih yA432.1
theorem qt:xH 362 "AsString" 350 1:=ih yA432.1
theorem ui:xH 362 "IsBool" 351 1:=ih yA432.1
theorem sf:xH 362 "IsFloat" 352 1:=ih yA432.1
theorem uT:xH 362 "IsInt" 353 1:=ih yA432.1
theorem sO:xH 362 "IsList" 354 1:=ih yA432.1
theorem vA:xH 362 "IsMap" 355 1:=ih yA432.1
theorem tK:xH 362 "IsNull" 356 1:=ih yA432.1
theorem qA:xH 362 "IsString" 357 1:=ih yA432.1
theorem mH:xH 362 "Unstructured" 358 1:=ih yA432.1
theorem WW:xT 2 i0/\xZ 2 i0:=ta Tryz.underlying2
theorem WG:xT 3 i0/\xZ 3 i0:=ta Tryz.underlying3
theorem WF:xT 4 bf/\xZ 4 bf:=ta Tryz.underlying4
theorem Ww:xT 5 (.int .u8 0)/\xZ 5 (.int .u8 0):=ta Tryz.underlying5
theorem VY:xT 9 s0/\xZ 9 s0:=ta Tryz.underlying9
theorem TU:xT 21 (.int .i32 0)/\xZ 21 (.int .i32 0):=ta Tryz.underlying21
theorem Uu:xT 31 f0/\xZ 31 f0:=ta Tryz.underlying31
theorem Mr:xT 241 n0/\xZ 241 n0:=ta Tryz.underlying241
theorem K7:xT 242 cr/\xZ 242 cr:=ta Tryz.underlying242
theorem Lz:xT 365 nilp/\xZ 365 nilp:=ta Tryz.underlying365
theorem LD:xT 461 (.int .u64 0)/\xZ 461 (.int .u64 0):=ta Tryz.underlying461
theorem Nf:xT 523 (.int .u32 0)/\xZ 523 (.int .u32 0):=ta Tryz.underlying523
theorem OL:xT 573 (.float .f32 0)/\xZ 573 (.float .f32 0):=ta Tryz.underlying573
theorem Np:xT 575 (.int .i8 0)/\xZ 575 (.int .i8 0):=ta Tryz.underlying575
theorem N9:xT 577 (.int .i16 0)/\xZ 577 (.int .i16 0):=ta Tryz.underlying577
theorem LM:xT 582 (.int .u16 0)/\xZ 582 (.int .u16 0):=ta Tryz.underlying582
theorem U0:yI 20:=ei Tryz.underlying20
theorem QU:yP 87:=ep Tryz.underlying87
theorem UA:yP 88:=ep Tryz.underlying88
theorem QF:yP 89:=ep Tryz.underlying89
theorem R3:yP 90:=ep Tryz.underlying90
theorem TC:yP 93:=ep Tryz.underlying93
theorem MO:yP 101:=ep Tryz.underlying101
theorem NH:yI 109:=ei Tryz.underlying109
theorem K6:yP 173:=ep Tryz.underlying173
theorem Ks:yI 183:=ei Tryz.underlying183
theorem Kn:yI 195:=ei Tryz.underlying195
theorem Lq:yI 225:=ei Tryz.underlying225
theorem JW:yI 228:=ei Tryz.underlying228
theorem Ps:yP 325:=ep Tryz.underlying325
theorem MR:yI 338:=ei Tryz.underlying338
theorem Kt:yI 343:=ei Tryz.underlying343
theorem Om:yP 365:=ep Tryz.underlying365
theorem Nv:yP 366:=ep Tryz.underlying366
theorem Nb:yP 367:=ep Tryz.underlying367
theorem Ol:yP 373:=ep Tryz.underlying373
theorem Mo:yP 378:=ep Tryz.underlying378
theorem Kq:yP 380:=ep Tryz.underlying380
theorem LB:yP 408:=ep Tryz.underlying408
theorem Pu:yP 409:=ep Tryz.underlying409
theorem Px:yP 428:=ep Tryz.underlying428
theorem OJ:yP 447:=ep Tryz.underlying447
theorem NP:yP 487:=ep Tryz.underlying487
theorem Mk:yP 638:=ep Tryz.underlying638
theorem JK:xV 169:=cv
theorem Lv:xV 205:=cv
theorem ND:xV 229:=cv
theorem Mt:xV 261:=cv
theorem Pi:xV 275:=cv
theorem OK:xV 392:=cv
theorem GQ{O:Heap}{T:KV}:Al O 99 T=T (.pointer (some ⟨O.size,0,none⟩)) (O.push (.cells #[(.slice none 0 0),(.pointer none),(.pointer none),(.pointer none),(.pointer none),(.pointer none),(.pointer none),(.bool false),(.map none),(.map none)] 99 (0,0))):=yt HJ
theorem sg{J:Value}{t:Array Value}{Q:Prop}:Nc (.func (.method "AtUsing") #[.iface 585 J] t) Q=Q:=qD (n:=462) (by kernel_rfl)
theorem oF{J:Value}{t:Array Value}{Q:Prop}:Nc (.func (.method "RangeUsing") #[.iface 585 J] t) Q=Q:=qD (n:=467) (by kernel_rfl)
theorem mB{J:Value}{t:Array Value}{Q:Prop}:Nc (.func (.method "IterateUsing") #[.iface 586 J] t) Q=Q:=qD (n:=477) (by kernel_rfl)
theorem uE{O:Heap}{u s:Nat}{B:Array Value}{T:KV}:Iv O (.iface 657 (.pointer (some ⟨u,s,none⟩))) "Length" B T=pn (aI O u s) (Ca P O (callMethod (.iface 657 (.pointer (some ⟨u,s,none⟩))) "Length" B) T) λ v=>Cf O 465 (#[v]++B) T:=zJ (by kernel_rfl) (show eQ 585=some none by kernel_rfl)
theorem oC{O:Heap}{u s:Nat}{B:Array Value}{T:KV}:Iv O (.iface 657 (.pointer (some ⟨u,s,none⟩))) "RangeUsing" B T=pn (aI O u s) (Ca P O (callMethod (.iface 657 (.pointer (some ⟨u,s,none⟩))) "RangeUsing" B) T) λ v=>Cf O 467 (#[v]++B) T:=zJ (by kernel_rfl) (show eQ 585=some none by kernel_rfl)
theorem RH{O:Heap}{X:Nat}{J:Value}{T:Value->Prop}:Ta O (.iface 9 J) X 9 false T=T J:=ot Tryz.underlying9 (λ _ O=>by cases O)
theorem Js{O:Heap}{X:Nat}{T:Value->Prop}:Ta O .nilIface X 199 true T=T (.tuple #[(.slice none 0 0),.bool false]):=pU Tryz.underlying199 Gw
theorem Hv{O:Heap}{X:Nat}{J:Value}{T:Value->Prop}:Ta O (.iface 241 J) X 241 false T=T J:=ot Tryz.underlying241 (λ _ O=>by cases O)
theorem L7{O:Heap}{X G:Nat}{J:Value}{T:Value->Prop}:Ta O (.iface G J) X 369 true T=if G=369 then T (.tuple #[J,.bool true])else T (.tuple #[(.agg #[(.pointer none),(.pointer none),(.pointer none),(.pointer none)]),.bool false]):=wA Tryz.underlying369 (λ _ O=>by cases O) Gb
theorem Iu{O:Heap}{X:Nat}{T:Value->Prop}:Ta O .nilIface X 533 true T=T (.tuple #[(.agg #[]),.bool false]):=pU Tryz.underlying533 Gz
theorem HQ{O:Heap}{X:Nat}{J:Value}{T:Value->Prop}:Ta O (.iface 610 J) X 610 false T=T J:=ot Tryz.underlying610 (λ _ O=>by cases O)
theorem vg{O:Heap}{T:Value->Prop}{X q:Bool}{B u:Bool}:Eb O .eql 4 X q (.bool B) (.bool u) T=T (.bool (B==u)):=yi Tryz.underlying4
theorem uQ{O:Heap}{T:Value->Prop}{X q:Bool}{B u:Bool}:Eb O .neq 4 X q (.bool B) (.bool u) T=T (.bool (!(B==u))):=w7 Tryz.underlying4
theorem tB{O:Heap}{T:Value->Prop}{X q:Bool}{B:Option Nat}:Eb O .neq 170 X q (.map B) (.map none) T=T (.bool (!B.isNone)):=zF Tryz.underlying170
theorem oA{O:Heap}{T:Value->Prop}{X q:Bool}:Eb O .neq 406 X q .nilFunc .nilFunc T=T (.bool (false)):=rT Tryz.underlying406
theorem sk:g0 96=some (9,95,(.agg #[(.pointer none),(.pointer none),(.pointer none),(.pointer none),(.pointer none),(.bool false)])):=by kernel_rfl
theorem Kw:g0 97=some (9,4,(.bool false)):=by kernel_rfl
theorem fH:g0 107=some (9,183,.nilIface):=by kernel_rfl
theorem AR:g0 169=some (114,195,.nilIface):=by kernel_rfl
theorem iQ:g0 170=some (114,173,(.pointer none)):=by kernel_rfl
theorem mJ:g0 242=some (9,20,.nilIface):=by kernel_rfl
theorem AM:g0 263=some (114,179,(.pointer none)):=by kernel_rfl
theorem mu:g0 586=some (9,20,.nilIface):=by kernel_rfl
attribute[go_sem]R9 Wl WN UJ R0 Q4 Tx Ui UD Uj QX Ra SB QY Sa QH Li MF ON Pl KW Kk Mq JH Mw KF Km M3 JT KJ OV NB LY Nq L3 Pf ME Mf OY Nk G9 GD Jv IL Co Ip LA GP CU CJ BK Ch yy Nu uv Ky tX qH O4 HG HW GF O7 qB zc FU BH vn Am HK FA zk BA Ai F4 zE vk rK Iw Hi zj uX Jf Ge zIO Gf Jt AN u7 zI GH JC HH vz zt GX FB FW Gu HV Jl AB Jy Jc AH IT Jz pP I6 Gk Bj FZ IR F9 CT D7 Ei Gg Cz Gi CQ BZ Du B0 B5 Ay uK vd Bl BG zC zz AX B6 z0 Ah zf zT A5 y6 C5 BB DL A4 Ab AK DK Bg By Cw zg CO AQ Wq WX WH Sv RA LU LQ MY Oq J3 Mb KK Pq Nm Kb Ma Pn Lx JJ Oe Na Lw NM Ka Oa NZ i6 oq r8 Ak Cu r9 nu tC nZ vB nt qx A7 rR mG qf ny oJ qt ui sf uT sO vA tK qA mH WW WG WF Ww VY TU Uu Mr K7 Lz LD Nf OL Np N9 LM U0 QU UA QF R3 TC MO NH K6 Ks Kn Lq JW Ps MR Kt Om Nv Nb Ol Mo Kq LB Pu Px OJ NP Mk JK Lv ND Mt Pi OK GQ sg oF mB uE oC RH Js Hv L7 Iu HQ vg uQ tB oA
end Go.Proofs.YtgmgmmoofjikiaaGreat
namespace Go.Proofs.YtgmgmmoofjikiaaGreat
open Go.Eng
variable{a b c d e f g i j k p q r s:Value}{m n o l t u v:Nat}{h H:Heap}{R:KV}{α:Type}
def cd(T:aK)(J:Value)(a v:Nat)(c:List Value):Prop:=∃B V,J=.slice B v V/\v<=V/\c.length=v*a/\v<=2147483647/\(∀S∈c,aG S=true)/\(0<v->∃u s,B=some ⟨u,s,none⟩/\∀M S,c[M]?=some S->bP T u (s+M)=some S)
theorem cd.mono{T V:aK}(O:T.le V){c:List Value}(B:cd T a m n c):cd V a m n c:=by obtain⟨B,V,rfl,t,f,D,y,k⟩:=B;refine⟨B,V,rfl,t,f,D,y,λ e=>?_⟩;obtain⟨u,s,rfl,r⟩:=k e;exact⟨u,s,rfl,λ M S l=>cE O (r M S l)⟩
theorem cd.nil(T:aK)(a t:Nat)(B:Option Addr):cd T (.slice B 0 t) a 0 []:=⟨B,t,rfl,by omega,by simp,by omega,by simp,λ O=>absurd O (by omega)⟩
abbrev Strs(T:aK)(J:Value)(H:List ByteArray):Prop:=cd T J 1 H.length (H.map Value.string)
theorem jp{A:Sem Value}:Rc P h A a=Rd P h A λ S=>S=a:=by
 apply propext;constructor
 ·exact λ W=>⟨a,W,rfl⟩
 ·rintro⟨S,W,rfl⟩;exact W
@[go_sem] theorem WT:bh h m a b=Ld h m a λ S=>S=b:=jp
@[go_sem] theorem WV:eG h m a n b=Fa h m a n λ S=>S=b:=jp
@[go_sem] theorem Wg:iR h m a b c=Ia h m a b λ S=>S=c:=jp
@[go_sem] theorem Wn{u:Bool}:dn h m a b u c=Lk h m a b u λ S=>S=c:=jp
@[go_sem] theorem Wz:vL h m a b=Ln h m a λ S=>S=b:=jp
theorem gG{w:Program}{r:IntKind}{M:Int}{t:BoundsCode}(O:0<=M/\M<=m)(E:World):(Instr.sliceBound (.int r M) m t).run w E=.ok M.toNat E:=by unfold Instr.sliceBound asIntOf;simp only[Sem.run_bind,Sem.run_pure,Result.andThen_ok];rw[if_pos O,Sem.run_pure]
theorem pk{B:Option Addr}{D:Int}{r:IntKind}{T:Value->Prop}(W:P.underlying m=some (.slice n))(s:ez m=some o)(K:0<=D/\D<=t):Sl h m (.slice B l t) none (some (.int r D)) none T=T (.slice (if t=0 then B else B.map (·.add (0*o))) (D.toNat-0) (t-0)):=by refine cV λ E _=>?_;unfold ez at s;rw[W]at s;simp only at s;cases d:P.info? n with|none=>simp[d]at s|some M=>rw[d]at s;simp only[Option.map_some,Option.some.injEq]at s;subst s;unfold Instr.sliceAt Instr.slice Instr.sliceBounds;simp only[Sem.run_bind,bD W,Result.andThen_ok,gG K,Sem.run_pure,eE d]
theorem lk{B:Option Addr}{D:Int}{r:IntKind}{T:Value->Prop}(W:P.underlying m=some (.slice n))(s:ez m=some o)(K:0<=D/\D<=l):Sl h m (.slice B l t) (some (.int r D)) none none T=T (.slice (if t=D.toNat then B else B.map (·.add (D.toNat*o))) (l-D.toNat) (t-D.toNat)):=by refine cV λ E _=>?_;unfold ez at s;rw[W]at s;simp only at s;cases d:P.info? n with|none=>simp[d]at s|some M=>rw[d]at s;simp only[Option.map_some,Option.some.injEq]at s;subst s;unfold Instr.sliceAt Instr.slice Instr.sliceBounds;simp only[Sem.run_bind,bD W,Result.andThen_ok,gG K,Sem.run_pure,eE d,Option.isSome_none,Bool.false_eq_true,if_false]
theorem cd.hi{T:aK}{c:List Value}{r:IntKind}{b:Value->Prop}(W:P.underlying m=some (.slice n))(s:ez m=some o)(p:cd T a o l c)(K:t<=l)(Q:∀S,cd T S o t (c.take (t*o))->b S):Sl h m a none (some (.int r t)) none b:=by
 obtain⟨B,V,rfl,A,f,D,y,k⟩:=p;rw[pk W s (by omega)];refine Q _ ⟨_,_,rfl,by omega,?_,?_,λ S O=>y S (List.mem_of_mem_take O),?_⟩
 ·rw[List.length_take,f];have:t*o<=l*o:=Nat.mul_le_mul_right _ K;omega
 ·omega
 ·intro e;obtain⟨u,s,rfl,r⟩:=k (by omega);refine⟨u,s,?_,?_⟩
  ·split
   ·rfl
   ·rw[Nat.zero_mul];rfl
  ·intro M S O;rw[List.getElem?_take]at O;split at O
   ·exact r M S O
   ·cases O
theorem cd.one{T:aK}{c:List Value}(B:cd T a m n c):aG a=true:=by obtain⟨B,V,rfl,-⟩:=B;rfl
def aQ(L:Nat)(T:aK)(O:Heap)(C s:Nat)(J:Value)(v:Nat)(c:List Value):Prop:=kX L O C s J v c/\∀P,J.ownBlock=some P->T P=none
theorem aQ.nil(L:Nat)(T:aK)(O:Heap)(C s:Nat):aQ L T O C s (.slice none 0 0) 0 []:=⟨⟨by simp,.inl ⟨rfl,rfl⟩⟩,by simp[Value.ownBlock]⟩
theorem kX.block{c:List Value}(B:kX m h n o a l c)(z:a.ownBlock=some t):m<=t/\t<h.size:=by
 rcases B.2 with⟨rfl,-⟩|⟨J,V,X,rfl,j,i,-⟩
 ·cases z
 ·simp only[Value.ownBlock,Option.some.injEq]at z;subst z;exact⟨j,(Array.getElem?_eq_some_iff.1 i).1⟩
theorem kX.same{c:List Value}(B:kX m h n o a l c)(s:∀P,a.ownBlock=some P->H[P]?=h[P]?):kX m H n o a l c:=by
 refine⟨B.1,?_⟩;rcases B.2 with i|⟨P,V,X,rfl,j,i,w⟩
 ·exact .inl i
 ·exact .inr ⟨P,V,X,rfl,j,(s P rfl).trans i,w⟩
theorem kX.push{c:List Value}(B:kX m h n o a l c)(X:Obj):kX m (h.push X) n o a l c:=B.same λ P z=>by rw[Array.getElem?_push,if_neg (by have:=(B.block z).2;omega)]
theorem aQ.step{D:Nat->Prop}{T I':aK}{c:List Value}(B:aQ m T h n o a l c)(E:aC D T h I' H)(G:∀P,a.ownBlock=some P->¬D P):aQ m I' H n o a l c:=⟨B.1.same λ P z=>E.same P (B.1.block z).2 (G P z),λ P z=>(E.dom P (B.1.block z).2 (G P z)).trans (B.2 P z)⟩
theorem aQ.weak{base':Nat}{T:aK}{c:List Value}(B:aQ m T h n o a l c)(j:base'<=m):aQ base' T h n o a l c:=by
 refine⟨⟨B.1.1,?_⟩,B.2⟩;rcases B.1.2 with i|⟨P,V,X,rfl,g,w⟩
 ·exact .inl i
 ·exact .inr ⟨P,V,X,rfl,Nat.le_trans j g,w⟩
theorem ft.cell{w:Option Nat}(G:ft h H w)(k:aI h m n=some a)(e:w≠some m):aI H m n=some a:=by have:=G.same m (iq k) (λ C=>e C.symm);unfold aI at k⊢;rw[this];exact k
theorem aC.touch{g:Nat->Prop}{T A:aK}{U:Heap}(B:aC g T h A H)(G:ft H U a.ownBlock)(j:∀P,a.ownBlock=some P->(h.size<=P\/g P)/\A P=none):aC g T h A U:=by
 have e:∀r,(∀P,a.ownBlock=some P->P≠r)->some r≠a.ownBlock:=λ r Y C=>Y r C.symm rfl;refine⟨Nat.le_trans B.size G.size,?_,B.dom,B.le,?_⟩
 ·intro r Y a;rw[G.same r (Nat.lt_of_lt_of_le Y B.size) (e r λ P z C=>by
   subst C;rcases(j P z).1 with y|y
   ·omega
   ·exact a y)];exact B.same r Y a
 ·intro r q p;rw[G.same r (B.sat.dom p) (e r λ P z C=>by subst C;rw[(j P z).2]at p;cases p)];exact B.sat r q p
theorem ft.ofPush{X:Obj}{w:Option Nat}(G:ft (h.push X) H w):ft h H w:=by refine⟨by have:=G.size;rw[Array.size_push]at this;omega,?_⟩;intro r Y e;rw[G.same r (by rw[Array.size_push];omega) e,Array.getElem?_push,if_neg (by omega)]
theorem aQ.sli{base:Nat}{I V:aK}{e:Nat}{c:List Value}(B:aQ base I h e m a n c)(D:n<=2147483647)(y:∀S∈c,aG S=true)(G:∀P,a.ownBlock=some P->V P=h[P]?):cd V a m n c:=by
 obtain⟨⟨f,k⟩,-⟩:=B;rcases k with⟨rfl,rfl⟩|⟨P,V,X,rfl,j,z,t,-,U,N⟩
 ·exact⟨none,0,rfl,by omega,f,D,y,λ Q=>absurd Q (by omega)⟩
 ·refine⟨_,V,rfl,t,f,D,y,λ _=>⟨P,0,rfl,?_⟩⟩;intro M S O;unfold bP;rw[G P rfl,z];rw[<-N,List.getElem?_take]at O;split at O
  ·simpa using O
  ·cases O
theorem kf{w:Program}{M:TypeInfo}(W:w.underlying m=some (.slice n))(d:w.info? n=some M){B:Option Addr}(f:o<=l)(E:World):(Builtin.append_ #[m,m] m #[.slice B o l,.slice none 0 t]).run w E=.ok (.slice B o l) E:=by cases B with|none=>simp[Builtin.append_,run_underlying W,sizeOf,typeInfo,d,Builtin.lenOf,f,Builtin.firstCells]|some B=>simp[Builtin.append_,run_underlying W,sizeOf,typeInfo,d,Builtin.lenOf,f,Builtin.firstCells,storeCells]
theorem cI{L:List Value}(W:eW m=some (n,o,l,L)){B:Option Addr}:Ap h m (.slice B t u) (.slice none 0 v) R=if t<=u then R (.slice B t u) h else Ag h (Builtin.append_ #[m,m] m #[.slice B t u,.slice none 0 v]) R:=by
 by_cases f:t<=u
 ·rw[if_pos f];obtain⟨M,A,O,d,-⟩:=eF W;exact kv λ E M=>⟨E,kf O d f E,M,Sm.refl _⟩
 ·rw[if_neg f];rfl
theorem aQ.empty{T:aK}(j:m<=l)(z:h[l]?=some (.cells #[] n (0,0)))(d:T l=none):aQ m T h n o (.slice (some ⟨l,0,none⟩) 0 0) 0 []:=⟨⟨by simp,.inr ⟨l,0,#[],rfl,j,z,by omega,by omega,by simp,by simp⟩⟩,λ J B=>by cases B;exact d⟩
def blk(O:Heap)(b:Nat):Option Obj:=O[b]?
def upd(s:Nat)(J:Value):Option Obj->Option Obj|some (.cells t C c)=>some (.cells (t.setIfInBounds s J) C c)|X=>X
theorem dP{t:Array Value}{c:Nat×Nat}:upd m a (some (.cells t n c))=some (.cells (t.setIfInBounds m a) n c):=rfl
theorem cq{X:Obj}:blk (h.push X) m=if m=h.size then some X else blk h m:=Array.getElem?_push
theorem bO:blk (aO h m n a) o=if m=o then upd n a (blk h o)else blk h o:=by
 unfold blk aO upd;rw[Array.getElem?_modify];by_cases k:m=o
 ·rw[if_pos k,if_pos k];cases i:h[o]? with|none=>rfl|some X=>cases X<;>rfl
 ·rw[if_neg k,if_neg k]
theorem rg(k:o≠m):(aO h m n a)[o]?=h[o]?:=by unfold aO;rw[Array.getElem?_modify,if_neg (λ C=>k C.symm)]
theorem dw{s:Obj}(w:n≠m):blk (hset h m s) n=blk h n:=by unfold blk hset;rw[Array.getElem?_setIfInBounds,if_neg (λ C=>w C.symm)]
theorem aF{X:Obj}(j:blk h m=some X):m<h.size:=(Array.getElem?_eq_some_iff.1 j).1
theorem aA{t:Array Value}{c:Nat×Nat}(j:blk h m=some (.cells t n c))(s:Nat):aI h m s=t[s]?:=by unfold aI;unfold blk at j;rw[j]
theorem aS{t:Array Value}(j:blk h m=some (.cells t n (0,0)))(s:Nat):gH h m s=false:=by unfold gH;unfold blk at j;rw[j];simp
theorem ft.blk{w:Option Nat}(G:ft h H w){b:Nat}{x:Obj}(k:blk h b=some x)(e:w≠some b):Proofs.YtgmgmmoofjikiaaGreat.blk H b=some x:=(G.same b (aF k) (λ C=>e C.symm)).trans k
theorem aC.blk{g:Nat->Prop}{T A:aK}(B:aC g T h A H){b:Nat}{x:Obj}(k:blk h b=some x)(G:¬g b):Proofs.YtgmgmmoofjikiaaGreat.blk H b=some x:=(B.same b (aF k) G).trans k
theorem aQ.push{T:aK}{c:List Value}(B:aQ m T h n o a l c)(X:Obj):aQ m T (h.push X) n o a l c:=⟨B.1.push X,B.2⟩
theorem aQ.put{T:aK}{v:Value}{c:List Value}(B:aQ m T h n l v t c){b:Nat}(j:b<m):aQ m T (aO h b o a) n l v t c:=⟨B.1.same λ P z=>rg (by have:=(B.1.block z).1;omega),B.2⟩
theorem aQ.hset{T:aK}{c:List Value}(B:aQ m T h n o a l c){s:Obj}(j:t<m):aQ m T (Proofs.YtgmgmmoofjikiaaGreat.hset h t s) n o a l c:=⟨B.1.same λ P z=>dw (by have:=(B.1.block z).1;omega),B.2⟩
theorem aQ.touch{T:aK}{c:List Value}(B:aQ m T h n o a l c){w:Option Nat}(G:ft h H w)(e:∀P,a.ownBlock=some P->w≠some P):aQ m T H n o a l c:=⟨B.1.same λ P z=>G.same P (B.1.block z).2 (λ n=>e P z n.symm),B.2⟩
theorem aQ.one{T:aK}{c:List Value}(B:aQ m T h n o a l c):aG a=true:=by rcases B.1.2 with⟨rfl,_⟩|⟨P,V,X,rfl,_⟩<;>rfl
theorem bY{L:List Value}(W:eW m=some (n,o,t,L))(k:L.length=o)(g:0<o)(j:t<=65535){T:aK}{c:List Value}{H:Array Value}{B z:Nat}{x:Nat×Nat}(O:blk h B=some (.cells H z x))(q:aQ u T h n o a v c)(Z:aN T h)(b:H.size=o)(y:∀S∈H.toList,aG S=true)(C:v+1<=2147483648)(r:u<=h.size)(Q:∀e U,aQ u T U n o e (v+1) (c++H.toList)->ft h U a.ownBlock->aN T U->(e.ownBlock=a.ownBlock\/∃P,e.ownBlock=some P/\h.size<=P)->R e U):Ap h m a (.slice (some ⟨B,0,none⟩) 1 1) R:=by
 have C:c4 h B 0 (1*o)=some H.toList:=by
  have V:∀(x s:Nat),s+x=H.size->c4 h B s x=some (H.toList.drop s):=by
   intro x;induction x with
    |zero=>intro s v;rw[c4,List.drop_eq_nil_of_le (by simp;omega)]
    |succ x ih=>
     intro s v;have c:s<H.size:=by omega
     rw[c4,aA O,ih (s+1) (by omega),Array.getElem?_eq_getElem c];simp only;have G:=List.drop_eq_getElem_cons (l:=H.toList) (i:=s) (by simpa using c);rw[G];simp
  have:=V o 0 (by omega);rw[Nat.one_mul,this,List.drop_zero]
 refine mX W k g q.1 (by simp[b]) C y (by omega) j r ?_;intro e U v C E;have d:=aC.touch (aC.refl (D:=λ P=>a.ownBlock=some P) Z) C λ P z=>⟨.inr z,q.2 P z⟩;refine Q e U ⟨v,?_⟩ C d.sat E;intro P z;rcases E with J|⟨F,B,Y⟩
 ·exact q.2 P (J▸z)
 ·rw[B]at z;cases z;exact Z.fresh Y
theorem aK.add_le{T:aK}(Z:aN T h)(w:Nat->Bool):T.le (T.add w h):=by
 intro u X i;unfold aK.add;split
 ·exact Z u X i
 ·exact i
def aK.own(T:aK)(J:Value)(O:Heap):aK:=T.add (λ P=>decide (J.ownBlock=some P)) O
theorem aQ.frz{g:Nat->Prop}{I T V:aK}{c:List Value}(B:aQ m T H n o a l c)(E:aC g I h V H)(j:h.size<=m)(D:l<=2147483647)(y:∀S∈c,aG S=true):aC g I h (V.own a H) H/\V.le (V.own a H)/\cd (V.own a H) a o l c:=by
 refine⟨E.freeze _ λ P z=>.inl ?_,aK.add_le E.sat _,B.sli D y λ P z=>?_⟩
 ·have:=(B.1.block (of_decide_eq_true z)).1;omega
 ·unfold aK.own aK.add;rw[if_pos (decide_eq_true z)]
def aK.one(T:aK)(b:Nat)(O:Heap):aK:=T.add (λ P=>P==b) O
theorem aK.one_eq{T:aK}{X:Obj}(j:blk h m=some X):(T.one m h) m=some X:=by unfold aK.one aK.add;rw[if_pos (by simp)];exact j
theorem aK.one_ne{T:aK}(k:n≠m):(T.one m h) n=T n:=by unfold aK.one aK.add;rw[if_neg (by simpa using k)]
theorem aC.one{D:Nat->Prop}{T V:aK}(E:aC D T h V H){b:Nat}(j:h.size<=b):aC D T h (V.one b H) H/\V.le (V.one b H):=⟨E.freeze _ λ P z=>.inl (by
 have:P=b:=by simpa using z
 omega),aK.add_le E.sat _⟩
theorem aQ.one'{T:aK}{c:List Value}(B:aQ m T h n o a l c)(e:∀P,a.ownBlock=some P->P≠t):aQ m (T.one t H) h n o a l c:=⟨B.1,λ P z=>(aK.one_ne (e P z)).trans (B.2 P z)⟩
theorem cd.ofBlk{T:aK}{H:Array Value}{c:Nat×Nat}(j:T m=some (.cells H n c))(f:H.size=o*l)(D:o<=2147483647)(y:∀S∈H.toList,aG S=true):cd T (.slice (some ⟨m,0,none⟩) o o) l o H.toList:=by refine⟨_,o,rfl,Nat.le_refl _,by simpa using f,D,y,λ _=>⟨m,0,rfl,?_⟩⟩;intro M S O;unfold bP;rw[j];simpa using O
end Go.Proofs.YtgmgmmoofjikiaaGreat
namespace Go.Proofs.YtgmgmmoofjikiaaGreat
open Go.Eng
variable{a b c d e f g i j k p q r s:Value}{m n o l t u v:Nat}{h H:Heap}{R:KV}{α:Type}
theorem oU{B:Int}(O:0<=B/\B<=2147483648):IntKind.i64.wrap B=B:=io (by omega)
theorem r7{w:Program}{M:TypeInfo}(W:w.underlying m=some (.slice n))(d:w.info? n=some M)(k:M.zero=some a)(j:M.bytes<=65535)(f:o<=l)(B:l<=2147483648)(E:World):∃H:Array Value,H.size=l*M.size/\(Instr.makeSlice m (.int .i64 o) (.int .i64 l)).run w E=.ok (.slice (some ⟨E.heap.size,0,none⟩) o l) {E with heap:=E.heap.push (.cells H n (0,0))}:=by
 have q:IntKind.i64.wrap (o:Int)=o:=oU (by omega);have O:IntKind.i64.wrap (l:Int)=l:=oU (by omega);have P:M.bytes*l<=140735340871680:=Nat.le_trans (Nat.mul_le_mul j B) (by decide);have B:(M.bytes:Int)*(l:Int)<=140735340871680:=by rw[<-Int.natCast_mul];exact Int.ofNat_le.2 P
 have b:l*M.bytes<=140737488355328:=by rw[Nat.mul_comm];exact Nat.le_trans P (by decide)
 have v:¬((l:Int)<0):=by omega
 have P:¬((M.bytes:Int)*(l:Int)>2^48):=by
  have:(2:Int)^48=281474976710656:=by decide
  rw[this];exact Int.not_lt.2 (Int.le_trans B (by decide))
 have r:¬((o:Int)<0):=by omega
 have I:¬((o:Int)>l):=by omega
 have c:(askRoom (l*M.bytes)).run w E=.ok () E:=by
  unfold askRoom roomBytes;have e:(2:Nat)^47=140737488355328:=by decide
  rw[e,if_neg (Nat.not_lt.2 b)];rfl
 by_cases s:l*M.size=0
 ·refine⟨(Array.range (l*M.size)).map ((#[]:Array Value)[·%0]!),by simp,?_⟩;unfold Instr.makeSlice;simp only[Sem.run_bind,run_underlying W,Result.andThen_ok,asInt,asIntOf,Sem.run_pure,typeInfo,hJ,d,q,O,v,P,r,I,decide_false,Bool.or_self,Bool.false_eq_true,if_false,Int.toNat_natCast,c,sizeOf,s,if_true];rfl
 ·refine⟨(Array.range (l*M.size)).map (a.cells[·%a.cells.size]!),by simp,?_⟩;unfold Instr.makeSlice;simp only[Sem.run_bind,run_underlying W,Result.andThen_ok,asInt,asIntOf,Sem.run_pure,typeInfo,hJ,d,q,O,v,P,r,I,decide_false,Bool.or_self,Bool.false_eq_true,if_false,Int.toNat_natCast,c,sizeOf,s,zeroValue,k];rfl
theorem Oh{L:List Value}(W:eW m=some (n,o,l,L))(j:l<=65535){B c:Int}(Y:B=t)(g:c=u)(f:t<=u)(k:u<=2147483648)(Q:∀H:Array Value,H.size=u*o->R (.slice (some ⟨h.size,0,none⟩) t u) (h.push (.cells H n (0,0)))):Ag h (Instr.makeSlice m (.int .i64 B) (.int .i64 c)) R:=by subst Y;subst g;obtain⟨M,A,O,d,B,rfl,rfl,-⟩:=eF W;intro E M;obtain⟨H,y,N⟩:=r7 O d B j f k E;refine⟨_,_,N,?_,⟨rfl,rfl⟩⟩;subst M;exact Q H y
theorem aQ.made{T:aK}{H:Array Value}(j:m<=l)(z:blk h l=some (.cells H n (0,0)))(d:T l=none)(s:H.size=t*o)(k:t<=2147483648):aQ m T h n o (.slice (some ⟨l,0,none⟩) 0 t) 0 []:=⟨⟨by simp,.inr ⟨l,t,H,rfl,j,z,by omega,by simp only[maxLen];omega,s,by simp⟩⟩,λ J B=>by cases B;exact d⟩
theorem uu{c:α->List Value}(V:∀B,(c B).length=m):∀(H:List α)(M D:Nat)(d:M<H.length),D<m->(H.flatMap c)[M*m+D]?=(c H[M])[D]?
 |B::H,0,D,_,K=>by rw[List.flatMap_cons,List.getElem?_append_left (by rw[V];omega)];simp
 |B::H,M+1,D,d,K=>by
  rw[List.flatMap_cons,List.getElem?_append_right (by rw[V,Nat.add_mul];omega),V];have:(M+1)*m+D-m=M*m+D:=by rw[Nat.add_mul];omega
  rw[this,uu V H M D (by simpa using d) K];simp
theorem cj{T:aK}(Z:aN T h){c:α->List Value}(V:∀B,(c B).length=m){H:List α}(k:∀l S,(H.flatMap c)[l]?=some S->bP T n (o+l)=some S)(d:l<H.length)(K:t<m):aI h n (o+l*m+t)=(c H[l])[t]?:=by have z:=uu V H l t d K;have s:(c H[l])[t]?=some ((c H[l])[t]'(by rw[V];exact K)):=List.getElem?_eq_getElem _;rw[s,Nat.add_assoc];exact Z.cell (k _ _ (by rw[z,s]))
theorem gD{T:aK}(Z:aN T h){c:α->List Value}(V:∀B,(c B).length=m){H:List α}(k:∀l S,(H.flatMap c)[l]?=some S->bP T n (o+l)=some S)(d:l<H.length)(K:0<m):aI h n (o+l*m)=(c H[l])[0]?:=cj Z V k d K
theorem aQ.put2{T:aK}{c:List Value}(B:aQ m T h n o a l c)(j:∀P,a.ownBlock=some P->P≠t):aQ m T (aO h t u b) n o a l c:=⟨B.1.same λ P z=>rg (j P z),B.2⟩
theorem aQ.hset2{T:aK}{c:List Value}(B:aQ m T h n o a l c){s:Obj}(j:∀P,a.ownBlock=some P->P≠t):aQ m T (Proofs.YtgmgmmoofjikiaaGreat.hset h t s) n o a l c:=⟨B.1.same λ P z=>dw (j P z),B.2⟩
@[go_sem] theorem F0{g:Array MapEntry}:aI (h.push (.map g m)) n o=if n=h.size then none else aI h n o:=by
 unfold aI;rw[Array.getElem?_push];by_cases j:n=h.size
 ·simp[j]
 ·simp[j]
theorem bI{g:Array MapEntry}(j:blk h m=some (.map g n)):cJ h m=some (g,n):=by unfold blk at j;unfold cJ;rw[j]
theorem de{s:Obj}(w:m<h.size):blk (Proofs.YtgmgmmoofjikiaaGreat.hset h m s) m=some s:=by unfold blk Proofs.YtgmgmmoofjikiaaGreat.hset;rw[Array.getElem?_setIfInBounds,if_pos rfl,if_pos w]
attribute[go_sem]su
@[go_sem] theorem Xl:((0:Nat):Int)=0:=rfl
@[go_sem] theorem Xk:((1:Nat):Int)=1:=rfl
@[go_sem] theorem Xj:((2:Nat):Int)=2:=rfl
@[go_sem] theorem un:(0:Int).toNat=0:=rfl
@[go_sem] theorem sM:(1:Int).toNat=1:=rfl
attribute[go_sem]Nat.zero_mul
end Go.Proofs.YtgmgmmoofjikiaaGreat
namespace Go.Proofs.YtgmgmmoofjikiaaGreat
open Go.Eng
variable{a b c d e f g i j k p q r s:Value}{m n o l t u v:Nat}{h H:Heap}{R:KV}{α:Type}
def ey(O:Heap)(P:Nat)(H:Array Value):Heap:=O.modify P λ|.cells _ C c=>.cells H C c|X=>X
theorem wO(O:Heap)(P:Nat)(H:Array Value):(ey O P H).size=O.size:=by simp[ey]
theorem dV{t H:Array Value}{c:Nat×Nat}(z:blk h m=some (.cells t n c)):blk (ey h m H) m=some (.cells H n c):=by unfold blk at z⊢;unfold ey;rw[Array.getElem?_modify,if_pos rfl,z];rfl
theorem g6{H:Array Value}(k:n≠m):blk (ey h m H) n=blk h n:=by unfold blk ey;rw[Array.getElem?_modify,if_neg (λ C=>k C.symm)]
theorem aC.setc{G:Nat->Prop}{T A:aK}{O:Heap}(B:aC G T O A H){P:Nat}{J:Array Value}(j:O.size<=P\/G P)(d:A P=none):aC G T O A (ey H P J):=by
 refine⟨by rw[wO];exact B.size,?_,B.dom,B.le,?_⟩
 ·intro t k G;have:=g6 (h:=H) (m:=P) (H:=J) (n:=t) (by rintro rfl;rcases j with j|j;omega;exact G j);exact this.trans (B.same t k G)
 ·intro t q p;have:=g6 (h:=H) (m:=P) (H:=J) (n:=t) (by rintro rfl;rw[d]at p;cases p);exact this.trans (B.sat t q p)
theorem vc{w:Program}(E:World)(h j e i:TypeId)(S s b k:Nat)(B:Addr)(g a:Nat)(X:Array Value)(G:TypeId)(H:List Value)(M:TypeInfo)(O:w.underlying h=some (.slice i))(d:w.info? i=some M)(z:E.heap[S]?=some (.cells X G (0,0)))(Y:H.length=Nat.min g b*M.size)(c:∀D J,H[D]?=some J->E.cell? (B.add D)=some J)(F:s+H.length<=X.size)(y:∀J∈H,J.oneCell'=true):(Builtin.copy_ #[h,j] e #[.slice (some ⟨S,s,none⟩) b k,.slice (some B) g a]).run w E=.ok (goInt (Nat.min g b)) (E.setRow S (X.toList.take s++H++X.toList.drop (s+H.length)).toArray):=by have f:=run_loadCells_list (P:=w) E B H c;have Q:=run_storeCells_at w S s G H 0 X E z (by simpa using F) y;rw[Y]at f;simp[Builtin.copy_,run_underlying O,Builtin.lenOf,Builtin.firstCells,sizeOf,typeInfo,d,f,Q]
theorem JP{L:List Value}(W:eW m=some (o,l,t,L)){G a K f q b j F:Nat}{X:Array Value}{H:List Value}(z:blk h u=some (.cells X j (0,0)))(e:Nat.min q G=F)(Q:H.length=F*l)(c:∀D S,H[D]?=some S->aI h K (f+D)=some S)(s:v+H.length<=X.size)(y:∀S∈H,aG S=true):Ag h (Builtin.copy_ #[m,n] 3 #[.slice (some ⟨u,v,none⟩) G a,.slice (some ⟨K,f,none⟩) q b]) R=R (.int .i64 F) (ey h u (X.toList.take v++H++X.toList.drop (v+H.length)).toArray):=by obtain⟨g,A,O,d,-,rfl,-,-⟩:=eF W;subst e;refine kv λ E M=>?_;have w:=vc (w:=P) E m n 3 o u v G a ⟨K,f,none⟩ q b X j H g O d (by rw[M];exact z) Q (λ D S K=>by rw[fB,gp M];exact c D S K) s (λ S T=>by rw[qw];exact y S T);exact⟨_,w,by rw[<-M];rfl,⟨rfl,rfl⟩⟩
theorem kY{w:Program}{p:Func}{C:Array Value->Sem Value}(V:w.funcs[m]?=some p)(D:(p.name== "runtime.NumGoroutine")=false)(j:p.body.isNone=true)(k:(Extern.findNext p).isNone=true)(G:Extern.find p=some C)(B:Array Value)(E:World):(callFunc m B).run w E=((C B).run w E).andThen λ J Z=>.ok (.value J) Z:=by
 have z:Extern.findNext p=none:=by simpa using k
 have R:¬p.name= "runtime.NumGoroutine":=by simpa using D
 have Q:p.body=none:=by simpa using j
 unfold callFunc;simp[hJ,V,R,Q,z,G,mark,Sem.run]
theorem qM{E:World}(M:E.heap=h){t:Array Value}{c:Nat×Nat}(j:blk h m=some (.cells t n c)):E.shape? m=some (n,t.size):=by unfold World.shape?;unfold blk at j;rw[M,j]
theorem oK{E:World}(M:E.heap=h){t:Array Value}(j:blk h m=some (.cells t n (0,0))):E.frozen? ⟨m,o,none⟩=false:=by rw[lS M];exact aS j o
structure sR(f T:Nat)(fn:Func):Prop where
 a:P.funcs[f]?=some fn
 b:(fn.name== "runtime.NumGoroutine")=false
 c:fn.body.isNone=true
 d:(Extern.findNext fn).isNone=true
 e:Extern.find fn=some (Extern.SlicesOverlaps.overlaps #[T,T] #[4])
theorem nH{X:TypeInfo}{p:Func}(V:sR m n p)(W:P.underlying n=some (.slice o))(d:P.info? o=some X){r g L q G Z:Nat}{a k:Array Value}(Y:blk h l=some (.cells a G (0,0)))(j:blk h t=some (.cells k Z (0,0)))(e:l≠t)(s:k.size≠0):Xg h m #[.slice (some ⟨l,u,none⟩) r g,.slice (some ⟨t,v,none⟩) L q] R=R (.bool false) h:=by
 have w:∀E:World,E.heap=h->(callFunc m #[.slice (some ⟨l,u,none⟩) r g,.slice (some ⟨t,v,none⟩) L q]).run P E=.ok (.value (.bool false)) E:=by intro E M;rw[kY V.a V.b V.c V.d V.e,Lib.run_overlaps_apart E n 4 o W X.size (λ E=>eE d E) ⟨l,u,none⟩ ⟨t,v,none⟩ r g L q e G Z a.size k.size (qM M Y) (qM M j) s (oK M Y) (oK M Y)];rfl
 apply propext;constructor
 ·intro W;obtain⟨J,Z,y,N⟩:=W (eL h) rfl;rw[w _ rfl]at y;injection y with A z;injection A with c;subst c;subst z;exact N.1
 ·intro Y E M;exact⟨_,E,w E M,by rw[M];exact Y,Sm.refl _⟩
theorem Fp:sR 253 251 Tryz.f253:=⟨Tryz.func253,by kernel_rfl,by kernel_rfl,by kernel_rfl,by kernel_rfl⟩
theorem Gn:sR 402 604 Tryz.f402:=⟨Tryz.func402,by kernel_rfl,by kernel_rfl,by kernel_rfl,by kernel_rfl⟩
theorem HI{L:List Value}(W:eW m=some (n,o,l,L))(k:L.length=o)(U:0<o)(g:l<=65535){O:Heap}{a r:Nat}{p:Int}{b:List Value}(w:p=r)(f:b.length=v*o)(C:∀D S,b[D]?=some S->aI O t (u+D)=some S)(q:0<r)(z:a<v+r)(Y:v+r<=2147483648)(Q:∀(L:Nat)(H:Array Value),H.size=L*o->v+r<=L->L<=maxLen->H.toList.take (v*o)=b->R (.slice (some ⟨O.size,0,none⟩) (v+r) L) (O.push (.cells H n (0,0)))):Ag O (Builtin.append_ #[m,3] m #[.slice (some ⟨t,u,none⟩) v a,.int .i64 p]) R:=by
 subst w;obtain⟨M,A,e,d,G,rfl,rfl,B⟩:=eF W;intro E H;have R:∀D S,b[D]?=some S->E.drew.cell? ((⟨t,u,none⟩:Addr).add D)=some S:=by intro D S K;rw[fB,gp (H:=O) (by rw[<-H];rfl)];exact C D S K
 have V:=run_firstCells_some (P:=P) E.drew M.size v ⟨t,u,none⟩ v a b f R;have J:(v+r)*M.bytes<=140737488355328:=Nat.le_trans (Nat.mul_le_mul Y g) (by decide);have c:r*M.bytes<=281474976710656:=Nat.le_trans (Nat.mul_le_mul (show r<=2147483648 by omega) g) (by decide);have w:=Lib.run_append_grow_zeros E m 3 m n M A .i64 .i64 e Tryz.underlying3 d G (some ⟨t,u,none⟩) v a b V r q U z (by omega) c (growslice_fits z J);refine⟨_,_,w,?_,⟨rfl,rfl⟩⟩;have Y:=grownCap_ge E (v+r) a n;have Z:=grownCap_le_maxLen E (v+r) a n (by simp only[maxLen];omega);have x:A.cells.size=M.size:=by rw[<-k,<-B];simp
 have F:∀X,(E.drew.alloc X).heap=E.heap.push X:=λ _=>rfl;rw[F,H];refine Q _ _ ?_ Y Z ?_
 ·simp only[Array.size_append,List.size_toArray,size_zeroCells,x,f];rw[<-Nat.add_mul,<-Nat.add_mul];have t:v+r+(grownCap E (v+r) a n-(v+r))=grownCap E (v+r) a n:=Nat.add_sub_cancel' Y;rw[t]
 ·simp only[Array.toList_append,List.append_assoc];rw[<-f];exact List.take_left
end Go.Proofs.YtgmgmmoofjikiaaGreat
namespace Go.Proofs.YtgmgmmoofjikiaaGreat
open Go.Eng
variable{a b c d e f g i j k p q r s:Value}{m n o l t u v:Nat}{H:Heap}{R:KV}{α:Type}
theorem Ly{B:Int}(O:0<=B/\B<9223372036854775808):IntKind.u64.wrap B=B:=by have C:IntKind.u64.wrap B=if false=true then B%18446744073709551616-18446744073709551616 else B%18446744073709551616:=rfl;rw[C];simp only[Bool.false_eq_true,if_false];omega
section
variable{h:Heap}{K:Value->Prop}
theorem Fc:P.intKind 461=.u64:=by kernel_rfl
theorem PG:P.intKind 3=.i64:=by kernel_rfl
theorem Mc:(P.underlying 461).isSome=true:=by kernel_rfl
theorem W0:(P.underlying 3).isSome=true:=by kernel_rfl
@[go_sem] theorem QI{B:Int}:Cn h 3 461 (.int .i64 B) K=if 0<=B/\B<9223372036854775808 then K (.int .u64 B)else Rg h (convert 3 461 (.int .i64 B)) K:=by
 by_cases k:0<=B/\B<9223372036854775808
 ·rw[if_pos k];refine cV λ E _=>?_;rw[run_convert_int E 3 461 .i64 B W0 (by rw[Fc];exact Tryz.underlying461),Fc,Ly k]
 ·rw[if_neg k];rfl
@[go_sem] theorem SD{B:Int}:Cn h 461 3 (.int .u64 B) K=if 0<=B/\B<9223372036854775808 then K (.int .i64 B)else Rg h (convert 461 3 (.int .u64 B)) K:=by
 by_cases k:0<=B/\B<9223372036854775808
 ·rw[if_pos k];refine cV λ E _=>?_;rw[run_convert_int E 461 3 .u64 B Mc (by rw[PG];exact Tryz.underlying3),PG,io (by omega)]
 ·rw[if_neg k];rfl
@[go_sem] theorem VH{B:Int}:Bi h .shr m (.int .u64 B) (.int .u64 1) K=K (.int .u64 (B/2)):=by refine cV λ E _=>?_;rw[binOp_shr,shift_shr_u64 (yk:=.u64) (x:=B) (y:=1) (by omega) (by omega)];rfl
@[go_sem] theorem Pz{B u:Int}:Mn h (.int .i64 B) (.int .i64 u) K=K (.int .i64 (if u<B then u else B)):=by refine cV λ E _=>?_;rfl
theorem sn(W:P.underlying m=some (.slice n)){B:Option Addr}:Kp h m (.slice B o l) K=K (.int .i64 l):=by refine cV λ E _=>?_;unfold Builtin.cap_;simp[Sem.run_bind,bD W,goInt]
end
section
variable(h:Heap)
def A2(i U:Nat)(B u:Value)(K:KV)(_:Dm K:=⟨⟩):Prop:=Ac P h (Builtin.append_ #[i,U] i #[B,u]) K
def Cy(i U:Nat)(B u:Value)(K:KV)(_:Dm K:=⟨⟩):Prop:=Ac P h (Builtin.copy_ #[i,U] 3 #[B,u]) K
def De(T:Array Nat)(i:Nat)(B:Array Value)(K:KV)(_:Dm K:=⟨⟩):Prop:=Ac P h (Builtin.delete_ T i B) K
def Mz(i:Nat)(B u:Value)(K:KV)(_:Dm K:=⟨⟩):Prop:=Ac P h (Instr.makeSlice i B u) K
def Rn(i:Nat)(B:Value)(K:KV)(_:Dm K:=⟨⟩):Prop:=Ac P h (Instr.range i B) K
def Nx(B:Value)(u:Bool)(i:Nat)(K:KV)(_:Dm K:=⟨⟩):Prop:=Ac P h (Instr.next B u i) K
def Et(B:Value)(K:KV)(_:Dm K:=⟨⟩):Prop:=Ac P h (Instr.entry B) K
end
theorem yE(W:P.underlying m=some (.slice o))(h:P.underlying n=some (.slice l)):A2 H m n a b R=Ap H m a b R:=by
 have w:∀E,(Builtin.append_ #[m,n] m #[a,b]).run P E=(Builtin.append_ #[m,m] m #[a,b]).run P E:=by intro E;unfold Builtin.append_;simp only[List.getElem?_toArray,List.getElem?_cons_zero,List.getElem?_cons_succ,Sem.run_bind,bD W,bD h,Result.andThen_ok];cases a<;>simp only[Sem.run_bind,Sem.run_pure,Result.andThen_ok,bD W,bD h]
 unfold Ap A2 Ac;simp only[w]
theorem ju{d:Nat}{L:List Value}(W:eW m=some (n,o,l,L)){a h f q b j i:Nat}{X:Array Value}{Y:List Value}{T:KV}(z:blk H t=some (.cells X j (0,0)))(e:Nat.min q v=i)(p:Y.length=i*o)(c:∀D S,Y[D]?=some S->aI H h (f+D)=some S)(s:u+Y.length<=X.size)(y:∀S∈Y,aG S=true)(Q:T (.int .i64 i) (ey H t (X.toList.take u++Y++X.toList.drop (u+Y.length)).toArray)):Cy H m d (.slice (some ⟨t,u,none⟩) v a) (.slice (some ⟨h,f,none⟩) q b) T:=by have:=JP (n:=d) (a:=a) (b:=b) (R:=T) W z e p c s y;exact this.mpr Q
theorem BF{L:List Value}(W:eW m=some (n,o,l,L))(k:L.length=o)(U:0<o)(g:l<=65535){a r:Nat}{p:Int}{b:List Value}(P:p=r)(f:b.length=v*o)(C:∀D S,b[D]?=some S->aI H t (u+D)=some S)(q:0<r)(z:a<v+r)(Y:v+r<=2147483648)(Q:∀(h:Nat)(L:Array Value),L.size=h*o->v+r<=h->h<=maxLen->L.toList.take (v*o)=b->R (.slice (some ⟨H.size,0,none⟩) (v+r) h) (H.push (.cells L n (0,0)))):A2 H m 3 (.slice (some ⟨t,u,none⟩) v a) (.int .i64 p) R:=HI W k U g P f C q z Y Q
theorem gw{L:List Value}(W:eW m=some (n,o,l,L))(j:l<=65535){B G:Int}(Y:B=t)(g:G=u)(f:t<=u)(k:u<=2147483648)(Q:∀I:Array Value,I.size=u*o->R (.slice (some ⟨H.size,0,none⟩) t u) (H.push (.cells I n (0,0)))):Mz H m (.int .i64 B) (.int .i64 G) R:=Oh W j Y g f k Q
end Go.Proofs.YtgmgmmoofjikiaaGreat
namespace Go.Proofs.YtgmgmmoofjikiaaGreat
open Go.Eng
abbrev V0:=Heap->Prop
abbrev V1:=Value->V0
abbrev V2:=Value->V1
abbrev V3:=Value->V2
abbrev V4:=Value->V3
abbrev V5:=Value->V4
abbrev N0:=Heap->Nat
abbrev N1:=Value->N0
abbrev N2:=Value->N1
abbrev N3:=Value->N2
abbrev N4:=Value->N3
abbrev N5:=Value->N4
abbrev XB:=List Deferred->V0
abbrev XF:=List Deferred->N0
abbrev Xp:=List Deferred->V1
abbrev Xv:=List Deferred->N1
abbrev Ws:=List Deferred->V2
abbrev XE:=List Deferred->N2
abbrev Z(a:eT):eT:=.seq .leaf a
abbrev Q(a u:eT):eT:=.seq a u
abbrev L:eT:=.leaf
abbrev C(a u:eT):eT:=.cond a u
abbrev B(a:eT):eT:=.block a
abbrev O(H:List Nat)(a:eT):eT:=.loop H a
abbrev U(H:List Nat)(a:eT):eT:=.loopD H a
abbrev Y(H:List Nat)(a u:eT):eT:=.join H a u
abbrev X(H:Array Nat):eT:=.draw H
abbrev bG:=Z L
abbrev iT:=C bG L
abbrev cg:=Z iT
abbrev d8:=C L L
abbrev cF:=Z d8
abbrev Bt:=Z (Z (C (X #[0,1,3,7,0,16,48,112,240,496,0,1024,4080,8176,0,16384,49152,114688,245760,507904,0,1048576,4177920,16368,16777215,33554431]) L))
abbrev cX:=Z bG
abbrev s6:=X #[0,1,3,7,0,16,48,112,255]
abbrev EE:=X #[0,1,3,7,0,16,48,112,255,511]
abbrev tc:=Z (C (Q cg (Q EE L)) cg)
abbrev mA:=Z (Q d8 (Q (B bG) L))
abbrev vT:=X #[0,0,2,6,14,0,32,96,224,0,992,2016,4064,8190,16383,32767,65535]
abbrev IS:=Z (C (X #[0,0,2,6,14,0,32,96,224,0,992,2046,4095,8191,16383]) L)
abbrev nK:=Q cg bG
abbrev wf:=X #[0,1,3,7,0,16,48,112,0,0,1023,2047,4095,4095,0,24575,65535]
abbrev GK:=Z (Z (Z (Q (B (O [9,10] (Q cF (B (Z (Q (X #[0,0,0,6,14,0,63,127]) d8)))))) (Q (X #[0,0,0,6,14,30,30,30,222,478,30,2046,4094,8190,4095,32767]) L))))
abbrev iO:=Z cX
abbrev Qj:=X #[0,0,0,6,15,0,0,96,255]
abbrev II:=Z (Z (Z (Q cg (Z (Q cg (Q (Z (C (Z (Z (Q Qj bG))) L)) (Z (Q (Z (C (Q Qj cX) L)) iO))))))))
abbrev t6:=Q (X #[0,1,3,7,15,0,32,96,224,480,1023]) iT
abbrev Hw:=X #[0,1,3,7,0,16,48,112,240,496,0,1024,4080,8191,16383]
abbrev Hd:=Q (X #[0,0,2,6,14,0,32,96,224,480,992,2046,4095,8191,16383]) Hw
abbrev Qm:=Z (Z (Q (Z (B (O [3] (Z (Q d8 (B (Z (Z (Z (B (O [5] (Q (Q (X #[0,1,3,7,7,31,63,7,7,263,903,1927,4095,8191]) d8) (Q (B (X #[0,0,0,0,8,0,0,64,224,480,0,0,3072,7168,16355,32739,65535,131071])) L))))))))))))) bG))
abbrev wh:=X #[0,1,3,7,0,31,63,127,127,255,1023]
abbrev HX:=X #[0,0,0,4,12,28,0,64,254,511,1023]
abbrev EC:=Z (Z (Q cF (Z (Q cF (Z (Q (Z (C cX L)) (Q cg cX)))))))
abbrev EL:=X #[0,1,3,7,0,0,32,15,143,511,1023,2047,2047,4095,16383]
abbrev mM:=Z cg
abbrev G7:=Z (Q d8 (Q (B mM) L))
abbrev AF:=X #[0,1,3,7,15,31,63,0,128,384,896,2047]
abbrev EA:=X #[0,1,3,7,0,31,63,0,128,384,896,0,3968,8064,16383]
abbrev P0:=X #[0,1,3,7,0,16,48,112,255,511,1023,1023,2047,8191]
abbrev IM:=X #[0,1,3,7,0,31,63,127,0,256,768,1792,0,7936,16128,32512,65535,131071]
abbrev ti:=X #[0,1,3,0,8,24,63,127]
abbrev G1:=X #[0,0,3,7,0,0,48,112,255,511]
abbrev PT:=Z (Q d8 (Q (B (Z (Q G1 iT))) L))
abbrev z6:=Z (C bG cg)
abbrev EF:=Z (C bG z6)
abbrev HF:=X #[0,1,3,7,0,31,63,0,128,384,896,0,3968,8064,16383,32767]
abbrev EZ:=X #[0,0,2,6,14,0,32,126,255,511,1023]
abbrev GZ:=X #[0,1,3,7,0,16,48,112,255,511,1023,1023,0,6143,16383]
abbrev PX:=Z (B (O [] (Z (Q d8 (B (Z (X #[0,0,0,0,12,28,0,124,252,0,0,1536,4092,0,0,24576,65532,131068,262143])))))))
abbrev mP:=X #[0,1,3,7,15,31,63,0,128,384,896,0,2048,8064,16383]
abbrev PU:=Y [8] (Z (C (X #[0,0,0,0,0,16,48,126,255,511]) L)) mP
abbrev PF:=Z (Q (X #[0,1,3,0,8,24,63,127,255,0,512,1536,0,4096,12288,32383,65151,130687,262143,524287,1048575]) L)
abbrev PH:=Y [] (Z (C (X #[0,0,2,6,14,0,32,96,224,0,992,2016,4064,0,16352,32736,65534,131071,262143,524287]) L)) L
abbrev Hb:=Z (Q d8 (Q (B (Z (X #[0,1,0,4,12,31,63,127]))) L))
abbrev PA:=Z (C (X #[0,0,2,6,14,0,62,0,128,384,896,0,2048,6144,14336,0,32768,98304,229376,524287,1048575]) L)
abbrev Ic:=Z (Q (Z (B (O [6] (Q cF (Q (B cg) L))))) bG)
abbrev Hp:=X #[0,0,0,4,12,28,2,66,194,510,1023,2047,4095]
abbrev vY:=X #[0,1,0,7,15,31]
abbrev qX:=Z (C nK cg)
abbrev Fj:=X #[0,1,0,4,0,28,63,127,255]
abbrev wa:=Z (Q mM bG)
abbrev oL:=Z (C nK L)
abbrev PS:=Z (Q d8 (Q (B (Z (Q (X #[0,1,3,7,0,31,0,64,192,448,0,1984,4095,8191]) iT))) L))
abbrev qU:=Y [] cF bG
abbrev Il:=X #[0,0,2,7,15]
abbrev P1:=Q (X #[0,0,2,6,0,30,62,126,126,255,767,1791,4095]) (Z (Q Il L))
abbrev E7:=Q (Z (B (O [10] G7))) bG
abbrev tN:=Z (Q cg cX)
abbrev uw:=Z iO
abbrev pY:=Z uw
abbrev HN:=Z (Z (Q (Z (B (O [3,11] mA))) bG))
abbrev EK:=X #[0,0,2,6,14,31,0,127]
abbrev Ik:=X #[0,1,3,7,0,16,48,127,0,511,1023]
abbrev PN:=Z (C HX (Z (C HX (Z (Q (X #[0,0,0,4,12,28,0,126,255,511]) HX)))))
abbrev Qc:=Z (C (Z (C L (X #[0,0,2,6,14,0,32,96,224,510,1023,2047,4095]))) L)
abbrev Qb:=X #[0,1,3,7,0,31,63,127,0,256,768,1792,0,7936,16128,32512,65535]
abbrev jb:=Z cF
abbrev jd:=Z (C (Y [] (Z (C (X #[0,0,2,6,14,30,63,127,255]) L)) bG) L)
abbrev oW:=Z (Q P0 (Q cF (Q (Z (C (Q s6 bG) L)) (Q cg cX))))
abbrev kW:=Q (X #[0,0,3,7]) L
abbrev nJ:=Q s6 iT
abbrev Jg:=X #[0,0,0,4,12,28,63,127]
abbrev Qk:=X #[0,1,0,4,12,28,60,127,255,511,511,0,3071,8191]
abbrev oY:=Z nK
abbrev E2:=Z (Q cg oY)
abbrev Bn:=Y [] cg bG
abbrev PL:=X #[0,0,2,0,0,16,48,112,0,262,1014,2046,4095]
abbrev PY:=Z (Q (X #[0,1,3,0,15,31,63,63,127,511]) nK)
abbrev P6:=Z (Q (X #[0,0,0,0,0,0,0,126,255,511]) bG)
abbrev AP:=Z (Q cg L)
abbrev PJ:=X #[0,1,3,7,0,16,48,112,15,271,1023,2047]
abbrev Qe:=Z (Q cg (Q (Z (B (O [13] PT))) bG))
abbrev Ew:=Z (Q cg nK)
abbrev Ql:=Z (Z (Q (Z (B (O [3,9] mA))) bG))
abbrev Ep:=Y [] IS bG
abbrev P4:=Z (C (Q (Z (C pY L)) bG) cg)
abbrev P5:=Z (Q (Z (B (O [7] G7))) bG)
abbrev PO:=Z (C bG (Z (Z (C bG mM))))
abbrev PK:=Z (Q P0 (Q cg (Q cg iO)))
abbrev PZ:=B (O [6,7] (Q cF (B jb)))
abbrev PW:=Z (X #[0,0,0,4,14,30,63])
abbrev H3:=Z (C bG EF)
attribute[go_sem]Nat.reduceAdd Nat.reduceMul Nat.reduceLT Nat.reduceEqDiff Int.reduceBEq Int.reduceBNe Int.reduceLT Int.reduceLE Int.reduceNeg Int.reduceSub Int.reduceAdd if_pos if_neg reduceCtorEq Bool.not_true Bool.not_false Bool.and_true Bool.true_and Bool.and_self and_self and_true true_and List.getElem?_toArray List.getElem?_cons_zero List.getElem?_cons_succ List.size_toArray List.length_cons List.length_nil List.append_toArray List.cons_append List.nil_append Nat.mul_one Option.isNone_none Option.isNone_some Option.isSome_none Option.isSome_some hQ jy oM oR eq_self_iff_true false_and and_false decide_true decide_false Bool.false_eq_true Bool.true_eq_false false_implies true_implies
theorem aP{g:Nat->Prop}{T v A:aK}{O U y:Heap}(Z:aN v U)(W:aN v U->aC g T O A y:=by intro Z;repeat'(first|with_reducible exact aC.refl Z|with_reducible refine aC.push ?_ _|with_reducible refine aC.put ?_ (Or.inl ?_) ?_|with_reducible refine aC.setMap ?_ (Or.inl ?_) ?_|(refine aN.fresh Z ?_;(try simp only[aJ,aL,Array.size_push])<;>omega)|omega|(simp only[aJ,aL,Array.size_push]<;>omega))):aC g T O A y:=W Z
theorem bX{g:Nat->Prop}{T v q:aK}{O U y:Heap}{p:Prop}(Z:aN v U)(A:p)(W:aN v U->p->aC g T O q y:=by intro Z A;repeat'(first|with_reducible exact A|with_reducible refine aC.push ?_ _|with_reducible refine aC.put ?_ (Or.inl ?_) ?_|with_reducible refine aC.setMap ?_ (Or.inl ?_) ?_|(refine aN.fresh Z ?_;(try simp only[aJ,aL,Array.size_push])<;>omega)|omega|(simp only[aJ,aL,Array.size_push]<;>omega))):aC g T O q y:=W Z A
theorem dv{g:Nat->Prop}{T v P:aK}{O U y:Heap}{p W:Prop}(Z:aN v U)(A:p)(E:W)(D:aN v U->p->W->aC g T O P y:=by intro Z A E;repeat'(first|with_reducible exact A|with_reducible refine aC.push ?_ _|with_reducible refine aC.put ?_ (Or.inr rfl) E|with_reducible refine aC.put ?_ (Or.inl ?_) ?_|with_reducible refine aC.setMap ?_ (Or.inl ?_) ?_|(refine aN.fresh Z ?_;(try simp only[aJ,aL,Array.size_push])<;>omega)|omega|(simp only[aJ,aL,Array.size_push]<;>omega))):aC g T O P y:=D Z A E
theorem Ow{u c:Nat}{T v:aK}{O U:Heap}{C R L g:Nat}{J e:Value}{G l:Nat}{S p:List Value}(B:aQ c v U R g e l p)(W:aQ c v U R g e l p->aQ u T O C L J G S:=by intro B;repeat'(first|with_reducible exact B|with_reducible refine aQ.push ?_ _|with_reducible refine aQ.put2 ?_ ?_|with_reducible refine aQ.hset2 ?_ ?_|(intro P z;have:=B.1.block z;(try simp only[aJ,aL,Array.size_push]);omega))):aQ u T O C L J G S:=W B
theorem Bk{O:Heap}{u:Nat}{X:Option Obj}(W:blk O u=X:=by simp(disch:=omega)only[cq,bO,dw,dP,aJ,aL,Array.size_push,if_pos,if_neg,↓reduceIte,Nat.reduceEqDiff,Nat.add_eq_left,List.setIfInBounds_toArray,List.set_cons_zero,List.set_cons_succ,eq_self]<;>rfl):blk O u=X:=W
theorem bz{O:Heap}{u:Nat}{X:Option Obj}{p:Prop}(B:p)(W:p->blk O u=X:=by intro B;simp(disch:=omega)only[cq,bO,dw,dP,aJ,aL,Array.size_push,if_pos,if_neg,↓reduceIte,Nat.reduceEqDiff,Nat.add_eq_left,List.setIfInBounds_toArray,List.set_cons_zero,List.set_cons_succ,eq_self,B]<;>rfl):blk O u=X:=W B
theorem Xo{O:Heap}{u:Nat}{X:Option Obj}{p W:Prop}(B:p)(t:W)(j:p->W->blk O u=X:=by intro B t;simp(disch:=omega)only[cq,bO,dw,dP,aJ,aL,Array.size_push,if_pos,if_neg,↓reduceIte,Nat.reduceEqDiff,Nat.add_eq_left,List.setIfInBounds_toArray,List.set_cons_zero,List.set_cons_succ,eq_self,B,t]<;>rfl):blk O u=X:=j B t
def aM(h:Heap)(T:Nat)(v:Value)(k U:Nat)(K:Value->Prop)(_:Dm K:=⟨⟩):Prop:=Nc v<|Fa h T v k λ d=>Ld h U d K
def bC(h:Heap)(T:Nat)(v:Value)(k U:Nat)(x:Value)(K:Heap->Prop)(_:Dm K:=⟨⟩):Prop:=Nc v<|Fa h T v k λ d=>Sr h U d x K
def bg(h:Heap)(T:Nat)(v:Value)(k:Nat)(K:Value->Prop)(_:Dm K:=⟨⟩):Prop:=Nc v<|Fa h T v k K
def aW(v:Value)(K:Value->Value->Prop)(_:Dm K:=⟨⟩):Prop:=Ex v 0 λ a=>Ex v 1 λ u=>K a u
def ce(h:Heap)(T:Nat)(x y:Value)(A B:Prop)(_:Dm A:=⟨⟩)(_:Dm B:=⟨⟩):Prop:=Eb h .eql T false true x y λ v=>Cd v A B
def bx(h:Heap)(T:Nat)(x y:Value)(A B:Prop)(_:Dm A:=⟨⟩)(_:Dm B:=⟨⟩):Prop:=Eb h .neq T false true x y λ v=>Cd v A B
def bv(h:Heap)(o:BinOp)(T:Nat)(x y:Value)(A B:Prop)(_:Dm A:=⟨⟩)(_:Dm B:=⟨⟩):Prop:=Bi h o T x y λ v=>Cd v A B
def cD(h:Heap)(x:Value)(A B:Prop)(_:Dm A:=⟨⟩)(_:Dm B:=⟨⟩):Prop:=Nt h x λ v=>Cd v A B
def aH(h:Heap)(P:Value)(A:KV->Heap->Prop)(K:KV)(_:Dm A:=⟨⟩)(_:Dm K:=⟨⟩):Prop:=Gd h P true A K
def bH(h:Heap)(T:Nat)(x:Value)(K:KV)(_:Dm K:=⟨⟩):Prop:=Al h T λ a P=>Sr P T a x λ k=>K a k
def aX(h:Heap)(T:Nat)(a:Value)(k:Nat)(d:Value)(U:Nat)(e:Value)(X:Prop)(_:Dm X:=⟨⟩):Prop:=eG h T a k d/\bh h U d e/\X
def fY(h:Heap)(T:Nat)(a v:Value)(X:Prop)(_:Dm X:=⟨⟩):Prop:=bh h T a v/\X
section
variable{h:Heap}{T k U:Nat}{v x y d e a:Value}{K:Value->Prop}{M:Heap->Prop}{L:Value->Value->Prop}{A B X:Prop}{o:BinOp}{R:KV}{Q:KV->Heap->Prop}
@[go_sem] theorem XG:aM h T v k U K=Nc v (Fa h T v k λ d=>Ld h U d K):=propext Iff.rfl
@[go_sem] theorem Xs:bC h T v k U x M=Nc v (Fa h T v k λ d=>Sr h U d x M):=propext Iff.rfl
@[go_sem] theorem Xu:bg h T v k K=Nc v (Fa h T v k K):=propext Iff.rfl
@[go_sem] theorem Xr:aW v L=Ex v 0 λ a=>Ex v 1 λ u=>L a u:=propext Iff.rfl
@[go_sem] theorem Xz:ce h T x y A B=Eb h .eql T false true x y λ v=>Cd v A B:=propext Iff.rfl
@[go_sem] theorem Xw:bx h T x y A B=Eb h .neq T false true x y λ v=>Cd v A B:=propext Iff.rfl
@[go_sem] theorem XD:bv h o T x y A B=Bi h o T x y λ v=>Cd v A B:=propext Iff.rfl
@[go_sem] theorem Xn:cD h x A B=Nt h x λ v=>Cd v A B:=propext Iff.rfl
@[go_sem] theorem XC:aH h v Q R=Gd h v true Q R:=propext Iff.rfl
@[go_sem] theorem XA:bH h T x R=Al h T λ a P=>Sr P T a x λ k=>R a k:=propext Iff.rfl
@[go_sem] theorem Xy:aX h T a k d U e X=(eG h T a k d/\bh h U d e/\X):=propext Iff.rfl
@[go_sem] theorem Xq:fY h T a v X=(bh h T a v/\X):=propext Iff.rfl
end
theorem Xx{w p:Prop}(B:w)(W:w=p:=by
 try simp only[aJ,aL,Array.size_push]
 try rfl):p:=W▸B
theorem bJ:(∀{h:Heap}{u o:Nat}{v:Value},(aO h u o v).size=h.size)/\(∀{h:Heap}{W:Nat}{o:Obj},(hset h W o).size=h.size)/\∀{a:Type}{x:Array a}{v:a},(x.push v).size=x.size+1:=⟨aJ ..,aL ..,Array.size_push ..⟩
theorem cW{w p:Prop}(B:w)(W:w->p:=by intro _;omega):p:=W B
theorem uF{w p W:Prop}(B:w)(u:W)(M:w->W->p:=by intro _ _;omega):p:=M B u
theorem Xm{w p W A:Prop}(B:w)(u:W)(t:A)(j:w->W->A->p:=by intro _ _ _;omega):p:=j B u t
theorem bS{w p:Prop}(B:w)(W:w->p:=by intro B;simpa using B):p:=W B
theorem bu{v:Nat}:v<=v:=Nat.le_refl _
theorem c6{a:Type}{B u:a}{H:List a}(O:B∈H):B∈u::H:=List.mem_cons_of_mem _ O
theorem mS{c:Nat}{p:Func}{a:List Value}{z:KV}{O:Heap}{F:Prop}(V:P.funcs[c]?=some p)(d:eT)(C:pJ p d z a O=F:=by kernel_rfl)(W:F):Cf O c a.toArray z:=W6 V d C W
abbrev bF:=ByteArray
abbrev g8:=MapEntry
abbrev bn:=List bF
abbrev bW:=List Value
abbrev cQ:=Array Value
abbrev cK:=List Nat
abbrev fx:=List g8
abbrev fP:=Array g8
abbrev aB(E:Nat):Value:=.pointer (some ⟨E,0,none⟩)
abbrev cY(E o:Nat):Value:=.pointer (some ⟨E,o,none⟩)
abbrev aR(M:Int):Value:=.int .i64 M
abbrev bq(u o v x:Nat):Value:=.slice (some ⟨u,o,none⟩) v x
abbrev aU(u:ByteArray):Value:=.string u
abbrev co(u:Nat):Value:=.iface 346 (aB u)
abbrev bj(x y:Value):Value:=.tuple #[x,y]
def P9:Nat->Nat->List UInt8->List UInt8|0,_,a=>a|c+1,v,a=>P9 c (v/256) (UInt8.ofNat (v%256)::a)
abbrev dO(v:Nat):Value:=.string ⟨(P9 (v.log2/8+1) v []).toArray⟩
abbrev aE(t:Array Value)(G:Nat):Option Obj:=some (.cells t G (0,0))
abbrev aV(t:Array Value)(G:Nat):Obj:=.cells t G (0,0)
abbrev cH(a x:Value):Deferred:={target:=.fn (.method "Free") #[],args:=#[a]++#[x]}
attribute[go_sem]Int.toNat_natCast beq_self_eq_true Nat.reduceBEq
theorem rA{A B:Prop}(K:B)(H:A=B:=by
 try simp(disch:=omega)only[go_sem,↓reduceIte]
 try rfl):A:=H▸K
theorem rB{A B P0:Prop}(p0:P0)(K:B)(H:P0->A=B:=by
 intro p0;try simp(disch:=omega)only[go_sem,↓reduceIte,p0]
 try rfl):A:=(H p0)▸K
theorem rC{A B P0 P1:Prop}(p0:P0)(p1:P1)(K:B)(H:P0->P1->A=B:=by
 intro p0 p1;try simp(disch:=omega)only[go_sem,↓reduceIte,p0,p1]
 try rfl):A:=(H p0 p1)▸K
theorem rD{A B P0 P1 P2:Prop}(p0:P0)(p1:P1)(p2:P2)(K:B)(H:P0->P1->P2->A=B:=by
 intro p0 p1 p2;try simp(disch:=omega)only[go_sem,↓reduceIte,p0,p1,p2]
 try rfl):A:=(H p0 p1 p2)▸K
theorem rE{A B P0 P1 P2 P3:Prop}(p0:P0)(p1:P1)(p2:P2)(p3:P3)(K:B)(H:P0->P1->P2->P3->A=B:=by
 intro p0 p1 p2 p3;try simp(disch:=omega)only[go_sem,↓reduceIte,p0,p1,p2,p3]
 try rfl):A:=(H p0 p1 p2 p3)▸K
theorem rF{A B P0 P1 P2 P3 P4:Prop}(p0:P0)(p1:P1)(p2:P2)(p3:P3)(p4:P4)(K:B)(H:P0->P1->P2->P3->P4->A=B:=by
 intro p0 p1 p2 p3 p4;try simp(disch:=omega)only[go_sem,↓reduceIte,p0,p1,p2,p3,p4]
 try rfl):A:=(H p0 p1 p2 p3 p4)▸K
theorem rG{A B P0 P1 P2 P3 P4 P5:Prop}(p0:P0)(p1:P1)(p2:P2)(p3:P3)(p4:P4)(p5:P5)(K:B)(H:P0->P1->P2->P3->P4->P5->A=B:=by
 intro p0 p1 p2 p3 p4 p5;try simp(disch:=omega)only[go_sem,↓reduceIte,p0,p1,p2,p3,p4,p5]
 try rfl):A:=(H p0 p1 p2 p3 p4 p5)▸K
theorem rH{A B P0 P1 P2 P3 P4 P5 P6:Prop}(p0:P0)(p1:P1)(p2:P2)(p3:P3)(p4:P4)(p5:P5)(p6:P6)(K:B)(H:P0->P1->P2->P3->P4->P5->P6->A=B:=by
 intro p0 p1 p2 p3 p4 p5 p6;try simp(disch:=omega)only[go_sem,↓reduceIte,p0,p1,p2,p3,p4,p5,p6]
 try rfl):A:=(H p0 p1 p2 p3 p4 p5 p6)▸K
theorem rI{A B P0 P1 P2 P3 P4 P5 P6 P7:Prop}(p0:P0)(p1:P1)(p2:P2)(p3:P3)(p4:P4)(p5:P5)(p6:P6)(p7:P7)(K:B)(H:P0->P1->P2->P3->P4->P5->P6->P7->A=B:=by
 intro p0 p1 p2 p3 p4 p5 p6 p7;try simp(disch:=omega)only[go_sem,↓reduceIte,p0,p1,p2,p3,p4,p5,p6,p7]
 try rfl):A:=(H p0 p1 p2 p3 p4 p5 p6 p7)▸K
theorem _root_.Eq.c{h:Heap}{b T:Nat}{c:Array Value}{p:Nat×Nat}(H:blk h b=some (.cells c T p)):∀o,aI h b o=c[o]?:=aA H
theorem _root_.Eq.f{h:Heap}{b T:Nat}{c:Array Value}(H:blk h b=some (.cells c T (0,0))):∀o,gH h b o=false:=aS H
theorem _root_.Eq.b{h:Heap}{b T:Nat}{c:Array Value}(H:blk h b=some (.cells c T (0,0))):(∀o,aI h b o=c[o]?)/\∀o,gH h b o=false:=⟨aA H,aS H⟩
variable{G:Prop}
theorem zaa(H:G:=by omega):G:=H
theorem zab(H:G:=by simp):G:=H
theorem zac(H:G:=by simp[dy,cS,di,bZ,cn,cT,cB,dC,dB,cZ,dp]):G:=H
theorem zad(H:G:=by simp(disch:=omega)only[cq,bO,dw,dP,aJ,aL,Array.size_push,if_pos,if_neg,↓reduceIte,Nat.reduceEqDiff,Nat.add_eq_left,List.setIfInBounds_toArray,List.set_cons_zero,List.set_cons_succ,eq_self,x,H,J]):G:=H
theorem zae(H:G:=by
  rintro _ T⟨⟨p,rfl⟩,X⟩;have O:=X.st;have C:=O.size;have b:=aF X.b4;have x:=O.sat;cases p
  ·refine rB (x _ _ j).c ?_;refine fQ x l λ B P=>?_;have d:=X.pur P;have e:=d.st;have f:=aF d.b4;have U:=e.sat;cases dz 241 G
   ·refine rB (U _ _ j).c ?_;refine gK U l λ N Y=>?_;have w:=d.pur Y;have g:=w.st;have i:=aF w.b4;cases dz 242 G
    ·refine rA ?_;exact w
    ·refine rC w.b3.b w.b4.b ?_;first|exact w|exact L _ (bX Z g)
   ·refine rC d.b3.b d.b4.b ?_;first|exact d|exact L _ (bX Z e)
  ·refine rC X.b3.b X.b4.b ?_;first|exact X|exact L _ (bX Z O)):G:=H
theorem zaf(H:G:=by
  refine rB (Z _ _ j).c ?_;refine e8 s.st.sat l λ B P=>?_;have d:=s.pur P;have U:=d.st.sat;cases dz 31 G
  ·refine rB (U _ _ j).c ?_;refine f4 U l λ N Y=>?_;have w:=d.pur Y;have Q:=w.st.sat;cases dz 2 G
   ·refine rB (Q _ _ j).c ?_;refine ew Q l λ V H=>?_;have k:=w.pur H;have m:=k.st.sat;cases dz 9 G
    ·refine rB (m _ _ j).c ?_;refine ig m l λ S v=>?_;exact⟨⟨_,rfl⟩,k.pur v⟩
    ·refine rA ?_;exact⟨⟨_,rfl⟩,k⟩
   ·refine rA ?_;exact⟨⟨_,rfl⟩,w⟩
  ·refine rA ?_;exact⟨⟨_,rfl⟩,d⟩):G:=H
theorem zag(H:G:=by kernel_rfl):G:=H
theorem zah(H:G:=by
  intro k Y;simp only[aY,List.mem_cons,List.mem_append]at Y;rcases Y with rfl|Y|Y|Y
  ·exact E.1
  ·exact E.2.1 k Y
  ·exact(S.po.lt Y).2
  ·exact E.2.2 k Y):G:=H
theorem zai(H:G:=by simpa using this):G:=H
theorem zaj(H:G:=by have i:=r.sat;refine rB (i _ _ c).V ?_;refine k j K r _ λ x z w t q F Y=>?_;have O:=q.sat;have u:=r.trans q;refine rC (O _ _ F).V (O _ _ (q.le _ _ c)).V ?_;have E:aD I h w (t.push (aV #[X,z] 279)):=bX Z u;obtain⟨f,i⟩:=E.one (b:=t.size) (cW u.size);exact L t.size X z _ _ f (aK.one_eq (by rw[cq,if_pos rfl])) ((D.mono q.le).mono i) (Y.mono i)):G:=H
theorem zak(H:G:=by
  skip;have q:=J.bk' Y;have g:=aF jd;have b:=aF q;refine rD q.c jd.c v ?_;refine⟨?_,?_⟩
  ·refine k0 e Y E λ P X=>?_;have o:=X.sat;have O:=X.blk jd id;have C:=aF O;have K:=X.blk q id;have f:=aF K;refine rG K.c O.c v p z L ?_;exact⟨P.size,rfl,(J.step X).step (aP o),fR.mk' Y ((J.step X).step (aP o)).st Bk⟩
  ·refine rD q.c jd.c v ?_;refine k0 (show aD I W I _ from aP e).sat Y E λ P X=>?_;have t:aD I W I P:=aC.trans (aP e) X;have o:=X.sat;have G:blk P W.size=aE #[nilp,nilp,nilp] 92:=X.blk Bk id;have C:=aF G;have R:=t.size;refine rE G.b p z L ?_;exact⟨W.size,rfl,J.step (bX e t),fR.mk' Y (J.step (show aD I W I _ from bX e t)).st (bz G)⟩):G:=H
theorem zal(H:G:=by obtain⟨⟨x,e,f⟩,s,X,d,R⟩:=S.sp.each E G;have i:=v.2.2.2.2.2.2 E G;refine⟨⟨x,J.blk (U.blk e λ F=>F.elim i.1 R) (λ C=>d C.symm),f⟩,s,X,d,λ F=>(O.2.2.2.2.2.2 E G).2.2.2.1 (mem_bl.2 F)⟩):G:=H
theorem zam(H:G:=by simp only[aY,List.mem_cons,List.mem_append];exact .inr (.inr (List.mem_append.1 Y))):G:=H
theorem zan(H:G:=by simp only[List.mem_cons,List.not_mem_nil,or_false]at Y;rcases Y with rfl|rfl|rfl<;>omega):G:=H
theorem zao(H:G:=by simp only[List.mem_cons,List.not_mem_nil,or_false]at O;rcases O with rfl|rfl|rfl|rfl|rfl|rfl<;>rfl):G:=H
theorem zap(H:G:=by simp[Value.ownBlock]):G:=H
theorem zaq(H:G:=by rw[cq,if_pos rfl]):G:=H
theorem zar(H:G:=by refine gP (show aD I h I _ from aP Z).sat Y j λ K r=>rA ?_;exact L _ (aC.trans (aP Z) r)):G:=H
theorem zas(H:G:=by
  intro E G;rcases List.mem_append.1 G with G|G
  ·obtain⟨⟨x,e,W⟩,q,X,d,R⟩:=S.sp.each E G;have f:=v.2.2.2.2.2.2 E G;refine⟨⟨x,J.blk (U.blk e λ F=>F.elim f.1 R) (λ C=>d C.symm),W⟩,q,X,d,λ F=>(L.2.2.2.2.2.2 E G).2.2.2.1 (mem_bl.2 F)⟩
  ·rw[List.mem_singleton.1 G];exact⟨⟨H,J.blk p (λ C=>v.2.2.1 C.symm),a0⟩,S.w3b,S.w3I,v.2.2.1,λ F=>L.2.2.2.1.2.1 (mem_bl.2 F)⟩):G:=H
theorem zat(H:G:=by
  obtain⟨q,Y⟩:=nh c λ a1 O=>by obtain⟨C,-,rfl⟩:=List.mem_map.1 ((e.mem_iff).1 O);exact⟨_,rfl⟩
  subst Y;refine⟨q,rfl,?_⟩;have K:(q.map Value.string).Perm ((g.toList.map aZ).map Value.string):=by rw[List.map_map];exact e.trans (D.map _)
  have t:=K.map (λ S=>match S with|.string A=>A|_=>default);simpa[List.map_map,Function.comp_def]using t):G:=H
theorem zau(H:G:=by repeat'(first|with_reducible exact E|with_reducible refine aC.put ?_ (Or.inl ?_) ?_|exact u|omega)):G:=H
theorem zav(H:G:=by obtain⟨u,C,rfl,-⟩:=p;rfl):G:=H
theorem zaw(H:G:=by
  constructor
  ·rintro(⟨G,y,N,K⟩|⟨y,N⟩)
   ·exact⟨G,List.mem_append.2 (.inl y),N,K⟩
   ·exact⟨str,List.mem_append.2 (.inr (List.mem_singleton.2 rfl)),N,y⟩
  ·rintro⟨G,y,N,K⟩;rcases List.mem_append.1 y with y|y
   ·exact .inl ⟨G,y,N,K⟩
   ·rw[List.mem_singleton.1 y]at N K;exact .inr ⟨K,N⟩):G:=H
theorem zax(H:G:=by try simp(disch:=omega)only[go_sem,↓reduceIte,aA b0]):G:=H
theorem zay(H:G:=by
  try simp(disch:=omega)only[go_sem,↓reduceIte,cI d5]
  exact cG (T:=λ R=>Dg R _ λ q=>T n0 q) (cG t)):G:=H
theorem zaz(H:G:=by simp only[Value.agg.injEq,Array.mk.injEq,List.cons.injEq,and_true,true_and]at C;exact⟨C.1▸g,C.2▸l⟩):G:=H
theorem zaA(H:G:=by
  rintro P z(G|G)
  ·exact v.2.2.2.1.2.1 (G▸mem_bl.2 z)
  ·exact v.2.2.2.2.2.1 P (mem_bl.2 z) (mem_bl.2 G)):G:=H
theorem zaB(H:G:=by have o:=X.sat;have O:=X.blk M id;have C:=aF O;refine rE O.c p z L ?_;exact⟨P.size,rfl,fR.mk' Y (X.trans (show aD I P I _ from aP o)) Bk⟩):G:=H
theorem zaC(H:G:=by exact L _ (aP Z)):G:=H
theorem zaD(H:G:=by exact .inl (c6 (eZ (mem_bl.2 (Q▸mem_bl.1 Y))))):G:=H
theorem zaE(H:G:=by decide):G:=H
theorem zaF(H:G:=by have t:aD I n I P:=aC.trans (aP l) X;have o:=X.sat;have G:blk P n.size=aE #[nilp,nilp,nilp] 92:=X.blk Bk id;have C:=aF G;have R:=t.size;refine rE G.b p z L ?_;exact⟨n.size,rfl,V.step (bX l t),fR.mk' Y (V.step (show aD I n I _ from bX l t)).st (bz G)⟩):G:=H
theorem zaG(H:G:=by
  refine nS x Y λ T K=>q T (S.st.trans K) _ (U _ λ N F=>?_);try simp(disch:=omega)only[go_sem,↓reduceIte,cI d5]
  first|exact F|exact F.2):G:=H
theorem zaH(H:G:=by simp[fy]):G:=H
theorem zaI(H:G:=by have:=B.sp;rw[G]at this;exact this):G:=H
theorem zaJ(H:G:=by have:=B.nd;rw[G]at this;exact this):G:=H
theorem zaK(H:G:=by
  rcases List.mem_append.1 Y with Y|Y
  ·exact G R Y
  ·rw[List.mem_singleton.1 Y];exact x):G:=H
theorem zaL(H:G:=by rw[List.mem_singleton.1 p]at C;exact C):G:=H
theorem zaM(H:G:=by cases l;all_goals refine rA ?_;exact L _ (aP Z)):G:=H
theorem zaN(H:G:=by obtain⟨u,C,o,-,-,-,Y⟩:=s;exact Y):G:=H
theorem zaO(H:G:=by have y:s.Nodup:=eY b;have N:g.toList.Nodup:=eY J.born;refine(List.perm_ext_iff_of_nodup y N).2 λ C=>⟨G C,λ x=>?_⟩;obtain⟨f,H,p⟩:=List.mem_map.1 (o C x);exact(uy J.born (G f H) x p)▸H):G:=H
theorem zaP(H:G:=by show blk _ _=_;exact Bk):G:=H
theorem zaQ(H:G:=by refine i.vv.elim λ r W=>W.elim λ p W=>?_;have v:=W.1;have O:=W.2.1;have S:=W.2.2;refine rE J.b v O S ?_;subst v;refine L _ V _ ?_ i;repeat'(first|with_reducible exact n|with_reducible refine aC.put ?_ (Or.inl ?_) ?_|exact u|omega)):G:=H
theorem zaR(H:G:=by rw[B];exact Bk):G:=H
theorem zaS(H:G:=by
  intro M d;rw[<-h.1,aA i,<-Array.getElem?_toList];have:(b.toList.take ((s.length+1)*1))[M]?=some (aU q[M]):=by rw[R,m];simp[d]
  rw[List.getElem?_take]at this;split at this
  ·exact this
  ·cases this):G:=H
theorem zaT(H:G:=by
  refine(a5.step U ?_).step J ?_
  ·rintro g' B(C|C)
   ·exact v.2.2.2.2.1.1 (a4▸mem_bl.2 (C▸B))
   ·exact v.2.2.2.2.2.1 g' (mem_bl.2 C) (a4▸mem_bl.2 B)
  ·intro g' B C;exact v.2.2.2.2.1.2.2 (a4▸mem_bl.2 (C▸B))):G:=H
theorem zaU(H:G:=by
  refine(a3.step U ?_).step J ?_
  ·rintro g' B(C|C)
   ·exact v.2.2.2.2.1.1 (a2▸mem_bl.2 (C▸B))
   ·exact v.2.2.2.2.2.1 g' (mem_bl.2 C) (a2▸mem_bl.2 B)
  ·intro g' B C;exact v.2.2.2.2.1.2.2 (a2▸mem_bl.2 (C▸B))):G:=H
theorem zaV(H:G:=by
  refine(a2.step U ?_).step J ?_
  ·rintro g' B(C|C)
   ·exact v.2.2.2.2.1.1 (a1▸mem_bl.2 (C▸B))
   ·exact v.2.2.2.2.2.1 g' (mem_bl.2 C) (a1▸mem_bl.2 B)
  ·intro g' B C;exact v.2.2.2.2.1.2.2 (a1▸mem_bl.2 (C▸B))):G:=H
theorem zaW(H:G:=by obtain⟨C,-,rfl⟩:=List.mem_map.1 ((e.mem_iff).1 O);exact⟨_,rfl⟩):G:=H
theorem zaX(H:G:=by repeat'(first|with_reducible exact E|with_reducible refine aC.put ?_ (Or.inl ?_) ?_|exact k|omega)):G:=H
theorem zaY(H:G:=by have t:aD I h I P:=aC.trans (aP a3) X;have o:=X.sat;have G:blk P h.size=aE #[nilp,nilp,nilp] 92:=X.blk Bk id;have C:=aF G;refine rE G.b p z L ?_;exact⟨h.size,rfl,fR.mk' Y (bX a3 t) (bz G)⟩):G:=H
theorem zaZ(H:G:=by have o:=X.sat;have O:=X.blk mP id;have C:=aF O;have K:=X.blk q id;have f:=aF K;refine rG K.c O.c v p z L ?_;exact⟨P.size,rfl,(V.step X).step (aP o),fR.mk' Y ((V.step X).step (aP o)).st Bk⟩):G:=H
theorem za0(H:G:=by exact L _ (aC.trans (aP Z) r)):G:=H
theorem za1(H:G:=by exact .inl (c6 (by rw[Y];exact eu))):G:=H
theorem za2(H:G:=by
  rintro(G|G)
  ·exact v.2.2.1 G.symm
  ·exact v.2.2.2.2.1.2.2 (mem_bl.2 G)):G:=H
theorem za3(H:G:=by rintro K⟨n,J,E⟩;have q:=n.size;have z:=aF E;refine rC J.b E.b ?_;refine L _ ?_;exact bX Z n):G:=H
theorem za4(H:G:=by obtain⟨A,_,rfl⟩:=List.mem_map.1 O;rfl):G:=H
theorem za5(H:G:=by
  intro k Y;have F:=B.sp.lts;simp only[aY,List.mem_cons,List.mem_append]at Y;rcases Y with rfl|Y|Y|Y
  ·exact F.1
  ·exact F.2.1 k Y
  ·exact(B.po.lt Y).2
  ·exact F.2.2 k Y):G:=H
theorem za6(H:G:=by obtain⟨u,C,rfl,-⟩:=p;exact⟨_,rfl⟩):G:=H
theorem za7(H:G:=by unfold aK.add;rw[if_pos (decide_eq_true Y)];exact j):G:=H
theorem za8(H:G:=by simp;exact λ R Y j=>a0 (List.mem_map.2 ⟨R,Y,j⟩)):G:=H
theorem za9(H:G:=by have v:=f 0 _ rfl;have w:=f 1 _ rfl;have F:=f 2 _ rfl;have t:=i 0 _ rfl;have V:=i 1 _ rfl;have X:=i 2 _ rfl;rw[Nat.add_zero]at v t;refine Db (rG v w F t V X ?_);exact Y _ L):G:=H
theorem zba(H:G:=by
  refine rH kW.c Z.c a.c f O D B ?_;refine nS X Y λ T K=>q T (S.st.trans K) _ λ N F=>?_;try simp(disch:=omega)only[go_sem,↓reduceIte,cI d5]
  first|exact F|exact⟨rfl,F⟩):G:=H
theorem zbb(H:G:=by simp only[kC,iH,and_true]):G:=H
theorem zbc(H:G:=by obtain⟨u,C,o,rfl,-⟩:=s;rfl):G:=H
theorem zbd(H:G:=by rw[G.1]at hw;exact hw):G:=H
theorem zbe(H:G:=by
  intro k Y;simp only[aY,List.mem_cons,List.mem_append]at Y;rcases Y with rfl|rfl|Y|Y|Y
  ·exact aF B.bw
  ·exact a7.1
  ·exact a7.2.1 k Y
  ·exact(B.po.lt Y).2
  ·cases Y):G:=H
theorem zbf(H:G:=by
  try simp(disch:=omega)only[go_sem,↓reduceIte,g4 Tryz.underlying586 (bI (Z _ _ w))]
  exact L):G:=H
theorem zbg(H:G:=by simp[cn]):G:=H
theorem zbh(H:G:=by have G:[S].length*1=1*1:=rfl;rw[G]at N;rw[N];rfl):G:=H
theorem zbi(H:G:=by intro S O;simp only[List.mem_cons,List.not_mem_nil,or_false]at O;rcases O with rfl|rfl|rfl|rfl|rfl|rfl|rfl|rfl|rfl<;>first|exact K|exact g|rfl):G:=H
theorem zbj(H:G:=by
  rintro(G|G)
  ·exact X G
  ·exact v.2.2.2.2.1.1 (mem_bl.2 G)):G:=H
theorem zbk(H:G:=by
  try simp(disch:=omega)only[go_sem,↓reduceIte,cI d5]
  exact⟨e,Y,F,G,T,Z,a,p,M,y⟩):G:=H
theorem zbl(H:G:=by have S:(if d:M<g.length then decide (bQ g[M].1 G=0)else false)=false:=bS V;refine rB S ?_;exact O N C λ J p=>V (Y.2 (List.mem_map.2 ⟨_,p,rfl⟩))):G:=H
theorem zbm(H:G:=by unfold Go.Value.bl;cases b.ownBlock<;>simp):G:=H
theorem zbn(H:G:=by repeat'(first|with_reducible exact j|with_reducible refine aC.push ?_ _|with_reducible refine aC.put ?_ (Or.inl ?_) ?_|exact u|exact b|omega)):G:=H
theorem zbo(H:G:=by
  rcases F with F|F
  ·exact F
  ·simpa[aY,Value.ownBlock]using F):G:=H
theorem zbp(H:G:=by have:=b.1.symm.trans i;simp only[Option.some.injEq,Obj.cells.injEq,and_true]at this;have N:=b.2.2;rw[this]at N;simpa using N):G:=H
theorem zbq(H:G:=by rw[y];congr 2;exact Array.toList_inj.1 k):G:=H
theorem zbr(H:G:=by
  by_cases Q:M<g.length
  ·exact Q
  ·rw[dif_neg Q]at V;cases V):G:=H
theorem zbs(H:G:=by
  have:(if m=(0:Int).toNat then(none:Option Addr)else(none:Option Addr).map (·.add ((0:Int).toNat*5)))=none:=by split<;>rfl
  rw[this];rfl):G:=H
theorem zbt(H:G:=by simp[dy,cS,di,bZ,cn,cT,cB,dC,dB,cZ,dp,s]):G:=H
theorem zbu(H:G:=by simp[dy,cS,di,bZ,cn,cT,cB,dC,dB,cZ,dp,i]):G:=H
theorem zbv(H:G:=by simp[dy,cS,di,bZ,cn,cT,cB,dC,dB,cZ,dp,e]):G:=H
theorem zbw(H:G:=by simp[dy,cS,di,bZ,cn,cT,cB,dC,dB,cZ,dp,a]):G:=H
theorem zbx(H:G:=by rw[List.take_take];rfl):G:=H
theorem zby(H:G:=by rw[List.mem_singleton.1 G];exact⟨⟨H,J.blk p (λ C=>v.2.2.1 C.symm),a2⟩,S.w3b,S.w3I,v.2.2.1,λ F=>O.2.2.2.1.2.1 (mem_bl.2 F)⟩):G:=H
theorem zbz(H:G:=by rw[List.mem_singleton.1 G];exact⟨⟨H,J.blk p (λ C=>v.2.2.1 C.symm),a0⟩,S.w3b,S.w3I,v.2.2.1,λ F=>O.2.2.2.1.2.1 (mem_bl.2 F)⟩):G:=H
theorem zbA(H:G:=by rw[dif_pos L]at V;exact cmpE_eq0.1 (of_decide_eq_true V)):G:=H
theorem zbB(H:G:=by
  intro D S O;rw[aA B,<-Array.getElem?_toList];rw[<-p,List.getElem?_take]at O;split at O
  ·exact O
  ·cases O):G:=H
theorem zbC(H:G:=by exact aQ.put2 (aQ.put2 (aQ.put2 (m.push _) λ P z=>cW (m.1.block z)) λ P z=>cW (m.1.block z)) λ P z=>cW (m.1.block z)):G:=H
theorem zbD(H:G:=by(try simp only[bJ])):G:=H
theorem zbE(H:G:=by exact .inl (eU (mem_bl.2 (Q▸mem_bl.1 Y)))):G:=H
theorem zbF(H:G:=by unfold aK.own aK.add;rw[if_pos (decide_eq_true z)]):G:=H
theorem zbG(H:G:=by rw[Bool.eq_false_iff];intro F;have:=List.all_eq_true.1 F i (List.mem_range.2 o);rw[c,N]at this;cases this):G:=H
theorem zbH(H:G:=by rw[List.mem_singleton.1 G];refine⟨⟨y,?_,q⟩,c,V,P,λ F=>(e _ F).2 rfl⟩;rw[bO,if_neg (λ C=>P C.symm)];exact D):G:=H
theorem zbI(H:G:=by have W:=C.sat;have g:=C.size;have e:=aF H;refine rE (W _ _ j).c H.b (f W) @Nat.add_zero ?_;refine L _ ?_;exact bX Z C):G:=H
theorem zbJ(H:G:=by exact .inl (c6 (gx Y))):G:=H
theorem zbK(H:G:=by exact .inl (c6 (eU Y))):G:=H
theorem zbL(H:G:=by simp[o]):G:=H
theorem zbM(H:G:=by match x,p with|[G,M,t,f],_=>exact⟨G,M,t,f,rfl⟩):G:=H
theorem zbN(H:G:=by match w,O with|[G,M,t,f],_=>exact⟨G,M,t,f,rfl⟩):G:=H
theorem zbO(H:G:=by have h:decide ((D:Int)<(E.length:Int))=false:=bS l;refine rB h ?_;have:=L D N d K z P;rw[dif_neg l]at this;exact this):G:=H
theorem zbP(H:G:=by
  rw[x]at d C l J c Y H K k z A p;try simp(disch:=omega)only[go_sem,↓reduceIte,d,C,l,J,c,Y,H,K,k,z,A]
  exact p _ (bX b j) (Ow W)):G:=H
theorem zbQ(H:G:=by refine(p _ B).elim λ w ep=>?_;have b:J=.iface 362 w:=ep;subst b;refine rA ?_;exact F _ U (aC.trans (aP Z) G) B):G:=H
theorem zbR(H:G:=by
  rcases List.mem_cons.1 K with rfl|K
  ·exact absurd y eg
  ·exact absurd (gb y (j.head _ K)) eg):G:=H
theorem zbS(H:G:=by
  rcases List.mem_cons.1 K with rfl|K
  ·exact absurd N eg
  ·exact absurd (gb N (Y.head _ K)) eg):G:=H
theorem zbT(H:G:=by obtain⟨X,h,rfl⟩:=List.exists_cons_of_ne_nil f;have:=(H.1 (.val X)).2 ⟨X,by simp[fZ],rfl⟩;cases this):G:=H
theorem zbU(H:G:=by match x,O with|[f,o,g,e,z,a,C,I,K,d,E,P,i,s],_=>exact⟨f,o,g,e,z,a,C,I,K,d,E,P,i,s,rfl⟩):G:=H
theorem zbV(H:G:=by exact L _ (((s.trans P).trans r).trans q)):G:=H
theorem zbW(H:G:=by obtain⟨u,C,rfl,-⟩:=j;rfl):G:=H
theorem zbX(H:G:=by exact this):G:=H
theorem zbY(H:G:=by refine e7 Z rfl λ y g=>?_;have x:=g.blk M id;have o:=g.size;refine rB x.b ?_;exact n y g):G:=H
theorem zbZ(H:G:=by rw[List.range_succ,List.all_append,l];simp only[List.all_cons,List.all_nil,c,N];rfl):G:=H
theorem zb0(H:G:=by refine⟨λ a y=>a=i0/\y=h,λ _ _=>0,⟨rfl,rfl⟩,?_⟩;rintro _ _⟨rfl,rfl⟩;refine rA ?_;exact L):G:=H
theorem zb1(H:G:=by repeat'(first|with_reducible exact g|with_reducible refine aC.put ?_ (Or.inl ?_) ?_|exact C|omega)):G:=H
theorem zb2(H:G:=by repeat'(first|with_reducible exact F|with_reducible refine aC.put ?_ (Or.inl ?_) ?_|exact a|omega)):G:=H
theorem zb3(H:G:=by repeat'(first|with_reducible exact C|with_reducible refine aC.put ?_ (Or.inl ?_) ?_|exact u|omega)):G:=H
theorem zb4(H:G:=by repeat'(first|with_reducible exact C|with_reducible refine aC.put ?_ (Or.inl ?_) ?_|exact G|omega)):G:=H
theorem zb5(H:G:=by obtain⟨c,X,q,y,N,K,t⟩:=X;exact⟨c,X,q,y.mono O,N.mono O,K.mono O,t.mono O⟩):G:=H
theorem zb6(H:G:=by cases y:s.ownBlock with|none=>rw[y]at Y;cases Y|some q=>rw[y]at Y;simp at Y;rw[Y]):G:=H
theorem zb7(H:G:=by obtain⟨q,rfl,-⟩:=l;rfl):G:=H
theorem zb8(H:G:=by rw[u];rfl):G:=H
theorem zb9(H:G:=by repeat'(first|with_reducible exact aC.refl i|with_reducible refine aC.put ?_ (Or.inr rfl) G)):G:=H
theorem zca(H:G:=by
  have:k=E:=by simpa[aY,Value.ownBlock]using Q
  exact absurd Y (this▸(List.nodup_cons.1 W.nd).1)):G:=H
theorem zcb(H:G:=by simp[Value.ownBlock]at z):G:=H
theorem zcc(H:G:=by
  intro D S O;rw[List.getElem?_take]at O;split at O
  ·rw[Nat.zero_add];exact P D S O
  ·cases O):G:=H
theorem zcd(H:G:=by cases r<;>rfl):G:=H
theorem zce(H:G:=by rw[Array.size_setIfInBounds];exact s):G:=H
theorem zcf(H:G:=by obtain⟨g,f,i,d⟩:=B;exact⟨g,f,i.mono O,λ M y N=>(d M y N).mono O⟩):G:=H
theorem zcg(H:G:=by
  try simp(disch:=omega)only[go_sem,↓reduceIte,g4 Tryz.underlying586 (bI (Z _ _ w.1))]
  exact L):G:=H
theorem zch(H:G:=by simp[Y]):G:=H
theorem zci(H:G:=by rw[a6];repeat'(first|with_reducible exact J|with_reducible refine aQ.put ?_ ?_|omega)):G:=H
theorem zcj(H:G:=by rw[U];rfl):G:=H
theorem zck(H:G:=by simp[Lib.compareBytes]):G:=H
theorem zcl(H:G:=by obtain⟨W,C,y,z,rfl,-⟩:=r;rfl):G:=H
theorem zcm(H:G:=by rw[List.length_drop]):G:=H
theorem zcn(H:G:=by intro D S O;rw[List.getElem?_drop]at O;rw[aA q,<-aA B];exact P _ S O):G:=H
theorem zco(H:G:=by exact .inr (eU (mem_bl.2 F))):G:=H
theorem zcp(H:G:=by exact .inl F):G:=H
theorem zcq(H:G:=by
  intro S O;rcases List.mem_append.1 O with O|O
  ·exact B.ones S O
  ·exact y S O):G:=H
theorem zcr(H:G:=by rw[aA u,Nat.zero_add,<-Array.getElem?_toList];exact O):G:=H
theorem zcs(H:G:=by rw[aA f,Nat.zero_add,<-Array.getElem?_toList];exact O):G:=H
theorem zct(H:G:=by rw[aA H,Nat.zero_add,<-Array.getElem?_toList];exact O):G:=H
theorem zcu(H:G:=by rw[G]at bk;exact bk):G:=H
theorem zcv(H:G:=by rw[show ev C (.tmp 1)=some (aB m)from z]):G:=H
theorem zcw(H:G:=by obtain⟨⟨a9,d,e⟩,-⟩:=W;exact⟨a9,L.blk d (λ G=>J.2.2.1 G.symm),e⟩):G:=H
theorem zcx(H:G:=by rw[List.length_append,k,f,<-Nat.add_mul]):G:=H
theorem zcy(H:G:=by
  rintro(O|O|O)
  ·exact .inr (.inl O)
  ·exact .inl O
  ·exact .inr (.inr O)):G:=H
theorem zcz(H:G:=by refine rA ?_;exact L _ E):G:=H
theorem zcA(H:G:=by obtain⟨A,y,N,K⟩:=B.1 q p;exact⟨A,y,N,K.mono O⟩):G:=H
theorem zcB(H:G:=by exact .inl Q):G:=H
theorem zcC(H:G:=by rw[Nat.add_assoc,Nat.add_comm 1 i];exact k (i+1) S O):G:=H
theorem zcD(H:G:=by match w,e.1 with|[a,b,t,f],_=>exact⟨a,b,t,f,rfl⟩):G:=H
theorem zcE(H:G:=by intro a1 O;obtain⟨A,-,rfl⟩:=List.mem_map.1 O;rfl):G:=H
theorem zcF(H:G:=by unfold aK.fp aK.add;rw[if_pos (decide_eq_true Y)]):G:=H
theorem zcG(H:G:=by obtain⟨u,C,rfl,j⟩:=B;exact⟨u,C,rfl,O _ _ j⟩):G:=H
theorem zcH(H:G:=by match x,D with|[a,b,t,f],_=>exact⟨a,b,t,f,rfl⟩):G:=H
theorem zcI(H:G:=by intro r Y;rw[<-p,List.take_take,Nat.min_eq_left Y]):G:=H
theorem zcJ(H:G:=by obtain⟨g,y,rfl,K⟩:=w.lists;exact⟨g,y,s,K⟩):G:=H
theorem zcK(H:G:=by obtain⟨u,C,y,N⟩:=X;exact⟨u,C,y,O _ _ N⟩):G:=H
theorem zcL(H:G:=by unfold d7;rw[d,List.filter_append];simp[B]):G:=H
theorem zcM(H:G:=by
  try simp(disch:=omega)only[go_sem,↓reduceIte,S5.cell y,S5.cell N]
  exact d):G:=H
theorem zcN(H:G:=by first|exact x.cell (V M y O)|(exfalso;omega)):G:=H
theorem zcO(H:G:=by simp[aZ]):G:=H
theorem zcP(H:G:=by rw[<-List.mem_append,List.take_append_drop]):G:=H
theorem zcQ(H:G:=by obtain⟨B,V,rfl,-⟩:=A;exact⟨B,V,rfl⟩):G:=H
theorem zcR(H:G:=by exact⟨this.1,Nat.lt_of_lt_of_le this.2.1 T.size,this.2.2⟩):G:=H
theorem zcS(H:G:=by refine S.trans ?_;rw[List.map_append];exact e.append_right _):G:=H
theorem zcT(H:G:=by exact L Q (aC.trans (bX Z n) j)):G:=H
theorem zcU(H:G:=by show(m::t::(_++(_++(y++[l])))).Nodup;rw[a4];exact m6 g):G:=H
theorem zcV(H:G:=by show(m::t::(_++(_++(y++[l])))).Nodup;rw[a2];exact m6 g):G:=H
theorem zcW(H:G:=by show(m::t::(_++(_++(y++[l])))).Nodup;rw[a1];exact m6 K):G:=H
theorem zcX(H:G:=by
  rcases F with F|F
  ·exact H F
  ·exact r F):G:=H
theorem zcY(H:G:=by rcases hr with rfl|⟨_,_,rfl,_⟩<;>rfl):G:=H
end Go.Proofs.YtgmgmmoofjikiaaGreat
namespace Go.Proofs.YtgmgmmoofjikiaaGreat
open Go.Eng
variable{a b c d e f g i j k p q r s:Value}{m n o l t u v:Nat}{I J:aK}{h H:Heap}{R:KV}{z y:bn}{x w:bW}{S T:bF}{A:Addr}{K N:cK}{α:Type}
abbrev gt(A:Value):Value:=.agg #[aR 4,i0,f0,A,n0,n0]
abbrev jl(H:Value):Value:=.agg #[aR 5,i0,f0,s0,n0,H]
abbrev dU(k H:Value):Value:=.agg #[aR 6,i0,f0,s0,k,H]
abbrev eK(a b:bF):Bool:=a.toList==b.toList
def WZ:(Ln h 32 a λ c=>Lp (∃(d:V1)(e:N1),d i0 h/\∀f g,d f g->(bv g .lss 3 f c (Ia g 32 a f λ a=>Ld g 9 a λ a=>Eb g .eql 9 false false a b λ a=>Cd a (R (.bool true) g) (Bi g .add 3 f i1 λ a=>(d a g/\e a g<e f g))) (R (.bool false) g))))->Cf h 26 #[a,b] R:=mS Tryz.func26 (Z (Q (Z (B (O [9] G7))) bG))
def nC:(Ln h 32 a λ b=>bv h .gtr 3 b (aR 2147483647) (R (.bool false) h) (Ln h 32 a λ b=>Lp (∃(c:V1)(d:N1),c i0 h/\∀e f,c e f->(bv f .lss 3 e b (Ia f 32 a e λ a=>Ld f 9 a λ a=>Ln f 9 a λ a=>bv f .gtr 3 a (aR 2147483647) (R (.bool false) f) (Bi f .add 3 e i1 λ a=>(c a f/\d a f<d e f))) (R (.bool true) f)))))->Cf h 18 #[a] R:=mS Tryz.func18 (Z (Q cg E7))
def Wj:(Ln h 62 a λ b=>bv h .gtr 3 b (aR 2147483647) (R (.bool false) h) (Ln h 62 a λ b=>Lp (∃(c:V1)(d:N1),c i0 h/\∀e f,c e f->(bv f .lss 3 e b (Ia f 62 a e λ a=>Ld f 32 a λ a=>Cf f 18 #[a] λ a b=>cD b a (R (.bool false) b) (Bi b .add 3 e i1 λ a=>(c a b/\d a b<d e f))) (R (.bool true) f)))))->Cf h 19 #[a] R:=mS Tryz.func19 (Z (Q cg E7))
def ry:(Ln h 32 a λ b=>Lp (∃(c:V1)(d:N1),c i0 h/\∀e f,c e f->(bv f .lss 3 e b (Ia f 32 a e λ b=>Ld f 9 b λ b=>Sl f 32 a none (some e) none λ a=>Cf f 26 #[a,b] λ a b=>Cd a (R (.bool false) b) (Bi b .add 3 e i1 λ a=>(c a b/\d a b<d e f))) (Ln f 32 a λ a=>Bi f .leq 3 a (aR 40) λ a=>R a f))))->Cf h 20 #[a] R:=mS Tryz.func20 P5
def Wc:(Al h 35 λ a b=>Bd b 35 #[(0,(aR 6))] λ c=>Sr b 35 a c λ b=>Rv b 35 a λ a=>R a b)->Cf h 24 #[] R:=mS Tryz.func24 cX
def WJ:(Al h 35 λ b c=>Bd c 35 #[(0,(aR 5)),(5,a)] λ a=>Sr c 35 b a λ a=>Rv a 35 b λ b=>R b a)->Cf h 65 #[a] R:=mS Tryz.func65 cX
def Wk:(Al h 35 λ b c=>Bd c 35 #[(0,(aR 4)),(3,a)] λ a=>Sr c 35 b a λ a=>Rv a 35 b λ b=>R b a)->Cf h 66 #[a] R:=mS Tryz.func66 cX
theorem lD(Z:aN I h)(p:Strs I a z)(L:R (.bool (z.any (eK · S))) h):Cf h 26 #[a,aU S] R:=by
 obtain⟨B,V,rfl,-,-,D,-,k⟩:=p;refine WZ (rA ?_);refine⟨λ a y=>∃M:Nat,a=aR M/\M<=z.length/\y=h/\(z.take M).any (eK · S)=false,λ a _=>match a with|.int _ M=>z.length-M.toNat|_=>0,⟨0,rfl,zab,rfl,zab⟩,?_⟩;rintro _ _⟨M,rfl,d,rfl,l⟩;refine rA ?_;refine⟨λ y=>?_,λ y=>?_⟩
 ·have o:M<z.length:=bS y;obtain⟨u,s,rfl,r⟩:=k zaa;have aI:=Z.cell (r M (aU z[M]) zbL);have g:(z.take (M+1)).any (eK · S)=((z.take M).any (eK · S)||eK z[M] S):=by rw[List.take_add_one,List.any_append,List.getElem?_eq_getElem o];exact zab
  try simp(disch:=omega)only[go_sem,↓reduceIte,aI]
  refine⟨λ N=>?_,λ N=>⟨⟨M+1,rfl,zaa,by rw[g,l];exact N⟩,zaa⟩⟩;have:z.any (eK · S)=true:=List.any_eq_true.2 ⟨z[M],List.getElem_mem o,N⟩;rw[this]at L;exact L
 ·have x:M=z.length:=by have:¬M<z.length:=bS y;exact zaa
  subst x;rw[List.take_length]at l;rw[l]at L;exact L
theorem DD(Z:aN I h)(p:Strs I a z)(L:R (.bool (z.all λ A=>decide (A.size<=2147483647))) h):Cf h 18 #[a] R:=by
 obtain⟨B,V,rfl,-,-,D,-,k⟩:=p;refine nC (rA ?_);refine⟨λ y=>absurd y (by simp;exact zaa),λ _=>?_⟩;refine⟨λ a y=>∃M:Nat,a=aR M/\M<=z.length/\y=h/\(z.take M).all (λ A=>decide (A.size<=2147483647))=true,λ a _=>match a with|.int _ M=>z.length-M.toNat|_=>0,⟨0,rfl,zab,rfl,zab⟩,?_⟩;rintro _ _⟨M,rfl,d,rfl,l⟩;refine rA ?_;refine⟨λ y=>?_,λ y=>?_⟩
 ·have o:M<z.length:=bS y;obtain⟨u,s,rfl,r⟩:=k zaa;have aI:=Z.cell (r M (aU z[M]) zbL);have g:(z.take (M+1)).all (λ A=>decide (A.size<=2147483647))=((z.take M).all (λ A=>decide (A.size<=2147483647))&&decide (z[M].size<=2147483647)):=by rw[List.take_add_one,List.all_append,List.getElem?_eq_getElem o];exact zab
  try simp(disch:=omega)only[go_sem,↓reduceIte,aI,kk Tryz.underlying9]
  refine⟨λ N=>?_,λ N=>⟨⟨M+1,rfl,zaa,by rw[g,l];simp at N⊢;exact zaa⟩,zaa⟩⟩;have:z.all (λ A=>decide (A.size<=2147483647))=false:=by rw[Bool.eq_false_iff];intro F;have:=List.all_eq_true.1 F z[M] (List.getElem_mem o);simp at this N;exact zaa
  rw[this]at L;exact L
 ·have x:M=z.length:=by have:¬M<z.length:=bS y;exact zaa
  subst x;rw[List.take_length]at l;rw[l]at L;exact L
theorem vy(Z:aN I h)(p:Strs I a z)(L:R (.bool (decide (z.length<=40)&&(List.range z.length).all λ i=>!(z.take i).any (eK · (z.getD i default)))) h):Cf h 20 #[a] R:=by
 have b:=p;obtain⟨B,V,rfl,t,-,D,-,k⟩:=p;refine ry (rA ?_);refine⟨λ a y=>∃i:Nat,a=aR i/\i<=z.length/\y=h/\(List.range i).all (λ i=>!(z.take i).any (eK · (z.getD i default)))=true,λ a _=>match a with|.int _ i=>z.length-i.toNat|_=>0,⟨0,rfl,zab,rfl,zab⟩,?_⟩;rintro _ _⟨i,rfl,d,rfl,l⟩;refine rA ?_;refine⟨λ y=>?_,λ y=>?_⟩
 ·have o:i<z.length:=bS y;obtain⟨u,s,rfl,r⟩:=k zaa;have aI:=Z.cell (r i (aU z[i]) zbL);have c:z.getD i default=z[i]:=zbL;try simp(disch:=omega)only[go_sem,↓reduceIte,aI]
  refine cd.hi Tryz.underlying32 GJ b zaa λ S O=>?_;have T:Strs I S (z.take i):=by
   have:(z.take i).length=i:=by simp;exact zaa
   unfold Strs;rw[this,List.map_take];simpa using O
  refine lD Z T ?_;refine rA ?_;refine⟨λ N=>?_,λ N=>⟨⟨i+1,rfl,zaa,zbZ⟩,zaa⟩⟩;have:((List.range z.length).all λ i=>!(z.take i).any (eK · (z.getD i default)))=false:=zbG;rw[this,Bool.and_false]at L;exact L
 ·have x:i=z.length:=by have:¬i<z.length:=bS y;exact zaa
  subst x;rw[l,Bool.and_true]at L;have:decide (((z.length:Nat):Int)<=40)=decide (z.length<=40):=by apply decide_eq_decide.2;exact zaa
  rw[this];exact L
theorem kG(Z:aN I h)(L:∀U,aD I h I U->R (dU n0 n0) U):Cf h 24 #[] R:=by refine Wc (rA ?_);exact zaC
theorem tF(Z:aN I h)(p:aG a=true)(L:∀U,aD I h I U->R (jl a) U):Cf h 65 #[a] R:=by refine WJ (rB p ?_);exact zaC
theorem mQ(Z:aN I h)(p:aG a=true)(L:∀U,aD I h I U->R (gt a) U):Cf h 66 #[a] R:=by refine Wk (rB p ?_);exact zaC
def WD:(Bx h 35 a λ a d=>Bx d 35 c λ c d=>Al d 35 λ d e=>Bs e 32 0 #[] λ e f=>Fa f 35 a 4 λ g=>Ld f 32 g λ g=>Ap f 32 e g λ e f=>Bs f 32 1 #[(0,b)] λ b f=>Ap f 32 e b λ b e=>Fa e 35 a 4 λ f=>Sr e 32 f b λ b=>Lp (∃e:V0,(∀b,e b->(Ld b 35 a λ a=>Sr b 35 d a λ a=>Rv a 35 d λ b=>R b a))/\(Fa b 35 a 5 λ d=>Ld b 33 d λ f=>Ld b 35 c λ g=>(Bs b 33 0 #[] λ b i=>aX i 35 a 5 d 33 f<|fY i 35 c g<|((Ap i 33 b f λ b i=>bh i 35 c g/\(Bs i 33 1 #[(0,g)] λ c g=>aX g 35 a 5 d 33 f<|(Ap g 33 b c λ b c=>Fa c 35 a 5 λ a=>Sr c 33 a b λ a=>e a)))/\(Bs i 33 1 #[(0,g)] λ i j=>aX j 35 a 5 d 33 f<|(Ap j 33 b f λ b d=>bh d 35 c g/\(Ap d 33 b i λ b c=>Fa c 35 a 5 λ a=>Sr c 33 a b λ a=>e a)))))/\(Bs b 33 1 #[(0,g)] λ b i=>aX i 35 a 5 d 33 f<|(Bs i 33 0 #[] λ i j=>aX j 35 a 5 d 33 f<|fY j 35 c g<|(Ap j 33 i f λ d f=>bh f 35 c g/\(Ap f 33 d b λ b c=>Fa c 35 a 5 λ a=>Sr c 33 a b λ a=>e a)))))))->Cf h 67 #[a,b,c] R:=mS Tryz.func67 (Z (Z (Y [] (X #[0,0,2,7,0,16,63,127,255]) bG)))
def Wh:(Al h 153 λ b c=>Bd c 153 #[(0,i0),(1,a)] λ a=>Sr c 153 b a λ a=>Rv a 153 b λ b=>R b a)->Cf h 71 #[a] R:=mS Tryz.func71 cX
def VX:(Bx h 35 a λ a b=>Al b 153 λ b c=>Ld c 35 a λ a=>Bd c 153 #[(0,i2),(4,a)] λ a=>Sr c 153 b a λ a=>Rv a 153 b λ b=>R b a)->Cf h 72 #[a] R:=mS Tryz.func72 cX
abbrev Wb(A:Value):Value:=.agg #[i0,A,n0,n0,i0,i0,f0,s0,n0,n0,i0]
theorem sZ(Z:aN I h)(p:aG a=true)(L:∀U,aD I h I U->R (Wb a) U):Cf h 71 #[a] R:=by refine Wh (rB p ?_);exact zaC
abbrev W4(A:Value):Value:=.agg #[i2,s0,n0,n0,aR 4,i0,f0,A,n0,n0,i0]
theorem tj(Z:aN I h)(p:aG a=true)(L:∀U,aD I h I U->R (W4 a) U):Cf h 72 #[gt a] R:=by refine VX (rB p ?_);exact zaC
theorem HL{T:aK}(Z:aN T h)(s:aG a=true)(i:aG c=true)(L:∀k S v U,aD T h v U->cd v k 1 1 [a]->cd v S 6 1 [aR 5,i0,f0,s0,n0,c]->R (dU k S) U):Cf h 67 #[dU n0 n0,a,jl c] R:=by
 apply WD;try simp(disch:=omega)only[go_sem,↓reduceIte,s,i,cI fD,cI gc]
 refine bY fD rfl zaa zaa (v:=0) (c:=[]) (u:=h.size+1+1+1) (T:=T) Bk (aQ.empty zaa zaP (Z.fresh zaa)) (show aD T h T _ from aP Z).sat rfl zbt zaa (by(try simp only[bJ]);exact zaa) ?_;intro k B l y r K;have E:aD T h T B:=aC.touch (aP Z) y λ P z=>by simp only[Value.ownBlock,Option.some.injEq]at z;subst z;exact⟨.inl zaa,Z.fresh zaa⟩
 have x:=y.blk (b:=h.size) Bk (by simp only[Value.ownBlock,ne_eq,Option.some.injEq];exact zaa);have H:=y.blk (b:=h.size+1) Bk (by simp only[Value.ownBlock,ne_eq,Option.some.injEq];exact zaa);have J:=y.blk (b:=h.size+1+1) Bk (by simp only[Value.ownBlock,ne_eq,Option.some.injEq];exact zaa);have o:=y.size;(try simp only[bJ]at o);simp only[Nat.zero_add,List.nil_append]at l;have O:=l.one;have y:∀P,k.ownBlock=some P->h.size+1+1+1<=P/\P<B.size:=λ P z=>l.1.block z;try simp(disch:=omega)only[go_sem,↓reduceIte,aA x,aS x,aA H,aS H,aA J,aS J,s,i,O,cI gc]
 refine⟨λ G=>∃S,aD T h T G/\aQ (h.size+1+1+1) T G 9 1 k 1 [a]/\aQ (h.size+1+1+1) T G 35 6 S 1 [aR 5,i0,f0,s0,n0,c]/\blk G h.size=aE #[aR 6,i0,f0,s0,k,S] 35/\blk G (h.size+1+1)=aE #[i0,i0,f0,s0,n0,n0] 35,?_,?_⟩
 ·rintro G⟨S,M,t,f,w,m⟩;have Q:=f.one;refine rG w.b m.b s i O Q ?_;refine L _ _ _ _ (aC.keepAll (?_:aD T h T _) Z) ?_ ?_
  ·exact bX Z M
  ·refine aQ.sli (base:=h.size+1+1+1) (I:=T) (e:=9) ?_ zaa zbt (λ P z=>by have:=(t.1.block z).1;unfold aK.grow;rw[if_neg zaa]);exact Ow t
  ·refine aQ.sli (base:=h.size+1+1+1) (I:=T) (e:=35) ?_ zaa zbu (λ P z=>by have:=(f.1.block z).1;unfold aK.grow;rw[if_neg zaa]);exact Ow f
 ·try simp(disch:=omega)only[go_sem,↓reduceIte,aA x,aS x,aA H,aS H,aA J,aS J,s,i,O,cI gc]
  have d:∀(F:Heap)(P u:Nat),B.size<=P->aD T h T F->aQ (h.size+1+1+1) T F 9 1 k 1 [a]->blk F P=aE #[] 35->blk F u=aE #[aR 5,i0,f0,s0,n0,c] 35->blk F h.size=aE #[aR 6,i0,f0,s0,k,n0] 35->blk F (h.size+1+1)=aE #[i0,i0,f0,s0,n0,n0] 35->Ap F 33 (bq P 0 0 0) (bq u 0 1 1) λ C X=>Fa X 35 (aB h.size) 5 λ p=>Sr X 33 p C λ K=>∃S,aD T h T K/\aQ (h.size+1+1+1) T K 9 1 k 1 [a]/\aQ (h.size+1+1+1) T K 35 6 S 1 [aR 5,i0,f0,s0,n0,c]/\blk K h.size=aE #[aR 6,i0,f0,s0,k,S] 35/\blk K (h.size+1+1)=aE #[i0,i0,f0,s0,n0,n0] 35:=by
   intro F P u z q N a g w m;have U:=aF a;refine bY gc rfl zaa zaa (v:=0) (c:=[]) (u:=h.size+1+1+1) (T:=T) g (aQ.empty zaa a (Z.fresh zaa)) q.sat rfl zbu zaa zaa ?_;intro S X u D O B;have j:aD T h T X:=aC.touch q D λ q B=>by simp only[Value.ownBlock,Option.some.injEq]at B;subst B;exact⟨.inl zaa,Z.fresh zaa⟩
   have V:=D.blk w (by simp only[Value.ownBlock,ne_eq,Option.some.injEq];exact zaa);have A:=D.blk m (by simp only[Value.ownBlock,ne_eq,Option.some.injEq];exact zaa);have M:=N.touch D λ q B=>by have:=y q B;simp only[Value.ownBlock,ne_eq,Option.some.injEq];exact zaa
   have Q:=u.one;refine rC V.b Q ?_;refine⟨S,j.put (.inl zaa) (Z.fresh zaa),M.put zaa,u.put zaa,?_,?_⟩
   ·exact bz V
   ·exact bz A
  refine⟨d _ _ _ ?_ ?_ ?_ ?_ ?_ ?_ ?_,d _ _ _ ?_ ?_ ?_ ?_ ?_ ?_ ?_⟩
  ·exact zaa
  ·exact bX Z E
  ·exact Ow l
  ·exact zad
  ·exact zad
  ·exact zad
  ·exact zad
  ·exact zaa
  ·exact bX Z E
  ·exact Ow l
  ·exact zad
  ·exact zad
  ·exact zad
  ·exact zad
def Qg:(Al h 35 λ b c=>Cf c 65 #[n0] λ c d=>bH d 35 c λ c d=>Ln d 32 a λ e=>Lp (∃(f:V1)(g:N1),f i0 d/\∀d i,f d i->(bv i .lss 3 d e (Ia i 32 a d λ a=>Ld i 9 a λ a=>Fa i 35 c 5 λ b=>Ld i 33 b λ e=>Cf i 66 #[a] λ a j=>aX j 35 c 5 b 33 e<|(Bs j 33 1 #[(0,a)] λ a j=>aX j 35 c 5 b 33 e<|(Ap j 33 e a λ a b=>Fa b 35 c 5 λ c=>Sr b 33 c a λ a=>Bi a .add 3 d i1 λ b=>(f b a/\g b a<g d i)))) (Ld i 35 c λ a=>Cf i 24 #[] λ d e=>bh e 35 c a/\(Cf e 67 #[d,(aU ⟨#[97]⟩),a] λ a c=>Sr c 35 b a λ a=>Rv a 35 b λ b=>R b a)))))->Cf h 21 #[a] R:=mS Tryz.func21 (Z (Z (Q (Z (B (O [9] Hb))) kW)))
abbrev strC(A:bF):bW:=[aR 4,i0,f0,aU A,n0,n0]
abbrev gv:Obj:=aV #[i0,i0,f0,s0,n0,n0] 35
abbrev jj(T:aK)(J:Value)(H:bn):Prop:=cd T J 6 H.length (H.flatMap strC)
abbrev gZ:Value:=aU ⟨#[97]⟩
def d6(T:aK)(J:Value)(H:bn):Prop:=∃k p X,J=dU k p/\cd T k 1 1 [gZ]/\cd T p 6 1 [aR 5,i0,f0,s0,n0,X]/\jj T X H
theorem d6.mono(O:I.le J)(B:d6 I a z):d6 J a z:=by obtain⟨r,p,X,rfl,f,i,d⟩:=B;exact⟨r,p,X,rfl,f.mono O,i.mono O,d.mono O⟩
theorem n8(H:bn):∀S∈H.flatMap strC,aG S=true:=by intro S O;obtain⟨A,_,s⟩:=List.mem_flatMap.1 O;simp only[List.mem_cons,List.not_mem_nil,or_false]at s;rcases s with rfl|rfl|rfl|rfl|rfl|rfl<;>rfl
theorem tP{T:aK}(Z:aN T h)(p:Strs T a z)(L:∀S v U,aD T h v U->d6 v S z->R S U):Cf h 21 #[a] R:=by
 obtain⟨B,V,rfl,t,-,D,-,k⟩:=p;refine Qg (rA ?_);refine tF (show aD T h T _ from aP Z).sat rfl ?_;intro N d;have C:aD T h T N:=((aC.refl Z).push _).trans d;have g:=d.size;(try simp only[bJ]at g);have H:blk N h.size=some gv:=d.blk Bk id;refine rB H.b ?_;refine⟨λ a Q=>∃(M:Nat)(X:Value),a=aR M/\M<=z.length/\aD T h T Q/\N.size<Q.size/\blk Q h.size=some gv/\blk Q N.size=aE #[aR 5,i0,f0,s0,n0,X] 35/\aQ (N.size+1) T Q 35 6 X M ((z.take M).flatMap strC),λ a _=>match a with|.int _ M=>z.length-M.toNat|_=>0,?_,?_⟩
 ·refine⟨0,n0,rfl,zaa,?_,?_,?_,?_,?_⟩
  ·exact bX Z C
  ·(try simp only[bJ]);exact zaa
  ·exact bz H
  ·exact bz H
  ·exact aQ.nil ..
 rintro _ Q⟨M,X,rfl,d,j,a,p,m,W⟩;have e:=W.one;refine rA ?_;refine⟨λ y=>?_,λ y=>?_⟩
 ·have o:M<z.length:=bS y;obtain⟨u,s,rfl,r⟩:=k zaa;have aI:=j.sat.cell (r M (aU z[M]) zbL);try simp(disch:=omega)only[go_sem,↓reduceIte,aI,aA m,aS m]
  refine mQ j.sat rfl ?_;intro H C;have O:=j.trans C;have x:=C.size;have d:=C.blk p id;have A:=C.blk m id;have w:=W.step C λ _ _=>id;refine rB A.b ?_;refine bY gc rfl zaa zaa (v:=M) (c:=(z.take M).flatMap strC) (u:=N.size+1) (T:=T) Bk (Ow w) (show aD T h T _ from bX Z O).sat rfl zac zaa (by(try simp only[bJ]);exact zaa) ?_;intro s r J Y G E;have g:aD T h T r:=aC.touch (show aD T h T _ from bX Z O) Y λ P a=>⟨.inl (cW (w.1.block a).1),w.2 P a⟩;have K:=Y.size;(try simp only[bJ]at K);have t:∀P,X.ownBlock=some P->N.size+1<=P:=λ P a=>(w.1.block a).1;have q:=Y.blk (b:=h.size) (bz d) (λ F=>cW (t _ F));have c:=Y.blk (b:=N.size) (bz A) (λ F=>cW (t _ F));have H:=J.one;refine rC c.b H ?_;refine⟨⟨M+1,s,rfl,zaa,?_,by(try simp only[bJ]);exact zaa,?_,?_,?_⟩,zaa⟩
  ·exact bX Z g
  ·exact bz q
  ·exact bz c
  ·refine aQ.put ?_ zaa;have:(z.take (M+1)).flatMap strC=(z.take M).flatMap strC++strC z[M]:=by rw[List.take_add_one,List.flatMap_append,List.getElem?_eq_getElem o];exact zab
   rw[this];exact J
 ·have x:M=z.length:=by have:¬M<z.length:=bS y;exact zaa
  subst x;rw[List.take_length]at W;refine rB m.c ?_;refine kG j.sat ?_;intro U B;have E:=B.size;have d:=B.blk p id;have A:=B.blk m id;refine rB A.c ?_;refine HL (j.trans B).sat rfl e ?_;intro r p v w l Y P;have a:=l.size;have q:=l.blk d id;have K:=Y.one;have o:=P.one;refine rD q.b K o ?_;have g:=(j.trans B).trans l;have u:=(W.step B λ _ _=>id).step l λ _ _=>id;have V:v h.size=none:=(l.dom _ zaa id).trans (Z.fresh zaa);have o:∀F,aD T h v F->aQ (N.size+1) v F 35 6 X z.length (z.flatMap strC)->R (dU r p) F:=by intro F q v;obtain⟨f,i,c⟩:=v.frz q zaa D (n8 z);exact L _ _ _ f ⟨r,p,X,rfl,Y.mono i,P.mono i,c⟩
  refine o _ ?_ ?_
  ·repeat'(first|with_reducible exact g|with_reducible refine aC.put ?_ (Or.inl ?_) ?_|exact V|omega)
  ·exact Ow u
def Wt:(Bs h 32 0 #[] λ d e=>Ln e 32 a λ f=>Lp (∃(g:V2)(i:N2),g d i0 e/\∀d e j,g d e j->(bv j .lss 3 e f (Lp (∃f:V1,(∀a b,f a b->(Bi b .add 3 e i1 λ c=>(g a c b/\i a c b<i d e j)))/\(Ia j 32 a e λ a=>Ld j 9 a λ a=>Cf j 26 #[b,a] λ b e=>Eb e .eql 4 false false b c λ b=>Cd b (Bs e 32 1 #[(0,a)] λ a b=>Ap b 32 d a λ a b=>f a b) (f d e)))) (R d j))))->Cf h 30 #[a,b,c] R:=mS Tryz.func30 (Z (Z (Q (Z (B (O [7,13] (Z (Q d8 (Y [7] (B jb) L)))))) bG)))
def W8:(Ln h 32 a λ b=>Lp (∃(c:V1)(d:N1),c i0 h/\∀e f,c e f->(bv f .lss 3 e b (Ia f 32 a e λ b=>Ld f 9 b λ b=>Sl f 32 a none (some e) none λ a=>Cf f 26 #[a,b] λ a b=>Cd a (R (.bool false) b) (Bi b .add 3 e i1 λ a=>(c a b/\d a b<d e f))) (R (.bool true) f))))->Cf h 31 #[a] R:=mS Tryz.func31 P5
theorem v8{T:aK}(Z:aN T h){E:Bool}(p:Strs T a z)(O:Strs T b y)(L:∀X v U,aD T h v U->Strs v X (z.filter λ A=>y.any (eK · A)==E)->R X U):Cf h 30 #[a,b,.bool E] R:=by
 obtain⟨B,V,rfl,t,-,D,-,k⟩:=p;refine Wt (rA ?_);refine⟨λ X a Q=>∃M:Nat,a=aR M/\M<=z.length/\aD T h T Q/\∃v,v<=M/\v=((z.take M).filter λ A=>y.any (eK · A)==E).length/\aQ h.size T Q 9 1 X v (((z.take M).filter λ A=>y.any (eK · A)==E).map .string),λ _ a _=>match a with|.int _ M=>z.length-M.toNat|_=>0,?_,?_⟩
 ·refine⟨0,rfl,zaa,aP Z,0,zaa,rfl,?_⟩;exact aQ.empty zaa zaP (Z.fresh zaa)
 rintro X _ Q⟨M,rfl,d,j,v,F,C,W⟩;have e:=W.one;refine rA ?_;refine⟨λ t=>?_,λ t=>?_⟩
 ·have o:M<z.length:=bS t;obtain⟨u,s,rfl,r⟩:=k zaa;have aI:=j.sat.cell (r M (aU z[M]) zbL);have g:(z.take (M+1)).filter (λ A=>y.any (eK · A)==E)=(z.take M).filter (λ A=>y.any (eK · A)==E)++if(y.any (eK · z[M])==E)=true then[z[M]]else[]:=by rw[List.take_add_one,List.filter_append,List.getElem?_eq_getElem o];simp[List.filter_cons]
  refine⟨λ s K=>aD T h T K/\∃v,v<=M+1/\v=((z.take (M+1)).filter λ A=>y.any (eK · A)==E).length/\aQ h.size T K 9 1 s v (((z.take (M+1)).filter λ A=>y.any (eK · A)==E).map .string),?_,?_⟩
  ·rintro s K⟨P,l,R,S,B⟩;refine rA ?_;exact⟨⟨M+1,rfl,zaa,P,l,R,S,B⟩,zaa⟩
  ·try simp(disch:=omega)only[go_sem,↓reduceIte,aI]
   refine lD j.sat O ?_;refine rA ?_;refine⟨λ N=>?_,λ N=>?_⟩
   ·refine bY fD rfl zaa zaa (v:=v) (c:=_) (u:=h.size) (T:=T) Bk (W.push _) (show aD T h T _ from bX Z j).sat rfl zac zaa (by have:=j.size;(try simp only[bJ]);exact zaa) ?_;intro s X J Y G E;refine⟨aC.touch (show aD T h T _ from bX Z j) Y λ P s=>⟨.inl (W.1.block s).1,W.2 P s⟩,v+1,zaa,?_,?_⟩
    ·rw[g,if_pos N,List.length_append,<-C];rfl
    ·rw[g,if_pos N,List.map_append];exact J
   ·refine⟨j,v,zaa,?_,?_⟩
    ·rw[g,if_neg (by rw[N];exact zaE),List.append_nil,<-C]
    ·rw[g,if_neg (by rw[N];exact zaE),List.append_nil];exact W
 ·have x:M=z.length:=by have:¬M<z.length:=bS t;exact zaa
  subst x;rw[List.take_length]at W C;obtain⟨f,i,c⟩:=W.frz j bu zaa (by intro b O;exact za4);refine L _ _ _ f ?_;rw[C]at c;exact c
theorem qo(Z:aN I h)(p:Strs I a z)(L:R (.bool ((List.range z.length).all λ i=>!(z.take i).any (eK · (z.getD i default)))) h):Cf h 31 #[a] R:=by
 have b:=p;obtain⟨B,V,rfl,t,-,D,-,k⟩:=p;refine W8 (rA ?_);refine⟨λ a y=>∃i:Nat,a=aR i/\i<=z.length/\y=h/\(List.range i).all (λ i=>!(z.take i).any (eK · (z.getD i default)))=true,λ a _=>match a with|.int _ i=>z.length-i.toNat|_=>0,⟨0,rfl,zab,rfl,zab⟩,?_⟩;rintro _ _⟨i,rfl,d,rfl,l⟩;refine rA ?_;refine⟨λ y=>?_,λ y=>?_⟩
 ·have o:i<z.length:=bS y;obtain⟨u,s,rfl,r⟩:=k zaa;have aI:=Z.cell (r i (aU z[i]) zbL);have c:z.getD i default=z[i]:=zbL;try simp(disch:=omega)only[go_sem,↓reduceIte,aI]
  refine cd.hi Tryz.underlying32 GJ b zaa λ S O=>?_;have T:Strs I S (z.take i):=by
   have:(z.take i).length=i:=by simp;exact zaa
   unfold Strs;rw[this,List.map_take];simpa using O
  refine lD Z T ?_;refine rA ?_;refine⟨λ N=>?_,λ N=>⟨⟨i+1,rfl,zaa,zbZ⟩,zaa⟩⟩;have:((List.range z.length).all λ i=>!(z.take i).any (eK · (z.getD i default)))=false:=zbG;rw[this]at L;exact L
 ·have x:i=z.length:=by have:¬i<z.length:=bS y;exact zaa
  subst x;rw[l]at L;exact L
def WL:(Ln h 32 a λ b=>Lp (∃(c:V2)(d:N2),c n0 i0 h/\∀e f g,c e f g->(bv g .lss 3 f b (Ia g 32 a f λ a=>Ld g 9 a λ a=>Cf g 71 #[(aU ⟨#[97]⟩)] λ b i=>Cf i 66 #[a] λ a i=>Cf i 72 #[a] λ a i=>Bs i 119 2 #[(0,b),(1,a)] λ a b=>Bs b 50 1 #[(0,a)] λ a b=>Ap b 50 e a λ a b=>Bi b .add 3 f i1 λ i=>(c a i b/\d a i b<d e f g)) (R e g))))->Cf h 29 #[a] R:=mS Tryz.func29 (Z (Z (Q (Z (B (O [3,8] mA))) bG)))
inductive El where|fld(s:bF)|val(s:bF)
abbrev bU:=List El
abbrev ex:=Option bU
abbrev et:=List (El×Value)
abbrev elC:El->bW|.fld A=>[i0,aU A,n0,n0,i0,i0,f0,s0,n0,n0,i0]|.val A=>[i2,s0,n0,n0,aR 4,i0,f0,aU A,n0,n0,i0]
abbrev PathR(T:aK)(J:Value)(w:bU):Prop:=cd T J 11 w.length (w.flatMap elC)
inductive eB(r:Value->α->Prop):bW->List α->Prop|nil:eB r [] []|cons{v a vs bs}:r v a->eB r vs bs->eB r (v::vs) (a::bs)
theorem eB.mono{r p:Value->α->Prop}(O:∀J a,r J a->p J a):∀{g bs},eB r g bs->eB p g bs|_,_,.nil=>.nil|_,_,.cons a u=>.cons (O _ _ a) (u.mono O)
theorem eB.snoc{W:Value->α->Prop}{B:α}(O:W a B):∀{g bs},eB W g bs->eB W (g++[a]) (bs++[B])|_,_,.nil=>.cons O .nil|_,_,.cons X q=>.cons X (q.snoc O)
theorem eB.len{W:Value->α->Prop}:∀{g bs},eB W g bs->g.length=bs.length|_,_,.nil=>rfl|_,_,.cons _ u=>by simp[u.len]
theorem eB.get{W:Value->α->Prop}:∀{g bs},eB W g bs->∀(i:Nat)(h:i<bs.length)(U:i<g.length),W g[i] bs[i]|_,_,.cons B u,0,_,_=>B|_,_,.cons B u,i+1,h,U=>u.get i (bS h) (bS U)
def mC(W:aK->Value->α->Prop)(T:aK)(J:Value)(bs:List α):Prop:=∃g,cd T J 1 bs.length g/\eB (W T) g bs
abbrev eP(T:aK)(J:Value)(D:List bU):Prop:=mC PathR T J D
theorem mC.mono{r:aK->Value->α->Prop}(w:∀{I J:aK},I.le J->∀a B,r I a B->r J a B)(O:I.le J){bs:List α}(B:mC r I a bs):mC r J a bs:=by obtain⟨g,f,i⟩:=B;exact⟨g,f.mono O,i.mono λ a X=>w O a X⟩
theorem eP.mono(O:I.le J){D:List bU}(B:eP I a D):eP J a D:=mC.mono (r:=PathR) (λ O _ _ B=>cd.mono O B) O B
abbrev pZ(A:bF):bU:=[.fld ⟨#[97]⟩,.val A]
theorem um{T:aK}(Z:aN T h)(p:Strs T a z)(L:∀X v U,aD T h v U->eP v X (z.map pZ)->R X U):Cf h 29 #[a] R:=by
 obtain⟨B,V,rfl,t,-,D,-,k⟩:=p;refine WL (rA ?_);refine⟨λ X a Q=>∃(M:Nat)(V:aK)(g:bW),a=aR M/\M<=z.length/\aD T h V Q/\aQ h.size V Q 119 1 X M g/\eB (PathR V) g ((z.take M).map pZ)/\(∀S∈g,aG S=true),λ _ a _=>match a with|.int _ M=>z.length-M.toNat|_=>0,?_,?_⟩
 ·exact⟨0,T,[],rfl,zaa,aC.refl Z,aQ.nil ..,.nil,zab⟩
 rintro X _ Q⟨M,V,g,rfl,d,j,W,m,x⟩;have e:=W.one;refine rA ?_;refine⟨λ y=>?_,λ y=>?_⟩
 ·have o:M<z.length:=bS y;obtain⟨u,s,rfl,r⟩:=k zaa;have aI:=j.sat.cell (cE j.le (r M (aU z[M]) zbL));try simp(disch:=omega)only[go_sem,↓reduceIte,aI]
  refine sZ j.sat rfl ?_;intro D C;refine rA ?_;refine mQ C.sat rfl ?_;intro N u;refine rA ?_;refine tj u.sat rfl ?_;intro N U;have c:aD T h V N:=((j.trans C).trans u).trans U;have J:=W.step ((C.trans u).trans U) λ _ _=>id;refine rA ?_;refine bY oP rfl zaa zaa (v:=M) (c:=g) (u:=h.size) (T:=V) Bk (Ow J) (show aD T h V _ from by refine(c.push _).push _).sat rfl zac zaa (by have:=c.size;(try simp only[bJ]);exact zaa) ?_;intro s G k H t l;have F:aD T h V G:=aC.touch ((c.push _).push _) H λ P a=>⟨.inl (J.1.block a).1,J.2 P a⟩;have w:=H.blk (b:=N.size) Bk (λ q=>cW (J.1.block q).2);obtain⟨f,i⟩:=F.one (b:=N.size) c.size;refine rA ?_;have K:∀P,s.ownBlock=some P->P≠N.size:=by
   intro P a;rcases l with u|⟨q,U,Y⟩
   ·rw[u]at a;have:=(J.1.block a).2;exact zaa
   ·rw[U]at a;cases a;(try simp only[bJ]at Y);exact zaa
  refine⟨⟨M+1,V.one N.size G,g++[bq N.size 0 2 2],rfl,zaa,f,k.one' K,?_,?_⟩,zaa⟩
  ·have:(z.take (M+1)).map pZ=(z.take M).map pZ++[pZ z[M]]:=by rw[List.take_add_one,List.map_append,List.getElem?_eq_getElem o];exact zab
   rw[this];refine eB.snoc ?_ (m.mono λ _ _ B=>B.mono i);exact cd.ofBlk (aK.one_eq w) rfl zab zac
  ·intro S O;rcases List.mem_append.1 O with O|O
   ·exact x S O
   ·rcases List.mem_singleton.1 O with rfl;rfl
 ·have R:M=z.length:=by have:¬M<z.length:=bS y;exact zaa
  subst R;rw[List.take_length]at m;obtain⟨f,i,c⟩:=W.frz j bu zaa x;refine L _ _ _ f ⟨g,?_,m.mono λ _ _ B=>B.mono i⟩;rw[List.length_map];exact c
variable{E F:bU}{G M:El}{V W:ex}
def E0:(Bx h 35 a λ a b=>Fa b 35 a 0 λ c=>Ld b 3 c λ c=>ce b 3 c i1 (Fa b 35 a 1 λ a=>Ld b 2 a λ a=>Eb b .neq 2 false true a i0 λ a=>Mi b 4 a λ a=>R a b) (ce b 3 c i2 (Fa b 35 a 1 λ a=>Ld b 2 a λ a=>Mi b 2 a λ a=>R a b) (ce b 3 c (aR 3) (Fa b 35 a 2 λ a=>Ld b 31 a λ a=>Mi b 31 a λ a=>R a b) (ce b 3 c (aR 4) (Fa b 35 a 3 λ a=>Ld b 9 a λ a=>Mi b 9 a λ a=>R a b) (ce b 3 c (aR 5) (Fa b 35 a 5 λ c=>Ld b 33 c λ c=>Ln b 33 c λ c=>Mz b 241 i0 c λ b c=>Fa c 35 a 5 λ a=>Ld c 33 a λ a=>Ln c 33 a λ d=>Lp (∃(e:V2)(f:N2),e b i0 c/\∀b c g,e b c g->(bv g .lss 3 c d (Ia g 33 a c λ a=>Ld g 35 a λ a=>bH g 35 a λ a d=>Ld d 35 a λ a=>Cf d 79 #[a] λ a d=>Bs d 241 1 #[(0,a)] λ a d=>Ap d 241 b a λ a d=>Bi d .add 3 c i1 λ i=>(e a i d/\f a i d<f b c g)) (Mi g 241 b λ a=>R a g)))) (ce b 3 c (aR 6) (Ld b 35 a λ a=>Cf b 127 #[a] λ a b=>Mi b 242 a λ a=>R a b) (R ni b)))))))->Cf h 79 #[a] R:=mS Tryz.func79 (Z (Q (Z (B (Z (C bG (Z (C bG (Z (C bG (Z (C bG (Z (C (Z (Q (Z (B (O [3,38] mA))) bG)) cg)))))))))))) bG))
def Hg:(Bx h 35 a λ a b=>Ag b (Instr.makeMap 242 none) λ b c=>Fa c 35 a 4 λ d=>Ld c 32 d λ d=>Ln c 32 d λ e=>Lp (∃(f:V1)(g:N1),f i0 c/\∀c i,f c i->(bv i .lss 3 c e (Lp (∃e:V0,(∀a,e a->(Bi a .add 3 c i1 λ b=>(f b a/\g b a<g c i)))/\(Ia i 32 d c λ d=>Ld i 9 d λ d=>Fa i 35 a 5 λ f=>Ld i 33 f λ f=>Ln i 33 f λ f=>bv i .lss 3 c f (Fa i 35 a 5 λ a=>Ld i 33 a λ a=>Ia i 33 a c λ a=>Ld i 35 a λ a=>Cf i 79 #[a] λ a c=>Mu c 242 b d a λ a=>e a) (e i)))) (R b i))))->Cf h 127 #[a] R:=mS Tryz.func127 (Z (Z (Q (Z (B (O [10] (Z (Q d8 (Y [] (B jb) L)))))) bG)))
abbrev bE(A:bF):Value:=.iface 9 (aU A)
def er(T:aK)(J:Value)(H:bn):Prop:=∃X,J=.iface 241 X/\cd T X 1 H.length (H.map bE)
def dM(T:aK)(J:Value)(H:bn):Prop:=∃W G,J=.iface 242 (.map (some W))/\T W=some (.map #[⟨gZ,G,0⟩] 1)/\er T G H
def mI(T:aK)(J:Value):Prop:=∃W,J=.iface 242 (.map (some W))/\T W=some (.map #[] 0)
theorem er.mono(O:I.le J)(B:er I a z):er J a z:=by obtain⟨X,rfl,u⟩:=B;exact⟨X,rfl,u.mono O⟩
theorem dM.mono(O:I.le J)(B:dM I a z):dM J a z:=by obtain⟨r,G,rfl,u,c⟩:=B;exact⟨r,G,rfl,O _ _ u,c.mono O⟩
theorem qO(Z:aN I h)(L:∀U,aD I h I U->R (bE S) U):Cf h 79 #[gt (aU S)] R:=by refine E0 (rA ?_);exact zaC
theorem xt{T:aK}(Z:aN T h){H:bn}(i:jj T a H)(L:∀J v U,aD T h v U->er v J H->R J U):Cf h 79 #[jl a] R:=by
 have e:=i.one;obtain⟨B,V,rfl,t,-,D,-,k⟩:=i;refine E0 (rA ?_);refine gw kR zaa (t:=0) (u:=H.length) rfl rfl zaa zaa ?_;intro B b;refine rA ?_;refine⟨λ a J Q=>∃M:Nat,J=aR M/\M<=H.length/\aD T h T Q/\aQ h.size T Q 20 1 a M ((H.take M).map bE),λ _ J _=>match J with|.int _ M=>H.length-M.toNat|_=>0,?_,?_⟩
 ·refine⟨0,rfl,zaa,aP Z,?_⟩;exact aQ.made (by(try simp only[bJ]);exact zaa) Bk (Z.fresh (by(try simp only[bJ]);exact zaa)) b zaa
 rintro a _ Q⟨M,rfl,d,j,W⟩;have e:=W.one;have b:=j.size;refine rA ?_;refine⟨λ y=>?_,λ y=>?_⟩
 ·have o:M<H.length:=bS y;obtain⟨u,P,rfl,r⟩:=k zaa;have g:∀M S,(H.flatMap strC)[M]?=some S->bP T u (P+M)=some S:=r;have S5:aN T Q:=λ r q p=>j.sat r q (j.le r q p);have v:=gD (c:=strC) (m:=6) S5 (λ _=>rfl) g o (zaa:0<6);have w:=cj (c:=strC) (m:=6) S5 (λ _=>rfl) g o (zaa:1<6);have F:=cj (c:=strC) (m:=6) S5 (λ _=>rfl) g o (zaa:2<6);have m:=cj (c:=strC) (m:=6) S5 (λ _=>rfl) g o (zaa:3<6);have X:=cj (c:=strC) (m:=6) S5 (λ _=>rfl) g o (zaa:4<6);have d:=cj (c:=strC) (m:=6) S5 (λ _=>rfl) g o (zaa:5<6);refine rG v w F m X d ?_;refine qO (S:=H[M]) (show aD T h T _ from bX Z j).sat ?_;intro D C;have O:aD T h T D:=aC.trans (bX Z j) C;have w:=aQ.step (show aQ h.size T _ 20 1 a M ((H.take M).map bE)from Ow W) C λ _ _=>id;refine rA ?_;refine bY kR rfl zaa zaa (v:=M) (c:=(H.take M).map bE) (u:=h.size) (T:=T) Bk (Ow w) (show aD T h T _ from bX Z O).sat rfl zac zaa (by have:=O.size;(try simp only[bJ]);exact zaa) ?_;intro P N J Y G E;refine rA ?_;refine⟨⟨M+1,rfl,zaa,aC.touch (show aD T h T _ from bX Z O) Y λ P z=>⟨.inl (w.1.block z).1,w.2 P z⟩,?_⟩,zaa⟩;have:(H.take (M+1)).map bE=(H.take M).map bE++[bE H[M]]:=by rw[List.take_add_one,List.map_append,List.getElem?_eq_getElem o];exact zab
  rw[this];exact J
 ·have x:M=H.length:=by have:¬M<H.length:=bS y;exact zaa
  subst x;rw[List.take_length]at W;refine rA ?_;obtain⟨R,i,m⟩:=W.frz j bu zaa (by intro S O;exact za4);exact L _ _ _ R ⟨a,rfl,m⟩
theorem uM(Z:aN I h)(p:d6 I a z)(L:∀W G v U,aD I h v U->v W=some (.map #[⟨gZ,G,0⟩] 1)->er v G z->R (.map (some W)) U):Cf h 127 #[a] R:=by
 obtain⟨r,v,X,rfl,Y,P,i⟩:=p;have K:=Y.one;have o:=P.one;have X:=i.one;obtain⟨m,d,rfl,c,-,-,-,E⟩:=Y;obtain⟨p,q,rfl,f⟩:=E zaa;obtain⟨F,A,rfl,g,-,-,-,w⟩:=P;obtain⟨J,C,rfl,s⟩:=w zaa;refine Hg (rB @su ?_);refine⟨λ a K=>(a=i0/\aD I h I K/\blk K (h.size+1)=some (.map #[] 0)/\blk K h.size=aE #[aR 6,i0,f0,s0,bq p q 1 d,bq J C 1 A] 35)\/(a=i1/\∃V G,aD I h V K/\blk K (h.size+1)=some (.map #[⟨gZ,G,0⟩] 1)/\er V G z/\V (h.size+1)=none),λ a _=>match a with|.int _ M=>1-M.toNat|_=>0,?_,?_⟩
 ·exact .inl ⟨rfl,aP Z,Bk,Bk⟩
 rintro _ K(⟨rfl,T,r,D⟩|⟨rfl,V,G,T,r,l,K⟩)
 ·have e:=T.size;have n:=T.sat.cell (f 0 gZ rfl);have x:=T.sat.cell (s 0 _ rfl);have e:=T.sat.cell (s 1 _ rfl);have y:=T.sat.cell (s 2 _ rfl);have a:=T.sat.cell (s 3 _ rfl);have Y:=T.sat.cell (s 4 _ rfl);have k:=T.sat.cell (s 5 _ rfl);rw[Nat.add_zero]at n x;refine rA ?_;refine⟨λ t=>∃V G,aD I h V t/\blk t (h.size+1)=some (.map #[⟨gZ,G,0⟩] 1)/\er V G z/\V (h.size+1)=none,?_,?_⟩
  ·rintro t⟨V,G,S,E,l,K⟩;refine rA ?_;exact⟨by first|exact .inr ⟨rfl,V,G,S,E,l,K⟩|exact .inr ⟨V,G,S,E,l,K⟩|exact⟨V,G,S,E,l,K⟩,zaE⟩
  ·refine rI D.c n x e y a Y k ?_;refine xt T.sat i ?_;intro G V Q j l;have B:=j.blk r id;have a:=j.size;have u:V (h.size+1)=none:=(j.dom _ (aF r) id).trans (Z.fresh zaa);refine rA ?_;rw[gy mJ (bI B) (cP.nil 0)];exact⟨V,G,(T.trans j).setMap (.inl zaa) u,de (aF B),l,u⟩
 ·refine rA ?_;obtain⟨f,i⟩:=T.one (b:=h.size+1) zaa;exact L _ G _ _ f (aK.one_eq r) (l.mono i)
theorem qI(Z:aN I h)(p:d6 I a z)(L:∀G v U,aD I h v U->dM v G z->R G U):Cf h 79 #[a] R:=by have b:=p;obtain⟨r,u,X,rfl,Y,P,i⟩:=p;have K:=Y.one;have o:=P.one;refine E0 (rA ?_);refine uM (show aD I h I _ from aP Z).sat b ?_;intro W G v U E w l;refine rA ?_;exact L _ _ _ (aC.trans (aP Z) E) ⟨W,G,rfl,w,l⟩
theorem sQ(Z:aN I h)(L:∀W v U,aD I h v U->v W=some (.map #[] 0)->R (.map (some W)) U):Cf h 127 #[dU n0 n0] R:=by refine Hg (rA ?_);refine⟨λ J K=>J=i0/\aD I h I K/\blk K (h.size+1)=some (.map #[] 0),λ _ _=>0,⟨rfl,aP Z,Bk⟩,?_⟩;rintro _ K⟨rfl,T,r⟩;refine rA ?_;obtain⟨f,i⟩:=T.one (b:=h.size+1) zaa;exact L _ _ _ f (aK.one_eq r)
theorem zb(Z:aN I h)(L:∀G v U,aD I h v U->mI v G->R G U):Cf h 79 #[dU n0 n0] R:=by refine E0 (rA ?_);refine sQ (show aD I h I _ from aP Z).sat ?_;intro W v U E w;refine rA ?_;exact L _ _ _ (aC.trans (aP Z) E) ⟨W,rfl,w⟩
def H5:(Bd h 432 #[] λ a=>Bx h 432 a λ a b=>R a b)->Cf h 186 #[a] R:=mS Tryz.func186 cX
def Hm:(bC h 432 a 0 20 b λ b=>Mi b 362 a λ a=>R a b)->Cf h 187 #[a,b] R:=mS Tryz.func187 iO
def Ur:(Bd h 348 #[] λ a=>Bx h 348 a λ a b=>Mi b 346 a λ a=>R a b)->Cf h 118 #[] R:=mS Tryz.func118 cX
def RX:(Bd h 348 #[] λ b=>Bx h 348 b λ b c=>Cf c 186 #[b] λ b c=>Cf c 187 #[b,a] λ a b=>R a b)->Cf h 130 #[a] R:=mS Tryz.func130 cX
def RJ:(Bx h 432 a λ a b=>Fa b 432 a 0 λ a=>Ld b 20 a λ a=>R a b)->Cf h 358 #[a] R:=mS Tryz.func358 cX
def Th:(Bx h 432 a λ a b=>Fa b 432 a 0 λ a=>Ld b 20 a λ a=>Ta b a 20 9 false λ a=>R a b)->Cf h 350 #[a] R:=mS Tryz.func350 cX
def Td:(Bx h 432 a λ a b=>Fa b 432 a 0 λ c=>Ld b 20 c λ c=>ce b 20 c ni (R (.bool false) b) (Fa b 432 a 0 λ a=>Ld b 20 a λ a=>Ta b a 20 4 true λ a=>aW a λ _ a=>R a b))->Cf h 351 #[a] R:=mS Tryz.func351 tN
def Tn:(Bx h 432 a λ a b=>Fa b 432 a 0 λ c=>Ld b 20 c λ c=>ce b 20 c ni (R (.bool false) b) (Fa b 432 a 0 λ c=>Ld b 20 c λ c=>Ta b c 20 31 true λ c=>aW c λ _ c=>Cd c (R (.bool true) b) (Fa b 432 a 0 λ a=>Ld b 20 a λ a=>Ta b a 20 573 true λ a=>aW a λ _ a=>Cd a (R (.bool true) b) (R (.bool false) b))))->Cf h 352 #[a] R:=mS Tryz.func352 (Z (Q PO bG))
def SW:(Bx h 432 a λ a b=>Fa b 432 a 0 λ c=>Ld b 20 c λ c=>ce b 20 c ni (R (.bool false) b) (Fa b 432 a 0 λ c=>Ld b 20 c λ c=>Ta b c 20 3 true λ c=>aW c λ _ c=>Cd c (R (.bool true) b) (Fa b 432 a 0 λ c=>Ld b 20 c λ c=>Ta b c 20 575 true λ c=>aW c λ _ c=>Cd c (R (.bool true) b) (Fa b 432 a 0 λ c=>Ld b 20 c λ c=>Ta b c 20 577 true λ c=>aW c λ _ c=>Cd c (R (.bool true) b) (Fa b 432 a 0 λ c=>Ld b 20 c λ c=>Ta b c 20 21 true λ c=>aW c λ _ c=>Cd c (R (.bool true) b) (Fa b 432 a 0 λ c=>Ld b 20 c λ c=>Ta b c 20 2 true λ c=>aW c λ _ c=>Cd c (R (.bool true) b) (Fa b 432 a 0 λ c=>Ld b 20 c λ c=>Ta b c 20 461 true λ c=>aW c λ _ c=>Cd c (R (.bool true) b) (Fa b 432 a 0 λ c=>Ld b 20 c λ c=>Ta b c 20 5 true λ c=>aW c λ _ c=>Cd c (R (.bool true) b) (Fa b 432 a 0 λ c=>Ld b 20 c λ c=>Ta b c 20 582 true λ c=>aW c λ _ c=>Cd c (R (.bool true) b) (Fa b 432 a 0 λ a=>Ld b 20 a λ a=>Ta b a 20 523 true λ a=>aW a λ _ a=>Cd a (R (.bool true) b) (R (.bool false) b)))))))))))->Cf h 353 #[a] R:=mS Tryz.func353 (Z (Q (Z (C bG (Z (Z (C bG (Z (Z (C bG (Z (Z (C bG (Z (Z (C bG (Z (Z (C bG (Z (Z (C bG (Z PO))))))))))))))))))))) bG))
def Tp:(Bx h 432 a λ a b=>Fa b 432 a 0 λ c=>Ld b 20 c λ c=>ce b 20 c ni (R (.bool false) b) (Fa b 432 a 0 λ a=>Ld b 20 a λ a=>Ta b a 20 241 true λ a=>aW a λ _ a=>R a b))->Cf h 354 #[a] R:=mS Tryz.func354 tN
def Uh:(Bx h 432 a λ a b=>Fa b 432 a 0 λ a=>Ld b 20 a λ a=>Ta b a 20 242 true λ a=>aW a λ _ a=>Cd a (R (.bool true) b) (R (.bool false) b))->Cf h 355 #[a] R:=mS Tryz.func355 wa
def Ty:(Bx h 432 a λ a b=>Fa b 432 a 0 λ a=>Ld b 20 a λ a=>Eb b .eql 20 false true a ni λ a=>R a b)->Cf h 356 #[a] R:=mS Tryz.func356 cX
def TB:(Bx h 432 a λ a b=>Fa b 432 a 0 λ c=>Ld b 20 c λ c=>ce b 20 c ni (R (.bool false) b) (Fa b 432 a 0 λ a=>Ld b 20 a λ a=>Ta b a 20 9 true λ a=>aW a λ _ a=>R a b))->Cf h 357 #[a] R:=mS Tryz.func357 tN
inductive Tr:Value->Prop where|nil:Tr ni|bool{v:Value}:Tr (.iface 4 v)|int{v:Value}:Tr (.iface 2 v)|flt{v:Value}:Tr (.iface 31 v)|str{v:Value}:Tr (.iface 9 v)|lst{v:Value}:Tr (.iface 241 v)|map{v:Value}:Tr (.iface 242 v)
def dz(U:Nat):Value->Bool|.iface i _=>i==U|_=>false
theorem Tr.one(B:Tr a):aG a=true:=by cases B<;>rfl
def PV(T:aK)(J G:Value):Prop:=∃b e,J=.iface 362 (aB b)/\T b=aE #[G] e
theorem PV.mono(O:I.le J)(B:PV I a b):PV J a b:=zcG
theorem dZ(Z:aN I h)(L:∀b U,aD I h I U->R (co b) U):Cf h 118 #[] R:=by refine Ur (rA ?_);exact L _ _ (aP Z)
theorem gn(Z:aN I h)(l:aG a=true)(L:∀J v U,aD I h v U->PV v J a->R J U):Cf h 130 #[a] R:=by refine RX (rA ?_);refine H5 (rA ?_);refine Hm (rB l ?_);obtain⟨f,i⟩:=aC.one (show aD I h I (aO ((h.push (aV #[] 348)).push (aV #[ni] 432)) (h.size+1) 0 a)from aP Z) (b:=h.size+1) zaa;exact L _ _ _ f ⟨_,432,rfl,aK.one_eq Bk⟩
theorem e7(Z:aN I h)(l:aG a=true)(L:∀U,aD I h I U->R a U):Cf h 358 #[.agg #[a]] R:=by refine RJ (rB l ?_);exact zaC
theorem iG(Z:aN I h)(L:∀U,aD I h I U->R a U):Cf h 350 #[.agg #[.iface 9 a]] R:=by refine Th (rA ?_);exact zaC
theorem ig(Z:aN I h)(l:Tr a)(L:∀U,aD I h I U->R (.bool (dz 4 a)) U):Cf h 351 #[.agg #[a]] R:=by apply Td;exact zaM
theorem fQ(Z:aN I h)(l:Tr a)(L:∀U,aD I h I U->R (.bool (dz 241 a)) U):Cf h 354 #[.agg #[a]] R:=by apply Tp;exact zaM
theorem gK(Z:aN I h)(l:Tr a)(L:∀U,aD I h I U->R (.bool (dz 242 a)) U):Cf h 355 #[.agg #[a]] R:=by apply Uh;exact zaM
theorem f6(Z:aN I h)(l:Tr a)(L:∀U,aD I h I U->R (.bool (match a with|.nilIface=>true|_=>false)) U):Cf h 356 #[.agg #[a]] R:=by apply Ty;exact zaM
theorem ew(Z:aN I h)(l:Tr a)(L:∀U,aD I h I U->R (.bool (dz 9 a)) U):Cf h 357 #[.agg #[a]] R:=by apply TB;exact zaM
theorem e8(Z:aN I h)(l:Tr a)(L:∀U,aD I h I U->R (.bool (dz 31 a)) U):Cf h 352 #[.agg #[a]] R:=by apply Tn;exact zaM
theorem f4(Z:aN I h)(l:Tr a)(L:∀U,aD I h I U->R (.bool (dz 2 a)) U):Cf h 353 #[.agg #[a]] R:=by apply SW;exact zaM
end Go.Proofs.YtgmgmmoofjikiaaGreat
