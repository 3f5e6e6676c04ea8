/- Proved here: steps on the way to FnStringSetHistorySaid (the last file has the statement). There are no conditions. -/
import Derived.Test.YtgmgmmoofjikiaaGreatPa
import Derived.Lib.Bytealg
import Derived.Laws.IdiomRangeMap
set_option linter.all false
set_option maxHeartbeats 1000000
namespace Go.Proofs.YtgmgmmoofjikiaaGreat
open Go.Eng
variable{a b c d e f g i j k p q r s:Value}{m n o l t u v:Nat}{I J:aK}{h H:Heap}{R:KV}{z y:bn}{x w:bW}{S T:bF}{A:Addr}{K N:cK}{E F:bU}{G M:El}{V W:ex}{α:Type}
def S0:(Cf h 271 #[a,b] λ a b=>R a b)->Cf h 250 #[a,b] R:=mS Tryz.func250 cX
def TS:(Xg h 278 #[a,b] λ a b=>R a b)->Cf h 271 #[a,b] R:=mS Tryz.func271 cX
def RM:(Bd h 348 #[] λ c=>Bx h 348 c λ c d=>Mi d 346 c λ c=>Cf d 272 #[c,a,b] λ a b=>R a b)->Cf h 252 #[a,b] R:=mS Tryz.func252 cX
def Rw:(Iv h b "IsFloat" #[] λ d e=>Cd d (Iv e c "IsFloat" #[] λ a d=>cD d a (Iv d c "IsInt" #[] λ a d=>Cd a (Iv d b "AsFloat" #[] λ a b=>Iv b c "AsInt" #[] λ b c=>Cn c 2 31 b λ b=>Cf c 279 #[a,b] λ a b=>R a b) (R (aR (-1)) d)) (Iv d b "AsFloat" #[] λ a b=>Iv b c "AsFloat" #[] λ b c=>Cf c 279 #[a,b] λ a b=>R a b)) (Iv e c "IsFloat" #[] λ d e=>Cd d (Iv e b "IsInt" #[] λ a d=>Cd a (Iv d b "AsInt" #[] λ a b=>Cn b 2 31 a λ a=>Iv b c "AsFloat" #[] λ b c=>Cf c 279 #[a,b] λ a b=>R a b) (R i1 d)) (Iv e b "IsInt" #[] λ d e=>Cd d (Iv e c "IsInt" #[] λ a d=>cD d a (R (aR (-1)) d) (Iv d b "AsInt" #[] λ a b=>Iv b c "AsInt" #[] λ b c=>Cf c 280 #[a,b] λ a b=>R a b)) (Iv e c "IsInt" #[] λ d e=>Cd d (R i1 e) (Iv e b "IsString" #[] λ d e=>Cd d (Iv e c "IsString" #[] λ a d=>cD d a (R (aR (-1)) d) (Iv d b "AsString" #[] λ a b=>Iv b c "AsString" #[] λ b c=>Cf c 250 #[a,b] λ a b=>R a b)) (Iv e c "IsString" #[] λ d e=>Cd d (R i1 e) (Iv e b "IsBool" #[] λ d e=>Cd d (Iv e c "IsBool" #[] λ a d=>cD d a (R (aR (-1)) d) (Iv d b "AsBool" #[] λ a b=>Iv b c "AsBool" #[] λ b c=>Cf c 281 #[a,b] λ a b=>R a b)) (Iv e c "IsBool" #[] λ d e=>Cd d (R i1 e) (Iv e b "IsList" #[] λ d e=>Cd d (Iv e c "IsList" #[] λ d e=>cD e d (R (aR (-1)) e) (Iv e b "AsListUsing" #[a] λ b d=>Nc a<|Iv d c "AsListUsing" #[a] λ c d=>Nc a<|Cf d 282 #[a,b,c] λ d e=>Dg e (cH a c) λ c=>Dg c (cH a b) λ a=>R d a)) (Iv e c "IsList" #[] λ d e=>Cd d (R i1 e) (Iv e b "IsMap" #[] λ d e=>Cd d (Iv e c "IsMap" #[] λ d e=>cD e d (R (aR (-1)) e) (Iv e b "AsMapUsing" #[a] λ b d=>Nc a<|Iv d c "AsMapUsing" #[a] λ c d=>Nc a<|Cf d 283 #[a,b,c] λ d e=>Dg e (cH a c) λ c=>Dg c (cH a b) λ a=>R d a)) (Iv e c "IsMap" #[] λ a d=>Cd a (R i1 d) (Iv d b "IsNull" #[] λ a b=>Cd a (Iv b c "IsNull" #[] λ a b=>cD b a (R (aR (-1)) b) (R i0 b)) (Iv b c "IsNull" #[] λ a b=>Cd a (R i1 b) (R i0 b)))))))))))))))->Cf h 272 #[a,b,c] R:=mS Tryz.func272 (Z (Q (Z (C (Q oL bG) oL)) (Q qX (Q qX (Q qX (Q (Z (C (Q cg pY) cg)) (Q (Z (C (Q cg pY) cg)) (Q qX bG))))))))
def QZ:(Bx h 369 a λ a c=>Bx c 369 b λ b c=>Ld c 369 a λ a=>Ld c 369 b λ b=>Cf c 230 #[a,b] λ a b=>Bi b .lss 3 a i0 λ a=>R a b)->Cf h 202 #[a,b] R:=mS Tryz.func202 cX
def UV:(Bx h 369 a λ a c=>Bx c 369 b λ b c=>Fa c 369 a 0 λ d=>Ld c 87 d λ d=>bx c 87 d nilp (Fa c 369 b 0 λ d=>Ld c 87 d λ d=>ce c 87 d nilp (R (aR (-1)) c) (Fa c 369 a 0 λ a=>Ld c 87 a λ a=>Nc a<|Ld c 9 a λ a=>Fa c 369 b 0 λ b=>Ld c 87 b λ b=>Nc b<|Ld c 9 b λ b=>Cf c 250 #[a,b] λ a b=>R a b)) (Fa c 369 b 0 λ d=>Ld c 87 d λ d=>bx c 87 d nilp (R i1 c) (Fa c 369 a 1 λ d=>Ld c 365 d λ d=>bx c 365 d nilp (Fa c 369 b 1 λ d=>Ld c 365 d λ d=>ce c 365 d nilp (R (aR (-1)) c) (Fa c 369 a 1 λ a=>Ld c 365 a λ a=>Nc a<|Ld c 441 a λ a=>Fa c 369 b 1 λ b=>Ld c 365 b λ b=>Nc b<|Ld c 441 b λ b=>Cf c 251 #[a,b] λ a b=>R a b)) (Fa c 369 b 1 λ d=>Ld c 365 d λ d=>bx c 365 d nilp (R i1 c) (Fa c 369 a 2 λ d=>Ld c 366 d λ d=>bx c 366 d nilp (Fa c 369 b 2 λ d=>Ld c 366 d λ d=>ce c 366 d nilp (R (aR (-1)) c) (Fa c 369 a 2 λ a=>Ld c 366 a λ a=>Nc a<|Ld c 228 a λ a=>Fa c 369 b 2 λ b=>Ld c 366 b λ b=>Nc b<|Ld c 228 b λ b=>Cf c 252 #[a,b] λ a b=>R a b)) (Fa c 369 b 2 λ d=>Ld c 366 d λ d=>bx c 366 d nilp (R i1 c) (Fa c 369 a 3 λ d=>Ld c 367 d λ d=>bx c 367 d nilp (Fa c 369 b 3 λ d=>Ld c 367 d λ d=>ce c 367 d nilp (R (aR (-1)) c) (Fa c 369 a 3 λ d=>Ld c 367 d λ d=>Nc d<|Ld c 3 d λ d=>Fa c 369 b 3 λ e=>Ld c 367 e λ e=>Nc e<|Ld c 3 e λ e=>bv c .lss 3 d e (R (aR (-1)) c) (Fa c 369 a 3 λ a=>Ld c 367 a λ a=>Nc a<|Ld c 3 a λ a=>Fa c 369 b 3 λ b=>Ld c 367 b λ b=>Nc b<|Ld c 3 b λ b=>Eb c .eql 3 false false a b λ a=>Cd a (R i0 c) (R i1 c)))) (Fa c 369 b 3 λ a=>Ld c 367 a λ a=>bx c 367 a nilp (R i1 c) (R i0 c)))))))))->Cf h 230 #[a,b] R:=mS Tryz.func230 (Z (Q tc (Q tc (Q tc (Q (Z (C (Q cg (Q (Q s6 (C bG nJ)) bG)) cg)) bG)))))
noncomputable def tt:Func:=P.funcs[278]?.getD default
theorem F6:P.funcs[278]?=some tt:=zag
theorem GS:(tt.name== "runtime.NumGoroutine")=false:=zag
theorem IK:tt.body.isNone=true:=zag
theorem G2:(Extern.findNext tt).isNone=true:=zag
theorem Hr:Extern.find tt=some Extern.BytealgCompare.compare:=zag
theorem Hu:Xg h 278 #[aU S,aU T] R=R (aR (Extern.BytealgCompare.cmp S T)) h:=by
 have w:∀E:World,(callFunc 278 #[aU S,aU T]).run P E=.ok (.value (aR (Extern.BytealgCompare.cmp S T))) E:=by intro E;rw[kY F6 GS IK G2 Hr];rfl
 apply propext;constructor
 ·intro W;obtain⟨J,Z,y,N⟩:=W (eL h) rfl;rw[w]at y;injection y with A z;injection A with c;subst c;subst z;exact N.1
 ·intro Y E M;exact⟨_,E,w E,by rw[M];exact⟨Y,Sm.refl _⟩⟩
abbrev da(a b:bF):Int:=Extern.BytealgCompare.cmp a b
theorem lX(L:R (aR (da S T)) h):Cf h 250 #[aU S,aU T] R:=by apply S0;apply TS;rw[Hu];exact L
theorem oH(Z:aN I h)(i:PV I b (bE S))(p:PV I c (bE T))(L:∀U,aD I h I U->R (aR (da S T)) U):Cf h 272 #[a,b,c] R:=by obtain⟨N,v,rfl,i⟩:=i;obtain⟨c,t,rfl,p⟩:=p;apply Rw;have s0:aD I h I h:=aC.refl Z;refine rC (s0.sat _ _ i).c (s0.sat _ _ p).c ?_;refine e8 s0.sat .str λ y v=>?_;have s:=s0.trans v;simp only[dz];refine rC (s.sat _ _ i).c (s.sat _ _ p).c ?_;refine e8 s.sat .str λ N P=>?_;have C:=s.trans P;simp only[dz];refine rC (C.sat _ _ i).c (C.sat _ _ p).c ?_;refine f4 C.sat .str λ K r=>?_;have n:=C.trans r;simp only[dz];refine rC (n.sat _ _ i).c (n.sat _ _ p).c ?_;refine f4 n.sat .str λ t q=>?_;have B:=n.trans q;simp only[dz];refine rC (B.sat _ _ i).c (B.sat _ _ p).c ?_;refine ew B.sat .str λ Q D=>?_;have o:=B.trans D;simp only[dz];refine rC (o.sat _ _ i).c (o.sat _ _ p).c ?_;refine ew o.sat .str λ T M=>?_;have O:=o.trans M;simp only[dz];refine rC (O.sat _ _ i).c (O.sat _ _ p).c ?_;refine iG O.sat λ B P=>?_;have e:=O.trans P;refine rC (e.sat _ _ i).c (e.sat _ _ p).c ?_;refine iG e.sat λ N Y=>?_;have g:=e.trans Y;refine rA ?_;exact lX (L _ g)
theorem uG(Z:aN I h)(i:PV I a (bE S))(p:PV I b (bE T))(L:∀U,aD I h I U->R (aR (da S T)) U):Cf h 252 #[a,b] R:=by refine RM (rA ?_);refine oH (show aD I h I _ from aP Z).sat i p λ y v=>L _ (aC.trans (aP Z) v)
def PE(T:aK)(J:bW):El->Prop|.fld A=>∃b,J=[aB b,nilp,nilp,nilp]/\∃e,T b=aE #[aU A] e|.val A=>∃b,J=[nilp,nilp,aB b,nilp]/\∃e w,T b=aE #[w] e/\PV T w (bE A)
theorem PE.mono(O:I.le J):∀{e:El},PE I x e->PE J x e|.fld _,⟨u,p,e,j⟩=>⟨u,p,e,O _ _ j⟩|.val _,⟨u,p,e,w,j,U⟩=>⟨u,p,e,w,O _ _ j,U.mono O⟩
def bQ:El->El->Int|.fld a,.fld b=>da a b|.fld _,.val _=>-1|.val _,.fld _=>1|.val a,.val b=>da a b
theorem gP(Z:aN I h)(Y:PE I x G)(j:PE I w M)(L:∀U,aD I h I U->R (aR (bQ G M)) U):Cf h 230 #[.agg x.toArray,.agg w.toArray] R:=by
 apply UV;cases G with
  |fld A=>
   obtain⟨x,rfl,U,y⟩:=Y;cases M with
    |fld C=>obtain⟨H,rfl,z,N⟩:=j;have o:=Z.dom y;have g:=Z.dom N;refine rC (Z _ _ y).c (Z _ _ N).c ?_;exact lX (L _ (aP Z))
    |val C=>obtain⟨H,rfl,z,w,N,e⟩:=j;refine rC (Z _ _ y).c (Z _ _ N).c ?_;exact zaC
  |val A=>
   obtain⟨x,rfl,U,G,y,a⟩:=Y;cases M with
    |fld C=>obtain⟨H,rfl,z,N⟩:=j;refine rC (Z _ _ y).c (Z _ _ N).c ?_;exact zaC
    |val C=>obtain⟨H,rfl,z,l,N,b⟩:=j;have o:=Z.dom y;have g:=Z.dom N;refine rC (Z _ _ y).c (Z _ _ N).c ?_;refine uG (show aD I h I _ from aP Z).sat a b λ K r=>rA ?_;exact za0
theorem eN(Z:aN I h)(Y:PE I x G)(j:PE I w M)(p:x.length=4)(O:w.length=4)(L:∀U,aD I h I U->R (.bool (decide (bQ G M<0))) U):Cf h 202 #[.agg x.toArray,.agg w.toArray] R:=by obtain⟨F,B,P,v,rfl⟩:∃G M t f,x=[G,M,t,f]:=zbM;obtain⟨A,T,H,u,rfl⟩:∃G M t f,w=[G,M,t,f]:=zbN;refine QZ (rA ?_);exact zar
def Ve:(Bx h 35 a λ a b=>Ld b 35 a λ a=>Cf b 79 #[a] λ a b=>Cf b 130 #[a] λ a b=>R a b)->Cf h 151 #[a] R:=mS Tryz.func151 cX
def Qy:(Bx h 153 a λ a b=>Al b 369 λ b c=>Fa c 153 a 0 λ d=>Ld c 3 d λ d=>ce c 3 d i1 (Ld c 153 a λ a=>Cf c 235 #[a] λ a c=>bH c 441 a λ a c=>Bd c 369 #[(1,a)] λ a=>Sr c 369 b a λ a=>Rv a 369 b λ b=>R b a) (ce c 3 d i2 (Fa c 153 a 4 λ a=>Ld c 35 a λ a=>Cf c 151 #[a] λ a c=>bH c 228 a λ a c=>Bd c 369 #[(2,a)] λ a=>Sr c 369 b a λ a=>Rv a 369 b λ b=>R b a) (ce c 3 d (aR 3) (Fa c 153 a 5 λ a=>Ld c 3 a λ a=>bH c 3 a λ a c=>Bd c 369 #[(3,a)] λ a=>Sr c 369 b a λ a=>Rv a 369 b λ b=>R b a) (Fa c 153 a 1 λ a=>Ld c 9 a λ a=>bH c 9 a λ a c=>Bd c 369 #[(0,a)] λ a=>Sr c 369 b a λ a=>Rv a 369 b λ b=>R b a))))->Cf h 190 #[a] R:=mS Tryz.func190 (Z (Q (Z (B (Z (C cX (Z (C cX (Z (C cX L)))))))) cX))
theorem uU(Z:aN I h)(L:∀J v U,aD I h v U->PV v J (bE S)->R J U):Cf h 151 #[gt (aU S)] R:=by refine Ve (rA ?_);refine qO (show aD I h I _ from aP Z).sat λ y m=>?_;have s:aD I h I y:=aC.trans (aP Z) m;refine rA ?_;exact gn s.sat rfl λ J v N P p=>L _ _ _ (s.trans P) p
theorem z2(Z:aN I h)(L:∀J v U,aD I h v U->J.length=4->PE v J G->R (.agg J.toArray) U):Cf h 190 #[.agg (elC G).toArray] R:=by
 apply Qy;cases G with
  |fld A=>
   simp only[elC];refine rA ?_;refine L [aB (h.size+1+1),nilp,nilp,nilp] _ _ (aC.one (b:=h.size+1+1) (?_:aD I h I _) zaa).1 rfl ⟨h.size+1+1,rfl,9,aK.one_eq ?_⟩
   ·exact aP Z
   ·exact Bk
  |val A=>
   simp only[elC];refine rA ?_;refine uU (show aD I h I _ from aP Z).sat λ J v N Y p=>?_;have g:aD I h v N:=aC.trans (aP Z) Y;have K:=Y.size;(try simp only[bJ]at K);obtain⟨u,y,rfl,j⟩:=p;have H:=Y.blk (b:=h.size+1) Bk id;refine rB H.b ?_;have V:v (h.size+1)=none:=(Y.dom _ (by(try simp only[bJ]);exact zaa) id).trans (Z.fresh zaa);have a:v N.size=none:=g.fresh bu;have n:∀F,aD I h v F->blk F N.size=aE #[.iface 362 (aB u)] 228->R (.agg #[nilp,nilp,aB N.size,nilp]) F:=by intro F E O;obtain⟨f,i⟩:=E.one (b:=N.size) zaa;exact L [nilp,nilp,aB N.size,nilp] _ _ f rfl ⟨N.size,rfl,228,_,aK.one_eq O,u,y,rfl,i _ _ j⟩
   refine n _ ?_ ?_
   ·repeat'(first|with_reducible exact g|with_reducible refine aC.push ?_ _|with_reducible refine aC.put ?_ (Or.inl ?_) ?_|exact V|exact a|omega)
   ·exact Bk
def R7:(Bs h 252 0 #[] λ b c=>Ln c 119 a λ d=>Lp (∃(e:V2)(f:N2),e b i0 c/\∀b c g,e b c g->(bv g .lss 3 c d (Ia g 119 a c λ a=>Ld g 153 a λ a=>bH g 153 a λ a d=>Ld d 153 a λ a=>Cf d 190 #[a] λ a d=>Bs d 252 1 #[(0,a)] λ a d=>Ap d 252 b a λ a d=>Bi d .add 3 c i1 λ i=>(e a i d/\f a i d<f b c g)) (R b g))))->Cf h 132 #[a] R:=mS Tryz.func132 Ql
inductive Rows(r:bW->α->Prop):bW->List α->Prop|nil:Rows r [] []|cons{row a vs bs}:r row a->Rows r vs bs->Rows r (row++vs) (a::bs)
theorem Rows.mono{r p:bW->α->Prop}(O:∀J a,r J a->p J a):∀{g bs},Rows r g bs->Rows p g bs|_,_,.nil=>.nil|_,_,.cons a u=>.cons (O _ _ a) (u.mono O)
theorem Rows.snoc{W:bW->α->Prop}{B:α}(O:W x B):∀{g bs},Rows W g bs->Rows W (g++x) (bs++[B])|_,_,.nil=>bS (Rows.cons O .nil)|_,_,.cons X q=>by rw[List.append_assoc];exact .cons X (q.snoc O)
def bM(T:aK)(J:bW)(e:El):Prop:=J.length=4/\PE T J e
theorem bM.mono(O:I.le J)(B:bM I x G):bM J x G:=⟨B.1,B.2.mono O⟩
theorem PE.one:∀{e:El},PE I x e->∀S∈x,aG S=true|.fld _,⟨b,p,_⟩=>by subst p;exact zac|.val _,⟨b,p,_⟩=>by subst p;exact zac
def lI(T:aK)(J:Value)(w:bU):Prop:=∃g,cd T J 4 w.length g/\Rows (bM T) g w
theorem lI.mono(O:I.le J)(B:lI I a E):lI J a E:=by obtain⟨g,f,i⟩:=B;exact⟨g,f.mono O,i.mono λ _ _ X=>X.mono O⟩
theorem qq(C:El):(elC C).length=11:=by cases C<;>rfl
theorem AZ{T:aK}(Z:aN T h)(p:PathR T a E)(hR:∀X v U,aD T h v U->lI v X E->R X U):Cf h 132 #[a] R:=by
 obtain⟨B,V,rfl,t,-,D,-,k⟩:=p;refine R7 (rA ?_);refine⟨λ X a Q=>∃(M:Nat)(V:aK)(g:bW),a=aR M/\M<=E.length/\aD T h V Q/\aQ h.size V Q 369 4 X M g/\Rows (bM V) g (E.take M)/\(∀S∈g,aG S=true),λ _ a _=>match a with|.int _ M=>E.length-M.toNat|_=>0,?_,?_⟩
 ·refine⟨0,T,[],rfl,zaa,aP Z,?_,.nil,zab⟩;exact aQ.empty zaa zaP (Z.fresh zaa)
 rintro X _ Q⟨M,V,g,rfl,d,j,W,m,U⟩;have e:=W.one;have a:=j.size;refine rA ?_;refine⟨λ y=>?_,λ y=>?_⟩
 ·have o:M<E.length:=bS y;obtain⟨u,s,rfl,r⟩:=k zaa;have S5:aN T Q:=λ L q p=>j.sat L q (j.le L q p);have b:aN V Q:=j.sat;have d:=gD (c:=elC) (m:=11) S5 qq r o zaa;have i:∀D,D<11->aI Q u (s+M*11+D)=(elC E[M])[D]?:=λ D K=>cj (c:=elC) (m:=11) S5 qq r o K;have p:∀D,aD T h V D->aQ h.size V D 369 4 X M g->Cf D 190 #[.agg (elC E[M]).toArray] λ v a=>Bs a 252 1 #[(0,v)] λ C N=>Ap N 252 X C λ P G=>Bi G .add 3 (aR M) i1 λ L=>((∃(M:Nat)(V:aK)(g:bW),L=aR M/\M<=E.length/\aD T h V G/\aQ h.size V G 369 4 P M g/\Rows (bM V) g (E.take M)/\(∀S∈g,aG S=true))/\(match L with|.int _ M=>E.length-M.toNat|_=>0)<E.length-M):=by
   intro D C s;refine z2 C.sat λ w L a P J Q=>?_;have a:=s.step P λ _ _=>id;have e:=C.trans P;have N:=Q.one;obtain⟨F,q,l,c,rfl⟩:∃B u t k,w=[B,u,t,k]:=by match w,J with|[B,u,t,k],_=>exact⟨B,u,t,k,rfl⟩
   refine rA ?_;refine bY gO rfl zaa zaa (v:=M) (c:=g) (u:=h.size) (T:=L) Bk (Ow a) (e.push _).sat rfl N zaa (by have:=e.size;(try simp only[bJ]);exact zaa) ?_;intro s G s H V D;have Y:aD T h L G:=aC.touch (e.push _) H λ R z=>⟨.inl (a.1.block z).1,a.2 R z⟩;refine rA ?_;refine⟨⟨M+1,L,g++[F,q,l,c],rfl,zaa,Y,s,?_,?_⟩,zaa⟩
   ·have:E.take (M+1)=E.take M++[E[M]]:=by rw[List.take_add_one,List.getElem?_eq_getElem o];exact zab
    rw[this];exact Rows.snoc ⟨rfl,Q⟩ (m.mono λ _ _ B=>B.mono P.le)
   ·intro S O;rcases List.mem_append.1 O with O|O
    ·exact U S O
    ·exact N S O
  have C:=i 1 zaa;have l:=i 2 zaa;have J:=i 3 zaa;have c:=i 4 zaa;have Y:=i 5 zaa;have H:=i 6 zaa;have K:=i 7 zaa;have k:=i 8 zaa;have z:=i 9 zaa;have A:=i 10 zaa;cases x:E[M]with|fld Z=>exact zbP|val Z=>exact zbP
 ·have x:M=E.length:=by have:¬M<E.length:=bS y;exact zaa
  subst x;rw[List.take_length]at m;obtain⟨P,i,c⟩:=W.frz j bu zaa U;exact hR _ _ _ P ⟨g,c,m.mono λ _ _ B=>B.mono i⟩
def Ha:(Bx h 369 b λ b d=>Ln d 271 a λ e=>Lp (∃(f:V2)(g:N2),f i0 e d/\∀d i j,f d i j->(bv j .lss 3 d i (Bi j .add 3 d i λ e=>Cn j 3 461 e λ e=>Bi j .shr 461 e (.int .u64 1) λ e=>Cn j 461 3 e λ e=>Ia j 271 a e λ a=>Ld j 369 a λ a=>Ld j 369 b λ b=>Cv j c #[a,b] λ a b=>bv b .lss 3 a i0 (Bi b .add 3 e i1 λ a=>(f a i b/\g a i b<g d i j)) (f d e b/\g d e b<g d i j)) (Bi j .lss 3 d e λ e=>aH j e (λ a b=>a c b) λ c f=>aH f e (λ b c=>b a c) λ a f=>aH f e (λ a b=>a d b) λ f g=>aH g e (λ b c=>Ia c 271 a f λ a=>b a c) λ a f=>aH f e (λ b c=>Ld c 369 a λ a=>b a c) λ a f=>aH f e (λ a c=>Ld c 369 b λ b=>a b c) λ b f=>aH f e (λ d e=>Cv e c #[a,b] λ a b=>d a b) λ a b=>aH b e (λ b c=>Eb c .eql 3 false true a i0 λ a=>b a c) λ a b=>Pk e a bf λ a=>R (bj d a) b))))->Cf h 228 #[a,b,c] R:=mS Tryz.func228 GK
def St:(Bx h 369 a λ a c=>Bx c 369 b λ b c=>Ld c 369 a λ a=>Ld c 369 b λ b=>Cf c 230 #[a,b] λ a b=>R a b)->Cf h 229 #[a,b] R:=mS Tryz.func229 cX
def ck(T:aK)(J:Value)(H:bU):Prop:=∃g:List bW,g.length=H.length/\cd T J 4 H.length g.flatten/\∀i(h:i<H.length)(U:i<g.length),bM T g[i] H[i]
theorem eD:∀(g:List bW)(V:∀X∈g,X.length=m)(i j:Nat)(d:i<g.length),j<m->g.flatten[i*m+j]?=g[i][j]?
 |B::H,V,0,j,_,K=>by rw[List.flatten_cons,List.getElem?_append_left (by rw[V B (.head _)];exact zaa)];exact zab
 |B::H,V,i+1,j,d,K=>by
  rw[List.flatten_cons,List.getElem?_append_right (by rw[V B (.head _),Nat.add_mul];exact zaa),V B (.head _)];have:(i+1)*m+j-m=i*m+j:=by rw[Nat.add_mul];exact zaa
  rw[this,eD H (λ X f=>V X (.tail _ f)) i j (bS d) K];exact zab
theorem vO(Z:aN I h)(Y:bM I x G)(j:bM I w M)(L:∀U,aD I h I U->R (aR (bQ G M)) U):Cf h 229 #[.agg x.toArray,.agg w.toArray] R:=by obtain⟨p,Y⟩:=Y;obtain⟨O,j⟩:=j;obtain⟨F,B,P,v,rfl⟩:∃G M t f,x=[G,M,t,f]:=zbM;obtain⟨A,T,H,u,rfl⟩:∃G M t f,w=[G,M,t,f]:=zbN;refine St (rA ?_);exact zar
@[go_sem] theorem Xi{k:KV->Heap->Prop}:Gd h bf true k R=R undef h:=wZ rfl
@[go_sem] theorem Xd{T:Value->Prop}:Pk bf a b T=T b:=by rw[x1];rfl
@[go_sem] theorem Xf{T:Value->Prop}:Pk bt a b T=T a:=by rw[x1];rfl
theorem yn(Z:aN I h)(p:ck I c E)(l:bM I x G)(a0:∀a b(j:b<E.length)(e:a<=b),bQ E[b] G<0->bQ (E[a]'(by omega)) G<0)(L:∀(i:Nat)U,aD I h I U->i<=E.length->(∀k(Y:k<E.length),k<i->bQ E[k] G<0)->(∀k(Y:k<E.length),i<=k->¬bQ E[k] G<0)->R (bj (aR i) (.bool (if d:i<E.length then decide (bQ E[i] G=0)else false))) U):Cf h 228 #[c,.agg x.toArray,.func (.func 229) #[] #[]] R:=by
 obtain⟨g,N,⟨a,V,rfl,t,-,D,-,R⟩,Q⟩:=p;obtain⟨D,C⟩:=l;obtain⟨A,T,q,j,rfl⟩:∃a b t f,x=[a,b,t,f]:=by match x,D with|[a,b,t,f],_=>exact⟨a,b,t,f,rfl⟩
 apply Ha;try simp(disch:=omega)only[go_sem,↓reduceIte]
 refine⟨λ H W N=>∃i D:Nat,H=aR i/\W=aR D/\i<=D/\D<=E.length/\aD I h I N/\blk N h.size=aE #[A,T,q,j] 369/\(∀k(Y:k<E.length),k<i->bQ E[k] G<0)/\(∀k(Y:k<E.length),D<=k->¬bQ E[k] G<0),λ H W _=>match H,W with|.int _ i,.int _ D=>D.toNat-i.toNat|_,_=>0,?_,?_⟩
 ·exact⟨0,E.length,rfl,rfl,by omega,by omega,aP Z,Bk,λ _ _ Y=>absurd Y (by omega),λ _ Y Z=>absurd Y (by omega)⟩
 rintro _ _ N⟨i,D,rfl,rfl,c,K,d,bt,z,P⟩;try simp(disch:=omega)only[go_sem,↓reduceIte]
 have U:=d.size;have V:∀k(Y:k<E.length),∃b s,a=some ⟨b,s,none⟩/\∃u q O J,bM I [u,q,O,J] E[k]/\aI N b (s+k*4)=some u/\aI N b (s+k*4+1)=some q/\aI N b (s+k*4+2)=some O/\aI N b (s+k*4+3)=some J:=by
  intro k Y;obtain⟨b,s,rfl,r⟩:=R (by omega);have l:k<g.length:=by omega
  have o:∀X∈g,X.length=4:=by intro X v;obtain⟨p,x,rfl⟩:=List.getElem_of_mem v;exact(Q p (by omega) x).1
  have e:=Q k Y l;have S:∀D,D<4->g.flatten[k*4+D]?=g[k][D]?:=λ D K=>eD g o k D l K;generalize g[k]=w at e S;obtain⟨u,q,O,J,rfl⟩:∃a b t f,w=[a,b,t,f]:=by match w,e.1 with|[a,b,t,f],_=>exact⟨a,b,t,f,rfl⟩
  have W:aN I N:=d.sat;have j:aI N b (s+k*4)=some u:=W.cell (r (k*4+0) u (by rw[S 0 (by omega)];rfl));have A:aI N b (s+k*4+1)=some q:=by rw[Nat.add_assoc];exact W.cell (r (k*4+1) q (by rw[S 1 (by omega)];rfl))
  have g:aI N b (s+k*4+2)=some O:=by rw[Nat.add_assoc];exact W.cell (r (k*4+2) O (by rw[S 2 (by omega)];rfl))
  have c:aI N b (s+k*4+3)=some J:=by rw[Nat.add_assoc];exact W.cell (r (k*4+3) J (by rw[S 3 (by omega)];rfl))
  exact⟨b,s,rfl,u,q,O,J,e,j,A,g,c⟩
 refine⟨λ y=>?_,λ y=>?_⟩
 ·have o:i<D:=by simpa using y
  have M:((i:Int)+D)/2=((i+D)/2:Nat):=by omega
  obtain⟨x,B⟩:∃x,x=(i+D)/2:=⟨_,rfl⟩;rw[<-B]at M;have B:x<E.length:=by omega
  obtain⟨b,s,rfl,u,q,O,J,e,v,w,F,m⟩:=V x B;rw[M];try simp(disch:=omega)only[go_sem,↓reduceIte,v,w,F,m,aA bt,Array.append_empty]
  refine vO d.sat e ⟨rfl,C⟩ λ W r=>?_;have n:=d.trans r;have Z:=r.blk bt id;try simp(disch:=omega)only[go_sem,↓reduceIte]
  refine⟨λ t=>?_,λ t=>?_⟩
  ·have T:bQ E[x] G<0:=by simpa using t
   refine⟨⟨x+1,D,rfl,rfl,by omega,K,n,Z,λ k Y R=>a0 k x B (by omega) T,P⟩,by omega⟩
  ·have T:¬bQ E[x] G<0:=by simpa using t
   refine⟨⟨i,x,rfl,rfl,by omega,by omega,n,Z,z,λ k Y R S=>T (a0 x k Y R S)⟩,by omega⟩
 ·have X:D=i:=by
   have:¬i<D:=by simpa using y
   omega
  subst X;by_cases l:D<E.length
  ·have h:decide ((D:Int)<(E.length:Int))=true:=by simpa using l
   obtain⟨b,s,rfl,u,q,O,J,e,v,w,F,m⟩:=V D l;try simp(disch:=omega)only[go_sem,↓reduceIte,h,v,w,F,m,aA bt,Array.append_empty]
   refine vO d.sat e ⟨rfl,C⟩ λ W r=>?_;try simp(disch:=omega)only[go_sem,↓reduceIte,h]
   have:=L D W (d.trans r) K z P;rw[dif_pos l]at this;have C:(bQ E[D] G==0)=decide (bQ E[D] G=0):=by rw[Bool.eq_iff_iff];simp
   rw[C];exact this
  ·have h:decide ((D:Int)<(E.length:Int))=false:=by simpa using l
   try simp(disch:=omega)only[go_sem,↓reduceIte,h]
   have:=L D N d K z P;rw[dif_neg l]at this;exact this
def BQ:(Sl h 271 a (some b) none none λ _=>Ln h 251 c λ d=>ce h 3 d i0 (R a h) (Ln h 271 a λ e=>Eb h .eql 3 false false b e λ f=>Cd f (A2 h 271 251 a c λ a b=>R a b) (Bi h .add 3 e d λ f=>Kp h 271 a λ g=>bv h .gtr 3 f g (Sl h 271 a none (some b) none λ f=>Bi h .add 3 e d λ e=>Bi h .sub 3 e b λ e=>A2 h 271 3 f e λ e f=>Sl f 271 e (some b) none none λ g=>Cy f 271 251 g c λ _ c=>Bi c .add 3 b d λ d=>Sl c 271 e (some d) none none λ d=>Sl c 271 a (some b) none none λ a=>Cy c 271 271 d a λ _ a=>R e a) (Bi h .add 3 e d λ f=>Sl h 271 a none (some f) none λ a=>Bi h .add 3 b d λ f=>Sl h 271 a (some f) none none λ f=>Xg h 253 #[c,f] λ f g=>cD g f (Bi g .add 3 b d λ d=>Sl g 271 a (some d) none none λ d=>Sl g 271 a (some b) none none λ e=>Cy g 271 271 d e λ _ d=>Sl d 271 a (some b) none none λ b=>Cy d 271 251 b c λ _ b=>R a b) (Sl g 271 a (some e) none none λ e=>Cy g 271 251 e c λ _ c=>Sl c 271 a (some b) none none λ b=>Cf c 254 #[b,d] λ _ b=>R a b)))))->Cf h 231 #[a,b,c] R:=mS Tryz.func231 II
theorem l8{D:Int}{r:IntKind}{T:Value->Prop}(W:P.underlying m=some (.slice n))(s:ez m=some o)(K:0<=D/\D<=l):Sl h m (bq u v l t) (some (.int r D)) none none T=T (bq u (if t=D.toNat then v else v+D.toNat*o) (l-D.toNat) (t-D.toNat)):=by
 rw[lk W s K];have:(if t=D.toNat then some (⟨u,v,none⟩:Addr)else(some ⟨u,v,none⟩:Option Addr).map (·.add (D.toNat*o)))=some ⟨u,if t=D.toNat then v else v+D.toNat*o,none⟩:=by
  split
  ·rfl
  ·rw[Option.map_some,fB]
 rw[this]
theorem iW{D:Int}{r:IntKind}{T:Value->Prop}(W:P.underlying m=some (.slice n))(s:ez m=some o)(K:0<=D/\D<=t):Sl h m (bq u v l t) none (some (.int r D)) none T=T (bq u v D.toNat t):=by
 rw[pk W s K];have:(if t=0 then some (⟨u,v,none⟩:Addr)else(some ⟨u,v,none⟩:Option Addr).map (·.add (0*o)))=some ⟨u,v,none⟩:=by
  split
  ·rfl
  ·rw[Nat.zero_mul];rfl
 rw[this,Nat.sub_zero,Nat.sub_zero]
theorem dS:((m:Int)+1).toNat=m+1:=zaa
theorem hM{D:Int}{r:IntKind}{T:Value->Prop}(K:0<=D/\D<=m):Sl h 271 (bq o l m n) (some (.int r D)) none none T=T (bq o (if n=D.toNat then l else l+D.toNat*4) (m-D.toNat) (n-D.toNat)):=l8 Tryz.underlying271 xm K
theorem mw{r:IntKind}{T:Value->Prop}:Sl h 271 (.slice none 0 m) (some (.int r 0)) none none T=T (.slice none 0 m):=by
 rw[lk Tryz.underlying271 xm zaa];have:(if m=(0:Int).toNat then(none:Option Addr)else(none:Option Addr).map (·.add ((0:Int).toNat*4)))=none:=by split<;>rfl
 rw[this];rfl
theorem oQ:A2 h 271 251 a b R=Ap h 271 a b R:=yE Tryz.underlying271 Tryz.underlying251
theorem pi{B:Option Addr}{T:Value->Prop}:Kp h 271 (.slice B m n) T=T (aR n):=sn Tryz.underlying271
theorem l6{D:Int}{r:IntKind}{T:Value->Prop}(K:0<=D/\D<=n):Sl h 271 (bq o l m n) none (some (.int r D)) none T=T (bq o l D.toNat n):=iW Tryz.underlying271 xm K
theorem no{P z:bW}(E:P.length=m)(j:x.length=n)(q:w.length=o)(Y:l=m+n+o):(P++x++(w++z)).take l=P++x++w:=by have:P++x++(w++z)=(P++x++w)++z:=zab;rw[this,List.take_left'];simp[E,j,q,Y,Nat.add_assoc]
theorem tV{w:cQ}(Z:aN I h)(W:aQ m I h 369 4 d v x)(u:o<=v)(D:v+1<=2147483647)(j:blk h l=aE w 369)(C:w.size=4)(y:∀S∈w.toList,aG S=true)(H:∀S∈x,aG S=true)(a0:m<=h.size)(i:∀g,d.ownBlock=some g->g≠l)(L:∀s U,aQ m I U 369 4 s (v+1) (x.take (o*4)++w.toList++x.drop (o*4))->ft h U d.ownBlock->aN I U->(s.ownBlock=d.ownBlock\/∃g,s.ownBlock=some g/\h.size<=g)->R s U):Cf h 231 #[d,aR o,bq l 0 1 1] R:=by
 have T:=W.1.1;have J:=W.1.2;by_cases K:o=v
 ·subst K;have e:∀s U,aQ m I U 369 4 s (o+1) (x++w.toList)->ft h U d.ownBlock->aN I U->(s.ownBlock=d.ownBlock\/∃g,s.ownBlock=some g/\h.size<=g)->R s U:=by intro s U B u t f;refine L s U ?_ u t f;rw[List.take_of_length_le zaa,List.drop_of_length_le zaa,List.append_nil];exact B
  rcases J with⟨rfl,rfl⟩|⟨g,V,X,rfl,s,z,G,a1,E,p⟩
  ·refine BQ (rG @hM @mw @oQ @pi @l6 @dS ?_);exact bY fj rfl zaa zaa j W Z C y zaa a0 e
  ·refine BQ (rG @hM @mw @oQ @pi @l6 @dS ?_);first|exact bY fj rfl zaa zaa j W Z C y zaa a0 e|exact⟨λ _=>bY fj rfl zaa zaa j W Z C y zaa a0 e,λ F=>absurd F zab⟩
 ·rcases J with⟨rfl,rfl⟩|⟨g,V,X,rfl,s,z,G,a1,E,p⟩
  ·exact zaa
  have f:g≠l:=i g rfl;have K:I g=none:=W.2 g rfl;have B:blk h g=aE X 369:=z;have M:=aF B;have m:=aF j;have P:∀D S,x[D]?=some S->aI h g D=some S:=zbB;have a2:∀r,r<=v*4->X.toList.take r=x.take r:=zcI;have a3:∀S∈x.drop (o*4),aG S=true:=λ S O=>H S (List.mem_of_mem_drop O);have q:X.toList.length=V*4:=bS E;have e:((o:Int)==(v:Int))=false:=by simp;exact zaa
  obtain⟨i0,_,E,H,-⟩:=eF k1;have a4:∀(u G F N M q:Nat)(T:KV),Xg h 253 #[bq l u F N,bq g G M q] T=T bf h:=λ u G F N M q T=>nH Fp E H j B (λ M=>f M.symm) zaa;apply BQ;by_cases T:V<v+1
  ·have G:decide ((V:Int)<(v:Int)+1)=true:=by simp;exact zaa
   refine rI @hM @mw @oQ @pi @l6 @dS e G ?_;refine BF fj rfl zaa zaa (r:=v+1-o) zaa (b:=x.take (o*4)) (by rw[List.length_take];exact zaa) ?_ zaa zaa zaa ?_
   ·exact zcc
   intro t H A u R m;rw[show o+(v+1-o)=v+1 from zaa]at u⊢;have W:H.toList.length=t*4:=bS A;have F:blk (h.push (aV H 369)) h.size=aE H 369:=zaq;have f:blk (h.push (aV H 369)) l=aE w 369:=by rw[cq,if_neg zaa];exact j
   have i:w.toList.length=4:=bS C;refine rD @hM @dS @Nat.zero_add ?_;refine ju fj F (i:=1) (Y:=w.toList) (Nat.min_eq_left zaa) zaa (λ D S O=>zcs) (by rw[i];exact zaa) y ?_;generalize N:(H.toList.take (o*4)++w.toList++H.toList.drop (o*4+w.toList.length))=p;have d:=dV (H:=p.toArray) F;have U:p.length=t*4:=by rw[<-N];simp;exact zaa
   refine rD @hM @dS @Nat.zero_add ?_;have q:blk (ey (h.push (aV H 369)) h.size p.toArray) g=aE X 369:=by rw[g6 zaa,cq,if_neg zaa];exact B
   have f:(x.drop (o*4)).length=(v-o)*4:=by rw[List.length_drop];exact zaa
   refine ju fj d (i:=v-o) (Y:=x.drop (o*4)) (Nat.min_eq_left zaa) zaa ?_ (by rw[f];simp only[List.size_toArray];exact zaa) a3 ?_
   ·exact zcn
   have J:=dV (H:=(p.toArray.toList.take ((o+1)*4)++x.drop (o*4)++p.toArray.toList.drop ((o+1)*4+(x.drop (o*4)).length)).toArray) d;have z:(p.toArray.toList.take ((o+1)*4)++x.drop (o*4)++p.toArray.toList.drop ((o+1)*4+(x.drop (o*4)).length)).take ((v+1)*4)=x.take (o*4)++w.toList++x.drop (o*4):=by
    have A:p.toArray.toList.take ((o+1)*4)=x.take (o*4)++w.toList:=by show p.take _=_;rw[<-N,m,List.take_left'];rw[List.length_append,List.length_take,i];exact zaa
    rw[A,List.append_assoc,no (m:=o*4) (n:=4) (o:=(v-o)*4)]<;>first|omega|(rw[List.length_take];omega)
   generalize m:(p.toArray.toList.take ((o+1)*4)++x.drop (o*4)++p.toArray.toList.drop ((o+1)*4+(x.drop (o*4)).length))=F at J z⊢;have T:F.length=t*4:=by rw[<-m];simp;exact zaa
   have E:aD I h I (ey (ey (h.push (aV H 369)) h.size p.toArray) h.size F.toArray):=aC.setc (aC.setc (aC.push (aC.refl Z) _) (.inl bu) (Z.fresh bu)) (.inl bu) (Z.fresh bu);refine L _ _ ⟨⟨?_,.inr ⟨h.size,t,F.toArray,rfl,a0,J,u,R,bS T,z⟩⟩,λ W q=>by cases q;exact Z.fresh bu⟩ ⟨E.size,λ r Y _=>E.same r Y id⟩ E.sat (.inr ⟨_,rfl,Nat.le_refl _⟩);rw[List.length_append,List.length_append,List.length_take,i,f];exact zaa
  ·have G:decide ((V:Int)<(v:Int)+1)=false:=by simp;exact zaa
   try simp(disch:=omega)only[go_sem,↓reduceIte,hM,mw,oQ,pi,l6,dS,e,G,a4]
   rw[show v+1-(o+1)=v-o from zaa];have i:w.toList.length=4:=bS C;have f:(x.drop (o*4)).length=(v-o)*4:=by rw[List.length_drop];exact zaa
   refine ju fj B (i:=v-o) (Y:=x.drop (o*4)) (Nat.min_eq_right zaa) zaa ?_ (by rw[f];exact zaa) a3 ?_
   ·intro D S O;rw[List.getElem?_drop]at O;exact P _ S O
   have d:=dV (H:=(X.toList.take ((o+1)*4)++x.drop (o*4)++X.toList.drop ((o+1)*4+(x.drop (o*4)).length)).toArray) B;have N:∀Q:bW,(X.toList.take ((o+1)*4)++x.drop (o*4)++Q).take (o*4)=x.take (o*4)/\(X.toList.take ((o+1)*4)++x.drop (o*4)++Q).drop (o*4+4)=x.drop (o*4)++Q:=by
    intro Q;have C:(X.toList.take ((o+1)*4)).length=(o+1)*4:=by rw[List.length_take];exact zaa
    refine⟨?_,?_⟩
    ·rw[List.append_assoc,List.take_append_of_le_length zaa,List.take_take,Nat.min_eq_left zaa,a2 _ zaa]
    ·rw[List.append_assoc,show o*4+4=(X.toList.take ((o+1)*4)).length from zaa,List.drop_left]
   have A:=N (X.toList.drop ((o+1)*4+(x.drop (o*4)).length));generalize t:(X.toList.take ((o+1)*4)++x.drop (o*4)++X.toList.drop ((o+1)*4+(x.drop (o*4)).length))=p at d A⊢;have U:p.length=V*4:=by rw[<-t];simp;exact zaa
   have H:blk (ey h g p.toArray) l=aE w 369:=by rw[g6 zaa];exact j
   refine rI @hM @mw @oQ @pi @l6 @dS e G ?_;refine ju fj d (i:=1) (Y:=w.toList) (Nat.min_eq_left zaa) zaa (λ D S O=>zct) (by rw[i];simp only[List.size_toArray];exact zaa) y ?_;have J:=dV (H:=(p.toArray.toList.take (o*4)++w.toList++p.toArray.toList.drop (o*4+w.toList.length)).toArray) d;have z:(p.toArray.toList.take (o*4)++w.toList++p.toArray.toList.drop (o*4+w.toList.length)).take ((v+1)*4)=x.take (o*4)++w.toList++x.drop (o*4):=by rw[i];show(p.take (o*4)++w.toList++p.drop (o*4+4)).take _=_;rw[A.1,A.2,no (m:=o*4) (n:=4) (o:=(v-o)*4)]<;>first|omega|(rw[List.length_take];omega)
   generalize m:(p.toArray.toList.take (o*4)++w.toList++p.toArray.toList.drop (o*4+w.toList.length))=F at J z⊢;have T:F.length=V*4:=by rw[<-m];simp;exact zaa
   have E:aC (Eq g) I h I (ey (ey h g p.toArray) g F.toArray):=aC.setc (aC.setc (aC.refl Z) (.inr rfl) K) (.inr rfl) K;refine L _ _ ⟨⟨?_,.inr ⟨g,V,F.toArray,rfl,s,J,zaa,a1,bS T,z⟩⟩,λ W q=>by cases q;exact K⟩ ⟨E.size,λ r Y e=>E.same r Y (λ M=>e (by rw[<-M];rfl))⟩ E.sat (.inl rfl);rw[List.length_append,List.length_append,List.length_take,i,f];exact zaa
def Ru:(Bx h 369 b λ b c=>aM c 273 a 0 271 λ d=>Ld c 369 b λ e=>Cf c 228 #[d,e,(.func (.func 229) #[] #[])] λ c d=>aW c λ c e=>Cd e (R (.tuple #[]) d) (bg d 273 a 0 λ e=>Ld d 271 e λ f=>Ld d 369 b λ b=>Bs d 251 1 #[(0,b)] λ b d=>aX d 273 a 0 e 271 f<|(Cf d 231 #[f,c,b] λ b c=>bC c 273 a 0 271 b λ a=>R (.tuple #[]) a)))->Cf h 188 #[a,b] R:=mS Tryz.func188 (Z (Q wh (Q cF (X #[0,0,2,6,14,0,0,64,254,511,1023,2047]))))
theorem vN:∀a:List UInt8,Lib.compareBytes a a=0|[]=>rfl|a::H=>by unfold Lib.compareBytes;rw[if_neg zab,if_neg zab];exact vN H
theorem EP:∀a b:List UInt8,Lib.compareBytes a b=0->a=b
 |[],[],_=>rfl
 |[],_::_,O=>by cases O
 |_::_,[],O=>by cases O
 |a::H,b::x,O=>by
  unfold Lib.compareBytes at O;split at O
  ·cases O
  split at O
  ·cases O
  have:a=b:=by rename_i y N;exact UInt8.le_antisymm (UInt8.not_lt.1 N) (UInt8.not_lt.1 y)
  rw[this,EP H x O]
theorem vR:∀a b:List UInt8,Lib.compareBytes a b<0↔0<Lib.compareBytes b a
 |[],[]=>zck
 |[],_::_=>zck
 |_::_,[]=>zck
 |a::H,b::x=>by
  unfold Lib.compareBytes;by_cases y:a<b
  ·rw[if_pos y,if_neg (bS (UInt8.le_of_lt y)),if_pos y];exact zab
  ·rw[if_neg y];by_cases N:b<a
   ·rw[if_pos N,if_pos N];exact zab
   ·rw[if_neg N,if_neg N,if_neg y];exact vR H x
theorem t9:∀a b c:List UInt8,Lib.compareBytes a b<0->Lib.compareBytes b c<0->Lib.compareBytes a c<0
 |[],_,[],y,N=>by rename_i b;cases b<;>simp[Lib.compareBytes]at y N
 |[],_,_::_,_,_=>zck
 |_::_,[],_,y,_=>by simp[Lib.compareBytes]at y
 |_::_,_::_,[],_,N=>by simp[Lib.compareBytes]at N
 |a::H,b::x,c::v,y,N=>by
  unfold Lib.compareBytes at y N⊢;by_cases A:a<b
  ·by_cases z:b<c
   ·rw[if_pos (UInt8.lt_trans A z)];exact zaE
   ·by_cases Y:c<b
    ·rw[if_neg z,if_pos Y]at N;simp at N
    ·have:b=c:=UInt8.le_antisymm (UInt8.not_lt.1 Y) (UInt8.not_lt.1 z);subst this;rw[if_pos A];exact zaE
  ·by_cases e:b<a
   ·rw[if_neg A,if_pos e]at y;simp at y
   ·have:a=b:=UInt8.le_antisymm (UInt8.not_lt.1 e) (UInt8.not_lt.1 A);subst this;rw[if_neg A,if_neg A]at y;by_cases z:a<c
    ·rw[if_pos z];exact zaE
    ·by_cases Y:c<a
     ·rw[if_neg z,if_pos Y]at N;simp at N
     ·rw[if_neg z,if_neg Y]at N⊢;exact t9 H x v y N
theorem cmpS_eq0:da S T=0↔S=T:=by
 unfold da;rw[Lib.cmp_eq];constructor
 ·intro O;have:=EP _ _ O;cases S;cases T;simp only[ByteArray.mk.injEq];exact Array.toList_inj.1 this
 ·rintro rfl;exact vN _
theorem lL{t:bF}:da S T<0->da T t<0->da S t<0:=by unfold da;rw[Lib.cmp_eq,Lib.cmp_eq,Lib.cmp_eq];exact t9 _ _ _
theorem cmpS_swap:da S T<0↔0<da T S:=by unfold da;rw[Lib.cmp_eq,Lib.cmp_eq];exact vR _ _
theorem cmpE_eq0:bQ G M=0↔G=M:=by cases G<;>cases M<;>simp[bQ,cmpS_eq0]
theorem gb{t:El}:bQ G M<0->bQ M t<0->bQ G t<0:=by cases G<;>cases M<;>cases t<;>simp only[bQ]<;>first|exact lL|omega|(intro y N;omega)|decide
theorem Bz:bQ G M<0↔0<bQ M G:=by cases G<;>cases M<;>simp only[bQ]<;>first|exact cmpS_swap|decide
theorem eg:¬bQ G G<0:=by rw[cmpE_eq0.2 rfl];exact zaE
theorem oE(O:¬bQ G M<0):G=M\/bQ M G<0:=by
 by_cases q:bQ G M=0
 ·exact .inl (cmpE_eq0.1 q)
 ·right;rw[Bz];exact zaa
theorem BE(O:bQ G M<0):¬bQ M G<0:=λ N=>eg (gb O N)
abbrev dq(H:bU):Prop:=H.Pairwise λ a b=>bQ a b<0
theorem dq.get(A:dq E)(K:n<E.length)(k:m<n):bQ (E[m]'zaa) E[n]<0:=List.pairwise_iff_getElem.1 A m n zaa K k
theorem dq.mono(A:dq E)(G:El):∀a b(j:b<E.length)(e:a<=b),bQ E[b] G<0->bQ (E[a]'zaa) G<0:=by
 intro a b j e O;by_cases C:a=b
 ·subst C;exact O
 ·exact gb (A.get j zaa) O
theorem dq.found(A:dq E)(d:m<=E.length)(y:∀k(Y:k<E.length),k<m->bQ E[k] G<0)(N:∀k(Y:k<E.length),m<=k->¬bQ E[k] G<0):(if d:m<E.length then decide (bQ E[m] G=0)else false)=true↔G∈E:=by
 constructor
 ·intro O;split at O
  ·rename_i o;have:=cmpE_eq0.1 (of_decide_eq_true O);rw[<-this];exact List.getElem_mem o
  ·cases O
 ·intro O;obtain⟨k,Y,rfl⟩:=List.getElem_of_mem O;have h:m<=k:=Nat.le_of_not_lt λ F=>eg (y k Y F);rw[dif_pos zaa];refine decide_eq_true (cmpE_eq0.2 ?_);by_cases G:m=k
  ·subst G;rfl
  ·exact absurd (A.get Y zaa) (N m zaa bu)
theorem dq.insert(A:dq E){e:El}{i:Nat}(d:i<=E.length)(y:∀k(Y:k<E.length),k<i->bQ E[k] e<0)(N:∀k(Y:k<E.length),i<=k->¬bQ E[k] e<0)(D:¬e∈E):dq (E.take i++e::E.drop i)/\∀X,X∈E.take i++e::E.drop i↔X=e\/X∈E:=by
 refine⟨?_,λ X=>?_⟩
 ·refine List.pairwise_append.2 ⟨A.sublist (List.take_sublist _ _),List.pairwise_cons.2 ⟨?_,A.sublist (List.drop_sublist _ _)⟩,?_⟩
  ·intro X m;obtain⟨k,Y,rfl⟩:=List.getElem_of_mem m;rw[List.getElem_drop];rw[List.length_drop]at Y;rcases oE (N (i+k) zaa zaa)with O|O
   ·exact absurd (O▸List.getElem_mem _) D
   ·exact O
  ·intro X m q p;have h:bQ X e<0:=by obtain⟨k,Y,rfl⟩:=List.getElem_of_mem m;rw[List.length_take]at Y;rw[List.getElem_take];exact y k zaa zaa
   rcases List.mem_cons.1 p with rfl|p
   ·exact h
   ·obtain⟨k,Y,rfl⟩:=List.getElem_of_mem p;rw[List.getElem_drop];rw[List.length_drop]at Y;rcases oE (N (i+k) zaa zaa)with O|O
    ·exact absurd (O▸List.getElem_mem _) D
    ·exact gb h O
 ·rw[List.mem_append,List.mem_cons];have:X∈E↔X∈E.take i\/X∈E.drop i:=zcP;rw[this];constructor
  ·exact zcy
  ·exact zcy
theorem Rows.lists{W:bW->α->Prop}:∀{c:bW}{H:List α},Rows W c H->∃g:List bW,g.length=H.length/\c=g.flatten/\∀i(h:i<H.length)(U:i<g.length),W g[i] H[i]
 |_,_,.nil=>⟨[],rfl,rfl,λ _ h=>absurd h zab⟩
 |_,_,.cons (row:=w) B u=>by obtain⟨g,y,N,K⟩:=u.lists;refine⟨w::g,by simp[y],by simp[N],λ i h U=>?_⟩;cases i with|zero=>exact B|succ i=>exact K i (bS h) (bS U)
theorem Rows.ofLists{W:bW->α->Prop}:∀(g:List bW)(H:List α),g.length=H.length->(∀i(h:i<H.length)(U:i<g.length),W g[i] H[i])->Rows W g.flatten H|[],[],_,_=>.nil|J::g,B::H,h,w=>by rw[List.flatten_cons];exact .cons (w 0 zab zab) (Rows.ofLists g H (bS h) λ i y N=>w (i+1) (bS y) (bS N))|[],_::_,h,_=>by simp at h|_::_,[],h,_=>by simp at h
theorem Rows.insert{r:bW->α->Prop}{B:α}(x:r w B)(f:∀J b,r J b->J.length=m):∀{c:bW}{H:List α}(i:Nat),Rows r c H->i<=H.length->Rows r (c.take (i*m)++w++c.drop (i*m)) (H.take i++B::H.drop i)|_,_,0,E,_=>bS (Rows.cons x E)|_,_,i+1,.nil,O=>by simp at O|_,_,i+1,.cons (row:=p) (vs:=g) P E,O=>by have S:=f _ _ P;have:=Rows.insert x f i E (bS O);rw[show(i+1)*m=p.length+i*m from by rw[Nat.add_mul,S];exact zaa,List.take_append,List.drop_append,List.take_of_length_le zaa,List.drop_of_length_le zaa,Nat.add_sub_cancel_left,List.nil_append,List.take_succ_cons,List.drop_succ_cons];rw[List.append_assoc p,List.append_assoc p,List.cons_append];exact .cons P this
theorem Rows.len{W:bW->α->Prop}(f:∀J b,W J b->J.length=m):∀{c:bW}{H:List α},Rows W c H->c.length=H.length*m|_,_,.nil=>zab|_,_,.cons B b=>by rw[List.length_append,f _ _ B,b.len f,List.length_cons,Nat.add_mul];exact zaa
theorem ck.of{xs:bW}(s:cd I a 4 E.length xs)(w:Rows (bM I) xs E):ck I a E:=zcJ
theorem aC.thaw{g:Nat->Prop}(K:I.le J)(B:aC g J h J H):aC g I h I H:=⟨B.size,B.same,λ _ _ _=>rfl,aK.le.refl _,λ u X i=>B.sat u X (K u X i)⟩
theorem bM.one(O:bM I x G):∀S∈x,aG S=true:=O.2.one
theorem yb{H:cQ}(O:H[m]?=some a):H.setIfInBounds m a=H:=by
 apply Array.ext_getElem?;intro D;rw[Array.getElem?_setIfInBounds];split
 ·rename_i C;subst C;split
  ·exact O.symm
  ·rename_i F;rw[Array.getElem?_eq_none zaa]
 ·rfl
theorem gQ{bs:Nat}{O:cQ}(Z:aN I h)(J:blk h bs=aE O o)(i:O[n]?=some a)(c:I bs=none)(W:aQ m I h 369 4 a E.length x)(hr:Rows (bM I) x E)(y:∀S∈x,aG S=true)(b:dq E)(e:∀g,a.ownBlock=some g->g≠bs)(l:bM I w G)(s:m<=h.size)(D:E.length<2147483646)(L:∀s p V U,aC (λ k=>k=bs\/a.ownBlock=some k) I h I U->blk U bs=aE (O.setIfInBounds n s) o->aQ m I U 369 4 s V.length p->Rows (bM I) p V->(∀S∈p,aG S=true)->dq V->(∀q,q∈V↔q=G\/q∈E)->(s.ownBlock=a.ownBlock\/∃g,s.ownBlock=some g/\h.size<=g)->V.length<=E.length+1->R (.tuple #[]) U):Cf h 188 #[cY bs n,.agg w.toArray] R:=by
 have D:=l.1;have v:=l.one;obtain⟨A,T,H,j,rfl⟩:∃B u t f,w=[B,u,t,f]:=by match w,D with|[B,u,t,f],_=>exact⟨B,u,t,f,rfl⟩
 have P:=aF J;have K:I.le (I.own a (h.push (aV #[A,T,H,j] 369))):=aK.add_le (show aD I h I _ from aP Z).sat _;have V:aQ m I (h.push (aV #[A,T,H,j] 369)) 369 4 a E.length x:=W.push _;have N:aN (I.own a (h.push (aV #[A,T,H,j] 369))) (h.push (aV #[A,T,H,j] 369)):=by have U:aC (λ k=>a.ownBlock=some k) I h I (h.push (aV #[A,T,H,j] 369)):=aP Z;exact(U.freeze _ λ g z=>.inr (of_decide_eq_true z)).sat
 have X:cd (I.own a (h.push (aV #[A,T,H,j] 369))) a 4 E.length x:=V.sli zaa y λ g z=>zbF;have hset:ck (I.own a (h.push (aV #[A,T,H,j] 369))) a E:=ck.of X (hr.mono λ _ _ B=>B.mono K);have V:=W.one;refine Ru (rC J.c i ?_);refine yn N hset (l.mono K) (b.mono G) λ M N X d U P=>?_;have Y:=b.found d U P;have C:aD I h I N:=aC.trans (aP Z) (X.thaw K);have t:=C.blk J id;have f:aQ m I N 369 4 a E.length x:=W.step C λ _ _=>id;have m:=X.blk (show blk (h.push (aV #[A,T,H,j] 369)) h.size=aE #[A,T,H,j] 369 from zaq) id;have F:=C.size;have p:=X.size;(try simp only[bJ]at p);generalize(if d:M<E.length then decide (bQ E[M] G=0)else false)=V at Y⊢;refine rA ?_;refine⟨λ V=>?_,λ V=>?_⟩
 ·have D:G∈E:=Y.1 (bS V);refine L a x E N (C.weak λ _ _=>False.elim) (by rw[yb i];exact t) f hr y b (λ q=>⟨.inr,λ F=>F.elim (λ G=>G▸D) id⟩) (.inl rfl) zaa
 ·have D:¬G∈E:=λ F=>by rw[Y.2 F]at V;simp at V
  refine rD t.c m.c i ?_;have n:aD I h I (N.push (aV #[A,T,H,j] 369)):=bX Z C;have J:blk (N.push (aV #[A,T,H,j] 369)) bs=aE O o:=by rw[cq,if_neg zaa];exact t
  refine rC J.c i ?_;refine tV n.sat (f.push _) d zaa (l:=N.size) (w:=#[A,T,H,j]) zaq rfl v y (by(try simp only[bJ]);exact zaa) (λ g z=>cW (f.1.block z)) λ s t m q O X=>?_;have K:=q.blk J (λ F=>e bs F rfl);have V:=b.insert d U P D;have F:=m.one;refine rC K.b i ?_;have N:∀g,s.ownBlock=some g->g≠bs:=by
   intro g z;rcases X with Q|⟨J,Q,f⟩
   ·exact e g (Q▸z)
   ·rw[Q]at z;cases z;(try simp only[bJ]at f);exact zaa
  have b:(E.take M++G::E.drop M).length=E.length+1:=by rw[List.length_append,List.length_cons,List.length_take,List.length_drop];exact zaa
  have Z:aC (λ k=>k=bs\/a.ownBlock=some k) I h I t:=aC.touch (n.weak λ _ _=>False.elim) q λ g z=>⟨.inr (.inr z),W.2 g z⟩;refine L s (x.take (M*4)++[A,T,H,j]++x.drop (M*4)) (E.take M++G::E.drop M) _ (aC.put Z (.inr (.inl rfl)) c) ?_ ?_ (Rows.insert (r:=bM I) l (λ _ _ B=>B.1) M hr d) ?_ V.1 V.2 ?_ zaa
  ·rw[bO,if_pos rfl,K,dP]
  ·rw[b];exact m.put2 N
  ·intro S O;rcases List.mem_append.1 O with O|O
   ·rcases List.mem_append.1 O with O|O
    ·exact y S (List.mem_of_mem_take O)
    ·exact v S O
   ·exact y S (List.mem_of_mem_drop O)
  ·rcases X with Q|⟨J,Q,f⟩
   ·exact zcB
   ·(try simp only[bJ]at f);exact .inr ⟨J,Q,zaa⟩
def HM:(Bx h 369 b λ b d=>Ln d 275 a λ e=>Lp (∃(f:V2)(g:N2),f i0 e d/\∀d i j,f d i j->(bv j .lss 3 d i (Bi j .add 3 d i λ e=>Cn j 3 461 e λ e=>Bi j .shr 461 e (.int .u64 1) λ e=>Cn j 461 3 e λ e=>Ia j 275 a e λ a=>Ld j 388 a λ a=>Ld j 369 b λ b=>Cv j c #[a,b] λ a b=>bv b .lss 3 a i0 (Bi b .add 3 e i1 λ a=>(f a i b/\g a i b<g d i j)) (f d e b/\g d e b<g d i j)) (Bi j .lss 3 d e λ e=>aH j e (λ a b=>a c b) λ c f=>aH f e (λ b c=>b a c) λ a f=>aH f e (λ a b=>a d b) λ f g=>aH g e (λ b c=>Ia c 275 a f λ a=>b a c) λ a f=>aH f e (λ b c=>Ld c 388 a λ a=>b a c) λ a f=>aH f e (λ a c=>Ld c 369 b λ b=>a b c) λ b f=>aH f e (λ d e=>Cv e c #[a,b] λ a b=>d a b) λ a b=>aH b e (λ b c=>Eb c .eql 3 false true a i0 λ a=>b a c) λ a b=>Pk e a bf λ a=>R (bj d a) b))))->Cf h 232 #[a,b,c] R:=mS Tryz.func232 GK
def Rb:(Bx h 388 a λ a c=>Bx c 369 b λ b c=>Fa c 388 a 0 λ a=>Ld c 369 a λ a=>Ld c 369 b λ b=>Cf c 230 #[a,b] λ a b=>R a b)->Cf h 233 #[a,b] R:=mS Tryz.func233 cX
def Vt:(Bx h 388 a λ a c=>Bx c 369 b λ b c=>Fa c 388 a 0 λ a=>Ld c 369 a λ a=>Ld c 369 b λ b=>Cf c 230 #[a,b] λ a b=>R a b)->Cf h 378 #[a,b] R:=mS Tryz.func378 cX
def Tv:(Sl h 275 a (some b) none none λ _=>Ln h 274 c λ d=>ce h 3 d i0 (R a h) (Ln h 275 a λ e=>Eb h .eql 3 false false b e λ f=>Cd f (A2 h 275 274 a c λ a b=>R a b) (Bi h .add 3 e d λ f=>Kp h 275 a λ g=>bv h .gtr 3 f g (Sl h 275 a none (some b) none λ f=>Bi h .add 3 e d λ e=>Bi h .sub 3 e b λ e=>A2 h 275 3 f e λ e f=>Sl f 275 e (some b) none none λ g=>Cy f 275 274 g c λ _ c=>Bi c .add 3 b d λ d=>Sl c 275 e (some d) none none λ d=>Sl c 275 a (some b) none none λ a=>Cy c 275 275 d a λ _ a=>R e a) (Bi h .add 3 e d λ f=>Sl h 275 a none (some f) none λ a=>Bi h .add 3 b d λ f=>Sl h 275 a (some f) none none λ f=>Xg h 255 #[c,f] λ f g=>cD g f (Bi g .add 3 b d λ d=>Sl g 275 a (some d) none none λ d=>Sl g 275 a (some b) none none λ e=>Cy g 275 275 d e λ _ d=>Sl d 275 a (some b) none none λ b=>Cy d 275 274 b c λ _ b=>R a b) (Sl g 275 a (some e) none none λ e=>Cy g 275 274 e c λ _ c=>Sl c 275 a (some b) none none λ b=>Cf c 256 #[b,d] λ _ b=>R a b)))))->Cf h 234 #[a,b,c] R:=mS Tryz.func234 II
def Ja:(Bx h 369 b λ b c=>aM c 277 a 0 275 λ d=>Ld c 369 b λ e=>Cf c 232 #[d,e,(.func (.func 233) #[] #[])] λ c d=>aW c λ c e=>Cd e (aM d 277 a 0 275 λ a=>Ia d 275 a c λ a=>Fa d 388 a 1 λ a=>Ld d 173 a λ a=>R a d) (bg d 277 a 0 λ e=>Ld d 275 e λ f=>Ld d 369 b λ g=>Bd d 279 #[] λ i=>Bx d 279 i λ d i=>aX i 277 a 0 e 275 f<|fY i 369 b g<|(Bd i 388 #[(0,g),(1,d)] λ b=>Bs i 274 1 #[(0,b)] λ b d=>aX d 277 a 0 e 275 f<|(Cf d 234 #[f,c,b] λ b d=>bC d 277 a 0 275 b λ b=>aM b 277 a 0 275 λ a=>Ia b 275 a c λ a=>Fa b 388 a 1 λ a=>Ld b 173 a λ a=>R a b))))->Cf h 189 #[a,b] R:=mS Tryz.func189 (Z (Q wh (Q cg (Q (X #[0,0,2,6,14,0,0,0,128,448,960,2046,4095,8191,16383]) bG))))
def HA:(Ln h 252 b λ c=>ce h 3 c i0 (R (.tuple #[]) h) (Lp (∃(c:V2)(d:N2),c a b h/\∀a b e,c a b e->(Ln e 252 b λ f=>ce e 3 f i1 (bg e 279 a 0 λ a=>Ia e 252 b i0 λ b=>Ld e 369 b λ b=>Cf e 188 #[a,b] λ _ a=>R (.tuple #[]) a) (bg e 279 a 1 λ f=>Ia e 252 b i0 λ g=>Ld e 369 g λ g=>Cf e 189 #[f,g] λ f g=>Sl g 252 b (some i1) none none λ i=>(c f i g/\d f i g<d a b e))))))->Cf h 131 #[a,b] R:=mS Tryz.func131 (Q cF (B (O [0,1] (B (Q (Z (C (Q (X #[0,1,3,0,8,24,63]) L) L)) (Q ti L))))))
def WO:(Bd h 279 #[] λ b=>Bx h 279 b λ b c=>Ln c 270 a λ d=>Lp (∃(e:V1)(f:N1),e i0 c/\∀c g,e c g->(bv g .lss 3 c d (Ia g 270 a c λ a=>Ld g 252 a λ a=>Cf g 131 #[b,a] λ _ a=>Bi a .add 3 c i1 λ b=>(e b a/\f b a<f c g)) (R b g))))->Cf h 88 #[a] R:=mS Tryz.func88 (Z (Z (Q (Z (B (O [10] mA))) bG)))
theorem Ua(O:x.length=5):∃a b c d e,x=[a,b,c,d,e]:=by match x,O with|[a,b,c,d,e],_=>exact⟨a,b,c,d,e,rfl⟩
theorem cL(O:x.length=4):∃a b c d,x=[a,b,c,d]:=by match x,O with|[a,b,c,d],_=>exact⟨a,b,c,d,rfl⟩
theorem Az(Z:aN I h)(Y:bM I x G)(e:aG a=true)(j:bM I w M)(L:∀U,aD I h I U->R (aR (bQ G M)) U):Cf h 233 #[.agg (x++[a]).toArray,.agg w.toArray] R:=by obtain⟨p,Y⟩:=Y;obtain⟨O,j⟩:=j;obtain⟨F,B,P,v,rfl⟩:=cL p;obtain⟨A,T,H,g,rfl⟩:=cL O;refine Rb (rA ?_);refine gP (show aD I h I _ from aP Z).sat Y j λ K r=>?_;exact za0
theorem y7(Z:aN I h)(Y:bM I x G)(e:aG a=true)(j:bM I w M)(L:∀U,aD I h I U->R (aR (bQ G M)) U):Cf h 378 #[.agg (x++[a]).toArray,.agg w.toArray] R:=by obtain⟨p,Y⟩:=Y;obtain⟨O,j⟩:=j;obtain⟨F,B,P,v,rfl⟩:=cL p;obtain⟨A,T,H,g,rfl⟩:=cL O;refine Vt (rA ?_);refine gP (show aD I h I _ from aP Z).sat Y j λ K r=>?_;exact za0
theorem kH(Z:aN I h){F:Option Addr}(f:x.length=4)(L:∀U,aD I h I U->R (bj i0 bf) U):Cf h 232 #[.slice F 0 m,.agg x.toArray,a] R:=by
 obtain⟨A,T,H,j,rfl⟩:=cL f;refine HM (rA ?_);refine⟨λ H W N=>H=i0/\W=i0/\aD I h I N,λ _ _ _=>0,?_,?_⟩
 ·exact⟨rfl,rfl,aP Z⟩
 rintro _ _ N⟨rfl,rfl,d⟩;refine rA ?_;exact L _ d
structure mZ(k:Nat):Prop where
 cv:fO k=true
 law:∀{I:aK}{h:Heap}(_:aN I h){v u:bW}{p:Value}{a b:El}(_:bM I v a)(_:aG p=true)(_:bM I u b){R:KV}(_:∀h',aD I h I h'->R (aR (bQ a b)) h'),Cf h k #[.agg (v++[p]).toArray,.agg u.toArray] R
theorem CC:mZ 233:=⟨zag,λ Z _ _ _ _ _ Y e j _ L=>Az Z Y e j L⟩
theorem tO:mZ 378:=⟨zag,λ Z _ _ _ _ _ Y e j _ L=>y7 Z Y e j L⟩
theorem Vb:((1:Int)/2).toNat=0:=zaE
theorem kK(Y:mZ m)(Z:aN I h)(i:cd I a 5 1 (w++[b]))(e:bM I w G)(l:bM I x G)(L:∀U,aD I h I U->R (bj i0 bt) U):Cf h 232 #[a,.agg x.toArray,.func (.func m) #[] #[]] R:=by
 obtain⟨A,T,z,j,rfl⟩:=cL l.1;obtain⟨o,g,G,q,rfl⟩:=cL e.1;obtain⟨F,V,rfl,t,-,-,y,J⟩:=i;obtain⟨u,s,rfl,k⟩:=J zaa;have K:aG b=true:=y b zab;have f:∀{N},aN I N->∀M S,([o,g,G,q]++[b])[M]?=some S->aI N u (s+M)=some S:=λ W M S O=>W.cell (k M S O);refine HM (rA ?_);refine⟨λ H W N=>H=i0/\(W=i0\/W=i1)/\aD I h I N/\blk N h.size=aE #[A,T,z,j] 369,λ H W _=>match W with|.int _ D=>D.toNat|_=>0,?_,?_⟩
 ·exact⟨rfl,.inr rfl,aP Z,Bk⟩
 rintro _ _ N⟨rfl,a,d,bt⟩;have z:=f d.sat 0 _ rfl;have w:=f d.sat 1 _ rfl;have F:=f d.sat 2 _ rfl;have m:=f d.sat 3 _ rfl;have X:=f d.sat 4 _ rfl;simp only[Nat.add_zero]at z;rcases a with rfl|rfl
 ·try simp(disch:=omega)only[go_sem,↓reduceIte,z,w,F,m,X,aA bt,ej Y.cv,Array.append_empty]
  refine Y.law (v:=[o,g,G,q]) d.sat (e) K (l) λ a r=>?_;rw[cmpE_eq0.2 rfl];refine rA ?_;exact L _ (d.trans r)
 ·try simp(disch:=omega)only[go_sem,↓reduceIte,z,w,F,m,X,aA bt,ej Y.cv,Array.append_empty,Vb,Nat.add_zero]
  refine Y.law (v:=[o,g,G,q]) d.sat (e) K (l) λ a r=>?_;rw[cmpE_eq0.2 rfl];refine rA ?_;exact⟨⟨.inl (congrArg (Value.int .i64) zaE),d.trans r,r.blk bt id⟩,zaE⟩
theorem Lf:A2 h 275 274 a b R=Ap h 275 a b R:=yE Tryz.underlying275 Tryz.underlying274
theorem I7{r:IntKind}{T:Value->Prop}:Sl h 275 (.slice none 0 m) (some (.int r 0)) none none T=T (.slice none 0 m):=by rw[lk Tryz.underlying275 EW zaa];exact zbs
theorem te{w:cQ}(Z:aN I h)(j:blk h m=aE w 388)(C:w.size=5)(y:∀S∈w.toList,aG S=true)(L:∀s U,aQ h.size I U 388 5 s 1 w.toList->aD I h I U->R s U):Cf h 234 #[n0,i0,bq m 0 1 1] R:=by refine Tv (rC @I7 @Lf ?_);refine bY kV rfl zaa zaa j (aQ.nil h.size I h 388 5) Z C y zaa bu λ s U B u t f=>L s U (bS B) ⟨u.size,λ r Y _=>u.same r Y zap,λ _ _ _=>rfl,aK.le.refl _,t⟩
structure kM(base:Nat)(I:aK)(h:Heap)(r:Nat)(fp:cK)(l:bU)(e0 nb e1 cap:Nat)(ncs:cQ)(q e2:Nat)(x:Value)(xs pe:bW)(ka:bF):Prop where
 root:blk h r=aE #[n0,bq nb 0 1 cap] e0
 node:blk h nb=aE ncs e1
 cap1:1<=cap
 nsz:ncs.size=cap*5
 row:ncs.toList.take 5=pe++[aB q]
 elem:bM I pe (.fld ka)
 inner:blk h q=aE #[x,n0] e2
 own:aQ base I h 369 4 x l.length xs
 rows:Rows (bM I) xs l
 ones:∀u∈xs,aG u=true
 srt:dq l
 fps:∀k∈fp,base<=k/\k<h.size/\I k=none
 inr:r∈fp
 innb:nb∈fp
 inq:q∈fp
 inx:∀g,x.ownBlock=some g->g∈fp
 d1:r≠nb
 d2:r≠q
 d3:nb≠q
 dx:∀g,x.ownBlock=some g->g≠r/\g≠nb/\g≠q
theorem eX(O:∀S∈x,aG S=true)(e:aG a=true):∀S∈x++[a],aG S=true:=by
 intro S D;rcases List.mem_append.1 D with y|y
 ·exact O S y
 ·rw[List.mem_singleton.1 y];exact e
theorem Cp(Z:aN I h)(j:blk h m=aE #[a,n0] n)(c:I m=none)(e:bM I x G)(L:∀t p V O U,aC (Eq m) I h I U->blk U m=aE #[a,bq t 0 1 V] n->blk U t=aE O 388->1<=V->O.size=V*5->O.toList.take 5=x++[aB p]->blk U p=aE #[n0,n0] 279->h.size<=t->h.size<=p->t≠p->R (aB p) U):Cf h 189 #[cY m 1,.agg x.toArray] R:=by
 have d:=e.one;obtain⟨o,g,l,q,rfl⟩:=cL e.1;have w:=aF j;refine Ja (rB j.c ?_);refine kH (show aD I h I _ from aP Z).sat rfl λ N P=>?_;have C:aD I h I N:=aC.trans (aP Z) P;have H:=C.blk j id;have f:=P.blk (show blk (h.push (aV #[o,g,l,q] 369)) h.size=aE #[o,g,l,q] 369 from zaq) id;have B:=C.size;have v:=P.size;(try simp only[bJ]at v);refine rC H.c f.c ?_;have B:aD I h I ((N.push (aV #[n0,n0] 279)).push (aV #[o,g,l,q,aB N.size] 388)):=bX Z C;refine te B.sat Bk rfl (eX (x:=[o,g,l,q]) d rfl) λ s Q H D=>?_;have d:=B.trans D;have B:=d.blk j id;have k:=D.blk (show blk ((N.push (aV #[n0,n0] 279)).push (aV #[o,g,l,q,aB N.size] 388)) N.size=aE #[n0,n0] 279 from Bk) id;obtain⟨t,V,X,rfl,K,b,a,-,u,v⟩:∃P V X,s=bq P 0 1 V/\_<=P/\blk Q P=aE X 388/\1<=V/\V<=maxLen/\X.size=V*5/\X.toList.take (1*5)=_:=by
  rcases H.1.2 with⟨-,F⟩|F
  ·cases F
  ·exact F
 (try simp only[bJ]at K);have Z:aI Q t 4=some (aB N.size):=by
  rw[aA b,<-Array.getElem?_toList];have:(X.toList.take (1*5))[4]?=some (aB N.size):=by rw[v];rfl
  rw[List.getElem?_take]at this;exact zai
 refine rC B.b Z ?_;have e:t≠m:=zaa;refine L t N.size V X _ (aC.put (d.weak λ _ _=>False.elim) (.inr rfl) c) ?_ ?_ a u v ?_ zaa zaa zaa
 ·rw[bO,if_pos rfl,B,dP];rfl
 ·rw[bO,if_neg (λ C=>e C.symm)];exact b
 ·rw[bO,if_neg zaa];exact k
theorem CK(Z:aN I h)(j:blk h m=aE #[a,b] n)(K:I.le J)(O:aN J h)(i:cd J b 5 1 (x++[c]))(e:bM I x G)(l:bM I w G)(L:∀U,aD I h I U->R c U):Cf h 189 #[cY m 1,.agg w.toArray] R:=by have d:=l.one;have r:=i;obtain⟨o,g,f,q,rfl⟩:=cL l.1;obtain⟨x,S,y,D,rfl⟩:=cL e.1;have w:=aF j;obtain⟨F,V,rfl,t,-,-,y,Y⟩:=i;obtain⟨u,s,rfl,k⟩:=Y zaa;refine Ja (rB j.c ?_);refine kK CC (show aD J h J _ from aP O).sat r (e.mono K) (l.mono K) λ N P=>?_;have C:aD I h I N:=aC.trans (aP Z) (P.thaw K);have H:=C.blk j id;have X:=P.sat.cell (k 4 c rfl);refine rC H.c X ?_;exact L _ C
def dD(L:Nat)(T:aK)(h:Heap)(W:Nat)(b:cK)(m:bF):ex->Prop|none=>blk h W=aE #[n0,n0] 279/\W∈b/\∀k∈b,L<=k/\k<h.size/\T k=none|some H=>∃j t A V O p z X c B,kM L T h W b H j t A V O p z X c B m
theorem kM.node_sli{O:cQ}{z:Nat}(P:kM m I h n K E o l t u O v z a x w S)(G:J l=blk h l):cd J (bq l 0 1 u) 5 1 (w++[aB v]):=by
 refine⟨_,u,rfl,P.cap1,by rw[List.length_append,P.elem.1];rfl,zaa,eX P.elem.one rfl,λ _=>⟨l,0,rfl,?_⟩⟩;intro M S O;unfold bP;rw[G,P.node];rw[<-P.row,List.getElem?_take]at O;split at O
 ·simpa using O
 ·cases O
theorem kM.step{D:Nat->Prop}{I':aK}{O:cQ}{z:Nat}(P:kM m I h n K E o l t u O v z a x w S)(R:aC D I h I' H)(G:∀k∈K,¬D k):kM m I' H n K E o l t u O v z a x w S where
 root:=R.blk P.root (G _ P.inr)
 node:=R.blk P.node (G _ P.innb)
 cap1:=P.cap1
 nsz:=P.nsz
 row:=P.row
 elem:=P.elem.mono R.le
 inner:=R.blk P.inner (G _ P.inq)
 own:=P.own.step R λ k Y=>G _ (P.inx k Y)
 rows:=P.rows.mono λ _ _ B=>B.mono R.le
 ones:=P.ones
 srt:=P.srt
 fps:=λ k Y=>⟨(P.fps k Y).1,Nat.lt_of_lt_of_le (P.fps k Y).2.1 R.size,(R.dom k (P.fps k Y).2.1 (G k Y)).trans (P.fps k Y).2.2⟩
 inr:=P.inr
 innb:=P.innb
 inq:=P.inq
 inx:=P.inx
 d1:=P.d1
 d2:=P.d2
 d3:=P.d3
 dx:=P.dx
theorem dD.step{D:Nat->Prop}{I':aK}:∀{c:ex},dD m I h n K S c->aC D I h I' H->(∀k∈K,¬D k)->dD m I' H n K S c|none,⟨B,u,c⟩,E,G=>⟨E.blk B (G _ u),u,λ k Y=>⟨(c k Y).1,Nat.lt_of_lt_of_le (c k Y).2.1 E.size,(E.dom k (c k Y).2.1 (G k Y)).trans (c k Y).2.2⟩⟩|some _,⟨j,t,A,V,O,p,z,X,w,B,P⟩,E,G=>⟨j,t,A,V,O,p,z,X,w,B,P.step E G⟩
theorem dD.fps:∀{c:ex},dD m I h n K S c->n∈K/\∀k∈K,m<=k/\k<h.size/\I k=none|none,⟨_,u,c⟩=>⟨u,c⟩|some _,⟨_,_,_,_,_,_,_,_,_,_,P⟩=>⟨P.inr,P.fps⟩
theorem Ku{D:Int}{r:IntKind}{T:Value->Prop}(K:0<=D/\D<=m):Sl h 252 (bq o l m n) (some (.int r D)) none none T=T (bq o (if n=D.toNat then l else l+D.toNat*4) (m-D.toNat) (n-D.toNat)):=l8 Tryz.underlying252 yz K
theorem Rows.two{W:bW->α->Prop}{B u:α}(O:Rows W x [B,u]):∃S J,x=S++J/\W S B/\W J u:=by
 cases O with
  |cons y N=>cases N with|cons K t=>cases t;exact⟨_,_,by rw[List.append_nil],y,K⟩
theorem mh{base:Nat}(S:aN I h){r:Nat}{fp:cK}{ka:bF}{c:ex}(g:dD base I h r fp ka c){b cap:Nat}{ps:bW}{e:El}(hp:Rows (bM I) ps [.fld ka,e])(hc:∀i u,ps[i]?=some u->aI h b (o+i)=some u)(hbfp:b∉fp)(hcap:2<=cap)(hbase:base<=h.size)(hlen:(c.getD []).length<2147483646)(hR:∀fp' l' h',aC (λ k=>k∈fp) I h I h'->dD base I h' r fp' ka (some l')->(∀k∈fp',k∈fp\/h.size<=k)->(∀y,y∈l'↔y=e\/y∈c.getD [])->l'.length<=(c.getD []).length+1->R (.tuple #[]) h'):Cf h 131 #[aB r,bq b o 2 cap] R:=by
 obtain⟨pv,tv,rfl,hpv,htv⟩:=hp.two;have op:=hpv.one;have ot:=htv.one;obtain⟨hrfp,hfps⟩:=g.fps;have hpv0:=hpv;have htv0:=htv;obtain⟨p0,p1,p2,p3,rfl⟩:=cL hpv.1;obtain⟨u0,u1,u2,u3,rfl⟩:=cL htv.1;have c0:=hc 0 _ rfl;have c1:=hc 1 _ rfl;have c2:=hc 2 _ rfl;have c3:=hc 3 _ rfl;rw[Nat.add_zero]at c0;have fin:∀fp1 l e0 nb e1 cap1 ncs q e2 x xs pe h2,l=c.getD []->aC (λ k=>k∈fp) I h I h2->kM base I h2 r fp1 l e0 nb e1 cap1 ncs q e2 x xs pe ka->(∀k∈fp1,k∈fp\/h.size<=k)->Cf h2 188 #[aB q,.agg #[u0,u1,u2,u3]] λ _ h3=>R (.tuple #[]) h3:=by
  intro fp1 l e0 nb e1 cap1 ncs q e2 x xs pe h2 hl st2 g2 hfp1;have z2:=st2.size;refine gQ (m:=base) st2.sat g2.inner rfl (g2.fps q g2.inq).2.2 g2.own g2.rows g2.ones g2.srt (λ g' hg=>(g2.dx g' hg).2.2) htv0 zaa (by rw[hl];exact hlen) λ x' xs' l' h3 st3 hb3 o3 r3 n3 s3 m3 w3 len3=>?_;have dst:∀k,k<h.size->(k=q\/x.ownBlock=some k)->k∈fp:=by
   intro k hk hh;have:k∈fp1:=by
    rcases hh with rfl|hh
    ·exact g2.inq
    ·exact g2.inx k hh
   rcases hfp1 k this with h5|h5
   ·exact h5
   ·exact zaa
  have nr:¬(r=q\/x.ownBlock=some r):=by
   rintro(hh|hh)
   ·exact g2.d2 hh
   ·exact(g2.dx r hh).1 rfl
  have nn:¬(nb=q\/x.ownBlock=some nb):=by
   rintro(hh|hh)
   ·exact g2.d3 hh
   ·exact(g2.dx nb hh).2.1 rfl
  have zz:∀k∈fp1,k<h2.size:=λ k hk=>(g2.fps k hk).2.1;have xo:∀k,x'.ownBlock=some k->x.ownBlock=some k\/h2.size<=k:=by
   intro k hk;rcases w3 with h5|⟨g',h5,h6⟩
   ·exact .inl (h5▸hk)
   ·rw[h5]at hk;cases hk;exact .inr h6
  have I3:∀k,k<h2.size->I k=I k:=λ _ _=>rfl;refine hR (x'.ownBlock.toList++fp1) l' h3 (st2.trans' st3 λ k hk hh=>dst k hk hh) ⟨e0,nb,e1,cap1,ncs,q,e2,x',xs',pe,?_⟩ ?_ (by rw[<-hl];exact m3) (by rw[<-hl];exact len3)
  ·refine⟨st3.blk g2.root nr,st3.blk g2.node nn,g2.cap1,g2.nsz,g2.row,g2.elem,hb3,o3,r3,n3,s3,?_,List.mem_append_right _ g2.inr,List.mem_append_right _ g2.innb,List.mem_append_right _ g2.inq,?_,g2.d1,g2.d2,g2.d3,?_⟩
   ·intro k hk;rcases List.mem_append.1 hk with hk|hk
    ·have hk':x'.ownBlock=some k:=by cases hx:x'.ownBlock with|none=>rw[hx]at hk;cases hk|some y=>rw[hx]at hk;simp at hk;rw[hk]
     have:=o3.1.block hk';exact⟨this.1,this.2,o3.2 k hk'⟩
    ·have:=g2.fps k hk;exact⟨this.1,Nat.lt_of_lt_of_le this.2.1 st3.size,this.2.2⟩
   ·intro k hk;exact List.mem_append_left _ (by rw[hk];exact zab)
   ·intro k hk;rcases xo k hk with h5|h5
    ·exact g2.dx k h5
    ·have h6:=zz r g2.inr;have h7:=zz nb g2.innb;have h8:=zz q g2.inq;refine⟨?_,?_,?_⟩<;>omega
  ·intro k hk;rcases List.mem_append.1 hk with hk|hk
   ·have hk':x'.ownBlock=some k:=by cases hx:x'.ownBlock with|none=>rw[hx]at hk;cases hk|some y=>rw[hx]at hk;simp at hk;rw[hk]
    rcases xo k hk' with h5|h5
    ·exact hfp1 k (g2.inx k h5)
    ·exact .inr zaa
   ·exact hfp1 k hk
 have step2:∀h2,aC (λ k=>k∈fp) I h I h2->aI h2 b (o+4)=some u0/\aI h2 b (o+4+1)=some u1/\aI h2 b (o+4+2)=some u2/\aI h2 b (o+4+3)=some u3:=λ h2 st2=>⟨st2.cell (hc 4 _ rfl) hbfp,st2.cell (hc 5 _ rfl) hbfp,st2.cell (hc 6 _ rfl) hbfp,st2.cell (hc 7 _ rfl) hbfp⟩;refine HA (rA ?_);refine⟨λ s p h2=>(s=aB r/\p=bq b o 2 cap/\h2=h)\/∃fp1 l e0 nb e1 cap1 ncs q e2 x xs pe,s=aB q/\p=bq b (o+4) 1 (cap-1)/\l=c.getD []/\aC (λ k=>k∈fp) I h I h2/\kM base I h2 r fp1 l e0 nb e1 cap1 ncs q e2 x xs pe ka/\(∀k∈fp1,k∈fp\/h.size<=k),λ _ p _=>match p with|.slice _ n _=>n|_=>0,.inl ⟨rfl,rfl,rfl⟩,?_⟩;rintro s p h2(⟨rfl,rfl,rfl⟩|⟨fp1,l,e0,nb,e1,cap1,ncs,q,e2,x,xs,pe,rfl,rfl,hl,st2,g2,hfp1⟩)
 ·refine rG c0 c1 c2 c3 @Int.toNat_zero @Nat.add_zero ?_;have ends:∀q h3,(∃fp1 l e0 nb e1 cap1 ncs e2 x xs pe,l=c.getD []/\aC (λ k=>k∈fp) I h2 I h3/\kM base I h3 r fp1 l e0 nb e1 cap1 ncs q e2 x xs pe ka/\(∀k∈fp1,k∈fp\/h2.size<=k))->Sl h3 252 (bq b o 2 cap) (some i1) none none λ v25=>(aB q=Value.pointer (some {block:=r,off:=0})/\v25=Value.slice (some {block:=b,off:=o}) 2 cap/\h3=h2\/∃fp1 l e0 nb e1 cap1 ncs q' e2 x xs pe,aB q=Value.pointer (some {block:=q',off:=0})/\v25=Value.slice (some {block:=b,off:=o+4}) 1 (cap-1)/\l=c.getD []/\aC (λ k=>k∈fp) I h2 I h3/\kM base I h3 r fp1 l e0 nb e1 cap1 ncs q' e2 x xs pe ka/\∀(k:Nat),k∈fp1->k∈fp\/Array.size h2<=k)/\(match v25 with|Value.slice a n cap=>n|x=>0)<2:=by rintro q h3⟨fp1,l,e0,nb,e1,cap1,ncs,e2,x,xs,pe,hl,st3,g3,hf3⟩;rw[Ku zaa];refine⟨.inr ⟨fp1,l,e0,nb,e1,cap1,ncs,q,e2,x,xs,pe,rfl,?_,hl,st3,g3,hf3⟩,by show 2-(1:Int).toNat<2;exact zaE⟩;rw[if_neg (show¬cap=(1:Int).toNat from by rw[sM];exact zaa),sM]
  cases c with
   |none=>
    obtain⟨g0,-,-⟩:=g;refine Cp S g0 (hfps r hrfp).2.2 hpv0 λ nb q cap1 ncs h3 st3 hb3 hn3 hc1 hsz hrow hq3 hnb hq hnq=>ends q h3 ?_;have hrs:=(hfps r hrfp).2.1;refine⟨nb::q::fp,[],279,nb,388,cap1,ncs,279,n0,[],[p0,p1,p2,p3],rfl,st3.weak λ k _ hk=>hk▸hrfp,?_,?_⟩
    ·refine⟨hb3,hn3,hc1,hsz,hrow,hpv0,hq3,aQ.nil _ _ _ _ _,.nil,zab,List.Pairwise.nil,?_,by simp[hrfp],zab,zab,zap,zaa,zaa,hnq,zap⟩;intro k hk;rcases List.mem_cons.1 hk with rfl|hk
     ·exact⟨zaa,aF hn3,S.fresh hnb⟩
     rcases List.mem_cons.1 hk with rfl|hk
     ·exact⟨zaa,aF hq3,S.fresh hq⟩
     ·have:=hfps k hk;exact⟨this.1,Nat.lt_of_lt_of_le this.2.1 st3.size,this.2.2⟩
    ·intro k hk;rcases List.mem_cons.1 hk with rfl|hk
     ·exact .inr hnb
     rcases List.mem_cons.1 hk with rfl|hk
     ·exact .inr hq
     ·exact .inl hk
   |some l=>obtain⟨e0,nb,e1,cap1,ncs,q,e2,x,xs,pe,g⟩:=g;have hone:=aC.one (D:=λ k=>k=nb) (aC.refl S) (b:=nb);have SJ:aN (I.one nb h2) h2:=((aC.refl (D:=λ k=>k=nb) S).freeze _ λ k hk=>.inr (bS hk)).sat;refine CK S (J:=I.one nb h2) g.root (aK.add_le S _) SJ (g.node_sli ((aK.one_eq g.node).trans g.node.symm)) g.elem hpv0 λ h3 st3=>ends q h3 ?_;exact⟨fp,l,e0,nb,e1,cap1,ncs,e2,x,xs,pe,rfl,st3.weak λ _ _=>False.elim,g.step st3 λ _ _=>id,λ _ hk=>.inl hk⟩
 ·obtain⟨d0,d1,d2,d3⟩:=step2 h2 st2;refine rE d0 d1 d2 d3 ?_;exact fin fp1 l e0 nb e1 cap1 ncs q e2 x xs pe h2 hl st2 g2 hfp1
def WB:(Cf h 88 #[n0] λ b c=>Ln c 50 a λ d=>Lp (∃(e:V1)(f:N1),e i0 c/\∀c g,e c g->(bv g .lss 3 c d (Ia g 50 a c λ a=>Ld g 119 a λ a=>Cf g 132 #[a] λ a d=>Cf d 131 #[b,a] λ _ a=>Bi a .add 3 c i1 λ b=>(e b a/\f b a<f c g)) (R b g))))->Cf h 82 #[a] R:=mS Tryz.func82 (Z (Z (Q (Z (B (O [9] mA))) bG)))
def dI(T:aK)(p:Nat)(H:bU):Prop:=∃e y z,T p=aE #[y,z] e/\ck T y H/\dq H/\∃a V,z=.slice a 0 V
def c5(T:aK)(z:Value)(m:bF):ex->Prop|none=>∃a V,z=.slice a 0 V|some H=>∃B p,cd T z 5 1 (B++[aB p])/\bM T B (.fld m)/\dI T p H
def cz(T:aK)(w:Value)(x:bU)(m:bF)(c:ex):Prop:=∃W e y z,w=aB W/\T W=aE #[y,z] e/\ck T y x/\dq x/\c5 T z m c
theorem ck.mono(O:I.le J)(B:ck I a E):ck J a E:=zcf
theorem dI.mono(O:I.le J)(B:dI I m E):dI J m E:=by obtain⟨C,y,z,f,i,d,N⟩:=B;exact⟨C,y,z,O _ _ f,i.mono O,d,N⟩
theorem c5.mono(O:I.le J):∀{c:ex},c5 I a S c->c5 J a S c|none,B=>B|some _,⟨B,p,f,i,d⟩=>⟨B,p,f.mono O,i.mono O,d.mono O⟩
theorem cz.mono(O:I.le J){c:ex}(B:cz I a E S c):cz J a E S c:=by obtain⟨r,C,y,z,f,i,d,N,X⟩:=B;exact⟨r,C,y,z,f,O _ _ i,d.mono O,N,X.mono O⟩
theorem dI.set(B:dI I m E):cz I (aB m) E S none:=by obtain⟨C,y,z,f,i,d,N⟩:=B;exact⟨m,C,y,z,rfl,f,i,d,N⟩
theorem ck.nil(T:aK)(B:Option Addr)(t:Nat):ck T (.slice B 0 t) []:=⟨[],rfl,cd.nil T 4 t B,λ _ O=>absurd O zab⟩
theorem g9(Z:aN I h)(m:bF)(L:∀W U,aD I h I U->dD h.size I U W [W] m none->R (aB W) U):Cf h 88 #[n0] R:=by refine WO (rA ?_);refine⟨λ J N=>J=i0/\N=h.push (aV #[n0,n0] 279),λ _ _=>0,⟨rfl,rfl⟩,?_⟩;rintro _ _⟨rfl,rfl⟩;refine rA ?_;refine L _ _ (aP Z) ⟨Bk,zab,?_⟩;intro r Y;rw[List.mem_singleton.1 Y];exact⟨Nat.le_refl _,by(try simp only[bJ]);exact zaa,Z.fresh bu⟩
def aK.fp(T:aK)(b:cK)(h:Heap):aK:=T.add (λ k=>decide (k∈b)) h
theorem aK.fp_eq{X:Obj}(Y:m∈K)(j:blk h m=some X):(I.fp K h) m=some X:=by unfold aK.fp aK.add;rw[if_pos (decide_eq_true Y)];exact j
theorem dD.frz(Z:aN I h):∀{c:ex},dD m I h n K S c->(c.getD []).length<=2147483647->cz (I.fp K h) (aB n) [] S c|none,⟨B,u,_⟩,_=>⟨n,279,_,_,rfl,aK.fp_eq u B,ck.nil _ _ _,List.Pairwise.nil,none,0,rfl⟩|some H,⟨j,t,A,V,O,p,z,X,k,o,P⟩,f=>by have W:I.le (I.fp K h):=aK.add_le Z _;refine⟨n,j,_,_,rfl,aK.fp_eq P.inr P.root,ck.nil _ _ _,List.Pairwise.nil,o,p,P.node_sli ((aK.fp_eq P.innb P.node).trans P.node.symm),P.elem.mono W,z,_,_,aK.fp_eq P.inq P.inner,?_,P.srt,none,0,rfl⟩;refine ck.of (P.own.sli f P.ones λ r Y=>?_) (P.rows.mono λ _ _ B=>B.mono W);unfold aK.fp aK.add;rw[if_pos (decide_eq_true (P.inx r Y))]
theorem dD.done{g:Nat->Prop}(P:dD m J H n K S V)(E:aC g I h J H)(j:h.size<=m)(f:(V.getD []).length<=2147483647):aC g I h (J.fp K H) H/\J.le (J.fp K H)/\cz (J.fp K H) (aB n) [] S V:=⟨E.freeze _ λ r Y=>.inl (Nat.le_trans j (P.fps.2 r (of_decide_eq_true Y)).1),aK.add_le E.sat _,P.frz E.sat f⟩
abbrev jL(m:bF)(e:El):bU:=[.fld m,e]
theorem rN(Z:aN I h)(P:dD m I h n K S V)(e:lI I a (jL S G))(N:m<=h.size)(E:(V.getD []).length<2147483646)(L:∀d y U,aC (λ k=>k∈K) I h I U->dD m I U n d S (some y)->(∀k∈d,k∈K\/h.size<=k)->(∀q,q∈y↔q=G\/q∈V.getD [])->y.length<=(V.getD []).length+1->R (.tuple #[]) U):Cf h 131 #[aB n,a] R:=by
 obtain⟨D,s,w⟩:=e;obtain⟨B,V,rfl,t,f,-,-,y⟩:=s;obtain⟨u,s,rfl,r⟩:=y zab;refine mh Z P w (λ M S O=>Z.cell (r M S O)) ?_ t N E L;intro j;have y:=(P.fps.2 u j).2.2;have:D[0]?≠none:=by rw[Ne,List.getElem?_eq_none_iff];simp at f;exact zaa
 obtain⟨S,O⟩:=Option.ne_none_iff_exists'.1 this;have N:=r 0 S O;unfold bP at N;rw[y]at N;cases N
theorem B4(Z:aN I h)(p:eP I a (E.map (jL S)))(O:E.length<2147483646)(L:∀w c v U,aD I h v U->cz v w [] S c->(∀q,q∈c.getD []↔q∈E)->(c=none↔E=[])->R w U):Cf h 82 #[a] R:=by
 obtain⟨g,s,m⟩:=p;obtain⟨B,V,rfl,t,f,D,-,k⟩:=s;rw[List.length_map]at f k D t;apply WB;try simp(disch:=omega)only[go_sem,↓reduceIte,List.length_map]
 refine g9 Z S λ W y z n=>?_;try simp(disch:=omega)only[go_sem,↓reduceIte,List.length_map]
 refine⟨λ a Q=>∃(M:Nat)(V:aK)(b:cK)(c:ex),a=aR M/\M<=E.length/\aD I h V Q/\dD h.size V Q W b S c/\(∀q,q∈c.getD []↔q∈E.take M)/\(c=none↔M=0)/\(c.getD []).length<=M,λ a _=>match a with|.int _ M=>E.length-M.toNat|_=>0,?_,?_⟩
 ·exact⟨0,I,[W],none,rfl,by omega,z,n,by simp,by simp,by simp⟩
 rintro _ Q⟨M,V,b,c,rfl,d,j,Y,t,h,A⟩;have a:=j.size;try simp(disch:=omega)only[go_sem,↓reduceIte]
 refine⟨λ F=>?_,λ F=>?_⟩
 ·have o:M<E.length:=by simpa using F
  obtain⟨u,s,rfl,r⟩:=k (by omega);have N:=m.len;rw[List.length_map]at N;have l:PathR I g[M] (jL S E[M]):=by have:=m.get M (by simpa using o) (by omega);simpa using this
  have aI:=j.sat.cell (cE j.le (r M g[M] (by simp)));try simp(disch:=omega)only[go_sem,↓reduceIte,aI,List.length_map]
  refine AZ j.sat (l.mono j.le) λ X p T C i=>?_;try simp(disch:=omega)only[go_sem,↓reduceIte]
  have H:=Y.step C λ _ _=>id;have s:=C.size;refine rN C.sat H i (by omega) (by omega) λ d y B u K J e P=>?_;try simp(disch:=omega)only[go_sem,↓reduceIte]
  refine⟨⟨M+1,p,d,some y,rfl,by omega,(j.trans C).trans' u λ r b G=>?_,K,?_,?_,?_⟩,by omega⟩
  ·have:=(H.fps.2 r G).1;omega
  ·intro q;have:E.take (M+1)=E.take M++[E[M]]:=by rw[List.take_add_one,List.getElem?_eq_getElem o];simp
   rw[this,List.mem_append,List.mem_singleton,<-t q];show q∈y↔_;rw[e q];exact Or.comm
  ·simp
  ·show y.length<=_;omega
 ·have x:M=E.length:=by
   have:¬M<E.length:=by simpa using F
   omega
  subst x;obtain⟨f,i,Q⟩:=Y.done j bu (by omega);refine L _ c _ _ f Q (by rw[List.take_length]at t;exact t) (h.trans ?_);exact List.length_eq_zero_iff
def cl:bU->bU->bU|[],b=>b|X::a,[]=>X::a|X::a,q::b=>if bQ X q<0 then X::cl a (q::b)else if bQ q X<0 then q::cl (X::a) b else q::cl a b termination_by a b=>a.length+b.length
def cy:bU->bU->bU|[],_=>[]|_::_,[]=>[]|X::a,q::b=>if bQ X q<0 then cy a (q::b)else if bQ q X<0 then cy (X::a) b else X::cy a b termination_by a b=>a.length+b.length
def cu:bU->bU->bU|[],_=>[]|X::a,[]=>X::a|X::a,q::b=>if bQ X q<0 then X::cu a (q::b)else if bQ q X<0 then cu (X::a) b else cu a b termination_by a b=>a.length+b.length
theorem yL(B:bU):cl B []=B:=by cases B<;>rw[cl]
theorem ym(B:bU):cy B []=[]:=by cases B<;>rw[cy]
theorem A8(B:bU):cu B []=B:=by cases B<;>rw[cu]
theorem pG(y:¬bQ G M<0)(N:¬bQ M G<0):G=M:=(oE y).resolve_right N
theorem gg(L:El):∀a b:bU,L∈cl a b↔L∈a\/L∈b
 |[],b=>by rw[cl];exact zab
 |X::a,[]=>by rw[cl];exact zab
 |X::a,q::b=>by
  rw[cl];split
  ·rw[List.mem_cons,gg L a (q::b),List.mem_cons,List.mem_cons,or_assoc]
  ·split
   ·rw[List.mem_cons,gg L (X::a) b,List.mem_cons,List.mem_cons];constructor
    ·rintro(O|O|O)<;>simp[O]
    ·rintro(O|O|O)<;>simp[O]
   ·rename_i y N;have C:=pG y N;subst C;rw[List.mem_cons,gg L a b,List.mem_cons,List.mem_cons];constructor
    ·rintro(O|O|O)<;>simp[O]
    ·rintro((O|O)|(O|O))<;>simp[O]termination_by a b=>a.length+b.length
theorem dq.tail(O:dq (G::E)):dq E:=(List.pairwise_cons.1 O).2
theorem dq.head(O:dq (G::E)):∀L∈E,bQ G L<0:=(List.pairwise_cons.1 O).1
theorem hW:∀a b:bU,dq a->dq b->dq (cl a b)
 |[],b,_,j=>by rw[cl];exact j
 |X::a,[],Y,_=>by rw[cl];exact Y
 |X::a,q::b,Y,j=>by
  rw[cl];split
  ·rename_i y;refine List.pairwise_cons.2 ⟨λ L k=>?_,hW a (q::b) Y.tail j⟩;rcases(gg L _ _).1 k with O|O
   ·exact Y.head L O
   ·rcases List.mem_cons.1 O with rfl|O
    ·exact y
    ·exact gb y (j.head L O)
  ·split
   ·rename_i y N;refine List.pairwise_cons.2 ⟨λ L k=>?_,hW (X::a) b Y j.tail⟩;rcases(gg L _ _).1 k with O|O
    ·rcases List.mem_cons.1 O with rfl|O
     ·exact N
     ·exact gb N (Y.head L O)
    ·exact j.head L O
   ·rename_i y N;have C:=pG y N;subst C;refine List.pairwise_cons.2 ⟨λ L k=>?_,hW a b Y.tail j.tail⟩;rcases(gg L _ _).1 k with O|O
    ·exact Y.head L O
    ·exact j.head L O termination_by a b=>a.length+b.length
theorem hF:∀a b:bU,(cl a b).length<=a.length+b.length
 |[],b=>by rw[cl];exact zab
 |X::a,[]=>by rw[cl];exact zab
 |X::a,q::b=>by
  rw[cl];have y:=hF a (q::b);have N:=hF (X::a) b;have K:=hF a b;simp only[List.length_cons]at y N K⊢;split
  ·simp only[List.length_cons];exact zaa
  ·split<;>simp only[List.length_cons]<;>omega termination_by a b=>a.length+b.length
theorem hH:∀a b:bU,(cy a b).Sublist a
 |[],b=>by rw[cy];exact List.Sublist.refl _
 |X::a,[]=>by rw[cy];exact List.nil_sublist _
 |X::a,q::b=>by
  rw[cy];split
  ·exact(hH a (q::b)).cons _
  ·split
   ·exact hH (X::a) b
   ·exact(hH a b).cons_cons _ termination_by a b=>a.length+b.length
theorem hA:∀a b:bU,(cu a b).Sublist a
 |[],b=>by rw[cu];exact List.Sublist.refl _
 |X::a,[]=>by rw[cu];exact List.Sublist.refl _
 |X::a,q::b=>by
  rw[cu];split
  ·exact(hA a (q::b)).cons_cons _
  ·split
   ·exact hA (X::a) b
   ·exact(hA a b).cons _ termination_by a b=>a.length+b.length
theorem py(O:dq E):dq (cy E F):=O.sublist (hH E F)
theorem j1(O:dq E):dq (cu E F):=O.sublist (hA E F)
theorem hI(L:El):∀a b:bU,dq a->dq b->(L∈cy a b↔L∈a/\L∈b)
 |[],b,_,_=>by rw[cy];exact zab
 |X::a,[],_,_=>by rw[cy];exact zab
 |X::a,q::b,Y,j=>by
  rw[cy];split
  ·rename_i y;rw[hI L a (q::b) Y.tail j];constructor
   ·rintro⟨N,K⟩;exact⟨c6 N,K⟩
   ·rintro⟨N,K⟩;refine⟨?_,K⟩;rcases List.mem_cons.1 N with rfl|N
    ·exact zbR
    ·exact N
  ·split
   ·rename_i y N;rw[hI L (X::a) b Y j.tail];constructor
    ·rintro⟨K,t⟩;exact⟨K,c6 t⟩
    ·rintro⟨K,t⟩;refine⟨K,?_⟩;rcases List.mem_cons.1 t with rfl|t
     ·exact zbS
     ·exact t
   ·rename_i y N;have C:=pG y N;subst C;rw[List.mem_cons,hI L a b Y.tail j.tail];constructor
    ·rintro(rfl|⟨K,t⟩)
     ·exact zab
     ·simp[K,t]
    ·rintro⟨K,t⟩;rcases List.mem_cons.1 K with K|K
     ·exact .inl K
     ·rcases List.mem_cons.1 t with t|t
      ·exact .inl t
      ·exact .inr ⟨K,t⟩termination_by a b=>a.length+b.length
theorem g7(L:El):∀a b:bU,dq a->dq b->(L∈cu a b↔L∈a/\¬L∈b)
 |[],b,_,_=>by rw[cu];exact zab
 |X::a,[],_,_=>by rw[cu];exact zab
 |X::a,q::b,Y,j=>by
  rw[cu];split
  ·rename_i y;rw[List.mem_cons,g7 L a (q::b) Y.tail j,List.mem_cons (l:=a)];constructor
   ·rintro(rfl|⟨N,K⟩)
    ·refine⟨.inl rfl,λ K=>?_⟩;exact zbR
    ·exact⟨.inr N,K⟩
   ·rintro⟨N|N,K⟩
    ·exact .inl N
    ·exact .inr ⟨N,K⟩
  ·split
   ·rename_i y N;rw[g7 L (X::a) b Y j.tail];constructor
    ·rintro⟨K,t⟩;refine⟨K,λ Q=>?_⟩;rcases List.mem_cons.1 Q with rfl|Q
     ·exact zbS
     ·exact t Q
    ·rintro⟨K,t⟩;exact⟨K,λ Q=>t (c6 Q)⟩
   ·rename_i y N;have C:=pG y N;subst C;rw[g7 L a b Y.tail j.tail];constructor
    ·rintro⟨K,t⟩;refine⟨c6 K,λ Q=>?_⟩;rcases List.mem_cons.1 Q with rfl|Q
     ·exact absurd (Y.head _ K) eg
     ·exact t Q
    ·rintro⟨K,t⟩;rcases List.mem_cons.1 K with rfl|K
     ·exact absurd (List.mem_cons_self ..) t
     ·exact⟨K,λ Q=>t (c6 Q)⟩termination_by a b=>a.length+b.length
theorem ck.slice(O:ck I b E):∃a V,b=.slice a E.length V/\E.length<=V/\E.length<=2147483647:=by obtain⟨g,-,⟨a,V,rfl,y,-,N,-⟩,-⟩:=O;exact⟨a,V,rfl,y,N⟩
theorem ck.row{a:Option Addr}{cap:Nat}{l:bU}(p:ck I (.slice a n cap) l)(Z:aN I h)(Y:m<l.length):∃b s,a=some ⟨b,s,none⟩/\∃u q O J,bM I [u,q,O,J] l[m]/\aI h b (s+m*4)=some u/\aI h b (s+m*4+1)=some q/\aI h b (s+m*4+2)=some O/\aI h b (s+m*4+3)=some J:=by
 obtain⟨g,N,⟨B,H,C,t,-,D,-,k⟩,Q⟩:=p;cases C;obtain⟨b,s,rfl,r⟩:=k zaa;have f:m<g.length:=zaa;have o:∀X∈g,X.length=4:=by intro X i;obtain⟨p,P,rfl⟩:=List.getElem_of_mem i;exact(Q p zaa P).1
 have e:=Q m Y f;have S:∀D,D<4->g.flatten[m*4+D]?=g[m][D]?:=λ D K=>eD g o m D f K;generalize g[m]=w at e S;obtain⟨u,q,O,J,rfl⟩:=cL e.1;have j:aI h b (s+m*4)=some u:=Z.cell (r (m*4+0) u (by rw[S 0 zaa];rfl));have A:aI h b (s+m*4+1)=some q:=by rw[Nat.add_assoc];exact Z.cell (r (m*4+1) q (by rw[S 1 zaa];rfl))
 have z:aI h b (s+m*4+2)=some O:=by rw[Nat.add_assoc];exact Z.cell (r (m*4+2) O (by rw[S 2 zaa];rfl))
 have c:aI h b (s+m*4+3)=some J:=by rw[Nat.add_assoc];exact Z.cell (r (m*4+3) J (by rw[S 3 zaa];rfl))
 exact⟨b,s,rfl,u,q,O,J,e,j,A,z,c⟩
theorem ck.tail{B:Option Addr}{l:bU}(p:ck I (.slice B n m) l)(Y:o<l.length):∃b s ys,B=some ⟨b,s,none⟩/\ys.length=(l.length-o)*4/\Rows (bM I) ys (l.drop o)/\(∀S∈ys,aG S=true)/\∀i S,ys[i]?=some S->bP I b (s+o*4+i)=some S:=by
 obtain⟨g,N,⟨J,H,C,t,f,D,I,k⟩,Q⟩:=p;cases C;obtain⟨b,s,rfl,r⟩:=k zaa;have j:∀X∈g,X.length=4:=by intro X a;obtain⟨p,P,rfl⟩:=List.getElem_of_mem a;exact(Q p zaa P).1
 have G:∀(y:List bW)(V:∀X∈y,X.length=4)(o:Nat),o<=y.length->y.flatten.drop (o*4)=(y.drop o).flatten:=by
  intro y V o Y;induction y generalizing o with
   |nil=>exact zab
   |cons E y ih=>cases o with|zero=>exact zab|succ o=>rw[List.flatten_cons,List.drop_succ_cons,<-ih (λ X a=>V X (.tail _ a)) o (bS Y),List.drop_append,List.drop_of_length_le (by rw[V E (.head _)];exact zaa),V E (.head _),List.nil_append];congr 1;exact zaa
 refine⟨b,s,(g.drop o).flatten,rfl,?_,Rows.ofLists _ _ (by simp[N]) λ i N K=>?_,?_,?_⟩
 ·rw[<-G g j o zaa,List.length_drop,f];exact zaa
 ·rw[List.getElem_drop,List.getElem_drop];exact Q _ _ _
 ·intro S O;rw[<-G g j o zaa]at O;exact I S (List.mem_of_mem_drop O)
 ·intro i S O;rw[<-G g j o zaa,List.getElem?_drop]at O;rw[Nat.add_assoc];exact r _ S O
theorem Rows.append{W:bW->α->Prop}{ys:bW}{x:List α}(O:Rows W ys x):∀{c:bW}{H:List α},Rows W c H->Rows W (c++ys) (H++x)|_,_,.nil=>O|_,_,.cons B u=>by rw[List.append_assoc];exact .cons B (Rows.append O u)
structure fq(I:aK)(h0 h:Heap)(x:Value)(xs:bW)(k:bU):Prop where
 st:aD I h0 I h
 bk:blk h h0.size=aE #[x] 273
 own:aQ (h0.size+1) I h 369 4 x k.length xs
 rows:Rows (bM I) xs k
 ones:∀u∈xs,aG u=true
 fresh:I h0.size=none
theorem fq.pur{U:Heap}(B:fq I h H a x E)(G:aD I H I U):fq I h U a x E:=⟨B.st.trans G,G.blk B.bk id,B.own.step G λ _ _=>id,B.rows,B.ones,B.fresh⟩
theorem fq.tail(B:fq I h H a x E){ys:bW}{l:bU}(u:l.length=o)(p:ys.length=o*4)(w:Rows (bM I) ys l)(y:∀S∈ys,aG S=true)(c:∀i S,ys[i]?=some S->aI H m (n+i)=some S)(D:E.length+o<=2147483647){T:Heap->Prop}(N:∀s U,fq I h U s (x++ys) (E++l)->T U):Ap H 271 a (bq m n o t) λ g Y=>Nc (aB h.size)<|Fa Y 273 (aB h.size) 0 λ j=>Sr Y 271 j g λ f=>T f:=by
 have L:=B.st.size;have v:=aF B.bk;have G:=B.st.sat;have C:c4 H m n (o*4)=some ys:=by
  rw[<-p];have V:∀(v:bW)(n:Nat),(∀i S,v[i]?=some S->aI H m (n+i)=some S)->c4 H m n v.length=some v:=by intro v;induction v with|nil=>intro n _;rfl|cons L v ih=>intro n k;rw[List.length_cons,c4,show aI H m n=some L from bS (k 0 L rfl),ih (n+1) λ i S O=>zcC]
  exact V ys n c
 refine mX fj rfl zaa B.own.1 p C y zaa zaa zaa λ s U R Q Z=>?_;have e:∀P,a.ownBlock=some P->P≠h.size:=λ P z=>cW (B.own.1.block z).1;have c:=Q.blk B.bk (λ F=>e _ F rfl);have D:aD I h I U:=aC.touch B.st Q λ P z=>⟨.inl (cW (B.own.1.block z).1),B.own.2 P z⟩;have b:aQ (h.size+1) I U 369 4 s (E++l).length (x++ys):=by
  rw[List.length_append,u];refine⟨R,λ P z=>?_⟩;rcases Z with Z|⟨J,q,R⟩
  ·exact B.own.2 P (Z▸z)
  ·rw[q]at z;cases z;exact G.fresh R
 have d:=b.one;refine rB c.b ?_;refine N s _ ⟨aC.put D (.inl bu) ?_,?_,?_,?_,?_,?_⟩
 ·exact B.fresh
 ·rw[bO,if_pos rfl,c,dP];rfl
 ·exact b.put2 λ P z=>cW (b.1.block z).1
 ·exact Rows.append w B.rows
 ·exact zcq
 ·exact B.fresh
theorem fq.item(B:fq I h H a x E)(i:bM I [b,c,d,e] G)(D:E.length+1<=2147483647){T:Heap->Prop}(Q:∀s U,fq I h U s (x++[b,c,d,e]) (E++[G])->T U):Ap (H.push (aV #[b,c,d,e] m)) 271 a (bq H.size 0 1 1) λ g Y=>Nc (aB h.size)<|Fa Y 273 (aB h.size) 0 λ j=>Sr Y 271 j g λ f=>T f:=by have Z:=B.st.sat;have u:blk (H.push (aV #[b,c,d,e] m)) H.size=aE #[b,c,d,e] m:=zaq;refine fq.tail (B.pur (aC.push (aC.refl Z) _)) (l:=[G]) (ys:=[b,c,d,e]) rfl rfl (bS (Rows.cons i .nil)) i.one (λ M S O=>zcr) D Q
def TL:(Bd h 273 #[] λ c=>Bx h 273 c λ c d=>Lp (∃(e:V2)(f:N2),e i0 i0 d/\∀d g i,e d g i->(aM i 273 a 0 271 λ j=>Ln i 271 j λ j=>Bi i .lss 3 d j λ j=>aH i j (λ a b=>a g b) λ k l=>aH l j (λ a c=>a b c) λ l m=>aH m j (λ a b=>Nc l<|a l b) λ l m=>aH m j (λ a b=>Fa b 273 l 0 λ c=>a c b) λ l m=>aH m j (λ a b=>Ld b 271 l λ c=>a c b) λ l m=>aH m j (λ a b=>Ln b 271 l λ c=>a c b) λ l m=>aH m j (λ a b=>Bi b .lss 3 k l λ c=>a c b) λ k l=>Pk j k bf λ j=>Cd j (aM l 273 a 0 271 λ j=>Ia l 271 j d λ j=>Ld l 369 j λ j=>aM l 273 b 0 271 λ k=>Ia l 271 k g λ k=>Ld l 369 k λ k=>Cf l 202 #[j,k] λ j k=>Cd j (bg k 273 c 0 λ b=>Ld k 271 b λ j=>aM k 273 a 0 271 λ a=>Ia k 271 a d λ a=>Ld k 369 a λ a=>Bs k 271 1 #[(0,a)] λ a k=>aX k 273 c 0 b 271 j<|(Ap k 271 j a λ a b=>bC b 273 c 0 271 a λ a=>Bi a .add 3 d i1 λ b=>(e b g a/\f b g a<f d g i))) (bg k 273 c 0 λ j=>Ld k 271 j λ l=>aM k 273 b 0 271 λ m=>Ia k 271 m g λ m=>Ld k 369 m λ m=>Bs k 271 1 #[(0,m)] λ k m=>aX m 273 c 0 j 271 l<|(Ap m 271 l k λ j k=>bC k 273 c 0 271 j λ c=>Lp (∃j:V1,(∀a b,j a b->(Bi b .add 3 g i1 λ c=>(e a c b/\f a c b<f d g i)))/\(aM c 273 b 0 271 λ b=>Ia c 271 b g λ b=>Ld c 369 b λ b=>aM c 273 a 0 271 λ a=>Ia c 271 a d λ a=>Ld c 369 a λ a=>Cf c 202 #[b,a] λ a b=>cD b a (Bi b .add 3 d i1 λ a=>j a b) (j d b)))))) (Lp (∃e:V0,(∀a,e a->(Lp (∃d:V0,(∀a,d a->(R c a))/\(aM a 273 b 0 271 λ e=>Ln a 271 e λ e=>bv a .lss 3 g e (aM a 273 c 0 271 λ e=>aM a 273 b 0 271 λ b=>Sl a 271 b (some g) none none λ b=>Ap a 271 e b λ a b=>bC b 273 c 0 271 a λ a=>d a) (d a)))))/\(aM l 273 a 0 271 λ b=>Ln l 271 b λ b=>bv l .lss 3 d b (aM l 273 c 0 271 λ b=>aM l 273 a 0 271 λ a=>Sl l 271 a (some d) none none λ a=>Ap l 271 b a λ a b=>bC b 273 c 0 271 a λ a=>e a) (e l)))))))->Cf h 141 #[a,b] R:=mS Tryz.func141 (Z (Z (Z (Q (B (O [6,7] (Q cF (B (Q EA (C (Q vT L) (Q vT (Y [6] (Q HF d8) L)))))))) (Y [] IS Ep)))))
def So:(Bd h 273 #[] λ c=>Bx h 273 c λ c d=>Lp (∃(e:V2)(f:N2),e i0 i0 d/\∀d g i,e d g i->(aM i 273 a 0 271 λ j=>Ln i 271 j λ j=>Bi i .lss 3 d j λ j=>aH i j (λ a b=>a g b) λ k l=>aH l j (λ a c=>a b c) λ l m=>aH m j (λ a b=>Nc l<|a l b) λ l m=>aH m j (λ a b=>Fa b 273 l 0 λ c=>a c b) λ l m=>aH m j (λ a b=>Ld b 271 l λ c=>a c b) λ l m=>aH m j (λ a b=>Ln b 271 l λ c=>a c b) λ l m=>aH m j (λ a b=>Bi b .lss 3 k l λ c=>a c b) λ k l=>Pk j k bf λ j=>Cd j (aM l 273 a 0 271 λ j=>Ia l 271 j d λ j=>Ld l 369 j λ j=>aM l 273 b 0 271 λ k=>Ia l 271 k g λ k=>Ld l 369 k λ k=>Cf l 202 #[j,k] λ j k=>Cd j (Bi k .add 3 d i1 λ a=>(e a g k/\f a g k<f d g i)) (Lp (∃j:V1,(∀a b,j a b->(Bi b .add 3 g i1 λ c=>(e a c b/\f a c b<f d g i)))/\(aM k 273 b 0 271 λ b=>Ia k 271 b g λ b=>Ld k 369 b λ b=>aM k 273 a 0 271 λ e=>Ia k 271 e d λ e=>Ld k 369 e λ e=>Cf k 202 #[b,e] λ b e=>cD e b (bg e 273 c 0 λ b=>Ld e 271 b λ f=>aM e 273 a 0 271 λ a=>Ia e 271 a d λ a=>Ld e 369 a λ a=>Bs e 271 1 #[(0,a)] λ a e=>aX e 273 c 0 b 271 f<|(Ap e 271 f a λ a b=>bC b 273 c 0 271 a λ a=>Bi a .add 3 d i1 λ b=>j b a)) (j d e))))) (R c l))))->Cf h 197 #[a,b] R:=mS Tryz.func197 (Z (Z (Z (Q (B (O [6,7] (Q cF (B (Q EA (C L (Y [6] (Q HF (C (Q vT L) L)) L))))))) bG))))
def Sx:(Bd h 273 #[] λ c=>Bx h 273 c λ c d=>Lp (∃(e:V2)(f:N2),e i0 i0 d/\∀d g i,e d g i->(aM i 273 a 0 271 λ j=>Ln i 271 j λ j=>Bi i .lss 3 d j λ j=>aH i j (λ a b=>a g b) λ k l=>aH l j (λ a c=>a b c) λ l m=>aH m j (λ a b=>Nc l<|a l b) λ l m=>aH m j (λ a b=>Fa b 273 l 0 λ c=>a c b) λ l m=>aH m j (λ a b=>Ld b 271 l λ c=>a c b) λ l m=>aH m j (λ a b=>Ln b 271 l λ c=>a c b) λ l m=>aH m j (λ a b=>Bi b .lss 3 k l λ c=>a c b) λ k l=>Pk j k bf λ j=>Cd j (aM l 273 a 0 271 λ j=>Ia l 271 j d λ j=>Ld l 369 j λ j=>aM l 273 b 0 271 λ k=>Ia l 271 k g λ k=>Ld l 369 k λ k=>Cf l 202 #[j,k] λ j k=>Cd j (bg k 273 c 0 λ b=>Ld k 271 b λ j=>aM k 273 a 0 271 λ a=>Ia k 271 a d λ a=>Ld k 369 a λ a=>Bs k 271 1 #[(0,a)] λ a k=>aX k 273 c 0 b 271 j<|(Ap k 271 j a λ a b=>bC b 273 c 0 271 a λ a=>Bi a .add 3 d i1 λ b=>(e b g a/\f b g a<f d g i))) (Lp (∃c:V1,(∀a b,c a b->(Bi b .add 3 g i1 λ c=>(e a c b/\f a c b<f d g i)))/\(aM k 273 b 0 271 λ b=>Ia k 271 b g λ b=>Ld k 369 b λ b=>aM k 273 a 0 271 λ a=>Ia k 271 a d λ a=>Ld k 369 a λ a=>Cf k 202 #[b,a] λ a b=>cD b a (Bi b .add 3 d i1 λ a=>c a b) (c d b))))) (Lp (∃b:V0,(∀a,b a->(R c a))/\(aM l 273 a 0 271 λ e=>Ln l 271 e λ e=>bv l .lss 3 d e (aM l 273 c 0 271 λ e=>aM l 273 a 0 271 λ a=>Sl l 271 a (some d) none none λ a=>Ap l 271 e a λ a d=>bC d 273 c 0 271 a λ a=>b a) (b l)))))))->Cf h 139 #[a,b] R:=mS Tryz.func139 (Z (Z (Z (Q (B (O [6,7] (Q cF (B (Q EA (C (Q vT L) (Y [6] (Q HF d8) L))))))) Ep))))
def SI:(aM h 273 a 0 271 λ a=>Ln h 271 a λ a=>R a h)->Cf h 143 #[a] R:=mS Tryz.func143 cX
def QG:(Bx h 369 b λ b c=>aM c 273 a 0 271 λ a=>Ld c 369 b λ b=>Cf c 228 #[a,b,(.func (.func 275) #[] #[])] λ a b=>aW a λ _ a=>R a b)->Cf h 257 #[a,b] R:=mS Tryz.func257 (Z (Q wh bG))
def Q3:(Bx h 369 a λ a c=>Bx c 369 b λ b c=>Ld c 369 a λ a=>Ld c 369 b λ b=>Cf c 230 #[a,b] λ a b=>R a b)->Cf h 275 #[a,b] R:=mS Tryz.func275 cX
theorem ck.rowK{B:Option Addr}(p:ck I (.slice B n m) E)(Y:o<E.length){M:Prop}(T:∀b s u q O J,B=some ⟨b,s,none⟩->bM I [u,q,O,J] E[o]->(∀{h:Heap},aN I h->aI h b (s+o*4)=some u/\aI h b (s+o*4+1)=some q/\aI h b (s+o*4+2)=some O/\aI h b (s+o*4+3)=some J)->M):M:=by
 obtain⟨g,N,⟨Q,H,C,t,-,D,-,k⟩,Q⟩:=p;cases C;obtain⟨b,s,rfl,r⟩:=k zaa;have f:o<g.length:=zaa;have v:∀X∈g,X.length=4:=by intro X i;obtain⟨p,P,rfl⟩:=List.getElem_of_mem i;exact(Q p zaa P).1
 have e:=Q o Y f;have S:∀D,D<4->g.flatten[o*4+D]?=g[o][D]?:=λ D K=>eD g v o D f K;generalize g[o]=w at e S;obtain⟨u,q,O,J,rfl⟩:=cL e.1;refine T b s u q O J rfl e λ Z=>⟨Z.cell (r (o*4+0) u (by rw[S 0 zaa];rfl)),?_,?_,?_⟩
 ·rw[Nat.add_assoc];exact Z.cell (r (o*4+1) q (by rw[S 1 zaa];rfl))
 ·rw[Nat.add_assoc];exact Z.cell (r (o*4+2) O (by rw[S 2 zaa];rfl))
 ·rw[Nat.add_assoc];exact Z.cell (r (o*4+3) J (by rw[S 3 zaa];rfl))
theorem ck.tailK{B:Option Addr}(p:ck I (.slice B n m) E)(Y:o<E.length){M:Prop}(T:∀b s ys,B=some ⟨b,s,none⟩->ys.length=(E.length-o)*4->Rows (bM I) ys (E.drop o)->(∀S∈ys,aG S=true)->(∀i S,ys[i]?=some S->bP I b (s+o*4+i)=some S)->M):M:=by obtain⟨b,s,ys,y,N,K,t,Q⟩:=p.tail Y;exact T b s ys y N K t Q
theorem fq.fin(B:fq I h H a x E)(D:E.length<=2147483647)(L:∀t a v U,aD I h v U->v t=aE #[a] 273->ck v a E->R (aB t) U):R (aB h.size) H:=by obtain⟨f,i,c⟩:=B.own.frz B.st zaa D B.ones;obtain⟨n,l⟩:=f.one (b:=h.size) bu;exact L _ a _ _ n (aK.one_eq B.bk) (ck.of (c.mono l) (B.rows.mono λ _ _ w=>(w.mono i).mono l))
theorem dt(d:m<E.length):E.drop m=E[m]::E.drop (m+1):=List.drop_eq_getElem_cons d
theorem yR(Z:aN I h)(p:bP I m n=some a)(N:bP I o t=some b)(g:ck I a E)(p2:ck I b F)(D:E.length+F.length<2147483647)(L:∀Q X v U,aD I h v U->v Q=some (.cells #[X] 273 (0,0))->ck v X (cl E F)->R (.pointer (some ⟨Q,0,none⟩)) U):Cf h 141 #[.pointer (some ⟨m,n,none⟩),.pointer (some ⟨o,t,none⟩)] R:=by
 obtain⟨f,S,rfl,a,k⟩:=g.slice;obtain⟨i,V,rfl,q,r⟩:=p2.slice;have a0:=hF E F;refine TL (rA ?_);refine⟨λ H W Q=>∃(M D:Nat)(r:bU)(X:Value)(xs:bW),H=.int .i64 M/\W=.int .i64 D/\M<=E.length/\D<=F.length/\fq I h Q X xs r/\r++cl (E.drop M) (F.drop D)=cl E F,λ H W _=>match H,W with|.int _ M,.int _ D=>(E.length-M.toNat)+(F.length-D.toNat)|_,_=>0,?_,?_⟩
 ·refine⟨0,0,[],.slice none 0 0,[],rfl,rfl,zaa,zaa,⟨aP Z,Bk,aQ.nil ..,.nil,zab,Z.fresh (Nat.le_refl _)⟩,zab⟩
 rintro _ _ Q⟨M,D,r,X,xs,rfl,rfl,d,a,d,j⟩;have S5:=d.st.sat;have d1:=S5.cell p;have d2:=S5.cell N;have k:r.length<=(cl E F).length:=by rw[<-j,List.length_append];exact zaa
 have W:=d.own.one;by_cases k:M<E.length/\D<F.length
 ·have A:decide ((M:Int)<(E.length:Int))=true:=by simp;exact zaa
  have z:decide ((D:Int)<(F.length:Int))=true:=by simp;exact zaa
  refine g.rowK k.1 λ u W Q q O J G e P=>?_;refine p2.rowK k.2 λ c R Q T H T B v w=>?_;have y:∀{T},aN I T->aI T m n=some (.slice (some ⟨u,W,none⟩) E.length S)/\aI T o t=some (.slice (some ⟨c,R,none⟩) F.length V):=λ x=>⟨G▸x.cell p,B▸x.cell N⟩;have C:=y S5;refine rF C A z (P S5) (w S5) ?_;have Y:=aF d.bk;have s:=e.one;have S:=v.one;refine eN S5 e.2 v.2 rfl rfl λ T f=>?_;have K:=d.pur f;have x:=K.st.sat;have b:=y x;have C:=f.size;refine rA ?_;refine⟨λ f=>?_,λ f=>?_⟩
  ·have o:bQ E[M] F[D]<0:=bS f;refine rE K.bk.c b (P x) (w x) ?_;refine K.item e zaa λ s B i=>rA ?_;refine⟨⟨M+1,D,r++[E[M]],s,_,rfl,rfl,zaa,a,i,?_⟩,zaa⟩;rw[<-j,dt k.1,dt k.2,cl,if_pos o];exact zab
  ·have o:¬bQ E[M] F[D]<0:=bS f;refine rE K.bk.c b (P x) (w x) ?_;refine K.item v zaa λ s B i=>?_;refine⟨λ J f=>∃(q:Nat)(s:Value)(p:bW),J=.int .i64 q/\M<=q/\q<=E.length/\fq I h f s p (r++[F[D]])/\(r++[F[D]])++cl (E.drop q) (F.drop (D+1))=cl E F,?_,?_⟩
   ·rintro _ f⟨q,s,p,rfl,n,m,C,eK⟩;refine rA ?_;exact⟨⟨q,D+1,_,s,p,rfl,rfl,m,zaa,C,eK⟩,zaa⟩
   ·have U:=i.st.sat;have a:=y U;refine rD a (P U) (w U) ?_;refine eN U v.2 e.2 rfl rfl λ f Y=>?_;have C:=i.pur Y;refine rA ?_;refine⟨λ P=>?_,λ P=>?_⟩
    ·have Y:¬bQ F[D] E[M]<0:=bS P;refine⟨M+1,s,_,rfl,zaa,zaa,C,?_⟩;rw[<-j,dt k.1,dt k.2,cl,if_neg o,if_neg Y];exact zab
    ·have Y:bQ F[D] E[M]<0:=bS P;refine⟨M,s,_,rfl,zaa,zaa,C,?_⟩;rw[<-j,dt k.1,dt k.2,cl,if_neg o,if_pos Y];exact zab
 ·by_cases m:M<E.length
  ·have A:decide ((M:Int)<(E.length:Int))=true:=by simp;exact zaa
   have z:decide ((D:Int)<(F.length:Int))=false:=by simp;exact zaa
   have U:F.drop D=[]:=List.drop_of_length_le zaa;refine rE d1 d2 A z ?_;refine⟨λ Q=>∃(s:Value)(p:bW)(e:bU),fq I h Q s p e/\e++F.drop D=cl E F,?_,?_⟩
   ·rintro T⟨s,p,e,K,J⟩;have x:=K.st.sat;have f:=x.cell N;have w:=K.own.one;have k:e.length+(F.length-D)<=(cl E F).length:=by rw[<-J,List.length_append,List.length_drop];exact zaa
    refine⟨λ Y=>∃(s:Value)(p:bW),fq I h Y s p (cl E F),?_,?_⟩
    ·rintro B⟨S,v,i⟩;exact i.fin zaa L
    ·by_cases t:D<F.length
     ·have c:decide ((D:Int)<(F.length:Int))=true:=by simp;exact zaa
      refine p2.tailK t λ u W ys G Z z P V=>rF K.bk.c f c G @hM ?_;refine K.tail (l:=F.drop D) zcm Z z P (λ M y O=>zcN) zaa λ S B i=>?_;exact⟨S,_,J▸i⟩
     ·have c:decide ((D:Int)<(F.length:Int))=false:=by simp;exact zaa
      refine rC f c ?_;refine⟨s,p,?_⟩;rw[<-J,List.drop_of_length_le zaa,List.append_nil];exact K
   ·rw[U,yL]at j;refine g.tailK m λ u W ys G Z z P V=>rF d.bk.c d1 A G @hM ?_;refine d.tail (l:=E.drop M) zcm Z z P (λ M y O=>by first|exact S5.cell (V M y O)|(exfalso;omega)) (by rw[<-j,List.length_append,List.length_drop]at a0;exact zaa) λ S B i=>?_;exact⟨S,_,_,i,by rw[U,List.append_nil];exact j⟩
  ·have A:decide ((M:Int)<(E.length:Int))=false:=by simp;exact zaa
   have ei:E.drop M=[]:=List.drop_of_length_le zaa;refine rD d1 d2 A ?_;refine⟨λ Q=>∃(s:Value)(p:bW)(e:bU),fq I h Q s p e/\e++F.drop D=cl E F,?_,?_⟩
   ·rintro T⟨s,p,e,K,J⟩;have x:=K.st.sat;have f:=x.cell N;have w:=K.own.one;have k:e.length+(F.length-D)<=(cl E F).length:=by rw[<-J,List.length_append,List.length_drop];exact zaa
    refine⟨λ Y=>∃(s:Value)(p:bW),fq I h Y s p (cl E F),?_,?_⟩
    ·rintro B⟨S,v,i⟩;exact i.fin zaa L
    ·by_cases t:D<F.length
     ·have c:decide ((D:Int)<(F.length:Int))=true:=by simp;exact zaa
      refine p2.tailK t λ u W ys G Z z P V=>rF K.bk.c f c G @hM ?_;refine K.tail (l:=F.drop D) zcm Z z P (λ M y O=>zcN) zaa λ S B i=>?_;exact⟨S,_,J▸i⟩
     ·have c:decide ((D:Int)<(F.length:Int))=false:=by simp;exact zaa
      refine rC f c ?_;refine⟨s,p,?_⟩;rw[<-J,List.drop_of_length_le zaa,List.append_nil];exact K
   ·rw[ei,cl]at j;refine rC d1 A ?_;exact⟨X,xs,r,d,j⟩
theorem xl(Z:aN I h)(C:bP I m n=some a)(N:bP I o l=some b)(g:ck I a E)(p:ck I b F)(D:E.length+F.length<2147483647)(L:∀t X v U,aD I h v U->v t=some (.cells #[X] 273 (0,0))->ck v X (cy E F)->R (.pointer (some ⟨t,0,none⟩)) U):Cf h 197 #[.pointer (some ⟨m,n,none⟩),.pointer (some ⟨o,l,none⟩)] R:=by
 obtain⟨f,K,rfl,a,k⟩:=g.slice;obtain⟨i,t,rfl,q,r⟩:=p.slice;have O:=(hH E F).length_le;refine So (rA ?_);refine⟨λ H W Q=>∃(M D:Nat)(r:bU)(X:Value)(c:bW),H=.int .i64 M/\W=.int .i64 D/\M<=E.length/\D<=F.length/\fq I h Q X c r/\r++cy (E.drop M) (F.drop D)=cy E F,λ H W _=>match H,W with|.int _ M,.int _ D=>(E.length-M.toNat)+(F.length-D.toNat)|_,_=>0,?_,?_⟩
 ·refine⟨0,0,[],.slice none 0 0,[],rfl,rfl,zaa,zaa,⟨aP Z,Bk,aQ.nil ..,.nil,zab,Z.fresh (Nat.le_refl _)⟩,zab⟩
 rintro _ _ Q⟨M,D,r,X,c,rfl,rfl,d,i,d,j⟩;have S5:=d.st.sat;have V:=S5.cell C;have a:=S5.cell N;have R:r.length<=(cy E F).length:=by rw[<-j,List.length_append];exact zaa
 have W:=d.own.one;by_cases k:M<E.length/\D<F.length
 ·have A:decide ((M:Int)<(E.length:Int))=true:=by simp;exact zaa
  have z:decide ((D:Int)<(F.length:Int))=true:=by simp;exact zaa
  refine g.rowK k.1 λ u s U q O J G e P=>?_;refine p.rowK k.2 λ O R U T H Y B v w=>?_;have y:∀{T},aN I T->aI T m n=some (.slice (some ⟨u,s,none⟩) E.length K)/\aI T o l=some (.slice (some ⟨O,R,none⟩) F.length t):=λ x=>⟨G▸x.cell C,B▸x.cell N⟩;have H:=y S5;refine rF H A z (P S5) (w S5) ?_;have S:=aF d.bk;have N:=e.one;have S:=v.one;refine eN S5 e.2 v.2 rfl rfl λ T S=>?_;have K:=d.pur S;have x:=K.st.sat;have b:=y x;have C:=S.size;refine rA ?_;refine⟨λ f=>?_,λ f=>?_⟩
  ·have o:bQ E[M] F[D]<0:=bS f;refine rE K.bk.c b (P x) (w x) ?_;refine⟨⟨M+1,D,r,X,c,rfl,rfl,zaa,i,K,?_⟩,zaa⟩;rw[<-j,dt k.1,dt k.2,cy,if_pos o]
  ·have o:¬bQ E[M] F[D]<0:=bS f;refine⟨λ J N=>∃(q:Nat)(C:bU)(s:Value)(p:bW),J=.int .i64 q/\M<=q/\q<=E.length/\fq I h N s p C/\C++cy (E.drop q) (F.drop (D+1))=cy E F,?_,?_⟩
   ·rintro _ N⟨q,C,s,p,rfl,g,m,C,eK⟩;refine rA ?_;exact⟨⟨q,D+1,_,s,p,rfl,rfl,m,zaa,C,eK⟩,zaa⟩
   ·refine rD b (P x) (w x) ?_;refine eN x v.2 e.2 rfl rfl λ N Y=>?_;have C:=K.pur Y;have Q:=C.st.sat;have t:=y Q;have K:=Y.size;refine rA ?_;refine⟨λ G=>?_,λ G=>?_⟩
    ·have Y:¬bQ F[D] E[M]<0:=bS G;have S:(r++[E[M]])++cy (E.drop (M+1)) (F.drop (D+1))=cy E F:=by rw[<-j,dt k.1,dt k.2,cy,if_neg o,if_neg Y];exact zab
     have p:r.length+1<=(cy E F).length:=by rw[<-S,List.length_append,List.length_append,List.length_singleton];exact zaa
     refine rE C.bk.c t (P Q) (w Q) ?_;refine C.item e zaa λ s B i=>rA ?_;exact⟨M+1,_,s,_,rfl,zaa,zaa,i,S⟩
    ·have Y:bQ F[D] E[M]<0:=bS G;refine⟨M,r,X,c,rfl,zaa,zaa,C,?_⟩;rw[<-j,dt k.1,dt k.2,cy,if_neg o,if_pos Y]
 ·by_cases m:M<E.length
  ·have A:decide ((M:Int)<(E.length:Int))=true:=by simp;exact zaa
   have z:decide ((D:Int)<(F.length:Int))=false:=by simp;exact zaa
   have r:F.drop D=[]:=List.drop_of_length_le zaa;rw[r,ym,List.append_nil]at j;refine rE V a A z ?_;exact(j▸d).fin zaa L
  ·have A:decide ((M:Int)<(E.length:Int))=false:=by simp;exact zaa
   have ei:E.drop M=[]:=List.drop_of_length_le zaa;rw[ei,cy,List.append_nil]at j;refine rD V a A ?_;exact(j▸d).fin zaa L
theorem zP(Z:aN I h)(y:bP I m n=some a)(N:bP I o t=some b)(g:ck I a E)(B:ck I b F)(D:E.length+F.length<2147483647)(L:∀e X v U,aD I h v U->v e=some (.cells #[X] 273 (0,0))->ck v X (cu E F)->R (.pointer (some ⟨e,0,none⟩)) U):Cf h 139 #[.pointer (some ⟨m,n,none⟩),.pointer (some ⟨o,t,none⟩)] R:=by
 obtain⟨f,f,rfl,a,k⟩:=g.slice;obtain⟨i,x,rfl,q,r⟩:=B.slice;have O:=(hA E F).length_le;refine Sx (rA ?_);refine⟨λ H W Q=>∃(M D:Nat)(r:bU)(X:Value)(c:bW),H=.int .i64 M/\W=.int .i64 D/\M<=E.length/\D<=F.length/\fq I h Q X c r/\r++cu (E.drop M) (F.drop D)=cu E F,λ H W _=>match H,W with|.int _ M,.int _ D=>(E.length-M.toNat)+(F.length-D.toNat)|_,_=>0,?_,?_⟩
 ·refine⟨0,0,[],.slice none 0 0,[],rfl,rfl,zaa,zaa,⟨aP Z,Bk,aQ.nil ..,.nil,zab,Z.fresh (Nat.le_refl _)⟩,zab⟩
 rintro _ _ Q⟨M,D,r,X,c,rfl,rfl,d,Y,d,j⟩;have S5:=d.st.sat;have V:=S5.cell y;have a:=S5.cell N;have q:r.length<=(cu E F).length:=by rw[<-j,List.length_append];exact zaa
 have W:=d.own.one;by_cases k:M<E.length/\D<F.length
 ·have A:decide ((M:Int)<(E.length:Int))=true:=by simp;exact zaa
  have z:decide ((D:Int)<(F.length:Int))=true:=by simp;exact zaa
  refine g.rowK k.1 λ u U G q p J G e P=>?_;refine B.rowK k.2 λ q R s T H H B v w=>?_;have i:∀{T},aN I T->aI T m n=some (.slice (some ⟨u,U,none⟩) E.length f)/\aI T o t=some (.slice (some ⟨q,R,none⟩) F.length x):=λ x=>⟨G▸x.cell y,B▸x.cell N⟩;have b:=i S5;refine rF b A z (P S5) (w S5) ?_;have s:=aF d.bk;have b:=e.one;have S:=v.one;refine eN S5 e.2 v.2 rfl rfl λ T H=>?_;have K:=d.pur H;have x:=K.st.sat;have b:=i x;have C:=H.size;refine rA ?_;refine⟨λ f=>?_,λ f=>?_⟩
  ·have o:bQ E[M] F[D]<0:=bS f;refine rE K.bk.c b (P x) (w x) ?_;refine K.item e (by rw[<-j,dt k.1,dt k.2,cu,if_pos o,List.length_append,List.length_cons]at O;exact zaa) λ s B i=>rA ?_;refine⟨⟨M+1,D,r++[E[M]],s,_,rfl,rfl,zaa,Y,i,?_⟩,zaa⟩;rw[<-j,dt k.1,dt k.2,cu,if_pos o];exact zab
  ·have o:¬bQ E[M] F[D]<0:=bS f;refine⟨λ J N=>∃(q:Nat),J=.int .i64 q/\M<=q/\q<=E.length/\fq I h N X c r/\r++cu (E.drop q) (F.drop (D+1))=cu E F,?_,?_⟩
   ·rintro _ N⟨q,rfl,r,m,C,eK⟩;refine rA ?_;exact⟨⟨q,D+1,_,X,c,rfl,rfl,m,zaa,C,eK⟩,zaa⟩
   ·refine rD b (P x) (w x) ?_;refine eN x v.2 e.2 rfl rfl λ N Y=>?_;have C:=K.pur Y;refine rA ?_;refine⟨λ e=>?_,λ e=>?_⟩
    ·have Y:¬bQ F[D] E[M]<0:=bS e;refine⟨M+1,rfl,zaa,zaa,C,?_⟩;rw[<-j,dt k.1,dt k.2,cu,if_neg o,if_neg Y]
    ·have Y:bQ F[D] E[M]<0:=bS e;refine⟨M,rfl,zaa,zaa,C,?_⟩;rw[<-j,dt k.1,dt k.2,cu,if_neg o,if_pos Y]
 ·by_cases m:M<E.length
  ·have A:decide ((M:Int)<(E.length:Int))=true:=by simp;exact zaa
   have z:decide ((D:Int)<(F.length:Int))=false:=by simp;exact zaa
   have N:F.drop D=[]:=List.drop_of_length_le zaa;rw[N,A8]at j;refine rE V a A z ?_;refine⟨λ p=>∃(s:Value)(N:bW),fq I h p s N (cu E F),?_,?_⟩
   ·rintro B⟨S,x,i⟩;exact i.fin zaa L
   ·refine g.tailK m λ u U ys G Z z P m=>rF d.bk.c V A G @hM ?_;refine d.tail (l:=E.drop M) zcm Z z P (λ M q r=>by first|exact S5.cell (m M q r)|(exfalso;omega)) (by rw[<-j,List.length_append,List.length_drop]at O;exact zaa) λ S B i=>?_;exact⟨S,_,j▸i⟩
  ·have A:decide ((M:Int)<(E.length:Int))=false:=by simp;exact zaa
   have ei:E.drop M=[]:=List.drop_of_length_le zaa;rw[ei,cu,List.append_nil]at j;refine rD V a A ?_;refine⟨λ p=>∃(s:Value)(N:bW),fq I h p s N (cu E F),?_,?_⟩
   ·rintro B⟨S,x,i⟩;exact i.fin zaa L
   ·refine rC V A ?_;exact⟨X,c,j▸d⟩
def yq:(Bd h 277 #[] λ c=>Bx h 277 c λ c d=>Lp (∃(e:V2)(f:N2),e i0 i0 d/\∀d g i,e d g i->(aM i 277 a 0 275 λ j=>Ln i 275 j λ j=>Bi i .lss 3 d j λ j=>aH i j (λ a b=>a g b) λ k l=>aH l j (λ a c=>a b c) λ l m=>aH m j (λ a b=>Nc l<|a l b) λ l m=>aH m j (λ a b=>Fa b 277 l 0 λ c=>a c b) λ l m=>aH m j (λ a b=>Ld b 275 l λ c=>a c b) λ l m=>aH m j (λ a b=>Ln b 275 l λ c=>a c b) λ l m=>aH m j (λ a b=>Bi b .lss 3 k l λ c=>a c b) λ k l=>Pk j k bf λ j=>Cd j (aM l 277 a 0 275 λ j=>Ia l 275 j d λ j=>Fa l 388 j 0 λ j=>Ld l 369 j λ j=>aM l 277 b 0 275 λ k=>Ia l 275 k g λ k=>Fa l 388 k 0 λ k=>Ld l 369 k λ k=>Cf l 202 #[j,k] λ j k=>Cd j (bg k 277 c 0 λ b=>Ld k 275 b λ j=>aM k 277 a 0 275 λ a=>Ia k 275 a d λ a=>Ld k 388 a λ a=>Bs k 275 1 #[(0,a)] λ a k=>aX k 277 c 0 b 275 j<|(Ap k 275 j a λ a b=>bC b 277 c 0 275 a λ a=>Bi a .add 3 d i1 λ b=>(e b g a/\f b g a<f d g i))) (Lp (∃j:V1,(∀a b,j a b->(Bi b .add 3 g i1 λ c=>(e a c b/\f a c b<f d g i)))/\(aM k 277 b 0 275 λ e=>Ia k 275 e g λ e=>Fa k 388 e 0 λ e=>Ld k 369 e λ e=>aM k 277 a 0 275 λ f=>Ia k 275 f d λ f=>Fa k 388 f 0 λ f=>Ld k 369 f λ f=>Cf k 202 #[e,f] λ e f=>cD f e (bg f 277 c 0 λ e=>Ld f 275 e λ i=>bg f 277 a 0 λ k=>Ld f 275 k λ l=>Ia f 275 l d λ m=>Fa f 388 m 0 λ n=>Ld f 369 n λ o=>aM f 277 a 0 275 λ p=>Ia f 275 p d λ p=>Fa f 388 p 1 λ p=>Ld f 173 p λ p=>aM f 277 b 0 275 λ b=>Ia f 275 b g λ b=>Fa f 388 b 1 λ b=>Ld f 173 b λ b=>Cf f 90 #[p,b] λ b f=>aX f 277 c 0 e 275 i<|aX f 277 a 0 k 275 l<|iR f 275 l d m/\eG f 388 m 0 n/\bh f 369 n o/\(Bd f 388 #[(0,o),(1,b)] λ a=>Bs f 275 1 #[(0,a)] λ a b=>aX b 277 c 0 e 275 i<|(Ap b 275 i a λ a b=>bC b 277 c 0 275 a λ a=>Bi a .add 3 d i1 λ b=>j b a))) (bg f 277 c 0 λ a=>Ld f 275 a λ e=>aM f 277 b 0 275 λ b=>Ia f 275 b g λ b=>Ld f 388 b λ b=>Bs f 275 1 #[(0,b)] λ b f=>aX f 277 c 0 a 275 e<|(Ap f 275 e b λ a b=>bC b 277 c 0 275 a λ a=>j d a)))))) (Lp (∃e:V0,(∀a,e a->(Lp (∃d:V0,(∀a,d a->(R c a))/\(aM a 277 b 0 275 λ e=>Ln a 275 e λ e=>bv a .lss 3 g e (aM a 277 c 0 275 λ e=>aM a 277 b 0 275 λ b=>Sl a 275 b (some g) none none λ b=>Ap a 275 e b λ a b=>bC b 277 c 0 275 a λ a=>d a) (d a)))))/\(aM l 277 a 0 275 λ b=>Ln l 275 b λ b=>bv l .lss 3 d b (aM l 277 c 0 275 λ b=>aM l 277 a 0 275 λ a=>Sl l 275 a (some d) none none λ a=>Ap l 275 b a λ a b=>bC b 277 c 0 275 a λ a=>e a) (e l)))))))->Cf h 142 #[a,b] R:=mS Tryz.func142 (Z (Z (Z (Q (B (O [6,7] (Q cF (B (Q Qb (C (Q vT L) (Y [6] (Q IM (C (Q (X #[0,0,2,6,14,0,32,96,224,0,992,2016,4064,0,8192,24576,57344,0,253952,516096,1040384,0,2097152,6291456,14680064,0,65011712,132120576,266338304,536862720,1073741792,2147483616,4294967294,8589934591,17179869183,34359738367]) L) vT)) L))))))) (Y [] IS Ep)))))
def Xb:(bg h 279 a 0 λ c=>bg h 279 b 0 λ d=>bg h 279 a 1 λ e=>bg h 279 b 1 λ f=>Cf h 141 #[c,d] λ c d=>eG d 279 a 1 e/\eG d 279 b 1 f/\(Nc c<|Ld d 273 c λ a=>Cf d 142 #[e,f] λ b d=>bh d 273 c a/\(Nc b<|Ld d 277 b λ b=>Bd d 279 #[(0,a),(1,b)] λ a=>Bx d 279 a λ a b=>R a b)))->Cf h 90 #[a,b] R:=mS Tryz.func90 PF
structure dY(I0:aK)(h0:Heap)(I:aK)(h:Heap)(x:Value)(xs:bW)(n:Nat):Prop where
 st:aD I0 h0 I h
 bk:blk h h0.size=aE #[x] 277
 own:aQ (h0.size+1) I h 388 5 x n xs
 ones:∀u∈xs,aG u=true
 fresh:I h0.size=none
theorem dY.step{I':aK}{U:Heap}(B:dY I h J H a x m)(G:aD J H I' U):dY I h I' U a x m:=⟨B.st.trans G,G.blk B.bk id,B.own.step G λ _ _=>id,B.ones,(G.dom _ (aF B.bk) id).trans B.fresh⟩
theorem iL:∀(v:bW)(s:Nat),(∀i S,v[i]?=some S->aI h m (s+i)=some S)->c4 h m s v.length=some v|[],s,_=>rfl|L::v,s,k=>by rw[List.length_cons,c4,show aI h m s=some L from bS (k 0 L rfl),iL v (s+1) λ i S O=>zcC]
theorem dY.tail(B:dY I h J H a x m){ys:bW}(p:ys.length=l*5)(y:∀S∈ys,aG S=true)(k:∀i S,ys[i]?=some S->aI H n (o+i)=some S)(D:m+l<=2147483647){T:Heap->Prop}(G:∀s U,dY I h J U s (x++ys) (m+l)->T U):Ap H 275 a (bq n o l t) λ g Y=>Nc (aB h.size)<|Fa Y 277 (aB h.size) 0 λ j=>Sr Y 275 j g λ f=>T f:=by
 have L:=B.st.size;have E:=aF B.bk;have f:=B.st.sat;have C:c4 H n o (l*5)=some ys:=by rw[<-p];exact iL ys o k
 refine mX kV rfl zaa B.own.1 p C y zaa zaa zaa λ s U R Q Z=>?_;have e:∀P,a.ownBlock=some P->P≠h.size:=λ P z=>cW (B.own.1.block z).1;have c:=Q.blk B.bk (λ F=>e _ F rfl);have D:aD I h J U:=aC.touch B.st Q λ P z=>⟨.inl (cW (B.own.1.block z).1),B.own.2 P z⟩;have b:aQ (h.size+1) J U 388 5 s (m+l) (x++ys):=by
  refine⟨R,λ P z=>?_⟩;rcases Z with Z|⟨J,q,O⟩
  ·exact B.own.2 P (Z▸z)
  ·rw[q]at z;cases z;exact f.fresh O
 have d:=b.one;refine rB c.b ?_;refine G s _ ⟨aC.put D (.inl bu) B.fresh,?_,?_,?_,B.fresh⟩
 ·rw[bO,if_pos rfl,c,dP];rfl
 ·exact b.put2 λ P z=>cW (b.1.block z).1
 ·exact zcq
theorem dY.item(B:dY I h J H a x m)(y:∀S∈[b,c,d,e,f],aG S=true)(D:m+1<=2147483647){T:Heap->Prop}(Q:∀s U,dY I h J U s (x++[b,c,d,e,f]) (m+1)->T U):Ap (H.push (aV #[b,c,d,e,f] n)) 275 a (bq H.size 0 1 1) λ g Y=>Nc (aB h.size)<|Fa Y 277 (aB h.size) 0 λ j=>Sr Y 275 j g λ q=>T q:=by have Z:=B.st.sat;have u:blk (H.push (aV #[b,c,d,e,f] n)) H.size=aE #[b,c,d,e,f] n:=zaq;exact dY.tail (B.step (aC.push (aC.refl Z) _)) (ys:=[b,c,d,e,f]) rfl y (λ M S O=>zcr) D Q
theorem dY.fin(B:dY I h J H a x m)(D:m<=2147483647)(L:∀t a v U,aD I h v U->J.le v->v t=aE #[a] 277->cd v a 5 m x->R (aB t) U):R (aB h.size) H:=by obtain⟨f,i,c⟩:=B.own.frz B.st zaa D B.ones;obtain⟨n,l⟩:=f.one (b:=h.size) bu;exact L _ a _ _ n (i.trans l) (aK.one_eq B.bk) (c.mono l)
theorem c5.len:∀{c:ex},c5 I b S c->∃a V,b=.slice a (if c.isSome then 1 else 0) V|none,⟨a,V,O⟩=>⟨a,V,O⟩|some _,⟨_,_,⟨a,V,O,_⟩,_⟩=>⟨a,V,O⟩
theorem c5.row{a:Option Addr}{cap:Nat}{ka:bF}{l:bU}(E:c5 I (.slice a n cap) ka (some l)){M:Prop}(T:∀b s u q O J p,a=some ⟨b,s,none⟩->1<=cap->bM I [u,q,O,J] (.fld ka)->dI I p l->(∀{h:Heap},aN I h->aI h b s=some u/\aI h b (s+1)=some q/\aI h b (s+2)=some O/\aI h b (s+3)=some J/\aI h b (s+4)=some (aB p))->(∀i S,([u,q,O,J]++[aB p])[i]?=some S->bP I b (s+i)=some S)->M):M:=by obtain⟨B,p,⟨g,H,C,t,-,-,-,k⟩,e,P⟩:=E;cases C;obtain⟨b,s,rfl,r⟩:=k zaa;obtain⟨u,q,O,J,rfl⟩:=cL e.1;exact T b s u q O J p rfl t e P (λ Z=>⟨Z.cell (r 0 _ rfl),Z.cell (r 1 _ rfl),Z.cell (r 2 _ rfl),Z.cell (r 3 _ rfl),Z.cell (r 4 _ rfl)⟩) r
theorem wU{D:Int}{r:IntKind}{T:Value->Prop}(K:0<=D/\D<=m):Sl h 275 (bq o l m n) (some (.int r D)) none none T=T (bq o (if n=D.toNat then l else l+D.toNat*5) (m-D.toNat) (n-D.toNat)):=l8 Tryz.underlying275 EW K
def oa:ex->ex->ex|none,c=>c|some a,none=>some a|some a,some b=>some (cl a b)
def gi(k:Nat)(T:aK)(h:Heap)(g l:Value)(m:bF)(c:ex):Prop:=∀R:KV,(∀t z v U,aD T h v U->v t=aE #[z] 277->c5 v z m c->R (aB t) U)->Cf h k #[g,l] R
theorem pq(Z:aN I h)(y:bP I m n=some a)(N:bP I o l=some b)(g:c5 I a S none)(x:c5 I b S none):gi 142 I h (cY m n) (cY o l) S none:=by
 intro z L;obtain⟨f,w,rfl⟩:=g;obtain⟨i,F,rfl⟩:=x;refine yq (rA ?_);refine⟨λ H W Q=>H=i0/\W=i0/\dY I h I Q n0 [] 0,λ _ _ _=>0,?_,?_⟩
 ·exact⟨rfl,rfl,⟨aP Z,Bk,aQ.nil ..,zab,Z.fresh bu⟩⟩
 rintro _ _ Q⟨rfl,rfl,d⟩;have S5:=d.st.sat;try simp(disch:=omega)only[go_sem,↓reduceIte,S5.cell y,S5.cell N]
 refine⟨λ T=>dY I h I T n0 [] 0,?_,?_⟩
 ·intro T K;have x:=K.st.sat;refine⟨λ B=>dY I h I B n0 [] 0,?_,?_⟩
  ·intro B i;exact i.fin zaa λ t X v U G _ C A=>L t X v U G C zcQ
  ·refine rC (x.cell y) (x.cell N) ?_;exact K
 ·exact zcM
theorem vr(Z:aN I h)(y:bP I m n=some a)(N:bP I o l=some b)(g:c5 I a S none)(v:c5 I b S (some E)):gi 142 I h (cY m n) (cY o l) S (some E):=by
 intro z L;obtain⟨f,w,rfl⟩:=g;obtain⟨i,F,rfl⟩:=v.len;refine v.row λ u s u q O J p G e e P k r=>?_;subst G;have c:=eX e.one (show aG (aB p)=true from rfl);refine yq (rA ?_);refine⟨λ H W Q=>H=i0/\W=i0/\dY I h I Q n0 [] 0,λ _ _ _=>0,?_,?_⟩
 ·exact⟨rfl,rfl,⟨aP Z,Bk,aQ.nil ..,zab,Z.fresh bu⟩⟩
 rintro _ _ Q⟨rfl,rfl,d⟩;have S5:=d.st.sat;try simp(disch:=omega)only[go_sem,↓reduceIte,S5.cell y,S5.cell N]
 refine⟨λ T=>dY I h I T n0 [] 0,?_,?_⟩
 ·intro T K;have x:=K.st.sat;refine⟨λ B=>∃s,dY I h I B s ([u,q,O,J]++[aB p]) 1,?_,?_⟩
  ·rintro B⟨s,i⟩;exact i.fin zaa λ t X v U G f C A=>L t X v U G C ⟨_,p,A,e.mono f,P.mono f⟩
  ·refine rE K.bk.c (x.cell y) (x.cell N) @wU ?_;refine K.tail (ys:=[u,q,O,J]++[aB p]) rfl c (λ M S O=>x.cell (r M S O)) zaa λ s U V=>⟨s,bS V⟩
 ·exact zcM
theorem vw(Z:aN I h)(y:bP I m n=some a)(N:bP I o l=some b)(g:c5 I a S (some E))(w:c5 I b S none):gi 142 I h (cY m n) (cY o l) S (some E):=by
 intro z L;obtain⟨i,F,rfl⟩:=w;obtain⟨f,w,rfl⟩:=g.len;refine g.row λ u s u q O J p G e e P k r=>?_;subst G;have c:=eX e.one (show aG (aB p)=true from rfl);refine yq (rA ?_);refine⟨λ H W Q=>H=i0/\W=i0/\dY I h I Q n0 [] 0,λ _ _ _=>0,?_,?_⟩
 ·exact⟨rfl,rfl,⟨aP Z,Bk,aQ.nil ..,zab,Z.fresh bu⟩⟩
 rintro _ _ Q⟨rfl,rfl,d⟩;have S5:=d.st.sat;try simp(disch:=omega)only[go_sem,↓reduceIte,S5.cell y,S5.cell N]
 refine⟨λ B=>∃s,dY I h I B s ([u,q,O,J]++[aB p]) 1,?_,?_⟩
 ·rintro T⟨Y,K⟩;have x:=K.st.sat;refine⟨λ B=>∃s,dY I h I B s ([u,q,O,J]++[aB p]) 1,?_,?_⟩
  ·rintro B⟨s,i⟩;exact i.fin zaa λ t X v U G f C A=>L t X v U G C ⟨_,p,A,e.mono f,P.mono f⟩
  ·refine rC (x.cell y) (x.cell N) ?_;exact⟨Y,K⟩
 ·try simp(disch:=omega)only[go_sem,↓reduceIte,S5.cell y,S5.cell N,wU,aA d.bk]
  refine d.tail (ys:=[u,q,O,J]++[aB p]) rfl c (λ M S O=>S5.cell (r M S O)) zaa λ s U V=>⟨s,bS V⟩
theorem nG(Z:aN I h)(y:I m=aE #[a,d] o)(N:I n=aE #[c,e] l)(g:ck I a E)(O:ck I c F)(s:dq E)(C:dq F)(D:E.length+F.length<2147483647)(k:∀v U,aD I h v U->gi 142 v U (cY m 1) (cY n 1) S V)(L:∀p J X v U,aD I h v U->v p=aE #[J,X] 279->ck v J (cl E F)->c5 v X S V->R (aB p) U):Cf h 90 #[aB m,aB n] R:=by
 have A:bP I m 0=some a:=by unfold bP;rw[y];rfl
 have B:bP I n 0=some c:=by unfold bP;rw[N];rfl
 refine Xb (rA ?_);refine yR Z A B g O D λ t X j K r c D=>?_;have i:=r.sat;refine rB (i _ _ c).c ?_;refine k j K r _ λ x z w t q N Y=>?_;have O:=q.sat;have u:=r.trans q;refine rC (O _ _ N).c (O _ _ (q.le _ _ c)).c ?_;have E:aD I h w (t.push (aV #[X,z] 279)):=bX Z u;obtain⟨f,i⟩:=E.one (b:=t.size) (cW u.size);exact L t.size X z _ _ f (aK.one_eq zaq) ((D.mono q.le).mono i) (Y.mono i)
theorem dI.chl(B:dI I m E)(N:bF):∃e J X,I m=aE #[J,X] e/\ck I J E/\dq E/\c5 I X N none:=by obtain⟨e,J,X,f,i,d,N⟩:=B;exact⟨e,J,X,f,i,d,N⟩
theorem s8(Z:aN I h)(f:dI I m E)(i:dI I n F)(D:E.length+F.length<2147483647)(L:∀p v U,aD I h v U->dI v p (cl E F)->R (aB p) U):Cf h 90 #[aB m,aB n] R:=by obtain⟨A,B,e,x,g,s,w⟩:=f.chl ⟨#[]⟩;obtain⟨z,P,M,H,l,C,F⟩:=i.chl ⟨#[]⟩;refine nG Z x H g l s C D (S:=⟨#[]⟩) (V:=none) (λ v U G=>?_) λ p J X v U G u d t=>L p v U G ⟨_,J,X,u,d,hW _ _ s C,t⟩;exact pq G.sat (a:=e) (b:=M) (by unfold bP;rw[G.le _ _ x];rfl) (by unfold bP;rw[G.le _ _ H];rfl) (w.mono G.le) (F.mono G.le)
theorem uV(Z:aN I h)(y:bP I m n=some a)(N:bP I o l=some b)(g:c5 I a S (some E))(K:c5 I b S (some F))(t:E.length+F.length<2147483647):gi 142 I h (cY m n) (cY o l) S (some (cl E F)):=by
 intro z L;obtain⟨i,d,rfl⟩:=K.len;obtain⟨f,w,rfl⟩:=g.len;refine g.row λ u s u q O J p G r e P k r=>?_;refine K.row λ c R A T H j o B V v l z g=>?_;subst G;subst B;have c:=e.one;have j:=v.one;refine yq (rA ?_);refine⟨λ H W Q=>(H=i0/\W=i0/\dY I h I Q n0 [] 0)\/(H=i1/\W=i1/\∃V X w p,dY I h V Q X (w++[aB p]) 1/\bM V w (.fld S)/\dI V p (cl E F)),λ H _ _=>match H with|.int _ M=>1-M.toNat|_=>0,?_,?_⟩
 ·exact .inl ⟨rfl,rfl,⟨aP Z,Bk,aQ.nil ..,zab,Z.fresh bu⟩⟩
 rintro _ _ Q(⟨rfl,rfl,d⟩|⟨rfl,rfl,V,X,w,H,d,C,D⟩)
 ·have S5:=d.st.sat;try simp(disch:=omega)only[go_sem,↓reduceIte,S5.cell y,S5.cell N,k S5,z S5]
  refine eN S5 e.2 v.2 rfl rfl λ T M=>?_;have K:=d.step M;have x:=K.st.sat;have j:decide (bQ (.fld S) (.fld S)<0)=false:=decide_eq_false eg;refine rB j ?_;refine⟨λ A f=>A=i1/\∃V X w p,dY I h V f X (w++[aB p]) 1/\bM V w (.fld S)/\dI V p (cl E F),?_,?_⟩
  ·rintro _ f⟨rfl,V,X,w,H,m,C,D⟩;refine rA ?_;exact⟨.inr ⟨V,X,w,H,m,C,D⟩,zaE⟩
  ·refine rE (x.cell y) (x.cell N) (k x) (z x) ?_;refine eN x v.2 e.2 rfl rfl λ B v=>?_;have i:=K.step v;have U:=i.st.sat;refine rG i.bk.c j (U.cell y) (U.cell N) (k U) (z U) ?_;refine s8 U P l t λ R A f Y g=>?_;have m:=i.step Y;have Q:=m.st.sat;have M:=Y.le;have l:aN I f:=λ r b t=>Q r b (M r b t);have K:=aF m.bk;refine rF m.bk.c (Q.cell (cE M y)) (Q.cell (cE M N)) (k l) (z l) ?_;refine m.item (eX (x:=[u,q,O,J]) c rfl) zaa λ s G t=>rA ?_;exact⟨A,s,[u,q,O,J],R,t,e.mono M,g⟩
 ·have S5:=d.st.sat;have M:=d.st.le;try simp(disch:=omega)only[go_sem,↓reduceIte,S5.cell (cE M y),S5.cell (cE M N)]
  refine⟨λ B=>∃V X w p,dY I h V B X (w++[aB p]) 1/\bM V w (.fld S)/\dI V p (cl E F),?_,?_⟩
  ·rintro T⟨V,X,w,H,d,C,D⟩;have x:=d.st.sat;have M:=d.st.le;refine⟨λ B=>∃V X w p,dY I h V B X (w++[aB p]) 1/\bM V w (.fld S)/\dI V p (cl E F),?_,?_⟩
   ·rintro B⟨V,X,w,H,d,C,D⟩;exact d.fin zaa λ t X v U G f Q A=>L t X v U G Q ⟨w,H,A,C.mono f,D.mono f⟩
   ·refine rC (x.cell (cE M y)) (x.cell (cE M N)) ?_;exact⟨V,X,w,H,d,C,D⟩
  ·try simp(disch:=omega)only[go_sem,↓reduceIte,S5.cell (cE M y),S5.cell (cE M N)]
   exact⟨V,X,w,H,d,C,D⟩
def I1:(aM h 277 a 0 275 λ a=>Ln h 275 a λ b=>Lp (∃(c:V1)(d:N1),c i0 h/\∀e f,c e f->(bv f .lss 3 e b (Ia f 275 a e λ a=>Ld f 388 a λ a=>bH f 388 a λ a b=>Fa b 388 a 1 λ a=>Ld b 173 a λ a=>Cf b 93 #[a] λ a b=>cD b a (R (.bool false) b) (Bi b .add 3 e i1 λ a=>(c a b/\d a b<d e f))) (R (.bool true) f))))->Cf h 144 #[a] R:=mS Tryz.func144 (Z E7)
def W5:(bg h 279 a 0 λ b=>Cf h 143 #[b] λ b c=>bv c .gtr 3 b i0 (R (.bool false) c) (bg c 279 a 1 λ a=>Cf c 144 #[a] λ a b=>R a b))->Cf h 93 #[a] R:=mS Tryz.func93 oY
def If:(aM h 277 a 0 275 λ a=>Ln h 275 a λ b=>Lp (∃(c:V2)(d:N2),c i0 i0 h/\∀e f g,c e f g->(bv g .lss 3 f b (Ia g 275 a f λ a=>Ld g 388 a λ a=>bH g 388 a λ a b=>Fa b 388 a 1 λ a=>Ld b 173 a λ a=>Cf b 270 #[a] λ a b=>Bi b .add 3 e a λ a=>Bi b .add 3 f i1 λ i=>(c a i b/\d a i b<d e f g)) (R e g))))->Cf h 249 #[a] R:=mS Tryz.func249 HN
def R1:(bg h 279 a 0 λ b=>bg h 279 a 1 λ c=>Cf h 143 #[b] λ b d=>eG d 279 a 1 c/\(Cf d 249 #[c] λ a c=>Bi c .add 3 b a λ a=>R a c))->Cf h 270 #[a] R:=mS Tryz.func270 (Z (Q (X #[0,1,3,7,0,16,48,127,255,511]) L))
theorem kq(Z:aN I h)(j:bP I m n=some a)(e:ck I a E)(L:R (aR E.length) h):Cf h 143 #[cY m n] R:=by obtain⟨B,t,rfl,-,-⟩:=e.slice;refine SI (rB (Z.cell j) ?_);exact L
theorem pM(Z:aN I h)(j:bP I m n=some a)(e:c5 I a S none)(L:∀U,aD I h I U->R bt U):Cf h 144 #[cY m n] R:=by obtain⟨B,t,rfl⟩:=e;refine I1 (rB (Z.cell j) ?_);refine⟨λ a y=>a=i0/\aD I h I y,λ _ _=>0,⟨rfl,aC.refl Z⟩,?_⟩;rintro _ y⟨rfl,E⟩;exact zcz
theorem k7(O:I m=aE #[a,b] n):bP I m 0=some a:=by unfold bP;rw[O];rfl
theorem mc1(O:I m=aE #[a,b] n):bP I m 1=some b:=by unfold bP;rw[O];rfl
def fh:ex->Bool|none=>true|some H=>H.isEmpty
theorem nF(Z:aN I h)(j:I m=aE #[a,b] n)(e:ck I a E)(k:∀{R:KV},(∀U,aD I h I U->R (.bool (fh V)) U)->Cf h 144 #[cY m 1] R)(L:∀U,aD I h I U->R (.bool (E.isEmpty&&fh V)) U):Cf h 93 #[aB m] R:=by
 refine W5 (rA ?_);refine kq Z (k7 j) e ?_;refine rA ?_;by_cases B:E.length=0
 ·have:E=[]:=List.length_eq_zero_iff.1 B;subst this;refine rA ?_;exact k λ U G=>L U G
 ·have A:E.isEmpty=false:=by cases E<;>simp at B⊢
  have z:decide ((0:Int)<(E.length:Int))=true:=by simp;exact zaa
  have:=L h (aC.refl Z);rw[A]at this;refine rB z ?_;exact zbX
theorem jE(Z:aN I h)(B:dI I m E)(L:∀U,aD I h I U->R (.bool E.isEmpty) U):Cf h 93 #[aB m] R:=by obtain⟨C,J,X,u,w,A,t⟩:=B.chl ⟨#[]⟩;refine nF Z (V:=none) u w (λ w=>pM Z (mc1 u) t w) λ U G=>?_;simpa[fh]using L U G
theorem sF(Z:aN I h)(j:bP I m n=some a)(e:c5 I a S V)(L:∀U,aD I h I U->R (.bool (fh V)) U):Cf h 144 #[cY m n] R:=by
 cases V with
  |none=>exact pM Z j e L
  |some H=>
   obtain⟨B,V,rfl⟩:=e.len;refine e.row λ x X u q O J p G f P g k r=>?_;subst G;have Y:=P.one u zab;have d:=P.one q zab;have t:=P.one O zab;have W:=P.one J zab;refine I1 (rB (Z.cell j) ?_);refine⟨λ a y=>(a=i0\/(a=i1/\H.isEmpty=true))/\aD I h I y,λ a _=>match a with|.int _ M=>1-M.toNat|_=>0,⟨.inl rfl,aC.refl Z⟩,?_⟩;rintro _ y⟨rfl|⟨rfl,f⟩,E⟩
   ·have X:=E.sat;have o:=E.size;refine rF (k X) Y d t W ?_;refine jE (show aD I h I _ from bX X E).sat g λ K r=>?_;have T:aD I h I K:=aC.trans (bX X E) r;cases f:H.isEmpty with|true=>refine rA ?_;exact⟨⟨.inr trivial,T⟩,zaE⟩|false=>refine rA ?_;have C:fh (some H)=false:=f;exact C▸L K T
   ·refine rA ?_;have C:fh (some H)=true:=f;exact C▸L y E
theorem gl(Z:aN I h)(B:cz I a E S V)(L:∀U,aD I h I U->R (.bool (E.isEmpty&&fh V)) U):Cf h 93 #[a] R:=by obtain⟨W,C,J,X,rfl,u,a,A,V⟩:=B;exact nF Z u a (λ w=>sF Z (mc1 u) V w) L
theorem q4(Z:aN I h)(j:bP I m n=some a)(e:c5 I a S none)(L:∀U,aD I h I U->R i0 U):Cf h 249 #[cY m n] R:=by obtain⟨B,t,rfl⟩:=e;refine If (rB (Z.cell j) ?_);refine⟨λ a E y=>a=i0/\E=i0/\aD I h I y,λ _ _ _=>0,⟨rfl,rfl,aC.refl Z⟩,?_⟩;rintro _ _ y⟨rfl,rfl,E⟩;exact zcz
theorem wW(Z:aN I h)(j:I m=aE #[a,b] n)(e:ck I a E)(k:∀{R:KV},(∀U,aD I h I U->R (aR o) U)->Cf h 249 #[cY m 1] R)(D:E.length+o<2147483648)(L:∀U,aD I h I U->R (aR ((E.length+o:Nat):Int)) U):Cf h 270 #[aB m] R:=by refine R1 (rA ?_);refine kq Z (k7 j) e ?_;refine rA ?_;refine k λ U G=>rA ?_;exact L _ G
theorem vq(Z:aN I h)(B:dI I m E)(D:E.length<2147483648)(L:∀U,aD I h I U->R (aR E.length) U):Cf h 270 #[aB m] R:=by obtain⟨C,J,X,u,w,A,t⟩:=B.chl ⟨#[]⟩;exact wW Z (o:=0) u w (λ w=>q4 Z (mc1 u) t w) D L
def eR:ex->Nat|none=>0|some H=>H.length
theorem nR(Z:aN I h)(j:bP I m n=some a)(e:c5 I a S V)(D:eR V<2147483648)(L:∀U,aD I h I U->R (aR (eR V)) U):Cf h 249 #[cY m n] R:=by
 cases V with
  |none=>exact q4 Z j e L
  |some H=>
   obtain⟨B,V,rfl⟩:=e.len;refine e.row λ x X u q O J p G X P g k r=>?_;subst G;have Y:=P.one u zab;have d:=P.one q zab;have f:=P.one O zab;have W:=P.one J zab;have C:H.length<2147483648:=D;refine If (rB (Z.cell j) ?_);refine⟨λ v a y=>((v=i0/\a=i0)\/(v=aR H.length/\a=i1))/\aD I h I y,λ _ a _=>match a with|.int _ M=>1-M.toNat|_=>0,⟨.inl ⟨rfl,rfl⟩,aC.refl Z⟩,?_⟩;rintro _ _ y⟨⟨rfl,rfl⟩|⟨rfl,rfl⟩,E⟩
   ·have X:=E.sat;have o:=E.size;refine rF (k X) Y d f W ?_;refine vq (show aD I h I _ from bX X E).sat g C λ K r=>?_;have T:aD I h I K:=aC.trans (bX X E) r;refine rB @Int.zero_add ?_;exact⟨⟨.inr trivial,T⟩,zaE⟩
   ·refine rA ?_;exact L y E
def DG:(Bd h 277 #[] λ c=>Bx h 277 c λ c d=>Lp (∃(e:V2)(f:N2),e i0 i0 d/\∀d g i,e d g i->(aM i 277 a 0 275 λ j=>Ln i 275 j λ j=>Bi i .lss 3 d j λ j=>aH i j (λ a b=>a g b) λ k l=>aH l j (λ a c=>a b c) λ l m=>aH m j (λ a b=>Nc l<|a l b) λ l m=>aH m j (λ a b=>Fa b 279 l 1 λ c=>a c b) λ l m=>aH m j (λ a b=>Fa b 277 l 0 λ c=>a c b) λ l m=>aH m j (λ a b=>Ld b 275 l λ c=>a c b) λ l m=>aH m j (λ a b=>Ln b 275 l λ c=>a c b) λ l m=>aH m j (λ a b=>Bi b .lss 3 k l λ c=>a c b) λ k l=>Pk j k bf λ j=>Cd j (aM l 277 a 0 275 λ j=>Ia l 275 j d λ j=>Fa l 388 j 0 λ j=>Ld l 369 j λ j=>bg l 279 b 1 λ k=>Fa l 277 k 0 λ k=>Ld l 275 k λ k=>Ia l 275 k g λ k=>Fa l 388 k 0 λ k=>Ld l 369 k λ k=>Cf l 202 #[j,k] λ j k=>Cd j (bg k 277 c 0 λ b=>Ld k 275 b λ j=>aM k 277 a 0 275 λ l=>Ia k 275 l d λ l=>Fa k 388 l 0 λ l=>Ld k 369 l λ l=>aM k 277 a 0 275 λ a=>Ia k 275 a d λ a=>Fa k 388 a 1 λ a=>Ld k 173 a λ a=>Bd k 388 #[(0,l),(1,a)] λ a=>Bs k 275 1 #[(0,a)] λ a k=>aX k 277 c 0 b 275 j<|(Ap k 275 j a λ a b=>bC b 277 c 0 275 a λ a=>Bi a .add 3 d i1 λ b=>(e b g a/\f b g a<f d g i))) (Lp (∃j:V1,(∀a b,j a b->(Bi b .add 3 g i1 λ c=>(e a c b/\f a c b<f d g i)))/\(bg k 279 b 1 λ e=>Fa k 277 e 0 λ e=>Ld k 275 e λ e=>Ia k 275 e g λ e=>Fa k 388 e 0 λ e=>Ld k 369 e λ e=>aM k 277 a 0 275 λ f=>Ia k 275 f d λ f=>Fa k 388 f 0 λ f=>Ld k 369 f λ f=>Cf k 202 #[e,f] λ e f=>cD f e (aM f 277 a 0 275 λ e=>Ia f 275 e d λ e=>Fa f 388 e 1 λ e=>Ld f 173 e λ e=>bg f 279 b 1 λ b=>Fa f 277 b 0 λ b=>Ld f 275 b λ b=>Ia f 275 b g λ b=>Fa f 388 b 1 λ b=>Ld f 173 b λ b=>Cf f 89 #[e,b] λ b e=>Lp (∃f:V0,(∀a,f a->(Bi a .add 3 d i1 λ b=>j b a))/\(Cf e 93 #[b] λ e g=>cD g e (bg g 277 c 0 λ e=>Ld g 275 e λ i=>aM g 277 a 0 275 λ a=>Ia g 275 a d λ a=>Fa g 388 a 0 λ a=>Ld g 369 a λ a=>Bd g 388 #[(0,a),(1,b)] λ a=>Bs g 275 1 #[(0,a)] λ a b=>aX b 277 c 0 e 275 i<|(Ap b 275 i a λ a b=>bC b 277 c 0 275 a λ a=>f a)) (f g)))) (j d f))))) (Lp (∃b:V0,(∀a,b a->(R c a))/\(aM l 277 a 0 275 λ e=>Ln l 275 e λ e=>bv l .lss 3 d e (aM l 277 c 0 275 λ e=>aM l 277 a 0 275 λ a=>Sl l 275 a (some d) none none λ a=>Ap l 275 e a λ a d=>bC d 277 c 0 275 a λ a=>b a) (b l)))))))->Cf h 140 #[a,b] R:=mS Tryz.func140 (Z (Z (Z (Q (B (O [6,7] (Q cF (B (Q (X #[0,1,3,7,0,31,63,127,0,256,768,1792,3840,0,16128,32512,65280,131071]) (C (Q (X #[0,0,2,6,14,0,32,96,224,0,992,2016,4064,0,8192,24576,57344,0,253952,516096,1040384,2097120,4194272,8388606,16777215,33554431,67108863]) L) (Y [6] (Q (X #[0,1,3,7,15,0,63,127,255,0,512,1536,3584,0,15872,32256,65024,131071,262143]) (C (Q (X #[0,1,3,7,0,31,63,127,0,256,768,1792,3840,0,16128,32512,65280,131071,262143]) PH) L)) L))))))) Ep))))
def W1:(bg h 279 a 0 λ c=>bg h 279 b 0 λ d=>bg h 279 a 1 λ e=>Cf h 139 #[c,d] λ c d=>eG d 279 a 1 e/\(Nc c<|Ld d 273 c λ a=>Cf d 140 #[e,b] λ b d=>bh d 273 c a/\(Nc b<|Ld d 277 b λ b=>Bd d 279 #[(0,a),(1,b)] λ a=>Bx d 279 a λ a b=>R a b)))->Cf h 89 #[a,b] R:=mS Tryz.func89 (Z (Q (X #[0,1,3,0,8,24,63,127,255,0,512,1536,0,7807,15999,32383,65535,131071,262143]) L))
def fC(H:bU):ex:=if H.isEmpty then none else some H
def qm:ex->ex->ex|none,_=>none|some a,none=>some a|some a,some b=>fC (cu a b)
theorem dY.fin0(d:dY I h J H a x 0)(L:∀t z v U,aD I h v U->v t=aE #[z] 277->c5 v z S none->R (aB t) U):R (aB h.size) H:=d.fin zaa λ t a v U G _ C A=>L t a v U G C zcQ
theorem rt(Z:aN I h)(y:bP I m n=some a)(g:c5 I a S none):gi 140 I h (cY m n) (aB o) S none:=by
 intro z L;obtain⟨f,w,rfl⟩:=g;refine DG (rA ?_);refine⟨λ H W Q=>H=i0/\W=i0/\dY I h I Q n0 [] 0,λ _ _ _=>0,?_,?_⟩
 ·exact⟨rfl,rfl,⟨aP Z,Bk,aQ.nil ..,zab,Z.fresh bu⟩⟩
 rintro _ _ Q⟨rfl,rfl,d⟩;have S5:=d.st.sat;try simp(disch:=omega)only[go_sem,↓reduceIte,S5.cell y]
 refine⟨λ T=>dY I h I T n0 [] 0,?_,?_⟩
 ·intro T K;exact K.fin0 L
 ·try simp(disch:=omega)only[go_sem,↓reduceIte,S5.cell y]
  exact d
theorem pW(Z:aN I h)(y:I m=aE #[a,d] o)(N:I n=aE #[c,e] l)(g:ck I a E)(t:ck I c F)(D:E.length+F.length<2147483647)(k:∀v U,aD I h v U->gi 140 v U (cY m 1) (aB n) S V)(L:∀p J X v U,aD I h v U->v p=aE #[J,X] 279->ck v J (cu E F)->c5 v X S V->R (aB p) U):Cf h 89 #[aB m,aB n] R:=by refine W1 (rA ?_);refine zP Z (k7 y) (k7 N) g t D λ t X j K r c D=>?_;have i:=r.sat;refine rB (i _ _ c).c ?_;refine k j K r _ λ x z w t q N Y=>?_;have O:=q.sat;have u:=r.trans q;refine rC (O _ _ N).c (O _ _ (q.le _ _ c)).c ?_;have E:aD I h w (t.push (aV #[X,z] 279)):=bX Z u;obtain⟨f,i⟩:=E.one (b:=t.size) (cW u.size);exact L t.size X z _ _ f (aK.one_eq zaq) ((D.mono q.le).mono i) (Y.mono i)
theorem vu(Z:aN I h)(f:dI I m E)(i:dI I n F)(D:E.length+F.length<2147483647)(L:∀p v U,aD I h v U->dI v p (cu E F)->R (aB p) U):Cf h 89 #[aB m,aB n] R:=by obtain⟨A,B,e,x,g,s,w⟩:=f.chl ⟨#[]⟩;obtain⟨z,P,M,H,l,C,F⟩:=i.chl ⟨#[]⟩;refine pW Z x H g l D (S:=⟨#[]⟩) (V:=none) (λ v U G=>?_) λ p J X v U G u I t=>L p v U G ⟨_,J,X,u,I,j1 s,t⟩;exact rt G.sat (a:=e) (mc1 (G.le _ _ x)) (w.mono G.le)
theorem yU(Z:aN I h)(y:bP I m n=some a)(N:bP I o 1=some b)(g:c5 I a S (some E))(l:c5 I b S none):gi 140 I h (cY m n) (aB o) S (some E):=by
 intro z L;obtain⟨i,F,rfl⟩:=l;obtain⟨f,w,rfl⟩:=g.len;refine g.row λ u s u q O J p G e e P k r=>?_;subst G;have c:=eX e.one (show aG (aB p)=true from rfl);refine DG (rA ?_);refine⟨λ H W Q=>H=i0/\W=i0/\dY I h I Q n0 [] 0,λ _ _ _=>0,?_,?_⟩
 ·exact⟨rfl,rfl,⟨aP Z,Bk,aQ.nil ..,zab,Z.fresh bu⟩⟩
 rintro _ _ Q⟨rfl,rfl,d⟩;have S5:=d.st.sat;try simp(disch:=omega)only[go_sem,↓reduceIte,S5.cell y,S5.cell N]
 refine⟨λ B=>∃s,dY I h I B s ([u,q,O,J]++[aB p]) 1,?_,?_⟩
 ·rintro B⟨s,i⟩;exact i.fin zaa λ t X v U G f C A=>L t X v U G C ⟨_,p,A,e.mono f,P.mono f⟩
 ·try simp(disch:=omega)only[go_sem,↓reduceIte,S5.cell y,S5.cell N,wU,aA d.bk]
  refine d.tail (ys:=[u,q,O,J]++[aB p]) rfl c (λ M S O=>S5.cell (r M S O)) zaa λ s U V=>⟨s,bS V⟩
def jY(I:aK)(q:Heap)(V:aK)(h:Heap)(X:Value)(m:bF)(H:bU):Prop:=(H.isEmpty=true/\X=n0/\dY I q V h X [] 0)\/(H.isEmpty=false/\∃w p,dY I q V h X (w++[aB p]) 1/\bM V w (.fld m)/\dI V p H)
theorem jY.fin{m:bF}(d:jY I h J H a m E)(L:∀t z v U,aD I h v U->v t=aE #[z] 277->c5 v z m (fC E)->R (aB t) U):R (aB h.size) H:=by
 unfold fC at L;rcases d with⟨C,-,s⟩|⟨C,w,p,s,e,P⟩
 ·rw[C]at L;exact s.fin0 (S:=m) L
 ·rw[C]at L;exact s.fin zaa λ t a v U G f C A=>L t a v U G C ⟨w,p,A,e.mono f,P.mono f⟩
theorem jY.st(d:jY I h J H a S E):aD I h J H:=by
 rcases d with⟨C,-,s⟩|⟨C,w,p,s,e,P⟩
 ·exact s.st
 ·exact s.st
theorem wS(Z:aN I h)(y:bP I m n=some a)(N:bP I o 1=some b)(g:c5 I a S (some E))(l:c5 I b S (some F))(D:E.length+F.length<2147483647):gi 140 I h (cY m n) (aB o) S (fC (cu E F)):=by
 intro z b;obtain⟨i,e,rfl⟩:=l.len;obtain⟨f,w,rfl⟩:=g.len;refine g.row λ u s u q O J p G f e P k r=>?_;refine l.row λ c R A T H j o B V v a z g=>?_;subst G;subst B;have c:=e.one;have A:=v.one;refine DG (rA ?_);refine⟨λ H W Q=>(H=i0/\W=i0/\dY I h I Q n0 [] 0)\/(H=i1/\W=i1/\∃V X,jY I h V Q X S (cu E F)),λ H _ _=>match H with|.int _ M=>1-M.toNat|_=>0,?_,?_⟩
 ·exact .inl ⟨rfl,rfl,⟨aP Z,Bk,aQ.nil ..,zab,Z.fresh bu⟩⟩
 rintro _ _ Q(⟨rfl,rfl,d⟩|⟨rfl,rfl,V,X,d⟩)
 ·have S5:=d.st.sat;try simp(disch:=omega)only[go_sem,↓reduceIte,S5.cell y,S5.cell N,k S5,z S5]
  refine eN S5 e.2 v.2 rfl rfl λ T M=>?_;have K:=d.step M;have x:=K.st.sat;have j:decide (bQ (.fld S) (.fld S)<0)=false:=decide_eq_false eg;refine rB j ?_;refine⟨λ w o=>w=i1/\∃V X,jY I h V o X S (cu E F),?_,?_⟩
  ·rintro _ o⟨rfl,V,X,C⟩;refine rA ?_;exact⟨.inr ⟨V,X,C⟩,zaE⟩
  ·refine rE (x.cell y) (x.cell N) (k x) (z x) ?_;refine eN x v.2 e.2 rfl rfl λ B g=>?_;have i:=K.step g;have U:=i.st.sat;refine rG i.bk.c j (U.cell y) (U.cell N) (k U) (z U) ?_;refine vu U P a D λ R A o Y L=>?_;have C:=i.step Y;refine⟨λ G=>∃V X,jY I h V G X S (cu E F),?_,?_⟩
   ·rintro G⟨V,X,t⟩;refine rA ?_;exact⟨V,X,t⟩
   ·have Q:=C.st.sat;have M:=Y.le;refine jE Q L λ G H=>?_;have t:=C.step H;have m:=t.st.sat;have w:aN I G:=λ r U p=>m r U (M r U p);have D:=aF t.bk;by_cases x:(cu E F).isEmpty=true
    ·refine rB x ?_;exact⟨A,_,.inl ⟨x,rfl,t⟩⟩
    ·have f:(cu E F).isEmpty=false:=bS x;refine rG t.bk.c f (w.cell y) (w.cell N) (k w) (z w) ?_;refine t.item (eX (x:=[u,q,O,J]) c rfl) zaa λ s m a=>?_;exact⟨A,s,.inr ⟨f,[u,q,O,J],R,a,e.mono M,L⟩⟩
 ·have S5:=d.st.sat;have M:=d.st.le;try simp(disch:=omega)only[go_sem,↓reduceIte,S5.cell (cE M y),S5.cell (cE M N)]
  refine⟨λ B=>∃V X,jY I h V B X S (cu E F),?_,?_⟩
  ·rintro T⟨V,X,d⟩;exact d.fin b
  ·try simp(disch:=omega)only[go_sem,↓reduceIte,S5.cell (cE M y),S5.cell (cE M N)]
   exact⟨V,X,d⟩
theorem lH(Z:aN I h){m:bF}(f:cz I a E m V)(i:cz I b F m W)(D:E.length+F.length<2147483647)(r:eR V+eR W<2147483647)(L:∀w v U,aD I h v U->cz v w (cu E F) m (qm V W)->R w U):Cf h 89 #[a,b] R:=by
 obtain⟨N,A,B,e,rfl,x,S,s,O⟩:=f;obtain⟨l,z,P,M,rfl,H,y,C,n⟩:=i;refine pW Z x H S y D (S:=m) (V:=qm V W) (λ v U G=>?_) λ p J X v U G u w t=>L _ v U G ⟨p,_,J,X,rfl,u,w,j1 s,t⟩;have k:=mc1 (G.le _ _ x);have K:=mc1 (G.le _ _ H);have d:=O.mono G.le;have g:=n.mono G.le;cases V with
  |none=>exact rt G.sat k d
  |some Q=>cases W with|none=>exact yU G.sat k K d g|some e=>exact wS G.sat k K d g r
theorem kD(Z:aN I h){m:bF}(f:cz I a E m V)(i:cz I b F m W)(D:E.length+F.length<2147483647)(r:eR V+eR W<2147483647)(L:∀w v U,aD I h v U->cz v w (cl E F) m (oa V W)->R w U):Cf h 90 #[a,b] R:=by
 obtain⟨N,A,B,e,rfl,x,S,s,O⟩:=f;obtain⟨l,z,P,M,rfl,H,y,C,n⟩:=i;refine nG Z x H S y s C D (S:=m) (V:=oa V W) (λ v U G=>?_) λ p J X v U G u w t=>L _ v U G ⟨p,_,J,X,rfl,u,w,hW _ _ s C,t⟩;have k:=mc1 (G.le _ _ x);have K:=mc1 (G.le _ _ H);have d:=O.mono G.le;have g:=n.mono G.le;cases V with
  |none=>cases W with|none=>exact pq G.sat k K d g|some e=>exact vr G.sat k K d g
  |some Q=>cases W with|none=>exact vw G.sat k K d g|some e=>exact uV G.sat k K d g r
def G3:(Bd h 277 #[] λ c=>Bx h 277 c λ c d=>Lp (∃(e:V2)(f:N2),e i0 i0 d/\∀d g i,e d g i->(aM i 277 a 0 275 λ j=>Ln i 275 j λ j=>Bi i .lss 3 d j λ j=>aH i j (λ a b=>a g b) λ k l=>aH l j (λ a c=>a b c) λ l m=>aH m j (λ a b=>Nc l<|a l b) λ l m=>aH m j (λ a b=>Fa b 277 l 0 λ c=>a c b) λ l m=>aH m j (λ a b=>Ld b 275 l λ c=>a c b) λ l m=>aH m j (λ a b=>Ln b 275 l λ c=>a c b) λ l m=>aH m j (λ a b=>Bi b .lss 3 k l λ c=>a c b) λ k l=>Pk j k bf λ j=>Cd j (aM l 277 a 0 275 λ j=>Ia l 275 j d λ j=>Fa l 388 j 0 λ j=>Ld l 369 j λ j=>aM l 277 b 0 275 λ k=>Ia l 275 k g λ k=>Fa l 388 k 0 λ k=>Ld l 369 k λ k=>Cf l 202 #[j,k] λ j k=>Cd j (Bi k .add 3 d i1 λ a=>(e a g k/\f a g k<f d g i)) (Lp (∃j:V1,(∀a b,j a b->(Bi b .add 3 g i1 λ c=>(e a c b/\f a c b<f d g i)))/\(aM k 277 b 0 275 λ e=>Ia k 275 e g λ e=>Fa k 388 e 0 λ e=>Ld k 369 e λ e=>aM k 277 a 0 275 λ f=>Ia k 275 f d λ f=>Fa k 388 f 0 λ f=>Ld k 369 f λ f=>Cf k 202 #[e,f] λ e f=>cD f e (aM f 277 a 0 275 λ e=>Ia f 275 e d λ e=>Fa f 388 e 1 λ e=>Ld f 173 e λ e=>aM f 277 b 0 275 λ b=>Ia f 275 b g λ b=>Fa f 388 b 1 λ b=>Ld f 173 b λ b=>Cf f 137 #[e,b] λ b e=>Lp (∃f:V0,(∀a,f a->(Bi a .add 3 d i1 λ b=>j b a))/\(Cf e 93 #[b] λ e g=>cD g e (bg g 277 c 0 λ e=>Ld g 275 e λ i=>aM g 277 a 0 275 λ a=>Ia g 275 a d λ a=>Fa g 388 a 0 λ a=>Ld g 369 a λ a=>Bd g 388 #[(0,a),(1,b)] λ a=>Bs g 275 1 #[(0,a)] λ a b=>aX b 277 c 0 e 275 i<|(Ap b 275 i a λ a b=>bC b 277 c 0 275 a λ a=>f a)) (f g)))) (j d f))))) (R c l))))->Cf h 198 #[a,b] R:=mS Tryz.func198 (Z (Z (Z (Q (B (O [6,7] (Q cF (B (Q Qb (C L (Y [6] (Q IM (C (Q IM PH) L)) L))))))) bG))))
def Ux:(bg h 279 a 0 λ c=>bg h 279 b 0 λ d=>bg h 279 a 1 λ e=>bg h 279 b 1 λ f=>Cf h 197 #[c,d] λ c d=>eG d 279 a 1 e/\eG d 279 b 1 f/\(Nc c<|Ld d 273 c λ a=>Cf d 198 #[e,f] λ b d=>bh d 273 c a/\(Nc b<|Ld d 277 b λ b=>Bd d 279 #[(0,a),(1,b)] λ a=>Bx d 279 a λ a b=>R a b)))->Cf h 137 #[a,b] R:=mS Tryz.func137 PF
def oG:ex->ex->ex|some a,some b=>fC (cy a b)|_,_=>none
theorem lp(Z:aN I h)(y:bP I m n=some a)(N:bP I o l=some b)(g:c5 I a S V)(P:c5 I b S W)(Y:V=none\/W=none):gi 198 I h (cY m n) (cY o l) S none:=by
 intro z L;obtain⟨f,w,rfl⟩:=g.len;obtain⟨i,F,rfl⟩:=P.len;refine G3 (rA ?_);refine⟨λ H l Q=>H=i0/\l=i0/\dY I h I Q n0 [] 0,λ _ _ _=>0,?_,?_⟩
 ·exact⟨rfl,rfl,⟨aP Z,Bk,aQ.nil ..,zab,Z.fresh bu⟩⟩
 rintro _ _ Q⟨rfl,rfl,d⟩;have S5:=d.st.sat;cases V with
  |none=>
   try simp(disch:=omega)only[go_sem,↓reduceIte,S5.cell y]
   exact d.fin0 L
  |some Q=>
   cases W with
    |none=>
     try simp(disch:=omega)only[go_sem,↓reduceIte,S5.cell y,S5.cell N]
     exact d.fin0 L
    |some e=>simp at Y
theorem nP(Z:aN I h)(y:I m=aE #[a,d] o)(N:I n=aE #[c,e] l)(g:ck I a E)(t:ck I c F)(D:E.length+F.length<2147483647)(k:∀v U,aD I h v U->gi 198 v U (cY m 1) (cY n 1) S V)(L:∀p J X v U,aD I h v U->v p=aE #[J,X] 279->ck v J (cy E F)->c5 v X S V->R (aB p) U):Cf h 137 #[aB m,aB n] R:=by refine Ux (rA ?_);refine xl Z (k7 y) (k7 N) g t D λ t X j K r c D=>?_;have i:=r.sat;refine rB (i _ _ c).c ?_;refine k j K r _ λ x z w t q N Y=>?_;have O:=q.sat;have u:=r.trans q;refine rC (O _ _ N).c (O _ _ (q.le _ _ c)).c ?_;have E:aD I h w (t.push (aV #[X,z] 279)):=bX Z u;obtain⟨f,i⟩:=E.one (b:=t.size) (cW u.size);exact L t.size X z _ _ f (aK.one_eq zaq) ((D.mono q.le).mono i) (Y.mono i)
theorem uD(Z:aN I h)(f:dI I m E)(i:dI I n F)(D:E.length+F.length<2147483647)(L:∀p v U,aD I h v U->dI v p (cy E F)->R (aB p) U):Cf h 137 #[aB m,aB n] R:=by obtain⟨A,B,e,x,g,s,w⟩:=f.chl ⟨#[]⟩;obtain⟨z,P,M,H,l,C,F⟩:=i.chl ⟨#[]⟩;refine nP Z x H g l D (S:=⟨#[]⟩) (V:=none) (λ v U G=>?_) λ p J X v U G u r t=>L p v U G ⟨_,J,X,u,r,py s,t⟩;exact lp G.sat (a:=e) (b:=M) (mc1 (G.le _ _ x)) (mc1 (G.le _ _ H)) (w.mono G.le) (F.mono G.le) (.inl rfl)
theorem uO(Z:aN I h)(y:bP I m n=some a)(N:bP I o l=some b)(g:c5 I a S (some E))(L:c5 I b S (some F))(D:E.length+F.length<2147483647):gi 198 I h (cY m n) (cY o l) S (fC (cy E F)):=by
 intro z b;obtain⟨i,e,rfl⟩:=L.len;obtain⟨f,w,rfl⟩:=g.len;refine g.row λ u s u q O J p G f e P k r=>?_;refine L.row λ c R A T H j o B V v a z g=>?_;subst G;subst B;have c:=e.one;have A:=v.one;refine G3 (rA ?_);refine⟨λ H W Q=>(H=i0/\W=i0/\dY I h I Q n0 [] 0)\/(H=i1/\W=i1/\∃V X,jY I h V Q X S (cy E F)),λ H _ _=>match H with|.int _ M=>1-M.toNat|_=>0,?_,?_⟩
 ·exact .inl ⟨rfl,rfl,⟨aP Z,Bk,aQ.nil ..,zab,Z.fresh bu⟩⟩
 rintro _ _ Q(⟨rfl,rfl,d⟩|⟨rfl,rfl,V,X,d⟩)
 ·have S5:=d.st.sat;try simp(disch:=omega)only[go_sem,↓reduceIte,S5.cell y,S5.cell N,k S5,z S5]
  refine eN S5 e.2 v.2 rfl rfl λ T M=>?_;have K:=d.step M;have x:=K.st.sat;have j:decide (bQ (.fld S) (.fld S)<0)=false:=decide_eq_false eg;refine rB j ?_;refine⟨λ g Y=>g=i1/\∃V X,jY I h V Y X S (cy E F),?_,?_⟩
  ·rintro _ Y⟨rfl,V,X,C⟩;refine rA ?_;exact⟨.inr ⟨V,X,C⟩,zaE⟩
  ·refine rE (x.cell y) (x.cell N) (k x) (z x) ?_;refine eN x v.2 e.2 rfl rfl λ B U=>?_;have i:=K.step U;have U:=i.st.sat;refine rG i.bk.c j (U.cell y) (U.cell N) (k U) (z U) ?_;refine uD U P a D λ R A Y Y L=>?_;have C:=i.step Y;refine⟨λ G=>∃V X,jY I h V G X S (cy E F),?_,?_⟩
   ·rintro G⟨V,X,t⟩;refine rA ?_;exact⟨V,X,t⟩
   ·have Q:=C.st.sat;have M:=Y.le;refine jE Q L λ G H=>?_;have t:=C.step H;have m:=t.st.sat;have w:aN I G:=λ r l p=>m r l (M r l p);have D:=aF t.bk;by_cases x:(cy E F).isEmpty=true
    ·refine rB x ?_;exact⟨A,_,.inl ⟨x,rfl,t⟩⟩
    ·have f:(cy E F).isEmpty=false:=bS x;refine rG t.bk.c f (w.cell y) (w.cell N) (k w) (z w) ?_;refine t.item (eX (x:=[u,q,O,J]) c rfl) zaa λ s h a=>?_;exact⟨A,s,.inr ⟨f,[u,q,O,J],R,a,e.mono M,L⟩⟩
 ·have S5:=d.st.sat;have M:=d.st.le;try simp(disch:=omega)only[go_sem,↓reduceIte,S5.cell (cE M y),S5.cell (cE M N)]
  exact d.fin b
theorem nz(Z:aN I h){m:bF}(f:cz I a E m V)(i:cz I b F m W)(D:E.length+F.length<2147483647)(r:eR V+eR W<2147483647)(L:∀w v U,aD I h v U->cz v w (cy E F) m (oG V W)->R w U):Cf h 137 #[a,b] R:=by
 obtain⟨N,A,B,e,rfl,x,S,s,O⟩:=f;obtain⟨l,z,P,M,rfl,H,y,C,n⟩:=i;refine nP Z x H S y D (S:=m) (V:=oG V W) (λ v U G=>?_) λ p J X v U G u w t=>L _ v U G ⟨p,_,J,X,rfl,u,w,py s,t⟩;have k:=mc1 (G.le _ _ x);have K:=mc1 (G.le _ _ H);have d:=O.mono G.le;have g:=n.mono G.le;cases V with
  |none=>exact lp G.sat k K d g (.inl rfl)
  |some Q=>cases W with|none=>exact lp G.sat k K d g (.inr rfl)|some e=>exact uO G.sat k K d g r
theorem nQ{E:World}(M:E.heap=h){x:Option Nat}{p:Array Nat}(j:blk h m=some (.mapIter x n p o)):(getObj m).run P E=.ok (.mapIter x n p o) E:=by unfold blk at j;rw[<-M]at j;simp[getObj,Sem.run,j]
theorem hX(W:P.underlying m=some (.map n o)){g:fP}(B:cJ h l=some (g,t)):Rn h m (.map (some l)) R=R (aB h.size) (h.push (.mapIter (some l) t #[] t)):=by refine kv λ E M=>?_;refine⟨E.alloc (.mapIter (some l) t #[] t),?_,by rw[<-M];rfl,⟨rfl,rfl⟩⟩;unfold Instr.range;simp only[Sem.run_bind,bD W,Result.andThen_ok,fK M B,Sem.run_pure];rw[<-M];rfl
def df(h:Heap)(b W c:Nat)(s:fx):Prop:=blk h b=some (.mapIter (some W) c (s.map (·.born)).toArray c)
theorem vF{E:World}(M:E.heap=h){x:Option Nat}{p:Array Nat}(j:blk h m=some (.mapIter x n p o))(s:Obj):∃Z,(setObj m s).run P E=.ok () Z/\Z.heap=hset h m s/\Sm E Z:=by unfold blk at j;subst M;refine⟨{E with heap:=E.heap.setIfInBounds m s},?_,rfl,⟨rfl,rfl⟩⟩;simp[setObj,Sem.run,j]
theorem KC{g:fP}{s:fx}(B:cJ h n=some (g,o))(J:cP g.toList o)(r:df h m n o s)(q:(∀e∈g.toList,e.born∈s.map (·.born))->R (.tuple #[bf]) h)(y:∀e∈g.toList,e.born∉s.map (·.born)->R (.tuple #[bt,e.key,e.val]) (hset h m (.mapIter (some n) o ((s++[e]).map (·.born)).toArray o))):Nx h (aB m) false l R:=by
 intro E M;unfold Instr.next;have C:∀X∈g.toList,X.born<o:=J.old;simp only[Sem.run_bind,nQ M r,Result.andThen_ok,Sem.run_pure,fK M B,next_test_false _ g o o C bu,Bool.false_eq_true,if_false];have u:∀X∈(g.filter λ e=>!(s.map (·.born)).toArray.contains e.born),X∈g.toList/\X.born∉s.map (·.born):=by intro X i;have:=Array.mem_filter.1 i;refine⟨Array.mem_toList_iff.2 this.1,?_⟩;simpa using this.2
 have b:∀X∈g.toList,X.born∉s.map (·.born)->X∈(g.filter λ e=>!(s.map (·.born)).toArray.contains e.born):=by intro X i D;exact Array.mem_filter.2 ⟨Array.mem_toList_iff.1 i,bS D⟩
 generalize(g.filter λ e=>!(s.map (·.born)).toArray.contains e.born)=L at u b⊢;have A:L.filter (λ X=>decide (X.born<o))=L:=Array.filter_eq_self.2 λ X i=>bS (C X (u X i).1);have z:L.filter (λ X=>decide (X.born>=o))=#[]:=by rw[Array.filter_eq_empty_iff];intro X i;have:=C X (u X i).1;simp;exact zaa
 simp only[A,z,Array.append_empty];by_cases k:L.size=0
 ·have i:L=#[]:=Array.eq_empty_of_size_eq_zero k;subst i;refine⟨.tuple #[bf],E,?_,?_,Sm.refl _⟩
  ·simp[choose,Sem.run,Question.forced]
  ·rw[M];refine q λ e x=>Classical.byContradiction λ D=>?_;exact absurd (b e x D) zab
 ·have F:L.isEmpty=false:=by simp[Array.isEmpty,k]
  simp only[F,Bool.false_eq_true,if_false,Array.empty_append,Array.size_map];have F:∃(D:Nat)(q:World),D<L.size/\q.heap=h/\Sm E q/\(choose (Question.mapNext L.size)).run P E=.ok D q:=by
   by_cases V:L.size<=1
   ·exact⟨0,E,zaa,M,Sm.refl _,by simp[choose,Sem.run,Question.forced,V]⟩
   ·exact⟨_,E.drew,Nat.mod_lt _ zaa,M,⟨rfl,rfl⟩,by simp only[choose,Sem.run,Question.forced,decide_eq_true_eq,V,if_false,Question.cut];rfl⟩
  obtain⟨D,q,K,a,I,v⟩:=F;obtain⟨O,h,t,k⟩:=vF a r (.mapIter (some n) o (((s.map (·.born)).toArray).push L[D].born) o);refine⟨.tuple #[bt,L[D].key,L[D].val],O,?_,?_,I.trans k⟩
  ·simp only[v,Result.andThen_ok,Array.getElem?_map,Array.getElem?_eq_getElem K,Option.map_some,Sem.run_bind,h,Sem.run_pure]
  ·rw[t];have:=u L[D] (Array.getElem_mem K);have Q:=y L[D] this.1 this.2;simpa using Q
theorem jk{g:fP}{s:fx}{C:g8}(B:cJ h n=some (g,o))(J:cP g.toList o)(x:C∈g.toList)(r:df h m n o (s++[C])):Et h (aB m) R=R (bj C.key C.val) h:=by
 refine kv λ E M=>⟨E,?_,M,Sm.refl _⟩;unfold Instr.entry;have V:g.find? (·.born==C.born)=some C:=by rw[<-Array.find?_toList];exact find_born C g.toList J.born x
 have j:((s++[C]).map (·.born)).toArray.back?=some C.born:=zab;simp only[Sem.run_bind,nQ M r,Result.andThen_ok,j,fK M B,bne_self_eq_false,Bool.false_eq_true,if_false,V,Sem.run_pure]
theorem df.new:df (h.push (.mapIter (some m) n #[] n)) h.size m n []:=by unfold df;rw[cq,if_pos rfl];rfl
theorem df.next{s:fx}(r:df h m n o s)(C:g8):df (hset h m (.mapIter (some n) o ((s++[C]).map (·.born)).toArray o)) m n o (s++[C]):=de (aF r)
theorem df.step{D:Nat->Prop}{I':aK}{s:fx}(r:df h m n o s)(E:aC D I h I' H)(G:¬D m):df H m n o s:=E.blk r G
def RZ:(Rn h 242 a λ a b=>Lp (∃(c:V1)(d:N1),c n0 b/\∀b e,c b e->(Nx e a false 0 λ f g=>Ex f 0 λ f=>Cd f (Et g a λ a f=>Ex a 0 λ a=>Bs f 32 1 #[(0,a)] λ a f=>Ap f 32 b a λ a f=>Ln f 32 a λ g=>Bi f .sub 3 g i1 λ g=>Lp (∃(i:V1)(j:N1),i g f/\∀f g,i f g->(Bi g .gtr 3 f i0 λ k=>aH g k (λ b c=>b a c) λ l m=>aH m k (λ a b=>a f b) λ m n=>aH n k (λ a b=>Ia b 32 l m λ c=>a c b) λ l m=>aH m k (λ a b=>Ld b 9 l λ c=>a c b) λ l m=>aH m k (λ b c=>b a c) λ m n=>aH n k (λ a b=>a f b) λ n o=>aH o k (λ a b=>Bi b .sub 3 n i1 λ c=>a c b) λ n o=>aH o k (λ a b=>Ia b 32 m n λ c=>a c b) λ m n=>aH n k (λ a b=>Ld b 9 m λ c=>a c b) λ m n=>aH n k (λ a b=>Bi b .lss 9 l m λ c=>a c b) λ l m=>Pk k l bf λ k=>Cd k (Bi m .sub 3 f i1 λ b=>Bi m .sub 3 f i1 λ c=>Ia m 32 a c λ c=>Ld m 9 c λ c=>Ia m 32 a f λ d=>Ld m 9 d λ d=>Ia m 32 a f λ e=>Sr m 9 e c λ c=>Rc P c (binOp .sub 3 f i1) b/\(Ia c 32 a b λ a=>Sr c 9 a d λ a=>Bi a .sub 3 f i1 λ b=>(i b a/\j b a<j f g))) (c a m/\d a m<d b e)))) (R b g))))->Cf h 128 #[a] R:=mS Tryz.func128 Qm
def Vm:(Rn h 106 a λ a b=>Lp (∃(c:V1)(d:N1),c n0 b/\∀b e,c b e->(Nx e a false 0 λ f g=>Ex f 0 λ f=>Cd f (Et g a λ a f=>Ex a 0 λ a=>Bs f 32 1 #[(0,a)] λ a f=>Ap f 32 b a λ a f=>Ln f 32 a λ g=>Bi f .sub 3 g i1 λ g=>Lp (∃(i:V1)(j:N1),i g f/\∀f g,i f g->(Bi g .gtr 3 f i0 λ k=>aH g k (λ b c=>b a c) λ l m=>aH m k (λ a b=>a f b) λ m n=>aH n k (λ a b=>Ia b 32 l m λ c=>a c b) λ l m=>aH m k (λ a b=>Ld b 9 l λ c=>a c b) λ l m=>aH m k (λ b c=>b a c) λ m n=>aH n k (λ a b=>a f b) λ n o=>aH o k (λ a b=>Bi b .sub 3 n i1 λ c=>a c b) λ n o=>aH o k (λ a b=>Ia b 32 m n λ c=>a c b) λ m n=>aH n k (λ a b=>Ld b 9 m λ c=>a c b) λ m n=>aH n k (λ a b=>Bi b .lss 9 l m λ c=>a c b) λ l m=>Pk k l bf λ k=>Cd k (Bi m .sub 3 f i1 λ b=>Bi m .sub 3 f i1 λ c=>Ia m 32 a c λ c=>Ld m 9 c λ c=>Ia m 32 a f λ d=>Ld m 9 d λ d=>Ia m 32 a f λ e=>Sr m 9 e c λ c=>Rc P c (binOp .sub 3 f i1) b/\(Ia c 32 a b λ a=>Sr c 9 a d λ a=>Bi a .sub 3 f i1 λ b=>(i b a/\j b a<j f g))) (c a m/\d a m<d b e)))) (R b g))))->Cf h 147 #[a] R:=mS Tryz.func147 Qm
theorem aQ.at(B:aQ m I h n o a l x)(D:0<l):∃g V X,a=bq g 0 l V/\m<=g/\blk h g=aE X n/\l<=V/\V<=maxLen/\X.size=V*o/\X.toList.take (l*o)=x/\I g=none:=by
 rcases B.1.2 with⟨rfl,rfl⟩|⟨g,V,X,rfl,y,N,K,t,Q,T⟩
 ·exact zaa
 ·exact⟨g,V,X,rfl,y,N,K,t,Q,T,B.2 g rfl⟩
theorem im{g:fP}{s:fx}(B:cJ h n=some (g,o))(J:cP g.toList o)(r:df h m n o s)(q:(∀e∈g.toList,e.born∈s.map (·.born))->R (.tuple #[bf]) h)(y:∀e∈g.toList,e.born∉s.map (·.born)->∀U,U.size=h.size->(∀k,k≠m->blk U k=blk h k)->df U m n o (s++[e])->R (.tuple #[bt,e.key,e.val]) U):Nx h (aB m) false l R:=KC B J r q λ e x D=>y e x D _ (aL ..) (λ _ Y=>dw Y) (r.next e)
theorem aQ.slK(B:aQ m I h n o a l x){M:Prop}(T:∀B c,a=.slice B l c->M):M:=by
 rcases B.1.2 with⟨rfl,rfl⟩|⟨P,V,X,rfl,y,N,K,t,Q,h⟩
 ·exact T _ _ rfl
 ·exact T _ _ rfl
theorem gf{g:Nat->Prop}{U:Heap}(E:aC g I h J H)(j:h.size<=m\/g m)(d:J m=none)(s:U.size=H.size)(Y:∀k,k≠m->blk U k=blk H k):aC g I h J U:=by
 refine⟨by rw[s];exact E.size,?_,E.dom,E.le,?_⟩
 ·intro k a G;rw[show U[k]?=H[k]? from Y k (by rintro rfl;rcases j with j|j;omega;exact G j)];exact E.same k a G
 ·intro k q p;rw[show U[k]?=H[k]? from Y k (by rintro rfl;rw[d]at p;cases p)];exact E.sat k q p
theorem aQ.atK(B:aQ m I h n o a l x)(D:0<l){M:Prop}(T:∀g V X,a=bq g 0 l V->m<=g->blk h g=aE X n->l<=V->V<=maxLen->X.size=V*o->X.toList.take (l*o)=x->I g=none->M):M:=by obtain⟨g,V,X,y,N,K,t,Q,Z,O,H⟩:=B.at D;exact T g V X y N K t Q Z O H
theorem aQ.setv(B:aQ m I h n 1 (bq l 0 o t) o x)(Y:u<o)(S:Value):aQ m I (aO h l u S) n 1 (bq l 0 o t) o (x.set u S):=by
 obtain⟨J,H,X,v,j,z,a,q,s,G,d⟩:=B.at zaa;cases v;refine⟨⟨by rw[List.length_set];exact B.1.1,.inr ⟨l,t,X.setIfInBounds u S,rfl,j,?_,a,q,zce,?_⟩⟩,B.2⟩
 ·show blk (aO h l u S) l=_;rw[bO,if_pos rfl,z,dP]
 ·rw[Array.toList_setIfInBounds,List.take_set,G]
theorem ho:Rc P h (pure a) b=(a=b):=by rw[jp];exact cV λ E _=>rfl
theorem qK:∀(c:bW)(i:Nat)(h:i+1<c.length),((c.set (i+1) c[i]).set i c[i+1]).Perm c|[],i,h=>by simp at h|[_],i,h=>by simp at h|B::u::p,0,_=>bS (List.Perm.swap .. )|B::u::p,i+1,h=>by have:=qK (u::p) i (bS h);exact zai
theorem wD(Y:x=z.map Value.string)(q:0<m)(K:m<z.length):((x.set m (aU (z[m-1]'zaa))).set (m-1) (aU z[m])).Perm x:=by obtain⟨M,rfl⟩:∃M,m=M+1:=⟨m-1,zaa⟩;subst Y;have:=qK (z.map Value.string) M (bS K);exact zai
theorem uy{g:fx}(D:(g.map (·.born)).Nodup){B u:g8}(Y:B∈g)(j:u∈g)(O:B.born=u.born):B=u:=by
 induction g with
  |nil=>cases Y
  |cons X H ih=>
   have y:=List.nodup_cons.1 D;rcases List.mem_cons.1 Y with G|R
   ·rcases List.mem_cons.1 j with Z|c
    ·rw[G,Z]
    ·exact absurd (List.mem_map.2 ⟨u,c,by rw[<-G];exact O.symm⟩) y.1
   ·rcases List.mem_cons.1 j with Z|c
    ·exact absurd (List.mem_map.2 ⟨B,R,by rw[<-Z];exact O⟩) y.1
    ·exact ih y.2 R c
theorem eY{H:fx}(O:(H.map (·.born)).Nodup):H.Nodup:=List.Pairwise.of_map (·.born) (λ _ _ F C=>F (congrArg _ C)) O
theorem nh:∀(c:bW),(∀S∈c,∃A,S=aU A)->∃q:bn,c=q.map Value.string
 |[],_=>⟨[],rfl⟩
 |X::H,O=>by obtain⟨A,rfl⟩:=O X zab;obtain⟨q,rfl⟩:=nh H λ S l=>O S (by simp[l]);exact⟨A::q,rfl⟩
theorem HB{K:BinOp}:Rc P h (binOp K m a b) c=Bi h K m a b λ S=>S=c:=jp
theorem od(Z:aN I h){g:fP}(w:I m=some (.map g n))(J:cP g.toList n)(D:g.size<2147483647)(L:∀X q v U,aD I h v U->Strs v X q->q.Perm (g.toList.map aZ)->R X U):Cf h 128 #[.map (some m)] R:=by
 have P:=Z.dom w;apply RZ;try simp(disch:=omega)only[go_sem,↓reduceIte,hX Tryz.underlying242 (bI (Z _ _ w))]
 refine⟨λ d N=>∃s c,df N h.size m n s/\(∀C∈s,C∈g.toList)/\(s.map (·.born)).Nodup/\aQ (h.size+1) I N 9 1 d s.length c/\c.Perm (s.map λ C=>Value.string (aZ C))/\aD I h I N,λ d _=>match d with|.slice _ v _=>g.size-v|_=>0,?_,?_⟩
 ·exact⟨[],[],df.new,zab,zab,aQ.nil ..,zab,aP Z⟩
 rintro d N⟨s,c,r,G,b,F,e,E⟩;have W:=E.sat;have D:=E.size;have O:s.length<=g.size:=by have y:s.Nodup:=eY b;have:=List.Nodup.length_le_of_subset y G;exact zai
 refine im (bI (W _ _ w)) J r (λ o=>?_) (λ C x a0 K u j a=>?_)
 ·refine rA ?_;have D:s.Perm g.toList:=zaO;have R:∃q:bn,c=q.map Value.string/\q.Perm (g.toList.map aZ):=zat;obtain⟨q,rfl,Y⟩:=R;have Q:q.length=s.length:=by have:=e.length_eq;exact zai
  obtain⟨f,i,B⟩:=F.frz E zaa zaa zcE;refine L _ q _ _ f ?_ Y;rw[Strs,Q];exact B
 ·have f:C.key=aU (aZ C):=J.str C x;have D:=aF r;have V:∀P,d.ownBlock=some P->P≠h.size:=λ P z=>cW (F.1.block z).1;have A:I h.size=none:=Z.fresh bu;have T:aD I h I K:=gf E (.inl bu) A u j;have U:aQ (h.size+1) I K 9 1 d s.length c:=⟨F.1.same λ P z=>j P (V P z),F.2⟩;have i:=T.sat;have d:s.length+1<=g.size:=by have y:(s++[C]).Nodup:=eY (by rw[List.map_append,List.nodup_append];exact⟨b,zab,za8⟩);have:=List.Nodup.length_le_of_subset y (l₂:=g.toList) λ R Y=>zaK;exact zai
  have W:=U.one;try simp(disch:=omega)only[go_sem,↓reduceIte,jk (bI (i _ _ w)) J x a,f]
  refine bY fD rfl zaa zaa (H:=#[(aU (aZ C))]) Bk (U.push _) (T.push _).sat rfl (by simp[di]) zaa (by(try simp only[bJ]);exact zaa) λ d Q l D S5 E=>?_;have o:∀P,d.ownBlock=some P->P≠h.size:=λ P z=>cW (l.1.block z).1;have M:df Q h.size m n (s++[C]):=D.blk (show blk (K.push (aV #[(aU (aZ C))] 9)) h.size=_ from by rw[cq,if_neg zaa];exact a) λ J=>V _ J rfl;have A:aD I h I Q:=aC.touch (T.push _) D λ P z=>⟨.inl (cW (F.1.block z).1),F.2 P z⟩;refine F.slK λ r L w=>?_;refine l.atK zaa λ P V X v a F X Z J N K=>rB v ?_;refine⟨λ S B=>∃(D:Nat)(p:bW),S=aR D/\D<=s.length/\df B h.size m n (s++[C])/\aQ (h.size+1) I B 9 1 (bq P 0 (s.length+1) V) (s.length+1) p/\p.Perm (c++[(aU (aZ C))])/\aD I h I B,λ S _=>match S with|.int _ D=>D.toNat|_=>0,⟨s.length,_,congrArg (Value.int .i64) zaa,Nat.le_refl _,M,v▸l,List.Perm.refl _,A⟩,?_⟩;rintro _ B⟨D,p,rfl,K,Q,a,S,u⟩;have U:=u.sat;have W:=u.size;have T:∀y,y=s.length->∃s c,df B h.size m n s/\(∀C∈s,C∈g.toList)/\(s.map (·.born)).Nodup/\aQ (h.size+1) I B 9 1 (bq P 0 (y+1) V) s.length c/\c.Perm (s.map λ C=>Value.string (aZ C))/\aD I h I B:=by
   rintro _ rfl;refine⟨s++[C],p,Q,λ R Y=>?_,by rw[List.map_append,List.nodup_append];exact⟨b,zab,za8⟩,bS a,?_,u⟩
   ·exact zaK
   ·exact zcS
  by_cases l:0<D
  ·have t:decide ((0:Int)<(D:Int))=true:=by simp;exact zaa
   refine a.atK zaa λ J H b N G i o o Z R r=>?_;have h:J=P/\H=V:=by cases N;exact⟨rfl,rfl⟩
   have n:p.length=s.length+1:=cW a.1.1;have X:∃q:bn,p=q.map Value.string:=nh p λ a1 O=>by
    rcases List.mem_append.1 ((S.mem_iff).1 O)with O|O
    ·exact zaW
    ·exact⟨aZ C,List.mem_singleton.1 O⟩
   refine Exists.elim X λ q m=>?_;have aI:∀M,(d:M<q.length)->aI B P M=some (aU q[M]):=zaS;have c:q.length=s.length+1:=by rw[m]at n;simpa using n
   have f:=aI D zaa;have A:=aI (D-1) zaa;have L:((D:Int)-1).toNat=D-1:=zaa;have W:(D:Int)-1=((D-1:Nat):Int):=zaa;refine rG v t L @Nat.zero_add f A ?_;refine⟨λ o=>?_,λ o=>?_⟩
   ·have V:∀R,gH B P R=false:=λ R=>h.1▸aS i R;refine rI v @ho @oU V L @Nat.zero_add f A ?_;have x:=(a.setv (u:=D) zaa (aU q[D-1])).setv (u:=D-1) zaa (aU q[D]);have M:=aF (h.1▸i:blk B P=aE b 9);have h:I P=none:=a.2 P rfl;refine⟨⟨D-1,_,congrArg (Value.int .i64) W,zaa,?_,x,(wD m l zaa).trans S,?_⟩,zaa⟩
    ·show blk _ _=_;rw[bO,if_neg zaa,bO,if_neg zaa];exact Q
    ·exact aC.put (aC.put u (.inl zaa) h) (.inl zaa) h
   ·refine⟨T _ rfl,?_⟩;rw[w];show g.size-(s.length+1)<g.size-s.length;exact zaa
  ·have t:decide ((0:Int)<(D:Int))=false:=by simp;exact zaa
   refine rC v t ?_;refine⟨T _ rfl,?_⟩;rw[w];show g.size-(s.length+1)<g.size-s.length;exact zaa
theorem nY(Z:aN I h){g:fP}(w:I m=some (.map g n))(J:cP g.toList n)(D:g.size<2147483647)(L:∀X q v U,aD I h v U->Strs v X q->q.Perm (g.toList.map aZ)->R X U):Cf h 147 #[.map (some m)] R:=by
 have P:=Z.dom w;apply Vm;try simp(disch:=omega)only[go_sem,↓reduceIte,hX Tryz.underlying106 (bI (Z _ _ w))]
 refine⟨λ d N=>∃s c,df N h.size m n s/\(∀C∈s,C∈g.toList)/\(s.map (·.born)).Nodup/\aQ (h.size+1) I N 9 1 d s.length c/\c.Perm (s.map λ C=>Value.string (aZ C))/\aD I h I N,λ d _=>match d with|.slice _ v _=>g.size-v|_=>0,?_,?_⟩
 ·exact⟨[],[],df.new,zab,zab,aQ.nil ..,zab,aP Z⟩
 rintro d N⟨s,c,r,G,b,F,e,E⟩;have W:=E.sat;have D:=E.size;have O:s.length<=g.size:=by have y:s.Nodup:=eY b;have:=List.Nodup.length_le_of_subset y G;exact zai
 refine im (bI (W _ _ w)) J r (λ o=>?_) (λ C x a0 K u j a=>?_)
 ·refine rA ?_;have D:s.Perm g.toList:=zaO;have R:∃q:bn,c=q.map Value.string/\q.Perm (g.toList.map aZ):=zat;obtain⟨q,rfl,Y⟩:=R;have Q:q.length=s.length:=by have:=e.length_eq;exact zai
  obtain⟨f,i,B⟩:=F.frz E zaa zaa zcE;refine L _ q _ _ f ?_ Y;rw[Strs,Q];exact B
 ·have f:C.key=aU (aZ C):=J.str C x;have D:=aF r;have V:∀P,d.ownBlock=some P->P≠h.size:=λ P z=>cW (F.1.block z).1;have A:I h.size=none:=Z.fresh bu;have T:aD I h I K:=gf E (.inl bu) A u j;have U:aQ (h.size+1) I K 9 1 d s.length c:=⟨F.1.same λ P z=>j P (V P z),F.2⟩;have i:=T.sat;have d:s.length+1<=g.size:=by have y:(s++[C]).Nodup:=eY (by rw[List.map_append,List.nodup_append];exact⟨b,zab,za8⟩);have:=List.Nodup.length_le_of_subset y (l₂:=g.toList) λ R Y=>zaK;exact zai
  have W:=U.one;try simp(disch:=omega)only[go_sem,↓reduceIte,jk (bI (i _ _ w)) J x a,f]
  refine bY fD rfl zaa zaa (H:=#[(aU (aZ C))]) Bk (U.push _) (T.push _).sat rfl (by simp[di]) zaa (by(try simp only[bJ]);exact zaa) λ d Q l D S5 E=>?_;have o:∀P,d.ownBlock=some P->P≠h.size:=λ P z=>cW (l.1.block z).1;have M:df Q h.size m n (s++[C]):=D.blk (show blk (K.push (aV #[(aU (aZ C))] 9)) h.size=_ from by rw[cq,if_neg zaa];exact a) λ J=>V _ J rfl;have A:aD I h I Q:=aC.touch (T.push _) D λ P z=>⟨.inl (cW (F.1.block z).1),F.2 P z⟩;refine F.slK λ r L w=>?_;refine l.atK zaa λ P V X v a F X Z J N K=>rB v ?_;refine⟨λ S B=>∃(D:Nat)(p:bW),S=aR D/\D<=s.length/\df B h.size m n (s++[C])/\aQ (h.size+1) I B 9 1 (bq P 0 (s.length+1) V) (s.length+1) p/\p.Perm (c++[(aU (aZ C))])/\aD I h I B,λ S _=>match S with|.int _ D=>D.toNat|_=>0,⟨s.length,_,congrArg (Value.int .i64) zaa,Nat.le_refl _,M,v▸l,List.Perm.refl _,A⟩,?_⟩;rintro _ B⟨D,p,rfl,K,Q,a,S,u⟩;have U:=u.sat;have W:=u.size;have T:∀y,y=s.length->∃s c,df B h.size m n s/\(∀C∈s,C∈g.toList)/\(s.map (·.born)).Nodup/\aQ (h.size+1) I B 9 1 (bq P 0 (y+1) V) s.length c/\c.Perm (s.map λ C=>Value.string (aZ C))/\aD I h I B:=by
   rintro _ rfl;refine⟨s++[C],p,Q,λ R Y=>?_,by rw[List.map_append,List.nodup_append];exact⟨b,zab,za8⟩,bS a,?_,u⟩
   ·exact zaK
   ·exact zcS
  by_cases l:0<D
  ·have t:decide ((0:Int)<(D:Int))=true:=by simp;exact zaa
   refine a.atK zaa λ J H b N G i o o Z R r=>?_;have h:J=P/\H=V:=by cases N;exact⟨rfl,rfl⟩
   have n:p.length=s.length+1:=cW a.1.1;have X:∃q:bn,p=q.map Value.string:=nh p λ a1 O=>by
    rcases List.mem_append.1 ((S.mem_iff).1 O)with O|O
    ·exact zaW
    ·exact⟨aZ C,List.mem_singleton.1 O⟩
   refine Exists.elim X λ q m=>?_;have aI:∀M,(d:M<q.length)->aI B P M=some (aU q[M]):=zaS;have c:q.length=s.length+1:=by rw[m]at n;simpa using n
   have f:=aI D zaa;have A:=aI (D-1) zaa;have L:((D:Int)-1).toNat=D-1:=zaa;have W:(D:Int)-1=((D-1:Nat):Int):=zaa;refine rG v t L @Nat.zero_add f A ?_;refine⟨λ o=>?_,λ o=>?_⟩
   ·have V:∀R,gH B P R=false:=λ R=>h.1▸aS i R;refine rI v @ho @oU V L @Nat.zero_add f A ?_;have x:=(a.setv (u:=D) zaa (aU q[D-1])).setv (u:=D-1) zaa (aU q[D]);have M:=aF (h.1▸i:blk B P=aE b 9);have h:I P=none:=a.2 P rfl;refine⟨⟨D-1,_,congrArg (Value.int .i64) W,zaa,?_,x,(wD m l zaa).trans S,?_⟩,zaa⟩
    ·show blk _ _=_;rw[bO,if_neg zaa,bO,if_neg zaa];exact Q
    ·exact aC.put (aC.put u (.inl zaa) h) (.inl zaa) h
   ·refine⟨T _ rfl,?_⟩;rw[w];show g.size-(s.length+1)<g.size-s.length;exact zaa
  ·have t:decide ((0:Int)<(D:Int))=false:=by simp;exact zaa
   refine rC v t ?_;refine⟨T _ rfl,?_⟩;rw[w];show g.size-(s.length+1)<g.size-s.length;exact zaa
def DT:(Al h 35 λ b c=>Ta c a 20 4 true λ d=>Ex d 1 λ e=>Ex d 0 λ d=>Cd e (Cd d (Bd c 35 #[(0,i1),(1,i1)] λ a=>Sr c 35 b a λ a=>Rv a 35 b λ b=>R b a) (Bd c 35 #[(0,i1)] λ a=>Sr c 35 b a λ a=>Rv a 35 b λ b=>R b a)) (Ta c a 20 2 true λ d=>Ex d 1 λ e=>Ex d 0 λ d=>Cd e (Bd c 35 #[(0,i2),(1,d)] λ a=>Sr c 35 b a λ a=>Rv a 35 b λ b=>R b a) (Ta c a 20 31 true λ d=>Ex d 1 λ e=>Ex d 0 λ d=>Cd e (Bd c 35 #[(0,(aR 3)),(2,d)] λ a=>Sr c 35 b a λ a=>Rv a 35 b λ b=>R b a) (Ta c a 20 9 true λ d=>Ex d 1 λ e=>Ex d 0 λ d=>Cd e (Bd c 35 #[(0,(aR 4)),(3,d)] λ a=>Sr c 35 b a λ a=>Rv a 35 b λ b=>R b a) (Ta c a 20 241 true λ d=>Ex d 1 λ e=>Ex d 0 λ d=>Cd e (Bd c 35 #[(0,(aR 5))] λ a=>bH c 35 a λ a c=>Ln c 241 d λ e=>Lp (∃(f:V1)(g:N1),f i0 c/\∀c i,f c i->(bv i .lss 3 c e (Ia i 241 d c λ b=>Ld i 20 b λ b=>Fa i 35 a 5 λ d=>Ld i 33 d λ e=>Cf i 204 #[b] λ b j=>aX j 35 a 5 d 33 e<|(Bs j 33 1 #[(0,b)] λ b j=>aX j 35 a 5 d 33 e<|(Ap j 33 e b λ b d=>Fa d 35 a 5 λ a=>Sr d 33 a b λ a=>Bi a .add 3 c i1 λ b=>(f b a/\g b a<g c i)))) (Ld i 35 a λ a=>Sr i 35 b a λ a=>Rv a 35 b λ b=>R b a)))) (Ta c a 20 242 true λ a=>Ex a 1 λ d=>Ex a 0 λ a=>Cd d (Bd c 35 #[(0,(aR 6))] λ d=>bH c 35 d λ c d=>Cf d 128 #[a] λ d e=>Fa e 35 c 4 λ f=>Sr e 32 f d λ d=>Fa d 35 c 4 λ e=>Ld d 32 e λ e=>Ln d 32 e λ f=>Lp (∃(g:V1)(i:N1),g i0 d/\∀d j,g d j->(bv j .lss 3 d f (Ia j 32 e d λ b=>Ld j 9 b λ b=>Fa j 35 c 5 λ e=>Ld j 33 e λ f=>Lk j 242 a b false λ a=>Cf j 204 #[a] λ a b=>aX b 35 c 5 e 33 f<|(Bs b 33 1 #[(0,a)] λ a b=>aX b 35 c 5 e 33 f<|(Ap b 33 f a λ a b=>Fa b 35 c 5 λ c=>Sr b 33 c a λ a=>Bi a .add 3 d i1 λ b=>(g b a/\i b a<i d j)))) (Ld j 35 c λ a=>Sr j 35 b a λ a=>Rv a 35 b λ b=>R b a)))) (Bd c 35 #[] λ a=>Sr c 35 b a λ a=>Rv a 35 b λ b=>R b a)))))))->Cf h 204 #[a] R:=mS Tryz.func204 (Z (Q (Z (B (Z (C oY (Z (C cX (Z (C cX (Z (C cX (Z (C (Z (Z (Q (Z (B (O [43] Hb))) bG))) (Z (C (Z (Z (Z (Q (Z (B (O [66] (Z (Q d8 (Q (B (Z (X #[0,1,0,0,12,28,60,127,255,511]))) L)))))) bG)))) L)))))))))))))) bG))
def GG:(Al h 35 λ b c=>ce c 228 a ni (Bd c 35 #[] λ a=>Sr c 35 b a λ a=>Rv a 35 b λ b=>R b a) (Iv c a "Unstructured" #[] λ a c=>Cf c 204 #[a] λ a c=>Sr c 35 b a λ a=>Rv a 35 b λ b=>R b a))->Cf h 146 #[a] R:=mS Tryz.func146 oY
def SS:(Bx h 369 a λ a b=>Al b 153 λ b c=>Fa c 369 a 0 λ d=>Ld c 87 d λ d=>bx c 87 d nilp (Fa c 369 a 0 λ a=>Ld c 87 a λ a=>Nc a<|Ld c 9 a λ a=>Bd c 153 #[(1,a)] λ a=>Sr c 153 b a λ a=>Rv a 153 b λ b=>R b a) (Fa c 369 a 1 λ d=>Ld c 365 d λ d=>bx c 365 d nilp (Bd c 153 #[(0,i1)] λ d=>bH c 153 d λ c d=>Fa d 369 a 1 λ a=>Ld d 365 a λ a=>Nc a<|Ld d 441 a λ a=>Ln d 441 a λ e=>Lp (∃(f:V1)(g:N1),f i0 d/\∀d i,f d i->(bv i .lss 3 d e (Ia i 441 a d λ a=>Ld i 451 a λ a=>bH i 451 a λ a b=>Fa b 153 c 2 λ e=>Ld b 32 e λ e=>Fa b 451 a 0 λ j=>Ld b 9 j λ j=>Bs b 32 1 #[(0,j)] λ b j=>Ap j 32 e b λ b e=>Fa e 153 c 2 λ j=>Sr e 32 j b λ b=>Fa b 153 c 3 λ e=>Ld b 33 e λ j=>Fa b 451 a 1 λ a=>Ld b 228 a λ a=>Cf b 146 #[a] λ a b=>aX b 153 c 3 e 33 j<|(Bs b 33 1 #[(0,a)] λ a b=>aX b 153 c 3 e 33 j<|(Ap b 33 j a λ a b=>Fa b 153 c 3 λ c=>Sr b 33 c a λ a=>Bi a .add 3 d i1 λ b=>(f b a/\g b a<g d i)))) (Ld i 153 c λ a=>Sr i 153 b a λ a=>Rv a 153 b λ b=>R b a)))) (Fa c 369 a 2 λ d=>Ld c 366 d λ d=>bx c 366 d nilp (Fa c 369 a 2 λ a=>Ld c 366 a λ a=>Nc a<|Ld c 228 a λ a=>Cf c 146 #[a] λ a c=>Bd c 153 #[(0,i2),(4,a)] λ a=>Sr c 153 b a λ a=>Rv a 153 b λ b=>R b a) (Fa c 369 a 3 λ d=>Ld c 367 d λ d=>bx c 367 d nilp (Fa c 369 a 3 λ a=>Ld c 367 a λ a=>Nc a<|Ld c 3 a λ a=>Bd c 153 #[(0,(aR 3)),(5,a)] λ a=>Sr c 153 b a λ a=>Rv a 153 b λ b=>R b a) (Bd c 153 #[] λ a=>Sr c 153 b a λ a=>Rv a 153 b λ b=>R b a)))))->Cf h 203 #[a] R:=mS Tryz.func203 (Z (Q (B (Z (C bG (Z (C (Z (Q (Z (B (O [25] (Z (Q d8 (Q (B (Z (Z (X #[0,1,0,4,12,28,63,127,255])))) L)))))) bG)) z6))))) bG))
def Su:(Bs h 119 0 #[] λ b c=>Ln c 252 a λ d=>Lp (∃(e:V2)(f:N2),e b i0 c/\∀b c g,e b c g->(bv g .lss 3 c d (Ia g 252 a c λ a=>Ld g 369 a λ a=>bH g 369 a λ a d=>Ld d 369 a λ a=>Cf d 203 #[a] λ a d=>Bs d 119 1 #[(0,a)] λ a d=>Ap d 119 b a λ a d=>Bi d .add 3 c i1 λ i=>(e a i d/\f a i d<f b c g)) (R b g))))->Cf h 145 #[a] R:=mS Tryz.func145 Ql
theorem mq(Z:aN I h)(L:∀U,aD I h I U->R (gt (aU S)) U):Cf h 204 #[bE S] R:=by refine DT (rA ?_);exact zaC
theorem rP(Z:aN I h)(p:PV I a (bE S))(L:∀U,aD I h I U->R (gt (aU S)) U):Cf h 146 #[a] R:=by obtain⟨u,C,rfl,j⟩:=p;have o:=Z.dom j;refine GG (rB (Z _ _ j).c ?_);refine e7 (show aD I h I _ from aP Z).sat rfl λ N P=>?_;have C:aD I h I N:=aC.trans (aP Z) P;have g:=P.size;(try simp only[bJ]at g);have H:=P.blk (show blk (h.push (aV #[i0,i0,f0,s0,n0,n0] 35)) h.size=some _ from zaq) id;refine mq C.sat λ K r=>?_;have n:=C.trans r;have J:=r.blk H id;have e:=r.size;refine rB J.b ?_;exact L _ (bX Z n)
theorem vf(Z:aN I h)(p:bM I x G)(L:∀U,aD I h I U->R (.agg (elC G).toArray) U):Cf h 203 #[.agg x.toArray] R:=by
 obtain⟨f,p⟩:=p;apply SS;cases G with
  |fld A=>obtain⟨u,rfl,H,j⟩:=p;have o:=Z.dom j;refine rB (Z _ _ j).c ?_;exact zaC
  |val A=>
   obtain⟨u,rfl,H,w,j,e⟩:=p;have o:=Z.dom j;have K:aG w=true:=by obtain⟨u,G,rfl,-⟩:=e;rfl
   refine rC (Z _ _ j).c K ?_;refine rP (show aD I h I _ from aP Z).sat e λ N P=>?_;have C:aD I h I N:=aC.trans (aP Z) P;have g:=P.size;(try simp only[bJ]at g);have H:=P.blk (b:=h.size+1) Bk id;refine rB H.b ?_;exact L _ (bX Z C)
theorem Eh:Bs h 119 1 #[(0,.agg (elC G).toArray)] R=R (bq h.size 0 1 1) (h.push (aV (elC G).toArray 153)):=by cases G<;>try simp(disch:=omega)only[go_sem,↓reduceIte]
theorem us(C:El):∀S∈elC C,aG S=true:=by cases C<;>simp[elC,dy,cS,di,bZ]
theorem vt(Z:aN I h)(w:Rows (bM I) x E)(k:∀i S,x[i]?=some S->aI h m (n+i)=some S)(D:E.length<2147483647)(L:∀X v U,aD I h v U->PathR v X E->R X U):Cf h 145 #[bq m n E.length o] R:=by
 obtain⟨g,N,rfl,Q⟩:=w.lists;have o:∀X∈g,X.length=4:=by intro X C;obtain⟨p,P,rfl⟩:=List.getElem_of_mem C;exact(Q p zaa P).1
 have c:∀i(d:i<E.length),∃u q O J,bM I [u,q,O,J] E[i]/\aI h m (n+i*4)=some u/\aI h m (n+i*4+1)=some q/\aI h m (n+i*4+2)=some O/\aI h m (n+i*4+3)=some J:=by
  intro i d;have e:=Q i d zaa;have s:∀D,D<4->g.flatten[i*4+D]?=(g[i]'zaa)[D]?:=λ D K=>eD g o i D zaa K;generalize g[i]'zaa=w at e s;obtain⟨u,q,O,J,rfl⟩:=cL e.1;refine⟨u,q,O,J,e,?_,?_,?_,?_⟩
  ·exact k (i*4+0) u (by rw[s 0 zaa];rfl)
  ·rw[Nat.add_assoc];exact k (i*4+1) q (by rw[s 1 zaa];rfl)
  ·rw[Nat.add_assoc];exact k (i*4+2) O (by rw[s 2 zaa];rfl)
  ·rw[Nat.add_assoc];exact k (i*4+3) J (by rw[s 3 zaa];rfl)
 refine Su (rA ?_);refine⟨λ X W Q=>∃(i:Nat),W=aR i/\i<=E.length/\aD I h I Q/\aQ h.size I Q 153 11 X i ((E.take i).flatMap elC),λ _ W _=>match W with|.int _ i=>E.length-i.toNat|_=>0,?_,?_⟩
 ·exact⟨0,rfl,zaa,aP Z,aQ.empty bu zaP (Z.fresh bu)⟩
 rintro X _ Q⟨i,rfl,d,j,y⟩;have a:=j.size;have S5:=j.sat;have U:=y.one;by_cases o:i<E.length
 ·have t:decide ((i:Int)<(E.length:Int))=true:=by simp;exact zaa
  refine Exists.elim (c i o) λ u W=>?_;refine Exists.elim W λ q W=>?_;refine Exists.elim W λ O W=>?_;refine Exists.elim W λ J W=>?_;have e:=W.1;have v:=j.cell W.2.1 id;have w:=j.cell W.2.2.1 id;have F:=j.cell W.2.2.2.1 id;have m:=j.cell W.2.2.2.2 id;have Y:=e.one u zab;have G:=e.one q zab;have f:=e.one O zab;have W:=e.one J zab;try simp(disch:=omega)only[go_sem,↓reduceIte,t,v,w,F,m,Y,G,f,W]
  refine vf (show aD I h I _ from bX S5 j).sat e λ T M=>?_;have O:aD I h I T:=aC.trans (bX S5 j) M;have s:aQ h.size I T 153 11 X i ((E.take i).flatMap elC):=aQ.step (Ow y) M λ _ _=>id;have C:=O.size;refine rB @Eh ?_;have u:=us E[i];refine bY jF rfl zaa zaa (H:=(elC E[i]).toArray) Bk (s.push _) (O.push _).sat (by simp[qq]) (bS u) zaa (by(try simp only[bJ]);exact zaa) λ d G N H b l=>?_;have F:aD I h I G:=aC.touch (O.push _) H λ P z=>⟨.inl (s.1.block z).1,s.2 P z⟩;refine rA ?_;refine⟨⟨i+1,rfl,zaa,F,?_⟩,zaa⟩;have r:(E.take (i+1)).flatMap elC=(E.take i).flatMap elC++elC E[i]:=by
   have:E.take (i+1)=E.take i++[E[i]]:=by rw[List.take_add_one,List.getElem?_eq_getElem o];exact zab
   rw[this,List.flatMap_append];exact zab
  rw[r];simpa using N
 ·have t:decide ((i:Int)<(E.length:Int))=false:=by simp;exact zaa
  refine rB t ?_;have x:i=E.length:=zaa;have B:aQ h.size I Q 153 11 X E.length (E.flatMap elC):=by rw[x,List.take_length]at y;exact y
  have u:∀S∈E.flatMap elC,aG S=true:=by intro S O;obtain⟨C,-,O⟩:=List.mem_flatMap.1 O;exact us C S O
  have Z:=B.frz j bu zaa u;exact L _ _ _ Z.1 Z.2.2
def Sc:(Ld h 50 b λ c=>Cf h 145 #[a] λ a d=>bh d 50 b c/\(Bs d 50 1 #[(0,a)] λ a d=>bh d 50 b c/\(Ap d 50 c a λ a c=>Sr c 50 b a λ a=>R (.tuple #[]) a)))->Cf h 205 #[a,b] R:=mS Tryz.func205 (X #[0,0,2,6,15,31])
def Rl:(Bx h 369 a λ a d=>Ld d 250 b λ e=>Ld d 252 c λ f=>Ld d 369 a λ a=>Bs d 252 1 #[(0,a)] λ a d=>bh d 250 b e/\bh d 252 c f/\(Ap d 252 f a λ a c=>bh c 250 b e/\(Cv c e #[a] λ _ a=>R (.tuple #[]) a)))->Cf h 261 #[a,b,c] R:=mS Tryz.func261 (Z (X #[0,0,0,4,14,31]))
def BM:(aM h 273 a 0 271 λ a=>Ln h 271 a λ c=>Lp (∃(d:V1)(e:N1),d i0 h/\∀f g,d f g->(bv g .lss 3 f c (Ia g 271 a f λ a=>Ld g 369 a λ a=>bH g 369 a λ a c=>Ld c 369 a λ a=>Cv c b #[a] λ _ a=>Bi a .add 3 f i1 λ b=>(d b a/\e b a<e f g)) (R (.tuple #[]) g))))->Cf h 260 #[a,b] R:=mS Tryz.func260 (Z (B (O [11] mA)))
def IJ:(aM h 277 a 0 275 λ a=>Ln h 275 a λ d=>Lp (∃(e:V1)(f:N1),e i0 h/\∀g i,e g i->(bv i .lss 3 g d (Ia i 275 a g λ a=>Ld i 388 a λ a=>bH i 388 a λ a d=>Fa d 388 a 0 λ j=>Ld d 369 j λ j=>bH d 369 j λ d j=>Fa j 388 a 1 λ k=>Ld j 173 k λ l=>Ld j 369 d λ d=>Bs j 252 1 #[(0,d)] λ d j=>aX j 388 a 1 k 173 l<|(Ap j 252 b d λ b d=>aX d 388 a 1 k 173 l<|(Cf d 241 #[l,b,c] λ _ a=>Bi a .add 3 g i1 λ b=>(e b a/\f b a<f g i)))) (R (.tuple #[]) i))))->Cf h 262 #[a,b,c] R:=mS Tryz.func262 (Z (B (O [14] (Z (Q d8 (Q (B (Z (Z (X #[0,1,0,0,8,28,0,127])))) L))))))
def GO:(Bx h 252 b λ b d=>Bx d 250 c λ c d=>bg d 279 a 0 λ e=>Cf d 260 #[e,(.func (.func 261) #[] #[c,b])] λ _ d=>bg d 279 a 1 λ a=>Ld d 252 b λ b=>Ld d 250 c λ c=>Cf d 262 #[a,b,c] λ _ a=>R (.tuple #[]) a)->Cf h 241 #[a,b,c] R:=mS Tryz.func241 (Z (Z (X #[0,1,3,0,0,31])))
def RR:(Bs h 252 0 #[] λ c d=>Cf d 241 #[a,c,b] λ _ a=>R (.tuple #[]) a)->Cf h 199 #[a,b] R:=mS Tryz.func199 L
def QV:(Al h 50 λ b c=>Cf c 199 #[a,(.func (.func 205) #[] #[b])] λ _ a=>Ld a 50 b λ b=>R b a)->Cf h 148 #[a] R:=mS Tryz.func148 uw
theorem v7(W:eW m=some (n,o,l,x))(hz:x.length=o)(k:0<o)(j:l<=65535){H:cQ}{z:Nat}{i:Nat×Nat}(O:blk h v=some (.cells H z i))(q:aQ t I h n o a u w)(Z:aN I h)(b:H.size=o)(y:∀S∈H.toList,aG S=true)(hn:u+1<=2147483648)(a0:t<=h.size)(Q:∀e U,aQ t I U n o e (u+1) (w++H.toList)->aQ t I U n o a u w->ft h U a.ownBlock->aN I U->(e.ownBlock=a.ownBlock\/∃g,e.ownBlock=some g/\h.size<=g)->R e U):Ap h m a (bq v 0 1 1) R:=by
 rcases q.1.2 with⟨rfl,rfl⟩|⟨g,V,l,rfl,a,z,G,Y,J,p⟩
 ·have i:w=[]:=List.eq_nil_of_length_eq_zero (bS q.1.1);subst i;exact bY W hz k j O q Z b y hn a0 λ e U B v t f=>Q e U B (aQ.nil ..) v t f
 ·obtain⟨M,A,R,d,o,rfl,rfl,a1⟩:=eF W;have f:H.toList.length=1*M.size:=bS b;have k:=q.1.1;have r:=aF z;have K:=q.2 g rfl;have b:l.toList.length=V*M.size:=bS J;have C:∀(E:World),E.heap=h->∀D S,H.toList[D]?=some S->E.cell? ((⟨v,0,none⟩:Addr).add D)=some S:=by intro E t D S B;rw[fB,gp t,aA O,Nat.zero_add,<-Array.getElem?_toList];exact B
  have x:∀S∈H.toList,S.oneCell'=true:=λ S T=>by rw[qw];exact y S T
  by_cases T:u+1<=V
  ·intro E t;have s:u*M.size+H.toList.length<=l.size:=by rw[f,J,<-Nat.add_mul];exact Nat.mul_le_mul_right _ T
   have U:=run_append_room (P:=P) E m m n M R d g u V l (by rw[t];exact z) ⟨v,0,none⟩ 1 1 H.toList f (C E t) x T s;refine⟨_,_,U,?_,⟨rfl,rfl⟩⟩;have F:∀L:bW,(E.setRow g L.toArray).heap=ey h g L.toArray:=λ L=>by rw[<-t];rfl
   rw[F];generalize i:l.toList.take (u*M.size)++H.toList++l.toList.drop (u*M.size+H.toList.length)=L;have c:=dV (H:=L.toArray) z;have e:L.length=V*M.size:=by rw[<-i,List.length_append,List.length_append,List.length_take,List.length_drop,f,b];rw[f,J]at s;exact zaa
   have N:(l.toList.take (u*M.size)).length=u*M.size:=by rw[List.length_take,b];exact Nat.min_eq_left (Nat.mul_le_mul_right _ G)
   have b:aC (Eq g) I h I (ey h g L.toArray):=aC.setc (aC.refl Z) (.inr rfl) K;refine Q _ _ ⟨⟨?_,.inr ⟨g,V,L.toArray,rfl,a,c,T,Y,bS e,?_⟩⟩,λ J B=>by cases B;exact K⟩ ⟨⟨k,.inr ⟨g,V,L.toArray,rfl,a,c,G,Y,bS e,?_⟩⟩,λ J B=>by cases B;exact K⟩ ⟨b.size,λ r Y e=>b.same r Y (λ n=>e (by rw[<-n];rfl))⟩ b.sat (.inl rfl)
   ·exact zcx
   ·show L.take _=_;rw[<-i,List.take_left',p];rw[List.length_append,N,f,<-Nat.add_mul]
   ·show L.take _=_;rw[<-i,List.append_assoc,List.take_left' N,p]
  ·intro E t;have s:∀D S,w[D]?=some S->E.cell? ((⟨g,0,none⟩:Addr).add D)=some S:=(q.1.world t).cells (g:=g) rfl;have a:(u+1)*M.bytes<=140737488355328:=Nat.le_trans (Nat.mul_le_mul hn j) zaE;have U:=run_append_grow (P:=P) E m m n M A R d o ⟨g,0,none⟩ u V w k s ⟨v,0,none⟩ 1 1 H.toList f (C E t) zaa zaa (growslice_fits zaa a);refine⟨_,_,U,?_,⟨rfl,rfl⟩⟩;have F:∀X,(E.drew.alloc X).heap=E.heap.push X:=λ _=>rfl;rw[F,t];have U:=grownCap_ge E (u+1) V n;have c:=grownCap_le_maxLen E (u+1) V n (by simp only[maxLen];exact zaa);have x:A.cells.size=M.size:=by rw[<-hz,<-a1];exact zab
   have b:aD I h I (h.push (aV (w.toArray++H.toList.toArray++Builtin.zeroCells A.cells (grownCap E (u+1) V n-(u+1))) n)):=aC.push (aC.refl Z) _;refine Q _ _ ⟨⟨?_,.inr ⟨h.size,_,_,rfl,a0,by show blk _ _=_;exact zaq,U,c,?_,?_⟩⟩,λ J B=>by cases B;exact Z.fresh bu⟩ (q.push _) ⟨b.size,λ r Y _=>b.same r Y id⟩ b.sat (.inr ⟨_,rfl,Nat.le_refl _⟩)
   ·exact zcx
   ·simp only[Array.size_append,List.size_toArray,size_zeroCells,x,f,k];rw[<-Nat.add_mul,<-Nat.add_mul,Nat.add_sub_cancel' U]
   ·simp only[Array.toList_append,List.append_assoc];rw[<-List.append_assoc,List.take_left'];exact zcx
structure hY(base:Nat)(I:aK)(h:Heap)(ob:Nat)(x:Value)(vs:bW)(ps:List bU):Prop where
 bk:blk h ob=aE #[x] 50
 own:aQ base I h 119 1 x ps.length vs
 all:eB (PathR I) vs ps
 ones:∀u∈vs,aG u=true
 fr:I ob=none
 lt:ob<base
theorem hY.step{D:Nat->Prop}{I':aK}{Q:List bU}(B:hY m I h n a x Q)(E:aC D I h I' H)(G:¬D n)(p:∀g,a.ownBlock=some g->¬D g):hY m I' H n a x Q:=⟨E.blk B.bk G,B.own.step E p,B.all.mono λ _ _ w=>w.mono E.le,B.ones,(E.dom _ (aF B.bk) G).trans B.fr,B.lt⟩
theorem DP(Z:aN I h){D:List bU}(B:hY m I h n a x D){d:Nat}(z:Rows (bM I) w E)(K:∀i S,w[i]?=some S->aI h l (d+i)=some S)(y:E.length<2147483647)(O:D.length<2147483647)(r:m<=h.size)(L:∀s H v U,aC (λ k=>k=n\/a.ownBlock=some k) I h v U->hY m v U n s H (D++[E])->(s.ownBlock=a.ownBlock\/∃g,s.ownBlock=some g/\h.size<=g)->R (.tuple #[]) U):Cf h 205 #[bq l d E.length t,aB n] R:=by
 have T:=aF B.bk;refine Sc (rB B.bk.c ?_);refine vt Z z K y λ q A y v p=>?_;have f:=B.step v id λ _ _=>id;have w:=v.size;have Q:aG q=true:=p.one;refine rC f.bk.c Q ?_;refine bY oP rfl zaa zaa (H:=#[q]) Bk (f.own.push _) (v.push _).sat rfl (bS Q) zaa (by(try simp only[bJ]);exact zaa) λ s N S P W O=>?_;have e:=S.one;have b:∀g,a.ownBlock=some g->g≠n:=λ g z=>uF (B.own.1.block z).1 B.lt;have H:=P.blk (show blk (y.push (aV #[q] 119)) n=_ from by rw[cq,if_neg zaa];exact f.bk) (λ F=>b _ F rfl);refine rB H.b ?_;have d:aC (λ k=>k=n\/a.ownBlock=some k) I h A N:=aC.touch ((v.push _).weak λ _ _=>False.elim) P λ g z=>⟨.inr (.inr z),f.own.2 g z⟩;have c:∀g,s.ownBlock=some g->g≠n:=λ g z=>uF (S.1.block z).1 B.lt;refine L s (x++[q]) A _ (aC.put d (.inr (.inl rfl)) f.fr) ⟨?_,?_,eB.snoc p f.all,?_,f.fr,B.lt⟩ ?_
 ·rw[bO,if_pos rfl,H,dP];rfl
 ·have:=S.put2 (b:=s) (u:=0) c;exact zai
 ·exact eX B.ones Q
 ·rcases O with O|⟨g,J,y⟩
  ·exact .inl O
  ·(try simp only[bJ]at y);exact .inr ⟨g,J,zaa⟩
theorem DR(Z:aN I h){D:List bU}(B:hY m I h o a x D){f:bW}(Q:I l=aE #[.func (.func 205) #[] #[aB o]] u)(c:I t=aE #[b] v)(K:aQ n I h 369 4 b 1 w)(E:bM I w G)(F:bM I f M)(O:D.length<2147483647)(r:m<=h.size)(j:n<=h.size)(N:∀g,b.ownBlock=some g->g≠o/\a.ownBlock≠some g)(L:∀s P v U,aC (λ k=>k=o\/a.ownBlock=some k\/b.ownBlock=some k) I h v U->hY m v U o s P (D++[[G,M]])->aQ n v U 369 4 b 1 w->(s.ownBlock=a.ownBlock\/∃g,s.ownBlock=some g/\h.size<=g)->R (.tuple #[]) U):Cf h 261 #[.agg f.toArray,aB l,aB t] R:=by
 have R:=F.one;have t:=F;obtain⟨A,T,H,j,rfl⟩:=cL F.1;have n:=Z.dom Q;have z:=Z.dom c;have q:=K.one;refine Rl (rC (Z _ _ Q).c (Z _ _ c).c ?_);have C:aD I h I ((h.push (aV #[A,T,H,j] 369)).push (aV #[A,T,H,j] 369)):=aP Z;refine v7 gO rfl zaa zaa (H:=#[A,T,H,j]) Bk (K.step C λ _ _=>id) C.sat rfl R zaa (by(try simp only[bJ]);exact zaa) λ e f W n r i J=>?_;have u:aC (λ k=>b.ownBlock=some k) I h I f:=aC.touch (C.weak λ _ _=>False.elim) r λ g z=>⟨.inr z,K.2 g z⟩;have e:=u.size;refine W.atK zaa λ g V X ev e x y Z d f K=>?_;have d:=B.step u (λ F=>(N _ F).1 rfl) λ g z F=>(N _ F).2 z;try simp(disch:=omega)only[go_sem,↓reduceIte,ev,aA (i _ _ Q)]
 refine DP i d (w:=w++#[A,T,H,j].toList) (E:=[G,M]) ?_ ?_ ?_ O zaa λ s P v c S B y=>?_
 ·exact .cons E (bS (Rows.cons t .nil))
 ·intro M w O;rw[aA x,Nat.zero_add,<-Array.getElem?_toList];rw[<-f,List.getElem?_take]at O;split at O
  ·exact O
  ·cases O
 ·exact zab
 ·have E:s.ownBlock=a.ownBlock\/∃g,s.ownBlock=some g/\h.size<=g:=by
   rcases y with y|⟨J,E,X⟩
   ·exact .inl y
   ·exact .inr ⟨J,E,zaa⟩
  have W:aC (λ k=>k=o\/a.ownBlock=some k\/b.ownBlock=some k) I h v c:=aC.trans' (u.weak λ k _ Y=>.inr (.inr Y)) S λ k _ Y=>Y.elim .inl λ Y=>.inr (.inl Y);refine L s P v c W B (n.step S λ J B F=>?_) E;rcases F with F|F
  ·exact(N _ B).1 F
  ·exact(N _ B).2 F
theorem rc(Z:aN I h)(j:bP I m n=some a)(e:ck I a [])(L:R (.tuple #[]) h):Cf h 260 #[cY m n,b] R:=by obtain⟨B,t,rfl,-,-⟩:=e.slice;refine BM (rB (Z.cell j) ?_);exact zb0
structure oe(base base2:Nat)(I0:aK)(h0:Heap)(x0 pre:Value)(row:bW)(ob:Nat)(I:aK)(h:Heap)(x:Value)(vs:bW)(ps:List bU):Prop where
 st:aC (λ k=>k=ob\/x0.ownBlock=some k\/pre.ownBlock=some k) I0 h0 I h
 acc:hY base I h ob x vs ps
 pre:aQ base2 I h 369 4 pre 1 row
 blks:x.ownBlock=x0.ownBlock\/∃g,x.ownBlock=some g/\h0.size<=g
theorem yX(Z:aN I h)(j:bP I o l=some a)(C:ck I a E){D:List bU}(B:hY m I h t b x D){K P:Nat}(h5:I u=aE #[.func (.func 205) #[] #[aB t]] K)(h4:I v=aE #[c] P)(K:aQ n I h 369 4 c 1 w)(a0:bM I w G)(O:D.length+E.length<2147483647)(r:m<=h.size)(p:n<=h.size)(N:∀g,c.ownBlock=some g->g≠t/\b.ownBlock≠some g)(L:∀s H P U,oe m n I h b c w t P U s H (D++E.map λ e=>[G,e])->R (.tuple #[]) U):Cf h 260 #[cY o l,.func (.func 261) #[] #[aB u,aB v]] R:=by
 obtain⟨f,d,rfl,d,k⟩:=C.slice;refine BM (rB (Z.cell j) ?_);refine⟨λ a y=>∃(M:Nat)(V:aK)(s:Value)(H:bW),a=aR M/\M<=E.length/\oe m n I h b c w t V y s H (D++(E.take M).map λ e=>[G,e]),λ a _=>match a with|.int _ M=>E.length-M.toNat|_=>0,⟨0,I,b,x,rfl,Nat.zero_le _,⟨aC.refl Z,bS B,K,.inl rfl⟩⟩,?_⟩;rintro _ y⟨M,V,s,H,rfl,d,A⟩;have X:=A.st.sat;have S:aN I y:=λ r q p=>X r q (A.st.le r q p);have o:=A.st.size;by_cases o:M<E.length
 ·have b:decide ((M:Int)<(E.length:Int))=true:=by simp;exact zaa
  refine C.rowK o λ f R u q O J G Q P=>?_;have Y:=Q.one u zab;have D:=Q.one q zab;have f:=Q.one O zab;have W:=Q.one J zab;refine rH b G (P S) Y D f W ?_;have C:aD V y V (aO (aO (aO (aO (y.push (aV #[nilp,nilp,nilp,nilp] 369)) y.size 0 u) y.size 1 q) y.size 2 O) y.size 3 J):=aP X;have j:=A.acc.step C id λ _ _=>id;have l:=A.pre.step C λ _ _=>id;have T:∀g,c.ownBlock=some g->g≠t/\s.ownBlock≠some g:=by
   intro g z;refine⟨(N g z).1,?_⟩;rcases A.blks with i|⟨R,i,Y⟩
   ·rw[i];exact(N g z).2
   ·intro F;rw[i]at F;cases F;have:=(K.1.block z).2;exact zaa
  refine DR C.sat j (A.st.le _ _ h5) (A.st.le _ _ h4) l (a0.mono A.st.le) (Q.mono A.st.le) (by rw[List.length_append,List.length_map,List.length_take];exact zaa) (by(try simp only[bJ]);exact zaa) (by(try simp only[bJ]);exact zaa) T λ d k l K u a q J=>?_;have K:=C.size;refine rA ?_;refine⟨⟨M+1,l,d,k,rfl,zaa,⟨?_,?_,q,?_⟩⟩,zaa⟩
  ·refine aC.trans' (A.st.trans (C.weak λ _ _=>False.elim)) u λ r w F=>?_;rcases F with F|F|F
   ·exact zcp
   ·rcases A.blks with i|⟨R,i,Y⟩
    ·exact .inr (.inl (i▸F))
    ·rw[i]at F;cases F;exact zaa
   ·exact .inr (.inr F)
  ·have:E.take (M+1)=E.take M++[E[M]]:=by rw[List.take_add_one,List.getElem?_eq_getElem o];exact zab
   rw[this,List.map_append,<-List.append_assoc];exact a
  ·rcases J with J|⟨R,K,I⟩
   ·rw[J];exact A.blks
   ·exact .inr ⟨R,K,zaa⟩
 ·have b:decide ((M:Int)<(E.length:Int))=false:=by simp;exact zaa
  refine rB b ?_;have x:M=E.length:=zaa;refine L s H V y ?_;have:E.take M=E:=by rw[x];exact List.take_length
  rw[this]at A;exact A
theorem qR(Z:aN I h)(j:bP I m n=some a)(e:c5 I a S none)(L:R (.tuple #[]) h):Cf h 262 #[cY m n,b,c] R:=by obtain⟨B,t,rfl⟩:=e;refine IJ (rB (Z.cell j) ?_);exact zb0
theorem oe.start{v:aK}{U:Heap}{D:List bU}(P:oe m n J H a b x o v U c w D)(G:aD I h J H):oe m n I h a b x o v U c w D:=⟨(G.weak λ _ _=>False.elim).trans P.st,P.acc,P.pre,P.blks.imp id λ⟨p,y,N⟩=>⟨p,y,Nat.le_trans G.size N⟩⟩
theorem D2(Z:aN I h)(P:dI I o E){D:List bU}(B:hY m I h l a x D)(K:aQ n I h 369 4 c 1 w)(C:bM I w G)(O:D.length+E.length<2147483647)(r:m<=h.size)(p:n<=h.size)(N:∀g,c.ownBlock=some g->g≠l/\a.ownBlock≠some g)(L:∀s H v U,oe m n I h a c w l v U s H (D++E.map λ e=>[G,e])->R (.tuple #[]) U):Cf h 241 #[aB o,c,.func (.func 205) #[] #[aB l]] R:=by
 obtain⟨e,J,q,u,r,A,x⟩:=P.chl ⟨#[]⟩;obtain⟨A,d,f,rfl,-⟩:=K.at zaa;have q:=K.one;have T:aD I h I ((h.push (aV #[bq A 0 1 d] 252)).push (aV #[.func (.func 205) #[] #[aB l]] 250)):=aP Z;have F:=T.one (b:=h.size) bu;have Z:=F.1.one (b:=h.size+1) zaa;have z:(I.one h.size ((h.push (aV #[bq A 0 1 d] 252)).push (aV #[.func (.func 205) #[] #[aB l]] 250))) h.size=aE #[bq A 0 1 d] 252:=aK.one_eq Bk;have W:=Z.1;have t:=Z.2 _ _ z;have Q:((I.one h.size ((h.push (aV #[bq A 0 1 d] 252)).push (aV #[.func (.func 205) #[] #[aB l]] 250))).one (h.size+1) ((h.push (aV #[bq A 0 1 d] 252)).push (aV #[.func (.func 205) #[] #[aB l]] 250))) (h.size+1)=aE #[.func (.func 205) #[] #[aB l]] 250:=aK.one_eq Bk;have T:∀V y,aD I h V y->V h.size=aE #[bq A 0 1 d] 252->V (h.size+1)=aE #[.func (.func 205) #[] #[aB l]] 250->∀R:KV,(∀s H v U,oe m n I h a (bq A 0 1 d) w l v U s H (D++E.map λ e=>[G,e])->V.le v->R (.tuple #[]) U)->Cf y 260 #[aB o,.func (.func 261) #[] #[aB (h.size+1),aB h.size]] R:=by intro V y G j F R L;have z:=G.size;exact yX G.sat (cE G.le (k7 u)) (r.mono G.le) (B.step G id λ _ _=>id) F j (K.step G λ _ _=>id) (C.mono G.le) O zaa zaa N λ s H v U g=>L s H v U (g.start G) g.st.le
 refine GO (rC q @cZ ?_);refine T _ _ W t Q _ λ s H v U g W=>?_;have i:=g.st.sat;refine rC (i _ _ (W _ _ t)).c (i _ _ (W _ _ Q)).c ?_;refine qR i (cE g.st.le (mc1 u)) (x.mono g.st.le) ?_;exact L s H v U g
theorem zR{base base2:Nat}(S:aN I h){b:Nat}{v:Value}{ka:bF}{l:bU}(hb:bP I b o=some v)(hp:c5 I v ka (some l)){ob:Nat}{x:Value}{vs:bW}(a:hY base I h ob x vs []){pre:Value}(op:aQ base2 I h 369 4 pre 0 [])(hps:l.length<2147483646)(hbase:base<=h.size)(hbase2:base2<=h.size)(hob:ob<base2)(hx:x=n0)(hR:∀x' vs' I' h',aC (λ k=>k=ob\/base2<=k) I h I' h'->hY base I' h' ob x' vs' (l.map (jL ka))->R (.tuple #[]) h'):Cf h 262 #[cY b o,pre,.func (.func 205) #[] #[aB ob]] R:=by
 obtain⟨a1,c1,rfl⟩:=hp.len;refine hp.row λ b1 o1 w0 w1 w2 w3 q ea hcap hq hql hc hcc=>?_;subst ea;have opre:=op.one;have ow:=hq.one;have o0:=hq.one w0 zab;have o1':=hq.one w1 zab;have o2:=hq.one w2 zab;have o3:=hq.one w3 zab;have hobs:=aF a.bk;refine IJ (rB (S.cell hb) ?_);refine⟨λ v h1=>(v=i0/\h1=h)\/(v=i1/\∃x' vs' I',aC (λ k=>k=ob\/base2<=k) I h I' h1/\hY base I' h1 ob x' vs' (l.map (jL ka))),λ v _=>match v with|.int _ i=>1-i.toNat|_=>0,.inl ⟨rfl,rfl⟩,?_⟩;rintro _ h1(⟨rfl,rfl⟩|⟨rfl,x',vs',I',st,acc⟩)
 ·refine rF (hc S) o0 o1' o2 o3 ?_;have z:h1.size<=h1.size:=Nat.le_refl _;refine bY gO rfl zaa zaa (H:=#[w0,w1,w2,w3]) Bk (op.step (show aD I h1 I _ from aP S) λ _ _=>id) (show aD I h1 I _ from aP S).sat rfl ow zaa (by(try simp only[bJ]);exact zaa) λ pre' h7 o7 t7 S7 w7=>?_;have hne:∀k,k<base2->pre.ownBlock≠some k:=λ k hk hh=>cW (op.1.block hh).1;have n7:blk h7 h1.size=aE #[w0,w1,w2,w3,aB q] 388:=t7.blk Bk (λ hh=>cW (op.1.block hh).2);have st7:aC (λ k=>pre.ownBlock=some k) I h1 I h7:=aC.touch (show aC (λ k=>pre.ownBlock=some k) I h1 I _ from aP S) t7 λ g hg=>⟨.inr hg,op.2 g hg⟩;have z7:=st7.size;have a7:hY base I h7 ob x vs []:=a.step st7 (hne _ hob) λ g hg=>by rw[hx]at hg;cases hg
  refine rB n7.c ?_;have o7':aQ base2 I h7 369 4 pre' 1 [w0,w1,w2,w3]:=bS o7;refine D2 S7 hql a7 o7' hq (bS (Nat.lt_succ_of_lt hps)) zaa zaa (λ g hg=>⟨cW (o7'.1.block hg).1,by rw[hx];intro hh;cases hh⟩) λ x' vs' I' h8 gp=>rA ?_;refine⟨.inr ⟨x',vs',I',?_,gp.acc⟩,zaE⟩;refine aC.trans' (st7.weak λ k _ hk=>.inr (op.1.block hk).1) gp.st λ k hk hh=>?_;rcases hh with hh|hh|hh
  ·exact .inl hh
  ·rw[hx]at hh;cases hh
  ·exact .inr (o7'.1.block hh).1
 ·refine rA ?_;exact hR _ _ _ _ st acc
theorem yG(Z:aN I h)(B:cz I a [] S V)(D:eR V<2147483646)(L:∀X v U,aD I h v U->eP v X ((V.getD []).map (jL S))->R X U):Cf h 148 #[a] R:=by
 obtain⟨W,C,J,q,rfl,u,p,-,k⟩:=B;refine QV (rA ?_);refine RR (rA ?_);refine GO (rB @cZ ?_);refine rc (show aD I h I _ from aP Z).sat (k7 u) p ?_;refine rA ?_;cases V with
  |none=>refine qR (show aD I h I _ from aP Z).sat (mc1 u) k ?_;refine rA ?_;exact L _ I _ (aP Z) ⟨[],cd.nil ..,.nil⟩
  |some H=>
   have f:H.length<2147483646:=D;refine zR (base:=h.size+1) (base2:=h.size+1) (vs:=[]) (show aD I h I _ from aP Z).sat (mc1 u) k ⟨Bk,aQ.nil ..,.nil,zab,Z.fresh bu,zaa⟩ ?_ f (by(try simp only[bJ]);exact zaa) (by(try simp only[bJ]);exact zaa) zaa rfl λ s U v t E Q=>?_
   ·exact aQ.empty zaa zaP (Z.fresh zaa)
   have D:aD I h v t:=aC.trans' (show aD I h I _ from aP Z) E λ r Y F=>by rcases F with F|F<;>omega
   refine rB Q.bk.c ?_;have f:(H.map (jL S)).length=H.length:=zab;have Z:=Q.own.frz D zaa zaa Q.ones;exact L s _ t Z.1 ⟨U,Z.2.2,Q.all.mono λ _ _ a=>a.mono Z.2.1⟩
def CA:(Bx h 369 b λ b c=>aM c 277 a 0 275 λ d=>Ld c 369 b λ b=>Cf c 232 #[d,b,(.func (.func 378) #[] #[])] λ b c=>aW b λ b d=>Cd d (aM c 277 a 0 275 λ a=>Ia c 275 a b λ a=>Fa c 388 a 1 λ a=>Ld c 173 a λ a=>R (bj a bt) c) (R (bj nilp bf) c))->Cf h 368 #[a,b] R:=mS Tryz.func368 (Z (Q wh nK))
def TE:(Bx h 369 b λ b c=>bg c 279 a 1 λ a=>Ld c 369 b λ b=>Cf c 368 #[a,b] λ a b=>aW a λ a c=>cD b c (Cf b 88 #[n0] λ a b=>R a b) (R a b))->Cf h 456 #[a,b] R:=mS Tryz.func456 PY
def TP:(Ln h 252 b λ c=>ce h 3 c i0 (R (.bool false) h) (Lp (∃(c:V2)(d:N2),c a b h/\∀a b e,c a b e->(Ln e 252 b λ f=>ce e 3 f i1 (bg e 279 a 0 λ a=>Ia e 252 b i0 λ b=>Ld e 369 b λ b=>Cf e 257 #[a,b] λ a b=>R a b) (bg e 279 a 1 λ f=>Ia e 252 b i0 λ g=>Ld e 369 g λ g=>Cf e 368 #[f,g] λ f g=>aW f λ f i=>cD g i (R (.bool false) g) (Sl g 252 b (some i1) none none λ i=>(c f i g/\d f i g<d a b e)))))))->Cf h 455 #[a,b] R:=mS Tryz.func455 (Z (Q cg (B (O [0,1] (B (Q (Z (C (Q ti L) L)) (Z (Q (X #[0,1,3,0,8,24,63,127,255,255,511,2047]) (Q cg L)))))))))
theorem vS(Z:aN I h)(Y:bM I x G)(j:bM I w M)(L:∀U,aD I h I U->R (aR (bQ G M)) U):Cf h 275 #[.agg x.toArray,.agg w.toArray] R:=by obtain⟨p,Y⟩:=Y;obtain⟨O,j⟩:=j;obtain⟨F,B,P,v,rfl⟩:∃G M t f,x=[G,M,t,f]:=zbM;obtain⟨A,T,H,u,rfl⟩:∃G M t f,w=[G,M,t,f]:=zbN;refine Q3 (rA ?_);exact zar
theorem uZ(Z:aN I h)(p:ck I c E)(l:bM I x G)(a0:∀a b(j:b<E.length)(e:a<=b),bQ E[b] G<0->bQ (E[a]'(by omega)) G<0)(L:∀(i:Nat)U,aD I h I U->i<=E.length->(∀k(Y:k<E.length),k<i->bQ E[k] G<0)->(∀k(Y:k<E.length),i<=k->¬bQ E[k] G<0)->R (bj (aR i) (.bool (if d:i<E.length then decide (bQ E[i] G=0)else false))) U):Cf h 228 #[c,.agg x.toArray,.func (.func 275) #[] #[]] R:=by
 obtain⟨g,N,⟨a,V,rfl,t,-,D,-,R⟩,Q⟩:=p;obtain⟨D,C⟩:=l;obtain⟨A,T,q,j,rfl⟩:∃a b t f,x=[a,b,t,f]:=by match x,D with|[a,b,t,f],_=>exact⟨a,b,t,f,rfl⟩
 apply Ha;try simp(disch:=omega)only[go_sem,↓reduceIte]
 refine⟨λ H W N=>∃i D:Nat,H=aR i/\W=aR D/\i<=D/\D<=E.length/\aD I h I N/\blk N h.size=aE #[A,T,q,j] 369/\(∀k(Y:k<E.length),k<i->bQ E[k] G<0)/\(∀k(Y:k<E.length),D<=k->¬bQ E[k] G<0),λ H W _=>match H,W with|.int _ i,.int _ D=>D.toNat-i.toNat|_,_=>0,?_,?_⟩
 ·exact⟨0,E.length,rfl,rfl,by omega,by omega,aP Z,Bk,λ _ _ Y=>absurd Y (by omega),λ _ Y Z=>absurd Y (by omega)⟩
 rintro _ _ N⟨i,D,rfl,rfl,c,K,d,bt,z,P⟩;try simp(disch:=omega)only[go_sem,↓reduceIte]
 have U:=d.size;have V:∀k(Y:k<E.length),∃b s,a=some ⟨b,s,none⟩/\∃u q O J,bM I [u,q,O,J] E[k]/\aI N b (s+k*4)=some u/\aI N b (s+k*4+1)=some q/\aI N b (s+k*4+2)=some O/\aI N b (s+k*4+3)=some J:=by
  intro k Y;obtain⟨b,s,rfl,r⟩:=R (by omega);have l:k<g.length:=by omega
  have o:∀X∈g,X.length=4:=by intro X v;obtain⟨p,x,rfl⟩:=List.getElem_of_mem v;exact(Q p (by omega) x).1
  have e:=Q k Y l;have S:∀D,D<4->g.flatten[k*4+D]?=g[k][D]?:=λ D K=>eD g o k D l K;generalize g[k]=w at e S;obtain⟨u,q,O,J,rfl⟩:∃a b t f,w=[a,b,t,f]:=by match w,e.1 with|[a,b,t,f],_=>exact⟨a,b,t,f,rfl⟩
  have W:aN I N:=d.sat;have j:aI N b (s+k*4)=some u:=W.cell (r (k*4+0) u (by rw[S 0 (by omega)];rfl));have A:aI N b (s+k*4+1)=some q:=by rw[Nat.add_assoc];exact W.cell (r (k*4+1) q (by rw[S 1 (by omega)];rfl))
  have g:aI N b (s+k*4+2)=some O:=by rw[Nat.add_assoc];exact W.cell (r (k*4+2) O (by rw[S 2 (by omega)];rfl))
  have c:aI N b (s+k*4+3)=some J:=by rw[Nat.add_assoc];exact W.cell (r (k*4+3) J (by rw[S 3 (by omega)];rfl))
  exact⟨b,s,rfl,u,q,O,J,e,j,A,g,c⟩
 refine⟨λ y=>?_,λ y=>?_⟩
 ·have o:i<D:=by simpa using y
  have M:((i:Int)+D)/2=((i+D)/2:Nat):=by omega
  obtain⟨x,B⟩:∃x,x=(i+D)/2:=⟨_,rfl⟩;rw[<-B]at M;have B:x<E.length:=by omega
  obtain⟨b,s,rfl,u,q,O,J,e,v,w,F,m⟩:=V x B;rw[M];try simp(disch:=omega)only[go_sem,↓reduceIte,v,w,F,m,aA bt,Array.append_empty]
  refine vS d.sat e ⟨rfl,C⟩ λ W r=>?_;have n:=d.trans r;have Z:=r.blk bt id;try simp(disch:=omega)only[go_sem,↓reduceIte]
  refine⟨λ t=>?_,λ t=>?_⟩
  ·have T:bQ E[x] G<0:=by simpa using t
   refine⟨⟨x+1,D,rfl,rfl,by omega,K,n,Z,λ k Y R=>a0 k x B (by omega) T,P⟩,by omega⟩
  ·have T:¬bQ E[x] G<0:=by simpa using t
   refine⟨⟨i,x,rfl,rfl,by omega,by omega,n,Z,z,λ k Y R S=>T (a0 x k Y R S)⟩,by omega⟩
 ·have X:D=i:=by
   have:¬i<D:=by simpa using y
   omega
  subst X;by_cases l:D<E.length
  ·have h:decide ((D:Int)<(E.length:Int))=true:=by simpa using l
   obtain⟨b,s,rfl,u,q,O,J,e,v,w,F,m⟩:=V D l;try simp(disch:=omega)only[go_sem,↓reduceIte,h,v,w,F,m,aA bt,Array.append_empty]
   refine vS d.sat e ⟨rfl,C⟩ λ W r=>?_;try simp(disch:=omega)only[go_sem,↓reduceIte,h]
   have:=L D W (d.trans r) K z P;rw[dif_pos l]at this;have C:(bQ E[D] G==0)=decide (bQ E[D] G=0):=by rw[Bool.eq_iff_iff];simp
   rw[C];exact this
  ·have h:decide ((D:Int)<(E.length:Int))=false:=by simpa using l
   try simp(disch:=omega)only[go_sem,↓reduceIte,h]
   have:=L D N d K z P;rw[dif_neg l]at this;exact this
theorem n4(Z:aN I h)(j:bP I m n=some a)(e:ck I a E)(b:dq E)(l:bM I x G)(L:∀W U,aD I h I U->(W=true↔G∈E)->R (.bool W) U):Cf h 257 #[cY m n,.agg x.toArray] R:=by have i:=l;have w:=l.one;have o:=Z.lt j;obtain⟨A,T,H,a,rfl⟩:=cL l.1;refine QG (rB (Z.cell j) ?_);refine uZ (show aD I h I _ from aP Z).sat e i (b.mono G) λ M N P d z G=>rA ?_;exact L _ _ (aC.trans (aP Z) P) (b.found d z G)
theorem rb(Z:aN I h)(B:cz I a E S V)(e:lI I b [G])(L:∀W U,aD I h I U->(W=true↔G∈E)->R (.bool W) U):Cf h 455 #[a,b] R:=by
 obtain⟨W,A,J,X,rfl,u,p,A,r⟩:=B;obtain⟨D,⟨F,V,rfl,t,f,-,-,k⟩,w⟩:=e;obtain⟨c,s,rfl,r⟩:=k zab;have P:D.length=4:=bS f;have Q:bM I D G:=by cases w with|cons y N=>cases N;simpa using y
 have d:=Q;obtain⟨F,q,O,J,rfl⟩:=cL P;have v:=Z.cell (r 0 _ rfl);have w:=Z.cell (r 1 _ rfl);have F:=Z.cell (r 2 _ rfl);have m:=Z.cell (r 3 _ rfl);rw[Nat.add_zero]at v;refine TP (rA ?_);refine⟨λ A a N=>A=aB W/\a=bq c s 1 V/\N=h,λ _ _ _=>0,⟨rfl,rfl,rfl⟩,?_⟩;rintro _ _ _⟨rfl,rfl,rfl⟩;refine rG v w F m @Int.toNat_zero @Nat.add_zero ?_;exact n4 Z (k7 u) p A d L
theorem lW(Z:aN I h)(B:cz I a E S V)(l:bM I x G)(F:V=none\/G=.fld S)(L:∀X v U,aD I h v U->cz v X (V.getD []) S none->R X U):Cf h 456 #[a,.agg x.toArray] R:=by
 obtain⟨W,A,J,X,rfl,u,p,A,r⟩:=B;have i:=l;have w:=l.one;have o:=Z.lt (mc1 u);obtain⟨A,T,H,j,rfl⟩:=cL l.1;refine TE (rA ?_);refine CA (rB (Z.cell (mc1 u)) ?_);cases V with
  |none=>obtain⟨f,w,rfl⟩:=r;refine kH (show aD I h I _ from aP Z).sat rfl λ N P=>?_;have C:aD I h I N:=aC.trans (aP Z) P;refine rA ?_;refine g9 C.sat S λ c K B J=>?_;have f:=J.done (C.trans B) (by exact C.size) (Nat.zero_le _);exact L _ _ _ f.1 f.2.2
  |some H=>have f:G=.fld S:=F.resolve_left zab;obtain⟨B,o,s,Q,d⟩:=r;rw[f]at i;have Y:=s;obtain⟨F,V,rfl,t,-,-,-,k⟩:=s;obtain⟨c,s,rfl,r⟩:=k zaa;obtain⟨X,q,O,J,rfl⟩:=cL Q.1;refine kK tO (show aD I h I _ from aP Z).sat Y Q i λ N P=>?_;have C:aD I h I N:=aC.trans (aP Z) P;have W:=C.sat;have X:=W.cell (r 4 _ rfl);refine rE (W.cell (mc1 u)) X @Int.toNat_zero @Nat.add_zero ?_;exact L _ _ _ C d.set
def IQ:eT:=L
def TK(R:KV)(a b:Value)(h:Heap):Prop:=R (.tuple #[]) h
def Q8:(Bx h 432 a λ a b=>Fa b 432 a 0 λ a=>Ld b 20 a λ a=>Ta b a 20 241 false λ a=>Mi b 585 a λ a=>R a b)->Cf h 347 #[a,b] R:=mS Tryz.func347 cX
def Tc:(Bx h 432 a λ a b=>Lp (∃c:V0,(∀b,c b->(Fa b 432 a 0 λ a=>Ld b 20 a λ a=>Ta b a 20 242 true λ a=>Ex a 1 λ c=>Ex a 0 λ a=>Cd c (Mi b 586 a λ a=>R a b) (Mi b 9 (aU ⟨#[110,111,116,32,97,32,109,97,112]⟩) λ _=>False)))/\(Fa b 432 a 0 λ a=>Ld b 20 a λ a=>ce b 20 a ni (Mi b 9 (aU ⟨#[105,110,118,97,108,105,100,32,110,105,108]⟩) λ _=>False) (c b))))->Cf h 349 #[a,b] R:=mS Tryz.func349 (Z (Y [] cF (Q (Z (B (Z (C cX L)))) L)))
def SV:(Ia h 585 a b λ a=>Ld h 20 a λ a=>Cf h 130 #[a] λ a b=>R a b)->Cf h 461 #[a,b] R:=mS Tryz.func461 cX
def SU:(Ia h 585 a c λ d=>Ld h 20 d λ e=>Iv h b m4 #[] λ b f=>iR f 585 a c d/\bh f 20 d e/\(Cf f 187 #[b,e] λ a b=>R a b))->Cf h 462 #[a,b,c] R:=mS Tryz.func462 (Z (Q (X #[0,1,0,0,12,28,63,127]) L))
def Ud:(Ln h 585 a λ a=>R a h)->Cf h 465 #[a] R:=mS Tryz.func465 cX
def DJ:(Ln h 586 a λ a=>Eb h .eql 3 false true a i0 λ a=>R a h)->Cf h 470 #[a] R:=mS Tryz.func470 cX
def IH:(Lk h 586 a b true λ a=>aW a λ _ a=>R a h)->Cf h 475 #[a,b] R:=mS Tryz.func475 iO
def HT:(Ln h 586 a λ a=>R a h)->Cf h 478 #[a] R:=mS Tryz.func478 cX
def T5:(Bd h 432 #[] λ a=>Bx h 432 a λ a b=>Bd b 661 #[(1,a)] λ a=>Bx b 661 a λ a b=>R a b)->Cf h 342 #[a] R:=mS Tryz.func342 cX
def Qt:(Ln h 585 a λ c=>ce h 3 c i0 (Bd h 659 #[] λ a=>Bx h 659 a λ a b=>Mi b 658 a λ a=>R a b) (Iv h b yj #[] λ b c=>bC c 661 b 0 585 a λ a=>bC a 661 b 2 3 (aR (-1)) λ a=>Mi a 655 b λ b=>R b a))->Cf h 467 #[a,b] R:=mS Tryz.func467 (Z (Q cg uw))
def Tb:(Lp (∃b:V0,(∀c,b c->(Lp (∃b:V0,(∀c,b c->(bg c 661 a 2 λ b=>Ld c 3 b λ d=>aM c 661 a 1 362 λ e=>aM c 661 a 0 585 λ f=>aM c 661 a 2 3 λ g=>Ia c 585 f g λ f=>Ld c 20 f λ f=>Cf c 187 #[e,f] λ c e=>aX e 661 a 2 b 3 d<|(R (bj d c) e)))/\(aM c 661 a 2 3 λ d=>aM c 661 a 0 585 λ a=>Ln c 585 a λ a=>bv c .geq 3 d a (Mi c 9 (dO 0x4974656d28292063616c6c6564206f6e204c69737452616e67652077697468206e6f206d6f7265206974656d73) λ _=>False) (b c)))))/\(aM h 661 a 2 3 λ a=>bv h .lss 3 a i0 (Mi h 9 (dO 0x4974656d28292063616c6c6564206265666f72652066697273742063616c6c696e67204e6578742829) λ _=>False) (b h))))->Cf h 491 #[a] R:=mS Tryz.func491 (Z (Y [] cF (Y [] (Q (X #[0,1,3,7,0,16,48,112,240,511]) d8) (Q (X #[0,1,3,7,0,16,48,112,0,256,768,1792,0,4096,12288,28672,65280,130816,262128,524287,1048575]) L))))
def Qs:(aM h 661 a 2 3 λ b=>Bi h .add 3 b i1 λ b=>bC h 661 a 2 3 b λ b=>aM b 661 a 2 3 λ c=>aM b 661 a 0 585 λ a=>Ln b 585 a λ a=>Bi b .lss 3 c a λ a=>R a b)->Cf h 492 #[a] R:=mS Tryz.func492 (Z (Z (Q (X #[0,1,3,7,0,16,48,112,240,511,1023]) L)))
def vV(p:Func):Bool:=match p.body with|some c=>eJ c|none=>false
theorem En{p:Func}{F:Prop}(V:P.funcs[m]?=some p)(d:eT)(G:vV p=true)(C:pJ p d R x h=F)(W:F)(E:World)(M:E.heap=h):CallsD P m x.toArray .returning E λ C l Z=>l=.returning/\∃J,C=.returned J/\R J Z.heap/\Sm E Z:=by
 rw[<-C]at W;unfold pJ at W;split at W
 ·rename_i j D;unfold vV at G;rw[j]at G;exact uY jX Eu V j (Nat.le_of_ble_eq_true D) G W E M
 ·exact W.elim
theorem zD:vV Tryz.f341=true:=zag
theorem Hx:pJ Tryz.f341 IQ R [a,b] h=TK R a b h:=zag
theorem LT:dK 346 "Free"=some 341:=zag
theorem cG{B:Option Addr}{T:Heap->Prop}(Y:T h):Dg h (cH (.iface 346 (.pointer B)) b) T:=by intro E M;refine⟨_,_,341,#[.pointer B,b],rfl,?_,En (x:=[.pointer B,b]) (R:=λ _ U=>T U) Tryz.func341 IQ zD Hx Y E M⟩;exact iw (a:=.pointer B) (t:=#[b]) LT E
def xr:(Bx h 92 a λ a c=>Al c 92 λ c d=>Lp (∃e:V0,(∀b,e b->(Ld b 92 a λ a=>Sr b 92 c a λ a=>Rv a 92 c λ b=>R b a))/\(ce d 228 b ni (e d) (Lp (∃f:V1,(∀d g,f d g->(Cd d (Fa g 92 a 0 λ b=>Ld g 88 b λ b=>bx g 88 b nilp (Fa g 92 a 0 λ a=>Ld g 88 a λ a=>Bd g 92 #[(0,a)] λ a=>Sr g 92 c a λ a=>Rv a 92 c λ b=>R b a) (e g)) (Iv g b "IsList" #[] λ d f=>Cd d (Fa f 92 a 1 λ b=>Ld f 89 b λ b=>bx f 89 b nilp (Fa f 92 a 1 λ a=>Ld f 89 a λ a=>Bd f 92 #[(1,a)] λ a=>Sr f 92 c a λ a=>Rv a 92 c λ b=>R b a) (e f)) (Iv f b "IsMap" #[] λ b d=>Cd b (Fa d 92 a 2 λ b=>Ld d 90 b λ b=>bx d 90 b nilp (Fa d 92 a 2 λ a=>Ld d 90 a λ a=>Bd d 92 #[(2,a)] λ a=>Sr d 92 c a λ a=>Rv a 92 c λ b=>R b a) (e d)) (e d)))))/\(Iv d b "IsFloat" #[] λ a c=>Cd a (f a c) (Iv c b "IsInt" #[] λ a c=>Cd a (f a c) (Iv c b "IsString" #[] λ a c=>Cd a (f a c) (Iv c b "IsBool" #[] λ a b=>f a b)))))))))->Cf h 239 #[a,b] R:=mS Tryz.func239 (Z (Y [] (B (Z (C L (Y [8] (Z (C L (Z (C L cF)))) (C cg (Z (C cg (Z (C cg L))))))))) bG))
def TM:(Bx h 92 a λ a d=>Bx d 95 b λ _ b=>Fa b 92 a 2 λ d=>Ld b 90 d λ d=>bx b 90 d nilp (Fa b 92 a 2 λ a=>Ld b 90 a λ a=>Iv b c gJ #[a] λ a b=>R a b) (Fa b 92 a 0 λ d=>Ld b 88 d λ d=>bx b 88 d nilp (Fa b 92 a 0 λ a=>Ld b 88 a λ a=>Iv b c hC #[a] λ a b=>R a b) (Fa b 92 a 1 λ d=>Ld b 89 d λ d=>bx b 89 d nilp (Fa b 92 a 1 λ a=>Ld b 89 a λ a=>Iv b c gI #[a] λ a b=>R a b) (Cf b 194 #[dO 0x736368656d61206572726f723a20696e76616c69642061746f6d] λ a b=>R a b))))->Cf h 236 #[a,b,c] R:=mS Tryz.func236 (Z (Q (B EF) bG))
def SH:(Ln h 323 a λ c=>ce h 3 c i0 (R a h) (Lp (∃c:V1,(∀b d,c b d->(Ln d 323 a λ c=>Lp (∃(e:V1)(f:N1),e i0 d/\∀d g,e d g->(bv g .lss 3 d c (Ia g 323 a d λ c=>Fa g 445 c 0 λ c=>Ld g 9 c λ c=>Bi g .add 9 b c λ b=>Ia g 323 a d λ a=>Fa g 445 a 0 λ a=>Sr g 9 a b λ a=>Bi a .add 3 d i1 λ b=>(e b a/\f b a<f d g)) (R a g)))))/\(bx h 336 b nf (Cv h b #[] λ a b=>c a b) (c s0 h)))))->Cf h 240 #[a,b] R:=mS Tryz.func240 (Z (Q cg (Z (Y [5] cF (Q (Z (B (O [17] mA))) bG)))))
inductive Kd where|sc|li|ma
abbrev dQ(k:Kd)(a:Addr):bW:=match k with|.sc=>[.pointer (some a),nilp,nilp]|.li=>[nilp,.pointer (some a),nilp]|.ma=>[nilp,nilp,.pointer (some a)]
def jW(T:aK)(J:Value):Prop:=J=ni\/∃G,Tr G/\PV T J G
structure jV(I:aK)(h:Heap)(k:Kd)(a:Addr)(h3:Heap):Prop where
 st:aD I h I h3
 b3:blk h3 h.size=aE (dQ k a).toArray 92
 b4:blk h3 (h.size+1)=aE #[nilp,nilp,nilp] 92
theorem jV.pur{r:Kd}{t:Heap}(E:jV I h r A H)(G:aD I H I t):jV I h r A t:=⟨E.st.trans G,G.blk E.b3 id,G.blk E.b4 id⟩
theorem gW(Z:aN I h){r:Kd}(p:jW I a)(L:∀U,aD I h I U->R (.agg (dQ r A).toArray) U):Cf h 239 #[.agg (dQ r A).toArray,a] R:=by
 have s:jV I h r A ((h.push (aV (dQ r A).toArray 92)).push (aV #[nilp,nilp,nilp] 92)):=⟨aP Z,Bk,Bk⟩;rcases p with rfl|⟨G,l,u,C,rfl,j⟩
 ·refine xr (rA ?_);refine⟨λ K=>jV I h r A K,?_,?_⟩
  ·rintro K⟨n,J,E⟩;have V:=n.size;have z:=aF E;cases r<;>try simp(disch:=omega)only[go_sem,↓reduceIte,aA J,aA E,aS E,aS J]
   all_goals refine L _ ?_;exact bX Z n
  refine rA ?_;exact s
 ·have o:=Z.dom j;cases r with
   |sc=>
    refine xr (rA ?_);refine⟨λ K=>jV I h .sc A K,?_,?_⟩
    ·rintro K⟨n,J,E⟩;have V:=n.size;have z:=aF E;refine rC J.b E.b ?_;refine L _ ?_;exact bX Z n
    refine rB (Z _ _ j).c ?_;refine⟨λ W T=>(∃p,W=.bool p)/\jV I h .sc A T,?_,?_⟩
    ·rintro _ T⟨⟨p,rfl⟩,X⟩;have O:=X.st;have C:=O.size;have b:=aF X.b4;have x:=O.sat;cases p
     ·refine rB (x _ _ j).c ?_;refine fQ x l λ B P=>?_;have d:=X.pur P;have e:=d.st;have f:=aF d.b4;have U:=e.sat;cases dz 241 G
      ·refine rB (U _ _ j).c ?_;refine gK U l λ N Y=>?_;have w:=d.pur Y;have g:=w.st;have i:=aF w.b4;cases dz 242 G
       ·refine rA ?_;exact w
       ·refine rC w.b3.b w.b4.b ?_;first|exact w|exact L _ (bX Z g)
      ·refine rC d.b3.b d.b4.b ?_;first|exact d|exact L _ (bX Z e)
     ·refine rC X.b3.b X.b4.b ?_;first|exact X|exact L _ (bX Z O)
    refine rB (Z _ _ j).c ?_;refine e8 s.st.sat l λ B P=>?_;have d:=s.pur P;have U:=d.st.sat;cases dz 31 G
    ·refine rB (U _ _ j).c ?_;refine f4 U l λ N Y=>?_;have w:=d.pur Y;have Q:=w.st.sat;cases dz 2 G
     ·refine rB (Q _ _ j).c ?_;refine ew Q l λ F H=>?_;have k:=w.pur H;have m:=k.st.sat;cases dz 9 G
      ·refine rB (m _ _ j).c ?_;refine ig m l λ q v=>?_;exact⟨⟨_,rfl⟩,k.pur v⟩
      ·refine rA ?_;exact⟨⟨_,rfl⟩,k⟩
     ·refine rA ?_;exact⟨⟨_,rfl⟩,w⟩
    ·refine rA ?_;exact⟨⟨_,rfl⟩,d⟩
   |li=>
    refine xr (rA ?_);refine⟨λ K=>jV I h .li A K,?_,?_⟩
    ·rintro K⟨n,J,E⟩;have V:=n.size;have z:=aF E;refine rC J.b E.b ?_;refine L _ ?_;exact bX Z n
    refine rB (Z _ _ j).c ?_;refine⟨λ W T=>(∃p,W=.bool p)/\jV I h .li A T,?_,?_⟩
    ·rintro _ T⟨⟨p,rfl⟩,X⟩;have O:=X.st;have C:=O.size;have b:=aF X.b4;have x:=O.sat;cases p
     ·refine rB (x _ _ j).c ?_;refine fQ x l λ B P=>?_;have d:=X.pur P;have e:=d.st;have f:=aF d.b4;have U:=e.sat;cases dz 241 G
      ·refine rB (U _ _ j).c ?_;refine gK U l λ N Y=>?_;have w:=d.pur Y;have g:=w.st;have i:=aF w.b4;cases dz 242 G
       ·refine rA ?_;exact w
       ·refine rC w.b3.b w.b4.b ?_;first|exact w|exact L _ (bX Z g)
      ·refine rC d.b3.b d.b4.b ?_;first|exact d|exact L _ (bX Z e)
     ·refine rC X.b3.b X.b4.b ?_;first|exact X|exact L _ (bX Z O)
    refine rB (Z _ _ j).c ?_;refine e8 s.st.sat l λ B P=>?_;have d:=s.pur P;have U:=d.st.sat;cases dz 31 G
    ·refine rB (U _ _ j).c ?_;refine f4 U l λ N Y=>?_;have w:=d.pur Y;have Q:=w.st.sat;cases dz 2 G
     ·refine rB (Q _ _ j).c ?_;refine ew Q l λ F H=>?_;have k:=w.pur H;have m:=k.st.sat;cases dz 9 G
      ·refine rB (m _ _ j).c ?_;refine ig m l λ q v=>?_;exact⟨⟨_,rfl⟩,k.pur v⟩
      ·refine rA ?_;exact⟨⟨_,rfl⟩,k⟩
     ·refine rA ?_;exact⟨⟨_,rfl⟩,w⟩
    ·refine rA ?_;exact⟨⟨_,rfl⟩,d⟩
   |ma=>
    refine xr (rA ?_);refine⟨λ K=>jV I h .ma A K,?_,?_⟩
    ·rintro K⟨n,J,E⟩;have V:=n.size;have z:=aF E;refine rC J.b E.b ?_;refine L _ ?_;exact bX Z n
    refine rB (Z _ _ j).c ?_;refine⟨λ W T=>(∃p,W=.bool p)/\jV I h .ma A T,?_,?_⟩
    ·rintro _ T⟨⟨p,rfl⟩,X⟩;have O:=X.st;have C:=O.size;have b:=aF X.b4;have x:=O.sat;cases p
     ·refine rB (x _ _ j).c ?_;refine fQ x l λ B P=>?_;have d:=X.pur P;have e:=d.st;have f:=aF d.b4;have U:=e.sat;cases dz 241 G
      ·refine rB (U _ _ j).c ?_;refine gK U l λ N Y=>?_;have w:=d.pur Y;have g:=w.st;have i:=aF w.b4;cases dz 242 G
       ·refine rA ?_;exact w
       ·refine rC w.b3.b w.b4.b ?_;first|exact w|exact L _ (bX Z g)
      ·refine rC d.b3.b d.b4.b ?_;first|exact d|exact L _ (bX Z e)
     ·refine rC X.b3.b X.b4.b ?_;first|exact X|exact L _ (bX Z O)
    refine rB (Z _ _ j).c ?_;refine e8 s.st.sat l λ B P=>?_;have d:=s.pur P;have U:=d.st.sat;cases dz 31 G
    ·refine rB (U _ _ j).c ?_;refine f4 U l λ N Y=>?_;have w:=d.pur Y;have Q:=w.st.sat;cases dz 2 G
     ·refine rB (Q _ _ j).c ?_;refine ew Q l λ F H=>?_;have k:=w.pur H;have m:=k.st.sat;cases dz 9 G
      ·refine rB (m _ _ j).c ?_;refine ig m l λ q v=>?_;exact⟨⟨_,rfl⟩,k.pur v⟩
      ·refine rA ?_;exact⟨⟨_,rfl⟩,k⟩
     ·refine rA ?_;exact⟨⟨_,rfl⟩,w⟩
    ·refine rA ?_;exact⟨⟨_,rfl⟩,d⟩
def Ju:(Bx h 95 b λ b c=>Al c 92 λ c d=>Fa d 95 b 2 λ e=>Ld d 93 e λ e=>ce d 93 e nilp (Ld d 95 b λ b=>Cf d 247 #[a,b] λ a b=>aW a λ a d=>Sr b 92 c a λ a=>Rv a 92 c λ b=>R (bj b d) a) (Al d 92 λ d e=>Lp (∃f:V0,(∀a,f a->(Ld a 92 d λ b=>Sr a 92 c b λ a=>Rv a 92 c λ b=>R (bj b bt) a))/\(Ld e 95 b λ g=>Cf e 247 #[a,g] λ a e=>aW a λ a g=>Sr e 92 d a λ a=>Cd g (Fa a 92 d 2 λ e=>Ld a 90 e λ e=>bx a 90 e nilp (Bd a 359 #[] λ c=>bH a 359 c λ a c=>Fa c 92 d 2 λ e=>Ld c 90 e λ e=>Cf c 248 #[e,a] λ _ c=>Fa c 95 b 2 λ b=>Ld c 93 b λ b=>Nc b<|Ld c 240 b λ b=>Fa c 359 a 3 λ e=>Sr c 240 e b λ b=>Fa b 92 d 2 λ c=>Sr b 90 c a λ a=>f a) (Fa a 92 d 1 λ e=>Ld a 89 e λ e=>bx a 89 e nilp (Fa a 92 d 1 λ c=>Ld a 89 c λ c=>Nc c<|Ld a 354 c λ c=>bH a 354 c λ a c=>Fa c 95 b 2 λ b=>Ld c 93 b λ b=>Nc b<|Ld c 240 b λ b=>Fa c 354 a 1 λ e=>Sr c 240 e b λ b=>Fa b 92 d 1 λ c=>Sr b 89 c a λ a=>f a) (Fa a 92 d 0 λ b=>Ld a 88 b λ b=>bx a 88 b nilp (Bd a 92 #[] λ b=>Sr a 92 c b λ a=>Rv a 92 c λ b=>R (bj b bf) a) (Bd a 92 #[] λ b=>Sr a 92 c b λ a=>Rv a 92 c λ b=>R (bj b bf) a)))) (Bd a 92 #[] λ b=>Sr a 92 c b λ a=>Rv a 92 c λ b=>R (bj b bf) a)))))->Cf h 219 #[a,b] R:=mS Tryz.func219 (Z (Q cg (Z (Z (Y [] (Z (Z (C (B (Z (C iO (Z (C cX (Z (C bG bG))))))) bG))) bG)))))
def IY:(Bx h 95 b λ b c=>Al c 92 λ c d=>Bd d 92 #[] λ e=>bH d 92 e λ d e=>Lp (∃f:V0,(∀a,f a->(Ld a 92 d λ b=>Sr a 92 c b λ a=>Rv a 92 c λ b=>R (bj b bt) a))/\(Fa e 95 b 0 λ g=>Ld e 87 g λ g=>bx e 87 g nilp (Fa e 95 b 0 λ b=>Ld e 87 b λ b=>Nc b<|Ld e 9 b λ b=>Cf e 269 #[a,b] λ a b=>aW a λ a e=>bH b 239 a λ a b=>cD b e (Bd b 92 #[] λ a=>Sr b 92 c a λ a=>Rv a 92 c λ b=>R (bj b bf) a) (Fa b 239 a 1 λ a=>Ld b 92 a λ a=>Sr b 92 d a λ a=>f a)) (Fa e 95 b 1 λ a=>Ld e 92 a λ a=>Sr e 92 d a λ a=>f a))))->Cf h 247 #[a,b] R:=mS Tryz.func247 (Z (Z (Y [] (Z (C AP L)) bG)))
def SJ:(Al h 239 λ c d=>aM d 236 a 0 234 λ e=>Ln d 234 e λ e=>Bi d .sub 3 e i1 λ e=>Lp (∃(f:V1)(g:N1),f e d/\∀d e,f d e->(bv e .geq 3 d i0 (aM e 236 a 0 234 λ i=>Ia e 234 i d λ i=>Fa e 239 i 0 λ i=>Ld e 9 i λ i=>Eb e .eql 9 false false i b λ b=>Cd b (aM e 236 a 0 234 λ a=>Ia e 234 a d λ a=>Ld e 239 a λ a=>Sr e 239 c a λ a=>Rv a 239 c λ b=>R (bj b bt) a) (Bi e .sub 3 d i1 λ a=>(f a e/\g a e<g d e))) (Bd e 239 #[] λ a=>Sr e 239 c a λ a=>Rv a 239 c λ b=>R (bj b bf) a))))->Cf h 269 #[a,b] R:=mS Tryz.func269 Ic
def Ub:(Al h 417 λ c d=>aM d 359 a 0 356 λ e=>Ln d 356 e λ e=>Bi d .sub 3 e i1 λ e=>Lp (∃(f:V1)(g:N1),f e d/\∀d e,f d e->(bv e .geq 3 d i0 (aM e 359 a 0 356 λ i=>Ia e 356 i d λ i=>Fa e 417 i 0 λ i=>Ld e 9 i λ i=>Eb e .eql 9 false false i b λ b=>Cd b (aM e 359 a 0 356 λ a=>Ia e 356 a d λ a=>Ld e 417 a λ a=>Sr e 417 c a λ a=>Rv a 417 c λ b=>R (bj b bt) a) (Bi e .sub 3 d i1 λ a=>(f a e/\g a e<g d e))) (Bd e 417 #[] λ a=>Sr e 417 c a λ a=>Rv a 417 c λ b=>R (bj b bf) a))))->Cf h 220 #[a,b] R:=mS Tryz.func220 Ic
abbrev ef(k:Kd)(a:Addr):bW:=nilp::(dQ k a++[nilp,bf])
abbrev Dh:bW:=[nilp,nilp,nilp,nilp,nilp,bf]
abbrev dc(b:Nat):bW:=[aB b,nilp,nilp,nilp,nilp,bf]
abbrev ic:bF:=⟨#[115,116,114,105,110,103]⟩
abbrev qa:bF:=⟨#[117,110,116,121,112,101,100]⟩
abbrev fb:bF:=⟨#[97,115,115,111,99,105,97,116,105,118,101]⟩
abbrev bT:bF:=⟨#[116]⟩
abbrev bK:bF:=⟨#[107]⟩
abbrev bV:bF:=⟨#[118]⟩
abbrev bA:bF:=⟨#[97]⟩
abbrev bB:bF:=⟨#[98]⟩
abbrev c9(v:bF)(k:Kd)(a:Addr):bW:=aU v::(ef k a++[ni])
def cU(T:aK)(A:bF)(a:Addr):Prop:=∃b e,a=⟨b,0,none⟩/\T b=aE #[aU A] e
def fl(T:aK)(a:Addr)(f:Value):Prop:=∃b e,a=⟨b,0,none⟩/\T b=aE #[f,n0,nilp,nilp,nilp,nilp,nilp,bf,s0] e
def qd(T:aK)(a:Addr)(k:Kd)(X:Addr)(c:Value):Prop:=∃b e,a=⟨b,0,none⟩/\T b=aE (ef k X++[aU fb,c]).toArray e
def kz(T:aK)(a:Addr):Prop:=∃f X q,fl T a f/\cd T f 8 2 (c9 bK .sc X++c9 bV .sc q)/\cU T ic X/\cU T qa q
def cO(T:aK)(a:Addr):Prop:=∃X,qd T a .sc X n0/\cU T ic X
def md(T:aK)(a:Addr):Prop:=∃X q,qd T a .ma X q/\kz T X/\Strs T q [bK]
def eO(T:aK)(a:Addr):Prop:=∃f X q,fl T a f/\cd T f 8 2 (c9 bA .li X++c9 bB .li q)/\cO T X/\md T q
def dr(T:aK)(A:Value)(a:Addr):Prop:=∃b e o,A=aB b/\T b=aE #[o] e/\cd T o 4 1 (aU bT::dQ .ma a)/\eO T a
theorem cU.mono(O:I.le J)(X:cU I S A):cU J S A:=zcK
theorem fl.mono(O:I.le J)(X:fl I A a):fl J A a:=zcK
theorem qd.mono(O:I.le J){r:Kd}{X:Addr}(q:qd I A r X a):qd J A r X a:=by obtain⟨u,C,y,N⟩:=q;exact⟨u,C,y,O _ _ N⟩
theorem kz.mono(O:I.le J)(X:kz I A):kz J A:=zb5
theorem cO.mono(O:I.le J)(X:cO I A):cO J A:=by obtain⟨X,y,N⟩:=X;exact⟨X,y.mono O,N.mono O⟩
theorem md.mono(O:I.le J)(X:md I A):md J A:=by obtain⟨X,q,y,N,K⟩:=X;exact⟨X,q,y.mono O,N.mono O,K.mono O⟩
theorem eO.mono(O:I.le J)(X:eO I A):eO J A:=zb5
theorem dr.mono(O:I.le J)(X:dr I a A):dr J a A:=by obtain⟨u,C,o,y,N,K,t⟩:=X;exact⟨u,C,o,y,O _ _ N,K.mono O,t.mono O⟩
theorem uP(Z:aN I h){r:Kd}(L:∀U,aD I h I U->R (bj (.agg (dQ r A).toArray) bt) U):Cf h 219 #[a,.agg (ef r A).toArray] R:=by cases r;all_goals refine Ju (rA ?_);refine IY (rA ?_);refine⟨_,λ _ W=>W,?_⟩;refine rA ?_;exact L _ (aP Z)
theorem sC(Z:aN I h)(s:dr I a A)(L:∀U,aD I h I U->R (bj (.agg (aU bT::dQ .ma A).toArray) bt) U):Cf h 269 #[a,aU bT] R:=by obtain⟨u,C,o,rfl,j,⟨F,V,rfl,t,-,-,-,k⟩,-⟩:=s;obtain⟨B,s,rfl,r⟩:=k zaa;have f:∀{N},aN I N->aI N B s=some (aU bT)/\aI N B (s+1)=some nilp/\aI N B (s+1+1)=some nilp/\aI N B (s+1+1+1)=some (.pointer (some A)):=λ W=>⟨W.cell (r 0 _ rfl),W.cell (r 1 _ rfl),W.cell (r 2 _ rfl),W.cell (r 3 _ rfl)⟩;have g:=Z.dom j;refine SJ (rB (Z _ _ j).c ?_);refine⟨λ J N=>J=i0/\aD I h I N/\blk N h.size=aE #[s0,nilp,nilp,nilp] 239,λ _ _=>0,⟨rfl,aP Z,Bk⟩,?_⟩;rintro _ N⟨rfl,C,H⟩;have W:=C.sat;have g:=C.size;have e:=aF H;refine rF (W _ _ j).c H.b (f W) @Int.toNat_zero @Nat.add_zero ?_;refine L _ ?_;exact bX Z C
theorem uS(Z:aN I h)(s:dr I a A)(D:cU I bT ⟨m,0,none⟩)(L:∀U,aD I h I U->R (bj (.agg (dQ .ma A).toArray) bt) U):Cf h 219 #[a,.agg (dc m).toArray] R:=by obtain⟨_,z,c,K⟩:=D;cases c;have o:=Z.dom K;refine Ju (rA ?_);refine IY (rB (Z _ _ K).c ?_);refine⟨_,λ _ W=>W,?_⟩;refine rB (Z _ _ K).c ?_;refine sC (show aD I h I _ from aP Z).sat s λ N P=>?_;have C:aD I h I N:=aC.trans (aP Z) P;have g:=P.size;(try simp only[bJ]at g);have x:blk N (h.size+1)=aE #[nilp,nilp,nilp] 92:=P.blk Bk id;have J:blk N (h.size+3)=aE #[nilp,nilp,nilp] 92:=P.blk Bk id;have E:blk N (h.size+4)=aE #[nilp,nilp,nilp] 92:=P.blk Bk id;refine rD x.b J.b E.b ?_;refine L _ ?_;exact bX Z C
theorem MK:(bB.toList==bA.toList)=false:=zag
theorem eo(Z:aN I h){X q:Addr}{O n:Kd}(B:fl I A a)(V:cd I a 8 2 (c9 bA O X++c9 bB n q))(L:∀U,aD I h I U->R (bj (.agg (c9 bA O X).toArray) bt) U):Cf h 220 #[.pointer (some A),aU bA] R:=by
 obtain⟨u,C,rfl,j⟩:=B;obtain⟨F,a,rfl,t,-,-,-,k⟩:=V;obtain⟨B,s,rfl,r⟩:=k zaa;have f:=Z.dom j;cases O;all_goals
  have f:∀{N},aN I N->aI N B s=some (aU bA)/\aI N B (s+1)=some _/\aI N B (s+1+1)=some _/\aI N B (s+1+1+1)=some _/\aI N B (s+1+1+1+1)=some _/\aI N B (s+1+1+1+1+1)=some _/\aI N B (s+1+1+1+1+1+1)=some _/\aI N B (s+1+1+1+1+1+1+1)=some _/\aI N B (s+8)=some (aU bB):=λ W=>⟨W.cell (r 0 _ rfl),W.cell (r 1 _ rfl),W.cell (r 2 _ rfl),W.cell (r 3 _ rfl),W.cell (r 4 _ rfl),W.cell (r 5 _ rfl),W.cell (r 6 _ rfl),W.cell (r 7 _ rfl),W.cell (r 8 _ (by cases n<;>rfl))⟩;refine Ub (rB (Z _ _ j).c ?_);refine⟨λ J N=>(J=i0\/J=i1)/\aD I h I N/\blk N h.size=aE #[s0,nilp,nilp,nilp,nilp,nilp,bf,ni] 417,λ J _=>match J with|.int _ M=>M.toNat|_=>0,⟨.inr rfl,aP Z,Bk⟩,?_⟩;rintro _ N⟨rfl|rfl,C,H⟩
  ·have W:=C.sat;have g:=C.size;have e:=aF H;refine rF (W _ _ j).c H.b (f W) @Int.toNat_zero @Nat.add_zero ?_;refine L _ ?_;exact bX Z C
  ·have W:=C.sat;refine rE (W _ _ j).c (f W) @Nat.one_mul @MK ?_;exact⟨.inl trivial,C,H⟩
def Cg:(Eb h .eql 378 false true a nilp λ c=>Gd h c false (λ a c=>a b c) λ d e=>Gd e c false (λ a b=>Eb b .eql 378 false true d nilp λ c=>a c b) λ d e=>Pk c bt d λ c=>Cd c (Eb e .eql 378 false true a nilp λ a=>aH e a (λ a c=>a b c) λ b c=>aH c a (λ a c=>Eb c .eql 378 false true b nilp λ b=>a b c) λ b c=>Pk a b bf λ a=>R a c) (aM e 95 a 0 87 λ c=>Eb e .eql 87 false true c nilp λ c=>aM e 95 b 0 87 λ d=>Eb e .eql 87 false true d nilp λ d=>Eb e .neq 4 false false c d λ c=>Cd c (R (.bool false) e) (Lp (∃c:V0,(∀d,c d->(aM d 95 a 2 93 λ c=>aM d 95 b 2 93 λ e=>Eb d .neq 93 false false c e λ c=>Cd c (R (.bool false) d) (aM d 95 a 3 4 λ c=>aM d 95 b 3 4 λ e=>Eb d .neq 4 false false c e λ c=>Cd c (R (.bool false) d) (bg d 95 a 1 λ a=>bg d 95 b 1 λ b=>Cf d 238 #[a,b] λ a b=>R a b))))/\(aM e 95 a 0 87 λ d=>bx e 87 d nilp (aM e 95 a 0 87 λ a=>Nc a<|Ld e 9 a λ a=>aM e 95 b 0 87 λ b=>Nc b<|Ld e 9 b λ b=>Eb e .neq 9 false false a b λ a=>Cd a (R (.bool false) e) (c e)) (c e))))))->Cf h 195 #[a,b] R:=mS Tryz.func195 (Z (Q cg (Q t6 (Y [] (Z (C (Q (X #[0,1,3,7,15,31,0,64,192,448,960,1984,4095]) iT) L)) (Q nJ (Q nJ (Q ti L)))))))
def Db:(Eb h .eql 447 false true a nilp λ c=>Gd h c false (λ a c=>a b c) λ d e=>Gd e c false (λ a b=>Eb b .eql 447 false true d nilp λ c=>a c b) λ d e=>Pk c bt d λ c=>Cd c (Eb e .eql 447 false true a nilp λ a=>aH e a (λ a c=>a b c) λ b c=>aH c a (λ a c=>Eb c .eql 447 false true b nilp λ b=>a b c) λ b c=>Pk a b bf λ a=>R a c) (aM e 92 a 0 88 λ c=>Eb e .eql 88 false true c nilp λ c=>aM e 92 b 0 88 λ d=>Eb e .eql 88 false true d nilp λ d=>Eb e .neq 4 false false c d λ c=>Cd c (R (.bool false) e) (aM e 92 a 1 89 λ c=>Eb e .eql 89 false true c nilp λ c=>aM e 92 b 1 89 λ d=>Eb e .eql 89 false true d nilp λ d=>Eb e .neq 4 false false c d λ c=>Cd c (R (.bool false) e) (aM e 92 a 2 90 λ c=>Eb e .eql 90 false true c nilp λ c=>aM e 92 b 2 90 λ d=>Eb e .eql 90 false true d nilp λ d=>Eb e .neq 4 false false c d λ c=>Cd c (R (.bool false) e) (aM e 92 a 0 88 λ c=>bx e 88 c nilp (aM e 92 a 0 88 λ a=>Nc a<|Ld e 352 a λ a=>aM e 92 b 0 88 λ b=>Nc b<|Ld e 352 b λ b=>Eb e .eql 352 false false a b λ a=>R a e) (aM e 92 a 1 89 λ c=>bx e 89 c nilp (aM e 92 a 1 89 λ a=>aM e 92 b 1 89 λ b=>Cf e 258 #[a,b] λ a b=>R a b) (aM e 92 a 2 90 λ c=>bx e 90 c nilp (aM e 92 a 2 90 λ a=>aM e 92 b 2 90 λ b=>Cf e 259 #[a,b] λ a b=>R a b) (R (.bool true) e))))))))->Cf h 238 #[a,b] R:=mS Tryz.func238 (Z (Q cg (Q t6 (Q t6 (Q t6 (Q (B (Z (C (Q (X #[0,1,3,7,15,31,0,64,192,448,960,1984,4095,8191]) L) (Z (C (Q EE L) (Z (C (Q EE L) L))))))) bG))))))
def TR:(Eb h .eql 89 false true a nilp λ c=>Gd h c false (λ a c=>a b c) λ d e=>Gd e c false (λ a b=>Eb b .eql 89 false true d nilp λ c=>a c b) λ d e=>Pk c bt d λ c=>Cd c (Eb e .eql 89 false true a nilp λ a=>aH e a (λ a c=>a b c) λ b c=>aH c a (λ a c=>Eb c .eql 89 false true b nilp λ b=>a b c) λ b c=>Pk a b bf λ a=>R a c) (bg e 354 a 0 λ c=>bg e 354 b 0 λ d=>Cf e 195 #[c,d] λ c d=>cD d c (R (.bool false) d) (aM d 354 a 1 240 λ c=>aM d 354 b 1 240 λ e=>Eb d .neq 240 false false c e λ c=>Cd c (R (.bool false) d) (aM d 354 a 2 32 λ c=>Ln d 32 c λ c=>aM d 354 b 2 32 λ e=>Ln d 32 e λ e=>Eb d .neq 3 false false c e λ c=>Cd c (R (.bool false) d) (aM d 354 a 2 32 λ c=>Ln d 32 c λ c=>Lp (∃(e:V1)(f:N1),e i0 d/\∀d g,e d g->(bv g .lss 3 d c (aM g 354 a 2 32 λ a=>Ia g 32 a d λ a=>Ld g 9 a λ a=>aM g 354 b 2 32 λ b=>Ia g 32 b d λ b=>Ld g 9 b λ b=>Eb g .neq 9 false false a b λ a=>Cd a (R (.bool false) g) (Bi g .add 3 d i1 λ a=>(e a g/\f a g<f d g))) (R (.bool true) g))))))))->Cf h 258 #[a,b] R:=mS Tryz.func258 (Z (Q cg (Q (Q ti iT) (Q nJ (Q t6 (Q (Z (B (O [51] (Z (Q d8 (Q (B (Z (Q EA iT))) L)))))) bG))))))
def U4:(Eb h .eql 90 false true a nilp λ c=>Gd h c false (λ a c=>a b c) λ d e=>Gd e c false (λ a b=>Eb b .eql 90 false true d nilp λ c=>a c b) λ d e=>Pk c bt d λ c=>Cd c (Eb e .eql 90 false true a nilp λ a=>aH e a (λ a c=>a b c) λ b c=>aH c a (λ a c=>Eb c .eql 90 false true b nilp λ b=>a b c) λ b c=>Pk a b bf λ a=>R a c) (bg e 359 a 2 λ c=>bg e 359 b 2 λ d=>Cf e 195 #[c,d] λ c d=>cD d c (R (.bool false) d) (aM d 359 a 3 240 λ c=>aM d 359 b 3 240 λ e=>Eb d .neq 240 false false c e λ c=>Cd c (R (.bool false) d) (aM d 359 a 0 356 λ c=>Ln d 356 c λ c=>aM d 359 b 0 356 λ e=>Ln d 356 e λ e=>Eb d .neq 3 false false c e λ c=>Cd c (R (.bool false) d) (aM d 359 a 0 356 λ c=>Ln d 356 c λ c=>Lp (∃(e:V1)(f:N1),e i0 d/\∀d g,e d g->(bv g .lss 3 d c (aM g 359 a 0 356 λ a=>Ia g 356 a d λ a=>aM g 359 b 0 356 λ b=>Ia g 356 b d λ b=>Cf g 276 #[a,b] λ a b=>cD b a (R (.bool false) b) (Bi b .add 3 d i1 λ a=>(e a b/\f a b<f d g))) (aM g 359 a 1 357 λ c=>Ln g 357 c λ c=>aM g 359 b 1 357 λ d=>Ln g 357 d λ d=>Eb g .neq 3 false false c d λ c=>Cd c (R (.bool false) g) (aM g 359 a 1 357 λ c=>Ln g 357 c λ c=>Lp (∃(d:V1)(e:N1),d i0 g/\∀f g,d f g->(bv g .lss 3 f c (aM g 359 a 1 357 λ a=>Ia g 357 a f λ a=>aM g 359 b 1 357 λ b=>Ia g 357 b f λ b=>Cf g 277 #[a,b] λ a b=>cD b a (R (.bool false) b) (Bi b .add 3 f i1 λ a=>(d a b/\e a b<e f g))) (R (.bool true) g))))))))))))->Cf h 259 #[a,b] R:=mS Tryz.func259 (Z (Q cg (Q (Q ti iT) (Q nJ (Q t6 (Q (Z (B (O [52] PS))) (Q t6 (Q (Z (B (O [86] PS))) bG))))))))
def Sf:(Eb h .eql 487 false true a nilp λ c=>Gd h c false (λ a c=>a b c) λ d e=>Gd e c false (λ a b=>Eb b .eql 487 false true d nilp λ c=>a c b) λ d e=>Pk c bt d λ c=>Cd c (Eb e .eql 487 false true a nilp λ a=>aH e a (λ a c=>a b c) λ b c=>aH c a (λ a c=>Eb c .eql 487 false true b nilp λ b=>a b c) λ b c=>Pk a b bf λ a=>R a c) (aM e 417 a 0 9 λ c=>aM e 417 b 0 9 λ d=>Eb e .neq 9 false false c d λ c=>Cd c (R (.bool false) e) (aM e 417 a 2 20 λ c=>aM e 417 b 2 20 λ d=>Cf e 286 #[c,d] λ c d=>cD d c (R (.bool false) d) (bg d 417 a 1 λ a=>bg d 417 b 1 λ b=>Cf d 195 #[a,b] λ a b=>R a b))))->Cf h 276 #[a,b] R:=mS Tryz.func276 (Z (Q cg (Q nJ (Q (Q EE iT) (Q ti L)))))
def S6:(ce h 20 a ni (Eb h .eql 20 false true b ni λ a=>R a h) (Ta h a 20 4 true λ c=>Ex c 1 λ d=>Ex c 0 λ c=>Cd d (Ta h b 20 4 true λ a=>aW a λ a b=>aH h b (λ a b=>a c b) λ c d=>aH d b (λ b c=>b a c) λ a d=>aH d b (λ b d=>Eb d .eql 4 false false c a λ a=>b a d) λ a c=>Pk b a bf λ a=>R a c) (Ta h a 20 2 true λ c=>Ex c 1 λ d=>Ex c 0 λ c=>Cd d (Ta h b 20 2 true λ a=>aW a λ a b=>aH h b (λ a b=>a c b) λ c d=>aH d b (λ b c=>b a c) λ a d=>aH d b (λ b d=>Eb d .eql 2 false false c a λ a=>b a d) λ a c=>Pk b a bf λ a=>R a c) (Ta h a 20 31 true λ c=>Ex c 1 λ d=>Ex c 0 λ c=>Cd d (Ta h b 20 31 true λ a=>aW a λ a b=>aH h b (λ a b=>a c b) λ c d=>aH d b (λ b c=>b a c) λ a d=>aH d b (λ b d=>Eb d .eql 31 false false c a λ a=>b a d) λ a c=>Pk b a bf λ a=>R a c) (Ta h a 20 9 true λ c=>Ex c 1 λ d=>Ex c 0 λ c=>Cd d (Ta h b 20 9 true λ a=>aW a λ a b=>aH h b (λ a b=>a c b) λ c d=>aH d b (λ b c=>b a c) λ a d=>aH d b (λ b d=>Eb d .eql 9 false false c a λ a=>b a d) λ a c=>Pk b a bf λ a=>R a c) (Ta h a 20 241 true λ c=>Ex c 1 λ d=>Ex c 0 λ c=>Cd d (Ta h b 20 241 true λ a=>aW a λ a b=>Nt h b λ b=>Gd h b false (λ a b=>a c b) λ d e=>Gd e b false (λ a b=>Eb b .eql 241 false true d n0 λ c=>a c b) λ d e=>Gd e b false (λ b c=>b a c) λ e f=>Gd f b false (λ a b=>Eb b .eql 241 false true e n0 λ c=>a c b) λ e f=>Gd f b false (λ a b=>Eb b .neq 4 false false d e λ c=>a c b) λ d e=>Pk b bt d λ b=>Gd e b false (λ a b=>a c b) λ d e=>Gd e b false (λ a b=>Ln b 241 d λ c=>a c b) λ d e=>Gd e b false (λ b c=>b a c) λ e f=>Gd f b false (λ a b=>Ln b 241 e λ c=>a c b) λ e f=>Gd f b false (λ a b=>Eb b .neq 3 false false d e λ c=>a c b) λ d e=>Pk b bt d λ b=>Cd b (R (.bool false) e) (Ln e 241 c λ b=>Lp (∃(d:V1)(f:N1),d i0 e/\∀e g,d e g->(bv g .lss 3 e b (Ia g 241 c e λ b=>Ld g 20 b λ b=>Ia g 241 a e λ a=>Ld g 20 a λ a=>Cf g 286 #[b,a] λ a b=>cD b a (R (.bool false) b) (Bi b .add 3 e i1 λ a=>(d a b/\f a b<f e g))) (R (.bool true) g))))) (Ta h a 20 242 true λ a=>Ex a 1 λ c=>Ex a 0 λ a=>Cd c (Ta h b 20 242 true λ b=>aW b λ b c=>Nt h c λ c=>Gd h c false (λ b c=>b a c) λ d e=>Gd e c false (λ a b=>Eb b .eql 242 false true d cr λ c=>a c b) λ d e=>Gd e c false (λ a c=>a b c) λ e f=>Gd f c false (λ a b=>Eb b .eql 242 false true e cr λ c=>a c b) λ e f=>Gd f c false (λ a b=>Eb b .neq 4 false false d e λ c=>a c b) λ d e=>Pk c bt d λ c=>Gd e c false (λ b c=>b a c) λ d e=>Gd e c false (λ a b=>Ln b 242 d λ c=>a c b) λ d e=>Gd e c false (λ a c=>a b c) λ e f=>Gd f c false (λ a b=>Ln b 242 e λ c=>a c b) λ e f=>Gd f c false (λ a b=>Eb b .neq 3 false false d e λ c=>a c b) λ d e=>Pk c bt d λ c=>Cd c (R (.bool false) e) (Rn e 242 a λ a c=>Lp (∃(d:V0)(e:N0),d c/\∀c,d c->(Nx c a false 0 λ f g=>Ex f 0 λ f=>Cd f (Et g a λ a f=>aW a λ a g=>Lk f 242 b a true λ a=>aW a λ a b=>Nt f b λ b=>Gd f b false (λ a b=>a g b) λ f g=>Gd g b false (λ b c=>b a c) λ a g=>Gd g b false (λ b c=>Cf c 286 #[f,a] λ a c=>b a c) λ a f=>Gd f b false (λ b c=>Nt c a λ a=>b a c) λ a f=>Pk b bt a λ a=>Cd a (R (.bool false) f) (d f/\e f<e c)) (R (.bool true) g))))) (R (.bool false) h))))))))->Cf h 286 #[a,b] R:=mS Tryz.func286 (Z (Q (Z (B (Z (C cX (Z (C iO (Z (C iO (Z (C iO (Z (C iO (Z (C (Z (Z (Q cg (Q (Z (B (O [115] PT))) bG)))) (Z (C (Z (Z (Q cg (Q (Z (B (O [] (Z (Q d8 (B (Z mM))))))) bG)))) L)))))))))))))))) bG))
def At(h:Heap)(b s:Nat)(g:bW):Prop:=∀i S,g[i]?=some S->aI h b (s+i)=some S
theorem At.of(Z:aN I h){H:cQ}{c:Nat×Nat}(j:I m=some (.cells H n c)):At h m 0 H.toList:=by intro M S O;refine Z.cell ?_;unfold bP;rw[j];simpa using O
theorem At.sub{c:bW}(B:At h m n (x++w++c))(v:o=n+x.length):At h m o w:=by intro M S O;rw[v,Nat.add_assoc];refine B _ _ ?_;rw[List.append_assoc,List.getElem?_append_right zaa,Nat.add_sub_cancel_left,List.getElem?_append_left (by have:=List.getElem?_eq_some_iff.1 O;exact this.1)];exact O
theorem rJ(f:At h m n [nilp,nilp,nilp])(i:At h o l [nilp,nilp,nilp])(L:R bt h):Cf h 238 #[cY m n,cY o l] R:=by
 have v:=f 0 _ rfl;have w:=f 1 _ rfl;have F:=f 2 _ rfl;have t:=i 0 _ rfl;have V:=i 1 _ rfl;have X:=i 2 _ rfl;rw[Nat.add_zero]at v t;apply Db;try simp(disch:=omega)only[go_sem,↓reduceIte,v,w,F,t,V,X,bne_self_eq_false]
 exact L
def iS(T:aK)(h:Heap)(k:Kd)(a:Addr):Prop:=match k with|.sc=>∃A,cU T A a|.li=>∀R:KV,R bt h->Cf h 258 #[.pointer (some a),.pointer (some a)] R|.ma=>∀R:KV,R bt h->Cf h 259 #[.pointer (some a),.pointer (some a)] R
theorem nU(Z:aN I h){r:Kd}(f:At h m n (dQ r A))(i:At h o l (dQ r A))(L:R bt h)(Y:iS I h r A):Cf h 238 #[cY m n,cY o l] R:=by
 cases r with
  |sc=>
   obtain⟨A,u,C,rfl,j⟩:=Y;have v:=f 0 _ rfl;have w:=f 1 _ rfl;have F:=f 2 _ rfl;have t:=i 0 _ rfl;have V:=i 1 _ rfl;have X:=i 2 _ rfl;rw[Nat.add_zero]at v t;apply Db;try simp(disch:=omega)only[go_sem,↓reduceIte,v,w,F,t,V,X,bne_self_eq_false,aA (Z _ _ j)]
   exact L
  |li=>
   have v:=f 0 _ rfl;have w:=f 1 _ rfl;have F:=f 2 _ rfl;have t:=i 0 _ rfl;have V:=i 1 _ rfl;have X:=i 2 _ rfl;rw[Nat.add_zero]at v t;apply Db;try simp(disch:=omega)only[go_sem,↓reduceIte,v,w,F,t,V,X,bne_self_eq_false]
   exact Y _ L
  |ma=>
   have v:=f 0 _ rfl;have w:=f 1 _ rfl;have F:=f 2 _ rfl;have t:=i 0 _ rfl;have V:=i 1 _ rfl;have X:=i 2 _ rfl;rw[Nat.add_zero]at v t;apply Db;try simp(disch:=omega)only[go_sem,↓reduceIte,v,w,F,t,V,X,bne_self_eq_false]
   exact Y _ L
theorem Gj(f:At h m n Dh)(i:At h o l Dh)(L:R bt h):Cf h 195 #[cY m n,cY o l] R:=by
 have v:=f 0 _ rfl;have X:=f 4 _ rfl;have d:=f 5 _ rfl;have t:=i 0 _ rfl;have J:=i 4 _ rfl;have g:=i 5 _ rfl;rw[Nat.add_zero]at v t;apply Cg;try simp(disch:=omega)only[go_sem,↓reduceIte,v,X,d,t,J,g,bne_self_eq_false]
 refine⟨_,λ _ W=>W,?_⟩;try simp(disch:=omega)only[go_sem,↓reduceIte,v,X,d,t,J,g,bne_self_eq_false]
 refine rJ (At.sub (x:=[nilp]) (c:=[nilp,bf]) f rfl) (At.sub (x:=[nilp]) (c:=[nilp,bf]) i rfl) L
theorem wB(Z:aN I h){r:Kd}(f:At h m n (ef r A))(i:At h o l (ef r A))(Y:iS I h r A)(L:R bt h):Cf h 195 #[cY m n,cY o l] R:=by
 have h:(ef r A)[4]?=some nilp:=zcd;have b:(ef r A)[5]?=some bf:=zcd;have v:=f 0 _ rfl;have X:=f 4 _ h;have d:=f 5 _ b;have t:=i 0 _ rfl;have J:=i 4 _ h;have g:=i 5 _ b;rw[Nat.add_zero]at v t;apply Cg;try simp(disch:=omega)only[go_sem,↓reduceIte,v,X,d,t,J,g,bne_self_eq_false]
 refine⟨_,λ _ W=>W,?_⟩;try simp(disch:=omega)only[go_sem,↓reduceIte,v,X,d,t,J,g,bne_self_eq_false]
 refine nU Z (At.sub (x:=[nilp]) (c:=[nilp,bf]) f rfl) (At.sub (x:=[nilp]) (c:=[nilp,bf]) i rfl) L Y
theorem wm(Z:aN I h)(D:cU I S ⟨m,0,none⟩)(f:At h n o (dc m))(i:At h l t (dc m))(L:R bt h):Cf h 195 #[cY n o,cY l t] R:=by
 obtain⟨_,C,A,j⟩:=D;cases A;have v:=f 0 _ rfl;have X:=f 4 _ rfl;have d:=f 5 _ rfl;have t:=i 0 _ rfl;have J:=i 4 _ rfl;have g:=i 5 _ rfl;rw[Nat.add_zero]at v t;apply Cg;try simp(disch:=omega)only[go_sem,↓reduceIte,v,X,d,t,J,g,bne_self_eq_false]
 refine⟨_,λ _ W=>W,?_⟩;try simp(disch:=omega)only[go_sem,↓reduceIte,v,X,d,t,J,g,bne_self_eq_false,aA (Z _ _ j)]
 refine rJ (At.sub (x:=[aB m]) (c:=[nilp,bf]) f rfl) (At.sub (x:=[aB m]) (c:=[nilp,bf]) i rfl) L
theorem ut(Z:aN I h){r:Kd}{X:Addr}(l:qd I A r X a)(q:Strs I a z)(Y:iS I h r X):iS I h .li A:=by
 intro c L;obtain⟨u,C,rfl,j⟩:=l;obtain⟨F,V,rfl,t,-,D,-,k⟩:=q;have P:=At.of Z j;have R:aI h u 6=some (aU fb):=by have:=P 6 (aU fb) zcd;exact zai
 have i:aI h u 7=some (.slice F z.length V):=by have:=P 7 (.slice F z.length V) zcd;exact zai
 have c:At h u 0 (ef r X):=At.sub (x:=[]) (c:=[aU fb,.slice F z.length V]) (bS P) rfl;refine TR (rA ?_);refine wB Z c c Y ?_;try simp(disch:=omega)only[go_sem,↓reduceIte,R,i,bne_self_eq_false]
 refine⟨λ J N=>N=h/\∃M:Nat,J=aR M/\M<=z.length,λ J _=>match J with|.int _ M=>z.length-M.toNat|_=>0,⟨rfl,0,rfl,zaa⟩,?_⟩;rintro _ _⟨rfl,M,rfl,d⟩;by_cases o:M<z.length
 ·have t:decide ((M:Int)<(z.length:Int))=true:=by simp;exact zaa
  refine Exists.elim (k zaa) λ H W=>Exists.elim W λ f W=>?_;have g:=Z.cell (W.2 M (aU z[M]) zbL);try simp(disch:=omega)only[go_sem,↓reduceIte,i,t,W.1,g,bne_self_eq_false]
  exact⟨⟨M+1,rfl,zaa⟩,zaa⟩
 ·have t:decide ((M:Int)<(z.length:Int))=false:=by simp;exact zaa
  refine rC i t ?_;exact L
theorem tR(Z:aN I h){r:Kd}(B:At h m n (c9 S r A))(Y:iS I h r A)(L:R bt h):Cf h 276 #[cY m n,cY m n] R:=by
 have v:=B 0 _ rfl;have i:=B 7 ni zcd;rw[Nat.add_zero]at v;have c:At h m (n+1) (ef r A):=At.sub (x:=[aU S]) (c:=[ni]) (by cases r<;>exact B) rfl;apply Sf;try simp(disch:=omega)only[go_sem,↓reduceIte,v,i,bne_self_eq_false]
 refine S6 (rA ?_);exact wB Z c c Y L
theorem tJ(Z:aN I h){O n:Kd}{X q:Addr}(l:fl I A a)(V:cd I a 8 2 (c9 S O X++c9 T n q))(y:iS I h O X)(N:iS I h n q):iS I h .ma A:=by
 intro z L;obtain⟨u,C,rfl,j⟩:=l;obtain⟨F,a,rfl,t,-,-,-,k⟩:=V;obtain⟨B,s,rfl,r⟩:=k zaa;have P:=At.of Z j;have v:=P 0 _ rfl;have w:=P 1 _ rfl;have b:=P 8 _ rfl;rw[Nat.add_zero]at v;rw[Nat.zero_add]at w b;have c:At h u 2 Dh:=At.sub (x:=[bq B s 2 a,n0]) (c:=[s0]) (bS P) rfl;have d:At h B s (c9 S O X++c9 T n q):=λ M F V=>Z.cell (r M F V);have Q:(c9 S O X).length=8:=by cases O<;>rfl
 have e:At h B s (c9 S O X):=At.sub (x:=[]) (c:=c9 T n q) (bS d) rfl;have f:At h B (s+8) (c9 T n q):=At.sub (x:=c9 S O X) (c:=[]) (bS d) (by rw[Q]);refine U4 (rA ?_);refine Gj c c ?_;try simp(disch:=omega)only[go_sem,↓reduceIte,v,w,b,bne_self_eq_false]
 refine⟨λ J N=>N=h/\(J=i0\/J=i1\/J=i2),λ J _=>match J with|.int _ M=>2-M.toNat|_=>0,⟨rfl,.inl rfl⟩,?_⟩;rintro _ G⟨rfl,rfl|rfl|rfl⟩
 ·refine rD v @Int.toNat_zero @Nat.add_zero ?_;refine tR Z e y ?_;refine rA ?_;exact⟨.inr (.inl trivial),zaE⟩
 ·refine rC v @Nat.one_mul ?_;refine tR Z f N ?_;refine rA ?_;exact⟨.inr (.inr trivial),zaE⟩
 ·try simp(disch:=omega)only[go_sem,↓reduceIte,v,w,bne_self_eq_false]
  refine⟨λ J N=>N=G/\J=i0,λ _ _=>0,⟨rfl,rfl⟩,?_⟩;rintro _ _⟨rfl,rfl⟩;refine rB w ?_;exact L
theorem pp(G:cU I S A):iS I h .sc A:=⟨S,G⟩
theorem yH(Z:aN I h)(G:cO I A):iS I h .li A:=by obtain⟨X,y,N⟩:=G;exact ut Z (z:=[]) y (cd.nil _ 1 _ _) (pp N)
theorem Ii(Z:aN I h)(G:kz I A):iS I h .ma A:=by obtain⟨c,X,q,y,N,K,t⟩:=G;exact tJ Z y N (pp K) (pp t)
theorem MW(Z:aN I h)(G:md I A):iS I h .li A:=by obtain⟨X,q,y,N,K⟩:=G;exact ut Z (z:=[bK]) y K (Ii Z N)
theorem y0(Z:aN I h)(G:eO I A):iS I h .ma A:=by obtain⟨c,X,q,y,N,K,t⟩:=G;exact tJ Z y N (yH Z K) (MW Z t)
def C2:(Bx h 95 b λ b e=>Ld e 95 b λ f=>Cf e 219 #[a,f] λ a e=>aW a λ a f=>bH e 92 a λ a e=>cD e f (Cf e 194 #[dO 0x736368656d61206572726f723a206e6f207479706520666f756e64206d61746368696e67] λ a b=>R a b) (Ld e 92 a λ f=>Cf e 239 #[f,c] λ c e=>Sr e 92 a c λ c=>Ld c 92 a λ a=>Ld c 95 b λ b=>Cf c 236 #[a,b,d] λ a b=>R a b))->Cf h 217 #[a,b,c,d] R:=mS Tryz.func217 (Z tN)
def Hc:(Iv h b "IsNull" #[] λ c d=>Cd c (R (bj ni ni) d) (Iv d b "IsList" #[] λ c d=>cD d c (Cf d 91 #[dO 0x6578706563746564206c6973742c20676f74] λ a b=>R (bj ni a) b) (Iv d b "AsListUsing" #[a] λ a b=>R (bj a ni) b)))->Cf h 327 #[a,b] R:=mS Tryz.func327 Ew
def Ir:(ce h 228 b ni (Cf h 91 #[dO 0x6578706563746564206d61702c20676f74206e696c] λ a b=>R (bj ni a) b) (Iv h b "IsNull" #[] λ c d=>Cd c (R (bj ni ni) d) (Iv d b "IsMap" #[] λ c d=>cD d c (Cf d 91 #[dO 0x6578706563746564206d61702c20676f74] λ a b=>R (bj ni a) b) (Iv d b "AsMapUsing" #[a] λ a b=>R (bj a ni) b))))->Cf h 329 #[a,b] R:=mS Tryz.func329 (Z (Q cg (Q cg nK)))
def Jx:(ce h 228 b ni (R n0 h) (Iv h b "IsNull" #[] λ c d=>Cd c (R n0 d) (Lp (∃c:V0,(∀a,c a->(R n0 a))/\(Nc a<|Ld d 352 a λ a=>ce d 352 a (aU ⟨#[110,117,109,101,114,105,99]⟩) (Iv d b "IsFloat" #[] λ a d=>Nt d a λ a=>aH d a (λ a c=>a b c) λ b d=>aH d a (λ a c=>Iv c b "IsInt" #[] λ b c=>a b c) λ b d=>aH d a (λ a c=>Nt c b λ b=>a b c) λ b d=>Pk a b bf λ a=>Cd a (Cf d 194 #[dO 0x6578706563746564206e756d657269632028696e74206f7220666c6f6174292c20676f74] λ a b=>R a b) (c d)) (ce d 352 a (aU ⟨#[115,116,114,105,110,103]⟩) (Iv d b "IsString" #[] λ a b=>cD b a (Cf b 194 #[dO 0x657870656374656420737472696e672c20676f74] λ a b=>R a b) (c b)) (ce d 352 a (aU ⟨#[98,111,111,108,101,97,110]⟩) (Iv d b "IsBool" #[] λ a b=>cD b a (Cf b 194 #[dO 0x657870656374656420626f6f6c65616e2c20676f74] λ a b=>R a b) (c b)) (ce d 352 a (aU ⟨#[117,110,116,121,112,101,100]⟩) (Iv d b "IsFloat" #[] λ a d=>Nt d a λ a=>aH d a (λ a c=>a b c) λ d e=>aH e a (λ a b=>Iv b d "IsInt" #[] λ b c=>a b c) λ d e=>aH e a (λ a b=>Nt b d λ c=>a c b) λ d e=>Pk a d bf λ a=>aH e a (λ a c=>a b c) λ d e=>aH e a (λ a b=>Iv b d "IsString" #[] λ b c=>a b c) λ d e=>aH e a (λ a b=>Nt b d λ c=>a c b) λ d e=>Pk a d bf λ a=>aH e a (λ a c=>a b c) λ b d=>aH d a (λ a c=>Iv c b "IsBool" #[] λ b c=>a b c) λ b d=>aH d a (λ a c=>Nt c b λ b=>a b c) λ b d=>Pk a b bf λ a=>Cd a (Cf d 194 #[dO 0x657870656374656420616e79207363616c61722c20676f74] λ a b=>R a b) (c d)) (Cf d 194 #[dO 0x756e6578706563746564207363616c6172207479706520696e20736368656d61] λ a b=>R a b)))))))))->Cf h 387 #[a,b,c] R:=mS Tryz.func387 (Z (Q cg (Q cg (Y [] (Z (B (Z (C cg (Z (C cg (Z (C cg (Z (C cg bG)))))))))) bG))))
def Tz:(Al h 369 λ e f=>aM f 354 c 1 240 λ g=>bx f 240 g (aU ⟨#[97,115,115,111,99,105,97,116,105,118,101]⟩) (Bd f 369 #[] λ a=>Cf f 91 #[dO 0x696e76616c696420696e646578696e67206f66206e6f6e2d6173736f63696174697665206c697374] λ b c=>Sr c 369 e a λ a=>Rv a 369 e λ c=>R (bj c b) a) (aM f 354 c 2 32 λ g=>Ln f 32 g λ g=>bv f .gtr 3 g i0 (Cf f 336 #[a,b,c,d] λ a b=>aW a λ a c=>Sr b 369 e a λ a=>Rv a 369 e λ b=>R (bj b c) a) (Cf f 337 #[d] λ a b=>aW a λ a c=>Sr b 369 e a λ a=>Rv a 369 e λ b=>R (bj b c) a)))->Cf h 332 #[a,b,c,d] R:=mS Tryz.func332 Ew
def SY:(Bx h 228 a λ a b=>Al b 369 λ b c=>Bd c 369 #[] λ d=>bH c 369 d λ c d=>Ld d 228 a λ e=>Iv d e "IsMap" #[] λ d e=>Cd d (Ld e 369 c λ a=>Cf e 91 #[dO 0x6173736f63696174697665206c69737420776974686f7574206b6579732068617320616e20656c656d656e74207468617427732061206d61702074797065] λ d e=>bh e 369 c a/\(Sr e 369 b a λ a=>Rv a 369 b λ b=>R (bj b d) a)) (Ld e 228 a λ d=>Iv e d "IsList" #[] λ d e=>Cd d (Ld e 369 c λ a=>Cf e 91 #[dO 0x6e6f7420737570706f727465643a206173736f63696174697665206c6973742077697468206c6973747320617320656c656d656e7473] λ d e=>bh e 369 c a/\(Sr e 369 b a λ a=>Rv a 369 b λ b=>R (bj b d) a)) (Ld e 228 a λ d=>Iv e d "IsNull" #[] λ d e=>Cd d (Ld e 369 c λ a=>Cf e 91 #[dO 0x6173736f63696174697665206c69737420776974686f7574206b6579732068617320616e20656c656d656e742074686174277320616e206578706c69636974206e756c6c] λ d e=>bh e 369 c a/\(Sr e 369 b a λ a=>Rv a 369 b λ b=>R (bj b d) a)) (Fa e 369 c 2 λ d=>Sr e 366 d a λ a=>Ld a 369 c λ c=>Sr a 369 b c λ a=>Rv a 369 b λ b=>R (bj b ni) a))))->Cf h 337 #[a] R:=mS Tryz.func337 (Z (Z (B (Z (C kW (Z (C kW (Z (C kW cX)))))))))
def SX:(Al h 273 λ b c=>Mz c 271 i0 a λ a c=>Bd c 273 #[(0,a)] λ a=>Sr c 273 b a λ a=>Rv a 273 b λ b=>R b a)->Cf h 331 #[a] R:=mS Tryz.func331 cX
abbrev lN:Kd->String|.sc=>hC|.li=>gI|.ma=>gJ
theorem gX(Z:aN I h){r:Kd}(f:x.length=6)(L:∀U,aD I h I U->Iv U a (lN r) #[.pointer (some A)] R):Cf h 236 #[.agg (dQ r A).toArray,.agg x.toArray,a] R:=by cases r;all_goals refine TM (rA ?_);exact L _ (aP Z)
def ij(T:aK)(A:Value)(C:bW)(k:Kd)(a:Addr):Prop:=C.length=6/\(∀S∈C,aG S=true)/\∀{h:Heap}{R:KV},aN T h->(∀U,aD T h T U->R (bj (.agg (dQ k a).toArray) bt) U)->Cf h 219 #[A,.agg C.toArray] R
theorem hB{r:Kd}:ij I a (ef r A) r A:=⟨zcd,by cases r<;>simp[ef,dQ,cn,cB],λ Z L=>uP Z L⟩
theorem kB(s:dr I a A)(D:cU I bT ⟨m,0,none⟩):ij I a (dc m) .ma A:=⟨rfl,by simp[dc,cn,cB],λ Z L=>uS Z s D L⟩
theorem jI(O:x.length=6):∃a b c d e f,x=[a,b,c,d,e,f]:=by match x,O with|[a,b,c,d,e,f],_=>exact⟨a,b,c,d,e,f,rfl⟩
theorem d9(Z:aN I h){C:bW}{o:Kd}{B:Addr}(w:ij I b C o B)(z:jW I c)(L:∀U,aD I h I U->Iv U d (lN o) #[.pointer (some B)] R):Cf h 217 #[b,.agg C.toArray,c,d] R:=by obtain⟨f,y,S⟩:=w;obtain⟨p,v,P,r,q,D,rfl⟩:=jI f;have Y:=y p zab;have X:=y v zab;have f:=y P zab;have W:=y r zab;have m:=y q zab;have l:=y D zab;cases o with|sc=>refine C2 (rA ?_);refine S (show aD I h I _ from aP Z).sat λ N i=>?_;have C:aD I h I N:=aC.trans (aP Z) i;have g:=i.size;(try simp only[bJ]at g);have H:blk N h.size=aE #[p,v,P,r,q,D] 95:=i.blk Bk id;refine rA ?_;refine gW (r:=.sc) (A:=B) (show aD I h I _ from bX Z C).sat z λ K t=>?_;have n:aD I h I K:=aC.trans (bX Z C) t;have e:=t.size;(try simp only[bJ]at e);have J:blk K h.size=aE #[p,v,P,r,q,D] 95:=t.blk (bz H) id;have E:blk K N.size=aE (dQ .sc B).toArray 92:=t.blk Bk id;refine rC J.c E.b ?_;refine gX (r:=.sc) (A:=B) (x:=[p,v,P,r,q,D]) (show aD I h I _ from bX Z n).sat rfl λ Q j=>?_;exact zcT|li=>refine C2 (rA ?_);refine S (show aD I h I _ from aP Z).sat λ N i=>?_;have C:aD I h I N:=aC.trans (aP Z) i;have g:=i.size;(try simp only[bJ]at g);have H:blk N h.size=aE #[p,v,P,r,q,D] 95:=i.blk Bk id;refine rA ?_;refine gW (r:=.li) (A:=B) (show aD I h I _ from bX Z C).sat z λ K t=>?_;have n:aD I h I K:=aC.trans (bX Z C) t;have e:=t.size;(try simp only[bJ]at e);have J:blk K h.size=aE #[p,v,P,r,q,D] 95:=t.blk (bz H) id;have E:blk K N.size=aE (dQ .li B).toArray 92:=t.blk Bk id;refine rC J.c E.b ?_;refine gX (r:=.li) (A:=B) (x:=[p,v,P,r,q,D]) (show aD I h I _ from bX Z n).sat rfl λ Q j=>?_;exact zcT|ma=>refine C2 (rA ?_);refine S (show aD I h I _ from aP Z).sat λ N i=>?_;have C:aD I h I N:=aC.trans (aP Z) i;have g:=i.size;(try simp only[bJ]at g);have H:blk N h.size=aE #[p,v,P,r,q,D] 95:=i.blk Bk id;refine rA ?_;refine gW (r:=.ma) (A:=B) (show aD I h I _ from bX Z C).sat z λ K t=>?_;have n:aD I h I K:=aC.trans (bX Z C) t;have e:=t.size;(try simp only[bJ]at e);have J:blk K h.size=aE #[p,v,P,r,q,D] 95:=t.blk (bz H) id;have E:blk K N.size=aE (dQ .ma B).toArray 92:=t.blk Bk id;refine rC J.c E.b ?_;refine gX (r:=.ma) (A:=B) (x:=[p,v,P,r,q,D]) (show aD I h I _ from bX Z n).sat rfl λ Q j=>?_;exact zcT
theorem lF(Z:aN I h)(B:aG a=true)(L:∀U,aD I h I U->R (.iface 586 a) U):Cf h 349 #[.agg #[.iface 242 a],b] R:=by refine Tc (rA ?_);refine⟨_,λ _ W=>W,?_⟩;refine rA ?_;exact zaC
theorem km(Z:aN I h)(L:∀U,aD I h I U->R (.iface 585 a) U):Cf h 347 #[.agg #[.iface 241 a],b] R:=by refine Q8 (rA ?_);exact zaC
theorem lx(Z:aN I h){al:Value}{x:Option Nat}(p:PV I a (.iface 242 (.map x)))(L:∀U,aD I h I U->R (bj (.iface 586 (.map x)) ni) U):Cf h 329 #[al,a] R:=by
 obtain⟨u,C,rfl,j⟩:=p;refine Ir (rB (Z _ _ j).c ?_);refine f6 Z .map λ N P=>?_;have W:=P.sat;refine rB (W _ _ j).c ?_;refine gK W .map λ K r=>?_;have i:=r.sat;try simp(disch:=omega)only[go_sem,↓reduceIte,aA (i _ _ j),dz]
 refine lF i rfl λ t q=>rA ?_;exact L _ ((P.trans r).trans q)
theorem yg(Z:aN I h){al:Value}(p:PV I a ni)(L:∀U,aD I h I U->R (bj ni ni) U):Cf h 329 #[al,a] R:=by obtain⟨u,C,rfl,j⟩:=p;refine Ir (rB (Z _ _ j).c ?_);refine f6 Z .nil λ N P=>rA ?_;exact L _ P
theorem j6(Z:aN I h){al:Value}(p:PV I a (.iface 241 b))(L:∀U,aD I h I U->R (bj (.iface 585 b) ni) U):Cf h 327 #[al,a] R:=by
 obtain⟨u,C,rfl,j⟩:=p;refine Hc (rB (Z _ _ j).c ?_);refine f6 Z .lst λ N P=>?_;have W:=P.sat;refine rB (W _ _ j).c ?_;refine fQ W .lst λ K r=>?_;have i:=r.sat;try simp(disch:=omega)only[go_sem,↓reduceIte,aA (i _ _ j),dz]
 refine km i λ t q=>rA ?_;exact L _ ((P.trans r).trans q)
theorem GB:(ic.toList==(⟨#[110,117,109,101,114,105,99]⟩:bF).toList)=false:=zag
theorem fi(Z:aN I h)(Y:cU I ic A)(p:a=ni\/PV I a (bE S))(L:∀U,aD I h I U->R n0 U):Cf h 387 #[.pointer (some A),a,b] R:=by
 obtain⟨w,j,rfl,e⟩:=Y;rcases p with rfl|⟨u,C,rfl,j⟩
 ·refine Jx (rA ?_);exact L _ (aC.refl Z)
 ·refine Jx (rB (Z _ _ j).c ?_);refine f6 Z .str λ N P=>?_;have W:=P.sat;refine rA ?_;refine⟨_,λ _ K=>K,?_⟩;refine rD (W _ _ j).c (W _ _ e).c @GB ?_;refine ew W .str λ K r=>?_;try simp(disch:=omega)only[go_sem,↓reduceIte,dz]
  exact L _ (P.trans r)
theorem xp(Z:aN I h)(p:PV I a (bE S))(L:∀w v U,aD I h v U->bM v w (.val S)->R (bj (.agg w.toArray) ni) U):Cf h 337 #[a] R:=by
 have E:=p;obtain⟨u,C,rfl,j⟩:=p;have o:=Z.dom j;refine SY (rB (Z _ _ j).c ?_);refine gK (show aD I h I _ from aP Z).sat .str λ N P=>?_;have C:aD I h I N:=aC.trans (aP Z) P;have g:=P.size;(try simp only[bJ]at g);have b0:blk N h.size=aE #[.iface 362 (aB u)] 228:=P.blk Bk id;have x:blk N (h.size+1)=aE #[nilp,nilp,nilp,nilp] 369:=P.blk Bk id;have H:blk N (h.size+2)=aE #[nilp,nilp,nilp,nilp] 369:=P.blk Bk id;have W:=C.sat;try simp(disch:=omega)only[go_sem,↓reduceIte,dz,aA b0,aA (W _ _ j)]
 refine fQ W .str λ K r=>?_;have n:=C.trans r;have i:=n.sat;have e:=r.size;have v:=r.blk b0 id;have w:=r.blk x id;have F:=r.blk H id;try simp(disch:=omega)only[go_sem,↓reduceIte,dz,aA v,aA (i _ _ j)]
 refine f6 i .str λ t q=>?_;have B:=n.trans q;have O:=B.sat;have z:=q.size;have a:=q.blk v id;have V:=q.blk w id;have X:=q.blk F id;refine rC V.b X.b ?_;have f:=aC.one (show aD I h I (aO (aO (aO (aO (aO t (h.size+2) 2 (aB h.size)) (h.size+1) 0 nilp) (h.size+1) 1 nilp) (h.size+1) 2 (aB h.size)) (h.size+1) 3 nilp)from bX Z B) (b:=h.size) bu;refine L [nilp,nilp,aB h.size,nilp] _ _ f.1 ⟨rfl,h.size,rfl,228,_,aK.one_eq (bz a),E.mono f.2⟩
theorem en(Z:aN I h){al:Value}(Y:cO I A)(p:PV I b (bE S))(L:∀w v U,aD I h v U->bM v w (.val S)->R (bj (.agg w.toArray) ni) U):Cf h 332 #[al,a,.pointer (some A),b] R:=by
 obtain⟨X,⟨u,C,rfl,j⟩,-⟩:=Y;have P:=At.of Z j;have R:aI h u 6=some (aU fb):=by have:=P 6 (aU fb) rfl;exact zai
 have i:aI h u 7=some n0:=by have:=P 7 n0 rfl;exact zai
 have o:=Z.dom j;apply Tz;try simp(disch:=omega)only[go_sem,↓reduceIte,R,i,bne_self_eq_false]
 refine xp (show aD I h I _ from aP Z).sat p λ w z N P e=>?_;have C:aD I h z N:=aC.trans (aP Z) P;have g:=P.size;(try simp only[bJ]at g);have H:blk N h.size=aE #[nilp,nilp,nilp,nilp] 369:=P.blk Bk id;have c:z h.size=none:=by rw[P.dom _ (by(try simp only[bJ]);exact zaa) id];exact Z.fresh bu
 have d:=e;have v:=e.one;refine Exists.elim (cL e.1) λ u W=>Exists.elim W λ q W=>Exists.elim W λ O W=>Exists.elim W λ J W=>?_;have Y:=v u (by rw[W];exact zab);have X:=v q (by rw[W];exact zab);have f:=v O (by rw[W];exact zab);have G:=v J (by rw[W];exact zab);refine rG H.b W Y X f G ?_;refine L [u,q,O,J] z _ ?_ (W▸d);exact aC.put (aC.put (aC.put (aC.put C (.inl bu) c) (.inl bu) c) (.inl bu) c) (.inl bu) c
theorem O0:dK 346 m4=some 186:=zag
theorem Ke:dK 346 yj=some 342:=zag
@[go_sem] theorem VU{B:cQ}:Iv h (.iface 346 a) m4 B R=Cf h 186 (#[a]++B) R:=dH O0
@[go_sem] theorem VJ{B:cQ}:Iv h (.iface 346 a) yj B R=Cf h 342 (#[a]++B) R:=dH Ke
theorem dW{B:Option Addr}(L:R (aR m) h):Cf h 465 #[.slice B m n] R:=by refine Ud (rA ?_);exact L
theorem jU(Z:aN I h)(i:cd I a 1 z.length (z.map bE))(d:m<z.length)(L:∀J v U,aD I h v U->PV v J (bE z[m])->R J U):Cf h 461 #[a,aR m] R:=by obtain⟨F,V,rfl,t,-,D,-,k⟩:=i;obtain⟨u,s,rfl,r⟩:=k zaa;have g:=Z.cell (r m (bE z[m]) (by simp[d]));refine SV (rB g ?_);exact gn Z rfl L
theorem iJ(Z:aN I h)(L:∀U,aD I h I U->blk U h.size=aE #[ni] 432->R (aB h.size) U):Cf h 186 #[a] R:=by refine H5 (rA ?_);exact L _ (aP Z) Bk
theorem iB(j:blk h m=aE #[b] n)(l:aG a=true)(L:R (.iface 362 (aB m)) (aO h m 0 a)):Cf h 187 #[aB m,a] R:=by refine Hm (rC j.b l ?_);exact L
theorem qZ(Z:aN I h)(i:cd I a 1 z.length (z.map bE))(d:n<z.length)(L:∀J v U,aD I h v U->PV v J (bE z[n])->R J U):Cf h 462 #[a,co m,aR n] R:=by obtain⟨F,V,rfl,t,-,D,-,k⟩:=i;obtain⟨u,s,rfl,r⟩:=k zaa;have g:∀{N},aN I N->aI N u (s+n)=some (bE z[n]):=λ W=>W.cell (r n (bE z[n]) (by simp[d]));refine SU (rB (g Z) ?_);refine iJ Z λ N P H=>rB (g P.sat) ?_;refine iB H rfl ?_;have f:=aC.one (show aD I h I (aO N h.size 0 (bE z[n]))from bX Z P) (b:=h.size) bu;exact L _ _ _ f.1 ⟨h.size,432,rfl,aK.one_eq (bz H)⟩
def DX:(Ln h 586 a λ d=>ce h 3 d i0 (R (.bool true) h) (Iv h b m4 #[] λ d e=>Nc b<|Mi e 362 d λ f=>Rn e 586 a λ a e=>Lp (∃(g:V0)(i:N0),g e/\∀e,g e->(Nx e a false 0 λ j k=>Ex j 0 λ j=>Cd j (Et k a λ a j=>aW a λ a k=>Cf j 187 #[d,k] λ d j=>Cv j c #[a,d] λ a c=>cD c a (Dg c (cH b f) λ a=>R (.bool false) a) (g c/\i c<i e)) (Dg k (cH b f) λ a=>R (.bool true) a)))))->Cf h 477 #[a,b,c] R:=mS Tryz.func477 (Z (Q cg (Z (Z (Q (Z (B (O [] (Z (Q d8 (B mM)))))) bG)))))
def Jm:(Bd h 348 #[] λ c=>Bx h 348 c λ c d=>Mi d 346 c λ c=>Cf d 477 #[a,c,b] λ a b=>R a b)->Cf h 476 #[a,b] R:=mS Tryz.func476 cX
theorem wN(W:P.underlying m=some (.map n o)){E:World}(M:E.heap=h){g:fP}(B:cJ h l=some (g,t)):(Builtin.len_ #[m] 3 #[.map (some l)]).run P E=.ok (aR g.size) E:=by unfold Builtin.len_;simp[Sem.run_bind,bD W,fK M B,goInt]
theorem g4(W:P.underlying m=some (.map n o)){g:fP}(B:cJ h l=some (g,t)){T:Value->Prop}:Ln h m (.map (some l)) T=T (aR g.size):=cV λ E M=>wN W M B
def jq(h:Heap)(b:Nat):Nat:=match blk h b with|some (.mapIter _ _ A _)=>A.size|_=>0
theorem dX{s:fx}(r:df h m n o s):jq h m=s.length:=by unfold jq;rw[show blk h m=_ from r];exact zab
abbrev eA(G:Value):g8:={key:=aU bA,val:=G,born:=0}
theorem jh(G:Value):cP (#[eA G]:fP).toList 1:=⟨zcO,zab,zab,zab⟩
theorem gA{g:Nat->Prop}(Z:aN I h)(w:I m=some (.map #[eA a] 1))(l:aG a=true)(q:∀k,g k->k<h.size)(V:∀J A y,aD I h A y->PV A J a->∀T:KV,(∀z N,aC g A y z N->R bt N->T bt N)->Cv y c #[aU bA,J] T):Cf h 477 #[.map (some m),co n,c] R:=by
 have u:=Z.dom w;apply DX;try simp(disch:=omega)only[go_sem,↓reduceIte,g4 Tryz.underlying586 (bI (Z _ _ w))]
 refine iJ Z λ y v x=>?_;have X:=v.sat;have o:=v.size;have P:=aF x;try simp(disch:=omega)only[go_sem,↓reduceIte,hX Tryz.underlying586 (bI (X _ _ w))]
 refine⟨λ K=>(df K y.size m 1 []/\aD I h I K/\blk K h.size=aE #[ni] 432)\/(df K y.size m 1 [eA a]/\cJ K m=some (#[eA a],1)/\R bt K),λ K=>1-jq K y.size,.inl ⟨df.new,bX Z v,bz x⟩,?_⟩;rintro K(⟨r,E,D⟩|⟨r,B,L⟩)
 ·have i:=E.sat;refine im (bI (i _ _ w)) (jh a) r (λ o=>absurd (o (eA a) zab) zab) λ C x e t R j F=>?_;have s:C=eA a:=bS x;have U:=E.size;have A:I y.size=none:=by cases i:I y.size with|none=>rfl|some U=>exact absurd (Z.dom i) zaa
  have S:aD I h I t:=gf E (.inl zaa) A R j;have O:=S.sat;have p:blk t h.size=aE #[ni] 432:=(j _ zaa).trans D;have d:C.key=aU bA:=by rw[s]
  have ev:C.val=a:=by rw[s]
  try simp(disch:=omega)only[go_sem,↓reduceIte,jk (bI (O _ _ w)) (jh a) x F,d,ev]
  refine iB p l ?_;have f:=aC.one (show aD I h I (aO t h.size 0 a)from bX Z S) (b:=h.size) bu;refine V _ (I.one h.size (aO t h.size 0 a)) (aO t h.size 0 a) f.1 ⟨h.size,432,rfl,aK.one_eq (bz p)⟩ _ λ z N d H=>?_;have M:df (aO t h.size 0 a) y.size m 1 [C]:=by show blk _ _=_;rw[bO,if_neg zaa];exact F
  have Q:=M.step d λ G=>cW (q _ G);have Y:cJ N m=some (#[eA a],1):=bI (d.sat _ _ (d.le _ _ (f.2 _ _ w)));refine rA ?_;refine⟨.inr ⟨s▸Q,Y,H⟩,?_⟩;rw[dX Q,dX r];show 1-1<1-0;exact zaE
 ·refine im B (jh a) r (λ _=>?_) λ C x e t R j F=>absurd x (by intro x;have s:C=eA a:=bS x;exact e (by rw[s];exact zab));refine rA ?_;refine cG ?_;exact L
def Dd:(Bx h 95 b λ b c=>Lp (∃d:V0,(∀c,d c->(Lp (∃d:V1,(∀c e,d c e->(Nc a<|Ld e 430 a λ a=>Nc c<|Sr e 430 c a λ a=>Ld a 95 b λ b=>bC a 430 c 2 95 b λ a=>R c a))/\(aM c 430 a 4 428 λ b=>Nc b<|Ld c 650 b λ b=>Ln c 650 b λ b=>bv c .gtr 3 b i0 (aM c 430 a 4 428 λ e=>aM c 430 a 4 428 λ f=>Nc f<|Ld c 650 f λ f=>Bi c .sub 3 b i1 λ g=>Ia c 650 f g λ f=>Ld c 426 f λ f=>aM c 430 a 4 428 λ a=>Nc a<|Ld c 650 a λ a=>Bi c .sub 3 b i1 λ b=>Sl c 650 a none (some b) none λ a=>Nc e<|Sr c 650 e a λ a=>d f a) (Bd c 430 #[] λ a=>Bx c 430 a λ a b=>d a b)))))/\(aM c 430 a 4 428 λ b=>ce c 428 b nilp (Bs c 650 0 #[] λ b c=>Bx c 650 b λ b c=>bC c 430 a 4 428 b λ a=>d a) (d c))))->Cf h 447 #[a,b] R:=mS Tryz.func447 (Z (Y [] cF (Z (Y [5] Bt iO))))
def G5:(bg h 430 a 4 λ c=>Ld h 428 c λ d=>bg h 430 a 4 λ e=>Ld h 428 e λ f=>Nc f<|Ld h 650 f λ g=>Bs h 650 1 #[(0,b)] λ b i=>aX i 430 a 4 c 428 d<|aX i 430 a 4 e 428 f<|fY i 650 f g<|(Ap i 650 g b λ b e=>aX e 430 a 4 c 428 d<|(Nc d<|Sr e 650 d b λ a=>R (.tuple #[]) a)))->Cf h 448 #[a,b] R:=mS Tryz.func448 Hw
structure eC(T L E size base:Nat)(I:aK)(h:Heap)(sb:Nat)(x:Value)(ws:cK):Prop where
 bk:blk h sb=aE #[x] L
 own:aQ base I h E 1 x ws.length (ws.map aB)
 each:∀w∈ws,(∃cs,blk h w=aE cs T/\cs.size=size)/\base<=w/\I w=none/\w≠sb/\x.ownBlock≠some w
 sbI:I sb=none
 sbb:base<=sb
 sx:x.ownBlock≠some sb
 nd:ws.Nodup
theorem eC.step{L:Nat}{D:Nat->Prop}{I':aK}(B:eC m L n o l I h t a K)(E:aC D I h I' H)(y:¬D t)(N:∀g,a.ownBlock=some g->¬D g)(Q:∀V∈K,¬D V):eC m L n o l I' H t a K where
 bk:=E.blk B.bk y
 own:=B.own.step E N
 each:=λ V M=>by obtain⟨⟨H,w,F⟩,m,X,d,R⟩:=B.each V M;exact⟨⟨H,E.blk w (Q V M),F⟩,m,(E.dom _ (aF w) (Q V M)).trans X,d,R⟩
 sbI:=(E.dom _ (aF B.bk) y).trans B.sbI
 sbb:=B.sbb
 sx:=B.sx
 nd:=B.nd
abbrev fA(J A:Value)(C:bW)(u:Bool)(d al:Value):bW:=[J,A]++C++[.bool u,d,al]
theorem y9(O:x.length=11):∃a b c d e f g i j k H,x=[a,b,c,d,e,f,g,i,j,k,H]:=by match x,O with|[a,b,c,d,e,f,g,i,j,k,H],_=>exact⟨a,b,c,d,e,f,g,i,j,k,H,rfl⟩
theorem zp(Z:aN I h){al:Value}{u:Bool}(M:blk h n=aE (fA a b x u (aB o) al).toArray 430)(d:eC 430 650 426 11 m I h o c [])(Q:x.length=6)(e:w.length=6)(X:∀S∈fA a b x u (aB o) al,aG S=true)(f:∀S∈w,aG S=true)(L:∀O U,aD I h I U->h.size<=O->blk U O=aE (fA a b w u (aB o) al).toArray 430->R (aB O) U):Cf h 447 #[aB n,.agg w.toArray] R:=by
 obtain⟨p,v,P,r,q,D,rfl⟩:=jI Q;obtain⟨A,T,H,j,U,C,rfl⟩:=jI e;obtain⟨t,Q,rfl⟩:∃B t,c=.slice B 0 t:=d.own.slK λ B t l=>⟨B,t,l⟩;have g:blk h n=aE #[a,b,p,v,P,r,q,D,.bool u,aB o,al] 430:=M;have i:=aF M;have s:=aF d.bk;have x:=X a zab;have S:=X b zab;have y:=X p zab;have w:=X v zab;have Y:=X P zab;have k:=X r zab;have z:=X q zab;have O:=X D zab;have R:=X al zab;have F:=f A zab;have N:=f T zab;have l:=f H zab;have c:=f j zab;have r:=f U zab;have G:=f C zab;refine Dd (rA ?_);refine⟨_,λ _ W=>W,?_⟩;refine rB g.c ?_;refine⟨_,λ _ _ W=>W,?_⟩;try simp(disch:=omega)only[go_sem,↓reduceIte,aA g,aA d.bk,x,S,y,w,Y,k,z,O,R,F,N,l,c,r,G,cB,cn]
 exact L _ _ (aP Z) zaa (by show blk _ _=aE #[a,b,A,T,H,j,U,C,.bool u,aB o,al] 430;exact Bk)
theorem AG(Z:aN I h){al:Value}{u:Bool}(M:blk h m=aE (fA a b x u nilp al).toArray 430)(G:I m=none)(Q:x.length=6)(e:w.length=6)(X:∀S∈fA a b x u nilp al,aG S=true)(f:∀S∈w,aG S=true)(L:∀O l p U,aC (Eq m) I h I U->h.size<=O->h.size<=l->O≠l->blk U m=aE (fA a b x u (aB l) al).toArray 430->blk U O=aE (fA a b w u (aB l) al).toArray 430->eC 430 650 426 11 h.size I U l p []->p.ownBlock≠some O->R (aB O) U):Cf h 447 #[aB m,.agg w.toArray] R:=by
 obtain⟨p,v,P,r,q,D,rfl⟩:=jI Q;obtain⟨A,T,H,j,U,C,rfl⟩:=jI e;have g:blk h m=aE #[a,b,p,v,P,r,q,D,.bool u,nilp,al] 430:=M;have i:=aF M;have x:=X a zab;have S:=X b zab;have y:=X p zab;have M:=X v zab;have Y:=X P zab;have k:=X r zab;have V:=X q zab;have d:=X D zab;have R:=X al zab;have F:=f A zab;have N:=f T zab;have l:=f H zab;have c:=f j zab;have z:=f U zab;have B:=f C zab;refine Dd (rA ?_);refine⟨_,λ _ W=>W,?_⟩;refine rB g.b ?_;refine⟨_,λ _ _ W=>W,?_⟩;try simp(disch:=omega)only[go_sem,↓reduceIte,aA g,x,S,y,M,Y,k,V,d,R,F,N,l,c,z,B,cB,cn]
 have W:aC (Eq m) I h I h:=aC.refl Z;refine L _ (h.size+2) (bq (h.size+1) 0 0 0) _ (dv Z W G) zaa zaa zaa ?_ ?_ ⟨Bk,aQ.empty zaa zaP (Z.fresh zaa),zab,Z.fresh zaa,zaa,?_,zab⟩ ?_
 ·show blk _ _=aE #[a,b,p,v,P,r,q,D,.bool u,aB (h.size+2),al] 430;repeat rw[bO,if_neg zaa]
  rw[cq,if_neg (by(try simp only[bJ]);exact zaa),bO,if_pos rfl,cq,if_neg (by(try simp only[bJ]);exact zaa),cq,if_neg (by(try simp only[bJ]);exact zaa),cq,if_neg zaa,g];rfl
 ·show blk _ _=aE #[a,b,A,T,H,j,U,C,.bool u,aB (h.size+2),al] 430;exact Bk
 ·intro F;simp only[Value.ownBlock,Option.some.injEq]at F;exact zaa
 ·intro F;simp only[Value.ownBlock,Option.some.injEq]at F;exact zaa
theorem Hj{D:Int}{r:IntKind}{T:Value->Prop}(K:0<=D/\D<=n):Sl h 650 (bq o l m n) none (some (.int r D)) none T=T (bq o l D.toNat n):=iW Tryz.underlying650 KE K
theorem zO(Z:aN I h){J al:Value}{u:Bool}(M:blk h n=aE (fA J a x u (aB o) al).toArray 430)(d:eC 430 650 426 11 m I h o b [l])(t:n≠l)(P:n≠o)(Q:x.length=6)(W:w.length=6)(X:∀l∈fA J a x u (aB o) al,aG l=true)(f:∀l∈w,aG l=true)(L:∀s U,aC (λ k=>k=l\/k=o) I h I U->blk U l=aE (fA J a w u (aB o) al).toArray 430->eC 430 650 426 11 m I U o s []->s.ownBlock=b.ownBlock->R (aB l) U):Cf h 447 #[aB n,.agg w.toArray] R:=by
 obtain⟨⟨H,O,b⟩,y,i,w,c⟩:=d.each l zab;obtain⟨P,V,w,rfl,U,j,a0,a1,t,N,a2⟩:=d.own.at zab;have m:aI h P 0=some (aB l):=by
  rw[aA j,<-Array.getElem?_toList];have:(w.toList.take (1*1))[0]?=some (aB l):=by have C:[l].length*1=1*1:=rfl;rw[C]at N;rw[N];rfl
  rw[List.getElem?_take]at this;exact zai
 have q:=y9 (x:=H.toList) (bS b);obtain⟨A,R,g,e,z,D,N,s,K,Y,E,r⟩:=q;have T:blk h l=aE #[A,R,g,e,z,D,N,s,K,Y,E] 430:=by rw[O];congr 2;exact Array.toList_inj.1 r
 obtain⟨p,F,B,r,q,D,rfl⟩:=jI Q;obtain⟨Q,E,e,b,A,y,rfl⟩:=jI W;have g:blk h n=aE #[J,a,p,F,B,r,q,D,.bool u,aB o,al] 430:=M;have x:=aF M;have s:=aF d.bk;have x:=X J zab;have S:=X a zab;have s:=X p zab;have n:=X F zab;have Y:=X B zab;have H:=X r zab;have K:=X q zab;have p:=X D zab;have R:=X al zab;have F:=f Q zab;have N:=f E zab;have X:=f e zab;have D:=f b zab;have r:=f A zab;have G:=f y zab;have z:=aF O;have O:blk h o=aE #[bq P 0 1 V] 650:=d.bk;have f:aI h P 0=some (aB l):=m;have q:1<=V:=a0;have M:=aF j;have m:P≠l:=λ C=>c (by rw[C];rfl);have B:P≠o:=λ C=>d.sx (by rw[C];rfl);refine Dd (rA ?_);refine⟨_,λ _ W=>W,?_⟩;refine rB g.c ?_;refine⟨_,λ _ _ W=>W,?_⟩;try simp(disch:=omega)only[go_sem,↓reduceIte,aA g,aA O,aS O,f,Hj,aA T,aS T,x,S,s,n,Y,H,K,p,R,F,N,X,D,r,G,cB,cn,bZ]
 have W:aC (λ k=>k=l\/k=o) I h I h:=aC.refl Z;refine L (bq P 0 0 V) _ ?_ ?_ ⟨?_,⟨⟨zab,.inr ⟨P,V,w,rfl,U,?_,Nat.zero_le _,a1,t,zab⟩⟩,λ q B=>by cases B;exact a2⟩,zab,d.sbI,d.sbb,d.sx,zab⟩ rfl
 ·repeat'(first|with_reducible exact W|with_reducible refine aC.push ?_ _|with_reducible refine aC.put ?_ (Or.inr (Or.inl rfl)) i|with_reducible refine aC.put ?_ (Or.inr (Or.inr rfl)) d.sbI)
 ·show blk _ _=aE #[J,a,Q,E,e,b,A,y,.bool u,aB o,al] 430;exact bz T
 ·repeat rw[bO,if_neg zaa]
  rw[bO,if_pos rfl,cq,if_neg zaa,O];rfl
 ·show blk _ _=_;repeat rw[bO,if_neg zaa]
  rw[cq,if_neg zaa];exact j
theorem Bp(Z:aN I h){H y:cQ}(M:blk h n=aE H 430)(Y:H[9]?=some (aB l))(d:eC 430 650 426 11 m I h l a [])(N:blk h t=aE y 430)(q:y.size=11)(V:I t=none)(c:m<=t)(P:t≠l)(v:a.ownBlock≠some t)(i:n≠l)(x:a.ownBlock≠some n)(r:m<=h.size)(L:∀s U,aC (λ k=>k=l\/a.ownBlock=some k) I h I U->eC 430 650 426 11 m I U l s [t]->(s.ownBlock=a.ownBlock\/∃g,s.ownBlock=some g/\h.size<=g)->R (.tuple #[]) U):Cf h 448 #[aB n,aB t] R:=by
 have A:H[9]?=some (aB l):=Y;have p:=aF M;have U:=aF d.bk;have w:=aF N;have W:=d.own.one;refine G5 (rD M.c d.bk.c A ?_);refine bY pF rfl zaa zaa (H:=#[aB t]) Bk (d.own.push _) (show aD I h I _ from aP Z).sat rfl zbg zab (by(try simp only[bJ]);exact zaa) λ s K W r i J=>?_;have T:aC (λ k=>a.ownBlock=some k) I h I K:=aC.touch (show aC (λ k=>a.ownBlock=some k) I h I _ from aP Z) r λ g z=>⟨.inr z,d.own.2 g z⟩;have B:=T.blk d.bk d.sx;have O:=W.one;have j:=T.blk M x;refine rD j.c B.b A ?_;have f:∀g,s.ownBlock=some g->a.ownBlock=some g\/h.size<=g:=λ g z=>by
  rcases J with Q|⟨w,Q,p⟩
  ·exact .inl (Q▸z)
  ·rw[Q]at z;cases z;(try simp only[bJ]at p);exact .inr zaa
 have e:∀g,s.ownBlock=some g->g≠l/\g≠t:=λ g z=>by
  rcases f g z with Q|Q
  ·exact⟨λ C=>d.sx (C▸Q),λ C=>v (C▸Q)⟩
  ·exact⟨zaa,zaa⟩
 have D:=T.blk N v;refine L s _ (aC.put (T.weak λ _ _=>.inr) (.inr (.inl rfl)) d.sbI) ⟨?_,?_,?_,d.sbI,d.sbb,λ F=>(e _ F).1 rfl,zab⟩ ?_
 ·rw[bO,if_pos rfl,B];rfl
 ·have:=W.put2 (t:=l) (u:=0) (b:=s) λ g z=>(e g z).1;exact zai
 ·intro E G;exact zbH
 ·rcases J with Q|⟨w,Q,p⟩
  ·exact zcB
  ·(try simp only[bJ]at p);exact .inr ⟨w,Q,zaa⟩
def Sw:(aM h 430 a 1 86 λ c=>aM h 430 a 2 95 λ d=>aM h 430 a 0 228 λ e=>Mi h 426 a λ a=>Cf h 217 #[c,d,e,a] λ a c=>Cf c 240 #[a,b] λ a b=>R a b)->Cf h 227 #[a,b] R:=mS Tryz.func227 (Z (Q (X #[0,1,3,7,0,16,48,112,0,256,768,1792,0,4096,16383,0,65535,131071]) L))
def QQ:(aM h 430 a 0 228 λ a=>Cf h 387 #[b,a,s0] λ a b=>Ln b 323 a λ c=>bv b .gtr 3 c i0 (R a b) (R n0 b))->Cf h 444 #[a,b] R:=mS Tryz.func444 wa
def TD:(aM h 430 a 5 225 λ c=>aM h 430 a 0 228 λ d=>Cf h 327 #[c,d] λ c d=>aW c λ c e=>bx d 109 e ni (Cf d 194 #[(aU ⟨#[101,114,114,111,114]⟩)] λ a b=>R a b) (ce d 338 c ni (R n0 d) (aM d 430 a 5 225 λ e=>Nc e<|Cf d 445 #[a,b,c] λ a b=>Dg b (cH e c) λ b=>R a b)))->Cf h 442 #[a,b] R:=mS Tryz.func442 PK
def SF:(Iv h c "Length" #[] λ d e=>Cf e 331 #[d] λ d e=>bH e 273 d λ d e=>bH e 3 i0 λ e f=>Lp (∃(g:Ws)(i:N2),g [] n0 e f/\∀e,∀f j k,g e f j k->(Ld k 3 j λ l=>Iv k c "Length" #[] λ m n=>bh n 3 j l/\(bv n .lss 3 l m (aM n 430 a 5 225 λ l=>Ld n 3 j λ m=>Nc c<|Iv n c "AtUsing" #[l,m] λ c l=>aM l 430 a 5 225 λ m=>Nc m<|Al l 369 λ l n=>Lp (∃o:V1,(∀d l,o d l->(aM l 354 b 0 95 λ b=>Cf l 447 #[a,b] λ b l=>bC l 430 b 0 228 c λ l=>Cf l 227 #[b,nf] λ l n=>Ap n 323 d l λ d l=>Cf l 448 #[a,b] λ _ a=>Ld a 3 j λ b=>bH a 3 b λ a b=>Ld b 3 a λ l=>Bi b .add 3 l i1 λ l=>Sr b 3 a l λ b=>(g ((cH m c)::e) d a b/\i d a b<i f j k)))/\(aM n 354 b 1 240 λ g=>bx n 240 g (aU ⟨#[97,115,115,111,99,105,97,116,105,118,101]⟩) (Fa n 369 l 3 λ a=>Sr n 367 a j λ a=>o f a) (aM n 430 a 5 225 λ g=>aM n 430 a 1 86 λ i=>Cf n 332 #[g,i,b,c] λ b g=>aW b λ b i=>Sr g 369 l b λ b=>bx b 109 i ni (Cf b 194 #[(aU ⟨#[101,108,101,109,101,110,116]⟩)] λ a b=>Ap b 323 f a λ a b=>Dg b (cH m c) λ b=>Rs b e λ b=>R a b) (Lp (∃c:V1,(∀a b,c a b->(Ld b 369 l λ c=>Cf b 188 #[d,c] λ _ b=>o a b))/\(Ld b 369 l λ e=>Cf b 257 #[d,e] λ b d=>aH d b (λ b c=>b a c) λ a d=>aH d b (λ b c=>Nc a<|b a c) λ a d=>aH d b (λ b c=>Fa c 430 a 3 λ a=>b a c) λ a d=>aH d b (λ b c=>Ld c 4 a λ a=>b a c) λ a d=>aH d b (λ b c=>Nt c a λ a=>b a c) λ a d=>Pk b a bf λ a=>Cd a (Cf d 194 #[dO 0x6475706c696361746520656e747269657320666f72206b6579] λ a b=>Ap b 323 f a λ a b=>c a b) (c f d)))))))) (Rs n e λ a=>R f a)))))->Cf h 445 #[a,b,c] R:=mS Tryz.func445 (Z (Z (Q (Z (B (U [6,8] (Q (Q (X #[0,0,2,7]) d8) (Q (B (Q (X #[0,0,2,6,14,0,1,65,255,511]) (Z (Z (Y [6] (Z (C L (Z (Q (X #[0,1,3,7,0,16,48,112,0,0,1023,2047,4095,4095,8191,32767]) (Q cg (Y [6] cF L)))))) iO))))) (Q bG L)))))) bG)))
theorem Pt:dK 426 hC=some 444:=zag
theorem Mg:dK 426 gI=some 442:=zag
theorem M1:dK 426 gJ=some 443:=zag
@[go_sem] theorem VF{B:cQ}:Iv h (.iface 426 a) hC B R=Cf h 444 (#[a]++B) R:=dH Pt
@[go_sem] theorem VD{B:cQ}:Iv h (.iface 426 a) gI B R=Cf h 442 (#[a]++B) R:=dH Mg
@[go_sem] theorem VE{B:cQ}:Iv h (.iface 426 a) gJ B R=Cf h 443 (#[a]++B) R:=dH M1
theorem fT(L:R (.slice none 0 m) h):Cf h 240 #[.slice none 0 m,a] R:=by refine SH (rA ?_);exact L
theorem lE(Z:aN I h){al:Value}{C:bW}{u:Bool}{r:Kd}(M:blk h m=aE (fA a b C u c al).toArray 430)(w:ij I b C r A)(G:jW I a)(L:∀U,aD I h I U->Iv U (.iface 426 (aB m)) (lN r) #[.pointer (some A)] λ d N=>Cf N 240 #[d,nf] R):Cf h 227 #[aB m,nf] R:=by obtain⟨p,v,P,r,q,D,rfl⟩:=jI w.1;have g:blk h m=aE #[a,b,p,v,P,r,q,D,.bool u,c,al] 430:=M;refine Sw (rB g.c ?_);exact d9 (C:=[p,v,P,r,q,D]) Z w G L
theorem Bf(Z:aN I h){al:Value}{u:Bool}{s:bF}(M:blk h m=aE (fA a b (ef .sc A) u c al).toArray 430)(p:PV I a (bE s))(i:cU I ic A)(L:∀U,aD I h I U->R n0 U):Cf h 227 #[aB m,nf] R:=by refine lE Z M hB (.inr ⟨_,.str,p⟩) λ N P=>?_;have W:=P.sat;have H:blk N m=aE #[a,b,nilp,.pointer (some A),nilp,nilp,nilp,bf,.bool u,c,al] 430:=P.blk M id;refine rA ?_;refine QQ (rB H.c ?_);refine fi W i (.inr p) λ K r=>rA ?_;exact fT (L _ (P.trans r))
theorem nM{bs:Nat}(Z:aN I h)(j:blk h bs=aE #[a] n)(i:aQ m I h 369 4 a E.length x)(F:Rows (bM I) x E)(y:∀S∈x,aG S=true)(b:dq E)(l:bM I w G)(D:E.length<=2147483647)(L:∀W U,aD I h I U->(W=true↔G∈E)->R (.bool W) U):Cf h 257 #[aB bs,.agg w.toArray] R:=by
 have z:aC (λ r=>a.ownBlock=some r\/r=bs) I h I h:=aC.refl Z;have s:=z.freeze (λ P=>decide (a.ownBlock=some P)||P==bs) λ P z=>by simp only[Bool.or_eq_true,decide_eq_true_eq,beq_iff_eq]at z;exact .inr z
 have K:I.le (I.add (λ P=>decide (a.ownBlock=some P)||P==bs) h):=aK.add_le Z _;have X:cd (I.add (λ P=>decide (a.ownBlock=some P)||P==bs) h) a 4 E.length x:=i.sli D y λ P z=>by unfold aK.add;rw[if_pos (by rw[z];exact zab)]
 have B:bP (I.add (λ P=>decide (a.ownBlock=some P)||P==bs) h) bs 0=some a:=by
  have:(I.add (λ P=>decide (a.ownBlock=some P)||P==bs) h) bs=aE #[a] n:=by unfold aK.add;rw[if_pos zab];exact j
  unfold bP;rw[this];rfl
 exact n4 s.sat B (ck.of X (F.mono λ _ _ f=>f.mono K)) b (l.mono K) λ W U G B=>L W U (G.thaw K) B
def AJ(L:List Deferred):Prop:=∀d∈L,∃a X,d=(cH (.iface 346 (.pointer a)) X)
theorem wu:∀{L:List Deferred}{h:Heap}{T:Heap->Prop},AJ L->T h->Rs h L T
 |[],h,T,_,Y=>Y
 |f::L,h,T,G,Y=>by obtain⟨B,X,rfl⟩:=G f zab;exact cG (T:=λ U=>Rs U L T) (wu (λ f X=>G f (by simp[X])) Y)
theorem n5(Z:aN I h)(D:m<=2147483647)(L:∀X U,aD I h I U->aQ h.size I U 369 4 X 0 []->R (.agg #[X]) U):Cf h 331 #[aR m] R:=by refine SX (rA ?_);refine gw fj zaa (t:=0) (u:=m) rfl rfl (Nat.zero_le _) zaa λ H b=>rB @bZ ?_;refine L _ _ (aP Z) ⟨⟨zab,.inr ⟨h.size+1,m,H,rfl,zaa,?_,Nat.zero_le _,by simp only[maxLen];exact zaa,b,zab⟩⟩,λ P z=>by cases z;exact Z.fresh (Nat.le_succ _)⟩;show blk _ _=_;rw[bO,if_neg zaa,cq,if_pos zbD]
theorem xq(Z:aN I h){al:Value}{u:Bool}(M:blk h n=aE (fA a b x u (aB o) al).toArray 430)(d:eC 430 650 426 11 m I h o c K)(i:K=[]\/∃S,K=[S])(t:n∉K)(P:n≠o)(r:m<=h.size)(Q:x.length=6)(e:w.length=6)(X:∀S∈fA a b x u (aB o) al,aG S=true)(f:∀S∈w,aG S=true)(L:∀J s U,aC (λ k=>k∈K\/k=o) I h I U->blk U J=aE (fA a b w u (aB o) al).toArray 430->eC 430 650 426 11 m I U o s []->s.ownBlock=c.ownBlock->(J∈K\/h.size<=J)->m<=J->I J=none->J≠o->c.ownBlock≠some J->R (aB J) U):Cf h 447 #[aB n,.agg w.toArray] R:=by
 rcases i with rfl|⟨S,rfl⟩
 ·have v:=aF d.bk;refine zp Z M d Q e X f λ O U G N H=>L O c U (G.weak λ _ _=>False.elim) H (d.step G id (λ _ _=>id) λ _ _=>id) rfl (.inr N) zaa (Z.fresh N) zaa λ F=>?_;have:=(d.own.1.block F).2;exact zaa
 ·obtain⟨-,m,g,x,R⟩:=d.each S zab;exact zO Z M d (λ C=>t (by rw[C];exact zab)) P Q e X f λ s U E H a i=>L S s U (E.weak λ k _ Y=>Y.imp (λ C=>by rw[C];exact zab) id) H a i (.inl zab) m g x R
def xc(h:Heap)(J:Value):Nat:=match J with
 |.pointer (some a)=>match aI h a.block 0 with|some (.int _ i)=>i.toNat|_=>0
 |_=>0
theorem ue(j:blk h m=aE #[aR n] o):xc h (aB m)=n:=by unfold xc;simp only;rw[aA j];exact zab
structure VL(base:Nat)(I:aK)(h:Heap)(w sb ob ib hb:Nat)(wc:cQ)(x0:Value)(l:bn)(i:Nat)(J:aK)(h7:Heap)(x xo:Value)(ws:cK)(rows:bW)(es:bU):Prop where
 st:aC (λ k=>k=sb\/x0.ownBlock=some k) I h J h7
 bw:blk h7 w=aE wc 430
 sp:eC 430 650 426 11 base J h7 sb x ws
 wsl:ws=[]\/∃u,ws=[u]
 wsn:∀u∈ws,h.size<=u
 xn:x.ownBlock=x0.ownBlock\/∃g,x.ownBlock=some g/\h.size<=g
 bo:blk h7 ob=aE #[xo] 273
 bi:blk h7 ib=aE #[aR i] 3
 oo:aQ hb J h7 369 4 xo es.length rows
 rr:Rows (bM J) rows es
 r1:∀u∈rows,aG u=true
 srt:dq es
 mem:∀y,y∈es↔∃t∈l.take i,y=.val t
 len:es.length<=i
 obI:J ob=none
 ibI:J ib=none
 obn:h.size<=ob
 ibn:h.size<=ib
 hbn:h.size<=hb
 hbl:hb<=h7.size
 d1:ob≠ib
 d2:∀g,x.ownBlock=some g->g≠ob/\g≠ib/\xo.ownBlock≠some g
 d3:∀g,xo.ownBlock=some g->g≠ob/\g≠ib
 d4:∀u∈ws,u≠ob/\u≠ib/\xo.ownBlock≠some u
theorem VL.pur{d:cQ}{y:aK}{N:Heap}(B:VL m I h n o l t u d a z v J H b c K x E)(G:aD J H y N):VL m I h n o l t u d a z v y N b c K x E where
 st:=B.st.trans (G.weak λ _ _=>False.elim)
 bw:=G.blk B.bw id
 sp:=B.sp.step G id (λ _ _=>id) λ _ _=>id
 wsl:=B.wsl
 wsn:=B.wsn
 xn:=B.xn
 bo:=G.blk B.bo id
 bi:=G.blk B.bi id
 oo:=B.oo.step G λ _ _=>id
 rr:=B.rr.mono λ _ _ w=>w.mono G.le
 r1:=B.r1
 srt:=B.srt
 mem:=B.mem
 len:=B.len
 obI:=(G.dom _ (aF B.bo) id).trans B.obI
 ibI:=(G.dom _ (aF B.bi) id).trans B.ibI
 obn:=B.obn
 ibn:=B.ibn
 hbn:=B.hbn
 hbl:=Nat.le_trans B.hbl G.size
 d1:=B.d1
 d2:=B.d2
 d3:=B.d3
 d4:=B.d4
theorem ux{L:Nat}(Z:aN I h)(M:blk h m=aE (fA a b w false (aB n) (co o)).toArray 430)(Q:w.length=6)(o1:∀S∈fA a b w false (aB n) (co o),aG S=true)(O:eC 430 650 426 11 L I h n c [])(P:m≠n)(a0:c.ownBlock≠some m)(a1:L<=h.size)(Y:cO I A)(j:cd I d 1 z.length (z.map bE))(G:z.Nodup)(X:z.length<2147483646)(hR:∀s y V U,aC (λ k=>k=n\/c.ownBlock=some k) I h V U->eC 430 650 426 11 L V U n s y->(∀S∈y,h.size<=S)->(s.ownBlock=c.ownBlock\/∃g,s.ownBlock=some g/\h.size<=g)->y.length<=1->R n0 U):Cf h 445 #[aB m,.pointer (some A),.iface 585 d] R:=by
 have J:=Y;obtain⟨K,⟨u,C,rfl,hb⟩,a2⟩:=Y;obtain⟨p,t1,t2,t3,t4,t5,rfl⟩:=jI Q;have w:blk h m=aE #[a,b,p,t1,t2,t3,t4,t5,bf,aB n,co o] 430:=M;have N:=j;obtain⟨ya,q,rfl,H⟩:∃A t,d=.slice A z.length t/\z.length<=2147483647:=by obtain⟨A,t,C,-,-,h2,-⟩:=j;exact⟨A,t,C,h2⟩
 have i:=aF M;have a3:=aF O.bk;have Q:=Z.dom hb;refine SF (rA ?_);refine dW ?_;refine rA ?_;refine n5 Z H λ T h2 l f=>?_;have B:=l.size;have j:=f.one;refine rB j ?_;have r:∀k,h.size<=k->I k=none:=λ k Y=>Z.fresh Y;refine⟨λ H v iv B=>v=n0/\AJ H/\∃M D V X a4 y t s,iv=aB D/\M<=z.length/\VL L I h m n h2.size D h.size #[a,b,p,t1,t2,t3,t4,t5,bf,aB n,co o] c z M V B X a4 y t s,λ _ iv B=>z.length-xc B iv,⟨rfl,(λ a5 G=>by cases G),0,h2.size+1,I,c,T,[],[],[],zbD,Nat.zero_le _,?_⟩,?_⟩
 ·have E:aD I h I (aO (Array.push (aO (Array.push h2 (Obj.cells #[Value.slice none 0 0] 273)) (Array.size h2) 0 T) (Obj.cells #[Value.int IntKind.i64 0] 3)) (Array.size h2+1) 0 (Value.int IntKind.i64 0)):=bX Z l;have Z:∀g,T.ownBlock=some g->g<h2.size:=λ g hg=>(f.1.block hg).2;have R:∀g,c.ownBlock=some g->g<h.size:=λ g hg=>(O.own.1.block hg).2;refine⟨E.weak λ _ _=>False.elim,E.blk w id,O.step E id (λ _ _=>id) (λ _ _=>id),.inl rfl,zab,.inl rfl,Bk,Bk,?_,.nil,zab,List.Pairwise.nil,zab,zab,r _ zaa,r _ zaa,zaa,zaa,Nat.le_refl _,by(try simp only[bJ]);exact zaa,zaa,?_,?_,zab⟩
  ·exact((((f.push _).put2 λ g hg=>cW (Z g hg)).push _).put2 λ g hg=>cW (Z g hg))
  ·intro g hg;have Q:=R g hg;refine⟨zaa,zaa,λ F=>?_⟩;have:=(f.1.block F).1;exact zaa
  ·intro g hg;have:=Z g hg;exact⟨zaa,zaa⟩
 rintro H v iv B⟨rfl,w,M,D,V,X,a4,y,t,s,rfl,j,j⟩;have U:=j.st.sat;have L:=j.st.size;refine rB j.bi.c ?_;refine dW ?_;by_cases a6:M<z.length
 ·have d0:decide ((M:Int)<(z.length:Int))=true:=by simp;exact zaa
  refine rD j.bi.c j.bw.c d0 ?_;refine qZ U (N.mono j.st.le) a6 λ H T N t8 a7=>?_;have r:=j.pur t8;have f:=r.st.sat;have W:=r.st.size;have t:=At.of f (r.st.le _ _ hb);have R:aI N u 6=some (aU fb):=by have:=t 6 (aU fb) rfl;exact zai
  have A:u<N.size:=zaa;refine rB r.bw.c ?_;refine⟨_,λ _ _ W=>W,?_⟩;try simp(disch:=omega)only[go_sem,↓reduceIte,aA r.bw,R,bne_self_eq_false]
  refine en (show aD T N T _ from aP f).sat (J.mono r.st.le) a7 λ O R A t E=>?_;have L:aD T N R A:=aC.trans (aP f) t;have l:=r.pur L;have J:=l.st.sat;have l:=L.size;have l:=t.size;(try simp only[bJ]at l);have a8:blk A N.size=aE #[nilp,nilp,nilp,nilp] 369:=t.blk Bk id;have a9:=E;refine Exists.elim (cL E.1) λ l W=>Exists.elim W λ q W=>Exists.elim W λ O W=>Exists.elim W λ J W=>?_;have v:=E.one;have Z:=v l (by rw[W];exact zab);have E:=v q (by rw[W];exact zab);have U:=v O (by rw[W];exact zab);have q3:=v J (by rw[W];exact zab);refine rG a8.b W Z E U q3 ?_;refine⟨_,λ _ _ W=>W,?_⟩;refine rB a8.c ?_;have U:R N.size=none:=by rw[t.dom _ (by(try simp only[bJ]);exact zaa) id];exact f.fresh bu
  have aa:aD T N R (aO (aO (aO (aO A N.size 0 l) N.size 1 q) N.size 2 O) N.size 3 J):=aC.put (aC.put (aC.put (aC.put L (.inl bu) U) (.inl bu) U) (.inl bu) U) (.inl bu) U;have Z:=r.pur aa;have U:blk (aO (aO (aO (aO A N.size 0 l) N.size 1 q) N.size 2 O) N.size 3 J) N.size=aE #[l,q,O,J] 369:=bz a8;have t:bM R [l,q,O,J] (.val z[M]):=W▸a9;have E:¬El.val z[M]∈s:=by
   intro F;obtain⟨ac,l,A⟩:=(j.mem _).1 F;have f:z[M]=ac:=by injection A
   obtain⟨k,Y,v⟩:=List.getElem_of_mem l;rw[List.length_take]at Y;rw[List.getElem_take]at v;exact(List.pairwise_iff_getElem.1 G) k M zaa a6 zaa (by rw[v,f])
  refine nM (G:=.val z[M]) aa.sat Z.bo Z.oo Z.rr Z.r1 Z.srt t (cW j.len) λ W ad L r=>?_;have f:W=false:=by cases W with|false=>rfl|true=>exact absurd (r.1 rfl) E
  have E:=Z.pur L;have v:=E.st.sat;have O:=L.blk U id;refine rC O.c f ?_;have Z:=t.mono L.le;refine gQ (m:=h.size) (G:=.val z[M]) v E.bo rfl E.obI E.oo E.rr E.r1 E.srt (λ g hg=>(j.d3 g hg).1) Z E.hbl (cW j.len) λ ae af ag W s ah ai aj ak am v jd q=>?_;have U:=s.sat;have an:=L.size;have t:=s.size;have Z:h.size<=W.size:=Nat.le_trans E.st.size t;have T:I.le R:=E.st.le;have f:=At.of U (T _ _ hb);have t:aI W u 0=some nilp:=by have:=f 0 nilp rfl;exact zai
  have A:aI W u 1=some (.pointer (some K)):=by have:=f 1 (.pointer (some K)) rfl;exact zai
  have r:aI W u 2=some nilp:=by have:=f 2 nilp rfl;exact zai
  have e3:aI W u 3=some nilp:=by have:=f 3 nilp rfl;exact zai
  have e4:aI W u 4=some nilp:=by have:=f 4 nilp rfl;exact zai
  have e5:aI W u 5=some bf:=by have:=f 5 bf rfl;exact zai
  have q:∀g,a4.ownBlock=some g->h.size<=g:=λ g hg=>(E.oo.1.block hg).1;have ao:∀k,k<h.size->¬(k=h2.size\/a4.ownBlock=some k):=λ k Y F=>by
   rcases F with F|F
   ·exact zaa
   ·have:=q k F;exact zaa
  have ap:=s.blk E.bw (ao m i);have f:=E.sp.step s (ao n a3) (λ g hg F=>by
   rcases F with F|F
   ·exact(j.d2 g hg).1 F
   ·exact(j.d2 g hg).2.2 F) (λ S O F=>by
   rcases F with F|F
   ·exact(j.d4 S O).1 F
   ·exact(j.d4 S O).2.2 F);refine rG t A r e3 e4 e5 ?_;refine xq (w:=ef .sc K) U ap f j.wsl (λ F=>cW (j.wsn m F)) P (Nat.le_trans a1 Z) rfl rfl o1 (by simp[ef,dQ,cn,cB]) λ J aq U q ar au f av aw ax ay az=>?_;have Z:=q.sat;have r:=q.size;have t:blk U J=aE #[a,b,nilp,.pointer (some K),nilp,nilp,nilp,bf,bf,aB n,co o] 430:=ar;have b1:PV R H (bE z[M]):=a7.mono (aa.le.trans L.le);have r:aG H=true:=by obtain⟨u,C,rfl,-⟩:=a7;rfl
  refine rC t.b r ?_;have r:aC (λ k=>k=J) R U R (aO U J 0 H):=aC.put (aC.refl Z) (.inr rfl) ax;have L:blk (aO U J 0 H) J=aE (fA H b (ef .sc K) false (aB n) (co o)).toArray 430:=by rw[bO,if_pos rfl,ar];rfl
  refine Bf (A:=K) r.sat L b1 (a2.mono T) λ b2 t=>?_;have K:=t.sat;have b3:∀k,k<h.size->k≠J:=λ k Y C=>by
   rcases av with Q|Q
   ·have:=j.wsn J Q;exact zaa
   ·exact zaa
  have Z:=q.blk ap (λ F=>by
   rcases F with F|F
   ·have:=j.wsn m F;exact zaa
   ·exact P F);have b4:blk b2 m=aE #[a,b,p,t1,t2,t3,t4,t5,bf,aB n,co o] 430:=t.blk (r.blk Z (b3 m i)) id;have p:=(au.step r (λ C=>ay C.symm) (λ g hg C=>az (by rw[<-f,hg,C])) zab).step t id (λ _ _=>id) zab;have u:=t.blk L id;have b5:∀g,aq.ownBlock=some g->c.ownBlock=some g\/h.size<=g:=λ g hg=>by
   rw[f]at hg;rcases j.xn with Q|⟨L,Q,T⟩
   ·exact .inl (Q▸hg)
   ·rw[Q]at hg;cases hg;exact .inr T
  have a:=t.size;(try simp only[bJ]at a);try simp(disch:=omega)only[go_sem,↓reduceIte,cI d5]
  refine Bp K b4 rfl p u rfl ax aw ay (by rw[f];exact az) P (λ F=>by
   rcases b5 m F with Q|Q
   ·exact a0 Q
   ·exact zaa) zaa λ b6 K Z b7 nJ=>?_;have a:=Z.size;have a:∀g,X.ownBlock=some g->g<B.size:=λ g hg=>(j.sp.own.1.block hg).2;have u:B.size<=N.size:=t8.size;have b:N.size<=ad.size:=Nat.le_trans aa.size an;have N:∀S∈y,S<B.size:=λ S O=>by obtain⟨⟨p,b,-⟩,-⟩:=j.sp.each S O;exact aF b
  have p:∀k,(k=h2.size\/k=D\/ae.ownBlock=some k)->k<W.size/\h.size<=k/\¬(k∈y\/k=n)/\k≠J/\X.ownBlock≠some k:=by
   intro k Y;have i:k<W.size:=by
    rcases Y with Y|Y|Y
    ·have:=aF E.bo;exact zaa
    ·have:=aF E.bi;exact zaa
    ·exact(ai.1.block Y).2
   have u:h.size<=k:=by
    rcases Y with Y|Y|Y
    ·rw[Y];exact j.obn
    ·rw[Y];exact j.ibn
    ·exact(ai.1.block Y).1
   have b:k∉y/\X.ownBlock≠some k:=by
    rcases Y with Y|Y|Y
    ·rw[Y];exact⟨λ F=>(j.d4 _ F).1 rfl,λ F=>(j.d2 _ F).1 rfl⟩
    ·rw[Y];exact⟨λ F=>(j.d4 _ F).2.1 rfl,λ F=>(j.d2 _ F).2.1 rfl⟩
    ·rcases jd with Q|⟨L,Q,T⟩
     ·rw[Q]at Y;exact⟨λ F=>(j.d4 _ F).2.2 Y,λ F=>(j.d2 _ F).2.2 Y⟩
     ·rw[Q]at Y;cases Y;exact⟨λ F=>cW (N _ F),λ F=>cW (a _ F)⟩
   refine⟨i,u,λ F=>F.elim b.1 zaa,λ C=>?_,b.2⟩;rcases av with Q|Q
   ·exact b.1 (C▸Q)
   ·exact zaa
  have i:aC (λ k=>k∈y\/k=n\/k=J\/X.ownBlock=some k) R W R K:=by refine aC.trans' (aC.trans (aC.trans' (q.weak λ k _ Y=>Y.elim .inl λ C=>.inr (.inl C)) r λ k _ C=>.inr (.inr (.inl C))) (t.weak λ _ _=>False.elim)) Z λ k _ Y=>Y.elim (λ C=>.inr (.inl C)) λ C=>.inr (.inr (.inr (by rw[<-f];exact C)))
  have u:∀k,(k=h2.size\/k=D\/ae.ownBlock=some k)->¬(k∈y\/k=n\/k=J\/X.ownBlock=some k):=λ k Y F=>by
   obtain⟨-,-,a,q,b⟩:=p k Y;rcases F with F|F|F|F
   ·exact a (.inl F)
   ·exact a (.inr F)
   ·exact q F
   ·exact b F
  have b:=s.blk E.bi (λ F=>F.elim (λ C=>j.d1 C.symm) λ C=>(j.d3 _ C).2 rfl);have a:=i.blk b (u D (.inr (.inl rfl)));have b:blk K h2.size=aE #[ae] 273:=i.blk ah (u _ (.inl rfl));have D:=ai.step i λ g hg=>u g (.inr (.inr hg));have q:=i.sat;have N:=Z.blk b4 (λ F=>by
   rcases F with F|F
   ·exact P F
   ·rcases b5 m F with Q|Q
    ·exact a0 Q
    ·exact zaa);have P:∀g,b6.ownBlock=some g->X.ownBlock=some g\/b2.size<=g:=λ g hg=>by
   rcases nJ with Q|⟨L,Q,T⟩
   ·rw[Q,f]at hg;exact .inl hg
   ·rw[Q]at hg;cases hg;exact .inr T
  have m:aC (λ k=>k=n\/c.ownBlock=some k) I h R K:=by
   refine aC.trans' (aC.trans' E.st s λ k Y F=>absurd F (ao k Y)) i λ k Y F=>?_;rcases F with F|F|F|F
   ·have:=j.wsn k F;exact zaa
   ·exact zcp
   ·exact absurd F (b3 k Y)
   ·rcases j.xn with Q|⟨L,Q,T⟩
    ·exact .inr (Q▸F)
    ·rw[Q]at F;cases F;exact zaa
  have n:h.size<=K.size:=m.size;have t:R K.size=none:=q.fresh bu;have ei:IntKind.i64=IntKind.i64:=rfl;refine rB a.c ?_;have c:aD R K R (aO (aO (K.push (aV #[i0] 3)) K.size 0 (aR M)) K.size 0 (aR (M+1))):=aP q;have q:=c.size;have u:W.size<=K.size:=i.size;have W:h.size<=J:=by
   rcases av with Q|Q
   ·exact j.wsn J Q
   ·exact zaa
  have r:J<U.size:=aF ar;have U:blk (aO (aO (K.push (aV #[i0] 3)) K.size 0 (aR M)) K.size 0 (aR (M+1))) K.size=aE #[aR ((M+1:Nat):Int)] 3:=Bk;refine⟨⟨?_,M+1,K.size,R,b6,ae,[J],af,ag,rfl,zaa,⟨m.trans (c.weak λ _ _=>False.elim),c.blk N id,b7.step c id (λ _ _=>id) (λ _ _=>id),.inr ⟨J,rfl⟩,?_,?_,c.blk b id,U,D.step c λ _ _=>id,aj,ak,am,?_,cW j.len,E.obI,t,j.obn,n,Nat.le_refl _,by(try simp only[bJ]);exact zaa,?_,?_,?_,?_⟩⟩,?_⟩
  ·intro a5 G;rcases List.mem_cons.1 G with rfl|G
   ·exact⟨some ⟨o,0,none⟩,H,rfl⟩
   ·exact w a5 G
  ·intro S O;rw[List.mem_singleton.1 O];exact W
  ·rcases nJ with Q|⟨L,Q,T⟩
   ·rw[Q,f];exact j.xn
   ·exact .inr ⟨L,Q,zaa⟩
  ·intro d;have A:z.take (M+1)=z.take M++[z[M]]:=by rw[List.take_add_one,List.getElem?_eq_getElem a6];exact zab
   rw[v d,j.mem d];constructor
   ·rintro(rfl|⟨ac,l,rfl⟩)
    ·exact⟨z[M],by rw[A];exact List.mem_append_right _ (List.mem_singleton.2 rfl),rfl⟩
    ·exact⟨ac,by rw[A];exact List.mem_append_left _ l,rfl⟩
   ·rintro⟨ac,l,rfl⟩;rw[A]at l;rcases List.mem_append.1 l with l|l
    ·exact .inr ⟨ac,l,rfl⟩
    ·exact .inl (by rw[List.mem_singleton.1 l])
  ·have:=(p _ (.inl rfl)).1;exact zaa
  ·intro g hg;have t:=(b7.own.1.block hg).2;rcases P g hg with Q|Q
   ·refine⟨λ C=>(p _ (.inl rfl)).2.2.2.2 (C▸Q),zaa,λ F=>(p g (.inr (.inr F))).2.2.2.2 Q⟩
   ·refine⟨λ C=>?_,zaa,λ F=>?_⟩
    ·have:=(p _ (.inl rfl)).1;exact zaa
    ·have:=(p g (.inr (.inr F))).1;exact zaa
  ·intro g hg;have n:=(p g (.inr (.inr hg))).1;refine⟨?_,zaa⟩;rcases jd with Q|⟨L,Q,T⟩
   ·rw[Q]at hg;exact(j.d3 g hg).1
   ·rw[Q]at hg;cases hg;have:=aF E.bo;exact zaa
  ·intro S O;rw[List.mem_singleton.1 O];refine⟨λ C=>(p _ (.inl rfl)).2.2.2.1 C.symm,zaa,λ F=>(p J (.inr (.inr F))).2.2.2.1 rfl⟩
  ·rw[ue j.bi,ue U];exact zaa
 ·have d0:decide ((M:Int)<(z.length:Int))=false:=by simp;exact zaa
  refine rC j.bi.c d0 ?_;refine wu w ?_;exact hR X y V B j.st j.sp j.wsn j.xn (by rcases j.wsl with C|⟨S,C⟩<;>simp[C])
def UT:(Ld h 90 c λ f=>aM h 359 f 2 95 λ f=>bH h 95 f λ f g=>Lp (∃i:V0,(∀a,i a->(Ld a 426 e λ c=>Ld a 95 f λ f=>Cf a 447 #[c,f] λ a c=>bC c 430 a 0 228 b λ b=>Ld b 323 d λ c=>Cf b 227 #[a,nf] λ b f=>bh f 323 d c/\(Ap f 323 c b λ b c=>Sr c 323 d b λ b=>Ld b 426 e λ c=>Cf b 448 #[c,a] λ _ a=>R (.bool true) a)))/\(Ld g 90 c λ b=>Cf g 220 #[b,a] λ a b=>aW a λ a e=>bH b 417 a λ a b=>Cd e (Fa b 417 a 1 λ a=>Ld b 95 a λ a=>Sr b 95 f a λ a=>i a) (Ld b 90 c λ a=>aM b 359 a 2 95 λ a=>Bd b 95 #[] λ c=>Eb b .eql 95 false false a c λ a=>Cd a (Ld b 323 d λ a=>Cf b 194 #[dO 0x6669656c64206e6f74206465636c6172656420696e20736368656d61] λ b c=>bh c 323 d a/\(Ap c 323 a b λ a b=>Sr b 323 d a λ a=>R (.bool false) a)) (i b)))))->Cf h 449 #[a,b,c,d,e] R:=mS Tryz.func449 (Z (Z (Y [] (Z (Z (C L (Z (C (Q (X #[0,0,3,7]) bG) L))))) (Z (Z (Q Il cX))))))
theorem zM(Z:aN I h)(M:blk h n=aE (fA a b (ef .li A) false (aB o) (co l)).toArray 430)(E:eC 430 650 426 11 m I h o c [])(D:n≠o)(j:c.ownBlock≠some n)(r:m<=h.size)(Y:cO I A)(p:PV I a d)(e:er I d z)(B:aG b=true)(G:z.Nodup)(X:z.length<2147483646)(L:∀s y V U,aC (λ k=>k=o\/c.ownBlock=some k) I h V U->eC 430 650 426 11 m V U o s y->(∀S∈y,h.size<=S)->(s.ownBlock=c.ownBlock\/∃g,s.ownBlock=some g/\h.size<=g)->y.length<=1->R n0 U):Cf h 227 #[aB n,nf] R:=by
 obtain⟨q,rfl,c⟩:=e;have x:aG a=true:=zav;refine lE Z M hB (.inr ⟨_,.lst,p⟩) λ N P=>?_;have W:=P.sat;have H:blk N n=aE #[a,b,nilp,nilp,.pointer (some A),nilp,nilp,bf,bf,aB o,co l] 430:=P.blk M id;have v:∃w,a=.iface 362 w:=za6;refine rA ?_;refine TD (rB H.c ?_);refine j6 W (p.mono P.le) λ K r=>?_;have v:=P.trans r;have J:=r.blk H id;have F:=v.size;refine rB J.c ?_;refine ux (w:=ef .li A) v.sat (v.blk M id) rfl ?_ (E.step v id (λ _ _=>id) zab) D j zaa (Y.mono v.le) (c.mono v.le) G X λ s y V t q E i e u=>?_
 ·intro S O;simp only[fA,ef,dQ,List.cons_append,List.nil_append,List.mem_cons]at O;rcases O with rfl|rfl|rfl|rfl|rfl|rfl|rfl|rfl|rfl|rfl|rfl|O<;>first|exact x|exact B|rfl|cases O
 ·refine cG ?_;refine fT ?_;refine L s y V t ((v.weak λ _ _=>False.elim).trans q) E (λ S O=>cW (i S O)) ?_ u;rcases e with Q|⟨g,Q,T⟩
  ·exact zcB
  ·exact .inr ⟨g,Q,zaa⟩
theorem yJ(Z:aN I h){H y:cQ}(M:blk h n=aE H 430)(Y:H[9]?=some (aB l))(d:eC 430 650 426 11 m I h l a K)(N:blk h t=aE y 430)(q:y.size=11)(V:I t=none)(c:m<=t)(P:t≠l)(v:a.ownBlock≠some t)(i:n≠l)(x:a.ownBlock≠some n)(r:m<=h.size)(S:t∉K)(A:K.length<2147483646)(L:∀s U,aC (λ k=>k=l\/a.ownBlock=some k) I h I U->eC 430 650 426 11 m I U l s (K++[t])->(s.ownBlock=a.ownBlock\/∃g,s.ownBlock=some g/\h.size<=g)->R (.tuple #[]) U):Cf h 448 #[aB n,aB t] R:=by
 have A:H[9]?=some (aB l):=Y;have p:=aF M;have U:=aF d.bk;have w:=aF N;have W:=d.own.one;refine G5 (rD M.c d.bk.c A ?_);refine bY pF rfl zaa zaa (H:=#[aB t]) Bk (d.own.push _) (show aD I h I _ from aP Z).sat rfl zbg zaa (by(try simp only[bJ]);exact zaa) λ s K W r i J=>?_;have T:aC (λ k=>a.ownBlock=some k) I h I K:=aC.touch (show aC (λ k=>a.ownBlock=some k) I h I _ from aP Z) r λ g z=>⟨.inr z,d.own.2 g z⟩;have B:=T.blk d.bk d.sx;have O:=W.one;have j:=T.blk M x;refine rD j.c B.b A ?_;have f:∀g,s.ownBlock=some g->a.ownBlock=some g\/h.size<=g:=λ g z=>by
  rcases J with Q|⟨a,Q,M⟩
  ·exact .inl (Q▸z)
  ·rw[Q]at z;cases z;(try simp only[bJ]at M);exact .inr zaa
 have e:∀g,s.ownBlock=some g->g≠l/\g≠t:=λ g z=>by
  rcases f g z with Q|Q
  ·exact⟨λ C=>d.sx (C▸Q),λ C=>v (C▸Q)⟩
  ·exact⟨zaa,zaa⟩
 have D:=T.blk N v;refine L s _ (aC.put (T.weak λ _ _=>.inr) (.inr (.inl rfl)) d.sbI) ⟨?_,?_,?_,d.sbI,d.sbb,λ F=>(e _ F).1 rfl,?_⟩ ?_
 ·rw[bO,if_pos rfl,B];rfl
 ·have:=W.put2 (t:=l) (u:=0) (b:=s) λ g z=>(e g z).1;exact zai
 ·intro E G;rcases List.mem_append.1 G with G|G
  ·obtain⟨⟨r,w,z⟩,m,X,t,R⟩:=d.each E G;have h:=aF w;refine⟨⟨r,?_,z⟩,m,X,t,λ F=>?_⟩
   ·rw[bO,if_neg (λ C=>t C.symm)];exact T.blk w R
   ·rcases f E F with Q|Q
    ·exact R Q
    ·exact zaa
  exact zbH
 ·exact List.nodup_append.2 ⟨d.nd,zab,λ Z O H p C=>S (by rw[List.mem_singleton.1 p]at C;exact C▸O)⟩
 ·rcases J with Q|⟨a,Q,M⟩
  ·exact zcB
  ·(try simp only[bJ]at M);exact .inr ⟨a,Q,zaa⟩
theorem H6{s:Option Value}{k:Prop}{T:Value->Prop}(C:s=some a)(W:T a):pn s k T:=by subst C;rw[sV];exact W
theorem zl(Z:aN I h){E:Nat}{H y:cQ}(Y:blk h n=aE #[n0] 323)(p:I n=none)(s:I o=aE #[aB E] u)(M:blk h E=aE H 430)(F:H[9]?=some (aB t))(u:blk h l=aE y 430)(q:y.size=11)(b:I l=none)(d:eC 430 650 426 11 m I h t a K)(c:m<=l)(r:m<=h.size)(V:E≠n)(X:l≠n)(A:t≠n)(J:a.ownBlock≠some n)(g:n∉K)(Q:l≠t)(f:a.ownBlock≠some l)(e:E≠t)(i:a.ownBlock≠some E)(W:l∉K)(x:K.length<2147483646)(L:∀U,aC (λ k=>k=n\/k=t\/a.ownBlock=some k) I h I U->blk U n=aE #[n0] 323->R bt U):bh h 323 (aB n) (Value.slice none 0 0)/\Ap h 323 (Value.slice none 0 0) (Value.slice none 0 0) λ j B=>Sr B 323 (aB n) j λ N=>Ld N 426 (aB o) λ D=>Cf N 448 #[D,aB l] λ _ G=>R (Value.bool true) G:=by
 have v:o≠n:=λ C=>by rw[C,p]at s;cases s
 have P:n≠o:=λ C=>v C.symm;have S:aI h o 0=some (aB E):=aA (Z _ _ s) 0;try simp(disch:=omega)only[go_sem,↓reduceIte,aA Y,aS Y,cI d5,v,P]
 refine H6 S ?_;have H:aC (λ k=>k=n) I h I (aO h n 0 n0):=aC.put (aC.refl Z) (.inr rfl) p;have s:=d.step H A (λ P z C=>J (by rw[z,C])) λ S O C=>g (C▸O);refine yJ (n:=E) H.sat (H.blk M V) F s (H.blk u X) q b c Q f e i (by(try simp only[bJ]);exact r) W x λ S B T a n=>rA ?_;refine L B (aC.trans' (H.weak λ k _ C=>.inl C) T λ k _ F=>.inr F) (T.blk ?_ λ F=>?_)
 ·rw[bO,if_pos rfl,Y];rfl
 ·rcases F with F|F
  ·exact A F.symm
  ·exact J F
def VW(V:aK)(h:Heap)(E:Nat):Prop:=V E=none/\∃H,blk h E=aE H 430/\H.size=11
set_option maxHeartbeats 2000000 in theorem Eg(Z:aN I h){X q:Addr}(y:I m=aE #[.pointer (some A)] u)(s:I o=aE #[aB l] v)(Y:blk h n=aE #[n0] 323)(a0:I n=none)(B:fl I A a)(w:cd I a 8 2 (c9 bA .li X++c9 bB .li q))(i:cO I X)(M:blk h l=aE (fA c d x false nilp (co t)).toArray 430)(G:I l=none)(Q:x.length=6)(K:∀S∈fA c d x false nilp (co t),aG S=true)(D:l≠n)(p:PV I b e)(L:er I e z)(hd:z.Nodup)(a1:z.length<2147483646)(hR:∀V U,aC (λ k=>k=l\/k=n) I h V U->blk U n=aE #[n0] 323->VW V U l->R bt U):Cf h 449 #[aU bA,b,aB m,aB n,aB o] R:=by
 have f:=B;obtain⟨J,E,rfl,O⟩:=B;obtain⟨o,v,t2,t3,q,t5,rfl⟩:=jI Q;have g:blk h l=aE #[c,d,o,v,t2,t3,q,t5,bf,nilp,co t] 430:=M;have B:=Z.dom y;have A:=Z.dom s;have A:=Z.dom O;have ze:=aF Y;have zw:=aF M;have x:aG b=true:=by obtain⟨u,u,rfl,-⟩:=p;rfl
 have F:aG d=true:=K d zab;refine UT (rC (Z _ _ y).c (Z _ _ O).c ?_);refine⟨_,λ _ W=>W,?_⟩;refine rB (Z _ _ y).c ?_;refine eo (show aD I h I _ from aP Z).sat f w λ N H=>?_;have C:aD I h I N:=aC.trans (aP Z) H;have W:=C.sat;have g:=H.size;(try simp only[bJ]at g);have w:blk N h.size=aE #[nilp,nilp,nilp,nilp,nilp,bf] 95:=H.blk Bk id;refine rC w.b (W _ _ s).c ?_;refine AG (w:=ef .li X) (show aD I h I _ from bX Z C).sat ((show aD I h I _ from bX Z C).blk M id) G rfl rfl K (by simp[ef,dQ,cn,cB]) λ O w y K j N W e R J H r=>?_;(try simp only[bJ]at N);(try simp only[bJ]at W);have U:=j.size;(try simp only[bJ]at U);have U:aC (λ k=>k=l\/k=n) I h I K:=aC.trans (show aC (λ k=>k=l\/k=n) I h I _ from(show aD I h I _ from bX Z C).weak λ _ _=>False.elim) (j.weak λ k _ u=>.inl u.symm);have g:=U.sat;have z:blk K O=aE #[c,d,nilp,nilp,.pointer (some X),nilp,nilp,bf,bf,aB w,co t] 430:=J;have N:blk K n=aE #[n0] 323:=j.blk ((show aD I h I _ from bX Z C).blk Y id) D;refine rD z.b N.c x ?_;have f:h.size<=K.size:=U.size;have M:I O=none:=Z.fresh zaa;have f:=aF J;have S:aC (λ k=>k=O) I K I (aO K O 0 b):=aC.put (aC.refl g) (.inr rfl) M;have E:blk (aO K O 0 b) O=aE (fA b d (ef .li X) false (aB w) (co t)).toArray 430:=by rw[bO,if_pos rfl,J];rfl
 have f:∀P,y.ownBlock=some P->h.size<=P/\P<K.size:=λ P z=>by have Q:=(H.own.1.block z);have T:=Q.1;(try simp only[bJ]at T);exact⟨zaa,Q.2⟩
 have m:=H.step S (λ u=>e u.symm) (λ P z u=>r (by rw[z,u])) zab;have W:(aO K O 0 b).size=K.size:=aJ .. ;refine zM S.sat E m e r (by(try simp only[bJ]);exact zaa) i p L F hd a1 λ A j V Q C W i K x=>?_;have a:=C.size;(try simp only[bJ]at a);have g:∀P,A.ownBlock=some P->h.size<=P:=λ P z=>by
  rcases K with T|⟨J,T,B⟩
  ·exact(f P (T▸z)).1
  ·rw[T]at z;cases z;exact zaa
 have L:∀k,k<h.size->¬(k=w\/y.ownBlock=some k):=λ k Y F=>by
  rcases F with F|F
  ·exact zaa
  ·have:=(f k F).1;exact zaa
 have m:blk Q n=aE #[n0] 323:=C.blk (S.blk N zaa) (L n ze);have Z:blk Q l=aE (fA c d [o,v,t2,t3,q,t5] false (aB w) (co t)).toArray 430:=C.blk (S.blk R zaa) (L l zw);have z:=C.blk E (λ F=>by
  rcases F with F|F
  ·exact e F
  ·exact r F);have o:aC (λ k=>k=l\/k=n) I h V Q:=aC.trans' (aC.trans' U S λ k Y u=>zaa) C λ k Y F=>absurd F (L k Y);have S5:=o.sat;have d:V n=none:=(C.dom _ zaa (L n ze)).trans a0;have u:V O=none:=(C.dom _ zaa (λ F=>by
  rcases F with F|F
  ·exact e F
  ·exact r F)).trans M;refine zl S5 m d (o.le _ _ s) Z rfl z rfl u W (by(try simp only[bJ]);exact zaa) (by(try simp only[bJ]);exact zaa) D zaa zaa (λ F=>cW (g n F)) (λ F=>cW (i n F)) e ?_ zaa (λ F=>cW (g l F)) (λ F=>cW (i O F)) zaa λ B t y=>?_
 ·intro F;rcases K with T|⟨J,T,B⟩
  ·exact r (T▸F)
  ·rw[T]at F;cases F;exact zaa
 ·refine hR V B (aC.trans' o t λ k Y F=>?_) y ⟨(C.dom _ zaa (L l zw)).trans G,_,t.blk Z (λ F=>by
   rcases F with F|F|F
   ·exact D F
   ·exact zaa
   ·have:=g l F;exact zaa),rfl⟩;rcases F with F|F|F
  ·exact .inr F
  ·exact zaa
  ·have:=g k F;exact zaa
def U1:(Bx h 426 a λ a d=>Bx d 90 b λ b d=>Al d 323 λ d e=>Ld e 426 a λ f=>aM e 430 f 5 225 λ f=>Nc (.func (.method "IterateUsing") #[c] #[])<|Iv e c "IterateUsing" #[f,(.func (.func 449) #[] #[b,d,a])] λ _ a=>Ld a 323 d λ b=>Sr a 323 d b λ a=>Rv a 323 d λ b=>R b a)->Cf h 446 #[a,b,c] R:=mS Tryz.func446 (Z (Q (X #[0,0,2,6,14,0,1,65,193,511]) bG))
theorem NU:fO 449=true:=zag
theorem eM{H:cQ}{c:Nat×Nat}(j:blk h m=some (.cells H o c))(k:H[n]?=some a):aO h m n a=h:=by
 apply Array.ext_getElem?;intro M;unfold aO;rw[Array.getElem?_modify];by_cases d:m=M
 ·subst d;rw[if_pos rfl];unfold blk at j;rw[j];have:H.setIfInBounds n a=H:=by
   apply Array.ext_getElem?;intro D;rw[Array.getElem?_setIfInBounds];by_cases K:n=D
   ·subst K;obtain⟨o,-⟩:=Array.getElem?_eq_some_iff.1 k;rw[if_pos rfl,if_pos o,k]
   ·rw[if_neg K]
  simp[this]
 ·rw[if_neg d]
theorem l3(Z:aN I h)(w:I m=some (.map #[] 0))(L:R bt h):Cf h 477 #[.map (some m),a,b] R:=by apply DX;exact zbf
def kP(T:aK)(J:Value):Option bn->Prop|none=>mI T J|some H=>dM T J H
theorem qG(Z:aN I h){X q:Addr}{H:Option Nat}{e:Option bn}(B:fl I A a)(K:cd I a 8 2 (c9 bA .li X++c9 bB .li q))(i:cO I X)(M:blk h m=aE (fA c d x false nilp (co n)).toArray 430)(y:I m=none)(Q:x.length=6)(u:∀S∈fA c d x false nilp (co n),aG S=true)(v:kP I (.iface 242 (.map H)) e)(G:∀j,e=some j->j.Nodup/\j.length<2147483646)(L:∀V U,aC (Eq m) I h V U->VW V U m->R n0 U):Cf h 446 #[aB m,.pointer (some A),.iface 586 (.map H)] R:=by
 obtain⟨p,Y,P,r,q,W,rfl⟩:=jI Q;have g:blk h m=aE #[c,d,p,Y,P,r,q,W,bf,nilp,co n] 430:=M;have r:=aF M;have Q:aD I h I (((h.push (aV #[aB m] 426)).push (aV #[.pointer (some A)] 90)).push (aV #[n0] 323)):=aP Z;have O:=Q.one (b:=h.size) bu;have N:=O.1.one (b:=h.size+1) zaa;have J:(I.one h.size (((h.push (aV #[aB m] 426)).push (aV #[.pointer (some A)] 90)).push (aV #[n0] 323))) h.size=aE #[aB m] 426:=aK.one_eq Bk;have q:=N.1;have s:=N.2 _ _ J;have x:((I.one h.size (((h.push (aV #[aB m] 426)).push (aV #[.pointer (some A)] 90)).push (aV #[n0] 323))).one (h.size+1) (((h.push (aV #[aB m] 426)).push (aV #[.pointer (some A)] 90)).push (aV #[n0] 323))) (h.size+1)=aE #[.pointer (some A)] 90:=aK.one_eq Bk;have N:((I.one h.size (((h.push (aV #[aB m] 426)).push (aV #[.pointer (some A)] 90)).push (aV #[n0] 323))).one (h.size+1) (((h.push (aV #[aB m] 426)).push (aV #[.pointer (some A)] 90)).push (aV #[n0] 323))) (h.size+2)=none:=by rw[aK.one_ne zaa,aK.one_ne zaa];exact Z.fresh zaa
 have a:((I.one h.size (((h.push (aV #[aB m] 426)).push (aV #[.pointer (some A)] 90)).push (aV #[n0] 323))).one (h.size+1) (((h.push (aV #[aB m] 426)).push (aV #[.pointer (some A)] 90)).push (aV #[n0] 323))) m=none:=by rw[aK.one_ne zaa,aK.one_ne zaa];exact y
 have d:blk (((h.push (aV #[aB m] 426)).push (aV #[.pointer (some A)] 90)).push (aV #[n0] 323)) (h.size+2)=aE #[n0] 323:=Bk;have f:(((h.push (aV #[aB m] 426)).push (aV #[.pointer (some A)] 90)).push (aV #[n0] 323)).size=h.size+3:=zbD;have T:∀V y,aD I h V y->V h.size=aE #[aB m] 426->V (h.size+1)=aE #[.pointer (some A)] 90->V (h.size+2)=none->V m=none->blk y (h.size+2)=aE #[n0] 323->∀R:KV,(∀E U,aC (λ r=>r=m\/r=h.size+2) V y E U->blk U (h.size+2)=aE #[n0] 323->VW E U m->R bt U)->Cf y 477 #[.map H,co n,.func (.func 449) #[] #[aB (h.size+1),aB (h.size+2),aB h.size]] R:=by
  intro V y O c F k Z f R L;have J:=O.sat;have o:=aF f;cases e with
   |none=>obtain⟨W,C,w⟩:=v;cases C;exact l3 J (O.le _ _ w) (L V y (aC.refl J) f ⟨Z,_,O.blk M id,rfl⟩)
   |some j=>obtain⟨W,z,C,w,y⟩:=v;cases C;have o:=G j rfl;refine gA (g:=λ r=>r=m\/r=h.size+2) J (a:=z) (O.le _ _ w) (by obtain⟨X,rfl,-⟩:=y;rfl) (λ r Y=>by rcases Y with Y|Y<;>omega) λ J z W H p T Q=>?_;rw[ej NU];have P:=O.trans H;refine Eg (z:=j) H.sat (H.le _ _ F) (H.le _ _ c) (H.blk f id) ((H.dom _ zaa id).trans k) (B.mono P.le) (K.mono P.le) (i.mono P.le) (P.blk M id) ((H.dom _ zaa id).trans Z) rfl u zaa p (y.mono P.le) o.1 o.2 λ F K j h m=>?_;exact Q F K j (L F K ((H.weak λ _ _=>False.elim).trans j) h m)
 refine U1 (rB g.c ?_);refine T _ _ q s x N a d _ λ E U S u e=>rB u.b ?_;rw[eM u rfl];exact L _ _ ((q.weak λ _ _=>False.elim).trans' S λ r Y G=>by
  rcases G with G|G
  ·exact G.symm
  ·exact zaa) e
def Tj:(aM h 430 a 5 225 λ c=>aM h 430 a 0 228 λ d=>Cf h 329 #[c,d] λ c d=>aW c λ c e=>bx d 109 e ni (Cf d 194 #[(aU ⟨#[101,114,114,111,114]⟩)] λ a b=>R a b) (ce d 343 c ni (R n0 d) (aM d 430 a 5 225 λ e=>Nc e<|Cf d 446 #[a,b,c] λ a b=>Dg b (cH e c) λ b=>R a b)))->Cf h 443 #[a,b] R:=mS Tryz.func443 PK
def Up:(Bx h 317 a λ a b=>Bd b 430 #[] λ c=>Bx b 430 c λ b c=>Fa c 317 a 0 λ d=>Ld c 228 d λ d=>bC c 430 b 0 228 d λ c=>Fa c 317 a 2 λ d=>Ld c 86 d λ d=>bC c 430 b 1 86 d λ c=>Fa c 317 a 1 λ a=>Ld c 95 a λ a=>bC c 430 b 2 95 a λ a=>bC a 430 b 3 4 bf λ a=>Lp (∃c:V0,(∀a,c a->(R b a))/\(aM a 430 b 5 225 λ d=>ce a 225 d ni (Cf a 118 #[] λ a d=>bC d 430 b 5 225 a λ a=>c a) (c a))))->Cf h 225 #[a] R:=mS Tryz.func225 (Z (Z (Z (Z (Z (Z qU))))))
def G6:eT:=(Z L)
def Ck(R:KV)(a:Value)(h:Heap):Prop:=bC h 430 a 1 86 nilp λ b=>Bd b 95 #[] λ c=>bC b 430 a 2 95 c λ a=>R (.tuple #[]) a
def Vs:(Bx h 317 a λ a c=>Ld c 317 a λ a=>Cf c 225 #[a] λ a c=>Ln c 246 b λ d=>Lp (∃(e:V1)(f:N1),e i0 c/\∀c g,e c g->(bv g .lss 3 c d (Lp (∃d:V0,(∀a,d a->(Bi a .add 3 c i1 λ b=>(e b a/\f b a<f c g)))/\(Ia g 246 b c λ b=>Ld g 247 b λ b=>ce g 247 b i0 (bC g 430 a 3 4 bt λ a=>d a) (d g)))) (Cf g 227 #[a,nf] λ b c=>Ln c 323 b λ d=>bx c 3 d i0 (Mi c 323 b λ b=>Dg c {target:=.fn (.func 226) #[],args:=#[]++#[a]} λ a=>R b a) (Dg c {target:=.fn (.func 226) #[],args:=#[]++#[a]} λ a=>R ni a)))))->Cf h 185 #[a,b] R:=mS Tryz.func185 (Z (Z (Q (Z (B (O [13] (Z (Q d8 (Y [] (B (Z (Z (B cF)))) L)))))) wa)))
theorem mI.mono(O:I.le J)(B:mI I a):mI J a:=by obtain⟨r,rfl,u⟩:=B;exact⟨r,rfl,O _ _ u⟩
theorem kP.mono(O:I.le J){c:Option bn}(B:kP I a c):kP J a c:=by cases c with|none=>exact mI.mono O B|some H=>exact dM.mono O B
def vP(c:Option bn):Prop:=∀H,c=some H->H.Nodup/\H.length<2147483646
theorem vp(Z:aN I h){t:Option bn}(Y:eO I A)(M:blk h m=aE (fA a d x false nilp (co n)).toArray 430)(G:I m=none)(Q:x.length=6)(X:∀S∈fA a d x false nilp (co n),aG S=true)(p:PV I a b)(v:kP I b t)(l:vP t)(L:∀V U,aC (Eq m) I h V U->VW V U m->R n0 U):Cf h 443 #[aB m,.pointer (some A)] R:=by
 obtain⟨e,O,P,r,q,D,rfl⟩:=jI Q;have g:blk h m=aE #[a,d,e,O,P,r,q,D,bf,nilp,co n] 430:=M;obtain⟨x,rfl⟩:∃x,b=.iface 242 (.map x):=by
  cases t with
   |none=>obtain⟨W,C,-⟩:=v;exact⟨_,C⟩
   |some H=>obtain⟨W,b,C,-⟩:=v;exact⟨_,C⟩
 obtain⟨q,B,q,B,w,i,-⟩:=Y;refine Tj (rB g.c ?_);refine lx Z p λ y T=>?_;have Z:=T.sat;have a:=T.blk g id;refine rB a.c ?_;refine qG (e:=t) Z (B.mono T.le) (w.mono T.le) (i.mono T.le) (T.blk M id) ((T.dom _ (aF M) id).trans G) rfl X (v.mono T.le) l λ V N H e=>?_;refine cG ?_;exact L V N ((T.weak λ _ _=>False.elim).trans H) e
theorem zG(Z:aN I h){t:Option bn}(s:dr I d A)(D:cU I bT ⟨o,0,none⟩)(M:blk h m=aE (fA a d (dc o) false nilp (co n)).toArray 430)(G:I m=none)(p:PV I a b)(v:kP I b t)(r:vP t)(L:∀V U,aC (Eq m) I h V U->VW V U m->R n0 U):Cf h 227 #[aB m,nf] R:=by
 have w:jW I a:=by
  cases t with
   |none=>obtain⟨W,rfl,-⟩:=v;exact .inr ⟨_,.map,p⟩
   |some H=>obtain⟨W,b,rfl,-⟩:=v;exact .inr ⟨_,.map,p⟩
 have x:aG a=true:=zav;have F:aG d=true:=zbc;have Y:eO I A:=zaN;refine lE Z M (kB s D) w λ N P=>rA ?_;refine vp (t:=t) P.sat (Y.mono P.le) (P.blk M id) ((P.dom _ (aF M) id).trans G) rfl ?_ (p.mono P.le) (v.mono P.le) r λ V K r e=>?_
 ·intro S O;simp only[fA,dc,List.cons_append,List.nil_append,List.mem_cons]at O;rcases O with rfl|rfl|rfl|rfl|rfl|rfl|rfl|rfl|rfl|rfl|rfl|O<;>first|exact x|exact F|rfl|cases O
 ·refine fT ?_;exact L V K ((P.weak λ _ _=>False.elim).trans r) e
theorem sP{T:aK}{O:Heap}(Z:aN T O)(x:aG a=true)(F:aG b=true)(L:∀E w U,aD T O T U->O.size<=E->blk U E=aE (fA a b (dc m) false nilp (co w)).toArray 430->R (aB E) U):Cf O 225 #[.agg (a::dc m++[b]).toArray] R:=by
 apply Up;try simp(disch:=omega)only[go_sem,↓reduceIte,dc,x,F]
 refine⟨_,λ _ W=>W,?_⟩;try simp(disch:=omega)only[go_sem,↓reduceIte,dc,x,F]
 refine dZ (I:=T) (aC.sat (D:=none_) (I:=T) (h:=O) (aP Z)) λ w N S=>?_;have j:blk N (O.size+1)=aE #[a,b,aB m,nilp,nilp,nilp,nilp,bf,bf,nilp,ni] 430:=S.blk Bk id;have E:aD T O T N:=aC.trans (aP Z) S;have u:=aF j;refine rB j.b ?_;refine L _ w _ (aC.put E (.inl zaa) (Z.fresh zaa)) zaa ?_;rw[bO,if_pos rfl,j];rfl
theorem AV:vV Tryz.f226=true:=zag
theorem H0:pJ Tryz.f226 G6 R [a] h=Ck R a h:=zag
theorem HY{T:Heap->Prop}(Y:Ck (λ _ U=>T U) a h):Dg h {target:=.fn (.func 226) #[],args:=#[]++#[a]} T:=by intro E M;refine⟨_,_,226,#[a],rfl,?_,En (x:=[a]) (R:=λ _ U=>T U) Tryz.func226 G6 AV H0 Y E M⟩;exact e9 zag _ E
theorem qE{T:aK}{O:Heap}(Z:aN T O){J N:Value}{r:Option bn}(f:dr T N A)(P:cU T bT ⟨t,0,none⟩)(p:PV T J a)(l:kP T a r)(G:vP r)(L:∀V U,aD T O V U->R ni U):Cf O 185 #[.agg (J::dc t++[N]).toArray,n0] R:=by
 have x:aG J=true:=zav;have F:aG N=true:=by obtain⟨u,C,o,rfl,-⟩:=f;rfl
 apply Vs;try simp(disch:=omega)only[go_sem,↓reduceIte,dc,x,F]
 refine sP (m:=t) (a:=J) (b:=N) (T:=T) (aC.sat (D:=none_) (I:=T) (h:=O) (aP Z)) x F λ E w y n k j=>?_;have z:aD T O T y:=aC.trans (aP Z) n;(try simp only[bJ]at k);refine rA ?_;refine⟨λ J U=>J=i0/\U=y,λ _ _=>0,⟨rfl,rfl⟩,λ m K M=>?_⟩;obtain⟨rfl,rfl⟩:=M;refine rA ?_;refine zG (t:=r) z.sat (f.mono z.le) (P.mono z.le) j (Z.fresh zaa) (p.mono z.le) (l.mono z.le) G λ V t q e=>?_;have S:aD T O V t:=z.trans' q λ r Y G=>cW (aF j);refine rA ?_;refine HY ?_;unfold Ck;obtain⟨C,H,b,U⟩:=e;obtain⟨f,o,g,e,z,a,N,O,K,d,w,i⟩:=y9 (x:=H.toList) (bS U);have l:blk t E=aE #[f,o,g,e,z,a,N,O,K,d,w] 430:=by rw[b];congr 2;exact Array.toList_inj.1 i
 refine rB l.b ?_;refine L V _ ?_;repeat'(first|with_reducible exact S|with_reducible refine aC.put ?_ (Or.inl zaa) C)
def RP:(Bx h 95 c λ c e=>Ld e 95 c λ c=>Bd e 317 #[(0,a),(1,c),(2,b)] λ a=>Bx e 317 a λ a b=>Nc a<|Ld b 317 a λ c=>Cf b 185 #[c,d] λ b c=>bx c 109 b ni (R (bj nilp b) c) (R (bj a ni) c))->Cf h 129 #[a,b,c,d] R:=mS Tryz.func129 (Z wa)
def WP:(Bx h 95 b λ b e=>Lp (∃f:V1,(∀d e,f d e->(Ld e 95 b λ f=>Cf e 130 #[c] λ c e=>bh e 95 b f/\(Cf e 129 #[c,a,f,d] λ a b=>aW a λ a c=>Eb b .eql 109 false true c ni λ c=>R (bj a c) b)))/\(Cd d (Bs e 246 1 #[(0,i0)] λ a b=>Ap b 246 n0 a λ a b=>f a b) (f n0 e))))->Cf h 81 #[a,b,c,d] R:=mS Tryz.func81 (Z (Z (Y [10] cF (Q (X #[0,1,0,0,0,31,63,127,127,255,1023]) (Q (X #[0,0,2,1,15]) L)))))
def V9:(Bx h 95 b λ b e=>Bx e 35 c λ c e=>Ld e 95 b λ f=>Ld e 35 c λ c=>Cf e 79 #[c] λ c e=>bh e 95 b f/\(Cf e 81 #[a,f,c,d] λ a b=>aW a λ a c=>R (bj a c) b))->Cf h 39 #[a,b,c,d] R:=mS Tryz.func39 (Z (Q (X #[0,0,0,4,0,31,63,63,255,511]) L))
def TV(T:aK)(w J A:Value)(t:Nat):Prop:=∃b e,w=aB b/\T b=aE (J::dc t++[A]).toArray e
theorem TV.mono(O:I.le J)(B:TV I a b c m):TV J a b c m:=zcG
theorem rX(Z:aN I h){t:Option bn}(s:dr I e A)(D:cU I bT ⟨m,0,none⟩)(p:PV I a d)(v:kP I d t)(G:vP t)(L:∀w V U,aD I h V U->TV V w a e m->R (bj w ni) U):Cf h 129 #[a,e,.agg (dc m).toArray,n0] R:=by
 have x:aG a=true:=zav;have F:aG e=true:=zbc;apply RP;try simp(disch:=omega)only[go_sem,↓reduceIte,dc,x,F]
 have n:aD I h I ((h.push (aV #[aB m,nilp,nilp,nilp,nilp,bf] 95)).push (aV #[a,aB m,nilp,nilp,nilp,nilp,bf,e] 317)):=aP Z;have O:=n.one (b:=h.size+1) zaa;have ev:(I.one (h.size+1) ((h.push (aV #[aB m,nilp,nilp,nilp,nilp,bf] 95)).push (aV #[a,aB m,nilp,nilp,nilp,nilp,bf,e] 317))) (h.size+1)=aE #[a,aB m,nilp,nilp,nilp,nilp,bf,e] 317:=aK.one_eq Bk;have f:TV _ (aB (h.size+1)) a e m:=⟨_,_,rfl,ev⟩;refine qE (r:=t) O.1.sat (s.mono O.1.le) (D.mono O.1.le) (p.mono O.1.le) (v.mono O.1.le) G λ V t q=>rA ?_;exact L _ V t (O.1.trans q) (f.mono q.le)
theorem mv{T:aK}{O:Heap}(Z:aN T O){K:Option bn}(s:dr T b A)(q:cU T bT ⟨t,0,none⟩)(v:kP T a K)(G:vP K)(L:∀w J V U,aD T O V U->TV V w J b t->PV V J a->R (bj w bt) U):Cf O 81 #[b,.agg (dc t).toArray,a,bf] R:=by
 have E:aG a=true:=by
  cases K with
   |none=>obtain⟨W,rfl,-⟩:=v;rfl
   |some H=>obtain⟨W,a,rfl,-⟩:=v;rfl
 apply WP;try simp(disch:=omega)only[go_sem,↓reduceIte,dc]
 refine⟨_,λ _ _ W=>W,?_⟩;try simp(disch:=omega)only[go_sem,↓reduceIte,dc]
 refine gn (I:=T) (aC.sat (D:=none_) (I:=T) (h:=O) (aP Z)) E λ J V y S p=>?_;have E:aD T O V y:=aC.trans (aP Z) S;have j:blk y O.size=aE #[aB t,nilp,nilp,nilp,nilp,bf] 95:=S.blk Bk id;refine rB j.c ?_;refine rX (t:=K) (m:=t) E.sat (s.mono E.le) (q.mono E.le) p (v.mono E.le) G λ w k N P f=>rA ?_;exact L w J k N (E.trans P) f (p.mono P.le)
theorem yY{T:aK}{O:Heap}(Z:aN T O)(s:dr T b A)(W:cU T bT ⟨t,0,none⟩)(i:d6 T a z)(n:z.Nodup/\z.length<2147483646)(L:∀w J G V U,aD T O V U->TV V w J b t->PV V J G->dM V G z->R (bj w bt) U):Cf O 39 #[b,.agg (dc t).toArray,a,bf] R:=by
 have r:=i;obtain⟨K,p,q,rfl,Y,P,-⟩:=i;have K:=Y.one;have o:=P.one;apply V9;try simp(disch:=omega)only[go_sem,↓reduceIte,dc]
 refine qI (I:=T) (aC.sat (D:=none_) (I:=T) (h:=O) (aP Z)) r λ G V y S l=>?_;have E:aD T O V y:=aC.trans (aP Z) S;have j:blk y O.size=aE #[aB t,nilp,nilp,nilp,nilp,bf] 95:=S.blk Bk id;refine rB j.c ?_;refine mv (K:=some z) (t:=t) E.sat (s.mono E.le) (W.mono E.le) l (λ y C=>by cases C;exact n) λ w J k N P f i=>rA ?_;exact L w J G k N (E.trans P) f i (l.mono P.le)
abbrev _root_.Go.Value.bl(J:Value):cK:=J.ownBlock.toList
theorem mem_bl:m∈a.bl↔a.ownBlock=some m:=by simp[Go.Value.bl]
abbrev aY(w:Nat)(X i:Value)(y:cK):cK:=w::(X.bl++(i.bl++y))
theorem aQ.lt(B:aQ m I h n o a l x)(z:t∈a.bl):m<=t/\t<h.size:=B.1.block (mem_bl.1 z)
structure MS(T L E size base:Nat)(I:aK)(h:Heap)(w w3 sb:Nat)(x pv:Value)(ws:cK)(n:Nat)(rows:bW):Prop where
 sp:eC T L E size base I h sb x ws
 po:aQ base I h 369 4 pv n rows
 nd:(w::w3::aY sb x pv ws).Nodup
 wI:I w=none
 w3I:I w3=none
 w3b:base<=w3
def MQ(t L b s W:Nat)(T:aK)(h:Heap)(E w:Nat)(X i:Value)(y:cK)(a:Value):Prop:=(a=nilp/\w=E/\X=ni/\y=[]/\E∉i.bl)\/(a=aB w/\eC t L b s W T h w X y/\(y=[]\/∃S,y=[S])/\(E::aY w X i y).Nodup)
theorem eC.lts{L:Nat}(B:eC m L n o l I h t a K):t<h.size/\(∀k∈a.bl,k<h.size)/\(∀k∈K,k<h.size):=⟨aF B.bk,λ _ Y=>(B.own.lt Y).2,λ k Y=>by obtain⟨⟨H,w,-⟩,-⟩:=B.each k Y;exact aF w⟩
theorem xk{L:Nat}(B:MQ m L n o l I h t u a b K c)(H:aQ l I h 369 4 b v x)(P:t<h.size):∀k∈aY u a b K,k<h.size:=by
 intro k Y;simp only[aY,List.mem_cons,List.mem_append]at Y;rcases B with⟨-,rfl,rfl,rfl,-⟩|⟨-,d,-,-⟩
 ·rcases Y with rfl|Y|Y|Y
  ·exact P
  ·cases Y
  ·exact(H.lt Y).2
  ·cases Y
 ·obtain⟨Q,e,F⟩:=d.lts;rcases Y with rfl|Y|Y|Y
  ·exact Q
  ·exact e k Y
  ·exact(H.lt Y).2
  ·exact F k Y
theorem f3(O:(K++(a.bl++N)).Nodup)(B:b.ownBlock=a.ownBlock\/∃g,b.ownBlock=some g/\(∀k∈K,k<g)/\∀k∈N,k<g):(K++(b.bl++N)).Nodup:=by
 rcases B with B|⟨g,B,K,t⟩
 ·unfold Go.Value.bl at O⊢;rw[B];exact O
 ·unfold Go.Value.bl;rw[B];obtain⟨f,i,d⟩:=List.nodup_append.1 O;obtain⟨x,H,J⟩:=List.nodup_append.1 i;refine List.nodup_append.2 ⟨f,List.nodup_append.2 ⟨zab,H,?_⟩,?_⟩
  ·intro B Y u j C;simp at Y;have:=t u j;exact zaa
  ·intro B Y u j C;rcases List.mem_append.1 j with j|j
   ·simp at j;have:=K B Y;exact zaa
   ·exact d B Y u (List.mem_append.2 (.inr j)) C
theorem fU(O:(m::n::aY o a b K).Nodup):m≠n/\m≠o/\n≠o/\(m∉a.bl/\n∉a.bl/\o∉a.bl)/\(m∉b.bl/\n∉b.bl/\o∉b.bl)/\(∀k∈a.bl,k∉b.bl)/\(∀k∈K,k≠m/\k≠n/\k≠o/\k∉a.bl/\k∉b.bl):=by simp only[aY,List.nodup_cons,List.mem_cons,List.mem_append,not_or,List.nodup_append]at O;obtain⟨⟨e,i,d,N,X⟩,⟨x,H,J,E⟩,⟨w,F,m⟩,V,⟨A,z,c⟩,f⟩:=O;refine⟨e,i,x,⟨d,H,w⟩,⟨N,J,F⟩,λ k Y h=>f k Y k (.inl h) rfl,λ k Y=>⟨λ C=>X (C▸Y),λ C=>E (C▸Y),λ C=>m (C▸Y),λ i=>f k i k (.inr Y) rfl,λ e=>c k e k Y rfl⟩⟩
theorem ED(O:(m::aY n a b K).Nodup):m≠n/\(m∉a.bl/\n∉a.bl)/\(m∉b.bl/\n∉b.bl)/\(∀k∈a.bl,k∉b.bl)/\(∀k∈K,k≠m/\k≠n/\k∉a.bl/\k∉b.bl):=by simp only[aY,List.nodup_cons,List.mem_cons,List.mem_append,not_or,List.nodup_append]at O;obtain⟨⟨i,d,N,X⟩,⟨w,F,m⟩,V,⟨A,z,c⟩,f⟩:=O;refine⟨i,⟨d,w⟩,⟨N,F⟩,λ k Y h=>f k Y k (.inl h) rfl,λ k Y=>⟨λ C=>X (C▸Y),λ C=>m (C▸Y),λ i=>f k i k (.inr Y) rfl,λ e=>c k e k Y rfl⟩⟩
theorem eu:m∈aY m a b K:=by simp[aY]
theorem eZ(O:n∈a.bl):n∈aY m a b K:=by simp only[aY,List.mem_cons,List.mem_append];exact .inr (.inl O)
theorem eU(O:n∈b.bl):n∈aY m a b K:=by simp only[aY,List.mem_cons,List.mem_append];exact .inr (.inr (.inl O))
theorem gx(O:n∈K):n∈aY m a b K:=by simp only[aY,List.mem_cons,List.mem_append];exact .inr (.inr (.inr O))
theorem m8(O:n∈m::a.bl):n∈aY m a b K:=by
 rcases List.mem_cons.1 O with rfl|O
 ·exact eu
 ·exact eZ O
theorem pd(O:(m::K).Nodup)(N:∀k∈m::K,k<n):(m::n::K).Nodup:=by
 obtain⟨B,u⟩:=List.nodup_cons.1 O;refine List.nodup_cons.2 ⟨λ F=>?_,List.nodup_cons.2 ⟨λ F=>?_,u⟩⟩
 ·rcases List.mem_cons.1 F with C|C
  ·have:=N m zab;exact zaa
  ·exact B C
 ·have:=N n (by simp[F]);exact zaa
theorem hu(O:(m::aY o a b [n]).Nodup):(m::n::aY o a b []).Nodup:=by
 have C:aY o a b [n]=aY o a b []++[n]:=by simp[aY]
 rw[C]at O;exact((List.perm_append_singleton n (aY o a b [])).cons m).nodup_iff.1 O
structure MT(T L E size base:Nat)(I:aK)(h:Heap)(w sb:Nat)(x pv:Value)(ws:cK)(n:Nat)(rows:bW):Prop where
 sp:eC T L E size base I h sb x ws
 po:aQ base I h 369 4 pv n rows
 nd:(w::aY sb x pv ws).Nodup
 wI:I w=none
theorem m6(O:(m::n::aY o a b K).Nodup):(m::aY o a b (K++[n])).Nodup:=by
 have C:aY o a b (K++[n])=aY o a b K++[n]:=by simp[aY]
 rw[C];exact((List.perm_append_singleton n (aY o a b K)).cons m).nodup_iff.2 O
theorem gj{D:Int}{r:IntKind}{T:Value->Prop}(K:0<=D/\D<=n):Sl h 252 (bq o l m n) none (some (.int r D)) none T=T (bq o l D.toNat n):=iW Tryz.underlying252 yz K
end Go.Proofs.YtgmgmmoofjikiaaGreat
